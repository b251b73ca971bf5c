import JvmDerived
import JvmDerived.Pilot.@@N@@Statement
import JvmDerived.Pilot.@@N@@Code
set_option linter.unusedVariables false
set_option linter.unusedSimpArgs false
/- laws to paste: Road.backV, Road.lenW, Road.chN (cut by pick.py; bodies as the Statement names them) -/
namespace Jvm.Pilot.@@N@@
namespace StrChars
open Jvm Sem ClassFile Op Lib Jvm.Stand Jvm.Free.XT Jvm.Free.ALB Jvm.Free.JM Jvm.Free
open Jvm.Lib.Cold (StaticIs)
/-- a char array whose places are chars -/
def Ch (a : Addr) (A : Cell) (U : State) : Prop := Arr .char a A U ∧ Typed .char A
theorem Ch.mv {a : Addr} {A : Cell} {U U' : State} (h : Ch a A U) (hal : U.vm.Alike U'.vm) (hh : U'.heap = U.heap) : Ch a A U' := ⟨h.1.mv hal hh, h.2⟩
theorem Ch.keep {a : Addr} {A : Cell} {U U' : State} (h : Ch a A U) (hal : U.vm.Alike U'.vm) (hk : U'.heap[a]? = some A) : Ch a A U' := ⟨h.1.keep hal hk, h.2⟩
/-- what place i of a char[]'s cell holds -/
def cv (A : Cell) (i : Nat) : Int32 := match A.slots[i]? with | some (.int x) => x | _ => 0
theorem Ch.get {a : Addr} {A : Cell} {U : State} (h : Ch a A U) {i : Nat} (hi : i < A.slots.size) : A.slots[i]? = some (.int (cv A i)) := by
  have e := Array.getElem?_eq_getElem hi
  have f := h.2 i _ e
  unfold cv; rw [e]
  generalize A.slots[i] = v at f
  cases v <;> simp [fits] at f ⊢
/-- the byte that i2b leaves of a char -/
def lo8 (x : Int32) : Int32 := x.toInt8.toInt32
theorem fits_lo8 (y : Int32) : fits .byte (.int (lo8 y)) = true := by
  have h1 := y.toInt8.le_toInt
  have h2 := y.toInt8.toInt_lt
  simp only [lo8, fits, Bool.and_eq_true, decide_eq_true_eq, Int32.le_iff_toInt_le, Int8.toInt_toInt32, show (-128 : Int32).toInt = -128 from by decide, show (127 : Int32).toInt = 127 from by decide]
  omega
/-- A' is A but that each place j of lo .. hi - 1 holds f j -/
def Laid (A A' : Cell) (lo hi : Nat) (f : Nat → Value) : Prop := A'.cls = A.cls ∧ A'.vm = A.vm ∧ A'.slots.size = A.slots.size ∧ ∀ i, A'.slots[i]? = if lo ≤ i ∧ i < hi then some (f i) else A.slots[i]?
theorem Laid.zero (A : Cell) (lo : Nat) (f : Nat → Value) : Laid A A lo (lo + 0) f := ⟨rfl, rfl, rfl, fun i => by rw [if_neg (by omega)]⟩
theorem Laid.step {A Ak : Cell} {lo k : Nat} {f : Nat → Value} {v : Value} (h : Laid A Ak lo k f) (hlo : lo ≤ k) (hk : k < Ak.slots.size) (hv : v = f k) : Laid A (Ak.setSlot k v) lo (k + 1) f := by
  refine ⟨h.1, h.2.1, by simpa [Cell.setSlot] using h.2.2.1, fun i => ?_⟩
  by_cases e : k = i
  · subst e; rw [Cell.slots_setSlot_self v hk, if_pos (by omega), hv]
  · rw [Cell.slots_setSlot_ne v e, h.2.2.2 i]
    by_cases q : lo ≤ i ∧ i < k
    · rw [if_pos q, if_pos (by omega)]
    · rw [if_neg q, if_neg (by omega)]
def U16 : String := "java/lang/StringUTF16"
namespace Cmp5
def yN : MethodName := ⟨"java/lang/StringUTF16", "compress", "([CI[BII)I"⟩
abbrev yB : ByteArray := jdk_52_method_21_code
theorem d0 : decode yB 0 = .ok (.iconst 0, 1) := by decide +kernel
theorem d1 : decode yB 1 = .ok (.istore 5, 2) := by decide +kernel
theorem d3 : decode yB 3 = .ok (.iload 5, 2) := by decide +kernel
theorem d5 : decode yB 5 = .ok (.iload 4, 2) := by decide +kernel
theorem d7 : decode yB 7 = .ok (.if_icmp (.ge) 37, 3) := by decide +kernel
theorem d10 : decode yB 10 = .ok (.aload_n 0, 1) := by decide +kernel
theorem d11 : decode yB 11 = .ok (.iload_n 1, 1) := by decide +kernel
theorem d12 : decode yB 12 = .ok (.caload, 1) := by decide +kernel
theorem d13 : decode yB 13 = .ok (.istore 6, 2) := by decide +kernel
theorem d15 : decode yB 15 = .ok (.iload 6, 2) := by decide +kernel
theorem d17 : decode yB 17 = .ok (.sipush 255, 3) := by decide +kernel
theorem d20 : decode yB 20 = .ok (.if_icmp (.le) 6, 3) := by decide +kernel
theorem d26 : decode yB 26 = .ok (.aload_n 2, 1) := by decide +kernel
theorem d27 : decode yB 27 = .ok (.iload_n 3, 1) := by decide +kernel
theorem d28 : decode yB 28 = .ok (.iload 6, 2) := by decide +kernel
theorem d30 : decode yB 30 = .ok (.i2b, 1) := by decide +kernel
theorem d31 : decode yB 31 = .ok (.bastore, 1) := by decide +kernel
theorem d32 : decode yB 32 = .ok (.iinc 1 1, 3) := by decide +kernel
theorem d35 : decode yB 35 = .ok (.iinc 3 1, 3) := by decide +kernel
theorem d38 : decode yB 38 = .ok (.iinc 5 1, 3) := by decide +kernel
theorem d41 : decode yB 41 = .ok (.goto (-38), 3) := by decide +kernel
theorem d44 : decode yB 44 = .ok (.iload 4, 2) := by decide +kernel
theorem d46 : decode yB 46 = .ok (.ireturn, 1) := by decide +kernel
def site : List Cond := []
def tab : Cond := tabOf yN yB 7 (some .int) site
def P (b : Addr) (A : Cell) (d : Addr) (B : Cell) (o q len : Nat) (args : Array Value) (s : State) : Prop := args = #[.ref b, .int (Int32.ofNat o), .ref d, .int (Int32.ofNat q), .int (Int32.ofNat len)] ∧ Ch b A s ∧ Arr .byte d B s ∧ b ≠ d ∧ o + len ≤ A.slots.size ∧ q + len ≤ B.slots.size ∧ ∀ i, i < len → ¬ 255 < cv A (o + i)
def E (b : Addr) (A : Cell) (d : Addr) (B : Cell) (o q len : Nat) (r : Option Value) (s u : State) : Prop := r = some (.int (Int32.ofNat len)) ∧ ∃ B', Put d B' s u ∧ Laid B B' q (q + len) (fun j => Value.int (lo8 (cv A (o + (j - q)))))
/-- no char of the range above 255: len; the places written hold each char's low byte -/
theorem law (l : Launch) (b : Addr) (A : Cell) (d : Addr) (B : Cell) (o q len : Nat) : Law l yN 5 5 0 0 yB 7 (some .int) site (P b A d B o q len) (E b A d B o q len) (copyLocs d q len) 0 0 := by
  refine Law.of_walk (plainFor_of_name (by decide +kernel)) (by decide +kernel) (by decide +kernel) (by decide) (fun _ _ h => by rw [h.1]; rfl) (fun _ U U' hal hh h => ⟨h.1, h.2.1.mv hal hh, h.2.2.1.mv hal hh, h.2.2.2⟩) (fun r U U' V V' h1 hal h2 h => ⟨h.1, h.2.elim fun B' q => ⟨B', q.1.mv h1 h2, q.2⟩⟩) ?_
  intro p e s m args below meth c s₁ X0 hexec hbytes hml hret hlk hnm hown hh0 W hP
  obtain ⟨rfl, hA, hB, hne, l1, l2, hp⟩ := hP
  have c1 : Steps p.tables e below (s₁.setTop (entryFrame m #[.ref b, .int (Int32.ofNat o), .ref d, .int (Int32.ofNat q), .int (Int32.ofNat len)] 7)) (s₁.setTop (mkF m 0 #[.val (.ref b), .val (.int (Int32.ofNat o)), .val (.ref d), .val (.int (Int32.ofNat q)), .val (.int (Int32.ofNat len)), .unset, .unset] [])) := entry rfl
  have hA0 := hA.1.mv X0.warmed.alike hh0
  have hB0 := hB.mv X0.warmed.alike hh0
  have a31 := hA.1.2.2.2
  have c2 : Steps p.tables e below (s₁.setTop (entryFrame m #[.ref b, .int (Int32.ofNat o), .ref d, .int (Int32.ofNat q), .int (Int32.ofNat len)] 7)) (s₁.setTop (mkF m 3 #[.val (.ref b), .val (.int (Int32.ofNat o)), .val (.ref d), .val (.int (Int32.ofNat q)), .val (.int (Int32.ofNat len)), .val (.int 0), .unset] [])) := c1.trans (by
    refine iconstV X0.here hexec rfl 0 (hb hbytes d0) (by decide) ?_
    refine XS.istore X0.here hexec rfl (hb hbytes d1) rfl rfl ?_
    exact Steps.refl _)
  have loop : ∀ (r i : Nat), i + r = len → ∀ (z : Slot), (z = .unset ∨ ∃ w, z = .val w ∧ w.category = 1) → ∀ (Tl : State) (Bk : Cell), Stand p l e { frames := 0, locals := 0, cells := 0, slots := 0 } s m #[.ref b, .int (Int32.ofNat o), .ref d, .int (Int32.ofNat q), .int (Int32.ofNat len)] below meth c Tl ([] ++ copyLocs d q i) 0 0 → Put d Bk s₁ Tl → Laid B Bk q (q + i) (fun j => Value.int (lo8 (cv A (o + (j - q))))) →
      Steps p.tables e below (s₁.setTop (entryFrame m #[.ref b, .int (Int32.ofNat o), .ref d, .int (Int32.ofNat q), .int (Int32.ofNat len)] 7)) (Tl.setTop (mkF m 3 #[.val (.ref b), .val (.int (Int32.ofNat (o + i))), .val (.ref d), .val (.int (Int32.ofNat (q + i))), .val (.int (Int32.ofNat len)), .val (.int (Int32.ofNat i)), z] [])) → ∃ (T' : State) (B' : Cell) (z' : Slot), Stand p l e { frames := 0, locals := 0, cells := 0, slots := 0 } s m #[.ref b, .int (Int32.ofNat o), .ref d, .int (Int32.ofNat q), .int (Int32.ofNat len)] below meth c T' ([] ++ copyLocs d q len) 0 0 ∧ Put d B' s₁ T' ∧ Laid B B' q (q + len) (fun j => Value.int (lo8 (cv A (o + (j - q))))) ∧
      Steps p.tables e below (s₁.setTop (entryFrame m #[.ref b, .int (Int32.ofNat o), .ref d, .int (Int32.ofNat q), .int (Int32.ofNat len)] 7)) (T'.setTop (mkF m 3 #[.val (.ref b), .val (.int (Int32.ofNat (o + len))), .val (.ref d), .val (.int (Int32.ofNat (q + len))), .val (.int (Int32.ofNat len)), .val (.int (Int32.ofNat len)), z'] [])) := by
    intro r
    induction r with
    | zero =>
      intro i hi z hz Tl Bk Xl pl fl cl
      have hil : i = len := by omega
      rw [hil] at Xl fl cl
      exact ⟨Tl, Bk, z, Xl, pl, fl, cl⟩
    | succ r ih =>
      intro i hi z hz Tl Bk Xl pl fl cl
      have all := X0.warmed.alike.symm.trans Xl.warmed.alike
      have hAl := hA0.keep all (pl.other hne hA0.1)
      have hBk := hB0.like all pl.1 fl.1 fl.2.1 fl.2.2.1
      have hlt : q + i < Bk.slots.size := by rw [fl.2.2.1]; omega
      have c3 : Steps p.tables e below (s₁.setTop (entryFrame m #[.ref b, .int (Int32.ofNat o), .ref d, .int (Int32.ofNat q), .int (Int32.ofNat len)] 7)) (Tl.setTop (mkF m 12 #[.val (.ref b), .val (.int (Int32.ofNat (o + i))), .val (.ref d), .val (.int (Int32.ofNat (q + i))), .val (.int (Int32.ofNat len)), .val (.int (Int32.ofNat i)), z] [.int (Int32.ofNat (o + i)), .ref b])) := cl.trans (by
        refine XS.iload Xl.here hexec rfl (hb hbytes d3) rfl ?_
        refine XS.iload Xl.here hexec rfl (hb hbytes d5) rfl ?_
        refine XS.icmpNo Xl.here hexec rfl (hb hbytes d7) rfl (ii_ge_f (lt32 (by omega) (by omega))) ?_
        refine XS.aloadN Xl.here hexec rfl (hb hbytes d10) rfl rfl ?_
        refine XS.iloadN Xl.here hexec rfl (hb hbytes d11) rfl ?_
        exact Steps.refl _)
      have c4 : Steps p.tables e below (s₁.setTop (entryFrame m #[.ref b, .int (Int32.ofNat o), .ref d, .int (Int32.ofNat q), .int (Int32.ofNat len)] 7)) (Tl.setTop (mkF m 13 #[.val (.ref b), .val (.int (Int32.ofNat (o + i))), .val (.ref d), .val (.int (Int32.ofNat (q + i))), .val (.int (Int32.ofNat len)), .val (.int (Int32.ofNat i)), z] [.int (cv A (o + i))])) := c3.trans (by
        refine Xl.aget hexec hAl rfl (hA.get (i := o + i) (by omega)) rfl rfl (hb hbytes d12) ?_
        exact Steps.refl _)
      have c5 : Steps p.tables e below (s₁.setTop (entryFrame m #[.ref b, .int (Int32.ofNat o), .ref d, .int (Int32.ofNat q), .int (Int32.ofNat len)] 7)) (Tl.setTop (mkF m 15 #[.val (.ref b), .val (.int (Int32.ofNat (o + i))), .val (.ref d), .val (.int (Int32.ofNat (q + i))), .val (.int (Int32.ofNat len)), .val (.int (Int32.ofNat i)), .val (.int (cv A (o + i)))] [])) := c4.trans (by
        refine XS.istoreS Xl.here hexec rfl (hb hbytes d13) rfl rfl hz ?_
        exact Steps.refl _)
      have c6 : Steps p.tables e below (s₁.setTop (entryFrame m #[.ref b, .int (Int32.ofNat o), .ref d, .int (Int32.ofNat q), .int (Int32.ofNat len)] 7)) (Tl.setTop (mkF m 31 #[.val (.ref b), .val (.int (Int32.ofNat (o + i))), .val (.ref d), .val (.int (Int32.ofNat (q + i))), .val (.int (Int32.ofNat len)), .val (.int (Int32.ofNat i)), .val (.int (cv A (o + i)))] [.int (lo8 (cv A (o + i))), .int (Int32.ofNat (q + i)), .ref d])) := c5.trans (by
        refine XS.iload Xl.here hexec rfl (hb hbytes d15) rfl ?_
        refine sipushV Xl.here hexec rfl 255 (hb hbytes d17) (by decide) ?_
        refine XS.icmpYes Xl.here hexec rfl (pc0 := 20) rfl (hb hbytes d20) rfl (ii_le_t (hp i (by omega))) (by decide) rfl ?_
        refine XS.aloadN Xl.here hexec rfl (hb hbytes d26) rfl rfl ?_
        refine XS.iloadN Xl.here hexec rfl (hb hbytes d27) rfl ?_
        refine XS.iload Xl.here hexec rfl (hb hbytes d28) rfl ?_
        refine i2b Xl.here hexec rfl (hb hbytes d30) rfl ?_
        exact Steps.refl _)
      obtain ⟨T7, X7, p7, st7⟩ := Xl.aput hexec hBk rfl hlt rfl (fits_lo8 (cv A (o + i))) (g := (mkF m 31 #[.val (.ref b), .val (.int (Int32.ofNat (o + i))), .val (.ref d), .val (.int (Int32.ofNat (q + i))), .val (.int (Int32.ofNat len)), .val (.int (Int32.ofNat i)), .val (.int (cv A (o + i)))] [.int (lo8 (cv A (o + i))), .int (Int32.ofNat (q + i)), .ref d])) rfl (rest := []) rfl (hb hbytes d31)
      have c8 : Steps p.tables e below (s₁.setTop (entryFrame m #[.ref b, .int (Int32.ofNat o), .ref d, .int (Int32.ofNat q), .int (Int32.ofNat len)] 7)) (T7.setTop (mkF m 32 #[.val (.ref b), .val (.int (Int32.ofNat (o + i))), .val (.ref d), .val (.int (Int32.ofNat (q + i))), .val (.int (Int32.ofNat len)), .val (.int (Int32.ofNat i)), .val (.int (cv A (o + i)))] [])) := c6.trans (st7 _ (Steps.refl _))
      have c9 : Steps p.tables e below (s₁.setTop (entryFrame m #[.ref b, .int (Int32.ofNat o), .ref d, .int (Int32.ofNat q), .int (Int32.ofNat len)] 7)) (T7.setTop (mkF m 3 #[.val (.ref b), .val (.int (Int32.ofNat (o + i) + 1)), .val (.ref d), .val (.int (Int32.ofNat (q + i) + 1)), .val (.int (Int32.ofNat len)), .val (.int (Int32.ofNat i + 1)), .val (.int (cv A (o + i)))] [])) := c8.trans (by
        refine iincV X7.here hexec rfl 1 (hb hbytes d32) (by decide) rfl rfl ?_
        refine iincV X7.here hexec rfl 1 (hb hbytes d35) (by decide) rfl rfl ?_
        refine iincV X7.here hexec rfl 1 (hb hbytes d38) (by decide) rfl rfl ?_
        refine XS.goto X7.here hexec rfl (pc0 := 41) rfl (hb hbytes d41) (by decide) rfl ?_
        exact Steps.refl _)
      have c10 : Steps p.tables e below (s₁.setTop (entryFrame m #[.ref b, .int (Int32.ofNat o), .ref d, .int (Int32.ofNat q), .int (Int32.ofNat len)] 7)) (T7.setTop (mkF m 3 #[.val (.ref b), .val (.int (Int32.ofNat (o + (i + 1)))), .val (.ref d), .val (.int (Int32.ofNat (q + (i + 1)))), .val (.int (Int32.ofNat len)), .val (.int (Int32.ofNat (i + 1))), .val (.int (cv A (o + i)))] [])) := by
        have := c9
        rw [succ32, succ32, succ32] at this
        exact this
      exact ih (i + 1) (by omega) _ (Or.inr ⟨_, rfl, rfl⟩) T7 _ (by rw [copyLocs_step, ← List.append_assoc]; exact X7) (pl.trans p7) (fl.step (by omega) hlt (by simp)) c10
  obtain ⟨T9, B9, z9, X9, p9, f9, g9⟩ := loop len 0 (by omega) .unset (Or.inl rfl) s₁ B (by simpa [copyLocs] using X0) ⟨hB0.1, fun _ _ => rfl, rfl⟩ (Laid.zero _ _ _) c2
  have c11 : Steps p.tables e below (s₁.setTop (entryFrame m #[.ref b, .int (Int32.ofNat o), .ref d, .int (Int32.ofNat q), .int (Int32.ofNat len)] 7)) (T9.setTop (mkF m 46 #[.val (.ref b), .val (.int (Int32.ofNat (o + len))), .val (.ref d), .val (.int (Int32.ofNat (q + len))), .val (.int (Int32.ofNat len)), .val (.int (Int32.ofNat len)), z9] [.int (Int32.ofNat len)])) := g9.trans (by
    refine XS.iload X9.here hexec rfl (hb hbytes d3) rfl ?_
    refine XS.iload X9.here hexec rfl (hb hbytes d5) rfl ?_
    refine XS.icmpYes X9.here hexec rfl (pc0 := 7) rfl (hb hbytes d7) rfl (ii_ge_t (nlt32 (by omega) (Nat.le_refl _))) (by decide) rfl ?_
    refine XS.iload X9.here hexec rfl (hb hbytes d44) rfl ?_
    exact Steps.refl _)
  exact ⟨T9, some (.int (Int32.ofNat len)), _, _, _, X9, by simp, rfl, rfl, (fun h => by cases h), ⟨rfl, B9, p9.from hh0, f9⟩, fun fs hl => c11.trans (X9.ireturnOut hexec hret rfl (Or.inl rfl) (hb hbytes d46) hl)⟩
end Cmp5
namespace Cmp3
def yN : MethodName := ⟨"java/lang/StringUTF16", "compress", "([CII)[B"⟩
abbrev yB : ByteArray := jdk_52_method_16_code
theorem d0 : decode yB 0 = .ok (.iload_n 2, 1) := by decide +kernel
theorem d1 : decode yB 1 = .ok (.newarray .byte, 2) := by decide +kernel
theorem d3 : decode yB 3 = .ok (.astore_n 3, 1) := by decide +kernel
theorem d4 : decode yB 4 = .ok (.aload_n 0, 1) := by decide +kernel
theorem d5 : decode yB 5 = .ok (.iload_n 1, 1) := by decide +kernel
theorem d6 : decode yB 6 = .ok (.aload_n 3, 1) := by decide +kernel
theorem d7 : decode yB 7 = .ok (.iconst 0, 1) := by decide +kernel
theorem d8 : decode yB 8 = .ok (.iload_n 2, 1) := by decide +kernel
theorem d9 : decode yB 9 = .ok (.invokestatic 115, 3) := by decide +kernel
theorem d12 : decode yB 12 = .ok (.istore 4, 2) := by decide +kernel
theorem d14 : decode yB 14 = .ok (.iload 4, 2) := by decide +kernel
theorem d16 : decode yB 16 = .ok (.iload_n 2, 1) := by decide +kernel
theorem d17 : decode yB 17 = .ok (.if_icmp (.eq) 40, 3) := by decide +kernel
theorem d57 : decode yB 57 = .ok (.aload_n 3, 1) := by decide +kernel
theorem d58 : decode yB 58 = .ok (.areturn, 1) := by decide +kernel
def site : List Cond := [.arrayClass .byte, Cmp5.tab] ++ staticW U16 115 Cmp5.yN
def tab : Cond := tabOf yN yB 6 (some (.array .byte)) site
def P (b : Addr) (A : Cell) (o len : Nat) (args : Array Value) (s : State) : Prop := args = #[.ref b, .int (Int32.ofNat o), .int (Int32.ofNat len)] ∧ Ch b A s ∧ o + len ≤ A.slots.size ∧ len ≤ 536870912 ∧ ∀ i, i < len → ¬ 255 < cv A (o + i)
def E (b : Addr) (A : Cell) (o len : Nat) (r : Option Value) (s u : State) : Prop := NewArr .byte "[B" len (fun j => .int (lo8 (cv A (o + j)))) r s u ∧ u.heap.size = s.heap.size + 1
/-- no char of the range above 255: a new byte[] of their low bytes -/
theorem law (l : Launch) (b : Addr) (A : Cell) (o len : Nat) : Law l yN 3 3 1 18 yB 6 (some (.array .byte)) site (P b A o len) (E b A o len) [] 1 len := by
  refine Law.of_walk (plainFor_of_name (by decide +kernel)) (by decide +kernel) (by decide +kernel) (by decide) (fun _ _ h => by rw [h.1]; rfl) (fun _ U U' hal hh h => ⟨h.1, h.2.1.mv hal hh, h.2.2⟩) (fun r U U' V V' h1 hal h2 h => ⟨NewArr.mv r U U' V V' h1 hal h2 h.1, by rw [h1, h2]; exact h.2⟩) ?_
  intro p e s m args below meth c s₁ X0 hexec hbytes hml hret hlk hnm hown hh0 W hP
  obtain ⟨rfl, hA, l1, l2, hp⟩ := hP
  have a31 := hA.1.2.2.2
  have c1 : Steps p.tables e below (s₁.setTop (entryFrame m #[.ref b, .int (Int32.ofNat o), .int (Int32.ofNat len)] 6)) (s₁.setTop (mkF m 0 #[.val (.ref b), .val (.int (Int32.ofNat o)), .val (.int (Int32.ofNat len)), .unset, .unset, .unset] [])) := entry rfl
  have c2 : Steps p.tables e below (s₁.setTop (entryFrame m #[.ref b, .int (Int32.ofNat o), .int (Int32.ofNat len)] 6)) (s₁.setTop (mkF m 1 #[.val (.ref b), .val (.int (Int32.ofNat o)), .val (.int (Int32.ofNat len)), .unset, .unset, .unset] [.int (Int32.ofNat len)])) := c1.trans (by
    refine XS.iloadN X0.here hexec rfl (hb hbytes d0) rfl ?_
    exact Steps.refl _)
  obtain ⟨T3, B3, X3, ba3, bs3, bv3, bh3, bf3, st3⟩ := X0.anew hexec (atype := .byte) (wk W (.arrayClass .byte)) rfl (by show len * 1 ≤ _; omega) (by omega) (g := (mkF m 1 #[.val (.ref b), .val (.int (Int32.ofNat o)), .val (.int (Int32.ofNat len)), .unset, .unset, .unset] [.int (Int32.ofNat len)])) rfl (hb hbytes d1) (rest := []) rfl (Nat.le_refl _) (by show 0 + len ≤ len; omega)
  rw [hh0] at ba3 st3
  have kp3 : XT.Kept s T3 := (XT.Kept.of_eq hh0).push bh3
  have hA3 := hA.keep X3.warmed.alike (kp3 _ _ hA.1.1)
  have hne : b ≠ s.heap.size := hA.1.ne
  have c4 : Steps p.tables e below (s₁.setTop (entryFrame m #[.ref b, .int (Int32.ofNat o), .int (Int32.ofNat len)] 6)) (T3.setTop (mkF m 3 #[.val (.ref b), .val (.int (Int32.ofNat o)), .val (.int (Int32.ofNat len)), .unset, .unset, .unset] [.ref s.heap.size])) := c2.trans (st3 _ (Steps.refl _))
  have c5 : Steps p.tables e below (s₁.setTop (entryFrame m #[.ref b, .int (Int32.ofNat o), .int (Int32.ofNat len)] 6)) (T3.setTop (mkF m 9 #[.val (.ref b), .val (.int (Int32.ofNat o)), .val (.int (Int32.ofNat len)), .val (.ref s.heap.size), .unset, .unset] [.int (Int32.ofNat len), .int 0, .ref s.heap.size, .int (Int32.ofNat o), .ref b])) := c4.trans (by
    refine XS.astoreN X3.here hexec rfl (hb hbytes d3) rfl rfl rfl ?_
    refine XS.aloadN X3.here hexec rfl (hb hbytes d4) rfl rfl ?_
    refine XS.iloadN X3.here hexec rfl (hb hbytes d5) rfl ?_
    refine XS.aloadN X3.here hexec rfl (hb hbytes d6) rfl rfl ?_
    refine iconstV X3.here hexec rfl 0 (hb hbytes d7) (by decide) ?_
    refine XS.iloadN X3.here hexec rfl (hb hbytes d8) rfl ?_
    exact Steps.refl _)
  obtain ⟨v6, T6, X6, E6, g6⟩ := X3.callS hexec (Cmp5.law l b A s.heap.size B3 o 0 len) hown (wks W (staticW U16 115 Cmp5.yN)) (wk W Cmp5.tab) (W := 0) (Nat.le_of_ble_eq_true rfl) (Nat.le_of_ble_eq_true rfl) (Nat.le_refl _) (by show 0 + len + 0 ≤ len; omega) (g := (mkF m 9 #[.val (.ref b), .val (.int (Int32.ofNat o)), .val (.int (Int32.ofNat len)), .val (.ref s.heap.size), .unset, .unset] [.int (Int32.ofNat len), .int (Int32.ofNat 0), .ref s.heap.size, .int (Int32.ofNat o), .ref b])) rfl (by rw [hml]; rfl) c5 (argsL := [.ref b, .int (Int32.ofNat o), .ref s.heap.size, .int (Int32.ofNat 0), .int (Int32.ofNat len)]) (rest := []) rfl rfl (by show 2 * 0 + 0 ≤ _; decide) (hb hbytes d9) (⟨rfl, hA3, ba3, hne, l1, by rw [bs3]; simp, hp⟩)
  obtain ⟨rfl, B6, p6, f6⟩ := E6
  have c7 : Steps p.tables e below (s₁.setTop (entryFrame m #[.ref b, .int (Int32.ofNat o), .int (Int32.ofNat len)] 6)) (T6.setTop (mkF m 12 #[.val (.ref b), .val (.int (Int32.ofNat o)), .val (.int (Int32.ofNat len)), .val (.ref s.heap.size), .unset, .unset] [.int (Int32.ofNat len)])) := g6
  have c8 : Steps p.tables e below (s₁.setTop (entryFrame m #[.ref b, .int (Int32.ofNat o), .int (Int32.ofNat len)] 6)) (T6.setTop (mkF m 58 #[.val (.ref b), .val (.int (Int32.ofNat o)), .val (.int (Int32.ofNat len)), .val (.ref s.heap.size), .val (.int (Int32.ofNat len)), .unset] [.ref s.heap.size])) := c7.trans (by
    refine XS.istore X6.here hexec rfl (hb hbytes d12) rfl rfl ?_
    refine XS.iload X6.here hexec rfl (hb hbytes d14) rfl ?_
    refine XS.iloadN X6.here hexec rfl (hb hbytes d16) rfl ?_
    refine XS.icmpYes X6.here hexec rfl (pc0 := 17) rfl (hb hbytes d17) rfl (ii_eq_t rfl) (by decide) rfl ?_
    refine XS.aloadN X6.here hexec rfl (hb hbytes d57) rfl rfl ?_
    exact Steps.refl _)
  have X8 := X6.wide (L' := []) (cells' := 1) (slots' := len) (fun x hx hlt => by
    simp only [List.nil_append, copyLocs, List.mem_map, List.mem_range] at hx
    obtain ⟨i, -, rfl⟩ := hx
    exact absurd hlt (Nat.lt_irrefl _)) (Nat.le_refl _) (by omega)
  exact ⟨T6, some (.ref s.heap.size), _, _, _, X8, rfl, rfl, rfl, (fun h => by cases h), ⟨⟨rfl, B6, ba3.like (X3.warmed.alike.symm.trans X6.warmed.alike) p6.1 f6.1 f6.2.1 f6.2.2.1, f6.2.1.trans bv3, by rw [X6.warmed.alike.findClass, f6.1]; exact bf3, by rw [f6.2.2.1, bs3]; simp, fun j hj => by rw [f6.2.2.2 j, if_pos (by omega)]; rfl, kp3.put p6 (Nat.le_refl _)⟩, by rw [p6.2.2, bh3, hh0]; simp⟩, fun fs hl => c8.trans (X8.areturnOut hexec rfl hret rfl (hb hbytes d58) hl)⟩
end Cmp3
namespace CodL
def yN : MethodName := ⟨"java/lang/StringUTF16", "coderFromArrayLen", "([BI)B"⟩
abbrev yB : ByteArray := jdk_52_method_15_code
theorem d0 : decode yB 0 = .ok (.iload_n 1, 1) := by decide +kernel
theorem d1 : decode yB 1 = .ok (.aload_n 0, 1) := by decide +kernel
theorem d2 : decode yB 2 = .ok (.arraylength, 1) := by decide +kernel
theorem d3 : decode yB 3 = .ok (.isub, 1) := by decide +kernel
theorem d4 : decode yB 4 = .ok (.bipush 31, 2) := by decide +kernel
theorem d6 : decode yB 6 = .ok (.iushr, 1) := by decide +kernel
theorem d7 : decode yB 7 = .ok (.i2b, 1) := by decide +kernel
theorem d8 : decode yB 8 = .ok (.ireturn, 1) := by decide +kernel
def site : List Cond := []
def tab : Cond := tabOf yN yB 2 (some .byte) site
def P (d : Addr) (B : Cell) (args : Array Value) (s : State) : Prop := args = #[.ref d, .int (Int32.ofNat B.slots.size)] ∧ Arr .byte d B s
def E (r : Option Value) (s u : State) : Prop := XT.PureE (some (.int 0)) r s u
/-- an array as long as the number of chars: LATIN1 -/
theorem law (l : Launch) (d : Addr) (B : Cell) : Law l yN 2 2 0 0 yB 2 (some .byte) site (P d B) E [] 0 0 := by
  refine Law.of_walk (plainFor_of_name (by decide +kernel)) (by decide +kernel) (by decide +kernel) (by decide) (fun _ _ h => by rw [h.1]; rfl) (fun _ U U' hal hh h => ⟨h.1, h.2.mv hal hh⟩) (fun r U U' V V' h1 hal h2 h => XT.PureE.mv r U U' V V' h1 hal h2 h) ?_
  intro p e s m args below meth c s₁ X0 hexec hbytes hml hret hlk hnm hown hh0 W hP
  obtain ⟨rfl, hB⟩ := hP
  have hB0 := hB.mv X0.warmed.alike hh0
  have c1 : Steps p.tables e below (s₁.setTop (entryFrame m #[.ref d, .int (Int32.ofNat B.slots.size)] 2)) (s₁.setTop (mkF m 0 #[.val (.ref d), .val (.int (Int32.ofNat B.slots.size))] [])) := entry rfl
  have c2 : Steps p.tables e below (s₁.setTop (entryFrame m #[.ref d, .int (Int32.ofNat B.slots.size)] 2)) (s₁.setTop (mkF m 2 #[.val (.ref d), .val (.int (Int32.ofNat B.slots.size))] [.ref d, .int (Int32.ofNat B.slots.size)])) := c1.trans (by
    refine XS.iloadN X0.here hexec rfl (hb hbytes d0) rfl ?_
    refine XS.aloadN X0.here hexec rfl (hb hbytes d1) rfl rfl ?_
    exact Steps.refl _)
  have c3 : Steps p.tables e below (s₁.setTop (entryFrame m #[.ref d, .int (Int32.ofNat B.slots.size)] 2)) (s₁.setTop (mkF m 8 #[.val (.ref d), .val (.int (Int32.ofNat B.slots.size))] [.int (lo8 (ushr (Int32.ofNat B.slots.size - Int32.ofNat B.slots.size) 31))])) := c2.trans (by
    refine X0.alen hexec hB0 rfl rfl (hb hbytes d2) ?_
    refine XS.isub X0.here hexec rfl (hb hbytes d3) rfl ?_
    refine bipushV X0.here hexec rfl 31 (hb hbytes d4) (by decide) ?_
    refine iushr X0.here hexec rfl (hb hbytes d6) rfl ?_
    refine i2b X0.here hexec rfl (hb hbytes d7) rfl ?_
    exact Steps.refl _)
  have e0 : lo8 (ushr (Int32.ofNat B.slots.size - Int32.ofNat B.slots.size) 31) = 0 := by rw [Int32.sub_self]; decide
  rw [e0] at c3
  exact ⟨s₁, some (.int 0), _, _, _, X0, rfl, rfl, rfl, (fun h => by cases h), ⟨rfl, hh0⟩, fun fs hl => c3.trans (X0.ireturnOut hexec hret rfl (Or.inr (Or.inr (Or.inl rfl))) (hb hbytes d8) hl)⟩
end CodL
/-- the String at a is Latin-1 over a new byte[] (the heap's one new cell): the low bytes of the len chars of A from o on; every cell but a is kept -/
def Got (a : Addr) (D : Cell) (fV fC : Field) (A : Cell) (o len : Nat) (r : Option Value) (s u : State) : Prop := r = none ∧ ∃ D' V : Cell, Blank "java/lang/String" a D' u ∧ Same D D' [fV.slot, fC.slot] ∧ D'.slots[fV.slot]? = some (.ref s.heap.size) ∧ D'.slots[fC.slot]? = some (.int 0) ∧ Arr .byte s.heap.size V u ∧ V.vm = .none ∧ u.vm.findClass "[B" = some V.cls ∧ V.slots.size = len ∧ (∀ j, j < len → V.slots[j]? = some (.int (lo8 (cv A (o + j))))) ∧ (∀ (y : Addr) (c : Cell), y ≠ a → s.heap[y]? = some c → u.heap[y]? = some c) ∧ u.heap.size = s.heap.size + 1
theorem Got.mv {a : Addr} {D A : Cell} {fV fC : Field} {o len : Nat} : ∀ r (U U' V V' : State), U'.heap = U.heap → V.vm.Alike V'.vm → V'.heap = V.heap → Got a D fV fC A o len r U V → Got a D fV fC A o len r U' V' :=
  fun r U U' V V' h1 hal h2 ⟨e0, D', X, a1, a2, a3, a4, a5, a6, a7, a8, a9, a10, a11⟩ => ⟨e0, D', X, a1.mv hal h2, a2, by rw [h1]; exact a3, a4, by rw [h1]; exact a5.mv hal h2, a6, by rw [hal.findClass]; exact a7, a8, a9, by rw [h1, h2]; exact a10, by rw [h1, h2]; exact a11⟩
namespace New4
def yN : MethodName := ⟨"java/lang/String", "<init>", "([CIILjava/lang/Void;)V"⟩
abbrev yB : ByteArray := jdk_42_method_149_code
theorem d0 : decode yB 0 = .ok (.aload_n 0, 1) := by decide +kernel
theorem d1 : decode yB 1 = .ok (.invokespecial 1, 3) := by decide +kernel
theorem d4 : decode yB 4 = .ok (.iload_n 3, 1) := by decide +kernel
theorem d5 : decode yB 5 = .ok (.ifCond (.ne) 22, 3) := by decide +kernel
theorem d27 : decode yB 27 = .ok (.getstatic 38, 3) := by decide +kernel
theorem d30 : decode yB 30 = .ok (.ifCond (.eq) 28, 3) := by decide +kernel
theorem d33 : decode yB 33 = .ok (.aload_n 1, 1) := by decide +kernel
theorem d34 : decode yB 34 = .ok (.iload_n 2, 1) := by decide +kernel
theorem d35 : decode yB 35 = .ok (.iload_n 3, 1) := by decide +kernel
theorem d36 : decode yB 36 = .ok (.invokestatic 177, 3) := by decide +kernel
theorem d39 : decode yB 39 = .ok (.astore 5, 2) := by decide +kernel
theorem d41 : decode yB 41 = .ok (.aload_n 0, 1) := by decide +kernel
theorem d42 : decode yB 42 = .ok (.aload 5, 2) := by decide +kernel
theorem d44 : decode yB 44 = .ok (.iload_n 3, 1) := by decide +kernel
theorem d45 : decode yB 45 = .ok (.invokestatic 47, 3) := by decide +kernel
theorem d48 : decode yB 48 = .ok (.putfield 15, 3) := by decide +kernel
theorem d51 : decode yB 51 = .ok (.aload_n 0, 1) := by decide +kernel
theorem d52 : decode yB 52 = .ok (.aload 5, 2) := by decide +kernel
theorem d54 : decode yB 54 = .ok (.putfield 9, 3) := by decide +kernel
theorem d57 : decode yB 57 = .ok (.return_, 1) := by decide +kernel
def site : List Cond := [.fieldLink "java/lang/String" 38 "java/lang/String" "COMPACT_STRINGS" "Z", Cmp3.tab, CodL.tab, .laysFinal "java/lang/String" "java/lang/String" "value" "[B", .fieldLink "java/lang/String" 9 "java/lang/String" "value" "[B", .laysFinal "java/lang/String" "java/lang/String" "coder" "B", .fieldLink "java/lang/String" 15 "java/lang/String" "coder" "B"] ++ objW "java/lang/String" 1 ++ staticW "java/lang/String" 177 Cmp3.yN ++ staticW "java/lang/String" 47 CodL.yN
def tab : Cond := tabOf yN yB 6 none site
def P (a : Addr) (D : Cell) (fV fC : Field) (b : Addr) (A : Cell) (z : Int32) (o len : Nat) (args : Array Value) (s : State) : Prop := args = #[.ref a, .ref b, .int (Int32.ofNat o), .int (Int32.ofNat len), .null] ∧ Blank "java/lang/String" a D s ∧ Found "java/lang/String" "value" "[B" fV s ∧ Found "java/lang/String" "coder" "B" fC s ∧ Ch b A s ∧ StaticIs s "java/lang/String" "COMPACT_STRINGS" "Z" (.int z) ∧ ¬ z = 0 ∧ 0 < len ∧ o + len ≤ A.slots.size ∧ len ≤ 536870912 ∧ ∀ i, i < len → ¬ 255 < cv A (o + i)
def E (a : Addr) (D : Cell) (fV fC : Field) (A : Cell) (o len : Nat) (r : Option Value) (s u : State) : Prop := Got a D fV fC A o len r s u
/-- len > 0, no char of the range above 255: a Latin-1 String of their low bytes -/
theorem law (l : Launch) (a : Addr) (D : Cell) (fV fC : Field) (b : Addr) (A : Cell) (z : Int32) (o len : Nat) : Law l yN 5 4 2 35 yB 6 none site (P a D fV fC b A z o len) (E a D fV fC A o len) [⟨a, fC.slot⟩, ⟨a, fV.slot⟩] 1 len := by
  refine Law.of_walk (plainFor_of_name (by decide +kernel)) (by decide +kernel) (by decide +kernel) (by decide) (fun _ _ h => by rw [h.1]; rfl) (fun _ U U' hal hh h => ⟨h.1, h.2.1.mv hal hh, h.2.2.1.al hal, h.2.2.2.1.al hal, h.2.2.2.2.1.mv hal hh, h.2.2.2.2.2.1.there hal hh, h.2.2.2.2.2.2⟩) (fun r U U' V V' h1 hal h2 h => Got.mv r U U' V V' h1 hal h2 h) ?_
  intro p e s m args below meth c s₁ X0 hexec hbytes hml hret hlk hnm hown hh0 W hP
  obtain ⟨rfl, hB, f1, f2, hA, s1, hz, l0, l1, l2, hp⟩ := hP
  have a31 := hA.1.2.2.2
  have c1 : Steps p.tables e below (s₁.setTop (entryFrame m #[.ref a, .ref b, .int (Int32.ofNat o), .int (Int32.ofNat len), .null] 6)) (s₁.setTop (mkF m 0 #[.val (.ref a), .val (.ref b), .val (.int (Int32.ofNat o)), .val (.int (Int32.ofNat len)), .val .null, .unset] [])) := entry rfl
  have c2 : Steps p.tables e below (s₁.setTop (entryFrame m #[.ref a, .ref b, .int (Int32.ofNat o), .int (Int32.ofNat len), .null] 6)) (s₁.setTop (mkF m 1 #[.val (.ref a), .val (.ref b), .val (.int (Int32.ofNat o)), .val (.int (Int32.ofNat len)), .val .null, .unset] [.ref a])) := c1.trans (by
    refine XS.aloadN X0.here hexec rfl (hb hbytes d0) rfl rfl ?_
    exact Steps.refl _)
  obtain ⟨T3, X3, q3, st3⟩ := X0.oinit hexec hown (wks W (objW "java/lang/String" 1)) (g := (mkF m 1 #[.val (.ref a), .val (.ref b), .val (.int (Int32.ofNat o)), .val (.int (Int32.ofNat len)), .val .null, .unset] [.ref a])) rfl (by rw [hml]; rfl) (rest := []) rfl (hb hbytes d1) (W := 0) (by show 2 * 0 + 0 ≤ _; decide) (Nat.le_of_ble_eq_true rfl) (Nat.le_of_ble_eq_true rfl)
  have hh3 := q3.trans hh0
  have c4 : Steps p.tables e below (s₁.setTop (entryFrame m #[.ref a, .ref b, .int (Int32.ofNat o), .int (Int32.ofNat len), .null] 6)) (T3.setTop (mkF m 27 #[.val (.ref a), .val (.ref b), .val (.int (Int32.ofNat o)), .val (.int (Int32.ofNat len)), .val .null, .unset] [])) := (c2.trans (st3 _ (Steps.refl _))).trans (by
    refine XS.iloadN X3.here hexec rfl (hb hbytes d4) rfl ?_
    refine XS.ifYes X3.here hexec rfl (pc0 := 5) rfl (hb hbytes d5) rfl (i0_ne_t (nz32 (by omega) l0)) (by decide) rfl ?_
    exact Steps.refl _)
  obtain ⟨T5, X5, q5, st5⟩ := X3.sget hexec hown (wk W (.fieldLink "java/lang/String" 38 "java/lang/String" "COMPACT_STRINGS" "Z")) s1 (fun _ _ h => by rw [hh3]; exact h) (g := (mkF m 27 #[.val (.ref a), .val (.ref b), .val (.int (Int32.ofNat o)), .val (.int (Int32.ofNat len)), .val .null, .unset] [])) rfl (hb hbytes d27)
  have hh5 := q5.trans hh3
  have c6 : Steps p.tables e below (s₁.setTop (entryFrame m #[.ref a, .ref b, .int (Int32.ofNat o), .int (Int32.ofNat len), .null] 6)) (T5.setTop (mkF m 30 #[.val (.ref a), .val (.ref b), .val (.int (Int32.ofNat o)), .val (.int (Int32.ofNat len)), .val .null, .unset] [.int z])) := c4.trans (st5 _ (Steps.refl _))
  have c7 : Steps p.tables e below (s₁.setTop (entryFrame m #[.ref a, .ref b, .int (Int32.ofNat o), .int (Int32.ofNat len), .null] 6)) (T5.setTop (mkF m 36 #[.val (.ref a), .val (.ref b), .val (.int (Int32.ofNat o)), .val (.int (Int32.ofNat len)), .val .null, .unset] [.int (Int32.ofNat len), .int (Int32.ofNat o), .ref b])) := c6.trans (by
    refine XS.ifNo X5.here hexec rfl (hb hbytes d30) rfl (i0_eq_f hz) ?_
    refine XS.aloadN X5.here hexec rfl (hb hbytes d33) rfl rfl ?_
    refine XS.iloadN X5.here hexec rfl (hb hbytes d34) rfl ?_
    refine XS.iloadN X5.here hexec rfl (hb hbytes d35) rfl ?_
    exact Steps.refl _)
  obtain ⟨v8, T8, X8, E8, g8⟩ := X5.callS hexec (Cmp3.law l b A o len) hown (wks W (staticW "java/lang/String" 177 Cmp3.yN)) (wk W Cmp3.tab) (W := 0) (Nat.le_of_ble_eq_true rfl) (Nat.le_of_ble_eq_true rfl) (Nat.le_refl _) (by show 0 + len ≤ len; omega) (g := (mkF m 36 #[.val (.ref a), .val (.ref b), .val (.int (Int32.ofNat o)), .val (.int (Int32.ofNat len)), .val .null, .unset] [.int (Int32.ofNat len), .int (Int32.ofNat o), .ref b])) rfl (by rw [hml]; rfl) c7 (argsL := [.ref b, .int (Int32.ofNat o), .int (Int32.ofNat len)]) (rest := []) rfl rfl (by show 2 * 0 + 0 ≤ _; decide) (hb hbytes d36) (⟨rfl, hA.mv X5.warmed.alike hh5, l1, l2, hp⟩)
  obtain ⟨e8, z8⟩ := E8
  obtain ⟨rfl, N, n1, n2, n3, n4, n5, n6⟩ := NewArr.mv _ T5 s _ _ hh5.symm (Vm.Alike.refl _) rfl e8
  rw [hh5] at z8
  have hB1 := hB.keep X8.warmed.alike (n6 _ _ hB.1)
  have hne : s.heap.size ≠ a := (Nat.ne_of_lt (Array.getElem?_eq_some_iff.mp hB.1).1).symm
  have c9 : Steps p.tables e below (s₁.setTop (entryFrame m #[.ref a, .ref b, .int (Int32.ofNat o), .int (Int32.ofNat len), .null] 6)) (T8.setTop (mkF m 39 #[.val (.ref a), .val (.ref b), .val (.int (Int32.ofNat o)), .val (.int (Int32.ofNat len)), .val .null, .unset] [.ref s.heap.size])) := g8
  have c10 : Steps p.tables e below (s₁.setTop (entryFrame m #[.ref a, .ref b, .int (Int32.ofNat o), .int (Int32.ofNat len), .null] 6)) (T8.setTop (mkF m 45 #[.val (.ref a), .val (.ref b), .val (.int (Int32.ofNat o)), .val (.int (Int32.ofNat len)), .val .null, .val (.ref s.heap.size)] [.int (Int32.ofNat N.slots.size), .ref s.heap.size, .ref a])) := by
    have hc : Steps p.tables e below (s₁.setTop (entryFrame m #[.ref a, .ref b, .int (Int32.ofNat o), .int (Int32.ofNat len), .null] 6)) (T8.setTop (mkF m 45 #[.val (.ref a), .val (.ref b), .val (.int (Int32.ofNat o)), .val (.int (Int32.ofNat len)), .val .null, .val (.ref s.heap.size)] [.int (Int32.ofNat len), .ref s.heap.size, .ref a])) := c9.trans (by
      refine XS.astore X8.here hexec rfl (hb hbytes d39) rfl rfl rfl ?_
      refine XS.aloadN X8.here hexec rfl (hb hbytes d41) rfl rfl ?_
      refine XS.aload X8.here hexec rfl (hb hbytes d42) rfl rfl ?_
      refine XS.iloadN X8.here hexec rfl (hb hbytes d44) rfl ?_
      exact Steps.refl _)
    rw [n4]; exact hc
  obtain ⟨v11, T11, X11, E11, g11⟩ := X8.callS hexec (CodL.law l s.heap.size N) hown (wks W (staticW "java/lang/String" 47 CodL.yN)) (wk W CodL.tab) (W := 1) (Nat.le_of_ble_eq_true rfl) (Nat.le_of_ble_eq_true rfl) (Nat.le_refl _) (by show 0 + len + 0 ≤ len; omega) (g := (mkF m 45 #[.val (.ref a), .val (.ref b), .val (.int (Int32.ofNat o)), .val (.int (Int32.ofNat len)), .val .null, .val (.ref s.heap.size)] [.int (Int32.ofNat N.slots.size), .ref s.heap.size, .ref a])) rfl (by rw [hml]; rfl) c10 (argsL := [.ref s.heap.size, .int (Int32.ofNat N.slots.size)]) (rest := [.ref a]) rfl rfl (by show 2 * 0 + (1 + 0) ≤ _; decide) (hb hbytes d45) (⟨rfl, n1⟩)
  obtain ⟨rfl, q11⟩ := E11
  have hB11 := hB1.mv (X8.warmed.alike.symm.trans X11.warmed.alike) q11
  have c12 : Steps p.tables e below (s₁.setTop (entryFrame m #[.ref a, .ref b, .int (Int32.ofNat o), .int (Int32.ofNat len), .null] 6)) (T11.setTop (mkF m 48 #[.val (.ref a), .val (.ref b), .val (.int (Int32.ofNat o)), .val (.int (Int32.ofNat len)), .val .null, .val (.ref s.heap.size)] [.int 0, .ref a])) := g11
  obtain ⟨T13, X13, p13, bl13, sl13, st13⟩ := X11.finit hexec hown (wk W (.fieldLink "java/lang/String" 15 "java/lang/String" "coder" "B")) (Or.inr ⟨_, (wk W (.laysFinal "java/lang/String" "java/lang/String" "coder" "B"))⟩) (Or.inl ⟨rfl, hnm⟩) f2 (Or.inl rfl) hB11 (t := .byte) (by decide +kernel) rfl (g := (mkF m 48 #[.val (.ref a), .val (.ref b), .val (.int (Int32.ofNat o)), .val (.int (Int32.ofNat len)), .val .null, .val (.ref s.heap.size)] [.int 0, .ref a])) rfl (rest := []) rfl (hb hbytes d48)
  have c14 : Steps p.tables e below (s₁.setTop (entryFrame m #[.ref a, .ref b, .int (Int32.ofNat o), .int (Int32.ofNat len), .null] 6)) (T13.setTop (mkF m 54 #[.val (.ref a), .val (.ref b), .val (.int (Int32.ofNat o)), .val (.int (Int32.ofNat len)), .val .null, .val (.ref s.heap.size)] [.ref s.heap.size, .ref a])) := (c12.trans (st13 _ (Steps.refl _))).trans (by
    refine XS.aloadN X13.here hexec rfl (hb hbytes d51) rfl rfl ?_
    refine XS.aload X13.here hexec rfl (hb hbytes d52) rfl rfl ?_
    exact Steps.refl _)
  obtain ⟨T15, X15, p15, bl15, sl15, st15⟩ := X13.finit hexec hown (wk W (.fieldLink "java/lang/String" 9 "java/lang/String" "value" "[B")) (Or.inr ⟨_, (wk W (.laysFinal "java/lang/String" "java/lang/String" "value" "[B"))⟩) (Or.inl ⟨rfl, hnm⟩) f1 (Or.inl rfl) bl13 (t := (.array .byte)) (by decide +kernel) rfl (g := (mkF m 54 #[.val (.ref a), .val (.ref b), .val (.int (Int32.ofNat o)), .val (.int (Int32.ofNat len)), .val .null, .val (.ref s.heap.size)] [.ref s.heap.size, .ref a])) rfl (rest := []) rfl (hb hbytes d54)
  have c16 : Steps p.tables e below (s₁.setTop (entryFrame m #[.ref a, .ref b, .int (Int32.ofNat o), .int (Int32.ofNat len), .null] 6)) (T15.setTop (mkF m 57 #[.val (.ref a), .val (.ref b), .val (.int (Int32.ofNat o)), .val (.int (Int32.ofNat len)), .val .null, .val (.ref s.heap.size)] [])) := c14.trans (st15 _ (Steps.refl _))
  have ap := apart (Or.inr ⟨_, (wk W (.laysFinal "java/lang/String" "java/lang/String" "value" "[B"))⟩) (Or.inr ⟨_, (wk W (.laysFinal "java/lang/String" "java/lang/String" "coder" "B"))⟩) f1 f2 (t₁ := .array .byte) (t₂ := .byte) (by decide +kernel) (by decide +kernel) (by decide)
  have al := X8.warmed.alike.symm.trans X15.warmed.alike
  have n7 : T11.heap[s.heap.size]? = some N := by rw [q11]; exact n1.1
  exact ⟨T15, none, _, _, _, X15, by simp, rfl, by omega, (fun _ => rfl), ⟨rfl, _, N, bl15, ((Same.refl D _).set _ (by simp)).set _ (by simp), sl15, (Cell.slots_setSlot_ne _ ap).trans sl13, n1.keep al (p15.other hne (p13.other hne n7)), n2, by rw [al.findClass]; exact n3, n4, n5, fun y c h1 h2 => p15.other h1 (p13.other h1 (by rw [q11]; exact n6 y c h2)), by rw [p15.2.2, p13.2.2, q11]; exact z8⟩, fun fs hl => c16.trans (X15.returnOut hexec hret (hb hbytes d57) hl)⟩
end New4
namespace New1
def yN : MethodName := ⟨"java/lang/String", "<init>", "([C)V"⟩
abbrev yB : ByteArray := jdk_42_method_3_code
theorem d0 : decode yB 0 = .ok (.aload_n 0, 1) := by decide +kernel
theorem d1 : decode yB 1 = .ok (.aload_n 1, 1) := by decide +kernel
theorem d2 : decode yB 2 = .ok (.iconst 0, 1) := by decide +kernel
theorem d3 : decode yB 3 = .ok (.aload_n 1, 1) := by decide +kernel
theorem d4 : decode yB 4 = .ok (.arraylength, 1) := by decide +kernel
theorem d5 : decode yB 5 = .ok (.aconst_null, 1) := by decide +kernel
theorem d6 : decode yB 6 = .ok (.invokespecial 27, 3) := by decide +kernel
theorem d9 : decode yB 9 = .ok (.return_, 1) := by decide +kernel
def site : List Cond := [New4.tab] ++ initW "java/lang/String" 27 New4.yN
def tab : Cond := tabOf yN yB 2 none site
def P (a : Addr) (D : Cell) (fV fC : Field) (b : Addr) (A : Cell) (z : Int32) (args : Array Value) (s : State) : Prop := args = #[.ref a, .ref b] ∧ Blank "java/lang/String" a D s ∧ Found "java/lang/String" "value" "[B" fV s ∧ Found "java/lang/String" "coder" "B" fC s ∧ Ch b A s ∧ StaticIs s "java/lang/String" "COMPACT_STRINGS" "Z" (.int z) ∧ ¬ z = 0 ∧ 0 < A.slots.size ∧ A.slots.size ≤ 536870912 ∧ ∀ i, i < A.slots.size → ¬ 255 < cv A i
def E (a : Addr) (D : Cell) (fV fC : Field) (A : Cell) (r : Option Value) (s u : State) : Prop := Got a D fV fC A 0 A.slots.size r s u
/-- new String(chars), not empty, no char above 255: a Latin-1 String of their low bytes -/
theorem law (l : Launch) (a : Addr) (D : Cell) (fV fC : Field) (b : Addr) (A : Cell) (z : Int32) : Law l yN 2 1 3 52 yB 2 none site (P a D fV fC b A z) (E a D fV fC A) [⟨a, fC.slot⟩, ⟨a, fV.slot⟩] 1 A.slots.size := by
  refine Law.of_walk (plainFor_of_name (by decide +kernel)) (by decide +kernel) (by decide +kernel) (by decide) (fun _ _ h => by rw [h.1]; rfl) (fun _ U U' hal hh h => ⟨h.1, h.2.1.mv hal hh, h.2.2.1.al hal, h.2.2.2.1.al hal, h.2.2.2.2.1.mv hal hh, h.2.2.2.2.2.1.there hal hh, h.2.2.2.2.2.2⟩) (fun r U U' V V' h1 hal h2 h => Got.mv r U U' V V' h1 hal h2 h) ?_
  intro p e s m args below meth c s₁ X0 hexec hbytes hml hret hlk hnm hown hh0 W hP
  obtain ⟨rfl, hB, f1, f2, hA, s1, hz, l0, l2, hp⟩ := hP
  have c1 : Steps p.tables e below (s₁.setTop (entryFrame m #[.ref a, .ref b] 2)) (s₁.setTop (mkF m 0 #[.val (.ref a), .val (.ref b)] [])) := entry rfl
  have c2 : Steps p.tables e below (s₁.setTop (entryFrame m #[.ref a, .ref b] 2)) (s₁.setTop (mkF m 6 #[.val (.ref a), .val (.ref b)] [.null, .int (Int32.ofNat A.slots.size), .int 0, .ref b, .ref a])) := c1.trans (by
    refine XS.aloadN X0.here hexec rfl (hb hbytes d0) rfl rfl ?_
    refine XS.aloadN X0.here hexec rfl (hb hbytes d1) rfl rfl ?_
    refine iconstV X0.here hexec rfl 0 (hb hbytes d2) (by decide) ?_
    refine XS.aloadN X0.here hexec rfl (hb hbytes d3) rfl rfl ?_
    refine X0.alen hexec (hA.1.mv X0.warmed.alike hh0) rfl rfl (hb hbytes d4) ?_
    refine XS.aconstNull X0.here hexec rfl (hb hbytes d5) ?_
    exact Steps.refl _)
  obtain ⟨v3, T3, X3, E3, g3⟩ := X0.callN hexec (New4.law l a D fV fC b A z 0 A.slots.size) rfl hown (wks W (initW "java/lang/String" 27 New4.yN)) (W New4.tab (by simp only [site, List.mem_cons, List.mem_append, true_or, or_true])) (W := 0) (Nat.le_of_ble_eq_true rfl) (Nat.le_of_ble_eq_true rfl) (Nat.le_refl _) (by show 0 + A.slots.size ≤ A.slots.size; omega) (g := (mkF m 6 #[.val (.ref a), .val (.ref b)] [.null, .int (Int32.ofNat A.slots.size), .int (Int32.ofNat 0), .ref b, .ref a])) rfl (by rw [hml]; rfl) c2 (argsL := [.ref b, .int (Int32.ofNat 0), .int (Int32.ofNat A.slots.size), .null]) (rest := []) rfl rfl (by show 2 * 0 + 0 ≤ _; decide) (hb hbytes d6) (⟨rfl, hB.mv X0.warmed.alike hh0, f1.al X0.warmed.alike, f2.al X0.warmed.alike, hA.mv X0.warmed.alike hh0, s1.there X0.warmed.alike hh0, hz, l0, by omega, l2, fun i hi => by rw [Nat.zero_add]; exact hp i hi⟩)
  have e0 := Got.mv _ s₁ s _ _ hh0.symm (Vm.Alike.refl _) rfl E3
  obtain rfl := e0.1
  have c4 : Steps p.tables e below (s₁.setTop (entryFrame m #[.ref a, .ref b] 2)) (T3.setTop (mkF m 9 #[.val (.ref a), .val (.ref b)] [])) := g3
  exact ⟨T3, none, _, _, _, X3, by simp, rfl, by omega, (fun _ => rfl), e0, fun fs hl => c4.trans (X3.returnOut hexec hret (hb hbytes d9) hl)⟩
theorem pays {l : Launch} {R : Room} {p : Program} {e : Env} {below : List Frame} {s : State} {sargs : Array Value} {len W : Nat} (a : Addr) (D : Cell) (fV fC : Field) (b : Addr) (A : Cell) (z : Int32) (htab : tab.before sargs s = true) (hfr : 4 ≤ R.frames) (hlo : W + 65 ≤ R.locals) :
    Back l R p e below s sargs yN len W (fun A₁ a₁ => A₁.cells + 1 ≤ R.cells ∧ A₁.slots + A.slots.size ≤ R.slots ∧ P a D fV fC b A z a₁ A₁.U) (fun A₁ _ v₁ B₁ => E a D fV fC A v₁ A₁.U B₁.U ∧ B₁.locs = A₁.locs ++ [⟨a, fC.slot⟩, ⟨a, fV.slot⟩] ∧ B₁.cells = A₁.cells + 1 ∧ B₁.slots = A₁.slots + A.slots.size) :=
  (law l a D fV fC b A z).pays htab hfr (by omega)
end New1
/-- the byte, read back as charAt reads it, is the char -/
theorem lo8_mask {x : Int32} (h0 : ¬ x < 0) (h1 : ¬ 255 < x) : lo8 x &&& 255 = x := by
  have t : ∀ k : Fin 256, lo8 (Int32.ofNat k.val) &&& 255 = Int32.ofNat k.val := by decide +kernel
  rw [Int32.lt_iff_toInt_lt] at h0 h1
  have e0 : (0 : Int32).toInt = 0 := rfl
  have e1 : (255 : Int32).toInt = 255 := rfl
  obtain ⟨k, hk⟩ : ∃ k : Nat, x.toInt = k := ⟨x.toInt.toNat, by omega⟩
  have hx : x = Int32.ofNat k := Int32.toInt_inj.mp (by rw [hk, Int32.toInt_ofNat_small (by omega)])
  rw [hx]
  exact t ⟨k, by omega⟩
end StrChars
namespace StrChars.Road
open Jvm Sem ClassFile Op Lib Jvm.Stand Jvm.Free Jvm.Free.XT
open Jvm.Lib.Cold (StaticIs)
abbrev ST : String := "java/lang/String"
/-- every table word that New1's law asks, flat -/
abbrev words : List Jvm.Cond := [.code New1.yN New1.yB 2 none, .initialized ST, .methodLink ST 27 New4.yN, .instanceMethod New4.yN,
  .code New4.yN New4.yB 6 none, .fieldLink ST 38 ST "COMPACT_STRINGS" "Z", .laysFinal ST ST "value" "[B", .fieldLink ST 9 ST "value" "[B", .laysFinal ST ST "coder" "B", .fieldLink ST 15 ST "coder" "B",
  .methodLink ST 1 Lib.objectInit, .instanceMethod Lib.objectInit, .code Lib.objectInit ⟨#[0xb1]⟩ 1 none, .methodLink ST 177 Cmp3.yN, .static Cmp3.yN, .methodLink ST 47 CodL.yN, .static CodL.yN,
  .code Cmp3.yN Cmp3.yB 6 (some (.array .byte)), .initialized U16, .arrayClass .byte, .methodLink U16 115 Cmp5.yN, .static Cmp5.yN, .code Cmp5.yN Cmp5.yB 7 (some .int), .code CodL.yN CodL.yB 2 (some .byte)]
theorem tab_of {a : Array Value} {s : State} (h : ∀ w ∈ words, w.before a s = true) : New1.tab.before a s = true := by
  have h5 : Cmp5.tab.before a s = true := unparts (wk h (.code Cmp5.yN Cmp5.yB 7 (some .int))) (wks h (.initialized Cmp5.yN.cls :: Cmp5.site))
  have hc : CodL.tab.before a s = true := unparts (wk h (.code CodL.yN CodL.yB 2 (some .byte))) (wks h (.initialized CodL.yN.cls :: CodL.site))
  have q5 : ∀ w ∈ Cmp5.tab :: words, w.before a s = true := fun w hw => (List.mem_cons.mp hw).elim (fun e => e ▸ h5) (h w)
  have h3 : Cmp3.tab.before a s = true := unparts (wk q5 (.code Cmp3.yN Cmp3.yB 6 (some (.array .byte)))) (wks q5 (.initialized Cmp3.yN.cls :: Cmp3.site))
  have q3 : ∀ w ∈ Cmp3.tab :: CodL.tab :: words, w.before a s = true := fun w hw => (List.mem_cons.mp hw).elim (fun e => e ▸ h3) fun hw => (List.mem_cons.mp hw).elim (fun e => e ▸ hc) (h w)
  have h4 : New4.tab.before a s = true := unparts (wk q3 (.code New4.yN New4.yB 6 none)) (wks q3 (.initialized New4.yN.cls :: New4.site))
  have q4 : ∀ w ∈ New4.tab :: words, w.before a s = true := fun w hw => (List.mem_cons.mp hw).elim (fun e => e ▸ h4) (h w)
  exact unparts (wk q4 (.code New1.yN New1.yB 2 none)) (wks q4 (.initialized New1.yN.cls :: New1.site))
/-- the words ride from the start Z to the walk's own state -/
theorem moved {Z s : State} {a0 args : Array Value} (hZ : Z.Warmed39 s.vm) (hw : ∀ d ∈ words, d.before a0 Z = true) : ∀ d ∈ words, d.before args s = true := fun d hd => by
  have q := hw d hd
  have t : ∀ d ∈ words, d = .arrayClass .byte ∨ (d.onTables && d.keepsFace) = true := by decide +kernel
  rcases t d hd with rfl | t
  · exact RoadKit.mvA hZ q
  · exact RoadKit.mv hZ q t
/-- WHAT COMES BACK, over the tables of the start Z: h the heap at the call, h' behind it -/
def Q (Z : State) (x : Addr) (A : Cell) (h : Heap) (v : Option Value) (h' : Heap) (L : List Loc) : Prop := v = none ∧ (∀ y ∈ L, y.base = x) ∧ RoadKit.Keep h h' [x] ∧ h'.size = h.size + 1 ∧ RoadKit.Exa Z h' x ST ∧ RoadKit.Fld Z h' x ST "value" "[B" (.ref h.size) ∧ RoadKit.Fld Z h' x ST "coder" "B" (.int 0) ∧
  (∃ V : Cell, RoadKit.Arr Z h' h.size V .byte ∧ V.vm = .none ∧ Z.vm.findClass "[B" = some V.cls ∧ V.slots.size = A.slots.size ∧ ∀ j, j < A.slots.size → V.slots[j]? = some (.int (lo8 (cv A j)))) ∧
  ∀ (O n d : String) (w : Value), RoadKit.Fld Z h x O n d w → RoadKit.slotOf Z O n d ≠ RoadKit.slotOf Z ST "value" "[B" → RoadKit.slotOf Z O n d ≠ RoadKit.slotOf Z ST "coder" "B" → RoadKit.Fld Z h' x O n d w
/-- **new String(chars) AT A CALL, IN THE ROAD'S FORM**: for specialBack behind newO: x the fresh String, b the char[] with the cell A -/
theorem back {p : Program} {l : Launch} {e : Env} {R : Room} {s : State} {args : Array Value} {below : List Frame} {len W : Nat} {Z : State} {a0 : Array Value} {h : Heap} (hZ : Z.Warmed39 s.vm) (hw : ∀ d ∈ words, d.before a0 Z = true) {kI : Nat} (wi : (Jvm.Cond.instantiable ST kI).before a0 Z = true)
    {x b : Addr} {A : Cell} {z : Int32} {v0 c0 : Value} (E : RoadKit.Exa Z h x ST) (V : RoadKit.Fld Z h x ST "value" "[B" v0) (C : RoadKit.Fld Z h x ST "coder" "B" c0) (K : RoadKit.Arr Z h b A .char) (hty : Typed .char A) (S : RoadKit.Sta Z h ST "COMPACT_STRINGS" "Z" (.int z)) (hz : ¬ z = 0)
    (l0 : 0 < A.slots.size) (l2 : A.slots.size ≤ 536870912) (hp : ∀ i, i < A.slots.size → ¬ 255 < cv A i) (hfr : 4 ≤ R.frames) (hlo : W + 65 ≤ R.locals) :
    Back l R p e below s args New1.yN len W (fun P a => a = #[.ref x, .ref b] ∧ P.U.heap = h ∧ P.cells + 1 ≤ R.cells ∧ P.slots + A.slots.size ≤ R.slots)
      (fun P _ v B => ∃ L, Q Z x A h v B.U.heap L ∧ B.locs = P.locs ++ L ∧ B.cells = P.cells + 1 ∧ B.slots = P.slots + A.slots.size) := by
  intro m meth c P g ig mk a X hg hsize hdg hW hn hp'
  obtain ⟨rfl, rfl, r1, r2⟩ := hp'
  have al : Z.vm.Alike P.U.vm := hZ.alike.trans X.warmed.alike
  obtain ⟨D, cfV, kV, iV, fV, hD, gV, stV, knV, obV, asV, slV⟩ := id V
  obtain ⟨D', cfC, kC, iC, fC, hD', gC, stC, -, -, asC, slC⟩ := id C
  cases hD.symm.trans hD'
  obtain ⟨D2, kD, e1, e2, e3, e4, e5⟩ := id E
  cases hD.symm.trans e1
  obtain ⟨c2, k2, i1, i2, i3, -⟩ := Cond.instantiable_spec wi
  cases e2.symm.trans i1
  cases e3.symm.trans i2
  obtain ⟨kU, u1, u2⟩ := al.2.2 _ _ e3
  have hB : Blank ST x D P.U := ⟨hD, ⟨knV, fun q hq => by rw [hq] at obV; cases obV⟩, by rw [al.findClass]; exact e2, kU, u1, by rw [u2]; exact i3, by rw [u2]; exact e5 i3⟩
  have F1 : Found ST "value" "[B" fV P.U := ⟨SBG.found_only al ⟨cfV, kV, iV, gV⟩, stV⟩
  have F2 : Found ST "coder" "B" fC P.U := ⟨SBG.found_only al ⟨cfC, kC, iC, gC⟩, stC⟩
  have hA : Ch b A P.U := ⟨⟨K.1, State.isArrayOf_alike al K.2.1, K.2.2, by omega⟩, hty⟩
  have hS : StaticIs P.U ST "COMPACT_STRINGS" "Z" (.int z) := by
    obtain ⟨cfS, iS, kS, fS, st, cS, t1, t2, t3, t4, t5, t6, t7⟩ := S
    exact StaticIs.there (s := { Z with heap := P.U.heap }) ⟨cfS, iS, kS, fS, st, cS, t1, t2, t3, t4, t5, (fun q => by rw [q] at t6; cases t6), t7⟩ al rfl
  obtain ⟨v, B, X', ⟨⟨hv, E', V', q1, q2, q3, q4, q5, q6, q7, q8, q9, q10, q11⟩, hl, hc, hs⟩, st⟩ := New1.pays x D fV fC b A z (tab_of (moved hZ hw)) hfr hlo m meth c P g ig mk _ X hg hsize hdg hW hn ⟨r1, r2, rfl, hB, F1, F2, hA, hS, hz, l0, l2, hp⟩
  have al' : Z.vm.Alike B.U.vm := hZ.alike.trans X'.warmed.alike
  have hsz : E'.slots.size = D.slots.size := by
    obtain ⟨-, -, -, kB, w1, w2, w3⟩ := q1
    obtain ⟨kB', y1, y2⟩ := al'.2.2 _ _ e3
    rw [q2.2.1] at w1
    cases w1.symm.trans y1
    rw [w3, e5 i3, y2]
  refine ⟨v, B, X', ⟨_, ⟨hv, ?_, ⟨by omega, fun y cy hy hn' => q10 y cy (by simpa using hn') hy, fun y cy hy => ?_⟩, q11, ⟨E', _, q1.1, by rw [q2.2.1]; exact e2, by rw [q2.2.1]; exact e3, by rw [q2.1]; exact obV, fun _ => by rw [hsz]; exact e5 i3⟩,
    ⟨E', cfV, kV, iV, fV, q1.1, gV, stV, by rw [q2.1]; exact knV, by rw [q2.1]; exact obV, by rw [q2.2.1]; exact asV, q3⟩, ⟨E', cfC, kC, iC, fC, q1.1, gC, stC, by rw [q2.1]; exact knV, by rw [q2.1]; exact obV, by rw [q2.2.1]; exact asC, q4⟩,
    ⟨V', ⟨q5.1, State.isArrayOf_alike al'.symm q5.2.1, q5.2.2.1⟩, q6, by rw [← al'.findClass]; exact q7, q8, fun j hj => by have := q9 j hj; rwa [Nat.zero_add] at this⟩, fun O n d w F n1 n2 => ?_⟩, hl, hc, hs⟩, st⟩
  · intro y hy
    simp only [List.mem_cons, List.not_mem_nil, or_false] at hy
    rcases hy with rfl | rfl <;> rfl
  · by_cases q : y = x
    · subst q
      cases hD.symm.trans hy
      exact ⟨E', q1.1, q2.2.1, q2.1, hsz⟩
    · exact ⟨cy, q10 y cy q hy, rfl, rfl, rfl⟩
  · obtain ⟨D3, cf, k, i, f, g1, g2, g3, g4, g5, g6, g7⟩ := F
    cases hD.symm.trans g1
    simp only [RoadKit.slotOf, g2, gV, gC, Option.map_some, Option.getD_some] at n1 n2
    exact ⟨E', cf, k, i, f, q1.1, g2, g3, by rw [q2.1]; exact g4, by rw [q2.1]; exact g5, by rw [q2.2.1]; exact g6, by rw [q2.2.2 f.slot (by simp [n1, n2])]; exact g7⟩
end StrChars.Road
namespace StrChars.Road
open Jvm Sem ClassFile Op Lib Jvm.Stand Jvm.Free Jvm.Free.XT
/-- WHAT COMES BACK, the byte[] as a list of values -/
def QA (Z : State) (x : Addr) (zn : Int32) (cs : List Int32) (h : Heap) (v : Option Value) (h' : Heap) (L : List Loc) : Prop := v = none ∧ (∀ y ∈ L, y.base = x) ∧ RoadKit.Keep h h' [x] ∧ h'.size = h.size + 1 ∧ RoadKit.Exa Z h' x ST ∧ RoadKit.Fld Z h' x ST "value" "[B" (.ref h.size) ∧ RoadKit.Fld Z h' x ST "coder" "B" (.int 0) ∧
  (∃ kb, Z.vm.findClass "[B" = some kb ∧ RoadKit.Arv Z h' h.size kb .byte zn (cs.map fun c => .int (lo8 c)) (.int 0)) ∧
  ∀ (O n d : String) (w : Value), RoadKit.Fld Z h x O n d w → RoadKit.slotOf Z O n d ≠ RoadKit.slotOf Z ST "value" "[B" → RoadKit.slotOf Z O n d ≠ RoadKit.slotOf Z ST "coder" "B" → RoadKit.Fld Z h' x O n d w
/-- **new String(chars) AT A CALL, THE ARRAYS AS LISTS**: the char[] at b holds cs, not empty, no char above 255 -/
theorem backArv {p : Program} {l : Launch} {e : Env} {R : Room} {s : State} {args : Array Value} {below : List Frame} {len W : Nat} {Z : State} {a0 : Array Value} {h : Heap} (hZ : Z.Warmed39 s.vm) (hw : ∀ d ∈ words, d.before a0 Z = true) {kI : Nat} (wi : (Jvm.Cond.instantiable ST kI).before a0 Z = true)
    {x b : Addr} {k : ClassId} {zn z : Int32} {cs : List Int32} {dv v0 c0 : Value} (E : RoadKit.Exa Z h x ST) (V : RoadKit.Fld Z h x ST "value" "[B" v0) (C : RoadKit.Fld Z h x ST "coder" "B" c0) (K : RoadKit.Arv Z h b k .char zn (cs.map Value.int) dv) (S : RoadKit.Sta Z h ST "COMPACT_STRINGS" "Z" (.int z)) (hz : ¬ z = 0)
    (hlen : zn.toNatClampNeg = cs.length) (h0 : 0 < cs.length) (hbig : cs.length ≤ 536870912) (hall : ∀ c ∈ cs, ¬ 255 < c) (hfr : 4 ≤ R.frames) (hlo : W + 65 ≤ R.locals) :
    Back l R p e below s args New1.yN len W (fun P a => a = #[.ref x, .ref b] ∧ P.U.heap = h ∧ P.cells + 1 ≤ R.cells ∧ P.slots + cs.length ≤ R.slots)
      (fun P _ v B => ∃ L, QA Z x zn cs h v B.U.heap L ∧ B.locs = P.locs ++ L ∧ B.cells = P.cells + 1 ∧ B.slots = P.slots + cs.length) := by
  obtain ⟨A, K1, K2, K3, K4, K5, K6⟩ := K
  have e : A.slots.size = cs.length := K3.trans hlen
  have hat : ∀ (i : Nat) (hi : i < cs.length), A.slots[i]? = some (.int cs[i]) := fun i hi => by rw [K5 i (by omega)]; simp [List.getD_eq_getElem?_getD, hi]
  have hcv : ∀ (i : Nat) (hi : i < cs.length), cv A i = cs[i] := fun i hi => by unfold cv; rw [hat i hi]
  have hty : Typed .char A := fun i v hv => by
    have hi : i < A.slots.size := (Array.getElem?_eq_some_iff.mp hv).1
    have q := K5 i hi
    rw [hv] at q
    rw [Option.some.inj q]
    exact K6 i hi
  refine Back.mono (back hZ hw wi E V C K1 hty S hz (by omega) (by omega) (fun i hi => by rw [hcv i (by omega)]; exact hall _ (List.getElem_mem _)) hfr hlo) (fun P a hp => ⟨hp.1, hp.2.1, hp.2.2.1, by rw [e]; exact hp.2.2.2⟩) (fun P a v B hp hq => ?_)
  obtain ⟨L, ⟨q1, q2, q3, q4, q5, q6, q7, ⟨V', v1, v2, v3, v4, v5⟩, q9⟩, hl, hc, hs⟩ := hq
  refine ⟨L, ⟨q1, q2, q3, q4, q5, q6, q7, ⟨V'.cls, v3, V', v1, rfl, by rw [v4, e, hlen], K4, fun i hi => ?_, fun i hi => ?_⟩, q9⟩, hl, hc, by rw [hs, e]⟩
  · have hi' : i < cs.length := by omega
    rw [v5 i (by omega), hcv i hi']; simp [List.getD_eq_getElem?_getD, hi']
  · have hi' : i < cs.length := by omega
    simp only [List.getD_eq_getElem?_getD, List.getElem?_map, List.getElem?_eq_getElem hi', Option.map_some, Option.getD_some]
    exact fits_lo8 _
end StrChars.Road
namespace StrChars.Road
open Jvm Sem ClassFile Op Lib Jvm.Stand Jvm.Free Jvm.Free.XT
/-- WHAT COMES BACK, in the writer's own shape -/
def QV (Z : State) (x : Addr) (N : Int32) (bs : List Int32) (h : Heap) (n0 : Nat) (v : Option Value) (h' : Heap) (L : List Loc) : Prop := v = none ∧ RoadKit.Fr n0 L ∧ RoadKit.Keep h h' [x] ∧ RoadKit.Exa Z h' x ST ∧ RoadKit.Fld Z h' x ST "coder" "B" (.int 0) ∧
  ∃ (t : Addr) (kb : ClassId), n0 ≤ t ∧ h.size ≤ t ∧ ¬ t = x ∧ RoadKit.Fld Z h' x ST "value" "[B" (.ref t) ∧ RoadKit.Arv Z h' t kb .byte N (bs.map Value.int) (.int 0)
/-- **new String(chars) AT A CALL, FOR THE WRITER**: a char[] of n known ints, each 0 to 255 -/
theorem backV {p : Program} {l : Launch} {e : Env} {R : Room} {s : State} {args : Array Value} {below : List Frame} {len W : Nat} {Z : State} {a0 : Array Value} {h : Heap} (hZ : Z.Warmed39 s.vm) (hw : ∀ d ∈ words, d.before a0 Z = true) {kI : Nat} (wi : (Jvm.Cond.instantiable ST kI).before a0 Z = true)
    {x b : Addr} {kC : ClassId} {cs bs : List Int32} {d v0 c0 : Value} {z N : Int32} {n n0 : Nat} (hx0 : n0 ≤ x) (hh0 : n0 ≤ h.size) (E : RoadKit.Exa Z h x ST) (V : RoadKit.Fld Z h x ST "value" "[B" v0) (C : RoadKit.Fld Z h x ST "coder" "B" c0) (K : RoadKit.Arv Z h b kC .char N (cs.map Value.int) d) (S : RoadKit.Sta Z h ST "COMPACT_STRINGS" "Z" (.int z)) (hz : ¬ z = 0)
    (hn : cs.length = n) (hN : N = Int32.ofNat n) (l0 : 0 < n) (l2 : n ≤ 4000) (hp : ∀ c ∈ cs, ¬ c < 0 ∧ ¬ (255 : Int32) < c) (hb : bs = cs.map (fun c => c.toInt8.toInt32)) (hfr : 4 ≤ R.frames) (hlo : W + 65 ≤ R.locals) :
    Back l R p e below s args (⟨"java/lang/String", "<init>", "([C)V"⟩ : MethodName) len W (fun P a => a = #[.ref x, .ref b] ∧ P.U.heap = h ∧ P.cells + 1 ≤ R.cells ∧ P.slots + n ≤ R.slots)
      (fun P _ v B => ∃ L, QV Z x N bs h n0 v B.U.heap L ∧ B.locs = P.locs ++ L ∧ B.cells = P.cells + 1 ∧ B.slots = P.slots + n) := by
  subst hn hN hb
  refine Back.mono (backArv hZ hw wi E V C K S hz (n32 (by omega)) l0 (by omega) (fun c hc => (hp c hc).2) hfr hlo) (fun P a hp => hp) (fun P a v B hp hq => ?_)
  obtain ⟨L, ⟨q1, q2, q3, q4, q5, q6, q7, ⟨kb, v1, v2⟩, q9⟩, hl, hc, hs⟩ := hq
  exact ⟨L, ⟨q1, fun y hy => by rw [q2 y hy]; exact hx0, q3, q5, q7, h.size, kb, hh0, Nat.le_refl _, Nat.ne_of_gt E.lt, q6, by rw [List.map_map]; exact v2⟩, hl, hc, hs⟩
end StrChars.Road
namespace StrChars
open Jvm Sem ClassFile Op Lib Jvm.Stand Jvm.Free.XT Jvm.Free.ALB Jvm.Free.JM Jvm.Free
open Jvm.Lib.Cold (StaticIs)
def hi8 (x : Int32) : Int32 := lo8 (x >>> ((8 : Int32) &&& 31))
/-- what StringUTF16.getChar makes of two bytes -/
def pairCh (u v : Int32) : Int32 := (((u &&& 255) <<< ((0 : Int32) &&& 31)) ||| ((v &&& 255) <<< ((8 : Int32) &&& 31))).toUInt32.toUInt16.toUInt32.toInt32
theorem shr0 (c : Int32) : c >>> ((0 : Int32) &&& 31) = c := by
  have e : ((0 : Int32) &&& 31) = 0 := by decide
  rw [e]
  apply Int32.toBitVec_inj.mp
  rw [Int32.toBitVec_shiftRight]
  have e1 : ((0 : Int32).toBitVec.smod 32) = 0#32 := by decide
  rw [e1, BitVec.sshiftRight_eq']
  exact BitVec.sshiftRight_zero
theorem lo8_and (x : Int32) : (lo8 x &&& 255).toBitVec.toNat = x.toBitVec.toNat % 256 := by
  have h : (lo8 x).toBitVec = (x.toBitVec.signExtend 8).signExtend 32 := by rw [lo8, Int8.toBitVec_toInt32, Int32.toBitVec_toInt8]
  rw [Int32.toBitVec_and, BitVec.toNat_and, h]
  have e : ((x.toBitVec.signExtend 8).signExtend 32).toNat % 256 = x.toBitVec.toNat % 256 := by
    rw [BitVec.toNat_signExtend]
    have hlt := x.toBitVec.isLt
    simp only [BitVec.toNat_setWidth, BitVec.toNat_signExtend]
    split <;> split <;> omega
  rw [← e]
  exact Nat.and_two_pow_sub_one_eq_mod _ 8
theorem pair_says {c : Int32} (h0 : ¬ c < 0) (h1 : ¬ 65535 < c) : pairCh (lo8 c) (hi8 c) = c := by
  rw [Int32.lt_iff_toInt_lt] at h0 h1
  have e0 : (0 : Int32).toInt = 0 := rfl
  have e1 : (65535 : Int32).toInt = 65535 := rfl
  have hc : c.toInt = c.toBitVec.toNat := by
    have := c.toBitVec.isLt
    have e : c.toInt = c.toBitVec.toInt := rfl
    rw [e] at h0 h1
    rw [e]
    rw [BitVec.toInt_eq_toNat_cond] at h0 h1 ⊢
    split at h0 <;> split <;> omega
  have hn : c.toBitVec.toNat < 65536 := by omega
  have a1 := lo8_and c
  have a2 : (hi8 c &&& 255).toBitVec.toNat = c.toBitVec.toNat / 256 := by
    rw [hi8, lo8_and]
    have e : ((8 : Int32) &&& 31) = 8 := by decide
    rw [e, Int32.toBitVec_shiftRight]
    have e2 : ((8 : Int32).toBitVec.smod 32) = 8#32 := by decide
    rw [e2, BitVec.sshiftRight_eq', BitVec.toNat_sshiftRight_of_msb_false (by rw [BitVec.msb_eq_false_iff_two_mul_lt]; omega)]
    show c.toBitVec.toNat >>> 8 % 256 = _
    rw [Nat.shiftRight_eq_div_pow]
    omega
  unfold pairCh
  apply Int32.toBitVec_inj.mp
  apply BitVec.eq_of_toNat_eq
  have f0 : ((0 : Int32) &&& 31) = 0 := by decide
  have f8 : ((8 : Int32) &&& 31) = 8 := by decide
  rw [f0, f8]
  have g : (((lo8 c &&& 255) <<< (0 : Int32)) ||| ((hi8 c &&& 255) <<< (8 : Int32))).toBitVec.toNat = c.toBitVec.toNat := by
    rw [Int32.toBitVec_or, Int32.toBitVec_shiftLeft, Int32.toBitVec_shiftLeft]
    have s0 : ((0 : Int32).toBitVec.smod 32) = 0#32 := by decide
    have s8 : ((8 : Int32).toBitVec.smod 32) = 8#32 := by decide
    rw [s0, s8, BitVec.toNat_or]
    simp only [BitVec.shiftLeft_eq', BitVec.toNat_shiftLeft, a1, a2]
    show (c.toBitVec.toNat % 256) <<< 0 % 2 ^ 32 ||| (c.toBitVec.toNat / 256) <<< 8 % 2 ^ 32 = _
    rw [Nat.shiftLeft_zero, Nat.mod_eq_of_lt (show c.toBitVec.toNat % 256 < 2 ^ 32 by omega), Nat.mod_eq_of_lt (show (c.toBitVec.toNat / 256) <<< 8 < 2 ^ 32 by rw [Nat.shiftLeft_eq]; omega), Nat.or_comm, ← Nat.shiftLeft_add_eq_or_of_lt (by omega), Nat.shiftLeft_eq]
    omega
  show BitVec.toNat (((((lo8 c &&& 255) <<< (0 : Int32)) ||| ((hi8 c &&& 255) <<< (8 : Int32))).toBitVec.setWidth 16).setWidth 32) = _
  rw [BitVec.toNat_setWidth, BitVec.toNat_setWidth, g]
  omega
end StrChars
namespace StrChars
open Jvm Sem ClassFile Op Lib Jvm.Stand Jvm.Free.XT Jvm.Free.ALB Jvm.Free.JM Jvm.Free
open Jvm.Lib.Cold (StaticIs)
theorem shr1 {n : Nat} (h : 2 * n < 2 ^ 31) : Int32.ofNat (2 * n) >>> ((1 : Int32) &&& 31) = Int32.ofNat n := by
  have e : ((1 : Int32) &&& 31) = 1 := by decide
  rw [e]
  apply Int32.toBitVec_inj.mp
  rw [Int32.toBitVec_shiftRight]
  have e1 : ((1 : Int32).toBitVec.smod 32) = 1#32 := by decide
  have hm : (BitVec.ofNat 32 (2 * n)).toNat = 2 * n := by rw [BitVec.toNat_ofNat, Nat.mod_eq_of_lt (by omega)]
  rw [e1, BitVec.sshiftRight_eq']
  apply BitVec.eq_of_toNat_eq
  show ((BitVec.ofNat 32 (2 * n)).sshiftRight 1).toNat = (BitVec.ofNat 32 n).toNat
  rw [BitVec.toNat_sshiftRight_of_msb_false (by rw [BitVec.msb_eq_false_iff_two_mul_lt, hm]; omega), hm, BitVec.toNat_ofNat, Nat.shiftRight_eq_div_pow]
  omega
/-- charAt's cast of a byte read back -/
def chr8 (u : Int32) : Int32 := (u &&& 255).toUInt32.toUInt16.toUInt32.toInt32
theorem chr8_lo8 {c : Int32} (h0 : ¬ c < 0) (h1 : ¬ 255 < c) : chr8 (lo8 c) = c := by
  have t : ∀ k : Fin 256, (Int32.ofNat k.val).toUInt32.toUInt16.toUInt32.toInt32 = Int32.ofNat k.val := by decide +kernel
  unfold chr8
  rw [lo8_mask h0 h1]
  rw [Int32.lt_iff_toInt_lt] at h0 h1
  have e0 : (0 : Int32).toInt = 0 := rfl
  have e1 : (255 : Int32).toInt = 255 := rfl
  obtain ⟨k, hk⟩ : ∃ k : Nat, c.toInt = k := ⟨c.toInt.toNat, by omega⟩
  have hx : c = Int32.ofNat k := Int32.toInt_inj.mp (by rw [hk, Int32.toInt_ofNat_small (by omega)])
  rw [hx]
  exact t ⟨k, by omega⟩
theorem narrow_ch {c : Int32} (h0 : ¬ c < 0) (h1 : ¬ 65535 < c) : narrow .char (.int c) = .int c := by
  have q : narrow .char (.int (pairCh (lo8 c) (hi8 c))) = .int (pairCh (lo8 c) (hi8 c)) := narrow_c _
  rwa [pair_says h0 h1] at q
/-- the array's cell V codes the n chars f 0 .. f (n - 1) by the coder cd, as the JDK does: coder 1 just where some char is above 255 -/
def Cod (cd : Int32) (n : Nat) (f : Nat → Int32) (V : Cell) : Prop := (cd = 0 ∧ V.slots.size = n ∧ ∀ j, j < n → V.slots[j]? = some (.int (lo8 (f j))) ∧ ¬ 255 < f j) ∨ (cd = 1 ∧ V.slots.size = 2 * n ∧ (∀ j, j < n → V.slots[2 * j]? = some (.int (lo8 (f j))) ∧ V.slots[2 * j + 1]? = some (.int (hi8 (f j)))) ∧ ∃ j, j < n ∧ 255 < f j)
theorem Cod.cd {cd : Int32} {n : Nat} {f : Nat → Int32} {V : Cell} (h : Cod cd n f V) : cd = 0 ∨ cd = 1 := h.imp (fun q => q.1) fun q => q.1
theorem Cod.len {cd : Int32} {n : Nat} {f : Nat → Int32} {V : Cell} (h : Cod cd n f V) (hs : V.slots.size < 2 ^ 31) : Int32.ofNat V.slots.size >>> (cd &&& 31) = Int32.ofNat n := by
  rcases h with ⟨rfl, h, -⟩ | ⟨rfl, h, -⟩
  · rw [shr0, h]
  · rw [h, shr1 (by omega)]
/-- **x is a String of the n chars f 0 .. f (n - 1)**, Latin-1 or UTF-16; its array at t has the cell V -/
def Txt (x t : Addr) (V : Cell) (cd : Int32) (n : Nat) (f : Nat → Int32) (U : State) : Prop := Exact "java/lang/String" x U ∧ Has x "java/lang/String" "value" "[B" (.ref t) U ∧ Has x "java/lang/String" "coder" "B" (.int cd) U ∧ XT.Arr .byte t V U ∧ Cod cd n f V ∧ ∀ j, j < n → ¬ f j < 0 ∧ ¬ 65535 < f j
theorem Txt.mv {x t : Addr} {V : Cell} {cd : Int32} {n : Nat} {f : Nat → Int32} {U U' : State} (h : Txt x t V cd n f U) (hal : U.vm.Alike U'.vm) (hh : U'.heap = U.heap) : Txt x t V cd n f U' := ⟨h.1.mv hal hh, h.2.1.mv hal hh, h.2.2.1.mv hal hh, h.2.2.2.1.mv hal hh, h.2.2.2.2⟩
namespace Cdr
def yN : MethodName := ⟨"java/lang/String", "coder", "()B"⟩
abbrev yB : ByteArray := jdk_42_method_152_code
theorem d0 : decode yB 0 = .ok (.getstatic 38, 3) := by decide +kernel
theorem d3 : decode yB 3 = .ok (.ifCond (.eq) 10, 3) := by decide +kernel
theorem d6 : decode yB 6 = .ok (.aload_n 0, 1) := by decide +kernel
theorem d7 : decode yB 7 = .ok (.getfield 15, 3) := by decide +kernel
theorem d10 : decode yB 10 = .ok (.goto 4, 3) := by decide +kernel
theorem d14 : decode yB 14 = .ok (.ireturn, 1) := by decide +kernel
def site : List Cond := [.fieldLink "java/lang/String" 38 "java/lang/String" "COMPACT_STRINGS" "Z", .fieldLink "java/lang/String" 15 "java/lang/String" "coder" "B"]
def tab : Cond := tabOf yN yB 1 (some .byte) site
def P (x : Addr) (cd z : Int32) (args : Array Value) (s : State) : Prop := args = #[.ref x] ∧ Has x "java/lang/String" "coder" "B" (.int cd) s ∧ (cd = 0 ∨ cd = 1) ∧ StaticIs s "java/lang/String" "COMPACT_STRINGS" "Z" (.int z) ∧ ¬ z = 0
def E (cd : Int32) (r : Option Value) (s u : State) : Prop := XT.PureE (some (.int cd)) r s u
theorem law (l : Launch) (x : Addr) (cd z : Int32) : Law l yN 1 0 0 0 yB 1 (some .byte) site (P x cd z) (E cd) [] 0 0 := by
  refine Law.of_walk (plainFor_of_name (by decide +kernel)) (by decide +kernel) (by decide +kernel) (by decide) (fun _ _ h => by rw [h.1]; rfl) (fun _ U U' hal hh h => ⟨h.1, h.2.1.mv hal hh, h.2.2.1, h.2.2.2.1.there hal hh, h.2.2.2.2⟩) (fun r U U' V V' h1 hal h2 h => XT.PureE.mv r U U' V V' h1 hal h2 h) ?_
  intro p e s m args below meth c s₁ X0 hexec hbytes hml hret hlk hnm hown hh0 W hP
  obtain ⟨rfl, hx, hc, s1, hz⟩ := hP
  have c1 : Steps p.tables e below (s₁.setTop (entryFrame m #[.ref x] 1)) (s₁.setTop (mkF m 0 #[.val (.ref x)] [])) := entry rfl
  obtain ⟨T2, X2, q2, st2⟩ := X0.sget hexec hown (wk W (.fieldLink "java/lang/String" 38 "java/lang/String" "COMPACT_STRINGS" "Z")) s1 (fun _ _ h => by rw [hh0]; exact h) (g := (mkF m 0 #[.val (.ref x)] [])) rfl (hb hbytes d0)
  have hh2 := q2.trans hh0
  have c3 : Steps p.tables e below (s₁.setTop (entryFrame m #[.ref x] 1)) (T2.setTop (mkF m 7 #[.val (.ref x)] [.ref x])) := (c1.trans (st2 _ (Steps.refl _))).trans (by
    refine XS.ifNo X2.here hexec rfl (hb hbytes d3) rfl (i0_eq_f hz) ?_
    refine XS.aloadN X2.here hexec rfl (hb hbytes d6) rfl rfl ?_
    exact Steps.refl _)
  obtain ⟨T4, X4, q4, st4⟩ := X2.hget hexec hown (wk W (.fieldLink "java/lang/String" 15 "java/lang/String" "coder" "B")) (hx.mv X2.warmed.alike hh2) (g := (mkF m 7 #[.val (.ref x)] [.ref x])) rfl (rest := []) rfl (hb hbytes d7)
  have c5 : Steps p.tables e below (s₁.setTop (entryFrame m #[.ref x] 1)) (T4.setTop (mkF m 14 #[.val (.ref x)] [.int cd])) := (c3.trans (st4 _ (Steps.refl _))).trans (by
    refine XS.goto X4.here hexec rfl (pc0 := 10) rfl (hb hbytes d10) (by decide) rfl ?_
    exact Steps.refl _)
  exact ⟨T4, some (.int cd), _, _, _, X4, rfl, rfl, rfl, (fun h => by cases h), ⟨rfl, q4.trans hh2⟩, fun fs hl => c5.trans (X4.ireturnOut hexec hret (by rcases hc with rfl | rfl <;> rfl) (Or.inr (Or.inr (Or.inl rfl))) (hb hbytes d14) hl)⟩
end Cdr
namespace Len
def yN : MethodName := ⟨"java/lang/String", "length", "()I"⟩
abbrev yB : ByteArray := jdk_42_method_54_code
theorem d0 : decode yB 0 = .ok (.aload_n 0, 1) := by decide +kernel
theorem d1 : decode yB 1 = .ok (.getfield 9, 3) := by decide +kernel
theorem d4 : decode yB 4 = .ok (.arraylength, 1) := by decide +kernel
theorem d5 : decode yB 5 = .ok (.aload_n 0, 1) := by decide +kernel
theorem d6 : decode yB 6 = .ok (.invokevirtual 335, 3) := by decide +kernel
theorem d9 : decode yB 9 = .ok (.ishr, 1) := by decide +kernel
theorem d10 : decode yB 10 = .ok (.ireturn, 1) := by decide +kernel
def site : List Cond := [.fieldLink "java/lang/String" 9 "java/lang/String" "value" "[B", Cdr.tab] ++ virtW "java/lang/String" 335 "java/lang/String" Cdr.yN Cdr.yN
def tab : Cond := tabOf yN yB 1 (some .int) site
def P (x t : Addr) (V : Cell) (cd : Int32) (n : Nat) (f : Nat → Int32) (z : Int32) (args : Array Value) (s : State) : Prop := args = #[.ref x] ∧ Txt x t V cd n f s ∧ StaticIs s "java/lang/String" "COMPACT_STRINGS" "Z" (.int z) ∧ ¬ z = 0
def E (n : Nat) (r : Option Value) (s u : State) : Prop := XT.PureE (some (.int (Int32.ofNat n))) r s u
/-- length() of a String of n chars, in either coding -/
theorem law (l : Launch) (x t : Addr) (V : Cell) (cd : Int32) (n : Nat) (f : Nat → Int32) (z : Int32) : Law l yN 1 0 1 13 yB 1 (some .int) site (P x t V cd n f z) (E n) [] 0 0 := by
  refine Law.of_walk (plainFor_of_name (by decide +kernel)) (by decide +kernel) (by decide +kernel) (by decide) (fun _ _ h => by rw [h.1]; rfl) (fun _ U U' hal hh h => ⟨h.1, h.2.1.mv hal hh, h.2.2.1.there hal hh, h.2.2.2⟩) (fun r U U' V V' h1 hal h2 h => XT.PureE.mv r U U' V V' h1 hal h2 h) ?_
  intro p e s m args below meth c s₁ X0 hexec hbytes hml hret hlk hnm hown hh0 W hP
  obtain ⟨rfl, hx, s1, hz⟩ := hP
  have v31 := hx.2.2.2.1.2.2.2
  have c1 : Steps p.tables e below (s₁.setTop (entryFrame m #[.ref x] 1)) (s₁.setTop (mkF m 1 #[.val (.ref x)] [.ref x])) := Steps.trans (entry rfl) (by
    show Steps p.tables e below (s₁.setTop (mkF m 0 #[.val (.ref x)] [])) _
    refine XS.aloadN X0.here hexec rfl (hb hbytes d0) rfl rfl ?_
    exact Steps.refl _)
  obtain ⟨T2, X2, q2, st2⟩ := X0.hget hexec hown (wk W (.fieldLink "java/lang/String" 9 "java/lang/String" "value" "[B")) (hx.mv X0.warmed.alike hh0).2.1 (g := (mkF m 1 #[.val (.ref x)] [.ref x])) rfl (rest := []) rfl (hb hbytes d1)
  have hh2 := q2.trans hh0
  have hx2 := hx.mv X2.warmed.alike hh2
  have c3 : Steps p.tables e below (s₁.setTop (entryFrame m #[.ref x] 1)) (T2.setTop (mkF m 6 #[.val (.ref x)] [.ref x, .int (Int32.ofNat V.slots.size)])) := (c1.trans (st2 _ (Steps.refl _))).trans (by
    refine X2.alen hexec hx2.2.2.2.1 rfl rfl (hb hbytes d4) ?_
    refine XS.aloadN X2.here hexec rfl (hb hbytes d5) rfl rfl ?_
    exact Steps.refl _)
  obtain ⟨v4, T4, X4, E4, g4⟩ := X2.callV hexec (Cdr.law l x cd z) hown (wks W (virtW "java/lang/String" 335 "java/lang/String" Cdr.yN Cdr.yN)) rfl (by decide) (wk W Cdr.tab) (W := 1) (Nat.le_of_ble_eq_true rfl) (Nat.le_of_ble_eq_true rfl) (Nat.le_refl _) (Nat.le_refl _) (hx2.1.fc X2.warmed.alike) hx2.1.is (g := (mkF m 6 #[.val (.ref x)] [.ref x, .int (Int32.ofNat V.slots.size)])) rfl (by rw [hml]; rfl) c3 (argsL := []) (rest := [.int (Int32.ofNat V.slots.size)]) rfl rfl (by show 2 * 0 + (1 + 0) ≤ _; decide) (hb hbytes d6) (⟨rfl, hx2.2.2.1, hx.2.2.2.2.1.cd, s1.there X2.warmed.alike hh2, hz⟩)
  obtain ⟨rfl, q4⟩ := E4
  have c5 : Steps p.tables e below (s₁.setTop (entryFrame m #[.ref x] 1)) (T4.setTop (mkF m 10 #[.val (.ref x)] [.int (Int32.ofNat V.slots.size >>> (cd &&& 31))])) := Steps.trans g4 (by
    refine ishr X4.here hexec rfl (hb hbytes d9) rfl ?_
    exact Steps.refl _)
  rw [hx.2.2.2.2.1.len v31] at c5
  exact ⟨T4, some (.int (Int32.ofNat n)), _, _, _, X4, rfl, rfl, rfl, (fun h => by cases h), ⟨rfl, q4.trans hh2⟩, fun fs hl => c5.trans (X4.ireturnOut hexec hret rfl (Or.inl rfl) (hb hbytes d10) hl)⟩
theorem pays {l : Launch} {R : Room} {p : Program} {e : Env} {below : List Frame} {s : State} {sargs : Array Value} {len W : Nat} (x t : Addr) (V : Cell) (cd : Int32) (n : Nat) (f : Nat → Int32) (z : Int32) (htab : tab.before sargs s = true) (hfr : 2 ≤ R.frames) (hlo : W + 25 ≤ R.locals) :
    Back l R p e below s sargs yN len W (fun A₁ a₁ => A₁.cells + 0 ≤ R.cells ∧ A₁.slots + 0 ≤ R.slots ∧ P x t V cd n f z a₁ A₁.U) (fun A₁ _ v₁ B₁ => E n v₁ A₁.U B₁.U ∧ B₁.locs = A₁.locs ++ [] ∧ B₁.cells = A₁.cells + 0 ∧ B₁.slots = A₁.slots + 0) :=
  (law l x t V cd n f z).pays htab hfr (by omega)
end Len
namespace IsL
def yN : MethodName := ⟨"java/lang/String", "isLatin1", "()Z"⟩
abbrev yB : ByteArray := jdk_42_method_154_code
theorem d0 : decode yB 0 = .ok (.getstatic 38, 3) := by decide +kernel
theorem d3 : decode yB 3 = .ok (.ifCond (.eq) 14, 3) := by decide +kernel
theorem d6 : decode yB 6 = .ok (.aload_n 0, 1) := by decide +kernel
theorem d7 : decode yB 7 = .ok (.getfield 15, 3) := by decide +kernel
theorem d10 : decode yB 10 = .ok (.ifCond (.ne) 7, 3) := by decide +kernel
theorem d13 : decode yB 13 = .ok (.iconst 1, 1) := by decide +kernel
theorem d14 : decode yB 14 = .ok (.goto 4, 3) := by decide +kernel
theorem d17 : decode yB 17 = .ok (.iconst 0, 1) := by decide +kernel
theorem d18 : decode yB 18 = .ok (.ireturn, 1) := by decide +kernel
def site : List Cond := [.fieldLink "java/lang/String" 38 "java/lang/String" "COMPACT_STRINGS" "Z", .fieldLink "java/lang/String" 15 "java/lang/String" "coder" "B"]
def tab : Cond := tabOf yN yB 1 (some .boolean) site
def P (x : Addr) (cd z : Int32) (args : Array Value) (s : State) : Prop := args = #[.ref x] ∧ Has x "java/lang/String" "coder" "B" (.int cd) s ∧ (cd = 0 ∨ cd = 1) ∧ StaticIs s "java/lang/String" "COMPACT_STRINGS" "Z" (.int z) ∧ ¬ z = 0
def E (cd : Int32) (r : Option Value) (s u : State) : Prop := XT.PureE (some (.int (1 - cd))) r s u
theorem law (l : Launch) (x : Addr) (cd z : Int32) : Law l yN 1 0 0 0 yB 1 (some .boolean) site (P x cd z) (E cd) [] 0 0 := by
  refine Law.of_walk (plainFor_of_name (by decide +kernel)) (by decide +kernel) (by decide +kernel) (by decide) (fun _ _ h => by rw [h.1]; rfl) (fun _ U U' hal hh h => ⟨h.1, h.2.1.mv hal hh, h.2.2.1, h.2.2.2.1.there hal hh, h.2.2.2.2⟩) (fun r U U' V V' h1 hal h2 h => XT.PureE.mv r U U' V V' h1 hal h2 h) ?_
  intro p e s m args below meth c s₁ X0 hexec hbytes hml hret hlk hnm hown hh0 W hP
  obtain ⟨rfl, hx, hc, s1, hz⟩ := hP
  have c1 : Steps p.tables e below (s₁.setTop (entryFrame m #[.ref x] 1)) (s₁.setTop (mkF m 0 #[.val (.ref x)] [])) := entry rfl
  obtain ⟨T2, X2, q2, st2⟩ := X0.sget hexec hown (wk W (.fieldLink "java/lang/String" 38 "java/lang/String" "COMPACT_STRINGS" "Z")) s1 (fun _ _ h => by rw [hh0]; exact h) (g := (mkF m 0 #[.val (.ref x)] [])) rfl (hb hbytes d0)
  have hh2 := q2.trans hh0
  have c3 : Steps p.tables e below (s₁.setTop (entryFrame m #[.ref x] 1)) (T2.setTop (mkF m 7 #[.val (.ref x)] [.ref x])) := (c1.trans (st2 _ (Steps.refl _))).trans (by
    refine XS.ifNo X2.here hexec rfl (hb hbytes d3) rfl (i0_eq_f hz) ?_
    refine XS.aloadN X2.here hexec rfl (hb hbytes d6) rfl rfl ?_
    exact Steps.refl _)
  obtain ⟨T4, X4, q4, st4⟩ := X2.hget hexec hown (wk W (.fieldLink "java/lang/String" 15 "java/lang/String" "coder" "B")) (hx.mv X2.warmed.alike hh2) (g := (mkF m 7 #[.val (.ref x)] [.ref x])) rfl (rest := []) rfl (hb hbytes d7)
  have c5 : Steps p.tables e below (s₁.setTop (entryFrame m #[.ref x] 1)) (T4.setTop (mkF m 10 #[.val (.ref x)] [.int cd])) := c3.trans (st4 _ (Steps.refl _))
  have c6 : Steps p.tables e below (s₁.setTop (entryFrame m #[.ref x] 1)) (T4.setTop (mkF m 18 #[.val (.ref x)] [.int (1 - cd)])) := by
    rcases hc with rfl | rfl
    · exact c5.trans (by
        refine XS.ifNo X4.here hexec rfl (hb hbytes d10) rfl (i0_ne_f rfl) ?_
        refine iconstV X4.here hexec rfl 1 (hb hbytes d13) (by decide) ?_
        refine XS.goto X4.here hexec rfl (pc0 := 14) rfl (hb hbytes d14) (by decide) rfl ?_
        exact Steps.refl _)
    · exact c5.trans (by
        refine XS.ifYes X4.here hexec rfl (pc0 := 10) rfl (hb hbytes d10) rfl (i0_ne_t (by decide)) (by decide) rfl ?_
        refine iconstV X4.here hexec rfl 0 (hb hbytes d17) (by decide) ?_
        exact Steps.refl _)
  exact ⟨T4, some (.int (1 - cd)), _, _, _, X4, rfl, rfl, rfl, (fun h => by cases h), ⟨rfl, q4.trans hh2⟩, fun fs hl => c6.trans (X4.ireturnOut hexec hret (by rcases hc with rfl | rfl <;> rfl) (Or.inr (Or.inl rfl)) (hb hbytes d18) hl)⟩
end IsL
namespace LChA
def yN : MethodName := ⟨"java/lang/StringLatin1", "charAt", "([BI)C"⟩
abbrev yB : ByteArray := jdk_43_method_2_code
theorem d0 : decode yB 0 = .ok (.iload_n 1, 1) := by decide +kernel
theorem d1 : decode yB 1 = .ok (.aload_n 0, 1) := by decide +kernel
theorem d2 : decode yB 2 = .ok (.arraylength, 1) := by decide +kernel
theorem d3 : decode yB 3 = .ok (.invokestatic 9, 3) := by decide +kernel
theorem d6 : decode yB 6 = .ok (.aload_n 0, 1) := by decide +kernel
theorem d7 : decode yB 7 = .ok (.iload_n 1, 1) := by decide +kernel
theorem d8 : decode yB 8 = .ok (.baload, 1) := by decide +kernel
theorem d9 : decode yB 9 = .ok (.sipush 255, 3) := by decide +kernel
theorem d12 : decode yB 12 = .ok (.iand, 1) := by decide +kernel
theorem d13 : decode yB 13 = .ok (.i2c, 1) := by decide +kernel
theorem d14 : decode yB 14 = .ok (.ireturn, 1) := by decide +kernel
def site : List Cond := [JO.Str_checkIndex.tab] ++ staticW "java/lang/StringLatin1" 9 JO.Str_checkIndex.yN
def tab : Cond := tabOf yN yB 2 (some .char) site
def P (t : Addr) (V : Cell) (i : Nat) (u : Int32) (fm : Value) (args : Array Value) (s : State) : Prop := args = #[.ref t, .int (Int32.ofNat i)] ∧ XT.Arr .byte t V s ∧ V.slots[i]? = some (.int u) ∧ (StaticIs s "jdk/internal/util/Preconditions" "SIOOBE_FORMATTER" "Ljava/util/function/BiFunction;" fm ∧ fm.isRef = true)
def E (u : Int32) (r : Option Value) (s w : State) : Prop := XT.PureE (some (.int (chr8 u))) r s w
theorem law (l : Launch) (t : Addr) (V : Cell) (i : Nat) (u : Int32) (fm : Value) : Law l yN 2 2 2 27 yB 2 (some .char) site (P t V i u fm) (E u) [] 0 0 := by
  refine Law.of_walk (plainFor_of_name (by decide +kernel)) (by decide +kernel) (by decide +kernel) (by decide) (fun _ _ h => by rw [h.1]; rfl) (fun _ U U' hal hh h => ⟨h.1, h.2.1.mv hal hh, h.2.2.1, h.2.2.2.1.there hal hh, h.2.2.2.2⟩) (fun r U U' V V' h1 hal h2 h => XT.PureE.mv r U U' V V' h1 hal h2 h) ?_
  intro p e s m args below meth c s₁ X0 hexec hbytes hml hret hlk hnm hown hh0 W hP
  obtain ⟨rfl, hV, hu, s1, rf⟩ := hP
  have v31 := hV.2.2.2
  have hi : i < V.slots.size := (Array.getElem?_eq_some_iff.mp hu).1
  have c1 : Steps p.tables e below (s₁.setTop (entryFrame m #[.ref t, .int (Int32.ofNat i)] 2)) (s₁.setTop (mkF m 0 #[.val (.ref t), .val (.int (Int32.ofNat i))] [])) := entry rfl
  have c2 : Steps p.tables e below (s₁.setTop (entryFrame m #[.ref t, .int (Int32.ofNat i)] 2)) (s₁.setTop (mkF m 3 #[.val (.ref t), .val (.int (Int32.ofNat i))] [.int (Int32.ofNat V.slots.size), .int (Int32.ofNat i)])) := c1.trans (by
    refine XS.iloadN X0.here hexec rfl (hb hbytes d0) rfl ?_
    refine XS.aloadN X0.here hexec rfl (hb hbytes d1) rfl rfl ?_
    refine X0.alen hexec (hV.mv X0.warmed.alike hh0) rfl rfl (hb hbytes d2) ?_
    exact Steps.refl _)
  obtain ⟨v3, T3, X3, E3, g3⟩ := X0.callS hexec (JO.Str_checkIndex.law l (Int32.ofNat i) (Int32.ofNat V.slots.size) fm) hown (wks W (staticW "java/lang/StringLatin1" 9 JO.Str_checkIndex.yN)) (wk W JO.Str_checkIndex.tab) (W := 0) (Nat.le_of_ble_eq_true rfl) (Nat.le_of_ble_eq_true rfl) (Nat.le_refl _) (Nat.le_refl _) (g := (mkF m 3 #[.val (.ref t), .val (.int (Int32.ofNat i))] [.int (Int32.ofNat V.slots.size), .int (Int32.ofNat i)])) rfl (by rw [hml]; rfl) c2 (argsL := [.int (Int32.ofNat i), .int (Int32.ofNat V.slots.size)]) (rest := []) rfl rfl (by show 2 * 0 + 0 ≤ _; decide) (hb hbytes d3) (⟨rfl, rf, s1.there X0.warmed.alike hh0, Int32.ofNat_not_neg (by omega), lt32 v31 hi⟩)
  obtain ⟨rfl, q3⟩ := E3
  have hh3 := q3.trans hh0
  have c4 : Steps p.tables e below (s₁.setTop (entryFrame m #[.ref t, .int (Int32.ofNat i)] 2)) (T3.setTop (mkF m 14 #[.val (.ref t), .val (.int (Int32.ofNat i))] [.int (chr8 u)])) := Steps.trans g3 (by
    refine XS.aloadN X3.here hexec rfl (hb hbytes d6) rfl rfl ?_
    refine XS.iloadN X3.here hexec rfl (hb hbytes d7) rfl ?_
    refine X3.aget hexec (hV.mv X3.warmed.alike hh3) rfl hu rfl rfl (hb hbytes d8) ?_
    refine sipushV X3.here hexec rfl 255 (hb hbytes d9) (by decide) ?_
    refine XS.iand X3.here hexec rfl (hb hbytes d12) rfl ?_
    refine i2c X3.here hexec rfl (hb hbytes d13) rfl ?_
    exact Steps.refl _)
  exact ⟨T3, some (.int (chr8 u)), _, _, _, X3, rfl, rfl, rfl, (fun h => by cases h), ⟨rfl, hh3⟩, fun fs hl => c4.trans (X3.ireturnOut hexec hret (narrow_c _) (Or.inr (Or.inr (Or.inr (Or.inl rfl)))) (hb hbytes d14) hl)⟩
end LChA
end StrChars
namespace StrChars.Road
open Jvm Sem ClassFile Op Lib Jvm.Stand Jvm.Free Jvm.Free.XT
open Jvm.Lib.Cold (StaticIs)
theorem consq {a : Array Value} {s : State} {c : Jvm.Cond} {L : List Jvm.Cond} (h0 : c.before a s = true) (h : ∀ w ∈ L, w.before a s = true) : ∀ w ∈ c :: L, w.before a s = true := fun w hw => (List.mem_cons.mp hw).elim (fun e => e ▸ h0) (h w)
/-- the words of String.length(), either coding -/
abbrev wordsLen : List Jvm.Cond := [.code Len.yN Len.yB 1 (some .int), .initialized ST, .fieldLink ST 9 ST "value" "[B", .fieldLink ST 38 ST "COMPACT_STRINGS" "Z", .fieldLink ST 15 ST "coder" "B", .code Cdr.yN Cdr.yB 1 (some .byte), .methodLink ST 335 Cdr.yN, .declares Cdr.yN, .selects ST Cdr.yN Cdr.yN, .instanceMethod Cdr.yN]
theorem tabLen_of {a : Array Value} {s : State} (h : ∀ w ∈ wordsLen, w.before a s = true) : Len.tab.before a s = true := by
  have hc : Cdr.tab.before a s = true := unparts (wk h (.code Cdr.yN Cdr.yB 1 (some .byte))) (wks h (.initialized Cdr.yN.cls :: Cdr.site))
  have q := consq hc h
  exact unparts (wk q (.code Len.yN Len.yB 1 (some .int))) (wks q (.initialized Len.yN.cls :: Len.site))
theorem movedLen {Z s : State} {a0 args : Array Value} (hZ : Z.Warmed39 s.vm) (hw : ∀ d ∈ wordsLen, d.before a0 Z = true) : ∀ d ∈ wordsLen, d.before args s = true := fun d hd => by
  have q := hw d hd
  have t : ∀ d ∈ wordsLen, d = .arrayClass .byte ∨ (d.onTables && d.keepsFace) = true := by decide +kernel
  rcases t d hd with rfl | t
  · exact RoadKit.mvA hZ q
  · exact RoadKit.mv hZ q t
/-- the bytes of the chars cs, low before high -/
def wideBytes : List Int32 → List Value
  | [] => []
  | c :: cs => .int (lo8 c) :: .int (hi8 c) :: wideBytes cs
theorem wide_lo (d : Value) : ∀ (cs : List Int32) (j : Nat), j < cs.length → (wideBytes cs).getD (2 * j) d = .int (lo8 (cs.getD j 0))
  | [], j, h => absurd h (Nat.not_lt_zero j)
  | c :: cs, 0, _ => rfl
  | c :: cs, j + 1, h => by
    have q := wide_lo d cs j (by simpa using h)
    rw [show 2 * (j + 1) = 2 * j + 1 + 1 from by omega]
    simpa [wideBytes] using q
theorem wide_hi (d : Value) : ∀ (cs : List Int32) (j : Nat), j < cs.length → (wideBytes cs).getD (2 * j + 1) d = .int (hi8 (cs.getD j 0))
  | [], j, h => absurd h (Nat.not_lt_zero j)
  | c :: cs, 0, _ => rfl
  | c :: cs, j + 1, h => by
    have q := wide_hi d cs j (by simpa using h)
    rw [show 2 * (j + 1) + 1 = 2 * j + 1 + 1 + 1 from by omega]
    simpa [wideBytes] using q
theorem low_at (d : Value) (cs : List Int32) (j : Nat) (h : j < cs.length) : (cs.map fun c => Value.int (lo8 c)).getD j d = .int (lo8 (cs.getD j 0)) := by
  simp [List.getD_eq_getElem?_getD, h]
/-- an array of N2 bytes vs codes the chars cs by the coder cd -/
def CodA (cs : List Int32) (cd N2 : Int32) (vs : List Value) : Prop := (cd = 0 ∧ N2 = Int32.ofNat cs.length ∧ vs = (cs.map fun c => Value.int (lo8 c)) ∧ ∀ c ∈ cs, ¬ 255 < c) ∨ (cd = 1 ∧ N2 = Int32.ofNat (2 * cs.length) ∧ vs = wideBytes cs ∧ ∃ c ∈ cs, 255 < c)
theorem CodA.cod {cs : List Int32} {cd N2 : Int32} {vs : List Value} {V : Cell} (h : CodA cs cd N2 vs) (hn : 2 * cs.length < 2 ^ 31) (hs : V.slots.size = N2.toNatClampNeg) (hv : RoadKit.Has V vs (.int 0)) : Cod cd cs.length (fun j => cs.getD j 0) V := by
  rcases h with ⟨rfl, rfl, rfl, h⟩ | ⟨rfl, rfl, rfl, c, hc, hw⟩
  · rw [n32 (by omega)] at hs
    exact Or.inl ⟨rfl, hs, fun j hj => ⟨by rw [hv j (by omega), low_at _ _ _ hj], by
      have e : cs.getD j 0 = cs[j] := by simp [List.getD_eq_getElem?_getD, hj]
      show ¬ 255 < cs.getD j 0
      rw [e]; exact h _ (List.getElem_mem _)⟩⟩
  · rw [n32 (by omega)] at hs
    obtain ⟨j, hj, rfl⟩ := List.getElem_of_mem hc
    exact Or.inr ⟨rfl, hs, fun j hj => ⟨by rw [hv _ (by omega), wide_lo _ _ _ hj], by rw [hv _ (by omega), wide_hi _ _ _ hj]⟩, j, hj, by
      have e : cs.getD j 0 = cs[j] := by simp [List.getD_eq_getElem?_getD, hj]
      show 255 < cs.getD j 0
      rw [e]; exact hw⟩
/-- an object of exactly java/lang/String, its two fields found: as the laws ask it -/
theorem strObj {Z U : State} {a0 : Array Value} {kI : Nat} (wi : (Jvm.Cond.instantiable ST kI).before a0 Z = true) (al : Z.vm.Alike U.vm) {x : Addr} {v0 c0 : Value} (E : RoadKit.Exa Z U.heap x ST) (V : RoadKit.Fld Z U.heap x ST "value" "[B" v0) (C : RoadKit.Fld Z U.heap x ST "coder" "B" c0) :
    ∃ (D : Cell) (fV fC : Field), Blank ST x D U ∧ Found ST "value" "[B" fV U ∧ Found ST "coder" "B" fC U ∧ D.slots[fV.slot]? = some v0 ∧ D.slots[fC.slot]? = some c0 ∧ RoadKit.slotOf Z ST "value" "[B" = fV.slot ∧ RoadKit.slotOf Z ST "coder" "B" = fC.slot := by
  obtain ⟨D, cfV, kV, iV, fV, hD, gV, stV, knV, obV, asV, slV⟩ := V
  obtain ⟨D', cfC, kC, iC, fC, hD', gC, stC, -, -, asC, slC⟩ := C
  cases hD.symm.trans hD'
  obtain ⟨D2, kD, e1, e2, e3, e4, e5⟩ := E
  cases hD.symm.trans e1
  obtain ⟨c2, k2, i1, i2, i3, -⟩ := Cond.instantiable_spec wi
  cases e2.symm.trans i1
  cases e3.symm.trans i2
  obtain ⟨kU, u1, u2⟩ := al.2.2 _ _ e3
  exact ⟨D, fV, fC, ⟨hD, ⟨knV, fun q hq => by rw [hq] at obV; cases obV⟩, by rw [al.findClass]; exact e2, kU, u1, by rw [u2]; exact i3, by rw [u2]; exact e5 i3⟩, ⟨SBG.found_only al ⟨cfV, kV, iV, gV⟩, stV⟩, ⟨SBG.found_only al ⟨cfC, kC, iC, gC⟩, stC⟩, slV, slC, by simp [RoadKit.slotOf, gV], by simp [RoadKit.slotOf, gC]⟩
theorem sta_is {Z U : State} (al : Z.vm.Alike U.vm) {C n d : String} {v : Value} (S : RoadKit.Sta Z U.heap C n d v) : StaticIs U C n d v := by
  obtain ⟨cfS, iS, kS, fS, st, cS, t1, t2, t3, t4, t5, t6, t7⟩ := S
  exact StaticIs.there (s := { Z with heap := U.heap }) ⟨cfS, iS, kS, fS, st, cS, t1, t2, t3, t4, t5, (fun q => by rw [q] at t6; cases t6), t7⟩ al rfl
/-- **length() OF SUCH A STRING** -/
theorem lenW {p : Program} {l : Launch} {e : Env} {R : Room} {s : State} {args : Array Value} {below : List Frame} {len W : Nat} {Z : State} {a0 : Array Value} {h : Heap} (hZ : Z.Warmed39 s.vm) (hw : ∀ d ∈ wordsLen, d.before a0 Z = true) {kI : Nat} (wi : (Jvm.Cond.instantiable ST kI).before a0 Z = true)
    {x t : Addr} {kb : ClassId} {cs : List Int32} {cd N2 z : Int32} {vs : List Value} (E : RoadKit.Exa Z h x ST) (V : RoadKit.Fld Z h x ST "value" "[B" (.ref t)) (C : RoadKit.Fld Z h x ST "coder" "B" (.int cd)) (K : RoadKit.Arv Z h t kb .byte N2 vs (.int 0)) (hc : CodA cs cd N2 vs) (hb : ∀ c ∈ cs, ¬ c < 0 ∧ ¬ (65535 : Int32) < c)
    (S : RoadKit.Sta Z h ST "COMPACT_STRINGS" "Z" (.int z)) (hz : ¬ z = 0) (l2 : cs.length ≤ 4000) (hfr : 2 ≤ R.frames) (hlo : W + 25 ≤ R.locals) :
    Back l R p e below s args (⟨"java/lang/String", "length", "()I"⟩ : MethodName) len W (fun P a => a = #[.ref x] ∧ P.U.heap = h ∧ P.cells + 0 ≤ R.cells ∧ P.slots + 0 ≤ R.slots)
      (fun P _ v B => ∃ L, (v = some (.int (Int32.ofNat cs.length)) ∧ L = [] ∧ B.U.heap = h) ∧ B.locs = P.locs ++ L ∧ B.cells = P.cells + 0 ∧ B.slots = P.slots + 0) := by
  obtain ⟨A, K1, K2, K3, K4, K5, K6⟩ := K
  have hcod := hc.cod (by omega) K3 K5
  intro m meth c P g ig mk a X hg hsize hdg hW hn hp'
  obtain ⟨rfl, rfl, r1, r2⟩ := hp'
  have al : Z.vm.Alike P.U.vm := hZ.alike.trans X.warmed.alike
  obtain ⟨D, fV, fC, hB, F1, F2, g1, g2, -, -⟩ := strObj wi al E V C
  have hx : Txt x t A cd cs.length (fun j => cs.getD j 0) P.U := ⟨⟨_, hB.2.2.1, D, hB.1, rfl, by cases q : D.vm <;> first | rfl | exact absurd q (hB.2.1.2 _)⟩, Has.of hB F1 g1, Has.of hB F2 g2, ⟨K1.1, State.isArrayOf_alike al K1.2.1, K1.2.2, by rcases hcod with ⟨-, q, -⟩ | ⟨-, q, -⟩ <;> omega⟩, hcod, fun j hj => by
    have e : cs.getD j 0 = cs[j] := by simp [List.getD_eq_getElem?_getD, hj]
    show ¬ cs.getD j 0 < 0 ∧ ¬ 65535 < cs.getD j 0
    rw [e]; exact hb _ (List.getElem_mem _)⟩
  obtain ⟨v, B, X', ⟨⟨hv, hh⟩, hl, hk, hs⟩, st⟩ := Len.pays x t A cd cs.length (fun j => cs.getD j 0) z (tabLen_of (movedLen hZ hw)) hfr hlo m meth c P g ig mk _ X hg hsize hdg hW hn ⟨r1, r2, rfl, hx, sta_is al S, hz⟩
  exact ⟨v, B, X', ⟨[], ⟨hv, rfl, hh⟩, hl, hk, hs⟩, st⟩
end StrChars.Road
namespace StrChars.Road
open Jvm Sem ClassFile Op Lib Jvm.Stand Jvm.Free Jvm.Free.XT
open Jvm.Lib.Cold (StaticIs)
/-- the road's facts of a String, as the laws ask it -/
theorem txt_of {Z U : State} {a0 : Array Value} {kI : Nat} (wi : (Jvm.Cond.instantiable ST kI).before a0 Z = true) (al : Z.vm.Alike U.vm) {x t : Addr} {kb : ClassId} {cs : List Int32} {cd N2 : Int32} {vs : List Value} (E : RoadKit.Exa Z U.heap x ST) (V : RoadKit.Fld Z U.heap x ST "value" "[B" (.ref t)) (C : RoadKit.Fld Z U.heap x ST "coder" "B" (.int cd)) (K : RoadKit.Arv Z U.heap t kb .byte N2 vs (.int 0)) (hc : CodA cs cd N2 vs) (hb : ∀ c ∈ cs, ¬ c < 0 ∧ ¬ (65535 : Int32) < c) (l2 : cs.length ≤ 4000) :
    ∃ A, Txt x t A cd cs.length (fun j => cs.getD j 0) U := by
  obtain ⟨A, K1, K2, K3, K4, K5, K6⟩ := K
  have hcod := hc.cod (by omega) K3 K5
  obtain ⟨D, fV, fC, hB, F1, F2, g1, g2, -, -⟩ := strObj wi al E V C
  exact ⟨A, ⟨_, hB.2.2.1, D, hB.1, rfl, by cases q : D.vm <;> first | rfl | exact absurd q (hB.2.1.2 _)⟩, Has.of hB F1 g1, Has.of hB F2 g2, ⟨K1.1, State.isArrayOf_alike al K1.2.1, K1.2.2, by rcases hcod with ⟨-, q, -⟩ | ⟨-, q, -⟩ <;> omega⟩, hcod, fun j hj => by
    have e : cs.getD j 0 = cs[j] := by simp [List.getD_eq_getElem?_getD, hj]
    show ¬ cs.getD j 0 < 0 ∧ ¬ 65535 < cs.getD j 0
    rw [e]; exact hb _ (List.getElem_mem _)⟩
end StrChars.Road
namespace StrChars
open Jvm Sem ClassFile Op Lib Jvm.Stand Jvm.Free.XT Jvm.Free.ALB Jvm.Free.JM Jvm.Free
open Jvm.Lib.Cold (StaticIs)
namespace ChN
def yN : MethodName := ⟨"java/lang/String", "charAt", "(I)C"⟩
abbrev yB : ByteArray := jdk_42_method_56_code
theorem d0 : decode yB 0 = .ok (.aload_n 0, 1) := by decide +kernel
theorem d1 : decode yB 1 = .ok (.invokevirtual 492, 3) := by decide +kernel
theorem d4 : decode yB 4 = .ok (.ifCond (.eq) 12, 3) := by decide +kernel
theorem d7 : decode yB 7 = .ok (.aload_n 0, 1) := by decide +kernel
theorem d8 : decode yB 8 = .ok (.getfield 9, 3) := by decide +kernel
theorem d11 : decode yB 11 = .ok (.iload_n 1, 1) := by decide +kernel
theorem d12 : decode yB 12 = .ok (.invokestatic 495, 3) := by decide +kernel
theorem d15 : decode yB 15 = .ok (.ireturn, 1) := by decide +kernel
def site : List Cond := [.fieldLink "java/lang/String" 9 "java/lang/String" "value" "[B", IsL.tab, LChA.tab] ++ virtW "java/lang/String" 492 "java/lang/String" IsL.yN IsL.yN ++ staticW "java/lang/String" 495 LChA.yN
def tab : Cond := tabOf yN yB 2 (some .char) site
def P (x t : Addr) (V : Cell) (n : Nat) (f : Nat → Int32) (z : Int32) (fm : Value) (i : Nat) (args : Array Value) (s : State) : Prop := args = #[.ref x, .int (Int32.ofNat i)] ∧ Txt x t V 0 n f s ∧ i < n ∧ StaticIs s "java/lang/String" "COMPACT_STRINGS" "Z" (.int z) ∧ ¬ z = 0 ∧ StaticIs s "jdk/internal/util/Preconditions" "SIOOBE_FORMATTER" "Ljava/util/function/BiFunction;" fm ∧ fm.isRef = true
def E (f : Nat → Int32) (i : Nat) (r : Option Value) (s u : State) : Prop := XT.PureE (some (.int (f i))) r s u
/-- charAt(i) of a Latin-1 String of n chars, i < n: f i -/
theorem law (l : Launch) (x t : Addr) (V : Cell) (n : Nat) (f : Nat → Int32) (z : Int32) (fm : Value) (i : Nat) : Law l yN 2 1 3 40 yB 2 (some .char) site (P x t V n f z fm i) (E f i) [] 0 0 := by
  refine Law.of_walk (plainFor_of_name (by decide +kernel)) (by decide +kernel) (by decide +kernel) (by decide) (fun _ _ h => by rw [h.1]; rfl) (fun _ U U' hal hh h => ⟨h.1, h.2.1.mv hal hh, h.2.2.1, h.2.2.2.1.there hal hh, h.2.2.2.2.1, h.2.2.2.2.2.1.there hal hh, h.2.2.2.2.2.2⟩) (fun r U U' V V' h1 hal h2 h => XT.PureE.mv r U U' V V' h1 hal h2 h) ?_
  intro p e s m args below meth c s₁ X0 hexec hbytes hml hret hlk hnm hown hh0 W hP
  obtain ⟨rfl, hx, hi, s1, hz, s3, rf⟩ := hP
  have v31 := hx.2.2.2.1.2.2.2
  have hr := hx.2.2.2.2.2 i hi
  have hx0 := hx.mv X0.warmed.alike hh0
  have c1 : Steps p.tables e below (s₁.setTop (entryFrame m #[.ref x, .int (Int32.ofNat i)] 2)) (s₁.setTop (mkF m 1 #[.val (.ref x), .val (.int (Int32.ofNat i))] [.ref x])) := Steps.trans (entry rfl) (by
    show Steps p.tables e below (s₁.setTop (mkF m 0 #[.val (.ref x), .val (.int (Int32.ofNat i))] [])) _
    refine XS.aloadN X0.here hexec rfl (hb hbytes d0) rfl rfl ?_
    exact Steps.refl _)
  obtain ⟨v2, T2, X2, E2, g2⟩ := X0.callV hexec (IsL.law l x 0 z) hown (wks W (virtW "java/lang/String" 492 "java/lang/String" IsL.yN IsL.yN)) rfl (by decide) (wk W IsL.tab) (W := 0) (Nat.le_of_ble_eq_true rfl) (Nat.le_of_ble_eq_true rfl) (Nat.le_refl _) (Nat.le_refl _) (hx0.1.fc X0.warmed.alike) hx0.1.is (g := (mkF m 1 #[.val (.ref x), .val (.int (Int32.ofNat i))] [.ref x])) rfl (by rw [hml]; rfl) c1 (argsL := []) (rest := []) rfl rfl (by show 2 * 0 + 0 ≤ _; decide) (hb hbytes d1) (⟨rfl, hx0.2.2.1, hx.2.2.2.2.1.cd, s1.there X0.warmed.alike hh0, hz⟩)
  obtain ⟨rfl, q2⟩ := E2
  have hh2 := q2.trans hh0
  have hx2 := hx.mv X2.warmed.alike hh2
  obtain ⟨-, k1, k2⟩ | ⟨k0, -⟩ := hx.2.2.2.2.1
  · have c3 : Steps p.tables e below (s₁.setTop (entryFrame m #[.ref x, .int (Int32.ofNat i)] 2)) (T2.setTop (mkF m 8 #[.val (.ref x), .val (.int (Int32.ofNat i))] [.ref x])) := Steps.trans g2 (by
      refine XS.ifNo X2.here hexec rfl (hb hbytes d4) rfl (i0_eq_f (by decide)) ?_
      refine XS.aloadN X2.here hexec rfl (hb hbytes d7) rfl rfl ?_
      exact Steps.refl _)
    obtain ⟨T4, X4, q4, st4⟩ := X2.hget hexec hown (wk W (.fieldLink "java/lang/String" 9 "java/lang/String" "value" "[B")) hx2.2.1 (g := (mkF m 8 #[.val (.ref x), .val (.int (Int32.ofNat i))] [.ref x])) rfl (rest := []) rfl (hb hbytes d8)
    have hh4 := q4.trans hh2
    have c5 : Steps p.tables e below (s₁.setTop (entryFrame m #[.ref x, .int (Int32.ofNat i)] 2)) (T4.setTop (mkF m 12 #[.val (.ref x), .val (.int (Int32.ofNat i))] [.int (Int32.ofNat i), .ref t])) := (c3.trans (st4 _ (Steps.refl _))).trans (by
      refine XS.iloadN X4.here hexec rfl (hb hbytes d11) rfl ?_
      exact Steps.refl _)
    obtain ⟨v6, T6, X6, E6, g6⟩ := X4.callS hexec (LChA.law l t V i (lo8 (f i)) fm) hown (wks W (staticW "java/lang/String" 495 LChA.yN)) (wk W LChA.tab) (W := 0) (Nat.le_of_ble_eq_true rfl) (Nat.le_of_ble_eq_true rfl) (Nat.le_refl _) (Nat.le_refl _) (g := (mkF m 12 #[.val (.ref x), .val (.int (Int32.ofNat i))] [.int (Int32.ofNat i), .ref t])) rfl (by rw [hml]; rfl) c5 (argsL := [.ref t, .int (Int32.ofNat i)]) (rest := []) rfl rfl (by show 2 * 0 + 0 ≤ _; decide) (hb hbytes d12) (⟨rfl, hx.2.2.2.1.mv X4.warmed.alike hh4, (k2 i hi).1, s3.there X4.warmed.alike hh4, rf⟩)
    obtain ⟨rfl, q6⟩ := E6
    rw [chr8_lo8 hr.1 (k2 i hi).2] at g6
    exact ⟨T6, some (.int (f i)), _, _, _, X6, rfl, rfl, rfl, (fun h => by cases h), ⟨rfl, q6.trans hh4⟩, fun fs hl => Steps.trans g6 (X6.ireturnOut hexec hret (narrow_ch hr.1 hr.2) (Or.inr (Or.inr (Or.inr (Or.inl rfl)))) (hb hbytes d15) hl)⟩
  · exact absurd k0 (by decide)
theorem pays {l : Launch} {R : Room} {p : Program} {e : Env} {below : List Frame} {s : State} {sargs : Array Value} {len W : Nat} (x t : Addr) (V : Cell) (n : Nat) (f : Nat → Int32) (z : Int32) (fm : Value) (i : Nat) (htab : tab.before sargs s = true) (hfr : 4 ≤ R.frames) (hlo : W + 53 ≤ R.locals) :
    Back l R p e below s sargs yN len W (fun A₁ a₁ => A₁.cells + 0 ≤ R.cells ∧ A₁.slots + 0 ≤ R.slots ∧ P x t V n f z fm i a₁ A₁.U) (fun A₁ _ v₁ B₁ => E f i v₁ A₁.U B₁.U ∧ B₁.locs = A₁.locs ++ [] ∧ B₁.cells = A₁.cells + 0 ∧ B₁.slots = A₁.slots + 0) :=
  (law l x t V n f z fm i).pays htab hfr (by omega)
end ChN
end StrChars
namespace StrChars.Road
open Jvm Sem ClassFile Op Lib Jvm.Stand Jvm.Free Jvm.Free.XT
open Jvm.Lib.Cold (StaticIs)
/-- the words of String.charAt(int), the Latin-1 road alone -/
abbrev wordsChN : List Jvm.Cond := [.code ChN.yN ChN.yB 2 (some .char), .initialized ST, .fieldLink ST 9 ST "value" "[B", .fieldLink ST 38 ST "COMPACT_STRINGS" "Z", .fieldLink ST 15 ST "coder" "B", .code IsL.yN IsL.yB 1 (some .boolean), .methodLink ST 492 IsL.yN, .declares IsL.yN, .selects ST IsL.yN IsL.yN, .instanceMethod IsL.yN,
  .methodLink ST 495 LChA.yN, .static LChA.yN, .code LChA.yN LChA.yB 2 (some .char), .initialized "java/lang/StringLatin1", .methodLink "java/lang/StringLatin1" 9 JO.Str_checkIndex.yN, .static JO.Str_checkIndex.yN, .code JO.Str_checkIndex.yN JO.Str_checkIndex.yB 2 none,
  .fieldLink ST 1053 "jdk/internal/util/Preconditions" "SIOOBE_FORMATTER" "Ljava/util/function/BiFunction;", .methodLink ST 1059 JC.PreCheck.yN, .static JC.PreCheck.yN, .code JC.PreCheck.yN JC.PreCheck.yB 3 (some .int), .initialized "jdk/internal/util/Preconditions"]
theorem tabChN_of {a : Array Value} {s : State} (h : ∀ w ∈ wordsChN, w.before a s = true) : ChN.tab.before a s = true := by
  have hp : JC.PreCheck.tab.before a s = true := unparts (wk h (.code JC.PreCheck.yN JC.PreCheck.yB 3 (some .int))) (wks h (.initialized JC.PreCheck.yN.cls :: JC.PreCheck.site))
  have qk := consq hp h
  have hk : JO.Str_checkIndex.tab.before a s = true := unparts (wk qk (.code JO.Str_checkIndex.yN JO.Str_checkIndex.yB 2 none)) (wks qk (.initialized JO.Str_checkIndex.yN.cls :: JO.Str_checkIndex.site))
  have ql := consq hk h
  have hl : LChA.tab.before a s = true := unparts (wk ql (.code LChA.yN LChA.yB 2 (some .char))) (wks ql (.initialized LChA.yN.cls :: LChA.site))
  have hi : IsL.tab.before a s = true := unparts (wk h (.code IsL.yN IsL.yB 1 (some .boolean))) (wks h (.initialized IsL.yN.cls :: IsL.site))
  have q := consq hi (consq hl h)
  exact unparts (wk q (.code ChN.yN ChN.yB 2 (some .char))) (wks q (.initialized ChN.yN.cls :: ChN.site))
theorem movedChN {Z s : State} {a0 args : Array Value} (hZ : Z.Warmed39 s.vm) (hw : ∀ d ∈ wordsChN, d.before a0 Z = true) : ∀ d ∈ wordsChN, d.before args s = true := fun d hd => by
  have t : ∀ d ∈ wordsChN, (d.onTables && d.keepsFace) = true := by decide +kernel
  exact RoadKit.mv hZ (hw d hd) (t d hd)
/-- **charAt(i) OF A LATIN-1 STRING**, i < n: the char -/
theorem chN {p : Program} {l : Launch} {e : Env} {R : Room} {s : State} {args : Array Value} {below : List Frame} {len W : Nat} {Z : State} {a0 : Array Value} {h : Heap} (hZ : Z.Warmed39 s.vm) (hw : ∀ d ∈ wordsChN, d.before a0 Z = true) {kI : Nat} (wi : (Jvm.Cond.instantiable ST kI).before a0 Z = true)
    {x t : Addr} {kb : ClassId} {cs : List Int32} {N2 z : Int32} {vs : List Value} {fm : Value} {i : Nat} {j : Int32} (E : RoadKit.Exa Z h x ST) (V : RoadKit.Fld Z h x ST "value" "[B" (.ref t)) (C : RoadKit.Fld Z h x ST "coder" "B" (.int 0)) (K : RoadKit.Arv Z h t kb .byte N2 vs (.int 0)) (hc : CodA cs 0 N2 vs) (hb : ∀ c ∈ cs, ¬ c < 0 ∧ ¬ (65535 : Int32) < c)
    (S : RoadKit.Sta Z h ST "COMPACT_STRINGS" "Z" (.int z)) (hz : ¬ z = 0) (F : RoadKit.Sta Z h "jdk/internal/util/Preconditions" "SIOOBE_FORMATTER" "Ljava/util/function/BiFunction;" fm) (rf : fm.isRef = true) (l2 : cs.length ≤ 4000) (hi : i < cs.length) (hj : j = Int32.ofNat i) (hfr : 4 ≤ R.frames) (hlo : W + 53 ≤ R.locals) :
    Back l R p e below s args (⟨"java/lang/String", "charAt", "(I)C"⟩ : MethodName) len W (fun P a => a = #[.ref x, .int j] ∧ P.U.heap = h ∧ P.cells + 0 ≤ R.cells ∧ P.slots + 0 ≤ R.slots)
      (fun P _ v B => ∃ L, (v = some (.int (cs.getD i 0)) ∧ L = [] ∧ B.U.heap = h) ∧ B.locs = P.locs ++ L ∧ B.cells = P.cells + 0 ∧ B.slots = P.slots + 0) := by
  subst hj
  intro m meth c P g ig mk a X hg hsize hdg hW hn hp'
  obtain ⟨rfl, rfl, r1, r2⟩ := hp'
  have al : Z.vm.Alike P.U.vm := hZ.alike.trans X.warmed.alike
  obtain ⟨A, hx⟩ := txt_of wi al E V C K hc hb l2
  obtain ⟨v, B, X', ⟨⟨hv, hh⟩, hl, hk, hs⟩, st⟩ := ChN.pays x t A cs.length (fun j => cs.getD j 0) z fm i (tabChN_of (movedChN hZ hw)) hfr hlo m meth c P g ig mk _ X hg hsize hdg hW hn ⟨r1, r2, rfl, hx, hi, sta_is al S, hz, sta_is al F, rf⟩
  exact ⟨v, B, X', ⟨[], ⟨hv, rfl, hh⟩, hl, hk, hs⟩, st⟩
end StrChars.Road
end Jvm.Pilot.@@N@@
namespace Jvm.Pilot.@@N@@
open Jvm Jvm.ClassFile Sem Op Lib Jvm.Free Jvm.Stand Jvm.LawKit Jvm.RoadKit Bundle Jvm.Pilot.@@N@@.Jvm.D
section OwnKit
variable {p : Program} {l : Launch} {e : Env} {R : Room} {s : State} {m : MethodId} {args : Array Value} {below : List Frame} {meth : Method} {c : Code} {T : State} {locs : List Loc} {cells slots : Nat}
theorem own_retI (X : Stand p l e R s m args below meth c T locs cells slots) (hx : p.tables.exec = Jvm.exec) {pc : Nat} {Ls : Array Slot} {z : Int32} {rest : List Value} (hret : meth.sig.returnType = some .int) (hd : decode c.code pc = .ok (.ireturn, 1)) {fs : List Frame}
    (hl : ∀ (f : JFrame) (acts : List Action), f.method = m → f.locked = none → f.entered = [] → (doReturn e (T.setTop f) acts (some (.int z))).1 = T.setFrames fs) : Steps p.tables e below (T.setTop (mkF m pc Ls (.int z :: rest))) (T.setFrames fs) :=
  retOut X hx hret rfl (Or.inl ⟨rfl, Or.inl rfl, z, rfl⟩) hd hl
theorem own_retL (X : Stand p l e R s m args below meth c T locs cells slots) (hx : p.tables.exec = Jvm.exec) {pc : Nat} {Ls : Array Slot} {z : Int64} {rest : List Value} (hret : meth.sig.returnType = some .long) (hd : decode c.code pc = .ok (.lreturn, 1)) {fs : List Frame}
    (hl : ∀ (f : JFrame) (acts : List Action), f.method = m → f.locked = none → f.entered = [] → (doReturn e (T.setTop f) acts (some (.long z))).1 = T.setFrames fs) : Steps p.tables e below (T.setTop (mkF m pc Ls (.long z :: rest))) (T.setFrames fs) :=
  retOut X hx hret rfl (Or.inr (Or.inl ⟨rfl, rfl, z, rfl⟩)) hd hl
theorem own_retD (X : Stand p l e R s m args below meth c T locs cells slots) (hx : p.tables.exec = Jvm.exec) {pc : Nat} {Ls : Array Slot} {z : UInt64} {rest : List Value} (hret : meth.sig.returnType = some .double) (hd : decode c.code pc = .ok (.dreturn, 1)) {fs : List Frame}
    (hl : ∀ (f : JFrame) (acts : List Action), f.method = m → f.locked = none → f.entered = [] → (doReturn e (T.setTop f) acts (some (.double z))).1 = T.setFrames fs) : Steps p.tables e below (T.setTop (mkF m pc Ls (.double z :: rest))) (T.setFrames fs) :=
  retOut X hx hret rfl (Or.inr (Or.inr (Or.inl ⟨rfl, rfl, z, rfl⟩))) hd hl
theorem own_retA (X : Stand p l e R s m args below meth c T locs cells slots) (hx : p.tables.exec = Jvm.exec) {pc : Nat} {Ls : Array Slot} {t : FieldType} {v : Value} {rest : List Value} (hret : meth.sig.returnType = some t) (ht : t.isReference = true) (hv : v.isRef = true) (hn : narrow t v = v) (hd : decode c.code pc = .ok (.areturn, 1)) {fs : List Frame}
    (hl : ∀ (f : JFrame) (acts : List Action), f.method = m → f.locked = none → f.entered = [] → (doReturn e (T.setTop f) acts (some v)).1 = T.setFrames fs) : Steps p.tables e below (T.setTop (mkF m pc Ls (v :: rest))) (T.setFrames fs) :=
  retOut X hx hret hn (Or.inr (Or.inr (Or.inr (Or.inr ⟨rfl, ht, hv⟩)))) hd hl
theorem own_ns_exa {Z : State} {h : Heap} {a : Addr} {C : String} (F : Exa Z h a C) : ∃ c : Cell, h[a]? = some c ∧ c.vm.isStatics = false := by
  obtain ⟨c, _, h1, -, -, h4, -⟩ := F; exact ⟨c, h1, h4⟩
theorem own_ns_arv {Z : State} {h : Heap} {a : Addr} {k : ClassId} {ty : FieldType} {z : Int32} {vs : List Value} {dv : Value} (F : Arv Z h a k ty z vs dv) : ∃ c : Cell, h[a]? = some c ∧ c.vm.isStatics = false := by
  obtain ⟨c, A, -⟩ := F; exact ⟨c, A.1, A.plain⟩
theorem own_sta_keep {Z : State} {h h' : Heap} {C n d : String} {v : Value} {ws : List Addr} (F : Sta Z h C n d v) (K : Keep h h' ws) (q : ∀ x ∈ ws, ∃ c : Cell, h[x]? = some c ∧ c.vm.isStatics = false) : Sta Z h' C n d v := by
  obtain ⟨cf, i, k, f, st, cell, h1, h2, h3, h4, h5, h6, h7⟩ := F
  refine ⟨cf, i, k, f, st, cell, h1, h2, h3, h4, K.2.1 st cell h5 (fun m => ?_), h6, h7⟩
  obtain ⟨c, e1, e2⟩ := q st m; cases h5.symm.trans e1; rw [e2] at h6; cases h6
theorem own_pad {Z : State} {h : Heap} {a : Addr} {k : ClassId} {ty : FieldType} {z : Int32} (A : Arr Z h a (newA k ty z) ty) (q : ¬ z < 0) : Arv Z h a k ty z (List.replicate z.toNatClampNeg (defaultValue ty)) (defaultValue ty) := by
  have r := (Arv.new A q).pad (pad_rep [] (defaultValue ty) z.toNatClampNeg)
  rwa [List.nil_append] at r
/-- from A the run ends, and then P -/
def OwnGo (tb : Tables) (e : Env) (below : List Frame) (P : Outcome → State → Prop) (A : State) : Prop := ∃ s₂ o, Steps tb e below A s₂ ∧ s₂.status = .running ∧ Ended s₂ below o ∧ P o s₂
theorem OwnGo.of {tb : Tables} {P : Outcome → State → Prop} {A B : State} (k : ∀ t, Steps tb e below B t → Steps tb e below A t) (g : OwnGo tb e below P B) : OwnGo tb e below P A := by
  obtain ⟨s2, o, h1, h2⟩ := g; exact ⟨s2, o, k _ h1, h2⟩
abbrev OwnPre (R : Room) (as' : Array Value) (h : Heap) (rc rs : Nat) : Pt → Array Value → Prop := fun A a => a = as' ∧ A.U.heap = h ∧ A.cells + rc ≤ R.cells ∧ A.slots + rs ≤ R.slots
abbrev OwnPost (Q : Option Value → Heap → List Loc → Prop) (rc rs : Nat) : Pt → Array Value → Option Value → Pt → Prop := fun A _ v B => ∃ L, Q v B.U.heap L ∧ B.locs = A.locs ++ L ∧ B.cells = A.cells + rc ∧ B.slots = A.slots + rs
theorem own_callS (X : Stand p l e R s m args below meth c T locs cells slots) (hexec : p.tables.exec = Jvm.exec) {own : String} {index : Nat} {y : MethodName} {bytes : ByteArray} {maxL : Nat} {ret : Option FieldType}
    (hown : s.vm.findClass own = some m.cls) (hlink : (Jvm.Cond.methodLink own index y).before args s = true) (hstat : (Jvm.Cond.static y).before args s = true) (hinit : (Jvm.Cond.initialized y.cls).before args s = true)
    (hcode : (Jvm.Cond.code y bytes maxL ret).before args s = true) (hy : y.cls ≠ "java/lang/invoke/MethodHandle" ∧ y.cls ≠ "java/lang/invoke/VarHandle")
    {W : Nat} {as' : Array Value} {h : Heap} {Q : Option Value → Heap → List Loc → Prop} {rc rs : Nat} (hK : Back l R p e below s args y 3 W (OwnPre R as' h rc rs) (OwnPost Q rc rs))
    {g : JFrame} (hg : g.method = m) (hsize : g.locals.size = c.maxLocals) {argsL rest : List Value} (hlen : ∀ sig, parseMethodDescriptor y.desc = some sig → argsL.length = sig.parameters.length)
    (hstack : g.stack = argsL.reverse ++ rest) (hW : 2 * g.monitorRoom + (rest.map fun v => v.category).sum ≤ W) (hdg : decode c.code g.pc = .ok (.invokestatic index, 3))
    (ha : argsL.toArray = as') (eT : T.heap = h) (hc : cells + rc ≤ R.cells) (hs : slots + rs ≤ R.slots) :
    ∃ (T' : State) (L : List Loc) (v : Option Value), Stand p l e R s m args below meth c T' (locs ++ L) (cells + rc) (slots + rs) ∧ Q v T'.heap L ∧ ∀ target, Steps p.tables e below (T'.setTop { g with pc := g.pc + 3, stack := v.toList ++ rest }) target → Steps p.tables e below (T.setTop g) target := by
  obtain ⟨v, _, ⟨T1, L1, k1, n1⟩, -, X1, ⟨Lc, hQ, l1, y1, z1⟩, st⟩ := Jvm.LawKit.callS X hexec hown hlink hstat hinit hcode hy hK hg hsize hlen hstack hW hdg (fun _ _ => ⟨ha, eT, hc, hs⟩)
  dsimp only [Pt.U, Pt.locs, Pt.cells, Pt.slots] at X1 l1 y1 z1 st hQ
  subst l1 y1 z1
  exact ⟨T1, Lc, v, X1, hQ, st⟩
theorem own_callI (X : Stand p l e R s m args below meth c T locs cells slots) (hexec : p.tables.exec = Jvm.exec) {own : String} {index : Nat} {y : MethodName} (hy1 : y.name = "<init>")
    (hown : s.vm.findClass own = some m.cls) (hlink : (Jvm.Cond.methodLink own index y).before args s = true) (hinst : (Jvm.Cond.instanceMethod y).before args s = true)
    {bytes : ByteArray} {maxL : Nat} (hcode : (Jvm.Cond.code y bytes maxL none).before args s = true) (hy : y.cls ≠ "java/lang/invoke/MethodHandle" ∧ y.cls ≠ "java/lang/invoke/VarHandle")
    {W : Nat} {as' : Array Value} {h : Heap} {Q : Option Value → Heap → List Loc → Prop} {rc rs : Nat} (hK : Back l R p e below s args y 3 W (OwnPre R as' h rc rs) (OwnPost Q rc rs))
    {g : JFrame} (hg : g.method = m) (hsize : g.locals.size = c.maxLocals) {a : Addr} {argsL rest : List Value}
    (hlen : ∀ sig, parseMethodDescriptor y.desc = some sig → argsL.length = sig.parameters.length) (hstack : g.stack = argsL.reverse ++ .ref a :: rest) (hW : 2 * g.monitorRoom + (rest.map fun v => v.category).sum ≤ W)
    (hdg : decode c.code g.pc = .ok (.invokespecial index, 3)) (ha : (Value.ref a :: argsL).toArray = as') (eT : T.heap = h) (hc : cells + rc ≤ R.cells) (hs : slots + rs ≤ R.slots) :
    ∃ (T' : State) (L : List Loc) (v : Option Value), Stand p l e R s m args below meth c T' (locs ++ L) (cells + rc) (slots + rs) ∧ Q v T'.heap L ∧ ∀ target, Steps p.tables e below (T'.setTop { g with pc := g.pc + 3, stack := v.toList ++ rest }) target → Steps p.tables e below (T.setTop g) target := by
  obtain ⟨v, _, ⟨T1, L1, k1, n1⟩, -, X1, ⟨Lc, hQ, l1, y1, z1⟩, st⟩ := X.specialBack hexec hy1 hown hlink hinst hcode hy hK hg hsize (Steps.refl _) hlen hstack hW hdg (fun _ _ => ⟨ha, eT, hc, hs⟩)
  dsimp only [Pt.U, Pt.locs, Pt.cells, Pt.slots] at X1 l1 y1 z1 st hQ
  subst l1 y1 z1
  exact ⟨T1, Lc, v, X1, hQ, fun t k => st.trans k⟩
theorem own_callV (X : Stand p l e R s m args below meth c T locs cells slots) (hexec : p.tables.exec = Jvm.exec) {own C : String} {index : Nat} {y z : MethodName}
    (hown : s.vm.findClass own = some m.cls) (hlink : (Jvm.Cond.methodLink own index y).before args s = true) (hdecl : (Jvm.Cond.declares y).before args s = true) (hnf : NotFace s y)
    (hsel : (Jvm.Cond.selects C y z).before args s = true) (hinst : (Jvm.Cond.instanceMethod z).before args s = true) (hy : y.cls ≠ "java/lang/invoke/MethodHandle" ∧ y.cls ≠ "java/lang/invoke/VarHandle")
    {W : Nat} {as' : Array Value} {h : Heap} {Q : Option Value → Heap → List Loc → Prop} {rc rs : Nat} (hK : Back l R p e below s args z 3 W (OwnPre R as' h rc rs) (OwnPost Q rc rs))
    {b : Addr} {cB : ClassId} (hcB : s.vm.findClass C = some cB) (hrecv : IsOf cB T b)
    {g : JFrame} (hg : g.method = m) (hsize : g.locals.size = c.maxLocals) {argsL rest : List Value}
    (hlen : ∀ sig, parseMethodDescriptor y.desc = some sig → argsL.length = sig.parameters.length) (hstack : g.stack = argsL.reverse ++ .ref b :: rest) (hW : 2 * g.monitorRoom + (rest.map fun v => v.category).sum ≤ W)
    (hdg : decode c.code g.pc = .ok (.invokevirtual index, 3)) (ha : (Value.ref b :: argsL).toArray = as') (eT : T.heap = h) (hc : cells + rc ≤ R.cells) (hs : slots + rs ≤ R.slots) :
    ∃ (T' : State) (L : List Loc) (v : Option Value), Stand p l e R s m args below meth c T' (locs ++ L) (cells + rc) (slots + rs) ∧ Q v T'.heap L ∧ ∀ target, Steps p.tables e below (T'.setTop { g with pc := g.pc + 3, stack := v.toList ++ rest }) target → Steps p.tables e below (T.setTop g) target := by
  obtain ⟨v, _, ⟨T1, L1, k1, n1⟩, -, X1, ⟨Lc, hQ, l1, y1, z1⟩, st⟩ := X.virtualBack hexec hown hlink hdecl hnf hsel hinst hy hK hcB hrecv hg hsize (Steps.refl _) hlen hstack hW hdg (fun _ _ => ⟨ha, eT, hc, hs⟩)
  dsimp only [Pt.U, Pt.locs, Pt.cells, Pt.slots] at X1 l1 y1 z1 st hQ
  subst l1 y1 z1
  exact ⟨T1, Lc, v, X1, hQ, fun t k => st.trans k⟩
end OwnKit
abbrev OwnHW (aw : Array Value) (Z : State) : Prop := ∀ d ∈ tables_1, d.before aw Z = true
theorem w125 {Z aw} (hw : OwnHW aw Z) : Cond.before (Jvm.Cond.stringLink "java/lang/StringLatin1" (151 : Nat) "") aw Z = true := hw _ (List.mem_of_getElem? (i := 125) rfl)
theorem w19 {Z aw} (hw : OwnHW aw Z) : Cond.before (Jvm.Cond.stringLink "java/lang/String" (7 : Nat) "") aw Z = true := hw _ (List.mem_of_getElem? (i := 19) rfl)
section OwnWide
variable {p : Program} {l : Launch} {e : Env} {R : Room} {s b : State} {m : MethodId} {args : Array Value} {below : List Frame} {meth : Method} {c : Code} {T : State} {locs : List Loc} {cells slots : Nat} {Z : State} {a0 : Array Value} {EL : List (String × Nat)} {h h' : Heap}
/-- b: the base of a walk from s that may have interned -/
def OwnB (s b : State) (h : Heap) : Prop := ∃ (vm0 : Vm) (k0 : Nat), b = s.setVm vm0 ∧ s.Since vm0 k0 ∧ k0 ≤ h.size
theorem OwnB.start (s : State) (h : Heap) : OwnB s s h := ⟨s.vm, 0, rfl, (State.WarmedH.refl s).since 0, Nat.zero_le _⟩
theorem OwnB.grow (B : OwnB s b h) (g : h.size ≤ h'.size) : OwnB s b h' := by obtain ⟨v, k, e, S, q⟩ := B; exact ⟨v, k, e, S, Nat.le_trans q g⟩
theorem OwnB.ext (B : OwnB s b h) (E : Ext h h') : OwnB s b h' := B.grow E.1
theorem OwnB.wr {a : Addr} {sl : Nat} {v : Value} (B : OwnB s b h) (W : Wr h h' a sl v) : OwnB s b h' := B.grow (Keep.of_wr W).1
theorem OwnB.keep {ws : List Addr} (B : OwnB s b h) (K : Keep h h' ws) : OwnB s b h' := B.grow K.1
theorem own_ldc (X : Stand p l e R b m args below meth c T locs cells slots) (hx : p.tables.exec = Jvm.exec) (hZ : Z.Warmed39 b.vm) {own text : String} {index : Nat} (hown : b.vm.findClass own = some m.cls) (w : (Jvm.Cond.stringLink own index text).before a0 Z = true) (wS : ∀ a ∈ Bundle.stringAtoms, a.before a0 Z = true)
    (eT : T.heap = h) (B : OwnB s b h) (hEL : EW Z a0 EL) (hmem : (own, index) ∈ EL) (H : CHv Z EL b.vm h)
    {vs : List Value} {z : Int32} (ht : (∀ c ∈ text.toList, c.toNat < 256) ∧ text.toList.map (fun c => Value.int (Jvm.Lit.byteI c.toNat.toUInt16)) = vs) (hz : ¬ z < 0) (hl : z.toNatClampNeg = vs.length)
    {g : JFrame} (hg : g.method = m) (hd : decode c.code g.pc = .ok (.ldc index, 2)) {n : Nat} (hn : 4 * text.toList.length ≤ n) (hbig : n ≤ 536870912) (hc : cells + 2 ≤ R.cells) (hl' : slots + (n + 4) ≤ R.slots) :
    ∃ (b' : State) (a : Addr) (T' : State) (h' : Heap) (t : Addr) (k : ClassId), Stand p l e R b' m args below meth c T' locs (cells + 2) (slots + (n + 4)) ∧ T'.heap = h' ∧ Ext h h' ∧ OwnB s b' h' ∧ Z.Warmed39 b'.vm ∧ b'.vm.findClass own = some m.cls ∧
      Exa Z h' a "java/lang/String" ∧ Fld Z h' a "java/lang/String" "coder" "B" (.int 0) ∧ Fld Z h' a "java/lang/String" "value" "[B" (.ref t) ∧ Arv Z h' t k .byte z vs (.int 0) ∧ CHr Z EL b.vm h b'.vm h' ∧ (∀ x, Safe Z EL b'.vm h' x → x ≠ a ∧ x ≠ t) ∧
      ∀ target, Steps p.tables e below (T'.setTop { g with pc := g.pc + 2, stack := .ref a :: g.stack }) target → Steps p.tables e below (T.setTop g) target := by
  obtain ⟨vm0, k0, rfl, hS, hk⟩ := B
  obtain ⟨a, T', h', k1, t, k, X', e', E', S', q', Z', o', A1, A2, A3, A4, -, -, C', -, ne', st⟩ := ldcCH X hx hZ hown w wS eT hS hk hEL hmem H ht hz hl hg hd hn hbig hc hl'
  exact ⟨s.setVm T'.vm, a, T', h', t, k, X', e', E', ⟨T'.vm, k1, rfl, S', q'⟩, Z', o', A1, A2, A3, A4, C', ne', st⟩
abbrev OwnPostW (Z : State) (EL : List (String × Nat)) (vm : Vm) (h : Heap) (Q : Option Value → Heap → List Loc → Prop) (rc rs : Nat) : Pt → Array Value → Option Value → Pt → Prop := fun A _ v B => ∃ L, Q v B.U.heap L ∧ B.locs = A.locs ++ L ∧ B.cells = A.cells + rc ∧ B.slots = A.slots + rs ∧ CHr Z EL vm h B.U.vm B.U.heap
theorem own_at (X : Stand p l e R b m args below meth c T locs cells slots) (hZ : Z.Warmed39 b.vm) (w : EW Z a0 EL) (H : CHv Z EL b.vm h) : CHr Z EL b.vm h T.vm h := CHv.at (s := b) (vm0 := b.vm) X hZ w H
/-- the contract of a callee that may intern, at a call -/
theorem own_backW {y : MethodName} {bytes : ByteArray} {maxL : Nat} {ret : Option FieldType} {rm : Room} {len W : Nat} {as' : Array Value} {Q : Option Value → Heap → List Loc → Prop} {ws : List Addr}
    (hM : MetFree l y (head1 [Jvm.Cond.code y bytes maxL ret] rm) (fun a U => a = as' ∧ Z.Warmed39 U.vm ∧ U.heap = h ∧ CHv Z EL U.vm h ∧ ∀ x ∈ ws, Safe Z EL U.vm h x) (fun _ _ _ _ _ => True) (fun _ U o U' => ∃ v L, o = .returned v ∧ Q v U'.heap L ∧ CHr Z EL U.vm U.heap U'.vm U'.heap ∧ ReturnedEndW U o U' L rm.cells rm.slots))
    (hZ : Z.Warmed39 b.vm) (wc : (Jvm.Cond.code y bytes maxL ret).before a0 Z = true) (wz : (Jvm.Cond.initialized y.cls).before a0 Z = true) (hf : rm.frames + 1 ≤ R.frames) (hl : W + (maxL + 11) + rm.locals ≤ R.locals) (hEL : EW Z a0 EL) (H : CHv Z EL b.vm h) (hs : ∀ x ∈ ws, x < h.size ∧ Safe Z EL b.vm h x) :
    BackS l R p e below b args y len W (OwnPre R as' h rm.cells rm.slots) (OwnPostW Z EL b.vm h Q rm.cells rm.slots) := by
  refine BackS.of_freeW (bytes := bytes) (maxL := maxL) (ret := ret) (E := fun _ first o t L k n => (∃ v, o = .returned v ∧ Q v t.heap L) ∧ CHr Z EL first.vm first.heap t.vm t.heap ∧ k = rm.cells ∧ n = rm.slots) hM hf hl ?_ ?_ (fun _ _ _ _ _ _ _ _ _ => trivial) ?_ ?_
  · intro m meth c A a Y hp
    have hU : Z.Warmed39 A.U.vm := wtrans (s := b) hZ Y.warmed
    refine ⟨?_, mv hU wc, mv hU wz, hp.2.2.1, hp.2.2.2⟩
    show (Jvm.Cond.and _ .tt).before a A.U = true
    rw [Cond.before_and, mv hU wc]; rfl
  · intro m meth c A a g mk Y hp
    have q := own_at Y hZ hEL H
    exact ⟨hp.1, wtrans (s := b) hZ Y.warmed, hp.2.1, q.1, fun x hx => q.safe (hs x hx).1 (hs x hx).2⟩
  · rintro _ _ _ _ ⟨v, L, h1, h2, h3, h4⟩
    exact ⟨L, _, _, h4, ⟨v, h1, h2⟩, h3, rfl, rfl⟩
  · rintro m meth c A a g mk v t L k n Y hp - - ⟨⟨v', e3, e4⟩, e5, rfl, rfl⟩
    cases e3
    refine ⟨L, e4, rfl, rfl, rfl, (own_at Y hZ hEL H).trans ?_⟩
    have e6 : CHr Z EL A.U.vm A.U.heap t.vm t.heap := e5
    rw [hp.2.1] at e6; exact e6
theorem own_callSW (X : Stand p l e R b m args below meth c T locs cells slots) (hexec : p.tables.exec = Jvm.exec) {own : String} {index : Nat} {y : MethodName} {bytes : ByteArray} {maxL : Nat} {ret : Option FieldType}
    (hown : b.vm.findClass own = some m.cls) (hlink : (Jvm.Cond.methodLink own index y).before args b = true) (hstat : (Jvm.Cond.static y).before args b = true) (hinit : (Jvm.Cond.initialized y.cls).before args b = true)
    (hcode : (Jvm.Cond.code y bytes maxL ret).before args b = true) (hy : y.cls ≠ "java/lang/invoke/MethodHandle" ∧ y.cls ≠ "java/lang/invoke/VarHandle") (hZ : Z.Warmed39 b.vm) (B : OwnB s b h)
    {W : Nat} {as' : Array Value} {Q : Option Value → Heap → List Loc → Prop} {rc rs : Nat} (hK : BackS l R p e below b args y 3 W (OwnPre R as' h rc rs) (OwnPostW Z EL b.vm h Q rc rs))
    {g : JFrame} (hg : g.method = m) (hsize : g.locals.size = c.maxLocals) {argsL rest : List Value} (hlen : ∀ sig, parseMethodDescriptor y.desc = some sig → argsL.length = sig.parameters.length)
    (hstack : g.stack = argsL.reverse ++ rest) (hW : 2 * g.monitorRoom + (rest.map fun v => v.category).sum ≤ W) (hdg : decode c.code g.pc = .ok (.invokestatic index, 3))
    (ha : argsL.toArray = as') (eT : T.heap = h) (hc : cells + rc ≤ R.cells) (hs : slots + rs ≤ R.slots) :
    ∃ (b' T' : State) (L : List Loc) (v : Option Value), Stand p l e R b' m args below meth c T' (locs ++ L) (cells + rc) (slots + rs) ∧ Q v T'.heap L ∧ OwnB s b' T'.heap ∧ Z.Warmed39 b'.vm ∧ b'.vm.findClass own = some m.cls ∧ CHr Z EL b.vm h b'.vm T'.heap ∧
      ∀ target, Steps p.tables e below (T'.setTop { g with pc := g.pc + 3, stack := v.toList ++ rest }) target → Steps p.tables e below (T.setTop g) target := by
  obtain ⟨v, _, ⟨T1, L1, k1, n1⟩, -, X1, S1, g1, ⟨Lc, hQ, l1, y1, z1, C1⟩, st⟩ := callSS X hexec hown hlink hstat hinit hcode hy hK hg hsize hlen hstack hW hdg (fun _ _ => ⟨ha, eT, hc, hs⟩)
  dsimp only [Pt.U, Pt.locs, Pt.cells, Pt.slots] at X1 l1 y1 z1 st hQ C1 S1 g1
  subst l1 y1 z1
  obtain ⟨vm0, k0, rfl, hS, hk⟩ := B
  exact ⟨(s.setVm vm0).setVm T1.vm, T1, Lc, v, X1, hQ, ⟨T1.vm, T1.heap.size, rfl, hS.trans S1 (Nat.le_trans hk (eT ▸ g1)), Nat.le_refl _⟩, State.Warmed39.trans (t := s.setVm vm0) hZ S1.1, by show T1.vm.findClass own = _; rw [S1.1.alike.findClass]; exact hown, C1, fun t k => st.trans k⟩
theorem own_callIW (X : Stand p l e R b m args below meth c T locs cells slots) (hexec : p.tables.exec = Jvm.exec) {own : String} {index : Nat} {y : MethodName} (hy1 : y.name = "<init>")
    (hown : b.vm.findClass own = some m.cls) (hlink : (Jvm.Cond.methodLink own index y).before args b = true) (hinst : (Jvm.Cond.instanceMethod y).before args b = true)
    {bytes : ByteArray} {maxL : Nat} (hcode : (Jvm.Cond.code y bytes maxL none).before args b = true) (hy : y.cls ≠ "java/lang/invoke/MethodHandle" ∧ y.cls ≠ "java/lang/invoke/VarHandle") (hZ : Z.Warmed39 b.vm) (B : OwnB s b h)
    {W : Nat} {as' : Array Value} {Q : Option Value → Heap → List Loc → Prop} {rc rs : Nat} (hK : BackS l R p e below b args y 3 W (OwnPre R as' h rc rs) (OwnPostW Z EL b.vm h Q rc rs))
    {g : JFrame} (hg : g.method = m) (hsize : g.locals.size = c.maxLocals) {a : Addr} {argsL rest : List Value}
    (hlen : ∀ sig, parseMethodDescriptor y.desc = some sig → argsL.length = sig.parameters.length) (hstack : g.stack = argsL.reverse ++ .ref a :: rest) (hW : 2 * g.monitorRoom + (rest.map fun v => v.category).sum ≤ W)
    (hdg : decode c.code g.pc = .ok (.invokespecial index, 3)) (ha : (Value.ref a :: argsL).toArray = as') (eT : T.heap = h) (hc : cells + rc ≤ R.cells) (hs : slots + rs ≤ R.slots) :
    ∃ (b' T' : State) (L : List Loc) (v : Option Value), Stand p l e R b' m args below meth c T' (locs ++ L) (cells + rc) (slots + rs) ∧ Q v T'.heap L ∧ OwnB s b' T'.heap ∧ Z.Warmed39 b'.vm ∧ b'.vm.findClass own = some m.cls ∧ CHr Z EL b.vm h b'.vm T'.heap ∧
      ∀ target, Steps p.tables e below (T'.setTop { g with pc := g.pc + 3, stack := v.toList ++ rest }) target → Steps p.tables e below (T.setTop g) target := by
  obtain ⟨v, _, ⟨T1, L1, k1, n1⟩, -, X1, S1, g1, ⟨Lc, hQ, l1, y1, z1, C1⟩, st⟩ := X.specialBackS hexec hy1 hown hlink hinst hcode hy hK hg hsize (Steps.refl _) hlen hstack hW hdg (fun _ _ => ⟨ha, eT, hc, hs⟩)
  dsimp only [Pt.U, Pt.locs, Pt.cells, Pt.slots] at X1 l1 y1 z1 st hQ C1 S1 g1
  subst l1 y1 z1
  obtain ⟨vm0, k0, rfl, hS, hk⟩ := B
  exact ⟨(s.setVm vm0).setVm T1.vm, T1, Lc, v, X1, hQ, ⟨T1.vm, T1.heap.size, rfl, hS.trans S1 (Nat.le_trans hk (eT ▸ g1)), Nat.le_refl _⟩, State.Warmed39.trans (t := s.setVm vm0) hZ S1.1, by show T1.vm.findClass own = _; rw [S1.1.alike.findClass]; exact hown, C1, fun t k => st.trans k⟩
theorem own_callVW (X : Stand p l e R b m args below meth c T locs cells slots) (hexec : p.tables.exec = Jvm.exec) {own C : String} {index : Nat} {y z : MethodName}
    (hown : b.vm.findClass own = some m.cls) (hlink : (Jvm.Cond.methodLink own index y).before args b = true) (hdecl : (Jvm.Cond.declares y).before args b = true) (hnf : NotFace b y)
    (hsel : (Jvm.Cond.selects C y z).before args b = true) (hinst : (Jvm.Cond.instanceMethod z).before args b = true) (hy : y.cls ≠ "java/lang/invoke/MethodHandle" ∧ y.cls ≠ "java/lang/invoke/VarHandle") (hZ : Z.Warmed39 b.vm) (B : OwnB s b h)
    {W : Nat} {as' : Array Value} {Q : Option Value → Heap → List Loc → Prop} {rc rs : Nat} (hK : BackS l R p e below b args z 3 W (OwnPre R as' h rc rs) (OwnPostW Z EL b.vm h Q rc rs))
    {x : Addr} {cB : ClassId} (hcB : b.vm.findClass C = some cB) (hrecv : IsOf cB T x)
    {g : JFrame} (hg : g.method = m) (hsize : g.locals.size = c.maxLocals) {argsL rest : List Value}
    (hlen : ∀ sig, parseMethodDescriptor y.desc = some sig → argsL.length = sig.parameters.length) (hstack : g.stack = argsL.reverse ++ .ref x :: rest) (hW : 2 * g.monitorRoom + (rest.map fun v => v.category).sum ≤ W)
    (hdg : decode c.code g.pc = .ok (.invokevirtual index, 3)) (ha : (Value.ref x :: argsL).toArray = as') (eT : T.heap = h) (hc : cells + rc ≤ R.cells) (hs : slots + rs ≤ R.slots) :
    ∃ (b' T' : State) (L : List Loc) (v : Option Value), Stand p l e R b' m args below meth c T' (locs ++ L) (cells + rc) (slots + rs) ∧ Q v T'.heap L ∧ OwnB s b' T'.heap ∧ Z.Warmed39 b'.vm ∧ b'.vm.findClass own = some m.cls ∧ CHr Z EL b.vm h b'.vm T'.heap ∧
      ∀ target, Steps p.tables e below (T'.setTop { g with pc := g.pc + 3, stack := v.toList ++ rest }) target → Steps p.tables e below (T.setTop g) target := by
  obtain ⟨v, _, ⟨T1, L1, k1, n1⟩, -, X1, S1, g1, ⟨Lc, hQ, l1, y1, z1, C1⟩, st⟩ := X.virtualBackS hexec hown hlink hdecl hnf hsel hinst hy hK hcB hrecv hg hsize (Steps.refl _) hlen hstack hW hdg (fun _ _ => ⟨ha, eT, hc, hs⟩)
  dsimp only [Pt.U, Pt.locs, Pt.cells, Pt.slots] at X1 l1 y1 z1 st hQ C1 S1 g1
  subst l1 y1 z1
  obtain ⟨vm0, k0, rfl, hS, hk⟩ := B
  exact ⟨(s.setVm vm0).setVm T1.vm, T1, Lc, v, X1, hQ, ⟨T1.vm, T1.heap.size, rfl, hS.trans S1 (Nat.le_trans hk (eT ▸ g1)), Nat.le_refl _⟩, State.Warmed39.trans (t := s.setVm vm0) hZ S1.1, by show T1.vm.findClass own = _; rw [S1.1.alike.findClass]; exact hown, C1, fun t k => st.trans k⟩
theorem own_leaveW (X : Stand p l e R b m args below meth c T locs cells slots) (B : OwnB s b h) (eT : T.heap = h) {v : Option Value} (hv : meth.sig.returnType = none → v = none) (hlk : meth.locks = false) :
    ∃ fs, (∀ (f : JFrame) (acts : List Action), f.method = m → f.locked = none → f.entered = [] → (doReturn e (T.setTop f) acts v).1 = T.setFrames fs) ∧
      (T.setFrames fs).status = .running ∧ Ended (T.setFrames fs) below (.returned v) ∧ ReturnedEndW s (.returned v) (T.setFrames fs) locs cells slots := by
  obtain ⟨vm0, k0, rfl, hS, hk⟩ := B
  exact X.leaveW hS (by rw [eT]; exact hk) hv hlk
theorem own_endW (X : Stand p l e R b m args below meth c T locs cells slots) (hZ : Z.Warmed39 b.vm) (w : EW Z a0 EL) (eT : T.heap = h) {h0 : Heap} (e0 : s.heap = h0) (C : CHr Z EL s.vm h0 b.vm h) (fs : List Frame) : CHr Z EL s.vm s.heap (T.setFrames fs).vm (T.setFrames fs).heap := by
  show CHr Z EL s.vm s.heap T.vm T.heap
  rw [e0, eT]; exact C.trans (own_at X hZ w C.1)
theorem own_monoW {o : Outcome} {t : State} {L : List Loc} {k n k' n' : Nat} (h : ReturnedEndW s o t L k n) (hk : k ≤ k') (hn : n ≤ n') : ReturnedEndW s o t L k' n' := ⟨h.1, h.2.1, h.2.2.1, h.2.2.2.mono hk hn⟩
end OwnWide

theorem own_EW {Z : State} {aw : Array Value} (hw : ∀ d ∈ tables_1, d.before aw Z = true) : EW Z aw consts_1 := (EW.cons (own := "java/lang/String") (index := 7) (w19 hw) (by decide +kernel) (EW.cons (own := "java/lang/StringLatin1") (index := 151) (w125 hw) (by decide +kernel) EW.nil))
theorem own_wS {Z : State} {aw : Array Value} (hw : ∀ d ∈ tables_1, d.before aw Z = true) : ∀ a ∈ Bundle.stringAtoms, a.before aw Z = true := fun a ha => hw a ((by decide +kernel : ∀ a ∈ Bundle.stringAtoms, a ∈ tables_1) a ha)
theorem own_ws {Z : State} {aw : Array Value} (hw : ∀ d ∈ tables_1, d.before aw Z = true) : ∀ a ∈ StrChars.Road.words, a.before aw Z = true := fun a ha => hw a ((by decide +kernel : ∀ a ∈ StrChars.Road.words, a ∈ tables_1) a ha)
theorem own_wL {Z : State} {aw : Array Value} (hw : ∀ d ∈ tables_1, d.before aw Z = true) : ∀ a ∈ StrChars.Road.wordsLen, a.before aw Z = true := fun a ha => hw a ((by decide +kernel : ∀ a ∈ StrChars.Road.wordsLen, a ∈ tables_1) a ha)
theorem own_wC {Z : State} {aw : Array Value} (hw : ∀ d ∈ tables_1, d.before aw Z = true) : ∀ a ∈ StrChars.Road.wordsChN, a.before aw Z = true := fun a ha => hw a ((by decide +kernel : ∀ a ∈ StrChars.Road.wordsChN, a ∈ tables_1) a ha)

def OwnCh (x : Int32) : Prop := ¬ x < 0 ∧ ¬ (255 : Int32) < x
theorem own_chI (x : Int32) : OwnCh x ↔ 0 ≤ x.toInt ∧ x.toInt ≤ 255 := by
  rw [OwnCh, Int32.lt_iff_toInt_lt, Int32.lt_iff_toInt_lt, show (0 : Int32).toInt = 0 from by decide, show (255 : Int32).toInt = 255 from by decide]; omega
theorem own_ch {x : Int32} (h : OwnCh x) : OwnCh (x.toUInt32.toUInt16.toUInt32.toInt32) := by
  rw [own_chI] at h ⊢; have := c_i2c x; omega
theorem own_chE {x : Int32} (h : OwnCh x) : x.toUInt32.toUInt16.toUInt32.toInt32 = x := by
  rw [own_chI] at h; have := c_i2c x; exact Int32.toInt_inj.mp (by omega)
theorem own_msk (x : Int32) : OwnCh (x &&& (255 : Int32)) := by
  rw [own_chI]; have := c_mask x 255 8 (by decide) (by decide); omega
theorem own_h0 {P : Int32 → Prop} : ∀ x ∈ ([] : List Int32), P x := fun _ q => nomatch q
theorem own_hS {P : Int32 → Prop} {y : Int32} {L : List Int32} (q : P y) (r : ∀ x ∈ L, P x) : ∀ x ∈ y :: L, P x := fun x z => (List.mem_cons.mp z).elim (fun u => u ▸ q) (r x)
theorem own_up {cs : List Int32} (hp : ∀ c ∈ cs, OwnCh c) : ∀ c ∈ cs, ¬ c < 0 ∧ ¬ (65535 : Int32) < c := fun c hc => by
  have q := (own_chI c).mp (hp c hc)
  rw [Int32.lt_iff_toInt_lt, Int32.lt_iff_toInt_lt, show (0 : Int32).toInt = 0 from by decide, show (65535 : Int32).toInt = 65535 from by decide]; omega
/-- x is a Latin-1 String of the chars cs -/
def OwnStr (Z : State) (h : Heap) (x : Addr) (cs : List Int32) : Prop := ∃ (t : Addr) (kb : ClassId), Exa Z h x "java/lang/String" ∧ Fld Z h x "java/lang/String" "value" "[B" (.ref t) ∧ Fld Z h x "java/lang/String" "coder" "B" (.int 0) ∧ Arv Z h t kb .byte (Int32.ofNat cs.length) (cs.map fun c => Value.int (StrChars.lo8 c)) (.int 0) ∧ (∀ c ∈ cs, OwnCh c) ∧ cs.length ≤ 4000
theorem own_cod {cs : List Int32} (hp : ∀ c ∈ cs, OwnCh c) : StrChars.Road.CodA cs 0 (Int32.ofNat cs.length) (cs.map fun c => Value.int (StrChars.lo8 c)) := Or.inl ⟨rfl, rfl, rfl, fun c hc => (hp c hc).2⟩

theorem w7 {Z aw} (hw : OwnHW aw Z) : Cond.before (Jvm.Cond.instantiable "java/lang/String" (4 : Nat)) aw Z = true := hw _ (List.mem_of_getElem? (i := 7) rfl)

def own_wb (c : Int32) : Bool := c == 32 || c == 9
def own_trim (cs : List Int32) : List Int32 := ((cs.dropWhile own_wb).reverse.dropWhile own_wb).reverse

def own_w (p0 : Int32) : Int32 := (if p0 = (32 : Int32) then (1 : Int32) else (if p0 = (9 : Int32) then (1 : Int32) else (0 : Int32)))
theorem pn_4 : plainName "dev/boundaryline/model/HeaderValue" = true := by first | (simp [plainName, overriddenIn]; done) | decide +kernel
theorem d22_0 : decode prog_32_method_11_code 0 = .ok (.iload_n 0, 1) := by decide +kernel
theorem d22_1 : decode prog_32_method_11_code 1 = .ok (.bipush 32, 2) := by decide +kernel
theorem d22_3 : decode prog_32_method_11_code 3 = .ok (.if_icmp .eq 9, 3) := by decide +kernel
theorem d22_6 : decode prog_32_method_11_code 6 = .ok (.iload_n 0, 1) := by decide +kernel
theorem d22_7 : decode prog_32_method_11_code 7 = .ok (.bipush 9, 2) := by decide +kernel
theorem d22_9 : decode prog_32_method_11_code 9 = .ok (.if_icmp .ne 7, 3) := by decide +kernel
theorem d22_12 : decode prog_32_method_11_code 12 = .ok (.iconst 1, 1) := by decide +kernel
theorem d22_13 : decode prog_32_method_11_code 13 = .ok (.goto 4, 3) := by decide +kernel
theorem d22_16 : decode prog_32_method_11_code 16 = .ok (.iconst 0, 1) := by decide +kernel
theorem d22_17 : decode prog_32_method_11_code 17 = .ok (.ireturn, 1) := by decide +kernel
theorem ef_rm22 (m : MethodId) (p0 : Int32) : entryFrame m #[(.int p0)] 1 = mkF m 0 #[.val (.int p0)] [] := by first | (simp [entryFrame, mkF, argsToLocals, Value.category]; done) | rfl
def Qrm22 (Z : State) (p0 : Int32) (h0 : Heap) (n0 : Nat) (v : Option Value) (h : Heap) (L : List Loc) : Prop := v = some (.int (own_w p0)) ∧ Fr n0 L ∧ h = h0
set_option maxRecDepth 65536 in
set_option maxHeartbeats 40000000 in
theorem rm22 (l : Launch) (Z : State) (aw : Array Value) (hw : ∀ d ∈ tables_1, d.before aw Z = true) (ws : List Jvm.Cond) (p0 : Int32) (h0 : Heap) (n0 : Nat) (Z0 : n0 ≤ h0.size) :
    MetFree l (⟨"dev/boundaryline/model/HeaderValue", "isWhitespace", "(C)Z"⟩ : MethodName) (head1 (Jvm.Cond.code (⟨"dev/boundaryline/model/HeaderValue", "isWhitespace", "(C)Z"⟩ : MethodName) prog_32_method_11_code 1 (some .boolean) :: ws) ({ frames := 0, cells := 0, slots := 0, locals := 0 } : Room)) (fun a U => a = #[(.int p0)] ∧ Z.Warmed39 U.vm ∧ U.heap = h0) (fun _ _ _ _ _ => True) (fun _ U o U' => ∃ v L, o = .returned v ∧ Qrm22 Z p0 h0 n0 v U'.heap L ∧ FrameEnd U o U' L ({ frames := 0, cells := 0, slots := 0, locals := 0 } : Room).cells ({ frames := 0, cells := 0, slots := 0, locals := 0 } : Room).slots) := by
  refine MetFree.of_bodySF (plainFor_of_name pn_4) hisR ?_
  intro p e s m args below meth c s₁ Bd hml0 hP hK
  obtain ⟨rfl, hZ, hh⟩ := hP
  have hx := Bd.exec
  have hby := Bd.bytes
  have hml : c.maxLocals = 1 := hml0
  have hown : s.vm.findClass "dev/boundaryline/model/HeaderValue" = some m.cls := findClass_of_methodNamed Bd.named
  have hnm := (name_of_methodNamed Bd.named Bd.method).1
  have X0 : Stand p l e ({ frames := 0, cells := 0, slots := 0, locals := 0 } : Room) s m #[(.int p0)] below meth c s₁ [] 0 0 := Stand.of_body Bd
  have e0 : s₁.heap = h0 := by rw [← hh, Bd.state]; rfl
  have N0 := Fr.nil n0
  have hlk := Bd.notSynchronized
  show OwnGo p.tables e below _ (s₁.setTop (entryFrame m #[(.int p0)] 1))
  rw [ef_rm22 m p0]
  show OwnGo p.tables e below _ (s₁.setTop (mkF m 0 #[.val (.int p0)] []))
  refine OwnGo.of (A := s₁.setTop (mkF m 0 #[.val (.int p0)] [])) (B := s₁.setTop (mkF m 3 #[.val (.int p0)] [(.int (32 : Int32)), (.int p0)])) (fun t k => ?_) ?_
  · show Steps p.tables e below (s₁.setTop (mkF m 0 #[.val (.int p0)] [])) t
    refine XS.iloadN X0.here hx rfl (hb hby d22_0) rfl ?_
    refine XS.bipush X0.here hx rfl (hb hby d22_1) ?_
    exact k
  by_cases hc1 : p0 = (32 : Int32)
  · refine OwnGo.of (A := s₁.setTop (mkF m 3 #[.val (.int p0)] [(.int (32 : Int32)), (.int p0)])) (B := s₁.setTop (mkF m 17 #[.val (.int p0)] [(.int (1 : Int32))])) (fun t k => ?_) ?_
    · show Steps p.tables e below (s₁.setTop (mkF m 3 #[.val (.int p0)] [(.int (32 : Int32)), (.int p0)])) t
      refine XS.icmpYes X0.here hx rfl (pc0 := 3) (pc' := 12) rfl (hb hby d22_3) rfl (teq hc1).1 (by decide) (by decide) ?_
      refine XS.iconst X0.here hx rfl (hb hby d22_12) ?_
      refine XS.goto X0.here hx rfl (pc0 := 13) (pc' := 17) rfl (hb hby d22_13) (by decide) (by decide) ?_
      exact k
    obtain ⟨fs, hr, hrun, hended, hW, hsame⟩ := X0.leave (v := some (.int (nar .boolean (1 : Int32)))) (fun h => by rw [Bd.returns] at h; cases h) hlk
    refine ⟨_, _, ?_, hrun, hended, _, _, rfl, ?_, ⟨_, rfl⟩, hW, hsame.mono (by decide) (by decide)⟩
    · show Steps p.tables e below (s₁.setTop (mkF m 17 #[.val (.int p0)] [(.int (1 : Int32))])) _
      exact retN X0 hx (t := .boolean) Bd.returns (by simp) (hb hby d22_17) hr
    · show Qrm22 Z p0 h0 n0 _ (s₁.setFrames fs).heap _
      rw [show (s₁.setFrames fs).heap = h0 from e0]
      exact ⟨congrArg (fun z => some (Value.int z)) (by rw [own_w, if_pos hc1]; try rfl), N0, rfl⟩
  · refine OwnGo.of (A := s₁.setTop (mkF m 3 #[.val (.int p0)] [(.int (32 : Int32)), (.int p0)])) (B := s₁.setTop (mkF m 9 #[.val (.int p0)] [(.int (9 : Int32)), (.int p0)])) (fun t k => ?_) ?_
    · show Steps p.tables e below (s₁.setTop (mkF m 3 #[.val (.int p0)] [(.int (32 : Int32)), (.int p0)])) t
      refine XS.icmpNo X0.here hx rfl (hb hby d22_3) rfl (feq hc1).1 ?_
      refine XS.iloadN X0.here hx rfl (hb hby d22_6) rfl ?_
      refine XS.bipush X0.here hx rfl (hb hby d22_7) ?_
      exact k
    by_cases hc2 : p0 = (9 : Int32)
    · refine OwnGo.of (A := s₁.setTop (mkF m 9 #[.val (.int p0)] [(.int (9 : Int32)), (.int p0)])) (B := s₁.setTop (mkF m 17 #[.val (.int p0)] [(.int (1 : Int32))])) (fun t k => ?_) ?_
      · show Steps p.tables e below (s₁.setTop (mkF m 9 #[.val (.int p0)] [(.int (9 : Int32)), (.int p0)])) t
        refine XS.icmpNo X0.here hx rfl (hb hby d22_9) rfl (teq hc2).2 ?_
        refine XS.iconst X0.here hx rfl (hb hby d22_12) ?_
        refine XS.goto X0.here hx rfl (pc0 := 13) (pc' := 17) rfl (hb hby d22_13) (by decide) (by decide) ?_
        exact k
      obtain ⟨fs, hr, hrun, hended, hW, hsame⟩ := X0.leave (v := some (.int (nar .boolean (1 : Int32)))) (fun h => by rw [Bd.returns] at h; cases h) hlk
      refine ⟨_, _, ?_, hrun, hended, _, _, rfl, ?_, ⟨_, rfl⟩, hW, hsame.mono (by decide) (by decide)⟩
      · show Steps p.tables e below (s₁.setTop (mkF m 17 #[.val (.int p0)] [(.int (1 : Int32))])) _
        exact retN X0 hx (t := .boolean) Bd.returns (by simp) (hb hby d22_17) hr
      · show Qrm22 Z p0 h0 n0 _ (s₁.setFrames fs).heap _
        rw [show (s₁.setFrames fs).heap = h0 from e0]
        exact ⟨congrArg (fun z => some (Value.int z)) (by rw [own_w, if_neg hc1, if_pos hc2]; try rfl), N0, rfl⟩
    · refine OwnGo.of (A := s₁.setTop (mkF m 9 #[.val (.int p0)] [(.int (9 : Int32)), (.int p0)])) (B := s₁.setTop (mkF m 17 #[.val (.int p0)] [(.int (0 : Int32))])) (fun t k => ?_) ?_
      · show Steps p.tables e below (s₁.setTop (mkF m 9 #[.val (.int p0)] [(.int (9 : Int32)), (.int p0)])) t
        refine XS.icmpYes X0.here hx rfl (pc0 := 9) (pc' := 16) rfl (hb hby d22_9) rfl (feq hc2).2 (by decide) (by decide) ?_
        refine XS.iconst X0.here hx rfl (hb hby d22_16) ?_
        exact k
      obtain ⟨fs, hr, hrun, hended, hW, hsame⟩ := X0.leave (v := some (.int (nar .boolean (0 : Int32)))) (fun h => by rw [Bd.returns] at h; cases h) hlk
      refine ⟨_, _, ?_, hrun, hended, _, _, rfl, ?_, ⟨_, rfl⟩, hW, hsame.mono (by decide) (by decide)⟩
      · show Steps p.tables e below (s₁.setTop (mkF m 17 #[.val (.int p0)] [(.int (0 : Int32))])) _
        exact retN X0 hx (t := .boolean) Bd.returns (by simp) (hb hby d22_17) hr
      · show Qrm22 Z p0 h0 n0 _ (s₁.setFrames fs).heap _
        rw [show (s₁.setFrames fs).heap = h0 from e0]
        exact ⟨congrArg (fun z => some (Value.int z)) (by rw [own_w, if_neg hc1, if_neg hc2]; try rfl), N0, rfl⟩
def own_w2 (p0 : Int32) : Int32 := (if p0 = (32 : Int32) then (1 : Int32) else (if p0 = (9 : Int32) then (1 : Int32) else (0 : Int32)))
theorem pn_5 : plainName "dev/boundaryline/model/HeaderValueTrimPinLaw" = true := by first | (simp [plainName, overriddenIn]; done) | decide +kernel
theorem d16_0 : decode method_3_code 0 = .ok (.iload_n 0, 1) := by decide +kernel
theorem d16_1 : decode method_3_code 1 = .ok (.bipush 32, 2) := by decide +kernel
theorem d16_3 : decode method_3_code 3 = .ok (.if_icmp .eq 9, 3) := by decide +kernel
theorem d16_6 : decode method_3_code 6 = .ok (.iload_n 0, 1) := by decide +kernel
theorem d16_7 : decode method_3_code 7 = .ok (.bipush 9, 2) := by decide +kernel
theorem d16_9 : decode method_3_code 9 = .ok (.if_icmp .ne 7, 3) := by decide +kernel
theorem d16_12 : decode method_3_code 12 = .ok (.iconst 1, 1) := by decide +kernel
theorem d16_13 : decode method_3_code 13 = .ok (.goto 4, 3) := by decide +kernel
theorem d16_16 : decode method_3_code 16 = .ok (.iconst 0, 1) := by decide +kernel
theorem d16_17 : decode method_3_code 17 = .ok (.ireturn, 1) := by decide +kernel
theorem ef_rm16 (m : MethodId) (p0 : Int32) : entryFrame m #[(.int p0)] 1 = mkF m 0 #[.val (.int p0)] [] := by first | (simp [entryFrame, mkF, argsToLocals, Value.category]; done) | rfl
def Qrm16 (Z : State) (p0 : Int32) (h0 : Heap) (n0 : Nat) (v : Option Value) (h : Heap) (L : List Loc) : Prop := v = some (.int (own_w2 p0)) ∧ Fr n0 L ∧ h = h0
set_option maxRecDepth 65536 in
set_option maxHeartbeats 40000000 in
theorem rm16 (l : Launch) (Z : State) (aw : Array Value) (hw : ∀ d ∈ tables_1, d.before aw Z = true) (ws : List Jvm.Cond) (p0 : Int32) (h0 : Heap) (n0 : Nat) (Z0 : n0 ≤ h0.size) :
    MetFree l (⟨"dev/boundaryline/model/HeaderValueTrimPinLaw", "ws", "(C)Z"⟩ : MethodName) (head1 (Jvm.Cond.code (⟨"dev/boundaryline/model/HeaderValueTrimPinLaw", "ws", "(C)Z"⟩ : MethodName) method_3_code 1 (some .boolean) :: ws) ({ frames := 0, cells := 0, slots := 0, locals := 0 } : Room)) (fun a U => a = #[(.int p0)] ∧ Z.Warmed39 U.vm ∧ U.heap = h0) (fun _ _ _ _ _ => True) (fun _ U o U' => ∃ v L, o = .returned v ∧ Qrm16 Z p0 h0 n0 v U'.heap L ∧ FrameEnd U o U' L ({ frames := 0, cells := 0, slots := 0, locals := 0 } : Room).cells ({ frames := 0, cells := 0, slots := 0, locals := 0 } : Room).slots) := by
  refine MetFree.of_bodySF (plainFor_of_name pn_5) hisR ?_
  intro p e s m args below meth c s₁ Bd hml0 hP hK
  obtain ⟨rfl, hZ, hh⟩ := hP
  have hx := Bd.exec
  have hby := Bd.bytes
  have hml : c.maxLocals = 1 := hml0
  have hown : s.vm.findClass "dev/boundaryline/model/HeaderValueTrimPinLaw" = some m.cls := findClass_of_methodNamed Bd.named
  have hnm := (name_of_methodNamed Bd.named Bd.method).1
  have X0 : Stand p l e ({ frames := 0, cells := 0, slots := 0, locals := 0 } : Room) s m #[(.int p0)] below meth c s₁ [] 0 0 := Stand.of_body Bd
  have e0 : s₁.heap = h0 := by rw [← hh, Bd.state]; rfl
  have N0 := Fr.nil n0
  have hlk := Bd.notSynchronized
  show OwnGo p.tables e below _ (s₁.setTop (entryFrame m #[(.int p0)] 1))
  rw [ef_rm16 m p0]
  show OwnGo p.tables e below _ (s₁.setTop (mkF m 0 #[.val (.int p0)] []))
  refine OwnGo.of (A := s₁.setTop (mkF m 0 #[.val (.int p0)] [])) (B := s₁.setTop (mkF m 3 #[.val (.int p0)] [(.int (32 : Int32)), (.int p0)])) (fun t k => ?_) ?_
  · show Steps p.tables e below (s₁.setTop (mkF m 0 #[.val (.int p0)] [])) t
    refine XS.iloadN X0.here hx rfl (hb hby d16_0) rfl ?_
    refine XS.bipush X0.here hx rfl (hb hby d16_1) ?_
    exact k
  by_cases hc1 : p0 = (32 : Int32)
  · refine OwnGo.of (A := s₁.setTop (mkF m 3 #[.val (.int p0)] [(.int (32 : Int32)), (.int p0)])) (B := s₁.setTop (mkF m 17 #[.val (.int p0)] [(.int (1 : Int32))])) (fun t k => ?_) ?_
    · show Steps p.tables e below (s₁.setTop (mkF m 3 #[.val (.int p0)] [(.int (32 : Int32)), (.int p0)])) t
      refine XS.icmpYes X0.here hx rfl (pc0 := 3) (pc' := 12) rfl (hb hby d16_3) rfl (teq hc1).1 (by decide) (by decide) ?_
      refine XS.iconst X0.here hx rfl (hb hby d16_12) ?_
      refine XS.goto X0.here hx rfl (pc0 := 13) (pc' := 17) rfl (hb hby d16_13) (by decide) (by decide) ?_
      exact k
    obtain ⟨fs, hr, hrun, hended, hW, hsame⟩ := X0.leave (v := some (.int (nar .boolean (1 : Int32)))) (fun h => by rw [Bd.returns] at h; cases h) hlk
    refine ⟨_, _, ?_, hrun, hended, _, _, rfl, ?_, ⟨_, rfl⟩, hW, hsame.mono (by decide) (by decide)⟩
    · show Steps p.tables e below (s₁.setTop (mkF m 17 #[.val (.int p0)] [(.int (1 : Int32))])) _
      exact retN X0 hx (t := .boolean) Bd.returns (by simp) (hb hby d16_17) hr
    · show Qrm16 Z p0 h0 n0 _ (s₁.setFrames fs).heap _
      rw [show (s₁.setFrames fs).heap = h0 from e0]
      exact ⟨congrArg (fun z => some (Value.int z)) (by rw [own_w2, if_pos hc1]; try rfl), N0, rfl⟩
  · refine OwnGo.of (A := s₁.setTop (mkF m 3 #[.val (.int p0)] [(.int (32 : Int32)), (.int p0)])) (B := s₁.setTop (mkF m 9 #[.val (.int p0)] [(.int (9 : Int32)), (.int p0)])) (fun t k => ?_) ?_
    · show Steps p.tables e below (s₁.setTop (mkF m 3 #[.val (.int p0)] [(.int (32 : Int32)), (.int p0)])) t
      refine XS.icmpNo X0.here hx rfl (hb hby d16_3) rfl (feq hc1).1 ?_
      refine XS.iloadN X0.here hx rfl (hb hby d16_6) rfl ?_
      refine XS.bipush X0.here hx rfl (hb hby d16_7) ?_
      exact k
    by_cases hc2 : p0 = (9 : Int32)
    · refine OwnGo.of (A := s₁.setTop (mkF m 9 #[.val (.int p0)] [(.int (9 : Int32)), (.int p0)])) (B := s₁.setTop (mkF m 17 #[.val (.int p0)] [(.int (1 : Int32))])) (fun t k => ?_) ?_
      · show Steps p.tables e below (s₁.setTop (mkF m 9 #[.val (.int p0)] [(.int (9 : Int32)), (.int p0)])) t
        refine XS.icmpNo X0.here hx rfl (hb hby d16_9) rfl (teq hc2).2 ?_
        refine XS.iconst X0.here hx rfl (hb hby d16_12) ?_
        refine XS.goto X0.here hx rfl (pc0 := 13) (pc' := 17) rfl (hb hby d16_13) (by decide) (by decide) ?_
        exact k
      obtain ⟨fs, hr, hrun, hended, hW, hsame⟩ := X0.leave (v := some (.int (nar .boolean (1 : Int32)))) (fun h => by rw [Bd.returns] at h; cases h) hlk
      refine ⟨_, _, ?_, hrun, hended, _, _, rfl, ?_, ⟨_, rfl⟩, hW, hsame.mono (by decide) (by decide)⟩
      · show Steps p.tables e below (s₁.setTop (mkF m 17 #[.val (.int p0)] [(.int (1 : Int32))])) _
        exact retN X0 hx (t := .boolean) Bd.returns (by simp) (hb hby d16_17) hr
      · show Qrm16 Z p0 h0 n0 _ (s₁.setFrames fs).heap _
        rw [show (s₁.setFrames fs).heap = h0 from e0]
        exact ⟨congrArg (fun z => some (Value.int z)) (by rw [own_w2, if_neg hc1, if_pos hc2]; try rfl), N0, rfl⟩
    · refine OwnGo.of (A := s₁.setTop (mkF m 9 #[.val (.int p0)] [(.int (9 : Int32)), (.int p0)])) (B := s₁.setTop (mkF m 17 #[.val (.int p0)] [(.int (0 : Int32))])) (fun t k => ?_) ?_
      · show Steps p.tables e below (s₁.setTop (mkF m 9 #[.val (.int p0)] [(.int (9 : Int32)), (.int p0)])) t
        refine XS.icmpYes X0.here hx rfl (pc0 := 9) (pc' := 16) rfl (hb hby d16_9) rfl (feq hc2).2 (by decide) (by decide) ?_
        refine XS.iconst X0.here hx rfl (hb hby d16_16) ?_
        exact k
      obtain ⟨fs, hr, hrun, hended, hW, hsame⟩ := X0.leave (v := some (.int (nar .boolean (0 : Int32)))) (fun h => by rw [Bd.returns] at h; cases h) hlk
      refine ⟨_, _, ?_, hrun, hended, _, _, rfl, ?_, ⟨_, rfl⟩, hW, hsame.mono (by decide) (by decide)⟩
      · show Steps p.tables e below (s₁.setTop (mkF m 17 #[.val (.int p0)] [(.int (0 : Int32))])) _
        exact retN X0 hx (t := .boolean) Bd.returns (by simp) (hb hby d16_17) hr
      · show Qrm16 Z p0 h0 n0 _ (s₁.setFrames fs).heap _
        rw [show (s₁.setFrames fs).heap = h0 from e0]
        exact ⟨congrArg (fun z => some (Value.int z)) (by rw [own_w2, if_neg hc1, if_neg hc2]; try rfl), N0, rfl⟩

theorem own_wT {c : Int32} (h : ¬ own_w c = (0 : Int32)) : own_wb c = true := by
  unfold own_w at h; unfold own_wb
  by_cases h1 : c = 32
  · simp [h1]
  · by_cases h2 : c = 9
    · simp [h2]
    · simp [h1, h2] at h
theorem own_wF {c : Int32} (h : own_w c = (0 : Int32)) : own_wb c = false := by
  unfold own_w at h; unfold own_wb
  by_cases h1 : c = 32
  · simp [h1] at h
  · by_cases h2 : c = 9
    · simp [h2] at h
    · simp [h1, h2]
theorem own_w2e (c : Int32) : own_w2 c = own_w c := rfl


def own_skip (cs : List Int32) : Nat := (cs.takeWhile own_wb).length
def own_rt (cs : List Int32) : List Int32 := (cs.reverse.dropWhile own_wb).reverse
theorem own_skip_nil : own_skip [] = 0 := rfl
theorem own_skip_le (cs : List Int32) : own_skip cs ≤ cs.length := by
  unfold own_skip; induction cs with
  | nil => exact Nat.le_refl _
  | cons c cs ih => rw [List.takeWhile_cons]; split <;> simp <;> omega
theorem own_dropw (cs : List Int32) : cs.dropWhile own_wb = cs.drop (own_skip cs) := by
  unfold own_skip; induction cs with
  | nil => rfl
  | cons c cs ih => rw [List.takeWhile_cons, List.dropWhile_cons]; split <;> simp [ih]
theorem own_dropi {cs : List Int32} {i : Nat} (h : i < cs.length) : cs.drop i = cs.getD i 0 :: cs.drop (i + 1) := by
  rw [List.drop_eq_getElem_cons h, List.getD_eq_getElem?_getD, List.getElem?_eq_getElem h]; rfl
theorem own_skT {cs : List Int32} {i : Nat} (h : i < cs.length) (q : own_wb (cs.getD i 0) = true) (hs : own_skip cs = i + own_skip (cs.drop i)) : own_skip cs = i + 1 + own_skip (cs.drop (i + 1)) := by
  rw [own_dropi h] at hs; simp only [own_skip, List.takeWhile_cons, q, if_true, List.length_cons] at hs ⊢; omega
theorem own_skF {cs : List Int32} {i : Nat} (h : i < cs.length) (q : own_wb (cs.getD i 0) = false) (hs : own_skip cs = i + own_skip (cs.drop i)) : own_skip cs = i := by
  rw [own_dropi h] at hs; simp only [own_skip, List.takeWhile_cons, q] at hs ⊢; simpa using hs
theorem own_skE {cs : List Int32} {i : Nat} (h : i + 0 = cs.length) (hs : own_skip cs = i + own_skip (cs.drop i)) : own_skip cs = i := by
  rw [List.drop_eq_nil_of_le (by omega), own_skip_nil] at hs; omega
theorem own_suc (i : Nat) : Int32.ofNat i + (1 : Int32) = Int32.ofNat (i + 1) := by rw [Int32.ofNat_add]; rfl
theorem own_ofltN {i n : Nat} (h : i < n) (hn : n ≤ 4000) : Int32.ofNat i < Int32.ofNat n := by
  rw [Int32.lt_iff_toInt_lt, Int32.toInt_ofNat_of_lt (by omega), Int32.toInt_ofNat_of_lt (by omega)]; omega
theorem own_irr {i n : Nat} (h : i + 0 = n) : ¬ Int32.ofNat i < Int32.ofNat n := by
  rw [show i = n from h, Int32.lt_iff_toInt_lt]; omega

theorem w34 {Z aw} (hw : OwnHW aw Z) : Cond.before (Jvm.Cond.methodLink "dev/boundaryline/model/HeaderValue" (17 : Nat) ({ cls := "java/lang/String", name := "length", desc := "()I" } : Jvm.MethodName)) aw Z = true := hw _ (List.mem_of_getElem? (i := 34) rfl)
theorem w38 {Z aw} (hw : OwnHW aw Z) : Cond.before (Jvm.Cond.code ({ cls := "java/lang/String", name := "length", desc := "()I" } : Jvm.MethodName) jdk_42_method_54_code (1 : Nat) (Option.some Jvm.ClassFile.FieldType.int)) aw Z = true := hw _ (List.mem_of_getElem? (i := 38) rfl)
theorem w8 {Z aw} (hw : OwnHW aw Z) : Cond.before (Jvm.Cond.initialized "java/lang/String") aw Z = true := hw _ (List.mem_of_getElem? (i := 8) rfl)
theorem pd_9 : parseMethodDescriptor "()I" = some ⟨[], some .int⟩ := by decide +kernel
theorem w37 {Z aw} (hw : OwnHW aw Z) : Cond.before (Jvm.Cond.selects "java/lang/String" ({ cls := "java/lang/String", name := "length", desc := "()I" } : Jvm.MethodName) ({ cls := "java/lang/String", name := "length", desc := "()I" } : Jvm.MethodName)) aw Z = true := hw _ (List.mem_of_getElem? (i := 37) rfl)
theorem w35 {Z aw} (hw : OwnHW aw Z) : Cond.before (Jvm.Cond.declares ({ cls := "java/lang/String", name := "length", desc := "()I" } : Jvm.MethodName)) aw Z = true := hw _ (List.mem_of_getElem? (i := 35) rfl)
theorem w36 {Z aw} (hw : OwnHW aw Z) : Cond.before (Jvm.Cond.instanceMethod ({ cls := "java/lang/String", name := "length", desc := "()I" } : Jvm.MethodName)) aw Z = true := hw _ (List.mem_of_getElem? (i := 36) rfl)
theorem w76 {Z aw} (hw : OwnHW aw Z) : Cond.before (Jvm.Cond.methodLink "dev/boundaryline/model/HeaderValue" (38 : Nat) ({ cls := "java/lang/String", name := "charAt", desc := "(I)C" } : Jvm.MethodName)) aw Z = true := hw _ (List.mem_of_getElem? (i := 76) rfl)
theorem w80 {Z aw} (hw : OwnHW aw Z) : Cond.before (Jvm.Cond.code ({ cls := "java/lang/String", name := "charAt", desc := "(I)C" } : Jvm.MethodName) jdk_42_method_56_code (2 : Nat) (Option.some Jvm.ClassFile.FieldType.char)) aw Z = true := hw _ (List.mem_of_getElem? (i := 80) rfl)
theorem pd_15 : parseMethodDescriptor "(I)C" = some ⟨[.int], some .char⟩ := by decide +kernel
theorem w79 {Z aw} (hw : OwnHW aw Z) : Cond.before (Jvm.Cond.selects "java/lang/String" ({ cls := "java/lang/String", name := "charAt", desc := "(I)C" } : Jvm.MethodName) ({ cls := "java/lang/String", name := "charAt", desc := "(I)C" } : Jvm.MethodName)) aw Z = true := hw _ (List.mem_of_getElem? (i := 79) rfl)
theorem w77 {Z aw} (hw : OwnHW aw Z) : Cond.before (Jvm.Cond.declares ({ cls := "java/lang/String", name := "charAt", desc := "(I)C" } : Jvm.MethodName)) aw Z = true := hw _ (List.mem_of_getElem? (i := 77) rfl)
theorem w78 {Z aw} (hw : OwnHW aw Z) : Cond.before (Jvm.Cond.instanceMethod ({ cls := "java/lang/String", name := "charAt", desc := "(I)C" } : Jvm.MethodName)) aw Z = true := hw _ (List.mem_of_getElem? (i := 78) rfl)
theorem w96 {Z aw} (hw : OwnHW aw Z) : Cond.before (Jvm.Cond.methodLink "dev/boundaryline/model/HeaderValue" (119 : Nat) ({ cls := "dev/boundaryline/model/HeaderValue", name := "isWhitespace", desc := "(C)Z" } : Jvm.MethodName)) aw Z = true := hw _ (List.mem_of_getElem? (i := 96) rfl)
theorem w98 {Z aw} (hw : OwnHW aw Z) : Cond.before (Jvm.Cond.code ({ cls := "dev/boundaryline/model/HeaderValue", name := "isWhitespace", desc := "(C)Z" } : Jvm.MethodName) prog_32_method_11_code (1 : Nat) (Option.some Jvm.ClassFile.FieldType.boolean)) aw Z = true := hw _ (List.mem_of_getElem? (i := 98) rfl)
theorem w29 {Z aw} (hw : OwnHW aw Z) : Cond.before (Jvm.Cond.initialized "dev/boundaryline/model/HeaderValue") aw Z = true := hw _ (List.mem_of_getElem? (i := 29) rfl)
theorem pd_22 : parseMethodDescriptor "(C)Z" = some ⟨[.char], some .boolean⟩ := by decide +kernel
theorem w97 {Z aw} (hw : OwnHW aw Z) : Cond.before (Jvm.Cond.static ({ cls := "dev/boundaryline/model/HeaderValue", name := "isWhitespace", desc := "(C)Z" } : Jvm.MethodName)) aw Z = true := hw _ (List.mem_of_getElem? (i := 97) rfl)
theorem d6_0 : decode prog_32_method_10_code 0 = .ok (.iload_n 1, 1) := by decide +kernel
theorem d6_1 : decode prog_32_method_10_code 1 = .ok (.istore_n 2, 1) := by decide +kernel
theorem d6_2 : decode prog_32_method_10_code 2 = .ok (.iload_n 2, 1) := by decide +kernel
theorem d6_3 : decode prog_32_method_10_code 3 = .ok (.aload_n 0, 1) := by decide +kernel
theorem d6_4 : decode prog_32_method_10_code 4 = .ok (.invokevirtual 17, 3) := by decide +kernel
theorem d6_7 : decode prog_32_method_10_code 7 = .ok (.if_icmp .ge 20, 3) := by decide +kernel
theorem d6_10 : decode prog_32_method_10_code 10 = .ok (.aload_n 0, 1) := by decide +kernel
theorem d6_11 : decode prog_32_method_10_code 11 = .ok (.iload_n 2, 1) := by decide +kernel
theorem d6_12 : decode prog_32_method_10_code 12 = .ok (.invokevirtual 38, 3) := by decide +kernel
theorem d6_15 : decode prog_32_method_10_code 15 = .ok (.invokestatic 119, 3) := by decide +kernel
theorem d6_18 : decode prog_32_method_10_code 18 = .ok (.ifCond .eq 9, 3) := by decide +kernel
theorem d6_21 : decode prog_32_method_10_code 21 = .ok (.iinc 2 1, 3) := by decide +kernel
theorem d6_24 : decode prog_32_method_10_code 24 = .ok (.goto (-22), 3) := by decide +kernel
theorem d6_27 : decode prog_32_method_10_code 27 = .ok (.iload_n 2, 1) := by decide +kernel
theorem d6_28 : decode prog_32_method_10_code 28 = .ok (.ireturn, 1) := by decide +kernel
theorem ef_rm6 (m : MethodId) (a0 : Addr) : entryFrame m #[(.ref a0), (.int (0 : Int32))] 3 = mkF m 0 #[.val (.ref a0), .val (.int (0 : Int32)), .unset] [] := by first | (simp [entryFrame, mkF, argsToLocals, Value.category]; done) | rfl
def Qrm6 (Z : State) (a0 : Addr) (cs : List Int32) (zc : Int32) (fm : Value) (h0 : Heap) (n0 : Nat) (v : Option Value) (h : Heap) (L : List Loc) : Prop := v = some (.int (Int32.ofNat (own_skip cs))) ∧ Fr n0 L ∧ h = h0
set_option maxRecDepth 65536 in
set_option maxHeartbeats 40000000 in
theorem rm6 (l : Launch) (Z : State) (aw : Array Value) (hw : ∀ d ∈ tables_1, d.before aw Z = true) (ws : List Jvm.Cond) (a0 : Addr) (cs : List Int32) (zc : Int32) (fm : Value) (h0 : Heap) (n0 : Nat) (Z0 : n0 ≤ h0.size) (S_a : OwnStr Z h0 a0 cs) (S_COMPACT_STRINGS : Sta Z h0 "java/lang/String" "COMPACT_STRINGS" "Z" (.int zc)) (hzc : ¬ zc = 0) (S_SIOOBE_FORMATTER : Sta Z h0 "jdk/internal/util/Preconditions" "SIOOBE_FORMATTER" "Ljava/util/function/BiFunction;" fm) (rf : fm.isRef = true) :
    MetFree l (⟨"dev/boundaryline/model/HeaderValue", "skipWhitespace", "(Ljava/lang/String;I)I"⟩ : MethodName) (head1 (Jvm.Cond.code (⟨"dev/boundaryline/model/HeaderValue", "skipWhitespace", "(Ljava/lang/String;I)I"⟩ : MethodName) prog_32_method_10_code 3 (some .int) :: ws) ({ frames := 4, cells := 0, slots := 0, locals := 53 } : Room)) (fun a U => a = #[(.ref a0), (.int (0 : Int32))] ∧ Z.Warmed39 U.vm ∧ U.heap = h0) (fun _ _ _ _ _ => True) (fun _ U o U' => ∃ v L, o = .returned v ∧ Qrm6 Z a0 cs zc fm h0 n0 v U'.heap L ∧ FrameEnd U o U' L ({ frames := 4, cells := 0, slots := 0, locals := 53 } : Room).cells ({ frames := 4, cells := 0, slots := 0, locals := 53 } : Room).slots) := by
  refine MetFree.of_bodySF (plainFor_of_name pn_4) hisR ?_
  intro p e s m args below meth c s₁ Bd hml0 hP hK
  obtain ⟨rfl, hZ, hh⟩ := hP
  have hx := Bd.exec
  have hby := Bd.bytes
  have hml : c.maxLocals = 3 := hml0
  have hown : s.vm.findClass "dev/boundaryline/model/HeaderValue" = some m.cls := findClass_of_methodNamed Bd.named
  have hnm := (name_of_methodNamed Bd.named Bd.method).1
  have X0 : Stand p l e ({ frames := 4, cells := 0, slots := 0, locals := 53 } : Room) s m #[(.ref a0), (.int (0 : Int32))] below meth c s₁ [] 0 0 := Stand.of_body Bd
  have e0 : s₁.heap = h0 := by rw [← hh, Bd.state]; rfl
  have N0 := Fr.nil n0
  have hlk := Bd.notSynchronized
  show OwnGo p.tables e below _ (s₁.setTop (entryFrame m #[(.ref a0), (.int (0 : Int32))] 3))
  rw [ef_rm6 m a0]
  obtain ⟨t_a, kb_a, E_a, V_a, C_a, K_a, hp_a, ln_a⟩ := S_a
  have f1 : Arv Z h0 t_a kb_a .byte (Int32.ofNat cs.length) (cs.map fun c => Value.int (StrChars.lo8 c)) (.int (0 : Int32)) := K_a
  show OwnGo p.tables e below _ (s₁.setTop (mkF m 0 #[.val (.ref a0), .val (.int (0 : Int32)), .unset] []))
  refine OwnGo.of (A := s₁.setTop (mkF m 0 #[.val (.ref a0), .val (.int (0 : Int32)), .unset] [])) (B := s₁.setTop (mkF m 2 #[.val (.ref a0), .val (.int (0 : Int32)), .val (.int (0 : Int32))] [])) (fun t k => ?_) ?_
  · show Steps p.tables e below (s₁.setTop (mkF m 0 #[.val (.ref a0), .val (.int (0 : Int32)), .unset] [])) t
    refine XS.iloadN X0.here hx rfl (hb hby d6_0) rfl ?_
    refine XS.istoreN X0.here hx rfl (hb hby d6_1) rfl (l' := #[.val (.ref a0), .val (.int (0 : Int32)), .val (.int (0 : Int32))]) rfl ?_
    exact k
  have loop : ∀ (k i : Nat) (Tj : State) (Lo : List Loc) (Xj : Stand p l e ({ frames := 4, cells := 0, slots := 0, locals := 53 } : Room) s m #[(.ref a0), (.int (0 : Int32))] below meth c Tj Lo 0 0) (ej : Tj.heap = h0) (Nj : Fr n0 Lo) (hik : i + k = cs.length) (hsk : own_skip cs = i + own_skip (cs.drop i)), OwnGo p.tables e below (fun o U' => ∃ v L, o = .returned v ∧ Qrm6 Z a0 cs zc fm h0 n0 v U'.heap L ∧ FrameEnd s o U' L ({ frames := 4, cells := 0, slots := 0, locals := 53 } : Room).cells ({ frames := 4, cells := 0, slots := 0, locals := 53 } : Room).slots) (Tj.setTop (mkF m 2 #[.val (.ref a0), .val (.int (0 : Int32)), .val (.int (Int32.ofNat i))] [])) := by
    intro k
    induction k with
    | zero =>
      intro i Tj Lo Xj ej Nj hik hsk
      show OwnGo p.tables e below _ (Tj.setTop (mkF m 2 #[.val (.ref a0), .val (.int (0 : Int32)), .val (.int (Int32.ofNat i))] []))
      refine OwnGo.of (A := Tj.setTop (mkF m 2 #[.val (.ref a0), .val (.int (0 : Int32)), .val (.int (Int32.ofNat i))] [])) (B := Tj.setTop (mkF m 4 #[.val (.ref a0), .val (.int (0 : Int32)), .val (.int (Int32.ofNat i))] [(.ref a0), (.int (Int32.ofNat i))])) (fun t k => ?_) ?_
      · show Steps p.tables e below (Tj.setTop (mkF m 2 #[.val (.ref a0), .val (.int (0 : Int32)), .val (.int (Int32.ofNat i))] [])) t
        refine XS.iloadN Xj.here hx rfl (hb hby d6_2) rfl ?_
        refine XS.aloadN Xj.here hx rfl (hb hby d6_3) rfl rfl ?_
        exact k
      obtain ⟨cq2, kq2, q2a, q2b, q2c⟩ := isOf hZ ej E_a
      obtain ⟨T2, L2, v2, X2, hQ2, st2⟩ := own_callV (Q := fun v H L => v = some (.int (Int32.ofNat cs.length)) ∧ L = [] ∧ H = h0) (rc := 0) (rs := 0) Xj hx (y := (⟨"java/lang/String", "length", "()I"⟩ : MethodName)) (z := (⟨"java/lang/String", "length", "()I"⟩ : MethodName)) hown (mvT hZ (w34 hw)) (mvT hZ (w35 hw)) (notFace_of_selects (args := #[]) (mvT hZ (w37 hw))) (mvT hZ (w37 hw)) (mvT hZ (w36 hw)) (by decide) (StrChars.Road.lenW (W := 1) hZ (own_wL hw) (kI := 4) (w7 hw) (cs := cs) E_a V_a C_a f1 (own_cod hp_a) (own_up hp_a) S_COMPACT_STRINGS hzc ln_a (by decide) (by decide)) q2a q2c (g := (mkF m 4 #[.val (.ref a0), .val (.int (0 : Int32)), .val (.int (Int32.ofNat i))] [(.ref a0), (.int (Int32.ofNat i))])) rfl (by rw [hml]; rfl) (argsL := []) (rest := [(.int (Int32.ofNat i))]) (lenOf pd_9 rfl) rfl (by show 2 * 0 + _ ≤ _; exact Nat.le_of_eq rfl) (hb hby d6_4) rfl ej (by decide) (by decide)
      obtain ⟨hv2, rfl, eq2⟩ := hQ2
      have hw2 : v2 = some (.int (Int32.ofNat cs.length)) := hv2
      subst hw2
      have N2q : Fr n0 ([] : List Loc) := Fr.nil n0
      have N2 := Fr.app Nj N2q
      refine OwnGo.of st2 ?_
      show OwnGo p.tables e below _ (T2.setTop (mkF m 7 #[.val (.ref a0), .val (.int (0 : Int32)), .val (.int (Int32.ofNat i))] [(.int (Int32.ofNat cs.length)), (.int (Int32.ofNat i))]))
      have hc3 : ¬ ((Int32.ofNat i) < (Int32.ofNat cs.length)) := own_irr hik
      refine OwnGo.of (A := T2.setTop (mkF m 7 #[.val (.ref a0), .val (.int (0 : Int32)), .val (.int (Int32.ofNat i))] [(.int (Int32.ofNat cs.length)), (.int (Int32.ofNat i))])) (B := T2.setTop (mkF m 28 #[.val (.ref a0), .val (.int (0 : Int32)), .val (.int (Int32.ofNat i))] [(.int (Int32.ofNat i))])) (fun t k => ?_) ?_
      · show Steps p.tables e below (T2.setTop (mkF m 7 #[.val (.ref a0), .val (.int (0 : Int32)), .val (.int (Int32.ofNat i))] [(.int (Int32.ofNat cs.length)), (.int (Int32.ofNat i))])) t
        refine XS.icmpYes X2.here hx rfl (pc0 := 7) (pc' := 27) rfl (hb hby d6_7) rfl (flt hc3).2.1 (by decide) (by decide) ?_
        refine XS.iloadN X2.here hx rfl (hb hby d6_27) rfl ?_
        exact k
      obtain ⟨fs, hr, hrun, hended, hW, hsame⟩ := X2.leave (v := some (.int (Int32.ofNat i))) (fun h => by rw [Bd.returns] at h; cases h) hlk
      refine ⟨_, _, ?_, hrun, hended, _, _, rfl, ?_, ⟨_, rfl⟩, hW, hsame.mono (by decide) (by decide)⟩
      · show Steps p.tables e below (T2.setTop (mkF m 28 #[.val (.ref a0), .val (.int (0 : Int32)), .val (.int (Int32.ofNat i))] [(.int (Int32.ofNat i))])) _
        exact own_retI X2 hx Bd.returns (hb hby d6_28) hr
      · show Qrm6 Z a0 cs zc fm h0 n0 _ (T2.setFrames fs).heap _
        rw [show (T2.setFrames fs).heap = h0 from eq2]
        exact ⟨congrArg (fun z => some (Value.int (Int32.ofNat z))) (own_skE hik hsk).symm, N2, rfl⟩
    | succ k ih =>
      intro i Tj Lo Xj ej Nj hik hsk
      have hlt : i < cs.length := by omega
      show OwnGo p.tables e below _ (Tj.setTop (mkF m 2 #[.val (.ref a0), .val (.int (0 : Int32)), .val (.int (Int32.ofNat i))] []))
      refine OwnGo.of (A := Tj.setTop (mkF m 2 #[.val (.ref a0), .val (.int (0 : Int32)), .val (.int (Int32.ofNat i))] [])) (B := Tj.setTop (mkF m 4 #[.val (.ref a0), .val (.int (0 : Int32)), .val (.int (Int32.ofNat i))] [(.ref a0), (.int (Int32.ofNat i))])) (fun t k => ?_) ?_
      · show Steps p.tables e below (Tj.setTop (mkF m 2 #[.val (.ref a0), .val (.int (0 : Int32)), .val (.int (Int32.ofNat i))] [])) t
        refine XS.iloadN Xj.here hx rfl (hb hby d6_2) rfl ?_
        refine XS.aloadN Xj.here hx rfl (hb hby d6_3) rfl rfl ?_
        exact k
      obtain ⟨cq4, kq4, q4a, q4b, q4c⟩ := isOf hZ ej E_a
      obtain ⟨T4, L4, v4, X4, hQ4, st4⟩ := own_callV (Q := fun v H L => v = some (.int (Int32.ofNat cs.length)) ∧ L = [] ∧ H = h0) (rc := 0) (rs := 0) Xj hx (y := (⟨"java/lang/String", "length", "()I"⟩ : MethodName)) (z := (⟨"java/lang/String", "length", "()I"⟩ : MethodName)) hown (mvT hZ (w34 hw)) (mvT hZ (w35 hw)) (notFace_of_selects (args := #[]) (mvT hZ (w37 hw))) (mvT hZ (w37 hw)) (mvT hZ (w36 hw)) (by decide) (StrChars.Road.lenW (W := 1) hZ (own_wL hw) (kI := 4) (w7 hw) (cs := cs) E_a V_a C_a f1 (own_cod hp_a) (own_up hp_a) S_COMPACT_STRINGS hzc ln_a (by decide) (by decide)) q4a q4c (g := (mkF m 4 #[.val (.ref a0), .val (.int (0 : Int32)), .val (.int (Int32.ofNat i))] [(.ref a0), (.int (Int32.ofNat i))])) rfl (by rw [hml]; rfl) (argsL := []) (rest := [(.int (Int32.ofNat i))]) (lenOf pd_9 rfl) rfl (by show 2 * 0 + _ ≤ _; exact Nat.le_of_eq rfl) (hb hby d6_4) rfl ej (by decide) (by decide)
      obtain ⟨hv4, rfl, eq4⟩ := hQ4
      have hw4 : v4 = some (.int (Int32.ofNat cs.length)) := hv4
      subst hw4
      have N4q : Fr n0 ([] : List Loc) := Fr.nil n0
      have N4 := Fr.app Nj N4q
      refine OwnGo.of st4 ?_
      show OwnGo p.tables e below _ (T4.setTop (mkF m 7 #[.val (.ref a0), .val (.int (0 : Int32)), .val (.int (Int32.ofNat i))] [(.int (Int32.ofNat cs.length)), (.int (Int32.ofNat i))]))
      have hc5 : (Int32.ofNat i) < (Int32.ofNat cs.length) := own_ofltN hlt ln_a
      refine OwnGo.of (A := T4.setTop (mkF m 7 #[.val (.ref a0), .val (.int (0 : Int32)), .val (.int (Int32.ofNat i))] [(.int (Int32.ofNat cs.length)), (.int (Int32.ofNat i))])) (B := T4.setTop (mkF m 12 #[.val (.ref a0), .val (.int (0 : Int32)), .val (.int (Int32.ofNat i))] [(.int (Int32.ofNat i)), (.ref a0)])) (fun t k => ?_) ?_
      · show Steps p.tables e below (T4.setTop (mkF m 7 #[.val (.ref a0), .val (.int (0 : Int32)), .val (.int (Int32.ofNat i))] [(.int (Int32.ofNat cs.length)), (.int (Int32.ofNat i))])) t
        refine XS.icmpNo X4.here hx rfl (hb hby d6_7) rfl (tlt hc5).2.1 ?_
        refine XS.aloadN X4.here hx rfl (hb hby d6_10) rfl rfl ?_
        refine XS.iloadN X4.here hx rfl (hb hby d6_11) rfl ?_
        exact k
      obtain ⟨cq6, kq6, q6a, q6b, q6c⟩ := isOf hZ eq4 E_a
      obtain ⟨T6, L6, v6, X6, hQ6, st6⟩ := own_callV (Q := fun v H L => v = some (.int (cs.getD i 0)) ∧ L = [] ∧ H = h0) (rc := 0) (rs := 0) X4 hx (y := (⟨"java/lang/String", "charAt", "(I)C"⟩ : MethodName)) (z := (⟨"java/lang/String", "charAt", "(I)C"⟩ : MethodName)) hown (mvT hZ (w76 hw)) (mvT hZ (w77 hw)) (notFace_of_selects (args := #[]) (mvT hZ (w79 hw))) (mvT hZ (w79 hw)) (mvT hZ (w78 hw)) (by decide) (StrChars.Road.chN (W := 0) hZ (own_wC hw) (kI := 4) (w7 hw) (cs := cs) (i := i) E_a V_a C_a f1 (own_cod hp_a) (own_up hp_a) S_COMPACT_STRINGS hzc S_SIOOBE_FORMATTER rf ln_a hlt rfl (by decide) (by decide)) q6a q6c (g := (mkF m 12 #[.val (.ref a0), .val (.int (0 : Int32)), .val (.int (Int32.ofNat i))] [(.int (Int32.ofNat i)), (.ref a0)])) rfl (by rw [hml]; rfl) (argsL := [(.int (Int32.ofNat i))]) (rest := []) (lenOf pd_15 rfl) rfl (by show 2 * 0 + _ ≤ _; exact Nat.le_of_eq rfl) (hb hby d6_12) rfl eq4 (by decide) (by decide)
      obtain ⟨hv6, rfl, eq6⟩ := hQ6
      have hw6 : v6 = some (.int (cs.getD i 0)) := hv6
      subst hw6
      have N6q : Fr n0 ([] : List Loc) := Fr.nil n0
      have N6 := Fr.app N4 N6q
      refine OwnGo.of st6 ?_
      show OwnGo p.tables e below _ (T6.setTop (mkF m 15 #[.val (.ref a0), .val (.int (0 : Int32)), .val (.int (Int32.ofNat i))] [(.int (cs.getD i 0))]))
      obtain ⟨T7, L7, v7, X7, hQ7, st7⟩ := own_callS X6 hx (y := (⟨"dev/boundaryline/model/HeaderValue", "isWhitespace", "(C)Z"⟩ : MethodName)) hown (mvT hZ (w96 hw)) (mvT hZ (w97 hw)) (mvT hZ (w29 hw)) (mvT hZ (w98 hw)) (by decide) (backOf (W := 0) (rm22 l Z aw hw [] (cs.getD i 0)  h0 n0 Z0 ) hZ (w98 hw) (w29 hw) (by decide) (by decide)) (g := (mkF m 15 #[.val (.ref a0), .val (.int (0 : Int32)), .val (.int (Int32.ofNat i))] [(.int (cs.getD i 0))])) rfl (by rw [hml]; rfl) (argsL := [(.int (cs.getD i 0))]) (rest := []) (lenOf pd_22 rfl) rfl (by show 2 * 0 + _ ≤ _; exact Nat.le_of_eq rfl) (hb hby d6_15) rfl eq6 (by decide) (by decide)
      obtain ⟨rfl, N7q, eq7⟩ := hQ7
      have N7 := Fr.app N6 N7q
      refine OwnGo.of st7 ?_
      show OwnGo p.tables e below _ (T7.setTop (mkF m 18 #[.val (.ref a0), .val (.int (0 : Int32)), .val (.int (Int32.ofNat i))] [(.int (own_w (cs.getD i 0)))]))
      by_cases hc8 : (own_w (cs.getD i 0)) = (0 : Int32)
      · have ew9 : own_wb (cs.getD i 0) = false := own_wF hc8
        refine OwnGo.of (A := T7.setTop (mkF m 18 #[.val (.ref a0), .val (.int (0 : Int32)), .val (.int (Int32.ofNat i))] [(.int (own_w (cs.getD i 0)))])) (B := T7.setTop (mkF m 28 #[.val (.ref a0), .val (.int (0 : Int32)), .val (.int (Int32.ofNat i))] [(.int (Int32.ofNat i))])) (fun t k => ?_) ?_
        · show Steps p.tables e below (T7.setTop (mkF m 18 #[.val (.ref a0), .val (.int (0 : Int32)), .val (.int (Int32.ofNat i))] [(.int (own_w (cs.getD i 0)))])) t
          refine XS.ifYes X7.here hx rfl (pc0 := 18) (pc' := 27) rfl (hb hby d6_18) rfl ((if0 _ _).trans (teq hc8).1) (by decide) (by decide) ?_
          refine XS.iloadN X7.here hx rfl (hb hby d6_27) rfl ?_
          exact k
        obtain ⟨fs, hr, hrun, hended, hW, hsame⟩ := X7.leave (v := some (.int (Int32.ofNat i))) (fun h => by rw [Bd.returns] at h; cases h) hlk
        refine ⟨_, _, ?_, hrun, hended, _, _, rfl, ?_, ⟨_, rfl⟩, hW, hsame.mono (by decide) (by decide)⟩
        · show Steps p.tables e below (T7.setTop (mkF m 28 #[.val (.ref a0), .val (.int (0 : Int32)), .val (.int (Int32.ofNat i))] [(.int (Int32.ofNat i))])) _
          exact own_retI X7 hx Bd.returns (hb hby d6_28) hr
        · show Qrm6 Z a0 cs zc fm h0 n0 _ (T7.setFrames fs).heap _
          rw [show (T7.setFrames fs).heap = h0 from eq7]
          exact ⟨congrArg (fun z => some (Value.int (Int32.ofNat z))) (own_skF hlt ew9 hsk).symm, N7, rfl⟩
      · have ew10 : own_wb (cs.getD i 0) = true := own_wT hc8
        refine OwnGo.of (A := T7.setTop (mkF m 18 #[.val (.ref a0), .val (.int (0 : Int32)), .val (.int (Int32.ofNat i))] [(.int (own_w (cs.getD i 0)))])) (B := T7.setTop (mkF m 2 #[.val (.ref a0), .val (.int (0 : Int32)), .val (.int ((Int32.ofNat i) + (1 : Int32)))] [])) (fun t k => ?_) ?_
        · show Steps p.tables e below (T7.setTop (mkF m 18 #[.val (.ref a0), .val (.int (0 : Int32)), .val (.int (Int32.ofNat i))] [(.int (own_w (cs.getD i 0)))])) t
          refine XS.ifNo X7.here hx rfl (hb hby d6_18) rfl ((if0 _ _).trans (feq hc8).1) ?_
          refine XS.iinc X7.here hx rfl (hb hby d6_21) rfl (l' := #[.val (.ref a0), .val (.int (0 : Int32)), .val (.int ((Int32.ofNat i) + (1 : Int32)))]) rfl ?_
          refine XS.goto X7.here hx rfl (pc0 := 24) (pc' := 2) rfl (hb hby d6_24) (by decide) (by decide) ?_
          exact k
        rw [own_suc]
        exact ih (i + 1) T7 _ X7 eq7 N7 (by omega) (own_skT hlt ew10 hsk)
  exact loop cs.length 0 s₁ _ X0 e0 N0 (Nat.zero_add _) (Nat.zero_add _).symm
theorem w44 {Z aw} (hw : OwnHW aw Z) : Cond.before (Jvm.Cond.fieldLink "java/lang/String" (38 : Nat) "java/lang/String" "COMPACT_STRINGS" "Z") aw Z = true := hw _ (List.mem_of_getElem? (i := 44) rfl)
theorem w26 {Z aw} (hw : OwnHW aw Z) : Cond.before (Jvm.Cond.fieldLink "java/lang/String" (15 : Nat) "java/lang/String" "coder" "B") aw Z = true := hw _ (List.mem_of_getElem? (i := 26) rfl)
theorem pn_26 : plainName "java/lang/String" = true := by first | (simp [plainName, overriddenIn]; done) | decide +kernel
theorem d18_0 : decode jdk_42_method_154_code 0 = .ok (.getstatic 38, 3) := by decide +kernel
theorem d18_3 : decode jdk_42_method_154_code 3 = .ok (.ifCond .eq 14, 3) := by decide +kernel
theorem d18_6 : decode jdk_42_method_154_code 6 = .ok (.aload_n 0, 1) := by decide +kernel
theorem d18_7 : decode jdk_42_method_154_code 7 = .ok (.getfield 15, 3) := by decide +kernel
theorem d18_10 : decode jdk_42_method_154_code 10 = .ok (.ifCond .ne 7, 3) := by decide +kernel
theorem d18_13 : decode jdk_42_method_154_code 13 = .ok (.iconst 1, 1) := by decide +kernel
theorem d18_14 : decode jdk_42_method_154_code 14 = .ok (.goto 4, 3) := by decide +kernel
theorem d18_18 : decode jdk_42_method_154_code 18 = .ok (.ireturn, 1) := by decide +kernel
theorem ef_rm18 (m : MethodId) (a0 : Addr) : entryFrame m #[(.ref a0)] 1 = mkF m 0 #[.val (.ref a0)] [] := by first | (simp [entryFrame, mkF, argsToLocals, Value.category]; done) | rfl
def Qrm18 (Z : State) (a0 : Addr) (zc : Int32) (h0 : Heap) (n0 : Nat) (v : Option Value) (h : Heap) (L : List Loc) : Prop := v = some (.int (1 : Int32)) ∧ Fr n0 L ∧ h = h0
set_option maxRecDepth 65536 in
set_option maxHeartbeats 40000000 in
theorem rm18 (l : Launch) (Z : State) (aw : Array Value) (hw : ∀ d ∈ tables_1, d.before aw Z = true) (ws : List Jvm.Cond) (a0 : Addr) (zc : Int32) (h0 : Heap) (n0 : Nat) (Z0 : n0 ≤ h0.size) (E_a0 : Exa Z h0 a0 "java/lang/String") (F_a0_coder : Fld Z h0 a0 "java/lang/String" "coder" "B" (.int (0 : Int32))) (S_COMPACT_STRINGS : Sta Z h0 "java/lang/String" "COMPACT_STRINGS" "Z" (.int zc)) (hzc : ¬ zc = 0) :
    MetFree l (⟨"java/lang/String", "isLatin1", "()Z"⟩ : MethodName) (head1 (Jvm.Cond.code (⟨"java/lang/String", "isLatin1", "()Z"⟩ : MethodName) jdk_42_method_154_code 1 (some .boolean) :: ws) ({ frames := 0, cells := 0, slots := 0, locals := 0 } : Room)) (fun a U => a = #[(.ref a0)] ∧ Z.Warmed39 U.vm ∧ U.heap = h0) (fun _ _ _ _ _ => True) (fun _ U o U' => ∃ v L, o = .returned v ∧ Qrm18 Z a0 zc h0 n0 v U'.heap L ∧ FrameEnd U o U' L ({ frames := 0, cells := 0, slots := 0, locals := 0 } : Room).cells ({ frames := 0, cells := 0, slots := 0, locals := 0 } : Room).slots) := by
  refine MetFree.of_bodySF (plainFor_of_name pn_26) hisR ?_
  intro p e s m args below meth c s₁ Bd hml0 hP hK
  obtain ⟨rfl, hZ, hh⟩ := hP
  have hx := Bd.exec
  have hby := Bd.bytes
  have hml : c.maxLocals = 1 := hml0
  have hown : s.vm.findClass "java/lang/String" = some m.cls := findClass_of_methodNamed Bd.named
  have hnm := (name_of_methodNamed Bd.named Bd.method).1
  have X0 : Stand p l e ({ frames := 0, cells := 0, slots := 0, locals := 0 } : Room) s m #[(.ref a0)] below meth c s₁ [] 0 0 := Stand.of_body Bd
  have e0 : s₁.heap = h0 := by rw [← hh, Bd.state]; rfl
  have N0 := Fr.nil n0
  have hlk := Bd.notSynchronized
  show OwnGo p.tables e below _ (s₁.setTop (entryFrame m #[(.ref a0)] 1))
  rw [ef_rm18 m a0]
  show OwnGo p.tables e below _ (s₁.setTop (mkF m 0 #[.val (.ref a0)] []))
  obtain ⟨T1, X1, e1, st1⟩ := getS2 X0 hx hZ hown (host := "") (Or.inl (w44 hw)) Via.refl e0 S_COMPACT_STRINGS (g := (mkF m 0 #[.val (.ref a0)] [])) rfl (hb hby d18_0)
  refine OwnGo.of st1 ?_
  show OwnGo p.tables e below _ (T1.setTop (mkF m 3 #[.val (.ref a0)] [(.int zc)]))
  have hc2 : ¬ (zc = (0 : Int32)) := hzc
  refine OwnGo.of (A := T1.setTop (mkF m 3 #[.val (.ref a0)] [(.int zc)])) (B := T1.setTop (mkF m 7 #[.val (.ref a0)] [(.ref a0)])) (fun t k => ?_) ?_
  · show Steps p.tables e below (T1.setTop (mkF m 3 #[.val (.ref a0)] [(.int zc)])) t
    refine XS.ifNo X1.here hx rfl (hb hby d18_3) rfl ((if0 _ _).trans (feq hc2).1) ?_
    refine XS.aloadN X1.here hx rfl (hb hby d18_6) rfl rfl ?_
    exact k
  obtain ⟨T3, X3, e3, st3⟩ := getF X1 hx hZ hown (host := "") (Or.inl (w26 hw)) Via.refl e1 F_a0_coder (g := (mkF m 7 #[.val (.ref a0)] [(.ref a0)])) rfl rfl (hb hby d18_7)
  refine OwnGo.of st3 ?_
  show OwnGo p.tables e below _ (T3.setTop (mkF m 10 #[.val (.ref a0)] [(.int (0 : Int32))]))
  have hc4 : (0 : Int32) = (0 : Int32) := by decide
  refine OwnGo.of (A := T3.setTop (mkF m 10 #[.val (.ref a0)] [(.int (0 : Int32))])) (B := T3.setTop (mkF m 18 #[.val (.ref a0)] [(.int (1 : Int32))])) (fun t k => ?_) ?_
  · show Steps p.tables e below (T3.setTop (mkF m 10 #[.val (.ref a0)] [(.int (0 : Int32))])) t
    refine XS.ifNo X3.here hx rfl (hb hby d18_10) rfl ((if0 _ _).trans (teq hc4).2) ?_
    refine XS.iconst X3.here hx rfl (hb hby d18_13) ?_
    refine XS.goto X3.here hx rfl (pc0 := 14) (pc' := 18) rfl (hb hby d18_14) (by decide) (by decide) ?_
    exact k
  obtain ⟨fs, hr, hrun, hended, hW, hsame⟩ := X3.leave (v := some (.int (nar .boolean (1 : Int32)))) (fun h => by rw [Bd.returns] at h; cases h) hlk
  refine ⟨_, _, ?_, hrun, hended, _, _, rfl, ?_, ⟨_, rfl⟩, hW, hsame.mono (by decide) (by decide)⟩
  · show Steps p.tables e below (T3.setTop (mkF m 18 #[.val (.ref a0)] [(.int (1 : Int32))])) _
    exact retN X3 hx (t := .boolean) Bd.returns (by simp) (hb hby d18_18) hr
  · show Qrm18 Z a0 zc h0 n0 _ (T3.setFrames fs).heap _
    rw [show (T3.setFrames fs).heap = h0 from e3]
    exact ⟨congrArg (fun z => some (Value.int z)) (by decide), N0, rfl⟩
theorem pn_27 : plainName "java/util/Arrays" = true := by first | (simp [plainName, overriddenIn]; done) | decide +kernel
theorem d26_0 : decode jdk_65_method_131_code 0 = .ok (.iload_n 1, 1) := by decide +kernel
theorem d26_1 : decode jdk_65_method_131_code 1 = .ok (.iload_n 0, 1) := by decide +kernel
theorem d26_2 : decode jdk_65_method_131_code 2 = .ok (.if_icmp .ge 35, 3) := by decide +kernel
theorem d26_37 : decode jdk_65_method_131_code 37 = .ok (.return_, 1) := by decide +kernel
theorem ef_rm26 (m : MethodId) (p0 : Int32) (p1 : Int32) : entryFrame m #[(.int p0), (.int p1)] 2 = mkF m 0 #[.val (.int p0), .val (.int p1)] [] := by first | (simp [entryFrame, mkF, argsToLocals, Value.category]; done) | rfl
def Qrm26 (Z : State) (p0 : Int32) (p1 : Int32) (h0 : Heap) (n0 : Nat) (v : Option Value) (h : Heap) (L : List Loc) : Prop := v = none ∧ Fr n0 L ∧ h = h0
set_option maxRecDepth 65536 in
set_option maxHeartbeats 40000000 in
theorem rm26 (l : Launch) (Z : State) (aw : Array Value) (hw : ∀ d ∈ tables_1, d.before aw Z = true) (ws : List Jvm.Cond) (p0 : Int32) (p1 : Int32) (h0 : Heap) (n0 : Nat) (Z0 : n0 ≤ h0.size) (hle : ¬ (p1 < p0)) :
    MetFree l (⟨"java/util/Arrays", "checkLength", "(II)V"⟩ : MethodName) (head1 (Jvm.Cond.code (⟨"java/util/Arrays", "checkLength", "(II)V"⟩ : MethodName) jdk_65_method_131_code 2 none :: ws) ({ frames := 0, cells := 0, slots := 0, locals := 0 } : Room)) (fun a U => a = #[(.int p0), (.int p1)] ∧ Z.Warmed39 U.vm ∧ U.heap = h0) (fun _ _ _ _ _ => True) (fun _ U o U' => ∃ v L, o = .returned v ∧ Qrm26 Z p0 p1 h0 n0 v U'.heap L ∧ FrameEnd U o U' L ({ frames := 0, cells := 0, slots := 0, locals := 0 } : Room).cells ({ frames := 0, cells := 0, slots := 0, locals := 0 } : Room).slots) := by
  refine MetFree.of_bodySF (plainFor_of_name pn_27) hisR ?_
  intro p e s m args below meth c s₁ Bd hml0 hP hK
  obtain ⟨rfl, hZ, hh⟩ := hP
  have hx := Bd.exec
  have hby := Bd.bytes
  have hml : c.maxLocals = 2 := hml0
  have hown : s.vm.findClass "java/util/Arrays" = some m.cls := findClass_of_methodNamed Bd.named
  have hnm := (name_of_methodNamed Bd.named Bd.method).1
  have X0 : Stand p l e ({ frames := 0, cells := 0, slots := 0, locals := 0 } : Room) s m #[(.int p0), (.int p1)] below meth c s₁ [] 0 0 := Stand.of_body Bd
  have e0 : s₁.heap = h0 := by rw [← hh, Bd.state]; rfl
  have N0 := Fr.nil n0
  have hlk := Bd.notSynchronized
  show OwnGo p.tables e below _ (s₁.setTop (entryFrame m #[(.int p0), (.int p1)] 2))
  rw [ef_rm26 m p0 p1]
  show OwnGo p.tables e below _ (s₁.setTop (mkF m 0 #[.val (.int p0), .val (.int p1)] []))
  refine OwnGo.of (A := s₁.setTop (mkF m 0 #[.val (.int p0), .val (.int p1)] [])) (B := s₁.setTop (mkF m 2 #[.val (.int p0), .val (.int p1)] [(.int p0), (.int p1)])) (fun t k => ?_) ?_
  · show Steps p.tables e below (s₁.setTop (mkF m 0 #[.val (.int p0), .val (.int p1)] [])) t
    refine XS.iloadN X0.here hx rfl (hb hby d26_0) rfl ?_
    refine XS.iloadN X0.here hx rfl (hb hby d26_1) rfl ?_
    exact k
  have hc1 : ¬ (p1 < p0) := hle
  refine OwnGo.of (A := s₁.setTop (mkF m 2 #[.val (.int p0), .val (.int p1)] [(.int p0), (.int p1)])) (B := s₁.setTop (mkF m 37 #[.val (.int p0), .val (.int p1)] [])) (fun t k => ?_) ?_
  · show Steps p.tables e below (s₁.setTop (mkF m 2 #[.val (.int p0), .val (.int p1)] [(.int p0), (.int p1)])) t
    refine XS.icmpYes X0.here hx rfl (pc0 := 2) (pc' := 37) rfl (hb hby d26_2) rfl (flt hc1).2.1 (by decide) (by decide) ?_
    exact k
  obtain ⟨fs, hr, hrun, hended, hW, hsame⟩ := X0.leave (v := none) (fun _ => rfl) hlk
  refine ⟨_, _, ?_, hrun, hended, _, _, rfl, ?_, ⟨_, rfl⟩, hW, hsame.mono (by decide) (by decide)⟩
  · show Steps p.tables e below (s₁.setTop (mkF m 37 #[.val (.int p0), .val (.int p1)] [])) _
    exact X0.returnOut hx Bd.returns (hb hby d26_37) hr
  · show Qrm26 Z p0 p1 h0 n0 _ (s₁.setFrames fs).heap _
    rw [show (s₁.setFrames fs).heap = h0 from e0]
    exact ⟨rfl, N0, rfl⟩

theorem own_anti {a b : Int32} (h1 : ¬ (b < a)) (h2 : ¬ (a < b)) : a = b := by
  rw [Int32.lt_iff_toInt_lt] at h1 h2; exact Int32.toInt_inj.mp (by omega)

theorem d27_0 : decode jdk_29_method_69_code 0 = .ok (.iload_n 0, 1) := by decide +kernel
theorem d27_1 : decode jdk_29_method_69_code 1 = .ok (.iload_n 1, 1) := by decide +kernel
theorem d27_2 : decode jdk_29_method_69_code 2 = .ok (.if_icmp .gt 7, 3) := by decide +kernel
theorem d27_5 : decode jdk_29_method_69_code 5 = .ok (.iload_n 0, 1) := by decide +kernel
theorem d27_6 : decode jdk_29_method_69_code 6 = .ok (.goto 4, 3) := by decide +kernel
theorem d27_9 : decode jdk_29_method_69_code 9 = .ok (.iload_n 1, 1) := by decide +kernel
theorem d27_10 : decode jdk_29_method_69_code 10 = .ok (.ireturn, 1) := by decide +kernel
theorem ef_rm27 (m : MethodId) (p0 : Int32) (p1 : Int32) : entryFrame m #[(.int p0), (.int p1)] 2 = mkF m 0 #[.val (.int p0), .val (.int p1)] [] := by first | (simp [entryFrame, mkF, argsToLocals, Value.category]; done) | rfl
def Qrm27 (Z : State) (p0 : Int32) (p1 : Int32) (h0 : Heap) (n0 : Nat) (v : Option Value) (h : Heap) (L : List Loc) : Prop := v = some (.int p1) ∧ Fr n0 L ∧ h = h0
set_option maxRecDepth 65536 in
set_option maxHeartbeats 40000000 in
theorem rm27 (l : Launch) (Z : State) (aw : Array Value) (hw : ∀ d ∈ tables_1, d.before aw Z = true) (ws : List Jvm.Cond) (p0 : Int32) (p1 : Int32) (h0 : Heap) (n0 : Nat) (Z0 : n0 ≤ h0.size) (hle : ¬ (p0 < p1)) :
    MetFree l (⟨"java/lang/Math", "min", "(II)I"⟩ : MethodName) (head1 (Jvm.Cond.code (⟨"java/lang/Math", "min", "(II)I"⟩ : MethodName) jdk_29_method_69_code 2 (some .int) :: ws) ({ frames := 0, cells := 0, slots := 0, locals := 0 } : Room)) (fun a U => a = #[(.int p0), (.int p1)] ∧ Z.Warmed39 U.vm ∧ U.heap = h0) (fun _ _ _ _ _ => True) (fun _ U o U' => ∃ v L, o = .returned v ∧ Qrm27 Z p0 p1 h0 n0 v U'.heap L ∧ FrameEnd U o U' L ({ frames := 0, cells := 0, slots := 0, locals := 0 } : Room).cells ({ frames := 0, cells := 0, slots := 0, locals := 0 } : Room).slots) := by
  refine MetFree.of_bodySF (Jvm.Free.JP.mathPlain rfl (by decide)) hisR ?_
  intro p e s m args below meth c s₁ Bd hml0 hP hK
  obtain ⟨rfl, hZ, hh⟩ := hP
  have hx := Bd.exec
  have hby := Bd.bytes
  have hml : c.maxLocals = 2 := hml0
  have hown : s.vm.findClass "java/lang/Math" = some m.cls := findClass_of_methodNamed Bd.named
  have hnm := (name_of_methodNamed Bd.named Bd.method).1
  have X0 : Stand p l e ({ frames := 0, cells := 0, slots := 0, locals := 0 } : Room) s m #[(.int p0), (.int p1)] below meth c s₁ [] 0 0 := Stand.of_body Bd
  have e0 : s₁.heap = h0 := by rw [← hh, Bd.state]; rfl
  have N0 := Fr.nil n0
  have hlk := Bd.notSynchronized
  show OwnGo p.tables e below _ (s₁.setTop (entryFrame m #[(.int p0), (.int p1)] 2))
  rw [ef_rm27 m p0 p1]
  show OwnGo p.tables e below _ (s₁.setTop (mkF m 0 #[.val (.int p0), .val (.int p1)] []))
  refine OwnGo.of (A := s₁.setTop (mkF m 0 #[.val (.int p0), .val (.int p1)] [])) (B := s₁.setTop (mkF m 2 #[.val (.int p0), .val (.int p1)] [(.int p1), (.int p0)])) (fun t k => ?_) ?_
  · show Steps p.tables e below (s₁.setTop (mkF m 0 #[.val (.int p0), .val (.int p1)] [])) t
    refine XS.iloadN X0.here hx rfl (hb hby d27_0) rfl ?_
    refine XS.iloadN X0.here hx rfl (hb hby d27_1) rfl ?_
    exact k
  by_cases hc1 : p1 < p0
  · refine OwnGo.of (A := s₁.setTop (mkF m 2 #[.val (.int p0), .val (.int p1)] [(.int p1), (.int p0)])) (B := s₁.setTop (mkF m 10 #[.val (.int p0), .val (.int p1)] [(.int p1)])) (fun t k => ?_) ?_
    · show Steps p.tables e below (s₁.setTop (mkF m 2 #[.val (.int p0), .val (.int p1)] [(.int p1), (.int p0)])) t
      refine XS.icmpYes X0.here hx rfl (pc0 := 2) (pc' := 9) rfl (hb hby d27_2) rfl (tlt hc1).2.2.1 (by decide) (by decide) ?_
      refine XS.iloadN X0.here hx rfl (hb hby d27_9) rfl ?_
      exact k
    obtain ⟨fs, hr, hrun, hended, hW, hsame⟩ := X0.leave (v := some (.int p1)) (fun h => by rw [Bd.returns] at h; cases h) hlk
    refine ⟨_, _, ?_, hrun, hended, _, _, rfl, ?_, ⟨_, rfl⟩, hW, hsame.mono (by decide) (by decide)⟩
    · show Steps p.tables e below (s₁.setTop (mkF m 10 #[.val (.int p0), .val (.int p1)] [(.int p1)])) _
      exact own_retI X0 hx Bd.returns (hb hby d27_10) hr
    · show Qrm27 Z p0 p1 h0 n0 _ (s₁.setFrames fs).heap _
      rw [show (s₁.setFrames fs).heap = h0 from e0]
      exact ⟨rfl, N0, rfl⟩
  · refine OwnGo.of (A := s₁.setTop (mkF m 2 #[.val (.int p0), .val (.int p1)] [(.int p1), (.int p0)])) (B := s₁.setTop (mkF m 10 #[.val (.int p0), .val (.int p1)] [(.int p0)])) (fun t k => ?_) ?_
    · show Steps p.tables e below (s₁.setTop (mkF m 2 #[.val (.int p0), .val (.int p1)] [(.int p1), (.int p0)])) t
      refine XS.icmpNo X0.here hx rfl (hb hby d27_2) rfl (flt hc1).2.2.1 ?_
      refine XS.iloadN X0.here hx rfl (hb hby d27_5) rfl ?_
      refine XS.goto X0.here hx rfl (pc0 := 6) (pc' := 10) rfl (hb hby d27_6) (by decide) (by decide) ?_
      exact k
    obtain ⟨fs, hr, hrun, hended, hW, hsame⟩ := X0.leave (v := some (.int p0)) (fun h => by rw [Bd.returns] at h; cases h) hlk
    refine ⟨_, _, ?_, hrun, hended, _, _, rfl, ?_, ⟨_, rfl⟩, hW, hsame.mono (by decide) (by decide)⟩
    · show Steps p.tables e below (s₁.setTop (mkF m 10 #[.val (.int p0), .val (.int p1)] [(.int p0)])) _
      exact own_retI X0 hx Bd.returns (hb hby d27_10) hr
    · show Qrm27 Z p0 p1 h0 n0 _ (s₁.setFrames fs).heap _
      rw [show (s₁.setFrames fs).heap = h0 from e0]
      exact ⟨congrArg (fun z => some (Value.int z)) (own_anti hc1 hle), N0, rfl⟩
theorem pn_28 : plainName "jdk/internal/util/Preconditions" = true := by first | (simp [plainName, overriddenIn]; done) | decide +kernel
theorem d11_0 : decode jdk_41_method_12_code 0 = .ok (.iload_n 0, 1) := by decide +kernel
theorem d11_1 : decode jdk_41_method_12_code 1 = .ok (.ifCond .lt 13, 3) := by decide +kernel
theorem d11_4 : decode jdk_41_method_12_code 4 = .ok (.iload_n 0, 1) := by decide +kernel
theorem d11_5 : decode jdk_41_method_12_code 5 = .ok (.iload_n 1, 1) := by decide +kernel
theorem d11_6 : decode jdk_41_method_12_code 6 = .ok (.if_icmp .gt 8, 3) := by decide +kernel
theorem d11_9 : decode jdk_41_method_12_code 9 = .ok (.iload_n 1, 1) := by decide +kernel
theorem d11_10 : decode jdk_41_method_12_code 10 = .ok (.iload_n 2, 1) := by decide +kernel
theorem d11_11 : decode jdk_41_method_12_code 11 = .ok (.if_icmp .le 11, 3) := by decide +kernel
theorem d11_22 : decode jdk_41_method_12_code 22 = .ok (.iload_n 0, 1) := by decide +kernel
theorem d11_23 : decode jdk_41_method_12_code 23 = .ok (.ireturn, 1) := by decide +kernel
theorem ef_rm11n (m : MethodId) (p0 : Int32) (p1 : Int32) (p2 : Int32) : entryFrame m #[(.int p0), (.int p1), (.int p2), .null] 4 = mkF m 0 #[.val (.int p0), .val (.int p1), .val (.int p2), .val .null] [] := by first | (simp [entryFrame, mkF, argsToLocals, Value.category]; done) | rfl
def Qrm11n (Z : State) (p0 : Int32) (p1 : Int32) (p2 : Int32) (h0 : Heap) (n0 : Nat) (v : Option Value) (h : Heap) (L : List Loc) : Prop := v = some (.int p0) ∧ Fr n0 L ∧ h = h0
set_option maxRecDepth 65536 in
set_option maxHeartbeats 40000000 in
theorem rm11n (l : Launch) (Z : State) (aw : Array Value) (hw : ∀ d ∈ tables_1, d.before aw Z = true) (ws : List Jvm.Cond) (p0 : Int32) (p1 : Int32) (p2 : Int32) (h0 : Heap) (n0 : Nat) (Z0 : n0 ≤ h0.size) (h1 : ¬ (p0 < (0 : Int32))) (h2 : ¬ (p1 < p0)) (h3 : ¬ (p2 < p1)) :
    MetFree l (⟨"jdk/internal/util/Preconditions", "checkFromToIndex", "(IIILjava/util/function/BiFunction;)I"⟩ : MethodName) (head1 (Jvm.Cond.code (⟨"jdk/internal/util/Preconditions", "checkFromToIndex", "(IIILjava/util/function/BiFunction;)I"⟩ : MethodName) jdk_41_method_12_code 4 (some .int) :: ws) ({ frames := 0, cells := 0, slots := 0, locals := 0 } : Room)) (fun a U => a = #[(.int p0), (.int p1), (.int p2), .null] ∧ Z.Warmed39 U.vm ∧ U.heap = h0) (fun _ _ _ _ _ => True) (fun _ U o U' => ∃ v L, o = .returned v ∧ Qrm11n Z p0 p1 p2 h0 n0 v U'.heap L ∧ FrameEnd U o U' L ({ frames := 0, cells := 0, slots := 0, locals := 0 } : Room).cells ({ frames := 0, cells := 0, slots := 0, locals := 0 } : Room).slots) := by
  refine MetFree.of_bodySF (plainFor_of_name pn_28) hisR ?_
  intro p e s m args below meth c s₁ Bd hml0 hP hK
  obtain ⟨rfl, hZ, hh⟩ := hP
  have hx := Bd.exec
  have hby := Bd.bytes
  have hml : c.maxLocals = 4 := hml0
  have hown : s.vm.findClass "jdk/internal/util/Preconditions" = some m.cls := findClass_of_methodNamed Bd.named
  have hnm := (name_of_methodNamed Bd.named Bd.method).1
  have X0 : Stand p l e ({ frames := 0, cells := 0, slots := 0, locals := 0 } : Room) s m #[(.int p0), (.int p1), (.int p2), .null] below meth c s₁ [] 0 0 := Stand.of_body Bd
  have e0 : s₁.heap = h0 := by rw [← hh, Bd.state]; rfl
  have N0 := Fr.nil n0
  have hlk := Bd.notSynchronized
  show OwnGo p.tables e below _ (s₁.setTop (entryFrame m #[(.int p0), (.int p1), (.int p2), .null] 4))
  rw [ef_rm11n m p0 p1 p2]
  show OwnGo p.tables e below _ (s₁.setTop (mkF m 0 #[.val (.int p0), .val (.int p1), .val (.int p2), .val .null] []))
  refine OwnGo.of (A := s₁.setTop (mkF m 0 #[.val (.int p0), .val (.int p1), .val (.int p2), .val .null] [])) (B := s₁.setTop (mkF m 1 #[.val (.int p0), .val (.int p1), .val (.int p2), .val .null] [(.int p0)])) (fun t k => ?_) ?_
  · show Steps p.tables e below (s₁.setTop (mkF m 0 #[.val (.int p0), .val (.int p1), .val (.int p2), .val .null] [])) t
    refine XS.iloadN X0.here hx rfl (hb hby d11_0) rfl ?_
    exact k
  have hc1 : ¬ (p0 < (0 : Int32)) := h1
  refine OwnGo.of (A := s₁.setTop (mkF m 1 #[.val (.int p0), .val (.int p1), .val (.int p2), .val .null] [(.int p0)])) (B := s₁.setTop (mkF m 6 #[.val (.int p0), .val (.int p1), .val (.int p2), .val .null] [(.int p1), (.int p0)])) (fun t k => ?_) ?_
  · show Steps p.tables e below (s₁.setTop (mkF m 1 #[.val (.int p0), .val (.int p1), .val (.int p2), .val .null] [(.int p0)])) t
    refine XS.ifNo X0.here hx rfl (hb hby d11_1) rfl ((if0 _ _).trans (flt hc1).1) ?_
    refine XS.iloadN X0.here hx rfl (hb hby d11_4) rfl ?_
    refine XS.iloadN X0.here hx rfl (hb hby d11_5) rfl ?_
    exact k
  have hc2 : ¬ (p1 < p0) := h2
  refine OwnGo.of (A := s₁.setTop (mkF m 6 #[.val (.int p0), .val (.int p1), .val (.int p2), .val .null] [(.int p1), (.int p0)])) (B := s₁.setTop (mkF m 11 #[.val (.int p0), .val (.int p1), .val (.int p2), .val .null] [(.int p2), (.int p1)])) (fun t k => ?_) ?_
  · show Steps p.tables e below (s₁.setTop (mkF m 6 #[.val (.int p0), .val (.int p1), .val (.int p2), .val .null] [(.int p1), (.int p0)])) t
    refine XS.icmpNo X0.here hx rfl (hb hby d11_6) rfl (flt hc2).2.2.1 ?_
    refine XS.iloadN X0.here hx rfl (hb hby d11_9) rfl ?_
    refine XS.iloadN X0.here hx rfl (hb hby d11_10) rfl ?_
    exact k
  have hc3 : ¬ (p2 < p1) := h3
  refine OwnGo.of (A := s₁.setTop (mkF m 11 #[.val (.int p0), .val (.int p1), .val (.int p2), .val .null] [(.int p2), (.int p1)])) (B := s₁.setTop (mkF m 23 #[.val (.int p0), .val (.int p1), .val (.int p2), .val .null] [(.int p0)])) (fun t k => ?_) ?_
  · show Steps p.tables e below (s₁.setTop (mkF m 11 #[.val (.int p0), .val (.int p1), .val (.int p2), .val .null] [(.int p2), (.int p1)])) t
    refine XS.icmpYes X0.here hx rfl (pc0 := 11) (pc' := 22) rfl (hb hby d11_11) rfl (flt hc3).2.2.2 (by decide) (by decide) ?_
    refine XS.iloadN X0.here hx rfl (hb hby d11_22) rfl ?_
    exact k
  obtain ⟨fs, hr, hrun, hended, hW, hsame⟩ := X0.leave (v := some (.int p0)) (fun h => by rw [Bd.returns] at h; cases h) hlk
  refine ⟨_, _, ?_, hrun, hended, _, _, rfl, ?_, ⟨_, rfl⟩, hW, hsame.mono (by decide) (by decide)⟩
  · show Steps p.tables e below (s₁.setTop (mkF m 23 #[.val (.int p0), .val (.int p1), .val (.int p2), .val .null] [(.int p0)])) _
    exact own_retI X0 hx Bd.returns (hb hby d11_23) hr
  · show Qrm11n Z p0 p1 p2 h0 n0 _ (s₁.setFrames fs).heap _
    rw [show (s₁.setFrames fs).heap = h0 from e0]
    exact ⟨rfl, N0, rfl⟩
theorem w54 {Z aw} (hw : OwnHW aw Z) : Cond.before (Jvm.Cond.fieldLink "java/lang/String" (1053 : Nat) "jdk/internal/util/Preconditions" "SIOOBE_FORMATTER" "Ljava/util/function/BiFunction;") aw Z = true := hw _ (List.mem_of_getElem? (i := 54) rfl)
theorem w56 {Z aw} (hw : OwnHW aw Z) : Cond.before (Jvm.Cond.methodLink "java/lang/String" (1062 : Nat) ({ cls := "jdk/internal/util/Preconditions", name := "checkFromToIndex", desc := "(IIILjava/util/function/BiFunction;)I" } : Jvm.MethodName)) aw Z = true := hw _ (List.mem_of_getElem? (i := 56) rfl)
theorem w58 {Z aw} (hw : OwnHW aw Z) : Cond.before (Jvm.Cond.code ({ cls := "jdk/internal/util/Preconditions", name := "checkFromToIndex", desc := "(IIILjava/util/function/BiFunction;)I" } : Jvm.MethodName) jdk_41_method_12_code (4 : Nat) (Option.some Jvm.ClassFile.FieldType.int)) aw Z = true := hw _ (List.mem_of_getElem? (i := 58) rfl)
theorem w55 {Z aw} (hw : OwnHW aw Z) : Cond.before (Jvm.Cond.initialized "jdk/internal/util/Preconditions") aw Z = true := hw _ (List.mem_of_getElem? (i := 55) rfl)
theorem pd_33 : parseMethodDescriptor "(IIILjava/util/function/BiFunction;)I" = some ⟨[.int, .int, .int, (.object "java/util/function/BiFunction")], some .int⟩ := by decide +kernel
theorem w57 {Z aw} (hw : OwnHW aw Z) : Cond.before (Jvm.Cond.static ({ cls := "jdk/internal/util/Preconditions", name := "checkFromToIndex", desc := "(IIILjava/util/function/BiFunction;)I" } : Jvm.MethodName)) aw Z = true := hw _ (List.mem_of_getElem? (i := 57) rfl)
theorem d10_0 : decode jdk_42_method_158_code 0 = .ok (.iload_n 0, 1) := by decide +kernel
theorem d10_1 : decode jdk_42_method_158_code 1 = .ok (.iload_n 1, 1) := by decide +kernel
theorem d10_2 : decode jdk_42_method_158_code 2 = .ok (.iload_n 2, 1) := by decide +kernel
theorem d10_3 : decode jdk_42_method_158_code 3 = .ok (.getstatic 1053, 3) := by decide +kernel
theorem d10_6 : decode jdk_42_method_158_code 6 = .ok (.invokestatic 1062, 3) := by decide +kernel
theorem d10_9 : decode jdk_42_method_158_code 9 = .ok (.pop, 1) := by decide +kernel
theorem d10_10 : decode jdk_42_method_158_code 10 = .ok (.return_, 1) := by decide +kernel
theorem ef_rm10n (m : MethodId) (p0 : Int32) (p1 : Int32) (p2 : Int32) : entryFrame m #[(.int p0), (.int p1), (.int p2)] 3 = mkF m 0 #[.val (.int p0), .val (.int p1), .val (.int p2)] [] := by first | (simp [entryFrame, mkF, argsToLocals, Value.category]; done) | rfl
def Qrm10n (Z : State) (p0 : Int32) (p1 : Int32) (p2 : Int32) (h0 : Heap) (n0 : Nat) (v : Option Value) (h : Heap) (L : List Loc) : Prop := v = none ∧ Fr n0 L ∧ h = h0
set_option maxRecDepth 65536 in
set_option maxHeartbeats 40000000 in
theorem rm10n (l : Launch) (Z : State) (aw : Array Value) (hw : ∀ d ∈ tables_1, d.before aw Z = true) (ws : List Jvm.Cond) (p0 : Int32) (p1 : Int32) (p2 : Int32) (h0 : Heap) (n0 : Nat) (Z0 : n0 ≤ h0.size) (S_SIOOBE_FORMATTER : Sta Z h0 "jdk/internal/util/Preconditions" "SIOOBE_FORMATTER" "Ljava/util/function/BiFunction;" .null) (h1 : ¬ (p0 < (0 : Int32))) (h2 : ¬ (p1 < p0)) (h3 : ¬ (p2 < p1)) :
    MetFree l (⟨"java/lang/String", "checkBoundsBeginEnd", "(III)V"⟩ : MethodName) (head1 (Jvm.Cond.code (⟨"java/lang/String", "checkBoundsBeginEnd", "(III)V"⟩ : MethodName) jdk_42_method_158_code 3 none :: ws) ({ frames := 1, cells := 0, slots := 0, locals := 15 } : Room)) (fun a U => a = #[(.int p0), (.int p1), (.int p2)] ∧ Z.Warmed39 U.vm ∧ U.heap = h0) (fun _ _ _ _ _ => True) (fun _ U o U' => ∃ v L, o = .returned v ∧ Qrm10n Z p0 p1 p2 h0 n0 v U'.heap L ∧ FrameEnd U o U' L ({ frames := 1, cells := 0, slots := 0, locals := 15 } : Room).cells ({ frames := 1, cells := 0, slots := 0, locals := 15 } : Room).slots) := by
  refine MetFree.of_bodySF (plainFor_of_name pn_26) hisR ?_
  intro p e s m args below meth c s₁ Bd hml0 hP hK
  obtain ⟨rfl, hZ, hh⟩ := hP
  have hx := Bd.exec
  have hby := Bd.bytes
  have hml : c.maxLocals = 3 := hml0
  have hown : s.vm.findClass "java/lang/String" = some m.cls := findClass_of_methodNamed Bd.named
  have hnm := (name_of_methodNamed Bd.named Bd.method).1
  have X0 : Stand p l e ({ frames := 1, cells := 0, slots := 0, locals := 15 } : Room) s m #[(.int p0), (.int p1), (.int p2)] below meth c s₁ [] 0 0 := Stand.of_body Bd
  have e0 : s₁.heap = h0 := by rw [← hh, Bd.state]; rfl
  have N0 := Fr.nil n0
  have hlk := Bd.notSynchronized
  show OwnGo p.tables e below _ (s₁.setTop (entryFrame m #[(.int p0), (.int p1), (.int p2)] 3))
  rw [ef_rm10n m p0 p1 p2]
  show OwnGo p.tables e below _ (s₁.setTop (mkF m 0 #[.val (.int p0), .val (.int p1), .val (.int p2)] []))
  refine OwnGo.of (A := s₁.setTop (mkF m 0 #[.val (.int p0), .val (.int p1), .val (.int p2)] [])) (B := s₁.setTop (mkF m 3 #[.val (.int p0), .val (.int p1), .val (.int p2)] [(.int p2), (.int p1), (.int p0)])) (fun t k => ?_) ?_
  · show Steps p.tables e below (s₁.setTop (mkF m 0 #[.val (.int p0), .val (.int p1), .val (.int p2)] [])) t
    refine XS.iloadN X0.here hx rfl (hb hby d10_0) rfl ?_
    refine XS.iloadN X0.here hx rfl (hb hby d10_1) rfl ?_
    refine XS.iloadN X0.here hx rfl (hb hby d10_2) rfl ?_
    exact k
  obtain ⟨T1, X1, e1, st1⟩ := getS2 X0 hx hZ hown (host := "") (Or.inl (w54 hw)) Via.refl e0 S_SIOOBE_FORMATTER (g := (mkF m 3 #[.val (.int p0), .val (.int p1), .val (.int p2)] [(.int p2), (.int p1), (.int p0)])) rfl (hb hby d10_3)
  refine OwnGo.of st1 ?_
  show OwnGo p.tables e below _ (T1.setTop (mkF m 6 #[.val (.int p0), .val (.int p1), .val (.int p2)] [.null, (.int p2), (.int p1), (.int p0)]))
  obtain ⟨T2, L2, v2, X2, hQ2, st2⟩ := own_callS X1 hx (y := (⟨"jdk/internal/util/Preconditions", "checkFromToIndex", "(IIILjava/util/function/BiFunction;)I"⟩ : MethodName)) hown (mvT hZ (w56 hw)) (mvT hZ (w57 hw)) (mvT hZ (w55 hw)) (mvT hZ (w58 hw)) (by decide) (backOf (W := 0) (rm11n l Z aw hw [] p0 p1 p2  h0 n0 Z0 h1 h2 h3) hZ (w58 hw) (w55 hw) (by decide) (by decide)) (g := (mkF m 6 #[.val (.int p0), .val (.int p1), .val (.int p2)] [.null, (.int p2), (.int p1), (.int p0)])) rfl (by rw [hml]; rfl) (argsL := [(.int p0), (.int p1), (.int p2), .null]) (rest := []) (lenOf pd_33 rfl) rfl (by show 2 * 0 + _ ≤ _; exact Nat.le_of_eq rfl) (hb hby d10_6) rfl e1 (by decide) (by decide)
  obtain ⟨rfl, N2q, eq2⟩ := hQ2
  have N2 := Fr.app N0 N2q
  refine OwnGo.of st2 ?_
  show OwnGo p.tables e below _ (T2.setTop (mkF m 9 #[.val (.int p0), .val (.int p1), .val (.int p2)] [(.int p0)]))
  refine OwnGo.of (A := T2.setTop (mkF m 9 #[.val (.int p0), .val (.int p1), .val (.int p2)] [(.int p0)])) (B := T2.setTop (mkF m 10 #[.val (.int p0), .val (.int p1), .val (.int p2)] [])) (fun t k => ?_) ?_
  · show Steps p.tables e below (T2.setTop (mkF m 9 #[.val (.int p0), .val (.int p1), .val (.int p2)] [(.int p0)])) t
    refine XS.pop X2.here hx rfl (hb hby d10_9) rfl rfl ?_
    exact k
  obtain ⟨fs, hr, hrun, hended, hW, hsame⟩ := X2.leave (v := none) (fun _ => rfl) hlk
  refine ⟨_, _, ?_, hrun, hended, _, _, rfl, ?_, ⟨_, rfl⟩, hW, hsame.mono (by decide) (by decide)⟩
  · show Steps p.tables e below (T2.setTop (mkF m 10 #[.val (.int p0), .val (.int p1), .val (.int p2)] [])) _
    exact X2.returnOut hx Bd.returns (hb hby d10_10) hr
  · show Qrm10n Z p0 p1 p2 h0 n0 _ (T2.setFrames fs).heap _
    rw [show (T2.setFrames fs).heap = h0 from eq2]
    exact ⟨rfl, N2, rfl⟩
theorem ef_rm11r (m : MethodId) (p0 : Int32) (p1 : Int32) (p2 : Int32) (a3 : Addr) : entryFrame m #[(.int p0), (.int p1), (.int p2), (.ref a3)] 4 = mkF m 0 #[.val (.int p0), .val (.int p1), .val (.int p2), .val (.ref a3)] [] := by first | (simp [entryFrame, mkF, argsToLocals, Value.category]; done) | rfl
def Qrm11r (Z : State) (p0 : Int32) (p1 : Int32) (p2 : Int32) (a3 : Addr) (h0 : Heap) (n0 : Nat) (v : Option Value) (h : Heap) (L : List Loc) : Prop := v = some (.int p0) ∧ Fr n0 L ∧ h = h0
set_option maxRecDepth 65536 in
set_option maxHeartbeats 40000000 in
theorem rm11r (l : Launch) (Z : State) (aw : Array Value) (hw : ∀ d ∈ tables_1, d.before aw Z = true) (ws : List Jvm.Cond) (p0 : Int32) (p1 : Int32) (p2 : Int32) (a3 : Addr) (h0 : Heap) (n0 : Nat) (Z0 : n0 ≤ h0.size) (h1 : ¬ (p0 < (0 : Int32))) (h2 : ¬ (p1 < p0)) (h3 : ¬ (p2 < p1)) :
    MetFree l (⟨"jdk/internal/util/Preconditions", "checkFromToIndex", "(IIILjava/util/function/BiFunction;)I"⟩ : MethodName) (head1 (Jvm.Cond.code (⟨"jdk/internal/util/Preconditions", "checkFromToIndex", "(IIILjava/util/function/BiFunction;)I"⟩ : MethodName) jdk_41_method_12_code 4 (some .int) :: ws) ({ frames := 0, cells := 0, slots := 0, locals := 0 } : Room)) (fun a U => a = #[(.int p0), (.int p1), (.int p2), (.ref a3)] ∧ Z.Warmed39 U.vm ∧ U.heap = h0) (fun _ _ _ _ _ => True) (fun _ U o U' => ∃ v L, o = .returned v ∧ Qrm11r Z p0 p1 p2 a3 h0 n0 v U'.heap L ∧ FrameEnd U o U' L ({ frames := 0, cells := 0, slots := 0, locals := 0 } : Room).cells ({ frames := 0, cells := 0, slots := 0, locals := 0 } : Room).slots) := by
  refine MetFree.of_bodySF (plainFor_of_name pn_28) hisR ?_
  intro p e s m args below meth c s₁ Bd hml0 hP hK
  obtain ⟨rfl, hZ, hh⟩ := hP
  have hx := Bd.exec
  have hby := Bd.bytes
  have hml : c.maxLocals = 4 := hml0
  have hown : s.vm.findClass "jdk/internal/util/Preconditions" = some m.cls := findClass_of_methodNamed Bd.named
  have hnm := (name_of_methodNamed Bd.named Bd.method).1
  have X0 : Stand p l e ({ frames := 0, cells := 0, slots := 0, locals := 0 } : Room) s m #[(.int p0), (.int p1), (.int p2), (.ref a3)] below meth c s₁ [] 0 0 := Stand.of_body Bd
  have e0 : s₁.heap = h0 := by rw [← hh, Bd.state]; rfl
  have N0 := Fr.nil n0
  have hlk := Bd.notSynchronized
  show OwnGo p.tables e below _ (s₁.setTop (entryFrame m #[(.int p0), (.int p1), (.int p2), (.ref a3)] 4))
  rw [ef_rm11r m p0 p1 p2 a3]
  show OwnGo p.tables e below _ (s₁.setTop (mkF m 0 #[.val (.int p0), .val (.int p1), .val (.int p2), .val (.ref a3)] []))
  refine OwnGo.of (A := s₁.setTop (mkF m 0 #[.val (.int p0), .val (.int p1), .val (.int p2), .val (.ref a3)] [])) (B := s₁.setTop (mkF m 1 #[.val (.int p0), .val (.int p1), .val (.int p2), .val (.ref a3)] [(.int p0)])) (fun t k => ?_) ?_
  · show Steps p.tables e below (s₁.setTop (mkF m 0 #[.val (.int p0), .val (.int p1), .val (.int p2), .val (.ref a3)] [])) t
    refine XS.iloadN X0.here hx rfl (hb hby d11_0) rfl ?_
    exact k
  have hc1 : ¬ (p0 < (0 : Int32)) := h1
  refine OwnGo.of (A := s₁.setTop (mkF m 1 #[.val (.int p0), .val (.int p1), .val (.int p2), .val (.ref a3)] [(.int p0)])) (B := s₁.setTop (mkF m 6 #[.val (.int p0), .val (.int p1), .val (.int p2), .val (.ref a3)] [(.int p1), (.int p0)])) (fun t k => ?_) ?_
  · show Steps p.tables e below (s₁.setTop (mkF m 1 #[.val (.int p0), .val (.int p1), .val (.int p2), .val (.ref a3)] [(.int p0)])) t
    refine XS.ifNo X0.here hx rfl (hb hby d11_1) rfl ((if0 _ _).trans (flt hc1).1) ?_
    refine XS.iloadN X0.here hx rfl (hb hby d11_4) rfl ?_
    refine XS.iloadN X0.here hx rfl (hb hby d11_5) rfl ?_
    exact k
  have hc2 : ¬ (p1 < p0) := h2
  refine OwnGo.of (A := s₁.setTop (mkF m 6 #[.val (.int p0), .val (.int p1), .val (.int p2), .val (.ref a3)] [(.int p1), (.int p0)])) (B := s₁.setTop (mkF m 11 #[.val (.int p0), .val (.int p1), .val (.int p2), .val (.ref a3)] [(.int p2), (.int p1)])) (fun t k => ?_) ?_
  · show Steps p.tables e below (s₁.setTop (mkF m 6 #[.val (.int p0), .val (.int p1), .val (.int p2), .val (.ref a3)] [(.int p1), (.int p0)])) t
    refine XS.icmpNo X0.here hx rfl (hb hby d11_6) rfl (flt hc2).2.2.1 ?_
    refine XS.iloadN X0.here hx rfl (hb hby d11_9) rfl ?_
    refine XS.iloadN X0.here hx rfl (hb hby d11_10) rfl ?_
    exact k
  have hc3 : ¬ (p2 < p1) := h3
  refine OwnGo.of (A := s₁.setTop (mkF m 11 #[.val (.int p0), .val (.int p1), .val (.int p2), .val (.ref a3)] [(.int p2), (.int p1)])) (B := s₁.setTop (mkF m 23 #[.val (.int p0), .val (.int p1), .val (.int p2), .val (.ref a3)] [(.int p0)])) (fun t k => ?_) ?_
  · show Steps p.tables e below (s₁.setTop (mkF m 11 #[.val (.int p0), .val (.int p1), .val (.int p2), .val (.ref a3)] [(.int p2), (.int p1)])) t
    refine XS.icmpYes X0.here hx rfl (pc0 := 11) (pc' := 22) rfl (hb hby d11_11) rfl (flt hc3).2.2.2 (by decide) (by decide) ?_
    refine XS.iloadN X0.here hx rfl (hb hby d11_22) rfl ?_
    exact k
  obtain ⟨fs, hr, hrun, hended, hW, hsame⟩ := X0.leave (v := some (.int p0)) (fun h => by rw [Bd.returns] at h; cases h) hlk
  refine ⟨_, _, ?_, hrun, hended, _, _, rfl, ?_, ⟨_, rfl⟩, hW, hsame.mono (by decide) (by decide)⟩
  · show Steps p.tables e below (s₁.setTop (mkF m 23 #[.val (.int p0), .val (.int p1), .val (.int p2), .val (.ref a3)] [(.int p0)])) _
    exact own_retI X0 hx Bd.returns (hb hby d11_23) hr
  · show Qrm11r Z p0 p1 p2 a3 h0 n0 _ (s₁.setFrames fs).heap _
    rw [show (s₁.setFrames fs).heap = h0 from e0]
    exact ⟨rfl, N0, rfl⟩
theorem ef_rm10r (m : MethodId) (p0 : Int32) (p1 : Int32) (p2 : Int32) : entryFrame m #[(.int p0), (.int p1), (.int p2)] 3 = mkF m 0 #[.val (.int p0), .val (.int p1), .val (.int p2)] [] := by first | (simp [entryFrame, mkF, argsToLocals, Value.category]; done) | rfl
def Qrm10r (Z : State) (p0 : Int32) (p1 : Int32) (p2 : Int32) (fa : Addr) (h0 : Heap) (n0 : Nat) (v : Option Value) (h : Heap) (L : List Loc) : Prop := v = none ∧ Fr n0 L ∧ h = h0
set_option maxRecDepth 65536 in
set_option maxHeartbeats 40000000 in
theorem rm10r (l : Launch) (Z : State) (aw : Array Value) (hw : ∀ d ∈ tables_1, d.before aw Z = true) (ws : List Jvm.Cond) (p0 : Int32) (p1 : Int32) (p2 : Int32) (fa : Addr) (h0 : Heap) (n0 : Nat) (Z0 : n0 ≤ h0.size) (S_SIOOBE_FORMATTER : Sta Z h0 "jdk/internal/util/Preconditions" "SIOOBE_FORMATTER" "Ljava/util/function/BiFunction;" (.ref fa)) (h1 : ¬ (p0 < (0 : Int32))) (h2 : ¬ (p1 < p0)) (h3 : ¬ (p2 < p1)) :
    MetFree l (⟨"java/lang/String", "checkBoundsBeginEnd", "(III)V"⟩ : MethodName) (head1 (Jvm.Cond.code (⟨"java/lang/String", "checkBoundsBeginEnd", "(III)V"⟩ : MethodName) jdk_42_method_158_code 3 none :: ws) ({ frames := 1, cells := 0, slots := 0, locals := 15 } : Room)) (fun a U => a = #[(.int p0), (.int p1), (.int p2)] ∧ Z.Warmed39 U.vm ∧ U.heap = h0) (fun _ _ _ _ _ => True) (fun _ U o U' => ∃ v L, o = .returned v ∧ Qrm10r Z p0 p1 p2 fa h0 n0 v U'.heap L ∧ FrameEnd U o U' L ({ frames := 1, cells := 0, slots := 0, locals := 15 } : Room).cells ({ frames := 1, cells := 0, slots := 0, locals := 15 } : Room).slots) := by
  refine MetFree.of_bodySF (plainFor_of_name pn_26) hisR ?_
  intro p e s m args below meth c s₁ Bd hml0 hP hK
  obtain ⟨rfl, hZ, hh⟩ := hP
  have hx := Bd.exec
  have hby := Bd.bytes
  have hml : c.maxLocals = 3 := hml0
  have hown : s.vm.findClass "java/lang/String" = some m.cls := findClass_of_methodNamed Bd.named
  have hnm := (name_of_methodNamed Bd.named Bd.method).1
  have X0 : Stand p l e ({ frames := 1, cells := 0, slots := 0, locals := 15 } : Room) s m #[(.int p0), (.int p1), (.int p2)] below meth c s₁ [] 0 0 := Stand.of_body Bd
  have e0 : s₁.heap = h0 := by rw [← hh, Bd.state]; rfl
  have N0 := Fr.nil n0
  have hlk := Bd.notSynchronized
  show OwnGo p.tables e below _ (s₁.setTop (entryFrame m #[(.int p0), (.int p1), (.int p2)] 3))
  rw [ef_rm10r m p0 p1 p2]
  show OwnGo p.tables e below _ (s₁.setTop (mkF m 0 #[.val (.int p0), .val (.int p1), .val (.int p2)] []))
  refine OwnGo.of (A := s₁.setTop (mkF m 0 #[.val (.int p0), .val (.int p1), .val (.int p2)] [])) (B := s₁.setTop (mkF m 3 #[.val (.int p0), .val (.int p1), .val (.int p2)] [(.int p2), (.int p1), (.int p0)])) (fun t k => ?_) ?_
  · show Steps p.tables e below (s₁.setTop (mkF m 0 #[.val (.int p0), .val (.int p1), .val (.int p2)] [])) t
    refine XS.iloadN X0.here hx rfl (hb hby d10_0) rfl ?_
    refine XS.iloadN X0.here hx rfl (hb hby d10_1) rfl ?_
    refine XS.iloadN X0.here hx rfl (hb hby d10_2) rfl ?_
    exact k
  obtain ⟨T1, X1, e1, st1⟩ := getS2 X0 hx hZ hown (host := "") (Or.inl (w54 hw)) Via.refl e0 S_SIOOBE_FORMATTER (g := (mkF m 3 #[.val (.int p0), .val (.int p1), .val (.int p2)] [(.int p2), (.int p1), (.int p0)])) rfl (hb hby d10_3)
  refine OwnGo.of st1 ?_
  show OwnGo p.tables e below _ (T1.setTop (mkF m 6 #[.val (.int p0), .val (.int p1), .val (.int p2)] [(.ref fa), (.int p2), (.int p1), (.int p0)]))
  obtain ⟨T2, L2, v2, X2, hQ2, st2⟩ := own_callS X1 hx (y := (⟨"jdk/internal/util/Preconditions", "checkFromToIndex", "(IIILjava/util/function/BiFunction;)I"⟩ : MethodName)) hown (mvT hZ (w56 hw)) (mvT hZ (w57 hw)) (mvT hZ (w55 hw)) (mvT hZ (w58 hw)) (by decide) (backOf (W := 0) (rm11r l Z aw hw [] p0 p1 p2 fa  h0 n0 Z0 h1 h2 h3) hZ (w58 hw) (w55 hw) (by decide) (by decide)) (g := (mkF m 6 #[.val (.int p0), .val (.int p1), .val (.int p2)] [(.ref fa), (.int p2), (.int p1), (.int p0)])) rfl (by rw [hml]; rfl) (argsL := [(.int p0), (.int p1), (.int p2), (.ref fa)]) (rest := []) (lenOf pd_33 rfl) rfl (by show 2 * 0 + _ ≤ _; exact Nat.le_of_eq rfl) (hb hby d10_6) rfl e1 (by decide) (by decide)
  obtain ⟨rfl, N2q, eq2⟩ := hQ2
  have N2 := Fr.app N0 N2q
  refine OwnGo.of st2 ?_
  show OwnGo p.tables e below _ (T2.setTop (mkF m 9 #[.val (.int p0), .val (.int p1), .val (.int p2)] [(.int p0)]))
  refine OwnGo.of (A := T2.setTop (mkF m 9 #[.val (.int p0), .val (.int p1), .val (.int p2)] [(.int p0)])) (B := T2.setTop (mkF m 10 #[.val (.int p0), .val (.int p1), .val (.int p2)] [])) (fun t k => ?_) ?_
  · show Steps p.tables e below (T2.setTop (mkF m 9 #[.val (.int p0), .val (.int p1), .val (.int p2)] [(.int p0)])) t
    refine XS.pop X2.here hx rfl (hb hby d10_9) rfl rfl ?_
    exact k
  obtain ⟨fs, hr, hrun, hended, hW, hsame⟩ := X2.leave (v := none) (fun _ => rfl) hlk
  refine ⟨_, _, ?_, hrun, hended, _, _, rfl, ?_, ⟨_, rfl⟩, hW, hsame.mono (by decide) (by decide)⟩
  · show Steps p.tables e below (T2.setTop (mkF m 10 #[.val (.int p0), .val (.int p1), .val (.int p2)] [])) _
    exact X2.returnOut hx Bd.returns (hb hby d10_10) hr
  · show Qrm10r Z p0 p1 p2 fa h0 n0 _ (T2.setFrames fs).heap _
    rw [show (T2.setFrames fs).heap = h0 from eq2]
    exact ⟨rfl, N2, rfl⟩

theorem rm10 (l : Launch) (Z : State) (aw : Array Value) (hw : ∀ d ∈ tables_1, d.before aw Z = true) (ws : List Jvm.Cond) (p0 p1 p2 : Int32) (fm : Value) (h0 : Heap) (n0 : Nat) (Z0 : n0 ≤ h0.size) (S_F : Sta Z h0 "jdk/internal/util/Preconditions" "SIOOBE_FORMATTER" "Ljava/util/function/BiFunction;" fm) (rf : fm.isRef = true) (h1 : ¬ (p0 < (0 : Int32))) (h2 : ¬ (p1 < p0)) (h3 : ¬ (p2 < p1)) :
    MetFree l (⟨"java/lang/String", "checkBoundsBeginEnd", "(III)V"⟩ : MethodName) (head1 (Jvm.Cond.code (⟨"java/lang/String", "checkBoundsBeginEnd", "(III)V"⟩ : MethodName) jdk_42_method_158_code 3 none :: ws) ({ frames := 1, cells := 0, slots := 0, locals := 15 } : Room)) (fun a U => a = #[(.int p0), (.int p1), (.int p2)] ∧ Z.Warmed39 U.vm ∧ U.heap = h0) (fun _ _ _ _ _ => True) (fun _ U o U' => ∃ v L, o = .returned v ∧ Qrm10n Z p0 p1 p2 h0 n0 v U'.heap L ∧ FrameEnd U o U' L ({ frames := 1, cells := 0, slots := 0, locals := 15 } : Room).cells ({ frames := 1, cells := 0, slots := 0, locals := 15 } : Room).slots) := by
  cases fm with
  | null => exact rm10n l Z aw hw ws p0 p1 p2 h0 n0 Z0 S_F h1 h2 h3
  | ref y => exact rm10r l Z aw hw ws p0 p1 p2 y h0 n0 Z0 S_F h1 h2 h3
  | _ => cases rf

theorem w16 {Z aw} (hw : OwnHW aw Z) : Cond.before (Jvm.Cond.methodLink "java/lang/String" (1 : Nat) ({ cls := "java/lang/Object", name := "<init>", desc := "()V" } : Jvm.MethodName)) aw Z = true := hw _ (List.mem_of_getElem? (i := 16) rfl)
theorem w17 {Z aw} (hw : OwnHW aw Z) : Cond.before (Jvm.Cond.instanceMethod ({ cls := "java/lang/Object", name := "<init>", desc := "()V" } : Jvm.MethodName)) aw Z = true := hw _ (List.mem_of_getElem? (i := 17) rfl)
theorem w18 {Z aw} (hw : OwnHW aw Z) : Cond.before (Jvm.Cond.code ({ cls := "java/lang/Object", name := "<init>", desc := "()V" } : Jvm.MethodName) object_method_1_code (1 : Nat) (Option.none : Option Jvm.ClassFile.FieldType)) aw Z = true := hw _ (List.mem_of_getElem? (i := 18) rfl)
theorem w25 {Z aw} (hw : OwnHW aw Z) : Cond.before (Jvm.Cond.fieldLink "java/lang/String" (9 : Nat) "java/lang/String" "value" "[B") aw Z = true := hw _ (List.mem_of_getElem? (i := 25) rfl)
theorem w21 {Z aw} (hw : OwnHW aw Z) : Cond.before (Jvm.Cond.laysFinal "java/lang/String" "java/lang/String" "value" "[B") aw Z = true := hw _ (List.mem_of_getElem? (i := 21) rfl)
theorem w22 {Z aw} (hw : OwnHW aw Z) : Cond.before (Jvm.Cond.laysFinal "java/lang/String" "java/lang/String" "coder" "B") aw Z = true := hw _ (List.mem_of_getElem? (i := 22) rfl)
theorem d28_0 : decode jdk_42_method_151_code 0 = .ok (.aload_n 0, 1) := by decide +kernel
theorem d28_1 : decode jdk_42_method_151_code 1 = .ok (.invokespecial 1, 3) := by decide +kernel
theorem d28_4 : decode jdk_42_method_151_code 4 = .ok (.aload_n 0, 1) := by decide +kernel
theorem d28_5 : decode jdk_42_method_151_code 5 = .ok (.aload_n 1, 1) := by decide +kernel
theorem d28_6 : decode jdk_42_method_151_code 6 = .ok (.putfield 9, 3) := by decide +kernel
theorem d28_9 : decode jdk_42_method_151_code 9 = .ok (.aload_n 0, 1) := by decide +kernel
theorem d28_10 : decode jdk_42_method_151_code 10 = .ok (.iload_n 2, 1) := by decide +kernel
theorem d28_11 : decode jdk_42_method_151_code 11 = .ok (.putfield 15, 3) := by decide +kernel
theorem d28_14 : decode jdk_42_method_151_code 14 = .ok (.return_, 1) := by decide +kernel
theorem ef_rm28 (m : MethodId) (a0 : Addr) (a1 : Addr) : entryFrame m #[(.ref a0), (.ref a1), (.int (0 : Int32))] 3 = mkF m 0 #[.val (.ref a0), .val (.ref a1), .val (.int (0 : Int32))] [] := by first | (simp [entryFrame, mkF, argsToLocals, Value.category]; done) | rfl
def Qrm28 (Z : State) (a0 : Addr) (a1 : Addr) (h0 : Heap) (n0 : Nat) (v : Option Value) (h : Heap) (L : List Loc) : Prop := v = none ∧ Fr n0 L ∧ Keep h0 h [a0] ∧ Exa Z h a0 "java/lang/String" ∧ Fld Z h a0 "java/lang/String" "value" "[B" (.ref a1) ∧ Fld Z h a0 "java/lang/String" "coder" "B" (.int (0 : Int32))
set_option maxRecDepth 65536 in
set_option maxHeartbeats 40000000 in
theorem rm28 (l : Launch) (Z : State) (aw : Array Value) (hw : ∀ d ∈ tables_1, d.before aw Z = true) (ws : List Jvm.Cond) (a0 : Addr) (a1 : Addr) (h0 : Heap) (n0 : Nat) (Z0 : n0 ≤ h0.size) (E_a0 : Exa Z h0 a0 "java/lang/String") (F_a0_value : Fld Z h0 a0 "java/lang/String" "value" "[B" .null) (F_a0_coder : Fld Z h0 a0 "java/lang/String" "coder" "B" (.int (0 : Int32))) (g_a0 : n0 ≤ a0) :
    MetFree l (⟨"java/lang/String", "<init>", "([BB)V"⟩ : MethodName) (head1 (Jvm.Cond.code (⟨"java/lang/String", "<init>", "([BB)V"⟩ : MethodName) jdk_42_method_151_code 3 none :: ws) ({ frames := 1, cells := 0, slots := 0, locals := 12 } : Room)) (fun a U => a = #[(.ref a0), (.ref a1), (.int (0 : Int32))] ∧ Z.Warmed39 U.vm ∧ U.heap = h0) (fun _ _ _ _ _ => True) (fun _ U o U' => ∃ v L, o = .returned v ∧ Qrm28 Z a0 a1 h0 n0 v U'.heap L ∧ FrameEnd U o U' L ({ frames := 1, cells := 0, slots := 0, locals := 12 } : Room).cells ({ frames := 1, cells := 0, slots := 0, locals := 12 } : Room).slots) := by
  refine MetFree.of_bodySF (plainFor_of_name pn_26) hisR ?_
  intro p e s m args below meth c s₁ Bd hml0 hP hK
  obtain ⟨rfl, hZ, hh⟩ := hP
  have hx := Bd.exec
  have hby := Bd.bytes
  have hml : c.maxLocals = 3 := hml0
  have hown : s.vm.findClass "java/lang/String" = some m.cls := findClass_of_methodNamed Bd.named
  have hnm := (name_of_methodNamed Bd.named Bd.method).1
  have X0 : Stand p l e ({ frames := 1, cells := 0, slots := 0, locals := 12 } : Room) s m #[(.ref a0), (.ref a1), (.int (0 : Int32))] below meth c s₁ [] 0 0 := Stand.of_body Bd
  have e0 : s₁.heap = h0 := by rw [← hh, Bd.state]; rfl
  have N0 := Fr.nil n0
  have hlk := Bd.notSynchronized
  show OwnGo p.tables e below _ (s₁.setTop (entryFrame m #[(.ref a0), (.ref a1), (.int (0 : Int32))] 3))
  rw [ef_rm28 m a0 a1]
  have K0 : Keep h0 h0 [a0] := Keep.refl _ _
  show OwnGo p.tables e below _ (s₁.setTop (mkF m 0 #[.val (.ref a0), .val (.ref a1), .val (.int (0 : Int32))] []))
  refine OwnGo.of (A := s₁.setTop (mkF m 0 #[.val (.ref a0), .val (.ref a1), .val (.int (0 : Int32))] [])) (B := s₁.setTop (mkF m 1 #[.val (.ref a0), .val (.ref a1), .val (.int (0 : Int32))] [(.ref a0)])) (fun t k => ?_) ?_
  · show Steps p.tables e below (s₁.setTop (mkF m 0 #[.val (.ref a0), .val (.ref a1), .val (.int (0 : Int32))] [])) t
    refine XS.aloadN X0.here hx rfl (hb hby d28_0) rfl rfl ?_
    exact k
  obtain ⟨T1, X1, e1, st1⟩ := initO X0 hx hZ hown (w16 hw) (w17 hw) (w18 hw) e0 (g := (mkF m 1 #[.val (.ref a0), .val (.ref a1), .val (.int (0 : Int32))] [(.ref a0)])) rfl (by rw [hml]; rfl) rfl (hb hby d28_1) (by decide) (W := 0) (by show 2 * 0 + _ ≤ _; exact Nat.le_of_eq rfl) (by decide)
  refine OwnGo.of st1 ?_
  show OwnGo p.tables e below _ (T1.setTop (mkF m 4 #[.val (.ref a0), .val (.ref a1), .val (.int (0 : Int32))] []))
  refine OwnGo.of (A := T1.setTop (mkF m 4 #[.val (.ref a0), .val (.ref a1), .val (.int (0 : Int32))] [])) (B := T1.setTop (mkF m 6 #[.val (.ref a0), .val (.ref a1), .val (.int (0 : Int32))] [(.ref a1), (.ref a0)])) (fun t k => ?_) ?_
  · show Steps p.tables e below (T1.setTop (mkF m 4 #[.val (.ref a0), .val (.ref a1), .val (.int (0 : Int32))] [])) t
    refine XS.aloadN X1.here hx rfl (hb hby d28_4) rfl rfl ?_
    refine XS.aloadN X1.here hx rfl (hb hby d28_5) rfl rfl ?_
    exact k
  obtain ⟨T2, h2, X2, e2, W2, st2⟩ := putF X1 hx hZ hown (host := "") (Or.inl (w25 hw)) Via.refl e1 F_a0_value E_a0 (Or.inr ⟨(w21 hw), rfl, hnm⟩) (w7 hw) (ty := (.array .byte)) (by decide) rfl rfl (g := (mkF m 6 #[.val (.ref a0), .val (.ref a1), .val (.int (0 : Int32))] [(.ref a1), (.ref a0)])) rfl rfl (hb hby d28_6)
  refine OwnGo.of st2 ?_
  have N2 := Fr.snoc X2 N0 g_a0
  have f3 := Nat.le_trans Z0 (Keep.of_wr W2).1
  have f4 := K0.wr W2 (Or.inl (List.mem_of_getElem? (i := 0) rfl))
  have f5 := E_a0.wr W2
  have f6 := F_a0_coder.other W2 (Or.inr (slot_ne (Or.inr (w22 hw)) (Or.inr (w21 hw)) (by decide) (t := .byte) (t' := (.array .byte)) (by decide) (by decide)))
  have f7 : Fld Z h2 a0 "java/lang/String" "value" "[B" (.ref a1) := Fld.same W2 F_a0_value
  show OwnGo p.tables e below _ (T2.setTop (mkF m 9 #[.val (.ref a0), .val (.ref a1), .val (.int (0 : Int32))] []))
  refine OwnGo.of (A := T2.setTop (mkF m 9 #[.val (.ref a0), .val (.ref a1), .val (.int (0 : Int32))] [])) (B := T2.setTop (mkF m 11 #[.val (.ref a0), .val (.ref a1), .val (.int (0 : Int32))] [(.int (0 : Int32)), (.ref a0)])) (fun t k => ?_) ?_
  · show Steps p.tables e below (T2.setTop (mkF m 9 #[.val (.ref a0), .val (.ref a1), .val (.int (0 : Int32))] [])) t
    refine XS.aloadN X2.here hx rfl (hb hby d28_9) rfl rfl ?_
    refine XS.iloadN X2.here hx rfl (hb hby d28_10) rfl ?_
    exact k
  obtain ⟨T8, h8, X8, e8, W8, st8⟩ := putFN X2 hx hZ hown (w26 hw) Via.refl e2 f6 f5 (Or.inr ⟨(w22 hw), rfl, hnm⟩) (w7 hw) (ty := .byte) (v' := (.int (0 : Int32))) (by decide) rfl rfl (g := (mkF m 11 #[.val (.ref a0), .val (.ref a1), .val (.int (0 : Int32))] [(.int (0 : Int32)), (.ref a0)])) rfl rfl (hb hby d28_11)
  refine OwnGo.of st8 ?_
  have N8 := Fr.snoc X8 N2 g_a0
  have f9 := Nat.le_trans f3 (Keep.of_wr W8).1
  have f10 := f4.wr W8 (Or.inl (List.mem_of_getElem? (i := 0) rfl))
  have f11 := f5.wr W8
  have f12 := f7.other W8 (Or.inr (slot_ne (Or.inr (w21 hw)) (Or.inr (w22 hw)) (by decide) (t := (.array .byte)) (t' := .byte) (by decide) (by decide)))
  have f13 : Fld Z h8 a0 "java/lang/String" "coder" "B" (.int (0 : Int32)) := Fld.same W8 f6
  show OwnGo p.tables e below _ (T8.setTop (mkF m 14 #[.val (.ref a0), .val (.ref a1), .val (.int (0 : Int32))] []))
  obtain ⟨fs, hr, hrun, hended, hW, hsame⟩ := X8.leave (v := none) (fun _ => rfl) hlk
  refine ⟨_, _, ?_, hrun, hended, _, _, rfl, ?_, ⟨_, rfl⟩, hW, hsame.mono (by decide) (by decide)⟩
  · show Steps p.tables e below (T8.setTop (mkF m 14 #[.val (.ref a0), .val (.ref a1), .val (.int (0 : Int32))] [])) _
    exact X8.returnOut hx Bd.returns (hb hby d28_14) hr
  · show Qrm28 Z a0 a1 h0 n0 _ (T8.setFrames fs).heap _
    rw [show (T8.setFrames fs).heap = h8 from e8]
    exact ⟨rfl, N8, f10, f11, f12, f13⟩

theorem own_slice {cs ds : List Int32} (hp : ∀ c ∈ cs, OwnCh c) (i k : Nat) (q : ds = (cs.drop i).take k) : ∀ c ∈ ds, OwnCh c := fun c hc => hp c (List.mem_of_mem_drop (List.mem_of_mem_take (q ▸ hc)))


def OwnCut (p1 p2 z : Int32) : Prop := (¬ p1 < 0 ∧ ¬ p2 < p1 ∧ p1.toNatClampNeg + (p2 - p1).toNatClampNeg ≤ z.toNatClampNeg) ∧ (¬ (p2 - p1) < 0 ∧ ¬ (z - p1) < (p2 - p1) ∧ (p2 - p1).toNatClampNeg ≤ 4) ∧ (p1 = 0 → ¬ p2 = z)
/-- ds: the chars of cs from p1 to p2 -/
def OwnPart (cs ds : List Int32) (p1 p2 : Int32) : Prop := OwnCut p1 p2 (Int32.ofNat cs.length) ∧ (ds.map fun c => Value.int (StrChars.lo8 c)) = (List.range (p2 - p1).toNatClampNeg).map (fun i => (cs.map fun c => Value.int (StrChars.lo8 c)).getD (p1.toNatClampNeg + i) (.int 0)) ∧ p2 - p1 = Int32.ofNat ds.length
theorem own_z0 : (0 : Int32).toNatClampNeg = 0 := by decide
theorem own_cp {us : List Value} {dv : Value} {k : Nat} : (List.replicate k dv).take (0 : Int32).toNatClampNeg ++ us ++ (List.replicate k dv).drop ((0 : Int32).toNatClampNeg + k) = us := by
  rw [own_z0]; simp
/-- arraycopy onto the whole of a fresh byte[] -/
theorem own_cpA {p : Program} {l : Launch} {e : Env} {R : Room} {s : State} {m : MethodId} {args : Array Value} {below : List Frame} {meth : Method} {c : Code} {T : State} {locs : List Loc} {cells slots : Nat} {Z : State} {h : Heap} {a b : Addr} {k k' : ClassId} {z sp nn : Int32} {vs us : List Value}
    (X : Stand p l e R s m args below meth c T locs cells slots) (hx : p.tables.exec = Jvm.exec) (hZ : Z.Warmed39 s.vm) {a0 : Array Value} {own : String} {index : Nat} (hown : s.vm.findClass own = some m.cls)
    (w1 : (Jvm.Cond.methodLink own index Jvm.Stand.acN).before a0 Z = true) (w2 : (Jvm.Cond.native Jvm.Stand.acN).before a0 Z = true) (w3 : (Jvm.Cond.static Jvm.Stand.acN).before a0 Z = true) (w4 : (Jvm.Cond.initialized "java/lang/System").before a0 Z = true) (eT : T.heap = h)
    (A : Arv Z h a k .byte z vs (.int 0)) (B : Arv Z h b k' .byte nn (List.replicate nn.toNatClampNeg (.int 0)) (.int 0)) (h1 : ¬ sp < 0) (h3 : ¬ nn < 0) (h4 : sp.toNatClampNeg + nn.toNatClampNeg ≤ z.toNatClampNeg)
    (hus : us = (List.range nn.toNatClampNeg).map fun i => vs.getD (sp.toNatClampNeg + i) (.int 0)) {n0 : Nat} (N : Fr n0 locs) (ge : n0 ≤ b)
    {g : JFrame} (hg : g.method = m) (hsize : g.locals.size = c.maxLocals) {rest : List Value} (hs : g.stack = .int nn :: .int 0 :: .ref b :: .int sp :: .ref a :: rest) (hd : decode c.code g.pc = .ok (.invokestatic index, 3))
    (hf : 1 ≤ R.frames) {W : Nat} (hW : 2 * g.monitorRoom + (rest.map fun v => v.category).sum ≤ W) (hlo : W + 18 ≤ R.locals) :
    ∃ T' h' L, Stand p l e R s m args below meth c T' L cells slots ∧ T'.heap = h' ∧ Fr n0 L ∧ Keep h h' [b] ∧ Arv Z h' b k' .byte nn us (.int 0) ∧
      ∀ target, Steps p.tables e below (T'.setTop { g with pc := g.pc + 3, stack := rest }) target → Steps p.tables e below (T.setTop g) target := by
  have hn : nativeFrameWords "java/lang/System" "arraycopy" 5 = 7 := by decide
  obtain ⟨T', h', L, X', e', N', K', A', st⟩ := cpA X hx hZ hown w1 w2 w3 w4 eT A B (us := us) (Or.inl ⟨rfl, rfl⟩) h1 (dp := 0) (by decide) h3 h4 (Nat.le_of_eq (by rw [own_z0, Nat.zero_add])) hus (Nat.le_of_eq (by rw [List.length_replicate, own_z0, Nat.zero_add])) N ge hg hsize hs hd hf hW (by rw [hn]; exact hlo)
  rw [own_cp] at A'
  exact ⟨T', h', L, X', e', N', K', A', st⟩

theorem w110 {Z aw} (hw : OwnHW aw Z) : Cond.before (Jvm.Cond.methodLink "java/util/Arrays" (343 : Nat) ({ cls := "java/util/Arrays", name := "checkLength", desc := "(II)V" } : Jvm.MethodName)) aw Z = true := hw _ (List.mem_of_getElem? (i := 110) rfl)
theorem w112 {Z aw} (hw : OwnHW aw Z) : Cond.before (Jvm.Cond.code ({ cls := "java/util/Arrays", name := "checkLength", desc := "(II)V" } : Jvm.MethodName) jdk_65_method_131_code (2 : Nat) (Option.none : Option Jvm.ClassFile.FieldType)) aw Z = true := hw _ (List.mem_of_getElem? (i := 112) rfl)
theorem w105 {Z aw} (hw : OwnHW aw Z) : Cond.before (Jvm.Cond.initialized "java/util/Arrays") aw Z = true := hw _ (List.mem_of_getElem? (i := 105) rfl)
theorem pd_44 : parseMethodDescriptor "(II)V" = some ⟨[.int, .int], none⟩ := by decide +kernel
theorem w111 {Z aw} (hw : OwnHW aw Z) : Cond.before (Jvm.Cond.static ({ cls := "java/util/Arrays", name := "checkLength", desc := "(II)V" } : Jvm.MethodName)) aw Z = true := hw _ (List.mem_of_getElem? (i := 111) rfl)
theorem w20 {Z aw} (hw : OwnHW aw Z) : Cond.before (Jvm.Cond.arrayClass Jvm.ClassFile.FieldType.byte) aw Z = true := hw _ (List.mem_of_getElem? (i := 20) rfl)
theorem w113 {Z aw} (hw : OwnHW aw Z) : Cond.before (Jvm.Cond.methodLink "java/util/Arrays" (304 : Nat) ({ cls := "java/lang/Math", name := "min", desc := "(II)I" } : Jvm.MethodName)) aw Z = true := hw _ (List.mem_of_getElem? (i := 113) rfl)
theorem w116 {Z aw} (hw : OwnHW aw Z) : Cond.before (Jvm.Cond.code ({ cls := "java/lang/Math", name := "min", desc := "(II)I" } : Jvm.MethodName) jdk_29_method_69_code (2 : Nat) (Option.some Jvm.ClassFile.FieldType.int)) aw Z = true := hw _ (List.mem_of_getElem? (i := 116) rfl)
theorem w115 {Z aw} (hw : OwnHW aw Z) : Cond.before (Jvm.Cond.initialized "java/lang/Math") aw Z = true := hw _ (List.mem_of_getElem? (i := 115) rfl)
theorem pd_50 : parseMethodDescriptor "(II)I" = some ⟨[.int, .int], some .int⟩ := by decide +kernel
theorem w114 {Z aw} (hw : OwnHW aw Z) : Cond.before (Jvm.Cond.static ({ cls := "java/lang/Math", name := "min", desc := "(II)I" } : Jvm.MethodName)) aw Z = true := hw _ (List.mem_of_getElem? (i := 114) rfl)
theorem w117 {Z aw} (hw : OwnHW aw Z) : Cond.before (Jvm.Cond.methodLink "java/util/Arrays" (150 : Nat) ({ cls := "java/lang/System", name := "arraycopy", desc := "(Ljava/lang/Object;ILjava/lang/Object;II)V" } : Jvm.MethodName)) aw Z = true := hw _ (List.mem_of_getElem? (i := 117) rfl)
theorem w120 {Z aw} (hw : OwnHW aw Z) : Cond.before (Jvm.Cond.native ({ cls := "java/lang/System", name := "arraycopy", desc := "(Ljava/lang/Object;ILjava/lang/Object;II)V" } : Jvm.MethodName)) aw Z = true := hw _ (List.mem_of_getElem? (i := 120) rfl)
theorem w118 {Z aw} (hw : OwnHW aw Z) : Cond.before (Jvm.Cond.static ({ cls := "java/lang/System", name := "arraycopy", desc := "(Ljava/lang/Object;ILjava/lang/Object;II)V" } : Jvm.MethodName)) aw Z = true := hw _ (List.mem_of_getElem? (i := 118) rfl)
theorem w119 {Z aw} (hw : OwnHW aw Z) : Cond.before (Jvm.Cond.initialized "java/lang/System") aw Z = true := hw _ (List.mem_of_getElem? (i := 119) rfl)
theorem d25_0 : decode jdk_65_method_133_code 0 = .ok (.iload_n 1, 1) := by decide +kernel
theorem d25_1 : decode jdk_65_method_133_code 1 = .ok (.iload_n 2, 1) := by decide +kernel
theorem d25_2 : decode jdk_65_method_133_code 2 = .ok (.invokestatic 343, 3) := by decide +kernel
theorem d25_5 : decode jdk_65_method_133_code 5 = .ok (.iload_n 2, 1) := by decide +kernel
theorem d25_6 : decode jdk_65_method_133_code 6 = .ok (.iload_n 1, 1) := by decide +kernel
theorem d25_7 : decode jdk_65_method_133_code 7 = .ok (.isub, 1) := by decide +kernel
theorem d25_8 : decode jdk_65_method_133_code 8 = .ok (.istore_n 3, 1) := by decide +kernel
theorem d25_9 : decode jdk_65_method_133_code 9 = .ok (.iload_n 3, 1) := by decide +kernel
theorem d25_10 : decode jdk_65_method_133_code 10 = .ok (.newarray .byte, 2) := by decide +kernel
theorem d25_12 : decode jdk_65_method_133_code 12 = .ok (.astore 4, 2) := by decide +kernel
theorem d25_14 : decode jdk_65_method_133_code 14 = .ok (.aload_n 0, 1) := by decide +kernel
theorem d25_15 : decode jdk_65_method_133_code 15 = .ok (.iload_n 1, 1) := by decide +kernel
theorem d25_16 : decode jdk_65_method_133_code 16 = .ok (.aload 4, 2) := by decide +kernel
theorem d25_18 : decode jdk_65_method_133_code 18 = .ok (.iconst 0, 1) := by decide +kernel
theorem d25_19 : decode jdk_65_method_133_code 19 = .ok (.aload_n 0, 1) := by decide +kernel
theorem d25_20 : decode jdk_65_method_133_code 20 = .ok (.arraylength, 1) := by decide +kernel
theorem d25_21 : decode jdk_65_method_133_code 21 = .ok (.iload_n 1, 1) := by decide +kernel
theorem d25_22 : decode jdk_65_method_133_code 22 = .ok (.isub, 1) := by decide +kernel
theorem d25_23 : decode jdk_65_method_133_code 23 = .ok (.iload_n 3, 1) := by decide +kernel
theorem d25_24 : decode jdk_65_method_133_code 24 = .ok (.invokestatic 304, 3) := by decide +kernel
theorem d25_27 : decode jdk_65_method_133_code 27 = .ok (.invokestatic 150, 3) := by decide +kernel
theorem d25_30 : decode jdk_65_method_133_code 30 = .ok (.aload 4, 2) := by decide +kernel
theorem d25_32 : decode jdk_65_method_133_code 32 = .ok (.areturn, 1) := by decide +kernel
theorem ef_rm25 (m : MethodId) (a0 : Addr) (p1 : Int32) (p2 : Int32) : entryFrame m #[(.ref a0), (.int p1), (.int p2)] 5 = mkF m 0 #[.val (.ref a0), .val (.int p1), .val (.int p2), .unset, .unset] [] := by first | (simp [entryFrame, mkF, argsToLocals, Value.category]; done) | rfl
def Qrm25 (Z : State) (a0 : Addr) (p1 : Int32) (p2 : Int32) (z : Int32) (vs : List Value) (us : List Value) (ka : ClassId) (h0 : Heap) (n0 : Nat) (v : Option Value) (h : Heap) (L : List Loc) : Prop := Fr n0 L ∧ Keep h0 h [] ∧ ∃ (y : Addr) (k : ClassId), v = some (.ref y) ∧ Arv Z h y k .byte (p2 - p1) us (.int (0 : Int32)) ∧ h0.size ≤ y
set_option maxRecDepth 65536 in
set_option maxHeartbeats 40000000 in
theorem rm25 (l : Launch) (Z : State) (aw : Array Value) (hw : ∀ d ∈ tables_1, d.before aw Z = true) (ws : List Jvm.Cond) (a0 : Addr) (p1 : Int32) (p2 : Int32) (z : Int32) (vs : List Value) (us : List Value) (ka : ClassId) (h0 : Heap) (n0 : Nat) (Z0 : n0 ≤ h0.size) (V_a : Arv Z h0 a0 ka .byte z vs (.int (0 : Int32))) (hcut : OwnCut p1 p2 z) (hus : us = (List.range (p2 - p1).toNatClampNeg).map fun i => vs.getD (p1.toNatClampNeg + i) (.int (0 : Int32))) :
    MetFree l (⟨"java/util/Arrays", "copyOfRangeByte", "([BII)[B"⟩ : MethodName) (head1 (Jvm.Cond.code (⟨"java/util/Arrays", "copyOfRangeByte", "([BII)[B"⟩ : MethodName) jdk_65_method_133_code 5 (some (.array .byte)) :: ws) ({ frames := 1, cells := 1, slots := 4, locals := 18 } : Room)) (fun a U => a = #[(.ref a0), (.int p1), (.int p2)] ∧ Z.Warmed39 U.vm ∧ U.heap = h0) (fun _ _ _ _ _ => True) (fun _ U o U' => ∃ v L, o = .returned v ∧ Qrm25 Z a0 p1 p2 z vs us ka h0 n0 v U'.heap L ∧ FrameEnd U o U' L ({ frames := 1, cells := 1, slots := 4, locals := 18 } : Room).cells ({ frames := 1, cells := 1, slots := 4, locals := 18 } : Room).slots) := by
  refine MetFree.of_bodySF (plainFor_of_name pn_27) hisR ?_
  intro p e s m args below meth c s₁ Bd hml0 hP hK
  obtain ⟨rfl, hZ, hh⟩ := hP
  have hx := Bd.exec
  have hby := Bd.bytes
  have hml : c.maxLocals = 5 := hml0
  have hown : s.vm.findClass "java/util/Arrays" = some m.cls := findClass_of_methodNamed Bd.named
  have hnm := (name_of_methodNamed Bd.named Bd.method).1
  have X0 : Stand p l e ({ frames := 1, cells := 1, slots := 4, locals := 18 } : Room) s m #[(.ref a0), (.int p1), (.int p2)] below meth c s₁ [] 0 0 := Stand.of_body Bd
  have e0 : s₁.heap = h0 := by rw [← hh, Bd.state]; rfl
  have N0 := Fr.nil n0
  have hlk := Bd.notSynchronized
  show OwnGo p.tables e below _ (s₁.setTop (entryFrame m #[(.ref a0), (.int p1), (.int p2)] 5))
  rw [ef_rm25 m a0 p1 p2]
  have K0 : Keep h0 h0 [] := Keep.refl _ _
  show OwnGo p.tables e below _ (s₁.setTop (mkF m 0 #[.val (.ref a0), .val (.int p1), .val (.int p2), .unset, .unset] []))
  refine OwnGo.of (A := s₁.setTop (mkF m 0 #[.val (.ref a0), .val (.int p1), .val (.int p2), .unset, .unset] [])) (B := s₁.setTop (mkF m 2 #[.val (.ref a0), .val (.int p1), .val (.int p2), .unset, .unset] [(.int p2), (.int p1)])) (fun t k => ?_) ?_
  · show Steps p.tables e below (s₁.setTop (mkF m 0 #[.val (.ref a0), .val (.int p1), .val (.int p2), .unset, .unset] [])) t
    refine XS.iloadN X0.here hx rfl (hb hby d25_0) rfl ?_
    refine XS.iloadN X0.here hx rfl (hb hby d25_1) rfl ?_
    exact k
  obtain ⟨T1, L1, v1, X1, hQ1, st1⟩ := own_callS X0 hx (y := (⟨"java/util/Arrays", "checkLength", "(II)V"⟩ : MethodName)) hown (mvT hZ (w110 hw)) (mvT hZ (w111 hw)) (mvT hZ (w105 hw)) (mvT hZ (w112 hw)) (by decide) (backOf (W := 0) (rm26 l Z aw hw [] p1 p2  h0 n0 Z0 hcut.1.2.1) hZ (w112 hw) (w105 hw) (by decide) (by decide)) (g := (mkF m 2 #[.val (.ref a0), .val (.int p1), .val (.int p2), .unset, .unset] [(.int p2), (.int p1)])) rfl (by rw [hml]; rfl) (argsL := [(.int p1), (.int p2)]) (rest := []) (lenOf pd_44 rfl) rfl (by show 2 * 0 + _ ≤ _; exact Nat.le_of_eq rfl) (hb hby d25_2) rfl e0 (by decide) (by decide)
  obtain ⟨rfl, N1q, eq1⟩ := hQ1
  have N1 := Fr.app N0 N1q
  refine OwnGo.of st1 ?_
  show OwnGo p.tables e below _ (T1.setTop (mkF m 5 #[.val (.ref a0), .val (.int p1), .val (.int p2), .unset, .unset] []))
  refine OwnGo.of (A := T1.setTop (mkF m 5 #[.val (.ref a0), .val (.int p1), .val (.int p2), .unset, .unset] [])) (B := T1.setTop (mkF m 10 #[.val (.ref a0), .val (.int p1), .val (.int p2), .val (.int (p2 - p1)), .unset] [(.int (p2 - p1))])) (fun t k => ?_) ?_
  · show Steps p.tables e below (T1.setTop (mkF m 5 #[.val (.ref a0), .val (.int p1), .val (.int p2), .unset, .unset] [])) t
    refine XS.iloadN X1.here hx rfl (hb hby d25_5) rfl ?_
    refine XS.iloadN X1.here hx rfl (hb hby d25_6) rfl ?_
    refine XS.isub X1.here hx rfl (hb hby d25_7) rfl ?_
    refine XS.istoreN X1.here hx rfl (hb hby d25_8) rfl (l' := #[.val (.ref a0), .val (.int p1), .val (.int p2), .val (.int (p2 - p1)), .unset]) rfl ?_
    refine XS.iloadN X1.here hx rfl (hb hby d25_9) rfl ?_
    exact k
  obtain ⟨T2, h2, kq2, X2, e2, E2, A2, st2⟩ := newP (aty := .byte) X1 hx hZ (w20 hw) eq1 (g := (mkF m 10 #[.val (.ref a0), .val (.int p1), .val (.int p2), .val (.int (p2 - p1)), .unset] [(.int (p2 - p1))])) rfl (hb hby d25_10) rfl hcut.2.1.1 (cap := 4) hcut.2.1.2.2 (by decide) (by decide) (by decide)
  obtain ⟨b2, g2⟩ : ∃ z, z = h0.size := ⟨_, rfl⟩
  rw [← g2] at A2 st2
  refine OwnGo.of st2 ?_
  have ne_a0_b2 : a0 ≠ b2 := Nat.ne_of_lt (Nat.lt_of_lt_of_le V_a.lt (Nat.le_of_eq g2.symm))
  have g_b2 : n0 ≤ b2 := Nat.le_trans Z0 (Nat.le_of_eq g2.symm)
  have sz_b2 : h0.size ≤ b2 := Nat.le_trans K0.1 (Nat.le_of_eq g2.symm)
  have f3 := Nat.le_trans Z0 E2.1
  have f4 := K0.ext E2
  have f5 := V_a.ext E2
  have f6 : Arv Z h2 b2 kq2 .byte (p2 - p1) (List.replicate (p2 - p1).toNatClampNeg (.int (0 : Int32))) (.int (0 : Int32)) := own_pad A2 hcut.2.1.1
  show OwnGo p.tables e below _ (T2.setTop (mkF m 12 #[.val (.ref a0), .val (.int p1), .val (.int p2), .val (.int (p2 - p1)), .unset] [(.ref b2)]))
  refine OwnGo.of (A := T2.setTop (mkF m 12 #[.val (.ref a0), .val (.int p1), .val (.int p2), .val (.int (p2 - p1)), .unset] [(.ref b2)])) (B := T2.setTop (mkF m 20 #[.val (.ref a0), .val (.int p1), .val (.int p2), .val (.int (p2 - p1)), .val (.ref b2)] [(.ref a0), (.int (0 : Int32)), (.ref b2), (.int p1), (.ref a0)])) (fun t k => ?_) ?_
  · show Steps p.tables e below (T2.setTop (mkF m 12 #[.val (.ref a0), .val (.int p1), .val (.int p2), .val (.int (p2 - p1)), .unset] [(.ref b2)])) t
    refine XS.astore X2.here hx rfl (hb hby d25_12) rfl rfl (l' := #[.val (.ref a0), .val (.int p1), .val (.int p2), .val (.int (p2 - p1)), .val (.ref b2)]) rfl ?_
    refine XS.aloadN X2.here hx rfl (hb hby d25_14) rfl rfl ?_
    refine XS.iloadN X2.here hx rfl (hb hby d25_15) rfl ?_
    refine XS.aload X2.here hx rfl (hb hby d25_16) rfl rfl ?_
    refine XS.iconst X2.here hx rfl (hb hby d25_18) ?_
    refine XS.aloadN X2.here hx rfl (hb hby d25_19) rfl rfl ?_
    exact k
  have cq7 := f5
  obtain ⟨clq7, Arq7, qq7, Sq7, Nq7, Hq7, Gq7⟩ := cq7
  refine OwnGo.of (X2.arraylength hx (by rw [e2]; exact Arq7.1) (State.isArrayOf_alike hZ.alike Arq7.2.1) (g := (mkF m 20 #[.val (.ref a0), .val (.int p1), .val (.int p2), .val (.int (p2 - p1)), .val (.ref b2)] [(.ref a0), (.int (0 : Int32)), (.ref b2), (.int p1), (.ref a0)])) rfl rfl (hb hby d25_20)) ?_
  rw [len_of Sq7 Nq7]
  show OwnGo p.tables e below _ (T2.setTop (mkF m 21 #[.val (.ref a0), .val (.int p1), .val (.int p2), .val (.int (p2 - p1)), .val (.ref b2)] [(.int z), (.int (0 : Int32)), (.ref b2), (.int p1), (.ref a0)]))
  refine OwnGo.of (A := T2.setTop (mkF m 21 #[.val (.ref a0), .val (.int p1), .val (.int p2), .val (.int (p2 - p1)), .val (.ref b2)] [(.int z), (.int (0 : Int32)), (.ref b2), (.int p1), (.ref a0)])) (B := T2.setTop (mkF m 24 #[.val (.ref a0), .val (.int p1), .val (.int p2), .val (.int (p2 - p1)), .val (.ref b2)] [(.int (p2 - p1)), (.int (z - p1)), (.int (0 : Int32)), (.ref b2), (.int p1), (.ref a0)])) (fun t k => ?_) ?_
  · show Steps p.tables e below (T2.setTop (mkF m 21 #[.val (.ref a0), .val (.int p1), .val (.int p2), .val (.int (p2 - p1)), .val (.ref b2)] [(.int z), (.int (0 : Int32)), (.ref b2), (.int p1), (.ref a0)])) t
    refine XS.iloadN X2.here hx rfl (hb hby d25_21) rfl ?_
    refine XS.isub X2.here hx rfl (hb hby d25_22) rfl ?_
    refine XS.iloadN X2.here hx rfl (hb hby d25_23) rfl ?_
    exact k
  obtain ⟨T8, L8, v8, X8, hQ8, st8⟩ := own_callS X2 hx (y := (⟨"java/lang/Math", "min", "(II)I"⟩ : MethodName)) hown (mvT hZ (w113 hw)) (mvT hZ (w114 hw)) (mvT hZ (w115 hw)) (mvT hZ (w116 hw)) (by decide) (backOf (W := 4) (rm27 l Z aw hw [] (z - p1) (p2 - p1)  h2 n0 f3 hcut.2.1.2.1) hZ (w116 hw) (w115 hw) (by decide) (by decide)) (g := (mkF m 24 #[.val (.ref a0), .val (.int p1), .val (.int p2), .val (.int (p2 - p1)), .val (.ref b2)] [(.int (p2 - p1)), (.int (z - p1)), (.int (0 : Int32)), (.ref b2), (.int p1), (.ref a0)])) rfl (by rw [hml]; rfl) (argsL := [(.int (z - p1)), (.int (p2 - p1))]) (rest := [(.int (0 : Int32)), (.ref b2), (.int p1), (.ref a0)]) (lenOf pd_50 rfl) rfl (by show 2 * 0 + _ ≤ _; exact Nat.le_of_eq rfl) (hb hby d25_24) rfl e2 (by decide) (by decide)
  obtain ⟨rfl, N8q, eq8⟩ := hQ8
  have N8 := Fr.app N1 N8q
  refine OwnGo.of st8 ?_
  show OwnGo p.tables e below _ (T8.setTop (mkF m 27 #[.val (.ref a0), .val (.int p1), .val (.int p2), .val (.int (p2 - p1)), .val (.ref b2)] [(.int (p2 - p1)), (.int (0 : Int32)), (.ref b2), (.int p1), (.ref a0)]))
  obtain ⟨T9, h9, L9, X9, e9, N9, K9, A9, st9⟩ := own_cpA X8 hx hZ hown (w117 hw) (w120 hw) (w118 hw) (w119 hw) eq8 f5 f6 (sp := p1) (nn := (p2 - p1)) hcut.1.1 hcut.2.1.1 hcut.1.2.2 hus N8 g_b2 (g := (mkF m 27 #[.val (.ref a0), .val (.int p1), .val (.int p2), .val (.int (p2 - p1)), .val (.ref b2)] [(.int (p2 - p1)), (.int (0 : Int32)), (.ref b2), (.int p1), (.ref a0)])) rfl (by rw [hml]; rfl) (rest := []) rfl (hb hby d25_27) (by decide) (W := 0) (by show 2 * 0 + _ ≤ _; exact Nat.le_of_eq rfl) (by decide)
  refine OwnGo.of st9 ?_
  have f10 := Nat.le_trans f3 K9.1
  have f11 := f4.trans K9 (allS (Or.inr sz_b2) all0)
  have f12 := f5.keep K9 (ninS ne_a0_b2 nin0)
  have f13 : Arv Z h9 b2 kq2 .byte (p2 - p1) us (.int (0 : Int32)) := A9
  show OwnGo p.tables e below _ (T9.setTop (mkF m 30 #[.val (.ref a0), .val (.int p1), .val (.int p2), .val (.int (p2 - p1)), .val (.ref b2)] []))
  refine OwnGo.of (A := T9.setTop (mkF m 30 #[.val (.ref a0), .val (.int p1), .val (.int p2), .val (.int (p2 - p1)), .val (.ref b2)] [])) (B := T9.setTop (mkF m 32 #[.val (.ref a0), .val (.int p1), .val (.int p2), .val (.int (p2 - p1)), .val (.ref b2)] [(.ref b2)])) (fun t k => ?_) ?_
  · show Steps p.tables e below (T9.setTop (mkF m 30 #[.val (.ref a0), .val (.int p1), .val (.int p2), .val (.int (p2 - p1)), .val (.ref b2)] [])) t
    refine XS.aload X9.here hx rfl (hb hby d25_30) rfl rfl ?_
    exact k
  obtain ⟨fs, hr, hrun, hended, hW, hsame⟩ := X9.leave (v := some (.ref b2)) (fun h => by rw [Bd.returns] at h; cases h) hlk
  refine ⟨_, _, ?_, hrun, hended, _, _, rfl, ?_, ⟨_, rfl⟩, hW, hsame.mono (by decide) (by decide)⟩
  · show Steps p.tables e below (T9.setTop (mkF m 32 #[.val (.ref a0), .val (.int p1), .val (.int p2), .val (.int (p2 - p1)), .val (.ref b2)] [(.ref b2)])) _
    exact own_retA X9 hx Bd.returns rfl rfl rfl (hb hby d25_32) hr
  · show Qrm25 Z a0 p1 p2 z vs us ka h0 n0 _ (T9.setFrames fs).heap _
    rw [show (T9.setFrames fs).heap = h9 from e9]
    exact ⟨N9, f11, b2, _, rfl, f13, sz_b2⟩
theorem w107 {Z aw} (hw : OwnHW aw Z) : Cond.before (Jvm.Cond.methodLink "java/util/Arrays" (339 : Nat) ({ cls := "java/util/Arrays", name := "copyOfRangeByte", desc := "([BII)[B" } : Jvm.MethodName)) aw Z = true := hw _ (List.mem_of_getElem? (i := 107) rfl)
theorem w109 {Z aw} (hw : OwnHW aw Z) : Cond.before (Jvm.Cond.code ({ cls := "java/util/Arrays", name := "copyOfRangeByte", desc := "([BII)[B" } : Jvm.MethodName) jdk_65_method_133_code (5 : Nat) (Option.some (Jvm.ClassFile.FieldType.array Jvm.ClassFile.FieldType.byte))) aw Z = true := hw _ (List.mem_of_getElem? (i := 109) rfl)
theorem pd_58 : parseMethodDescriptor "([BII)[B" = some ⟨[(.array .byte), .int, .int], some (.array .byte)⟩ := by decide +kernel
theorem w108 {Z aw} (hw : OwnHW aw Z) : Cond.before (Jvm.Cond.static ({ cls := "java/util/Arrays", name := "copyOfRangeByte", desc := "([BII)[B" } : Jvm.MethodName)) aw Z = true := hw _ (List.mem_of_getElem? (i := 108) rfl)
theorem d24_0 : decode jdk_65_method_132_code 0 = .ok (.iload_n 1, 1) := by decide +kernel
theorem d24_1 : decode jdk_65_method_132_code 1 = .ok (.ifCond .ne 9, 3) := by decide +kernel
theorem d24_4 : decode jdk_65_method_132_code 4 = .ok (.iload_n 2, 1) := by decide +kernel
theorem d24_5 : decode jdk_65_method_132_code 5 = .ok (.aload_n 0, 1) := by decide +kernel
theorem d24_6 : decode jdk_65_method_132_code 6 = .ok (.arraylength, 1) := by decide +kernel
theorem d24_7 : decode jdk_65_method_132_code 7 = .ok (.if_icmp .eq 10, 3) := by decide +kernel
theorem d24_10 : decode jdk_65_method_132_code 10 = .ok (.aload_n 0, 1) := by decide +kernel
theorem d24_11 : decode jdk_65_method_132_code 11 = .ok (.iload_n 1, 1) := by decide +kernel
theorem d24_12 : decode jdk_65_method_132_code 12 = .ok (.iload_n 2, 1) := by decide +kernel
theorem d24_13 : decode jdk_65_method_132_code 13 = .ok (.invokestatic 339, 3) := by decide +kernel
theorem d24_16 : decode jdk_65_method_132_code 16 = .ok (.areturn, 1) := by decide +kernel
theorem ef_rm24 (m : MethodId) (a0 : Addr) (p1 : Int32) (p2 : Int32) : entryFrame m #[(.ref a0), (.int p1), (.int p2)] 3 = mkF m 0 #[.val (.ref a0), .val (.int p1), .val (.int p2)] [] := by first | (simp [entryFrame, mkF, argsToLocals, Value.category]; done) | rfl
def Qrm24 (Z : State) (a0 : Addr) (p1 : Int32) (p2 : Int32) (z : Int32) (vs : List Value) (us : List Value) (ka : ClassId) (h0 : Heap) (n0 : Nat) (v : Option Value) (h : Heap) (L : List Loc) : Prop := Fr n0 L ∧ Keep h0 h [] ∧ ∃ (y : Addr) (k : ClassId), v = some (.ref y) ∧ Arv Z h y k .byte (p2 - p1) us (.int (0 : Int32)) ∧ h0.size ≤ y
set_option maxRecDepth 65536 in
set_option maxHeartbeats 40000000 in
theorem rm24 (l : Launch) (Z : State) (aw : Array Value) (hw : ∀ d ∈ tables_1, d.before aw Z = true) (ws : List Jvm.Cond) (a0 : Addr) (p1 : Int32) (p2 : Int32) (z : Int32) (vs : List Value) (us : List Value) (ka : ClassId) (h0 : Heap) (n0 : Nat) (Z0 : n0 ≤ h0.size) (V_a : Arv Z h0 a0 ka .byte z vs (.int (0 : Int32))) (hcut : OwnCut p1 p2 z) (hus : us = (List.range (p2 - p1).toNatClampNeg).map fun i => vs.getD (p1.toNatClampNeg + i) (.int (0 : Int32))) :
    MetFree l (⟨"java/util/Arrays", "copyOfRange", "([BII)[B"⟩ : MethodName) (head1 (Jvm.Cond.code (⟨"java/util/Arrays", "copyOfRange", "([BII)[B"⟩ : MethodName) jdk_65_method_132_code 3 (some (.array .byte)) :: ws) ({ frames := 2, cells := 1, slots := 4, locals := 34 } : Room)) (fun a U => a = #[(.ref a0), (.int p1), (.int p2)] ∧ Z.Warmed39 U.vm ∧ U.heap = h0) (fun _ _ _ _ _ => True) (fun _ U o U' => ∃ v L, o = .returned v ∧ Qrm24 Z a0 p1 p2 z vs us ka h0 n0 v U'.heap L ∧ FrameEnd U o U' L ({ frames := 2, cells := 1, slots := 4, locals := 34 } : Room).cells ({ frames := 2, cells := 1, slots := 4, locals := 34 } : Room).slots) := by
  refine MetFree.of_bodySF (plainFor_of_name pn_27) hisR ?_
  intro p e s m args below meth c s₁ Bd hml0 hP hK
  obtain ⟨rfl, hZ, hh⟩ := hP
  have hx := Bd.exec
  have hby := Bd.bytes
  have hml : c.maxLocals = 3 := hml0
  have hown : s.vm.findClass "java/util/Arrays" = some m.cls := findClass_of_methodNamed Bd.named
  have hnm := (name_of_methodNamed Bd.named Bd.method).1
  have X0 : Stand p l e ({ frames := 2, cells := 1, slots := 4, locals := 34 } : Room) s m #[(.ref a0), (.int p1), (.int p2)] below meth c s₁ [] 0 0 := Stand.of_body Bd
  have e0 : s₁.heap = h0 := by rw [← hh, Bd.state]; rfl
  have N0 := Fr.nil n0
  have hlk := Bd.notSynchronized
  show OwnGo p.tables e below _ (s₁.setTop (entryFrame m #[(.ref a0), (.int p1), (.int p2)] 3))
  rw [ef_rm24 m a0 p1 p2]
  have K0 : Keep h0 h0 [] := Keep.refl _ _
  show OwnGo p.tables e below _ (s₁.setTop (mkF m 0 #[.val (.ref a0), .val (.int p1), .val (.int p2)] []))
  refine OwnGo.of (A := s₁.setTop (mkF m 0 #[.val (.ref a0), .val (.int p1), .val (.int p2)] [])) (B := s₁.setTop (mkF m 1 #[.val (.ref a0), .val (.int p1), .val (.int p2)] [(.int p1)])) (fun t k => ?_) ?_
  · show Steps p.tables e below (s₁.setTop (mkF m 0 #[.val (.ref a0), .val (.int p1), .val (.int p2)] [])) t
    refine XS.iloadN X0.here hx rfl (hb hby d24_0) rfl ?_
    exact k
  by_cases hc1 : p1 = (0 : Int32)
  · refine OwnGo.of (A := s₁.setTop (mkF m 1 #[.val (.ref a0), .val (.int p1), .val (.int p2)] [(.int p1)])) (B := s₁.setTop (mkF m 6 #[.val (.ref a0), .val (.int p1), .val (.int p2)] [(.ref a0), (.int p2)])) (fun t k => ?_) ?_
    · show Steps p.tables e below (s₁.setTop (mkF m 1 #[.val (.ref a0), .val (.int p1), .val (.int p2)] [(.int p1)])) t
      refine XS.ifNo X0.here hx rfl (hb hby d24_1) rfl ((if0 _ _).trans (teq hc1).2) ?_
      refine XS.iloadN X0.here hx rfl (hb hby d24_4) rfl ?_
      refine XS.aloadN X0.here hx rfl (hb hby d24_5) rfl rfl ?_
      exact k
    have cq2 := V_a
    obtain ⟨clq2, Arq2, qq2, Sq2, Nq2, Hq2, Gq2⟩ := cq2
    refine OwnGo.of (X0.arraylength hx (by rw [e0]; exact Arq2.1) (State.isArrayOf_alike hZ.alike Arq2.2.1) (g := (mkF m 6 #[.val (.ref a0), .val (.int p1), .val (.int p2)] [(.ref a0), (.int p2)])) rfl rfl (hb hby d24_6)) ?_
    rw [len_of Sq2 Nq2]
    show OwnGo p.tables e below _ (s₁.setTop (mkF m 7 #[.val (.ref a0), .val (.int p1), .val (.int p2)] [(.int z), (.int p2)]))
    have hc3 : ¬ (p2 = z) := hcut.2.2 hc1
    refine OwnGo.of (A := s₁.setTop (mkF m 7 #[.val (.ref a0), .val (.int p1), .val (.int p2)] [(.int z), (.int p2)])) (B := s₁.setTop (mkF m 13 #[.val (.ref a0), .val (.int p1), .val (.int p2)] [(.int p2), (.int p1), (.ref a0)])) (fun t k => ?_) ?_
    · show Steps p.tables e below (s₁.setTop (mkF m 7 #[.val (.ref a0), .val (.int p1), .val (.int p2)] [(.int z), (.int p2)])) t
      refine XS.icmpNo X0.here hx rfl (hb hby d24_7) rfl (feq hc3).1 ?_
      refine XS.aloadN X0.here hx rfl (hb hby d24_10) rfl rfl ?_
      refine XS.iloadN X0.here hx rfl (hb hby d24_11) rfl ?_
      refine XS.iloadN X0.here hx rfl (hb hby d24_12) rfl ?_
      exact k
    obtain ⟨T4, L4, v4, X4, hQ4, st4⟩ := own_callS X0 hx (y := (⟨"java/util/Arrays", "copyOfRangeByte", "([BII)[B"⟩ : MethodName)) hown (mvT hZ (w107 hw)) (mvT hZ (w108 hw)) (mvT hZ (w105 hw)) (mvT hZ (w109 hw)) (by decide) (backOf (W := 0) (rm25 l Z aw hw [] a0 p1 p2 z vs us ka h0 n0 Z0 V_a hcut hus) hZ (w109 hw) (w105 hw) (by decide) (by decide)) (g := (mkF m 13 #[.val (.ref a0), .val (.int p1), .val (.int p2)] [(.int p2), (.int p1), (.ref a0)])) rfl (by rw [hml]; rfl) (argsL := [(.ref a0), (.int p1), (.int p2)]) (rest := []) (lenOf pd_58 rfl) rfl (by show 2 * 0 + _ ≤ _; exact Nat.le_of_eq rfl) (hb hby d24_13) rfl e0 (by decide) (by decide)
    obtain ⟨N4q, K4, y4, k4, rfl, A4, gy4⟩ := hQ4
    have ne_a0_y4 : a0 ≠ y4 := Nat.ne_of_lt (Nat.lt_of_lt_of_le V_a.lt gy4)
    have f5 := Nat.le_trans Z0 K4.1
    have f6 := K0.trans K4 all0
    have f7 := V_a.keep K4 nin0
    have N4 := Fr.app N0 N4q
    refine OwnGo.of st4 ?_
    show OwnGo p.tables e below _ (T4.setTop (mkF m 16 #[.val (.ref a0), .val (.int p1), .val (.int p2)] [(.ref y4)]))
    obtain ⟨fs, hr, hrun, hended, hW, hsame⟩ := X4.leave (v := some (.ref y4)) (fun h => by rw [Bd.returns] at h; cases h) hlk
    refine ⟨_, _, ?_, hrun, hended, _, _, rfl, ?_, ⟨_, rfl⟩, hW, hsame.mono (by decide) (by decide)⟩
    · show Steps p.tables e below (T4.setTop (mkF m 16 #[.val (.ref a0), .val (.int p1), .val (.int p2)] [(.ref y4)])) _
      exact own_retA X4 hx Bd.returns rfl rfl rfl (hb hby d24_16) hr
    · show Qrm24 Z a0 p1 p2 z vs us ka h0 n0 _ (T4.setFrames fs).heap _
      rw [show (T4.setFrames fs).heap = T4.heap from rfl]
      exact ⟨N4, f6, y4, _, rfl, A4, gy4⟩
  · refine OwnGo.of (A := s₁.setTop (mkF m 1 #[.val (.ref a0), .val (.int p1), .val (.int p2)] [(.int p1)])) (B := s₁.setTop (mkF m 13 #[.val (.ref a0), .val (.int p1), .val (.int p2)] [(.int p2), (.int p1), (.ref a0)])) (fun t k => ?_) ?_
    · show Steps p.tables e below (s₁.setTop (mkF m 1 #[.val (.ref a0), .val (.int p1), .val (.int p2)] [(.int p1)])) t
      refine XS.ifYes X0.here hx rfl (pc0 := 1) (pc' := 10) rfl (hb hby d24_1) rfl ((if0 _ _).trans (feq hc1).2) (by decide) (by decide) ?_
      refine XS.aloadN X0.here hx rfl (hb hby d24_10) rfl rfl ?_
      refine XS.iloadN X0.here hx rfl (hb hby d24_11) rfl ?_
      refine XS.iloadN X0.here hx rfl (hb hby d24_12) rfl ?_
      exact k
    obtain ⟨T8, L8, v8, X8, hQ8, st8⟩ := own_callS X0 hx (y := (⟨"java/util/Arrays", "copyOfRangeByte", "([BII)[B"⟩ : MethodName)) hown (mvT hZ (w107 hw)) (mvT hZ (w108 hw)) (mvT hZ (w105 hw)) (mvT hZ (w109 hw)) (by decide) (backOf (W := 0) (rm25 l Z aw hw [] a0 p1 p2 z vs us ka h0 n0 Z0 V_a hcut hus) hZ (w109 hw) (w105 hw) (by decide) (by decide)) (g := (mkF m 13 #[.val (.ref a0), .val (.int p1), .val (.int p2)] [(.int p2), (.int p1), (.ref a0)])) rfl (by rw [hml]; rfl) (argsL := [(.ref a0), (.int p1), (.int p2)]) (rest := []) (lenOf pd_58 rfl) rfl (by show 2 * 0 + _ ≤ _; exact Nat.le_of_eq rfl) (hb hby d24_13) rfl e0 (by decide) (by decide)
    obtain ⟨N8q, K8, y8, k8, rfl, A8, gy8⟩ := hQ8
    have ne_a0_y8 : a0 ≠ y8 := Nat.ne_of_lt (Nat.lt_of_lt_of_le V_a.lt gy8)
    have f9 := Nat.le_trans Z0 K8.1
    have f10 := K0.trans K8 all0
    have f11 := V_a.keep K8 nin0
    have N8 := Fr.app N0 N8q
    refine OwnGo.of st8 ?_
    show OwnGo p.tables e below _ (T8.setTop (mkF m 16 #[.val (.ref a0), .val (.int p1), .val (.int p2)] [(.ref y8)]))
    obtain ⟨fs, hr, hrun, hended, hW, hsame⟩ := X8.leave (v := some (.ref y8)) (fun h => by rw [Bd.returns] at h; cases h) hlk
    refine ⟨_, _, ?_, hrun, hended, _, _, rfl, ?_, ⟨_, rfl⟩, hW, hsame.mono (by decide) (by decide)⟩
    · show Steps p.tables e below (T8.setTop (mkF m 16 #[.val (.ref a0), .val (.int p1), .val (.int p2)] [(.ref y8)])) _
      exact own_retA X8 hx Bd.returns rfl rfl rfl (hb hby d24_16) hr
    · show Qrm24 Z a0 p1 p2 z vs us ka h0 n0 _ (T8.setFrames fs).heap _
      rw [show (T8.setFrames fs).heap = T8.heap from rfl]
      exact ⟨N8, f10, y8, _, rfl, A8, gy8⟩
theorem own_lit_60 : ((∀ c ∈ "".toList, c.toNat < 256) ∧ "".toList.map (fun c => Value.int (Jvm.Lit.byteI c.toNat.toUInt16)) = []) ∧ 4 * "".toList.length ≤ 0 := by refine ⟨⟨by decide +kernel, by rfl⟩, by decide +kernel⟩
theorem w102 {Z aw} (hw : OwnHW aw Z) : Cond.before (Jvm.Cond.classLink "java/lang/StringLatin1" (1 : Nat) "java/lang/String") aw Z = true := hw _ (List.mem_of_getElem? (i := 102) rfl)
theorem w103 {Z aw} (hw : OwnHW aw Z) : Cond.before (Jvm.Cond.methodLink "java/lang/StringLatin1" (232 : Nat) ({ cls := "java/util/Arrays", name := "copyOfRange", desc := "([BII)[B" } : Jvm.MethodName)) aw Z = true := hw _ (List.mem_of_getElem? (i := 103) rfl)
theorem w106 {Z aw} (hw : OwnHW aw Z) : Cond.before (Jvm.Cond.code ({ cls := "java/util/Arrays", name := "copyOfRange", desc := "([BII)[B" } : Jvm.MethodName) jdk_65_method_132_code (3 : Nat) (Option.some (Jvm.ClassFile.FieldType.array Jvm.ClassFile.FieldType.byte))) aw Z = true := hw _ (List.mem_of_getElem? (i := 106) rfl)
theorem w104 {Z aw} (hw : OwnHW aw Z) : Cond.before (Jvm.Cond.static ({ cls := "java/util/Arrays", name := "copyOfRange", desc := "([BII)[B" } : Jvm.MethodName)) aw Z = true := hw _ (List.mem_of_getElem? (i := 104) rfl)
theorem w121 {Z aw} (hw : OwnHW aw Z) : Cond.before (Jvm.Cond.methodLink "java/lang/StringLatin1" (112 : Nat) ({ cls := "java/lang/String", name := "<init>", desc := "([BB)V" } : Jvm.MethodName)) aw Z = true := hw _ (List.mem_of_getElem? (i := 121) rfl)
theorem w123 {Z aw} (hw : OwnHW aw Z) : Cond.before (Jvm.Cond.code ({ cls := "java/lang/String", name := "<init>", desc := "([BB)V" } : Jvm.MethodName) jdk_42_method_151_code (3 : Nat) (Option.none : Option Jvm.ClassFile.FieldType)) aw Z = true := hw _ (List.mem_of_getElem? (i := 123) rfl)
theorem pd_67 : parseMethodDescriptor "([BB)V" = some ⟨[(.array .byte), .byte], none⟩ := by decide +kernel
theorem w122 {Z aw} (hw : OwnHW aw Z) : Cond.before (Jvm.Cond.instanceMethod ({ cls := "java/lang/String", name := "<init>", desc := "([BB)V" } : Jvm.MethodName)) aw Z = true := hw _ (List.mem_of_getElem? (i := 122) rfl)
theorem pn_69 : plainName "java/lang/StringLatin1" = true := by first | (simp [plainName, overriddenIn]; done) | decide +kernel
theorem d23_0 : decode jdk_43_method_47_code 0 = .ok (.iload_n 2, 1) := by decide +kernel
theorem d23_1 : decode jdk_43_method_47_code 1 = .ok (.ifCond .ne 6, 3) := by decide +kernel
theorem d23_4 : decode jdk_43_method_47_code 4 = .ok (.ldc 151, 2) := by decide +kernel
theorem d23_6 : decode jdk_43_method_47_code 6 = .ok (.areturn, 1) := by decide +kernel
theorem d23_7 : decode jdk_43_method_47_code 7 = .ok (.new 1, 3) := by decide +kernel
theorem d23_10 : decode jdk_43_method_47_code 10 = .ok (.dup, 1) := by decide +kernel
theorem d23_11 : decode jdk_43_method_47_code 11 = .ok (.aload_n 0, 1) := by decide +kernel
theorem d23_12 : decode jdk_43_method_47_code 12 = .ok (.iload_n 1, 1) := by decide +kernel
theorem d23_13 : decode jdk_43_method_47_code 13 = .ok (.iload_n 1, 1) := by decide +kernel
theorem d23_14 : decode jdk_43_method_47_code 14 = .ok (.iload_n 2, 1) := by decide +kernel
theorem d23_15 : decode jdk_43_method_47_code 15 = .ok (.iadd, 1) := by decide +kernel
theorem d23_16 : decode jdk_43_method_47_code 16 = .ok (.invokestatic 232, 3) := by decide +kernel
theorem d23_19 : decode jdk_43_method_47_code 19 = .ok (.iconst 0, 1) := by decide +kernel
theorem d23_20 : decode jdk_43_method_47_code 20 = .ok (.invokespecial 112, 3) := by decide +kernel
theorem d23_23 : decode jdk_43_method_47_code 23 = .ok (.areturn, 1) := by decide +kernel
theorem ef_rm23 (m : MethodId) (a0 : Addr) (p1 : Int32) (p2 : Int32) : entryFrame m #[(.ref a0), (.int p1), (.int p2)] 3 = mkF m 0 #[.val (.ref a0), .val (.int p1), .val (.int p2)] [] := by first | (simp [entryFrame, mkF, argsToLocals, Value.category]; done) | rfl
def Qrm23 (Z : State) (a0 : Addr) (p1 : Int32) (p2 : Int32) (cs : List Int32) (ds : List Int32) (ka : ClassId) (h0 : Heap) (n0 : Nat) (v : Option Value) (h : Heap) (L : List Loc) : Prop := Fr n0 L ∧ Keep h0 h [] ∧ ∃ r : Addr, v = some (.ref r) ∧ OwnStr Z h r ds
set_option maxRecDepth 65536 in
set_option maxHeartbeats 40000000 in
theorem rm23 (l : Launch) (Z : State) (aw : Array Value) (hw : ∀ d ∈ tables_1, d.before aw Z = true) (ws : List Jvm.Cond) (a0 : Addr) (p1 : Int32) (p2 : Int32) (cs : List Int32) (ds : List Int32) (ka : ClassId) (h0 : Heap) (n0 : Nat) (Z0 : n0 ≤ h0.size) (V_a : Arv Z h0 a0 ka .byte (Int32.ofNat cs.length) (cs.map fun c => Value.int (StrChars.lo8 c)) (.int (0 : Int32))) (hpd : ∀ c ∈ ds, OwnCh c) (hld : ds.length ≤ 4000) (hd0 : p2 = 0 → ds = []) (hpart : ¬ p2 = 0 → OwnPart cs ds p1 (p1 + p2)) :
    MetFree l (⟨"java/lang/StringLatin1", "newString", "([BII)Ljava/lang/String;"⟩ : MethodName) (head1 (Jvm.Cond.code (⟨"java/lang/StringLatin1", "newString", "([BII)Ljava/lang/String;"⟩ : MethodName) jdk_43_method_47_code 3 (some (.object "java/lang/String")) :: ws) ({ frames := 3, cells := 2, slots := 8, locals := 50 } : Room)) (fun a U => a = #[(.ref a0), (.int p1), (.int p2)] ∧ Z.Warmed39 U.vm ∧ U.heap = h0 ∧ CHv Z consts_1 U.vm h0 ∧ ∀ x ∈ ([] : List Addr), Safe Z consts_1 U.vm h0 x) (fun _ _ _ _ _ => True) (fun _ U o U' => ∃ v L, o = .returned v ∧ Qrm23 Z a0 p1 p2 cs ds ka h0 n0 v U'.heap L ∧ CHr Z consts_1 U.vm U.heap U'.vm U'.heap ∧ ReturnedEndW U o U' L ({ frames := 3, cells := 2, slots := 8, locals := 50 } : Room).cells ({ frames := 3, cells := 2, slots := 8, locals := 50 } : Room).slots) := by
  refine MetFree.of_bodySF (plainFor_of_name pn_69) hisR ?_
  intro p e s m args below meth c s₁ Bd hml0 hP hK
  obtain ⟨rfl, hZ, hh, hC0, hSf⟩ := hP
  have hx := Bd.exec
  have hby := Bd.bytes
  have hml : c.maxLocals = 3 := hml0
  have hown : s.vm.findClass "java/lang/StringLatin1" = some m.cls := findClass_of_methodNamed Bd.named
  have hnm := (name_of_methodNamed Bd.named Bd.method).1
  have X0 : Stand p l e ({ frames := 3, cells := 2, slots := 8, locals := 50 } : Room) s m #[(.ref a0), (.int p1), (.int p2)] below meth c s₁ [] 0 0 := Stand.of_body Bd
  have e0 : s₁.heap = h0 := by rw [← hh, Bd.state]; rfl
  have N0 := Fr.nil n0
  have hlk := Bd.notSynchronized
  show OwnGo p.tables e below _ (s₁.setTop (entryFrame m #[(.ref a0), (.int p1), (.int p2)] 3))
  rw [ef_rm23 m a0 p1 p2]
  have B0 := OwnB.start s h0
  have C0 := CHr.refl hC0
  have K0 : Keep h0 h0 [] := Keep.refl _ _
  show OwnGo p.tables e below _ (s₁.setTop (mkF m 0 #[.val (.ref a0), .val (.int p1), .val (.int p2)] []))
  refine OwnGo.of (A := s₁.setTop (mkF m 0 #[.val (.ref a0), .val (.int p1), .val (.int p2)] [])) (B := s₁.setTop (mkF m 1 #[.val (.ref a0), .val (.int p1), .val (.int p2)] [(.int p2)])) (fun t k => ?_) ?_
  · show Steps p.tables e below (s₁.setTop (mkF m 0 #[.val (.ref a0), .val (.int p1), .val (.int p2)] [])) t
    refine XS.iloadN X0.here hx rfl (hb hby d23_0) rfl ?_
    exact k
  by_cases hc1 : p2 = (0 : Int32)
  · have hds : ds = [] := hd0 hc1
    refine OwnGo.of (A := s₁.setTop (mkF m 1 #[.val (.ref a0), .val (.int p1), .val (.int p2)] [(.int p2)])) (B := s₁.setTop (mkF m 4 #[.val (.ref a0), .val (.int p1), .val (.int p2)] [])) (fun t k => ?_) ?_
    · show Steps p.tables e below (s₁.setTop (mkF m 1 #[.val (.ref a0), .val (.int p1), .val (.int p2)] [(.int p2)])) t
      refine XS.ifNo X0.here hx rfl (hb hby d23_1) rfl ((if0 _ _).trans (teq hc1).2) ?_
      exact k
    obtain ⟨s2, b2, T2, h2, t2, kq2, X2, e2, E2, B2, hZ, hown, A2, Fc2, Fv2, Vl2, cs2, ne2, st2⟩ := own_ldc (s := s) X0 hx hZ hown (w125 hw) (own_wS hw) e0 B0 (own_EW hw) (List.mem_of_getElem? (i := 1) rfl) C0.1 own_lit_60.1 (z := (0 : Int32)) (by decide) rfl (g := (mkF m 4 #[.val (.ref a0), .val (.int p1), .val (.int p2)] [])) rfl (hb hby d23_4) (n := 0) own_lit_60.2 (by decide) (by decide) (by decide)
    refine OwnGo.of st2 ?_
    have f3 := Nat.le_trans Z0 E2.1
    have f4 := C0.trans cs2
    have f5 := K0.ext E2
    have f6 := V_a.ext E2
    show OwnGo p.tables e below _ (T2.setTop (mkF m 6 #[.val (.ref a0), .val (.int p1), .val (.int p2)] [(.ref b2)]))
    obtain ⟨fs, hr, hrun, hended, hRW⟩ := own_leaveW X2 B2 e2 (v := some (.ref b2)) (fun h => by rw [Bd.returns] at h; cases h) hlk
    refine ⟨_, _, ?_, hrun, hended, _, _, rfl, ?_, own_endW X2 hZ (own_EW hw) e2 hh f4 fs, own_monoW hRW (by decide) (by decide)⟩
    · show Steps p.tables e below (T2.setTop (mkF m 6 #[.val (.ref a0), .val (.int p1), .val (.int p2)] [(.ref b2)])) _
      exact own_retA X2 hx Bd.returns rfl rfl rfl (hb hby d23_6) hr
    · show Qrm23 Z a0 p1 p2 cs ds ka h0 n0 _ (T2.setFrames fs).heap _
      rw [show (T2.setFrames fs).heap = h2 from e2]
      exact ⟨N0, f5, b2, rfl, _, _, A2, Fv2, Fc2, (by rw [hds]; exact Vl2), hpd, hld⟩
  · obtain ⟨hcut, hus, hlen⟩ := hpart hc1
    refine OwnGo.of (A := s₁.setTop (mkF m 1 #[.val (.ref a0), .val (.int p1), .val (.int p2)] [(.int p2)])) (B := s₁.setTop (mkF m 7 #[.val (.ref a0), .val (.int p1), .val (.int p2)] [])) (fun t k => ?_) ?_
    · show Steps p.tables e below (s₁.setTop (mkF m 1 #[.val (.ref a0), .val (.int p1), .val (.int p2)] [(.int p2)])) t
      refine XS.ifYes X0.here hx rfl (pc0 := 1) (pc' := 7) rfl (hb hby d23_1) rfl ((if0 _ _).trans (feq hc1).2) (by decide) (by decide) ?_
      exact k
    obtain ⟨T7, h7, X7, e7, E7, A7, D7, -, st7⟩ := newO X0 hx hZ hown (w102 hw) (w7 hw) (w8 hw) e0 (g := (mkF m 7 #[.val (.ref a0), .val (.int p1), .val (.int p2)] [])) rfl (hb hby d23_7) (by decide) (by decide)
    obtain ⟨b7, g7⟩ : ∃ z, z = h0.size := ⟨_, rfl⟩
    rw [← g7] at A7 D7 st7
    refine OwnGo.of st7 ?_
    have ne_a0_b7 : a0 ≠ b7 := Nat.ne_of_lt (Nat.lt_of_lt_of_le V_a.lt (Nat.le_of_eq g7.symm))
    have gn_b7 : Safe Z consts_1 s.vm h7 b7 := Safe.ext E7 C0.1 (Safe.new (Nat.le_of_eq g7.symm))
    have g_b7 : n0 ≤ b7 := Nat.le_trans Z0 (Nat.le_of_eq g7.symm)
    have sz_b7 : h0.size ≤ b7 := Nat.le_trans K0.1 (Nat.le_of_eq g7.symm)
    have cs8 := CHr.ext E7 C0.1
    have f9 := Nat.le_trans Z0 E7.1
    have f10 := B0.ext E7
    have f11 := C0.trans cs8
    have f12 := K0.ext E7
    have f13 := V_a.ext E7
    have f14 : Fld Z h7 b7 "java/lang/String" "value" "[B" .null := D7 (Or.inr (w21 hw)) (ty := (.array .byte)) (by decide)
    have f15 : Fld Z h7 b7 "java/lang/String" "coder" "B" (.int (0 : Int32)) := D7 (Or.inr (w22 hw)) (ty := .byte) (by decide)
    show OwnGo p.tables e below _ (T7.setTop (mkF m 10 #[.val (.ref a0), .val (.int p1), .val (.int p2)] [(.ref b7)]))
    refine OwnGo.of (A := T7.setTop (mkF m 10 #[.val (.ref a0), .val (.int p1), .val (.int p2)] [(.ref b7)])) (B := T7.setTop (mkF m 16 #[.val (.ref a0), .val (.int p1), .val (.int p2)] [(.int (p1 + p2)), (.int p1), (.ref a0), (.ref b7), (.ref b7)])) (fun t k => ?_) ?_
    · show Steps p.tables e below (T7.setTop (mkF m 10 #[.val (.ref a0), .val (.int p1), .val (.int p2)] [(.ref b7)])) t
      refine XS.dup X7.here hx rfl (hb hby d23_10) rfl rfl ?_
      refine XS.aloadN X7.here hx rfl (hb hby d23_11) rfl rfl ?_
      refine XS.iloadN X7.here hx rfl (hb hby d23_12) rfl ?_
      refine XS.iloadN X7.here hx rfl (hb hby d23_13) rfl ?_
      refine XS.iloadN X7.here hx rfl (hb hby d23_14) rfl ?_
      refine XS.iadd X7.here hx rfl (hb hby d23_15) rfl ?_
      exact k
    obtain ⟨T16, L16, v16, X16, hQ16, st16⟩ := own_callS X7 hx (y := (⟨"java/util/Arrays", "copyOfRange", "([BII)[B"⟩ : MethodName)) hown (mvT hZ (w103 hw)) (mvT hZ (w104 hw)) (mvT hZ (w105 hw)) (mvT hZ (w106 hw)) (by decide) (backOf (W := 2) (rm24 l Z aw hw [] a0 p1 (p1 + p2) (Int32.ofNat cs.length) (cs.map fun c => Value.int (StrChars.lo8 c)) (ds.map fun c => Value.int (StrChars.lo8 c)) ka h7 n0 f9 f13 hcut hus) hZ (w106 hw) (w105 hw) (by decide) (by decide)) (g := (mkF m 16 #[.val (.ref a0), .val (.int p1), .val (.int p2)] [(.int (p1 + p2)), (.int p1), (.ref a0), (.ref b7), (.ref b7)])) rfl (by rw [hml]; rfl) (argsL := [(.ref a0), (.int p1), (.int (p1 + p2))]) (rest := [(.ref b7), (.ref b7)]) (lenOf pd_58 rfl) rfl (by show 2 * 0 + _ ≤ _; exact Nat.le_of_eq rfl) (hb hby d23_16) rfl e7 (by decide) (by decide)
    obtain ⟨N16q, K16, y16, k16, rfl, A16, gy16⟩ := hQ16
    have ne_a0_y16 : a0 ≠ y16 := Nat.ne_of_lt (Nat.lt_of_lt_of_le f13.lt gy16)
    have ne_b7_y16 : b7 ≠ y16 := Nat.ne_of_lt (Nat.lt_of_lt_of_le A7.lt gy16)
    have cs17 := CHr.keep K16 all0 f11.1
    have f18 := Nat.le_trans f9 K16.1
    have f19 := f10.keep K16
    have f20 := f11.trans cs17
    have f21 := f12.trans K16 all0
    have f22 := f13.keep K16 nin0
    have f23 := cs17.safe A7.lt gn_b7
    have f24 := A7.keep K16
    have f25 := f14.keep K16 nin0
    have f26 := f15.keep K16 nin0
    have N16 := Fr.app N0 N16q
    refine OwnGo.of st16 ?_
    show OwnGo p.tables e below _ (T16.setTop (mkF m 19 #[.val (.ref a0), .val (.int p1), .val (.int p2)] [(.ref y16), (.ref b7), (.ref b7)]))
    refine OwnGo.of (A := T16.setTop (mkF m 19 #[.val (.ref a0), .val (.int p1), .val (.int p2)] [(.ref y16), (.ref b7), (.ref b7)])) (B := T16.setTop (mkF m 20 #[.val (.ref a0), .val (.int p1), .val (.int p2)] [(.int (0 : Int32)), (.ref y16), (.ref b7), (.ref b7)])) (fun t k => ?_) ?_
    · show Steps p.tables e below (T16.setTop (mkF m 19 #[.val (.ref a0), .val (.int p1), .val (.int p2)] [(.ref y16), (.ref b7), (.ref b7)])) t
      refine XS.iconst X16.here hx rfl (hb hby d23_19) ?_
      exact k
    obtain ⟨T27, L27, v27, X27, hQ27, st27⟩ := own_callI X16 hx (y := (⟨"java/lang/String", "<init>", "([BB)V"⟩ : MethodName)) rfl hown (mvT hZ (w121 hw)) (mvT hZ (w122 hw)) (mvT hZ (w123 hw)) (by decide) (backOf (W := 1) (rm28 l Z aw hw [] b7 y16  T16.heap n0 f18 f24 f25 f26 g_b7) hZ (w123 hw) (w8 hw) (by decide) (by decide)) (g := (mkF m 20 #[.val (.ref a0), .val (.int p1), .val (.int p2)] [(.int (0 : Int32)), (.ref y16), (.ref b7), (.ref b7)])) rfl (by rw [hml]; rfl) (a := b7) (argsL := [(.ref y16), (.int (0 : Int32))]) (rest := [(.ref b7)]) (lenOf pd_67 rfl) rfl (by show 2 * 0 + _ ≤ _; exact Nat.le_of_eq rfl) (hb hby d23_20) rfl rfl (by decide) (by decide)
    obtain ⟨rfl, N27q, K27, y27_0, y27_1, y27_2⟩ := hQ27
    have cs28 := CHr.keep K27 (allS f23 all0) f20.1
    have f29 := Nat.le_trans f18 K27.1
    have f30 := f19.keep K27
    have f31 := f20.trans cs28
    have f32 := f21.trans K27 (allS (Or.inr sz_b7) all0)
    have f33 := f22.keep K27 (ninS ne_a0_b7 nin0)
    have f34 := cs28.safe f24.lt f23
    have f35 := f24.keep K27
    have f36 := A16.keep K27 (ninS (Ne.symm ne_b7_y16) nin0)
    have N27 := Fr.app N16 N27q
    refine OwnGo.of st27 ?_
    show OwnGo p.tables e below _ (T27.setTop (mkF m 23 #[.val (.ref a0), .val (.int p1), .val (.int p2)] [(.ref b7)]))
    obtain ⟨fs, hr, hrun, hended, hRW⟩ := own_leaveW X27 f30 rfl (v := some (.ref b7)) (fun h => by rw [Bd.returns] at h; cases h) hlk
    refine ⟨_, _, ?_, hrun, hended, _, _, rfl, ?_, own_endW X27 hZ (own_EW hw) rfl hh f31 fs, own_monoW hRW (by decide) (by decide)⟩
    · show Steps p.tables e below (T27.setTop (mkF m 23 #[.val (.ref a0), .val (.int p1), .val (.int p2)] [(.ref b7)])) _
      exact own_retA X27 hx Bd.returns rfl rfl rfl (hb hby d23_23) hr
    · show Qrm23 Z a0 p1 p2 cs ds ka h0 n0 _ (T27.setFrames fs).heap _
      rw [show (T27.setFrames fs).heap = T27.heap from rfl]
      exact ⟨N27, f32, b7, rfl, _, _, y27_0, y27_1, y27_2, (hlen ▸ f36), hpd, hld⟩
theorem w50 {Z aw} (hw : OwnHW aw Z) : Cond.before (Jvm.Cond.methodLink "java/lang/String" (505 : Nat) ({ cls := "java/lang/String", name := "length", desc := "()I" } : Jvm.MethodName)) aw Z = true := hw _ (List.mem_of_getElem? (i := 50) rfl)
theorem w51 {Z aw} (hw : OwnHW aw Z) : Cond.before (Jvm.Cond.methodLink "java/lang/String" (521 : Nat) ({ cls := "java/lang/String", name := "checkBoundsBeginEnd", desc := "(III)V" } : Jvm.MethodName)) aw Z = true := hw _ (List.mem_of_getElem? (i := 51) rfl)
theorem w53 {Z aw} (hw : OwnHW aw Z) : Cond.before (Jvm.Cond.code ({ cls := "java/lang/String", name := "checkBoundsBeginEnd", desc := "(III)V" } : Jvm.MethodName) jdk_42_method_158_code (3 : Nat) (Option.none : Option Jvm.ClassFile.FieldType)) aw Z = true := hw _ (List.mem_of_getElem? (i := 53) rfl)
theorem pd_73 : parseMethodDescriptor "(III)V" = some ⟨[.int, .int, .int], none⟩ := by decide +kernel
theorem w52 {Z aw} (hw : OwnHW aw Z) : Cond.before (Jvm.Cond.static ({ cls := "java/lang/String", name := "checkBoundsBeginEnd", desc := "(III)V" } : Jvm.MethodName)) aw Z = true := hw _ (List.mem_of_getElem? (i := 52) rfl)
theorem w81 {Z aw} (hw : OwnHW aw Z) : Cond.before (Jvm.Cond.methodLink "java/lang/String" (492 : Nat) ({ cls := "java/lang/String", name := "isLatin1", desc := "()Z" } : Jvm.MethodName)) aw Z = true := hw _ (List.mem_of_getElem? (i := 81) rfl)
theorem w85 {Z aw} (hw : OwnHW aw Z) : Cond.before (Jvm.Cond.code ({ cls := "java/lang/String", name := "isLatin1", desc := "()Z" } : Jvm.MethodName) jdk_42_method_154_code (1 : Nat) (Option.some Jvm.ClassFile.FieldType.boolean)) aw Z = true := hw _ (List.mem_of_getElem? (i := 85) rfl)
theorem pd_77 : parseMethodDescriptor "()Z" = some ⟨[], some .boolean⟩ := by decide +kernel
theorem w84 {Z aw} (hw : OwnHW aw Z) : Cond.before (Jvm.Cond.selects "java/lang/String" ({ cls := "java/lang/String", name := "isLatin1", desc := "()Z" } : Jvm.MethodName) ({ cls := "java/lang/String", name := "isLatin1", desc := "()Z" } : Jvm.MethodName)) aw Z = true := hw _ (List.mem_of_getElem? (i := 84) rfl)
theorem w82 {Z aw} (hw : OwnHW aw Z) : Cond.before (Jvm.Cond.declares ({ cls := "java/lang/String", name := "isLatin1", desc := "()Z" } : Jvm.MethodName)) aw Z = true := hw _ (List.mem_of_getElem? (i := 82) rfl)
theorem w83 {Z aw} (hw : OwnHW aw Z) : Cond.before (Jvm.Cond.instanceMethod ({ cls := "java/lang/String", name := "isLatin1", desc := "()Z" } : Jvm.MethodName)) aw Z = true := hw _ (List.mem_of_getElem? (i := 83) rfl)
theorem w99 {Z aw} (hw : OwnHW aw Z) : Cond.before (Jvm.Cond.methodLink "java/lang/String" (685 : Nat) ({ cls := "java/lang/StringLatin1", name := "newString", desc := "([BII)Ljava/lang/String;" } : Jvm.MethodName)) aw Z = true := hw _ (List.mem_of_getElem? (i := 99) rfl)
theorem w101 {Z aw} (hw : OwnHW aw Z) : Cond.before (Jvm.Cond.code ({ cls := "java/lang/StringLatin1", name := "newString", desc := "([BII)Ljava/lang/String;" } : Jvm.MethodName) jdk_43_method_47_code (3 : Nat) (Option.some (Jvm.ClassFile.FieldType.object "java/lang/String"))) aw Z = true := hw _ (List.mem_of_getElem? (i := 101) rfl)
theorem w88 {Z aw} (hw : OwnHW aw Z) : Cond.before (Jvm.Cond.initialized "java/lang/StringLatin1") aw Z = true := hw _ (List.mem_of_getElem? (i := 88) rfl)
theorem pd_84 : parseMethodDescriptor "([BII)Ljava/lang/String;" = some ⟨[(.array .byte), .int, .int], some (.object "java/lang/String")⟩ := by decide +kernel
theorem w100 {Z aw} (hw : OwnHW aw Z) : Cond.before (Jvm.Cond.static ({ cls := "java/lang/StringLatin1", name := "newString", desc := "([BII)Ljava/lang/String;" } : Jvm.MethodName)) aw Z = true := hw _ (List.mem_of_getElem? (i := 100) rfl)
theorem d9_0 : decode jdk_42_method_92_code 0 = .ok (.aload_n 0, 1) := by decide +kernel
theorem d9_1 : decode jdk_42_method_92_code 1 = .ok (.invokevirtual 505, 3) := by decide +kernel
theorem d9_4 : decode jdk_42_method_92_code 4 = .ok (.istore_n 3, 1) := by decide +kernel
theorem d9_5 : decode jdk_42_method_92_code 5 = .ok (.iload_n 1, 1) := by decide +kernel
theorem d9_6 : decode jdk_42_method_92_code 6 = .ok (.iload_n 2, 1) := by decide +kernel
theorem d9_7 : decode jdk_42_method_92_code 7 = .ok (.iload_n 3, 1) := by decide +kernel
theorem d9_8 : decode jdk_42_method_92_code 8 = .ok (.invokestatic 521, 3) := by decide +kernel
theorem d9_11 : decode jdk_42_method_92_code 11 = .ok (.iload_n 1, 1) := by decide +kernel
theorem d9_12 : decode jdk_42_method_92_code 12 = .ok (.ifCond .ne 10, 3) := by decide +kernel
theorem d9_15 : decode jdk_42_method_92_code 15 = .ok (.iload_n 2, 1) := by decide +kernel
theorem d9_16 : decode jdk_42_method_92_code 16 = .ok (.iload_n 3, 1) := by decide +kernel
theorem d9_17 : decode jdk_42_method_92_code 17 = .ok (.if_icmp .ne 5, 3) := by decide +kernel
theorem d9_20 : decode jdk_42_method_92_code 20 = .ok (.aload_n 0, 1) := by decide +kernel
theorem d9_21 : decode jdk_42_method_92_code 21 = .ok (.areturn, 1) := by decide +kernel
theorem d9_22 : decode jdk_42_method_92_code 22 = .ok (.iload_n 2, 1) := by decide +kernel
theorem d9_23 : decode jdk_42_method_92_code 23 = .ok (.iload_n 1, 1) := by decide +kernel
theorem d9_24 : decode jdk_42_method_92_code 24 = .ok (.isub, 1) := by decide +kernel
theorem d9_25 : decode jdk_42_method_92_code 25 = .ok (.istore 4, 2) := by decide +kernel
theorem d9_27 : decode jdk_42_method_92_code 27 = .ok (.aload_n 0, 1) := by decide +kernel
theorem d9_28 : decode jdk_42_method_92_code 28 = .ok (.invokevirtual 492, 3) := by decide +kernel
theorem d9_31 : decode jdk_42_method_92_code 31 = .ok (.ifCond .eq 16, 3) := by decide +kernel
theorem d9_34 : decode jdk_42_method_92_code 34 = .ok (.aload_n 0, 1) := by decide +kernel
theorem d9_35 : decode jdk_42_method_92_code 35 = .ok (.getfield 9, 3) := by decide +kernel
theorem d9_38 : decode jdk_42_method_92_code 38 = .ok (.iload_n 1, 1) := by decide +kernel
theorem d9_39 : decode jdk_42_method_92_code 39 = .ok (.iload 4, 2) := by decide +kernel
theorem d9_41 : decode jdk_42_method_92_code 41 = .ok (.invokestatic 685, 3) := by decide +kernel
theorem d9_44 : decode jdk_42_method_92_code 44 = .ok (.goto 13, 3) := by decide +kernel
theorem d9_57 : decode jdk_42_method_92_code 57 = .ok (.areturn, 1) := by decide +kernel
theorem ef_rm9 (m : MethodId) (a0 : Addr) (p1 : Int32) (p2 : Int32) : entryFrame m #[(.ref a0), (.int p1), (.int p2)] 5 = mkF m 0 #[.val (.ref a0), .val (.int p1), .val (.int p2), .unset, .unset] [] := by first | (simp [entryFrame, mkF, argsToLocals, Value.category]; done) | rfl
def Qrm9 (Z : State) (a0 : Addr) (p1 : Int32) (p2 : Int32) (cs : List Int32) (ds : List Int32) (zc : Int32) (fm : Value) (h0 : Heap) (n0 : Nat) (v : Option Value) (h : Heap) (L : List Loc) : Prop := Fr n0 L ∧ Keep h0 h [] ∧ ∃ r : Addr, v = some (.ref r) ∧ OwnStr Z h r ds
set_option maxRecDepth 65536 in
set_option maxHeartbeats 40000000 in
theorem rm9 (l : Launch) (Z : State) (aw : Array Value) (hw : ∀ d ∈ tables_1, d.before aw Z = true) (ws : List Jvm.Cond) (a0 : Addr) (p1 : Int32) (p2 : Int32) (cs : List Int32) (ds : List Int32) (zc : Int32) (fm : Value) (h0 : Heap) (n0 : Nat) (Z0 : n0 ≤ h0.size) (S_a : OwnStr Z h0 a0 cs) (S_COMPACT_STRINGS : Sta Z h0 "java/lang/String" "COMPACT_STRINGS" "Z" (.int zc)) (hzc : ¬ zc = 0) (S_SIOOBE_FORMATTER : Sta Z h0 "jdk/internal/util/Preconditions" "SIOOBE_FORMATTER" "Ljava/util/function/BiFunction;" fm) (rf : fm.isRef = true) (hpd : ∀ c ∈ ds, OwnCh c) (hld : ds.length ≤ 4000) (hb1 : ¬ (p1 < (0 : Int32))) (hb2 : ¬ (p2 < p1)) (hb3 : ¬ (Int32.ofNat cs.length < p2)) (hsame : p1 = 0 → p2 = Int32.ofNat cs.length → ds = cs) (hd0 : p2 - p1 = 0 → ds = []) (hpart : ¬ (p1 = 0 ∧ p2 = Int32.ofNat cs.length) → ¬ p2 - p1 = 0 → OwnPart cs ds p1 (p1 + (p2 - p1))) :
    MetFree l (⟨"java/lang/String", "substring", "(II)Ljava/lang/String;"⟩ : MethodName) (head1 (Jvm.Cond.code (⟨"java/lang/String", "substring", "(II)Ljava/lang/String;"⟩ : MethodName) jdk_42_method_92_code 5 (some (.object "java/lang/String")) :: ws) ({ frames := 4, cells := 2, slots := 8, locals := 64 } : Room)) (fun a U => a = #[(.ref a0), (.int p1), (.int p2)] ∧ Z.Warmed39 U.vm ∧ U.heap = h0 ∧ CHv Z consts_1 U.vm h0 ∧ ∀ x ∈ ([] : List Addr), Safe Z consts_1 U.vm h0 x) (fun _ _ _ _ _ => True) (fun _ U o U' => ∃ v L, o = .returned v ∧ Qrm9 Z a0 p1 p2 cs ds zc fm h0 n0 v U'.heap L ∧ CHr Z consts_1 U.vm U.heap U'.vm U'.heap ∧ ReturnedEndW U o U' L ({ frames := 4, cells := 2, slots := 8, locals := 64 } : Room).cells ({ frames := 4, cells := 2, slots := 8, locals := 64 } : Room).slots) := by
  refine MetFree.of_bodySF (plainFor_of_name pn_26) hisR ?_
  intro p e s m args below meth c s₁ Bd hml0 hP hK
  obtain ⟨rfl, hZ, hh, hC0, hSf⟩ := hP
  have hx := Bd.exec
  have hby := Bd.bytes
  have hml : c.maxLocals = 5 := hml0
  have hown : s.vm.findClass "java/lang/String" = some m.cls := findClass_of_methodNamed Bd.named
  have hnm := (name_of_methodNamed Bd.named Bd.method).1
  have X0 : Stand p l e ({ frames := 4, cells := 2, slots := 8, locals := 64 } : Room) s m #[(.ref a0), (.int p1), (.int p2)] below meth c s₁ [] 0 0 := Stand.of_body Bd
  have e0 : s₁.heap = h0 := by rw [← hh, Bd.state]; rfl
  have N0 := Fr.nil n0
  have hlk := Bd.notSynchronized
  show OwnGo p.tables e below _ (s₁.setTop (entryFrame m #[(.ref a0), (.int p1), (.int p2)] 5))
  rw [ef_rm9 m a0 p1 p2]
  have B0 := OwnB.start s h0
  have C0 := CHr.refl hC0
  have K0 : Keep h0 h0 [] := Keep.refl _ _
  obtain ⟨t_a, kb_a, E_a, V_a, C_a, K_a, hp_a, ln_a⟩ := S_a
  have f1 : Arv Z h0 t_a kb_a .byte (Int32.ofNat cs.length) (cs.map fun c => Value.int (StrChars.lo8 c)) (.int (0 : Int32)) := K_a
  show OwnGo p.tables e below _ (s₁.setTop (mkF m 0 #[.val (.ref a0), .val (.int p1), .val (.int p2), .unset, .unset] []))
  refine OwnGo.of (A := s₁.setTop (mkF m 0 #[.val (.ref a0), .val (.int p1), .val (.int p2), .unset, .unset] [])) (B := s₁.setTop (mkF m 1 #[.val (.ref a0), .val (.int p1), .val (.int p2), .unset, .unset] [(.ref a0)])) (fun t k => ?_) ?_
  · show Steps p.tables e below (s₁.setTop (mkF m 0 #[.val (.ref a0), .val (.int p1), .val (.int p2), .unset, .unset] [])) t
    refine XS.aloadN X0.here hx rfl (hb hby d9_0) rfl rfl ?_
    exact k
  obtain ⟨cq2, kq2, q2a, q2b, q2c⟩ := isOf hZ e0 E_a
  obtain ⟨T2, L2, v2, X2, hQ2, st2⟩ := own_callV (Q := fun v H L => v = some (.int (Int32.ofNat cs.length)) ∧ L = [] ∧ H = h0) (rc := 0) (rs := 0) X0 hx (y := (⟨"java/lang/String", "length", "()I"⟩ : MethodName)) (z := (⟨"java/lang/String", "length", "()I"⟩ : MethodName)) hown (mvT hZ (w50 hw)) (mvT hZ (w35 hw)) (notFace_of_selects (args := #[]) (mvT hZ (w37 hw))) (mvT hZ (w37 hw)) (mvT hZ (w36 hw)) (by decide) (StrChars.Road.lenW (W := 0) hZ (own_wL hw) (kI := 4) (w7 hw) (cs := cs) E_a V_a C_a f1 (own_cod hp_a) (own_up hp_a) S_COMPACT_STRINGS hzc ln_a (by decide) (by decide)) q2a q2c (g := (mkF m 1 #[.val (.ref a0), .val (.int p1), .val (.int p2), .unset, .unset] [(.ref a0)])) rfl (by rw [hml]; rfl) (argsL := []) (rest := []) (lenOf pd_9 rfl) rfl (by show 2 * 0 + _ ≤ _; exact Nat.le_of_eq rfl) (hb hby d9_1) rfl e0 (by decide) (by decide)
  obtain ⟨hv2, rfl, eq2⟩ := hQ2
  have hw2 : v2 = some (.int (Int32.ofNat cs.length)) := hv2
  subst hw2
  have N2q : Fr n0 ([] : List Loc) := Fr.nil n0
  have N2 := Fr.app N0 N2q
  refine OwnGo.of st2 ?_
  show OwnGo p.tables e below _ (T2.setTop (mkF m 4 #[.val (.ref a0), .val (.int p1), .val (.int p2), .unset, .unset] [(.int (Int32.ofNat cs.length))]))
  refine OwnGo.of (A := T2.setTop (mkF m 4 #[.val (.ref a0), .val (.int p1), .val (.int p2), .unset, .unset] [(.int (Int32.ofNat cs.length))])) (B := T2.setTop (mkF m 8 #[.val (.ref a0), .val (.int p1), .val (.int p2), .val (.int (Int32.ofNat cs.length)), .unset] [(.int (Int32.ofNat cs.length)), (.int p2), (.int p1)])) (fun t k => ?_) ?_
  · show Steps p.tables e below (T2.setTop (mkF m 4 #[.val (.ref a0), .val (.int p1), .val (.int p2), .unset, .unset] [(.int (Int32.ofNat cs.length))])) t
    refine XS.istoreN X2.here hx rfl (hb hby d9_4) rfl (l' := #[.val (.ref a0), .val (.int p1), .val (.int p2), .val (.int (Int32.ofNat cs.length)), .unset]) rfl ?_
    refine XS.iloadN X2.here hx rfl (hb hby d9_5) rfl ?_
    refine XS.iloadN X2.here hx rfl (hb hby d9_6) rfl ?_
    refine XS.iloadN X2.here hx rfl (hb hby d9_7) rfl ?_
    exact k
  obtain ⟨T3, L3, v3, X3, hQ3, st3⟩ := own_callS X2 hx (y := (⟨"java/lang/String", "checkBoundsBeginEnd", "(III)V"⟩ : MethodName)) hown (mvT hZ (w51 hw)) (mvT hZ (w52 hw)) (mvT hZ (w8 hw)) (mvT hZ (w53 hw)) (by decide) (backOf (W := 0) (rm10 l Z aw hw [] p1 p2 (Int32.ofNat cs.length) fm h0 n0 Z0 S_SIOOBE_FORMATTER rf hb1 hb2 hb3) hZ (w53 hw) (w8 hw) (by decide) (by decide)) (g := (mkF m 8 #[.val (.ref a0), .val (.int p1), .val (.int p2), .val (.int (Int32.ofNat cs.length)), .unset] [(.int (Int32.ofNat cs.length)), (.int p2), (.int p1)])) rfl (by rw [hml]; rfl) (argsL := [(.int p1), (.int p2), (.int (Int32.ofNat cs.length))]) (rest := []) (lenOf pd_73 rfl) rfl (by show 2 * 0 + _ ≤ _; exact Nat.le_of_eq rfl) (hb hby d9_8) rfl eq2 (by decide) (by decide)
  obtain ⟨rfl, N3q, eq3⟩ := hQ3
  have N3 := Fr.app N2 N3q
  refine OwnGo.of st3 ?_
  show OwnGo p.tables e below _ (T3.setTop (mkF m 11 #[.val (.ref a0), .val (.int p1), .val (.int p2), .val (.int (Int32.ofNat cs.length)), .unset] []))
  refine OwnGo.of (A := T3.setTop (mkF m 11 #[.val (.ref a0), .val (.int p1), .val (.int p2), .val (.int (Int32.ofNat cs.length)), .unset] [])) (B := T3.setTop (mkF m 12 #[.val (.ref a0), .val (.int p1), .val (.int p2), .val (.int (Int32.ofNat cs.length)), .unset] [(.int p1)])) (fun t k => ?_) ?_
  · show Steps p.tables e below (T3.setTop (mkF m 11 #[.val (.ref a0), .val (.int p1), .val (.int p2), .val (.int (Int32.ofNat cs.length)), .unset] [])) t
    refine XS.iloadN X3.here hx rfl (hb hby d9_11) rfl ?_
    exact k
  by_cases hc4 : p1 = (0 : Int32)
  · refine OwnGo.of (A := T3.setTop (mkF m 12 #[.val (.ref a0), .val (.int p1), .val (.int p2), .val (.int (Int32.ofNat cs.length)), .unset] [(.int p1)])) (B := T3.setTop (mkF m 17 #[.val (.ref a0), .val (.int p1), .val (.int p2), .val (.int (Int32.ofNat cs.length)), .unset] [(.int (Int32.ofNat cs.length)), (.int p2)])) (fun t k => ?_) ?_
    · show Steps p.tables e below (T3.setTop (mkF m 12 #[.val (.ref a0), .val (.int p1), .val (.int p2), .val (.int (Int32.ofNat cs.length)), .unset] [(.int p1)])) t
      refine XS.ifNo X3.here hx rfl (hb hby d9_12) rfl ((if0 _ _).trans (teq hc4).2) ?_
      refine XS.iloadN X3.here hx rfl (hb hby d9_15) rfl ?_
      refine XS.iloadN X3.here hx rfl (hb hby d9_16) rfl ?_
      exact k
    by_cases hc5 : p2 = (Int32.ofNat cs.length)
    · refine OwnGo.of (A := T3.setTop (mkF m 17 #[.val (.ref a0), .val (.int p1), .val (.int p2), .val (.int (Int32.ofNat cs.length)), .unset] [(.int (Int32.ofNat cs.length)), (.int p2)])) (B := T3.setTop (mkF m 21 #[.val (.ref a0), .val (.int p1), .val (.int p2), .val (.int (Int32.ofNat cs.length)), .unset] [(.ref a0)])) (fun t k => ?_) ?_
      · show Steps p.tables e below (T3.setTop (mkF m 17 #[.val (.ref a0), .val (.int p1), .val (.int p2), .val (.int (Int32.ofNat cs.length)), .unset] [(.int (Int32.ofNat cs.length)), (.int p2)])) t
        refine XS.icmpNo X3.here hx rfl (hb hby d9_17) rfl (teq hc5).2 ?_
        refine XS.aloadN X3.here hx rfl (hb hby d9_20) rfl rfl ?_
        exact k
      obtain ⟨fs, hr, hrun, hended, hRW⟩ := own_leaveW X3 B0 eq3 (v := some (.ref a0)) (fun h => by rw [Bd.returns] at h; cases h) hlk
      refine ⟨_, _, ?_, hrun, hended, _, _, rfl, ?_, own_endW X3 hZ (own_EW hw) eq3 hh C0 fs, own_monoW hRW (by decide) (by decide)⟩
      · show Steps p.tables e below (T3.setTop (mkF m 21 #[.val (.ref a0), .val (.int p1), .val (.int p2), .val (.int (Int32.ofNat cs.length)), .unset] [(.ref a0)])) _
        exact own_retA X3 hx Bd.returns rfl rfl rfl (hb hby d9_21) hr
      · show Qrm9 Z a0 p1 p2 cs ds zc fm h0 n0 _ (T3.setFrames fs).heap _
        rw [show (T3.setFrames fs).heap = h0 from eq3]
        obtain rfl : ds = cs := hsame hc4 hc5
        exact ⟨N3, K0, a0, rfl, ⟨_, _, E_a, V_a, C_a, f1, hp_a, ln_a⟩⟩
    · refine OwnGo.of (A := T3.setTop (mkF m 17 #[.val (.ref a0), .val (.int p1), .val (.int p2), .val (.int (Int32.ofNat cs.length)), .unset] [(.int (Int32.ofNat cs.length)), (.int p2)])) (B := T3.setTop (mkF m 28 #[.val (.ref a0), .val (.int p1), .val (.int p2), .val (.int (Int32.ofNat cs.length)), .val (.int (p2 - p1))] [(.ref a0)])) (fun t k => ?_) ?_
      · show Steps p.tables e below (T3.setTop (mkF m 17 #[.val (.ref a0), .val (.int p1), .val (.int p2), .val (.int (Int32.ofNat cs.length)), .unset] [(.int (Int32.ofNat cs.length)), (.int p2)])) t
        refine XS.icmpYes X3.here hx rfl (pc0 := 17) (pc' := 22) rfl (hb hby d9_17) rfl (feq hc5).2 (by decide) (by decide) ?_
        refine XS.iloadN X3.here hx rfl (hb hby d9_22) rfl ?_
        refine XS.iloadN X3.here hx rfl (hb hby d9_23) rfl ?_
        refine XS.isub X3.here hx rfl (hb hby d9_24) rfl ?_
        refine XS.istore X3.here hx rfl (hb hby d9_25) rfl (l' := #[.val (.ref a0), .val (.int p1), .val (.int p2), .val (.int (Int32.ofNat cs.length)), .val (.int (p2 - p1))]) rfl ?_
        refine XS.aloadN X3.here hx rfl (hb hby d9_27) rfl rfl ?_
        exact k
      obtain ⟨cq6, kq6, q6a, q6b, q6c⟩ := isOf hZ eq3 E_a
      obtain ⟨T6, L6, v6, X6, hQ6, st6⟩ := own_callV X3 hx (y := (⟨"java/lang/String", "isLatin1", "()Z"⟩ : MethodName)) (z := (⟨"java/lang/String", "isLatin1", "()Z"⟩ : MethodName)) hown (mvT hZ (w81 hw)) (mvT hZ (w82 hw)) (notFace_of_selects (args := #[]) (mvT hZ (w84 hw))) (mvT hZ (w84 hw)) (mvT hZ (w83 hw)) (by decide) (backOf (W := 0) (rm18 l Z aw hw [] a0 zc h0 n0 Z0 E_a C_a S_COMPACT_STRINGS hzc) hZ (w85 hw) (w8 hw) (by decide) (by decide)) q6a q6c (g := (mkF m 28 #[.val (.ref a0), .val (.int p1), .val (.int p2), .val (.int (Int32.ofNat cs.length)), .val (.int (p2 - p1))] [(.ref a0)])) rfl (by rw [hml]; rfl) (argsL := []) (rest := []) (lenOf pd_77 rfl) rfl (by show 2 * 0 + _ ≤ _; exact Nat.le_of_eq rfl) (hb hby d9_28) rfl eq3 (by decide) (by decide)
      obtain ⟨rfl, N6q, eq6⟩ := hQ6
      have N6 := Fr.app N3 N6q
      refine OwnGo.of st6 ?_
      show OwnGo p.tables e below _ (T6.setTop (mkF m 31 #[.val (.ref a0), .val (.int p1), .val (.int p2), .val (.int (Int32.ofNat cs.length)), .val (.int (p2 - p1))] [(.int (1 : Int32))]))
      have hc7 : ¬ ((1 : Int32) = (0 : Int32)) := fun q => absurd q (by decide)
      refine OwnGo.of (A := T6.setTop (mkF m 31 #[.val (.ref a0), .val (.int p1), .val (.int p2), .val (.int (Int32.ofNat cs.length)), .val (.int (p2 - p1))] [(.int (1 : Int32))])) (B := T6.setTop (mkF m 35 #[.val (.ref a0), .val (.int p1), .val (.int p2), .val (.int (Int32.ofNat cs.length)), .val (.int (p2 - p1))] [(.ref a0)])) (fun t k => ?_) ?_
      · show Steps p.tables e below (T6.setTop (mkF m 31 #[.val (.ref a0), .val (.int p1), .val (.int p2), .val (.int (Int32.ofNat cs.length)), .val (.int (p2 - p1))] [(.int (1 : Int32))])) t
        refine XS.ifNo X6.here hx rfl (hb hby d9_31) rfl ((if0 _ _).trans (feq hc7).1) ?_
        refine XS.aloadN X6.here hx rfl (hb hby d9_34) rfl rfl ?_
        exact k
      obtain ⟨T8, X8, e8, st8⟩ := getF X6 hx hZ hown (host := "") (Or.inl (w25 hw)) Via.refl eq6 V_a (g := (mkF m 35 #[.val (.ref a0), .val (.int p1), .val (.int p2), .val (.int (Int32.ofNat cs.length)), .val (.int (p2 - p1))] [(.ref a0)])) rfl rfl (hb hby d9_35)
      refine OwnGo.of st8 ?_
      show OwnGo p.tables e below _ (T8.setTop (mkF m 38 #[.val (.ref a0), .val (.int p1), .val (.int p2), .val (.int (Int32.ofNat cs.length)), .val (.int (p2 - p1))] [(.ref t_a)]))
      refine OwnGo.of (A := T8.setTop (mkF m 38 #[.val (.ref a0), .val (.int p1), .val (.int p2), .val (.int (Int32.ofNat cs.length)), .val (.int (p2 - p1))] [(.ref t_a)])) (B := T8.setTop (mkF m 41 #[.val (.ref a0), .val (.int p1), .val (.int p2), .val (.int (Int32.ofNat cs.length)), .val (.int (p2 - p1))] [(.int (p2 - p1)), (.int p1), (.ref t_a)])) (fun t k => ?_) ?_
      · show Steps p.tables e below (T8.setTop (mkF m 38 #[.val (.ref a0), .val (.int p1), .val (.int p2), .val (.int (Int32.ofNat cs.length)), .val (.int (p2 - p1))] [(.ref t_a)])) t
        refine XS.iloadN X8.here hx rfl (hb hby d9_38) rfl ?_
        refine XS.iload X8.here hx rfl (hb hby d9_39) rfl ?_
        exact k
      obtain ⟨s9, T9, L9, v9, X9, hQ9, B9, hZ, hown, cs9, st9⟩ := own_callSW (s := s) X8 hx (y := (⟨"java/lang/StringLatin1", "newString", "([BII)Ljava/lang/String;"⟩ : MethodName)) hown (mvT hZ (w99 hw)) (mvT hZ (w100 hw)) (mvT hZ (w88 hw)) (mvT hZ (w101 hw)) (by decide) hZ B0 (own_backW (W := 0) (ws := []) (rm23 l Z aw hw [] t_a p1 (p2 - p1) cs ds kb_a h0 n0 Z0 f1 hpd hld hd0 (hpart (fun q => hc5 q.2))) hZ (w101 hw) (w88 hw) (by decide) (by decide) (own_EW hw) C0.1 all0) (g := (mkF m 41 #[.val (.ref a0), .val (.int p1), .val (.int p2), .val (.int (Int32.ofNat cs.length)), .val (.int (p2 - p1))] [(.int (p2 - p1)), (.int p1), (.ref t_a)])) rfl (by rw [hml]; rfl) (argsL := [(.ref t_a), (.int p1), (.int (p2 - p1))]) (rest := []) (lenOf pd_84 rfl) rfl (by show 2 * 0 + _ ≤ _; exact Nat.le_of_eq rfl) (hb hby d9_41) rfl e8 (by decide) (by decide)
      obtain ⟨N9q, K9, x9, rfl, SS9⟩ := hQ9
      have f10 := Nat.le_trans Z0 K9.1
      have f11 := C0.trans cs9
      have f12 := K0.trans K9 all0
      have f13 := own_sta_keep S_COMPACT_STRINGS K9 all0
      have f14 := own_sta_keep S_SIOOBE_FORMATTER K9 all0
      have f15 := E_a.keep K9
      have f16 := C_a.keep K9 nin0
      have f17 := V_a.keep K9 nin0
      have f18 := f1.keep K9 nin0
      obtain ⟨t_m9, kb_m9, E_m9, V_m9, C_m9, K_m9, hp_m9, ln_m9⟩ := SS9
      have f19 : Arv Z T9.heap t_m9 kb_m9 .byte (Int32.ofNat ds.length) (ds.map fun c => Value.int (StrChars.lo8 c)) (.int (0 : Int32)) := K_m9
      have N9 := Fr.app N6 N9q
      refine OwnGo.of st9 ?_
      show OwnGo p.tables e below _ (T9.setTop (mkF m 44 #[.val (.ref a0), .val (.int p1), .val (.int p2), .val (.int (Int32.ofNat cs.length)), .val (.int (p2 - p1))] [(.ref x9)]))
      refine OwnGo.of (A := T9.setTop (mkF m 44 #[.val (.ref a0), .val (.int p1), .val (.int p2), .val (.int (Int32.ofNat cs.length)), .val (.int (p2 - p1))] [(.ref x9)])) (B := T9.setTop (mkF m 57 #[.val (.ref a0), .val (.int p1), .val (.int p2), .val (.int (Int32.ofNat cs.length)), .val (.int (p2 - p1))] [(.ref x9)])) (fun t k => ?_) ?_
      · show Steps p.tables e below (T9.setTop (mkF m 44 #[.val (.ref a0), .val (.int p1), .val (.int p2), .val (.int (Int32.ofNat cs.length)), .val (.int (p2 - p1))] [(.ref x9)])) t
        refine XS.goto X9.here hx rfl (pc0 := 44) (pc' := 57) rfl (hb hby d9_44) (by decide) (by decide) ?_
        exact k
      obtain ⟨fs, hr, hrun, hended, hRW⟩ := own_leaveW X9 B9 rfl (v := some (.ref x9)) (fun h => by rw [Bd.returns] at h; cases h) hlk
      refine ⟨_, _, ?_, hrun, hended, _, _, rfl, ?_, own_endW X9 hZ (own_EW hw) rfl hh f11 fs, own_monoW hRW (by decide) (by decide)⟩
      · show Steps p.tables e below (T9.setTop (mkF m 57 #[.val (.ref a0), .val (.int p1), .val (.int p2), .val (.int (Int32.ofNat cs.length)), .val (.int (p2 - p1))] [(.ref x9)])) _
        exact own_retA X9 hx Bd.returns rfl rfl rfl (hb hby d9_57) hr
      · show Qrm9 Z a0 p1 p2 cs ds zc fm h0 n0 _ (T9.setFrames fs).heap _
        rw [show (T9.setFrames fs).heap = T9.heap from rfl]
        exact ⟨N9, f12, x9, rfl, ⟨_, _, E_m9, V_m9, C_m9, f19, hp_m9, ln_m9⟩⟩
  · refine OwnGo.of (A := T3.setTop (mkF m 12 #[.val (.ref a0), .val (.int p1), .val (.int p2), .val (.int (Int32.ofNat cs.length)), .unset] [(.int p1)])) (B := T3.setTop (mkF m 28 #[.val (.ref a0), .val (.int p1), .val (.int p2), .val (.int (Int32.ofNat cs.length)), .val (.int (p2 - p1))] [(.ref a0)])) (fun t k => ?_) ?_
    · show Steps p.tables e below (T3.setTop (mkF m 12 #[.val (.ref a0), .val (.int p1), .val (.int p2), .val (.int (Int32.ofNat cs.length)), .unset] [(.int p1)])) t
      refine XS.ifYes X3.here hx rfl (pc0 := 12) (pc' := 22) rfl (hb hby d9_12) rfl ((if0 _ _).trans (feq hc4).2) (by decide) (by decide) ?_
      refine XS.iloadN X3.here hx rfl (hb hby d9_22) rfl ?_
      refine XS.iloadN X3.here hx rfl (hb hby d9_23) rfl ?_
      refine XS.isub X3.here hx rfl (hb hby d9_24) rfl ?_
      refine XS.istore X3.here hx rfl (hb hby d9_25) rfl (l' := #[.val (.ref a0), .val (.int p1), .val (.int p2), .val (.int (Int32.ofNat cs.length)), .val (.int (p2 - p1))]) rfl ?_
      refine XS.aloadN X3.here hx rfl (hb hby d9_27) rfl rfl ?_
      exact k
    obtain ⟨cq20, kq20, q20a, q20b, q20c⟩ := isOf hZ eq3 E_a
    obtain ⟨T20, L20, v20, X20, hQ20, st20⟩ := own_callV X3 hx (y := (⟨"java/lang/String", "isLatin1", "()Z"⟩ : MethodName)) (z := (⟨"java/lang/String", "isLatin1", "()Z"⟩ : MethodName)) hown (mvT hZ (w81 hw)) (mvT hZ (w82 hw)) (notFace_of_selects (args := #[]) (mvT hZ (w84 hw))) (mvT hZ (w84 hw)) (mvT hZ (w83 hw)) (by decide) (backOf (W := 0) (rm18 l Z aw hw [] a0 zc h0 n0 Z0 E_a C_a S_COMPACT_STRINGS hzc) hZ (w85 hw) (w8 hw) (by decide) (by decide)) q20a q20c (g := (mkF m 28 #[.val (.ref a0), .val (.int p1), .val (.int p2), .val (.int (Int32.ofNat cs.length)), .val (.int (p2 - p1))] [(.ref a0)])) rfl (by rw [hml]; rfl) (argsL := []) (rest := []) (lenOf pd_77 rfl) rfl (by show 2 * 0 + _ ≤ _; exact Nat.le_of_eq rfl) (hb hby d9_28) rfl eq3 (by decide) (by decide)
    obtain ⟨rfl, N20q, eq20⟩ := hQ20
    have N20 := Fr.app N3 N20q
    refine OwnGo.of st20 ?_
    show OwnGo p.tables e below _ (T20.setTop (mkF m 31 #[.val (.ref a0), .val (.int p1), .val (.int p2), .val (.int (Int32.ofNat cs.length)), .val (.int (p2 - p1))] [(.int (1 : Int32))]))
    have hc21 : ¬ ((1 : Int32) = (0 : Int32)) := fun q => absurd q (by decide)
    refine OwnGo.of (A := T20.setTop (mkF m 31 #[.val (.ref a0), .val (.int p1), .val (.int p2), .val (.int (Int32.ofNat cs.length)), .val (.int (p2 - p1))] [(.int (1 : Int32))])) (B := T20.setTop (mkF m 35 #[.val (.ref a0), .val (.int p1), .val (.int p2), .val (.int (Int32.ofNat cs.length)), .val (.int (p2 - p1))] [(.ref a0)])) (fun t k => ?_) ?_
    · show Steps p.tables e below (T20.setTop (mkF m 31 #[.val (.ref a0), .val (.int p1), .val (.int p2), .val (.int (Int32.ofNat cs.length)), .val (.int (p2 - p1))] [(.int (1 : Int32))])) t
      refine XS.ifNo X20.here hx rfl (hb hby d9_31) rfl ((if0 _ _).trans (feq hc21).1) ?_
      refine XS.aloadN X20.here hx rfl (hb hby d9_34) rfl rfl ?_
      exact k
    obtain ⟨T22, X22, e22, st22⟩ := getF X20 hx hZ hown (host := "") (Or.inl (w25 hw)) Via.refl eq20 V_a (g := (mkF m 35 #[.val (.ref a0), .val (.int p1), .val (.int p2), .val (.int (Int32.ofNat cs.length)), .val (.int (p2 - p1))] [(.ref a0)])) rfl rfl (hb hby d9_35)
    refine OwnGo.of st22 ?_
    show OwnGo p.tables e below _ (T22.setTop (mkF m 38 #[.val (.ref a0), .val (.int p1), .val (.int p2), .val (.int (Int32.ofNat cs.length)), .val (.int (p2 - p1))] [(.ref t_a)]))
    refine OwnGo.of (A := T22.setTop (mkF m 38 #[.val (.ref a0), .val (.int p1), .val (.int p2), .val (.int (Int32.ofNat cs.length)), .val (.int (p2 - p1))] [(.ref t_a)])) (B := T22.setTop (mkF m 41 #[.val (.ref a0), .val (.int p1), .val (.int p2), .val (.int (Int32.ofNat cs.length)), .val (.int (p2 - p1))] [(.int (p2 - p1)), (.int p1), (.ref t_a)])) (fun t k => ?_) ?_
    · show Steps p.tables e below (T22.setTop (mkF m 38 #[.val (.ref a0), .val (.int p1), .val (.int p2), .val (.int (Int32.ofNat cs.length)), .val (.int (p2 - p1))] [(.ref t_a)])) t
      refine XS.iloadN X22.here hx rfl (hb hby d9_38) rfl ?_
      refine XS.iload X22.here hx rfl (hb hby d9_39) rfl ?_
      exact k
    obtain ⟨s23, T23, L23, v23, X23, hQ23, B23, hZ, hown, cs23, st23⟩ := own_callSW (s := s) X22 hx (y := (⟨"java/lang/StringLatin1", "newString", "([BII)Ljava/lang/String;"⟩ : MethodName)) hown (mvT hZ (w99 hw)) (mvT hZ (w100 hw)) (mvT hZ (w88 hw)) (mvT hZ (w101 hw)) (by decide) hZ B0 (own_backW (W := 0) (ws := []) (rm23 l Z aw hw [] t_a p1 (p2 - p1) cs ds kb_a h0 n0 Z0 f1 hpd hld hd0 (hpart (fun q => hc4 q.1))) hZ (w101 hw) (w88 hw) (by decide) (by decide) (own_EW hw) C0.1 all0) (g := (mkF m 41 #[.val (.ref a0), .val (.int p1), .val (.int p2), .val (.int (Int32.ofNat cs.length)), .val (.int (p2 - p1))] [(.int (p2 - p1)), (.int p1), (.ref t_a)])) rfl (by rw [hml]; rfl) (argsL := [(.ref t_a), (.int p1), (.int (p2 - p1))]) (rest := []) (lenOf pd_84 rfl) rfl (by show 2 * 0 + _ ≤ _; exact Nat.le_of_eq rfl) (hb hby d9_41) rfl e22 (by decide) (by decide)
    obtain ⟨N23q, K23, x23, rfl, SS23⟩ := hQ23
    have f24 := Nat.le_trans Z0 K23.1
    have f25 := C0.trans cs23
    have f26 := K0.trans K23 all0
    have f27 := own_sta_keep S_COMPACT_STRINGS K23 all0
    have f28 := own_sta_keep S_SIOOBE_FORMATTER K23 all0
    have f29 := E_a.keep K23
    have f30 := C_a.keep K23 nin0
    have f31 := V_a.keep K23 nin0
    have f32 := f1.keep K23 nin0
    obtain ⟨t_m23, kb_m23, E_m23, V_m23, C_m23, K_m23, hp_m23, ln_m23⟩ := SS23
    have f33 : Arv Z T23.heap t_m23 kb_m23 .byte (Int32.ofNat ds.length) (ds.map fun c => Value.int (StrChars.lo8 c)) (.int (0 : Int32)) := K_m23
    have N23 := Fr.app N20 N23q
    refine OwnGo.of st23 ?_
    show OwnGo p.tables e below _ (T23.setTop (mkF m 44 #[.val (.ref a0), .val (.int p1), .val (.int p2), .val (.int (Int32.ofNat cs.length)), .val (.int (p2 - p1))] [(.ref x23)]))
    refine OwnGo.of (A := T23.setTop (mkF m 44 #[.val (.ref a0), .val (.int p1), .val (.int p2), .val (.int (Int32.ofNat cs.length)), .val (.int (p2 - p1))] [(.ref x23)])) (B := T23.setTop (mkF m 57 #[.val (.ref a0), .val (.int p1), .val (.int p2), .val (.int (Int32.ofNat cs.length)), .val (.int (p2 - p1))] [(.ref x23)])) (fun t k => ?_) ?_
    · show Steps p.tables e below (T23.setTop (mkF m 44 #[.val (.ref a0), .val (.int p1), .val (.int p2), .val (.int (Int32.ofNat cs.length)), .val (.int (p2 - p1))] [(.ref x23)])) t
      refine XS.goto X23.here hx rfl (pc0 := 44) (pc' := 57) rfl (hb hby d9_44) (by decide) (by decide) ?_
      exact k
    obtain ⟨fs, hr, hrun, hended, hRW⟩ := own_leaveW X23 B23 rfl (v := some (.ref x23)) (fun h => by rw [Bd.returns] at h; cases h) hlk
    refine ⟨_, _, ?_, hrun, hended, _, _, rfl, ?_, own_endW X23 hZ (own_EW hw) rfl hh f25 fs, own_monoW hRW (by decide) (by decide)⟩
    · show Steps p.tables e below (T23.setTop (mkF m 57 #[.val (.ref a0), .val (.int p1), .val (.int p2), .val (.int (Int32.ofNat cs.length)), .val (.int (p2 - p1))] [(.ref x23)])) _
      exact own_retA X23 hx Bd.returns rfl rfl rfl (hb hby d9_57) hr
    · show Qrm9 Z a0 p1 p2 cs ds zc fm h0 n0 _ (T23.setFrames fs).heap _
      rw [show (T23.setFrames fs).heap = T23.heap from rfl]
      exact ⟨N23, f26, x23, rfl, ⟨_, _, E_m23, V_m23, C_m23, f33, hp_m23, ln_m23⟩⟩

theorem own_wF2 {c : Int32} (h : own_wb c = false) : own_w c = (0 : Int32) := by
  unfold own_wb at h; unfold own_w
  by_cases h1 : c = 32
  · simp [h1] at h
  · by_cases h2 : c = 9
    · simp [h2] at h
    · simp [h1, h2]
theorem own_wT2 {c : Int32} (h : own_wb c = true) : ¬ own_w c = (0 : Int32) := by
  intro q; rw [own_wF q] at h; cases h
theorem own_dec (a r : Nat) : Int32.ofNat (a + (r + 1)) + (-1 : Int32) = Int32.ofNat (a + r) := by
  rw [show a + (r + 1) = (a + r) + 1 from rfl, Int32.ofNat_add, Int32.add_assoc]
  show _ + ((1 : Int32) + (-1 : Int32)) = _
  rw [show (1 : Int32) + (-1 : Int32) = 0 from by decide, Int32.add_zero]
theorem own_dec1 (a r : Nat) : Int32.ofNat (a + (r + 1)) - (1 : Int32) = Int32.ofNat (a + r) := by
  rw [Int32.sub_eq_add_neg]; exact own_dec a r
theorem own_trim0 (cs : List Int32) : own_trim cs = own_rt ((cs.take cs.length).drop (own_skip cs)) := by
  unfold own_trim own_rt; rw [List.take_length, ← own_dropw cs]
theorem own_rt1 (l : List Int32) (c : Int32) : own_rt (l ++ [c]) = if own_wb c = true then own_rt l else l ++ [c] := by
  unfold own_rt; rw [List.reverse_append]; simp only [List.reverse_cons, List.reverse_nil, List.nil_append, List.singleton_append, List.dropWhile_cons]; split <;> simp
theorem own_tk {cs : List Int32} {k r : Nat} (h : k + (r + 1) ≤ cs.length) : (cs.take (k + (r + 1))).drop k = (cs.take (k + r)).drop k ++ [cs.getD (k + r) 0] := by
  have hl : k + r < cs.length := by omega
  rw [show k + (r + 1) = (k + r) + 1 from rfl, List.take_add_one, List.getElem?_eq_getElem hl, List.drop_append_of_le_length (by rw [List.length_take]; omega), List.getD_eq_getElem?_getD, List.getElem?_eq_getElem hl]; rfl
theorem own_tT {cs : List Int32} {k r : Nat} (h : k + (r + 1) ≤ cs.length) (q : own_wb (cs.getD (k + r) 0) = true) (ht : own_trim cs = own_rt ((cs.take (k + (r + 1))).drop k)) : own_trim cs = own_rt ((cs.take (k + r)).drop k) := by
  rw [ht, own_tk h, own_rt1, if_pos q]
theorem own_tF {cs : List Int32} {k r : Nat} (h : k + (r + 1) ≤ cs.length) (q : own_wb (cs.getD (k + r) 0) = false) (ht : own_trim cs = own_rt ((cs.take (k + (r + 1))).drop k)) : own_trim cs = (cs.take (k + (r + 1))).drop k := by
  rw [ht, own_tk h, own_rt1, if_neg (by rw [q]; decide)]
theorem own_t0 {cs : List Int32} {k : Nat} (ht : own_trim cs = own_rt ((cs.take (k + 0)).drop k)) : own_trim cs = (cs.take (k + 0)).drop k := by
  rw [ht, Nat.add_zero, List.drop_eq_nil_of_le (by rw [List.length_take]; omega)]; rfl
set_option maxRecDepth 65536 in
theorem own_five : ∀ n j k : Fin 5, k.val ≤ j.val → j.val ≤ n.val → (¬ Int32.ofNat k.val < 0) ∧ (¬ Int32.ofNat j.val < Int32.ofNat k.val) ∧ (¬ Int32.ofNat n.val < Int32.ofNat j.val) ∧ (Int32.ofNat k.val = 0 → k.val = 0) ∧ (Int32.ofNat j.val = Int32.ofNat n.val → j.val = n.val) ∧ (Int32.ofNat j.val - Int32.ofNat k.val = 0 → j.val = k.val) ∧
    (¬ (k.val = 0 ∧ j.val = n.val) → OwnCut (Int32.ofNat k.val) (Int32.ofNat k.val + (Int32.ofNat j.val - Int32.ofNat k.val)) (Int32.ofNat n.val)) ∧ (Int32.ofNat k.val + (Int32.ofNat j.val - Int32.ofNat k.val) - Int32.ofNat k.val).toNatClampNeg = j.val - k.val ∧ (Int32.ofNat k.val).toNatClampNeg = k.val ∧ (Int32.ofNat k.val + (Int32.ofNat j.val - Int32.ofNat k.val) - Int32.ofNat k.val = Int32.ofNat (j.val - k.val)) := by
  unfold OwnCut; decide +kernel
theorem own_prem {cs : List Int32} {k j : Nat} (h1 : k ≤ j) (h2 : j ≤ cs.length) (h4 : cs.length ≤ 4) :
    ¬ Int32.ofNat k < 0 ∧ ¬ Int32.ofNat j < Int32.ofNat k ∧ ¬ Int32.ofNat cs.length < Int32.ofNat j ∧ (Int32.ofNat k = 0 → Int32.ofNat j = Int32.ofNat cs.length → (cs.take j).drop k = cs) ∧ (Int32.ofNat j - Int32.ofNat k = 0 → (cs.take j).drop k = []) ∧
      (¬ (Int32.ofNat k = 0 ∧ Int32.ofNat j = Int32.ofNat cs.length) → ¬ Int32.ofNat j - Int32.ofNat k = 0 → OwnPart cs ((cs.take j).drop k) (Int32.ofNat k) (Int32.ofNat k + (Int32.ofNat j - Int32.ofNat k))) := by
  obtain ⟨a1, a2, a3, a4, a5, a6, a7, a8, a9, a10⟩ := own_five ⟨cs.length, by omega⟩ ⟨j, by omega⟩ ⟨k, by omega⟩ h1 h2
  dsimp only at a1 a2 a3 a4 a5 a6 a7 a8 a9 a10
  have hl : ((cs.take j).drop k).length = j - k := by rw [List.length_drop, List.length_take]; omega
  refine ⟨a1, a2, a3, fun q1 q2 => ?_, fun q => ?_, fun q1 q2 => ⟨a7 fun q => q1 ⟨by rw [q.1]; rfl, by rw [q.2]⟩, ?_, by rw [a10, hl]⟩⟩
  · rw [a4 q1, a5 q2, List.take_length]; rfl
  · exact List.drop_eq_nil_of_le (by rw [a6 q, List.length_take]; omega)
  · rw [a8, a9]
    refine List.ext_getElem (by rw [List.length_map, List.length_map, List.length_range, hl]) fun i q3 q4 => ?_
    rw [List.length_map, hl] at q3
    rw [List.getElem_map, List.getElem_map, List.getElem_range, List.getD_eq_getElem?_getD, List.getElem?_map, List.getElem?_eq_getElem (by omega), List.getElem_drop, List.getElem_take]; rfl
theorem own_ds {cs : List Int32} (hp : ∀ c ∈ cs, OwnCh c) (j k : Nat) : ∀ c ∈ (cs.take j).drop k, OwnCh c := fun c hc => hp c (List.mem_of_mem_take (List.mem_of_mem_drop hc))
theorem own_dl {cs : List Int32} (h4 : cs.length ≤ 4) (j k : Nat) : ((cs.take j).drop k).length ≤ 4000 := by rw [List.length_drop, List.length_take]; omega

theorem w45 {Z aw} (hw : OwnHW aw Z) : Cond.before (Jvm.Cond.methodLink "dev/boundaryline/model/HeaderValue" (52 : Nat) ({ cls := "java/lang/String", name := "substring", desc := "(II)Ljava/lang/String;" } : Jvm.MethodName)) aw Z = true := hw _ (List.mem_of_getElem? (i := 45) rfl)
theorem w49 {Z aw} (hw : OwnHW aw Z) : Cond.before (Jvm.Cond.code ({ cls := "java/lang/String", name := "substring", desc := "(II)Ljava/lang/String;" } : Jvm.MethodName) jdk_42_method_92_code (5 : Nat) (Option.some (Jvm.ClassFile.FieldType.object "java/lang/String"))) aw Z = true := hw _ (List.mem_of_getElem? (i := 49) rfl)
theorem pd_88 : parseMethodDescriptor "(II)Ljava/lang/String;" = some ⟨[.int, .int], some (.object "java/lang/String")⟩ := by decide +kernel
theorem w48 {Z aw} (hw : OwnHW aw Z) : Cond.before (Jvm.Cond.selects "java/lang/String" ({ cls := "java/lang/String", name := "substring", desc := "(II)Ljava/lang/String;" } : Jvm.MethodName) ({ cls := "java/lang/String", name := "substring", desc := "(II)Ljava/lang/String;" } : Jvm.MethodName)) aw Z = true := hw _ (List.mem_of_getElem? (i := 48) rfl)
theorem w46 {Z aw} (hw : OwnHW aw Z) : Cond.before (Jvm.Cond.declares ({ cls := "java/lang/String", name := "substring", desc := "(II)Ljava/lang/String;" } : Jvm.MethodName)) aw Z = true := hw _ (List.mem_of_getElem? (i := 46) rfl)
theorem w47 {Z aw} (hw : OwnHW aw Z) : Cond.before (Jvm.Cond.instanceMethod ({ cls := "java/lang/String", name := "substring", desc := "(II)Ljava/lang/String;" } : Jvm.MethodName)) aw Z = true := hw _ (List.mem_of_getElem? (i := 47) rfl)
theorem w31 {Z aw} (hw : OwnHW aw Z) : Cond.before (Jvm.Cond.methodLink "dev/boundaryline/model/HeaderValue" (34 : Nat) ({ cls := "dev/boundaryline/model/HeaderValue", name := "skipWhitespace", desc := "(Ljava/lang/String;I)I" } : Jvm.MethodName)) aw Z = true := hw _ (List.mem_of_getElem? (i := 31) rfl)
theorem w33 {Z aw} (hw : OwnHW aw Z) : Cond.before (Jvm.Cond.code ({ cls := "dev/boundaryline/model/HeaderValue", name := "skipWhitespace", desc := "(Ljava/lang/String;I)I" } : Jvm.MethodName) prog_32_method_10_code (3 : Nat) (Option.some Jvm.ClassFile.FieldType.int)) aw Z = true := hw _ (List.mem_of_getElem? (i := 33) rfl)
theorem pd_94 : parseMethodDescriptor "(Ljava/lang/String;I)I" = some ⟨[(.object "java/lang/String"), .int], some .int⟩ := by decide +kernel
theorem w32 {Z aw} (hw : OwnHW aw Z) : Cond.before (Jvm.Cond.static ({ cls := "dev/boundaryline/model/HeaderValue", name := "skipWhitespace", desc := "(Ljava/lang/String;I)I" } : Jvm.MethodName)) aw Z = true := hw _ (List.mem_of_getElem? (i := 32) rfl)
theorem d5_0 : decode prog_32_method_8_code 0 = .ok (.aload_n 0, 1) := by decide +kernel
theorem d5_1 : decode prog_32_method_8_code 1 = .ok (.iconst 0, 1) := by decide +kernel
theorem d5_2 : decode prog_32_method_8_code 2 = .ok (.invokestatic 34, 3) := by decide +kernel
theorem d5_5 : decode prog_32_method_8_code 5 = .ok (.istore_n 1, 1) := by decide +kernel
theorem d5_6 : decode prog_32_method_8_code 6 = .ok (.aload_n 0, 1) := by decide +kernel
theorem d5_7 : decode prog_32_method_8_code 7 = .ok (.invokevirtual 17, 3) := by decide +kernel
theorem d5_10 : decode prog_32_method_8_code 10 = .ok (.istore_n 2, 1) := by decide +kernel
theorem d5_11 : decode prog_32_method_8_code 11 = .ok (.iload_n 2, 1) := by decide +kernel
theorem d5_12 : decode prog_32_method_8_code 12 = .ok (.iload_n 1, 1) := by decide +kernel
theorem d5_13 : decode prog_32_method_8_code 13 = .ok (.if_icmp .le 22, 3) := by decide +kernel
theorem d5_16 : decode prog_32_method_8_code 16 = .ok (.aload_n 0, 1) := by decide +kernel
theorem d5_17 : decode prog_32_method_8_code 17 = .ok (.iload_n 2, 1) := by decide +kernel
theorem d5_18 : decode prog_32_method_8_code 18 = .ok (.iconst 1, 1) := by decide +kernel
theorem d5_19 : decode prog_32_method_8_code 19 = .ok (.isub, 1) := by decide +kernel
theorem d5_20 : decode prog_32_method_8_code 20 = .ok (.invokevirtual 38, 3) := by decide +kernel
theorem d5_23 : decode prog_32_method_8_code 23 = .ok (.invokestatic 119, 3) := by decide +kernel
theorem d5_26 : decode prog_32_method_8_code 26 = .ok (.ifCond .eq 9, 3) := by decide +kernel
theorem d5_29 : decode prog_32_method_8_code 29 = .ok (.iinc 2 (-1), 3) := by decide +kernel
theorem d5_32 : decode prog_32_method_8_code 32 = .ok (.goto (-21), 3) := by decide +kernel
theorem d5_35 : decode prog_32_method_8_code 35 = .ok (.aload_n 0, 1) := by decide +kernel
theorem d5_36 : decode prog_32_method_8_code 36 = .ok (.iload_n 1, 1) := by decide +kernel
theorem d5_37 : decode prog_32_method_8_code 37 = .ok (.iload_n 2, 1) := by decide +kernel
theorem d5_38 : decode prog_32_method_8_code 38 = .ok (.invokevirtual 52, 3) := by decide +kernel
theorem d5_41 : decode prog_32_method_8_code 41 = .ok (.areturn, 1) := by decide +kernel
theorem ef_rm5 (m : MethodId) (a0 : Addr) : entryFrame m #[(.ref a0)] 3 = mkF m 0 #[.val (.ref a0), .unset, .unset] [] := by first | (simp [entryFrame, mkF, argsToLocals, Value.category]; done) | rfl
def Qrm5 (Z : State) (a0 : Addr) (cs : List Int32) (zc : Int32) (fm : Value) (h0 : Heap) (n0 : Nat) (v : Option Value) (h : Heap) (L : List Loc) : Prop := Fr n0 L ∧ Keep h0 h [] ∧ ∃ r : Addr, v = some (.ref r) ∧ OwnStr Z h r (own_trim cs)
set_option maxRecDepth 65536 in
set_option maxHeartbeats 40000000 in
theorem rm5 (l : Launch) (Z : State) (aw : Array Value) (hw : ∀ d ∈ tables_1, d.before aw Z = true) (ws : List Jvm.Cond) (a0 : Addr) (cs : List Int32) (zc : Int32) (fm : Value) (h0 : Heap) (n0 : Nat) (Z0 : n0 ≤ h0.size) (h4 : cs.length ≤ 4) (S_a : OwnStr Z h0 a0 cs) (S_COMPACT_STRINGS : Sta Z h0 "java/lang/String" "COMPACT_STRINGS" "Z" (.int zc)) (hzc : ¬ zc = 0) (S_SIOOBE_FORMATTER : Sta Z h0 "jdk/internal/util/Preconditions" "SIOOBE_FORMATTER" "Ljava/util/function/BiFunction;" fm) (rf : fm.isRef = true) :
    MetFree l (⟨"dev/boundaryline/model/HeaderValue", "trim", "(Ljava/lang/String;)Ljava/lang/String;"⟩ : MethodName) (head1 (Jvm.Cond.code (⟨"dev/boundaryline/model/HeaderValue", "trim", "(Ljava/lang/String;)Ljava/lang/String;"⟩ : MethodName) prog_32_method_8_code 3 (some (.object "java/lang/String")) :: ws) ({ frames := 5, cells := 2, slots := 8, locals := 80 } : Room)) (fun a U => a = #[(.ref a0)] ∧ Z.Warmed39 U.vm ∧ U.heap = h0 ∧ CHv Z consts_1 U.vm h0 ∧ ∀ x ∈ ([] : List Addr), Safe Z consts_1 U.vm h0 x) (fun _ _ _ _ _ => True) (fun _ U o U' => ∃ v L, o = .returned v ∧ Qrm5 Z a0 cs zc fm h0 n0 v U'.heap L ∧ CHr Z consts_1 U.vm U.heap U'.vm U'.heap ∧ ReturnedEndW U o U' L ({ frames := 5, cells := 2, slots := 8, locals := 80 } : Room).cells ({ frames := 5, cells := 2, slots := 8, locals := 80 } : Room).slots) := by
  refine MetFree.of_bodySF (plainFor_of_name pn_4) hisR ?_
  intro p e s m args below meth c s₁ Bd hml0 hP hK
  obtain ⟨rfl, hZ, hh, hC0, hSf⟩ := hP
  have hx := Bd.exec
  have hby := Bd.bytes
  have hml : c.maxLocals = 3 := hml0
  have hown : s.vm.findClass "dev/boundaryline/model/HeaderValue" = some m.cls := findClass_of_methodNamed Bd.named
  have hnm := (name_of_methodNamed Bd.named Bd.method).1
  have X0 : Stand p l e ({ frames := 5, cells := 2, slots := 8, locals := 80 } : Room) s m #[(.ref a0)] below meth c s₁ [] 0 0 := Stand.of_body Bd
  have e0 : s₁.heap = h0 := by rw [← hh, Bd.state]; rfl
  have N0 := Fr.nil n0
  have hlk := Bd.notSynchronized
  show OwnGo p.tables e below _ (s₁.setTop (entryFrame m #[(.ref a0)] 3))
  rw [ef_rm5 m a0]
  have B0 := OwnB.start s h0
  have C0 := CHr.refl hC0
  have K0 : Keep h0 h0 [] := Keep.refl _ _
  obtain ⟨t_a, kb_a, E_a, V_a, C_a, K_a, hp_a, ln_a⟩ := S_a
  have f1 : Arv Z h0 t_a kb_a .byte (Int32.ofNat cs.length) (cs.map fun c => Value.int (StrChars.lo8 c)) (.int (0 : Int32)) := K_a
  have J35 : ∀ (Tj : State) (Lo : List Loc) (j : Nat) (Xj : Stand p l e ({ frames := 5, cells := 2, slots := 8, locals := 80 } : Room) s m #[(.ref a0)] below meth c Tj Lo 0 0) (ej : Tj.heap = h0) (Nj : Fr n0 Lo) (hj1 : own_skip cs ≤ j) (hj2 : j ≤ cs.length) (et : own_trim cs = (cs.take j).drop (own_skip cs)), OwnGo p.tables e below (fun o U' => ∃ v L, o = .returned v ∧ Qrm5 Z a0 cs zc fm h0 n0 v U'.heap L ∧ CHr Z consts_1 s.vm s.heap U'.vm U'.heap ∧ ReturnedEndW s o U' L ({ frames := 5, cells := 2, slots := 8, locals := 80 } : Room).cells ({ frames := 5, cells := 2, slots := 8, locals := 80 } : Room).slots) (Tj.setTop (mkF m 35 #[.val (.ref a0), .val (.int (Int32.ofNat (own_skip cs))), .val (.int (Int32.ofNat j))] [])) := by
    intro Tj Lo j Xj ej Nj hj1 hj2 et
    obtain ⟨hb1, hb2, hb3, hsame, hd0, hpart⟩ := own_prem hj1 hj2 h4
    show OwnGo p.tables e below _ (Tj.setTop (mkF m 35 #[.val (.ref a0), .val (.int (Int32.ofNat (own_skip cs))), .val (.int (Int32.ofNat j))] []))
    refine OwnGo.of (A := Tj.setTop (mkF m 35 #[.val (.ref a0), .val (.int (Int32.ofNat (own_skip cs))), .val (.int (Int32.ofNat j))] [])) (B := Tj.setTop (mkF m 38 #[.val (.ref a0), .val (.int (Int32.ofNat (own_skip cs))), .val (.int (Int32.ofNat j))] [(.int (Int32.ofNat j)), (.int (Int32.ofNat (own_skip cs))), (.ref a0)])) (fun t k => ?_) ?_
    · show Steps p.tables e below (Tj.setTop (mkF m 35 #[.val (.ref a0), .val (.int (Int32.ofNat (own_skip cs))), .val (.int (Int32.ofNat j))] [])) t
      refine XS.aloadN Xj.here hx rfl (hb hby d5_35) rfl rfl ?_
      refine XS.iloadN Xj.here hx rfl (hb hby d5_36) rfl ?_
      refine XS.iloadN Xj.here hx rfl (hb hby d5_37) rfl ?_
      exact k
    obtain ⟨cq2, kq2, q2a, q2b, q2c⟩ := isOf hZ ej E_a
    obtain ⟨s2, T2, L2, v2, X2, hQ2, B2, hZ, hown, cs2, st2⟩ := own_callVW (s := s) Xj hx (y := (⟨"java/lang/String", "substring", "(II)Ljava/lang/String;"⟩ : MethodName)) (z := (⟨"java/lang/String", "substring", "(II)Ljava/lang/String;"⟩ : MethodName)) hown (mvT hZ (w45 hw)) (mvT hZ (w46 hw)) (notFace_of_selects (args := #[]) (mvT hZ (w48 hw))) (mvT hZ (w48 hw)) (mvT hZ (w47 hw)) (by decide) hZ B0 (own_backW (W := 0) (ws := []) (rm9 l Z aw hw [] a0 (Int32.ofNat (own_skip cs)) (Int32.ofNat j) cs ((cs.take j).drop (own_skip cs)) zc fm h0 n0 Z0 ⟨_, _, E_a, V_a, C_a, f1, hp_a, ln_a⟩ S_COMPACT_STRINGS hzc S_SIOOBE_FORMATTER rf (own_ds hp_a j _) (own_dl h4 j _) hb1 hb2 hb3 hsame hd0 hpart) hZ (w49 hw) (w8 hw) (by decide) (by decide) (own_EW hw) C0.1 all0) q2a q2c (g := (mkF m 38 #[.val (.ref a0), .val (.int (Int32.ofNat (own_skip cs))), .val (.int (Int32.ofNat j))] [(.int (Int32.ofNat j)), (.int (Int32.ofNat (own_skip cs))), (.ref a0)])) rfl (by rw [hml]; rfl) (argsL := [(.int (Int32.ofNat (own_skip cs))), (.int (Int32.ofNat j))]) (rest := []) (lenOf pd_88 rfl) rfl (by show 2 * 0 + _ ≤ _; exact Nat.le_of_eq rfl) (hb hby d5_38) rfl ej (by decide) (by decide)
    obtain ⟨N2q, K2, x2, rfl, SS2⟩ := hQ2
    have f3 := Nat.le_trans Z0 K2.1
    have f4 := C0.trans cs2
    have f5 := K0.trans K2 all0
    have f6 := own_sta_keep S_COMPACT_STRINGS K2 all0
    have f7 := own_sta_keep S_SIOOBE_FORMATTER K2 all0
    have f8 := E_a.keep K2
    have f9 := C_a.keep K2 nin0
    have f10 := V_a.keep K2 nin0
    have f11 := f1.keep K2 nin0
    obtain ⟨t_m2, kb_m2, E_m2, V_m2, C_m2, K_m2, hp_m2, ln_m2⟩ := SS2
    have f12 : Arv Z T2.heap t_m2 kb_m2 .byte (Int32.ofNat ((cs.take j).drop (own_skip cs)).length) (((cs.take j).drop (own_skip cs)).map fun c => Value.int (StrChars.lo8 c)) (.int (0 : Int32)) := K_m2
    have N2 := Fr.app Nj N2q
    refine OwnGo.of st2 ?_
    show OwnGo p.tables e below _ (T2.setTop (mkF m 41 #[.val (.ref a0), .val (.int (Int32.ofNat (own_skip cs))), .val (.int (Int32.ofNat j))] [(.ref x2)]))
    obtain ⟨fs, hr, hrun, hended, hRW⟩ := own_leaveW X2 B2 rfl (v := some (.ref x2)) (fun h => by rw [Bd.returns] at h; cases h) hlk
    refine ⟨_, _, ?_, hrun, hended, _, _, rfl, ?_, own_endW X2 hZ (own_EW hw) rfl hh f4 fs, own_monoW hRW (by decide) (by decide)⟩
    · show Steps p.tables e below (T2.setTop (mkF m 41 #[.val (.ref a0), .val (.int (Int32.ofNat (own_skip cs))), .val (.int (Int32.ofNat j))] [(.ref x2)])) _
      exact own_retA X2 hx Bd.returns rfl rfl rfl (hb hby d5_41) hr
    · show Qrm5 Z a0 cs zc fm h0 n0 _ (T2.setFrames fs).heap _
      rw [show (T2.setFrames fs).heap = T2.heap from rfl]
      exact ⟨N2, f5, x2, rfl, et.symm ▸ (show OwnStr Z T2.heap x2 ((cs.take j).drop (own_skip cs)) from ⟨_, _, E_m2, V_m2, C_m2, f12, hp_m2, ln_m2⟩)⟩
  show OwnGo p.tables e below _ (s₁.setTop (mkF m 0 #[.val (.ref a0), .unset, .unset] []))
  refine OwnGo.of (A := s₁.setTop (mkF m 0 #[.val (.ref a0), .unset, .unset] [])) (B := s₁.setTop (mkF m 2 #[.val (.ref a0), .unset, .unset] [(.int (0 : Int32)), (.ref a0)])) (fun t k => ?_) ?_
  · show Steps p.tables e below (s₁.setTop (mkF m 0 #[.val (.ref a0), .unset, .unset] [])) t
    refine XS.aloadN X0.here hx rfl (hb hby d5_0) rfl rfl ?_
    refine XS.iconst X0.here hx rfl (hb hby d5_1) ?_
    exact k
  obtain ⟨T13, L13, v13, X13, hQ13, st13⟩ := own_callS X0 hx (y := (⟨"dev/boundaryline/model/HeaderValue", "skipWhitespace", "(Ljava/lang/String;I)I"⟩ : MethodName)) hown (mvT hZ (w31 hw)) (mvT hZ (w32 hw)) (mvT hZ (w29 hw)) (mvT hZ (w33 hw)) (by decide) (backOf (W := 0) (rm6 l Z aw hw [] a0 cs zc fm h0 n0 Z0 ⟨_, _, E_a, V_a, C_a, f1, hp_a, ln_a⟩ S_COMPACT_STRINGS hzc S_SIOOBE_FORMATTER rf) hZ (w33 hw) (w29 hw) (by decide) (by decide)) (g := (mkF m 2 #[.val (.ref a0), .unset, .unset] [(.int (0 : Int32)), (.ref a0)])) rfl (by rw [hml]; rfl) (argsL := [(.ref a0), (.int (0 : Int32))]) (rest := []) (lenOf pd_94 rfl) rfl (by show 2 * 0 + _ ≤ _; exact Nat.le_of_eq rfl) (hb hby d5_2) rfl e0 (by decide) (by decide)
  obtain ⟨rfl, N13q, eq13⟩ := hQ13
  have N13 := Fr.app N0 N13q
  refine OwnGo.of st13 ?_
  show OwnGo p.tables e below _ (T13.setTop (mkF m 5 #[.val (.ref a0), .unset, .unset] [(.int (Int32.ofNat (own_skip cs)))]))
  refine OwnGo.of (A := T13.setTop (mkF m 5 #[.val (.ref a0), .unset, .unset] [(.int (Int32.ofNat (own_skip cs)))])) (B := T13.setTop (mkF m 7 #[.val (.ref a0), .val (.int (Int32.ofNat (own_skip cs))), .unset] [(.ref a0)])) (fun t k => ?_) ?_
  · show Steps p.tables e below (T13.setTop (mkF m 5 #[.val (.ref a0), .unset, .unset] [(.int (Int32.ofNat (own_skip cs)))])) t
    refine XS.istoreN X13.here hx rfl (hb hby d5_5) rfl (l' := #[.val (.ref a0), .val (.int (Int32.ofNat (own_skip cs))), .unset]) rfl ?_
    refine XS.aloadN X13.here hx rfl (hb hby d5_6) rfl rfl ?_
    exact k
  obtain ⟨cq14, kq14, q14a, q14b, q14c⟩ := isOf hZ eq13 E_a
  obtain ⟨T14, L14, v14, X14, hQ14, st14⟩ := own_callV (Q := fun v H L => v = some (.int (Int32.ofNat cs.length)) ∧ L = [] ∧ H = h0) (rc := 0) (rs := 0) X13 hx (y := (⟨"java/lang/String", "length", "()I"⟩ : MethodName)) (z := (⟨"java/lang/String", "length", "()I"⟩ : MethodName)) hown (mvT hZ (w34 hw)) (mvT hZ (w35 hw)) (notFace_of_selects (args := #[]) (mvT hZ (w37 hw))) (mvT hZ (w37 hw)) (mvT hZ (w36 hw)) (by decide) (StrChars.Road.lenW (W := 0) hZ (own_wL hw) (kI := 4) (w7 hw) (cs := cs) E_a V_a C_a f1 (own_cod hp_a) (own_up hp_a) S_COMPACT_STRINGS hzc ln_a (by decide) (by decide)) q14a q14c (g := (mkF m 7 #[.val (.ref a0), .val (.int (Int32.ofNat (own_skip cs))), .unset] [(.ref a0)])) rfl (by rw [hml]; rfl) (argsL := []) (rest := []) (lenOf pd_9 rfl) rfl (by show 2 * 0 + _ ≤ _; exact Nat.le_of_eq rfl) (hb hby d5_7) rfl eq13 (by decide) (by decide)
  obtain ⟨hv14, rfl, eq14⟩ := hQ14
  have hw14 : v14 = some (.int (Int32.ofNat cs.length)) := hv14
  subst hw14
  have N14q : Fr n0 ([] : List Loc) := Fr.nil n0
  have N14 := Fr.app N13 N14q
  refine OwnGo.of st14 ?_
  show OwnGo p.tables e below _ (T14.setTop (mkF m 10 #[.val (.ref a0), .val (.int (Int32.ofNat (own_skip cs))), .unset] [(.int (Int32.ofNat cs.length))]))
  refine OwnGo.of (A := T14.setTop (mkF m 10 #[.val (.ref a0), .val (.int (Int32.ofNat (own_skip cs))), .unset] [(.int (Int32.ofNat cs.length))])) (B := T14.setTop (mkF m 11 #[.val (.ref a0), .val (.int (Int32.ofNat (own_skip cs))), .val (.int (Int32.ofNat cs.length))] [])) (fun t k => ?_) ?_
  · show Steps p.tables e below (T14.setTop (mkF m 10 #[.val (.ref a0), .val (.int (Int32.ofNat (own_skip cs))), .unset] [(.int (Int32.ofNat cs.length))])) t
    refine XS.istoreN X14.here hx rfl (hb hby d5_10) rfl (l' := #[.val (.ref a0), .val (.int (Int32.ofNat (own_skip cs))), .val (.int (Int32.ofNat cs.length))]) rfl ?_
    exact k
  have loop : ∀ (r : Nat) (Tj : State) (Lo : List Loc) (Xj : Stand p l e ({ frames := 5, cells := 2, slots := 8, locals := 80 } : Room) s m #[(.ref a0)] below meth c Tj Lo 0 0) (ej : Tj.heap = h0) (Nj : Fr n0 Lo) (hr : own_skip cs + r ≤ cs.length) (ht : own_trim cs = own_rt ((cs.take (own_skip cs + r)).drop (own_skip cs))), OwnGo p.tables e below (fun o U' => ∃ v L, o = .returned v ∧ Qrm5 Z a0 cs zc fm h0 n0 v U'.heap L ∧ CHr Z consts_1 s.vm s.heap U'.vm U'.heap ∧ ReturnedEndW s o U' L ({ frames := 5, cells := 2, slots := 8, locals := 80 } : Room).cells ({ frames := 5, cells := 2, slots := 8, locals := 80 } : Room).slots) (Tj.setTop (mkF m 11 #[.val (.ref a0), .val (.int (Int32.ofNat (own_skip cs))), .val (.int (Int32.ofNat (own_skip cs + r)))] [])) := by
    intro r
    induction r with
    | zero =>
      intro Tj Lo Xj ej Nj hr ht
      show OwnGo p.tables e below _ (Tj.setTop (mkF m 11 #[.val (.ref a0), .val (.int (Int32.ofNat (own_skip cs))), .val (.int (Int32.ofNat (own_skip cs + 0)))] []))
      refine OwnGo.of (A := Tj.setTop (mkF m 11 #[.val (.ref a0), .val (.int (Int32.ofNat (own_skip cs))), .val (.int (Int32.ofNat (own_skip cs + 0)))] [])) (B := Tj.setTop (mkF m 13 #[.val (.ref a0), .val (.int (Int32.ofNat (own_skip cs))), .val (.int (Int32.ofNat (own_skip cs + 0)))] [(.int (Int32.ofNat (own_skip cs))), (.int (Int32.ofNat (own_skip cs + 0)))])) (fun t k => ?_) ?_
      · show Steps p.tables e below (Tj.setTop (mkF m 11 #[.val (.ref a0), .val (.int (Int32.ofNat (own_skip cs))), .val (.int (Int32.ofNat (own_skip cs + 0)))] [])) t
        refine XS.iloadN Xj.here hx rfl (hb hby d5_11) rfl ?_
        refine XS.iloadN Xj.here hx rfl (hb hby d5_12) rfl ?_
        exact k
      have hc15 : ¬ ((Int32.ofNat (own_skip cs)) < (Int32.ofNat (own_skip cs + 0))) := own_irr (i := own_skip cs) rfl
      refine OwnGo.of (A := Tj.setTop (mkF m 13 #[.val (.ref a0), .val (.int (Int32.ofNat (own_skip cs))), .val (.int (Int32.ofNat (own_skip cs + 0)))] [(.int (Int32.ofNat (own_skip cs))), (.int (Int32.ofNat (own_skip cs + 0)))])) (B := Tj.setTop (mkF m 35 #[.val (.ref a0), .val (.int (Int32.ofNat (own_skip cs))), .val (.int (Int32.ofNat (own_skip cs + 0)))] [])) (fun t k => ?_) ?_
      · show Steps p.tables e below (Tj.setTop (mkF m 13 #[.val (.ref a0), .val (.int (Int32.ofNat (own_skip cs))), .val (.int (Int32.ofNat (own_skip cs + 0)))] [(.int (Int32.ofNat (own_skip cs))), (.int (Int32.ofNat (own_skip cs + 0)))])) t
        refine XS.icmpYes Xj.here hx rfl (pc0 := 13) (pc' := 35) rfl (hb hby d5_13) rfl (flt hc15).2.2.2 (by decide) (by decide) ?_
        exact k
      exact J35 Tj _ (own_skip cs + 0) Xj ej Nj (by omega) (by omega) (own_t0 ht)
    | succ r ih =>
      intro Tj Lo Xj ej Nj hr ht
      show OwnGo p.tables e below _ (Tj.setTop (mkF m 11 #[.val (.ref a0), .val (.int (Int32.ofNat (own_skip cs))), .val (.int (Int32.ofNat (own_skip cs + (r + 1))))] []))
      refine OwnGo.of (A := Tj.setTop (mkF m 11 #[.val (.ref a0), .val (.int (Int32.ofNat (own_skip cs))), .val (.int (Int32.ofNat (own_skip cs + (r + 1))))] [])) (B := Tj.setTop (mkF m 13 #[.val (.ref a0), .val (.int (Int32.ofNat (own_skip cs))), .val (.int (Int32.ofNat (own_skip cs + (r + 1))))] [(.int (Int32.ofNat (own_skip cs))), (.int (Int32.ofNat (own_skip cs + (r + 1))))])) (fun t k => ?_) ?_
      · show Steps p.tables e below (Tj.setTop (mkF m 11 #[.val (.ref a0), .val (.int (Int32.ofNat (own_skip cs))), .val (.int (Int32.ofNat (own_skip cs + (r + 1))))] [])) t
        refine XS.iloadN Xj.here hx rfl (hb hby d5_11) rfl ?_
        refine XS.iloadN Xj.here hx rfl (hb hby d5_12) rfl ?_
        exact k
      have hc16 : (Int32.ofNat (own_skip cs)) < (Int32.ofNat (own_skip cs + (r + 1))) := own_ofltN (by omega) (by omega)
      refine OwnGo.of (A := Tj.setTop (mkF m 13 #[.val (.ref a0), .val (.int (Int32.ofNat (own_skip cs))), .val (.int (Int32.ofNat (own_skip cs + (r + 1))))] [(.int (Int32.ofNat (own_skip cs))), (.int (Int32.ofNat (own_skip cs + (r + 1))))])) (B := Tj.setTop (mkF m 20 #[.val (.ref a0), .val (.int (Int32.ofNat (own_skip cs))), .val (.int (Int32.ofNat (own_skip cs + (r + 1))))] [(.int ((Int32.ofNat (own_skip cs + (r + 1))) - (1 : Int32))), (.ref a0)])) (fun t k => ?_) ?_
      · show Steps p.tables e below (Tj.setTop (mkF m 13 #[.val (.ref a0), .val (.int (Int32.ofNat (own_skip cs))), .val (.int (Int32.ofNat (own_skip cs + (r + 1))))] [(.int (Int32.ofNat (own_skip cs))), (.int (Int32.ofNat (own_skip cs + (r + 1))))])) t
        refine XS.icmpNo Xj.here hx rfl (hb hby d5_13) rfl (tlt hc16).2.2.2 ?_
        refine XS.aloadN Xj.here hx rfl (hb hby d5_16) rfl rfl ?_
        refine XS.iloadN Xj.here hx rfl (hb hby d5_17) rfl ?_
        refine XS.iconst Xj.here hx rfl (hb hby d5_18) ?_
        refine XS.isub Xj.here hx rfl (hb hby d5_19) rfl ?_
        exact k
      obtain ⟨cq17, kq17, q17a, q17b, q17c⟩ := isOf hZ ej E_a
      obtain ⟨T17, L17, v17, X17, hQ17, st17⟩ := own_callV (Q := fun v H L => v = some (.int (cs.getD (own_skip cs + r) 0)) ∧ L = [] ∧ H = h0) (rc := 0) (rs := 0) Xj hx (y := (⟨"java/lang/String", "charAt", "(I)C"⟩ : MethodName)) (z := (⟨"java/lang/String", "charAt", "(I)C"⟩ : MethodName)) hown (mvT hZ (w76 hw)) (mvT hZ (w77 hw)) (notFace_of_selects (args := #[]) (mvT hZ (w79 hw))) (mvT hZ (w79 hw)) (mvT hZ (w78 hw)) (by decide) (StrChars.Road.chN (W := 0) hZ (own_wC hw) (kI := 4) (w7 hw) (cs := cs) (i := (own_skip cs + r)) E_a V_a C_a f1 (own_cod hp_a) (own_up hp_a) S_COMPACT_STRINGS hzc S_SIOOBE_FORMATTER rf ln_a (by omega) (own_dec1 _ _) (by decide) (by decide)) q17a q17c (g := (mkF m 20 #[.val (.ref a0), .val (.int (Int32.ofNat (own_skip cs))), .val (.int (Int32.ofNat (own_skip cs + (r + 1))))] [(.int ((Int32.ofNat (own_skip cs + (r + 1))) - (1 : Int32))), (.ref a0)])) rfl (by rw [hml]; rfl) (argsL := [(.int ((Int32.ofNat (own_skip cs + (r + 1))) - (1 : Int32)))]) (rest := []) (lenOf pd_15 rfl) rfl (by show 2 * 0 + _ ≤ _; exact Nat.le_of_eq rfl) (hb hby d5_20) rfl ej (by decide) (by decide)
      obtain ⟨hv17, rfl, eq17⟩ := hQ17
      have hw17 : v17 = some (.int (cs.getD (own_skip cs + r) 0)) := hv17
      subst hw17
      have N17q : Fr n0 ([] : List Loc) := Fr.nil n0
      have N17 := Fr.app Nj N17q
      refine OwnGo.of st17 ?_
      show OwnGo p.tables e below _ (T17.setTop (mkF m 23 #[.val (.ref a0), .val (.int (Int32.ofNat (own_skip cs))), .val (.int (Int32.ofNat (own_skip cs + (r + 1))))] [(.int (cs.getD (own_skip cs + r) 0))]))
      obtain ⟨T18, L18, v18, X18, hQ18, st18⟩ := own_callS X17 hx (y := (⟨"dev/boundaryline/model/HeaderValue", "isWhitespace", "(C)Z"⟩ : MethodName)) hown (mvT hZ (w96 hw)) (mvT hZ (w97 hw)) (mvT hZ (w29 hw)) (mvT hZ (w98 hw)) (by decide) (backOf (W := 0) (rm22 l Z aw hw [] (cs.getD (own_skip cs + r) 0)  h0 n0 Z0 ) hZ (w98 hw) (w29 hw) (by decide) (by decide)) (g := (mkF m 23 #[.val (.ref a0), .val (.int (Int32.ofNat (own_skip cs))), .val (.int (Int32.ofNat (own_skip cs + (r + 1))))] [(.int (cs.getD (own_skip cs + r) 0))])) rfl (by rw [hml]; rfl) (argsL := [(.int (cs.getD (own_skip cs + r) 0))]) (rest := []) (lenOf pd_22 rfl) rfl (by show 2 * 0 + _ ≤ _; exact Nat.le_of_eq rfl) (hb hby d5_23) rfl eq17 (by decide) (by decide)
      obtain ⟨rfl, N18q, eq18⟩ := hQ18
      have N18 := Fr.app N17 N18q
      refine OwnGo.of st18 ?_
      show OwnGo p.tables e below _ (T18.setTop (mkF m 26 #[.val (.ref a0), .val (.int (Int32.ofNat (own_skip cs))), .val (.int (Int32.ofNat (own_skip cs + (r + 1))))] [(.int (own_w (cs.getD (own_skip cs + r) 0)))]))
      by_cases hc19 : (own_w (cs.getD (own_skip cs + r) 0)) = (0 : Int32)
      · have ew20 : own_wb (cs.getD (own_skip cs + r) 0) = false := own_wF hc19
        refine OwnGo.of (A := T18.setTop (mkF m 26 #[.val (.ref a0), .val (.int (Int32.ofNat (own_skip cs))), .val (.int (Int32.ofNat (own_skip cs + (r + 1))))] [(.int (own_w (cs.getD (own_skip cs + r) 0)))])) (B := T18.setTop (mkF m 35 #[.val (.ref a0), .val (.int (Int32.ofNat (own_skip cs))), .val (.int (Int32.ofNat (own_skip cs + (r + 1))))] [])) (fun t k => ?_) ?_
        · show Steps p.tables e below (T18.setTop (mkF m 26 #[.val (.ref a0), .val (.int (Int32.ofNat (own_skip cs))), .val (.int (Int32.ofNat (own_skip cs + (r + 1))))] [(.int (own_w (cs.getD (own_skip cs + r) 0)))])) t
          refine XS.ifYes X18.here hx rfl (pc0 := 26) (pc' := 35) rfl (hb hby d5_26) rfl ((if0 _ _).trans (teq hc19).1) (by decide) (by decide) ?_
          exact k
        exact J35 T18 _ (own_skip cs + (r + 1)) X18 eq18 N18 (by omega) (by omega) (own_tF hr ew20 ht)
      · have ew21 : own_wb (cs.getD (own_skip cs + r) 0) = true := own_wT hc19
        refine OwnGo.of (A := T18.setTop (mkF m 26 #[.val (.ref a0), .val (.int (Int32.ofNat (own_skip cs))), .val (.int (Int32.ofNat (own_skip cs + (r + 1))))] [(.int (own_w (cs.getD (own_skip cs + r) 0)))])) (B := T18.setTop (mkF m 11 #[.val (.ref a0), .val (.int (Int32.ofNat (own_skip cs))), .val (.int ((Int32.ofNat (own_skip cs + (r + 1))) + (-1 : Int32)))] [])) (fun t k => ?_) ?_
        · show Steps p.tables e below (T18.setTop (mkF m 26 #[.val (.ref a0), .val (.int (Int32.ofNat (own_skip cs))), .val (.int (Int32.ofNat (own_skip cs + (r + 1))))] [(.int (own_w (cs.getD (own_skip cs + r) 0)))])) t
          refine XS.ifNo X18.here hx rfl (hb hby d5_26) rfl ((if0 _ _).trans (feq hc19).1) ?_
          refine XS.iinc X18.here hx rfl (hb hby d5_29) rfl (l' := #[.val (.ref a0), .val (.int (Int32.ofNat (own_skip cs))), .val (.int ((Int32.ofNat (own_skip cs + (r + 1))) + (-1 : Int32)))]) rfl ?_
          refine XS.goto X18.here hx rfl (pc0 := 32) (pc' := 11) rfl (hb hby d5_32) (by decide) (by decide) ?_
          exact k
        rw [own_dec]
        exact ih T18 _ X18 eq18 N18 (by omega) (own_tT hr ew21 ht)
  have hkl := own_skip_le cs
  have loop2 := loop (cs.length - own_skip cs) T14 _ X14 eq14 N14 (by omega) (by rw [show own_skip cs + (cs.length - own_skip cs) = cs.length from by omega]; exact own_trim0 cs)
  rw [show own_skip cs + (cs.length - own_skip cs) = cs.length from by omega] at loop2
  exact loop2

def OwnSame (k0 k1 k2 k3 st : Int32) (ds : List Int32) (j : Nat) : Prop := Int32.ofNat j < Int32.ofNat ds.length → (st + Int32.ofNat j = 0 ∧ ds.getD j 0 = k0) ∨ (st + Int32.ofNat j = 1 ∧ ds.getD j 0 = k1) ∨ (st + Int32.ofNat j = 2 ∧ ds.getD j 0 = k2) ∨ (st + Int32.ofNat j = 3 ∧ ds.getD j 0 = k3)
theorem own_ltj {j : Nat} {ds : List Int32} (hj : j ≤ 4) (h : Int32.ofNat j < Int32.ofNat ds.length) (hl : ds.length ≤ 4000) : j < ds.length := by
  rw [Int32.lt_iff_toInt_lt, Int32.toInt_ofNat_of_lt (by omega), Int32.toInt_ofNat_of_lt (by omega)] at h; omega

theorem w59 {Z aw} (hw : OwnHW aw Z) : Cond.before (Jvm.Cond.methodLink "dev/boundaryline/model/HeaderValueTrimPinLaw" (7 : Nat) ({ cls := "java/lang/String", name := "length", desc := "()I" } : Jvm.MethodName)) aw Z = true := hw _ (List.mem_of_getElem? (i := 59) rfl)
theorem w124 {Z aw} (hw : OwnHW aw Z) : Cond.before (Jvm.Cond.methodLink "dev/boundaryline/model/HeaderValueTrimPinLaw" (13 : Nat) ({ cls := "java/lang/String", name := "charAt", desc := "(I)C" } : Jvm.MethodName)) aw Z = true := hw _ (List.mem_of_getElem? (i := 124) rfl)
theorem d12_0 : decode method_4_code 0 = .ok (.iload_n 3, 1) := by decide +kernel
theorem d12_1 : decode method_4_code 1 = .ok (.aload_n 0, 1) := by decide +kernel
theorem d12_2 : decode method_4_code 2 = .ok (.invokevirtual 7, 3) := by decide +kernel
theorem d12_5 : decode method_4_code 5 = .ok (.if_icmp .lt 5, 3) := by decide +kernel
theorem d12_8 : decode method_4_code 8 = .ok (.iconst 1, 1) := by decide +kernel
theorem d12_9 : decode method_4_code 9 = .ok (.ireturn, 1) := by decide +kernel
theorem d12_10 : decode method_4_code 10 = .ok (.aload_n 0, 1) := by decide +kernel
theorem d12_11 : decode method_4_code 11 = .ok (.iload_n 3, 1) := by decide +kernel
theorem d12_12 : decode method_4_code 12 = .ok (.invokevirtual 13, 3) := by decide +kernel
theorem d12_15 : decode method_4_code 15 = .ok (.aload_n 1, 1) := by decide +kernel
theorem d12_16 : decode method_4_code 16 = .ok (.iload_n 2, 1) := by decide +kernel
theorem d12_17 : decode method_4_code 17 = .ok (.iload_n 3, 1) := by decide +kernel
theorem d12_18 : decode method_4_code 18 = .ok (.iadd, 1) := by decide +kernel
theorem d12_19 : decode method_4_code 19 = .ok (.caload, 1) := by decide +kernel
theorem d12_20 : decode method_4_code 20 = .ok (.if_icmp .ne 7, 3) := by decide +kernel
theorem d12_23 : decode method_4_code 23 = .ok (.iconst 1, 1) := by decide +kernel
theorem d12_24 : decode method_4_code 24 = .ok (.goto 4, 3) := by decide +kernel
theorem d12_28 : decode method_4_code 28 = .ok (.ireturn, 1) := by decide +kernel
theorem ef_rm12 (m : MethodId) (a0 : Addr) (a1 : Addr) (p2 : Int32) (j : Nat) : entryFrame m #[(.ref a0), (.ref a1), (.int p2), (.int (Int32.ofNat j))] 4 = mkF m 0 #[.val (.ref a0), .val (.ref a1), .val (.int p2), .val (.int (Int32.ofNat j))] [] := by first | (simp [entryFrame, mkF, argsToLocals, Value.category]; done) | rfl
def Qrm12 (Z : State) (a0 : Addr) (a1 : Addr) (p2 : Int32) (j : Nat) (ds : List Int32) (k0 : Int32) (k1 : Int32) (k2 : Int32) (k3 : Int32) (ka : ClassId) (zc : Int32) (fm : Value) (h0 : Heap) (n0 : Nat) (v : Option Value) (h : Heap) (L : List Loc) : Prop := v = some (.int (1 : Int32)) ∧ Fr n0 L ∧ h = h0
set_option maxRecDepth 65536 in
set_option maxHeartbeats 40000000 in
theorem rm12 (l : Launch) (Z : State) (aw : Array Value) (hw : ∀ d ∈ tables_1, d.before aw Z = true) (ws : List Jvm.Cond) (a0 : Addr) (a1 : Addr) (p2 : Int32) (j : Nat) (ds : List Int32) (k0 : Int32) (k1 : Int32) (k2 : Int32) (k3 : Int32) (ka : ClassId) (zc : Int32) (fm : Value) (h0 : Heap) (n0 : Nat) (Z0 : n0 ≤ h0.size) (hj : j ≤ 4) (S_a : OwnStr Z h0 a0 ds) (V_k : Arv Z h0 a1 ka .char (4 : Int32) [(.int k0), (.int k1), (.int k2), (.int k3)] (.int (0 : Int32))) (hs : OwnSame k0 k1 k2 k3 p2 ds j) (S_COMPACT_STRINGS : Sta Z h0 "java/lang/String" "COMPACT_STRINGS" "Z" (.int zc)) (hzc : ¬ zc = 0) (S_SIOOBE_FORMATTER : Sta Z h0 "jdk/internal/util/Preconditions" "SIOOBE_FORMATTER" "Ljava/util/function/BiFunction;" fm) (rf : fm.isRef = true) :
    MetFree l (⟨"dev/boundaryline/model/HeaderValueTrimPinLaw", "same", "(Ljava/lang/String;[CII)Z"⟩ : MethodName) (head1 (Jvm.Cond.code (⟨"dev/boundaryline/model/HeaderValueTrimPinLaw", "same", "(Ljava/lang/String;[CII)Z"⟩ : MethodName) method_4_code 4 (some .boolean) :: ws) ({ frames := 4, cells := 0, slots := 0, locals := 53 } : Room)) (fun a U => a = #[(.ref a0), (.ref a1), (.int p2), (.int (Int32.ofNat j))] ∧ Z.Warmed39 U.vm ∧ U.heap = h0) (fun _ _ _ _ _ => True) (fun _ U o U' => ∃ v L, o = .returned v ∧ Qrm12 Z a0 a1 p2 j ds k0 k1 k2 k3 ka zc fm h0 n0 v U'.heap L ∧ FrameEnd U o U' L ({ frames := 4, cells := 0, slots := 0, locals := 53 } : Room).cells ({ frames := 4, cells := 0, slots := 0, locals := 53 } : Room).slots) := by
  refine MetFree.of_bodySF (plainFor_of_name pn_5) hisR ?_
  intro p e s m args below meth c s₁ Bd hml0 hP hK
  obtain ⟨rfl, hZ, hh⟩ := hP
  have hx := Bd.exec
  have hby := Bd.bytes
  have hml : c.maxLocals = 4 := hml0
  have hown : s.vm.findClass "dev/boundaryline/model/HeaderValueTrimPinLaw" = some m.cls := findClass_of_methodNamed Bd.named
  have hnm := (name_of_methodNamed Bd.named Bd.method).1
  have X0 : Stand p l e ({ frames := 4, cells := 0, slots := 0, locals := 53 } : Room) s m #[(.ref a0), (.ref a1), (.int p2), (.int (Int32.ofNat j))] below meth c s₁ [] 0 0 := Stand.of_body Bd
  have e0 : s₁.heap = h0 := by rw [← hh, Bd.state]; rfl
  have N0 := Fr.nil n0
  have hlk := Bd.notSynchronized
  show OwnGo p.tables e below _ (s₁.setTop (entryFrame m #[(.ref a0), (.ref a1), (.int p2), (.int (Int32.ofNat j))] 4))
  rw [ef_rm12 m a0 a1 p2 j]
  obtain ⟨t_a, kb_a, E_a, V_a, C_a, K_a, hp_a, ln_a⟩ := S_a
  have f1 : Arv Z h0 t_a kb_a .byte (Int32.ofNat ds.length) (ds.map fun c => Value.int (StrChars.lo8 c)) (.int (0 : Int32)) := K_a
  show OwnGo p.tables e below _ (s₁.setTop (mkF m 0 #[.val (.ref a0), .val (.ref a1), .val (.int p2), .val (.int (Int32.ofNat j))] []))
  refine OwnGo.of (A := s₁.setTop (mkF m 0 #[.val (.ref a0), .val (.ref a1), .val (.int p2), .val (.int (Int32.ofNat j))] [])) (B := s₁.setTop (mkF m 2 #[.val (.ref a0), .val (.ref a1), .val (.int p2), .val (.int (Int32.ofNat j))] [(.ref a0), (.int (Int32.ofNat j))])) (fun t k => ?_) ?_
  · show Steps p.tables e below (s₁.setTop (mkF m 0 #[.val (.ref a0), .val (.ref a1), .val (.int p2), .val (.int (Int32.ofNat j))] [])) t
    refine XS.iloadN X0.here hx rfl (hb hby d12_0) rfl ?_
    refine XS.aloadN X0.here hx rfl (hb hby d12_1) rfl rfl ?_
    exact k
  obtain ⟨cq2, kq2, q2a, q2b, q2c⟩ := isOf hZ e0 E_a
  obtain ⟨T2, L2, v2, X2, hQ2, st2⟩ := own_callV (Q := fun v H L => v = some (.int (Int32.ofNat ds.length)) ∧ L = [] ∧ H = h0) (rc := 0) (rs := 0) X0 hx (y := (⟨"java/lang/String", "length", "()I"⟩ : MethodName)) (z := (⟨"java/lang/String", "length", "()I"⟩ : MethodName)) hown (mvT hZ (w59 hw)) (mvT hZ (w35 hw)) (notFace_of_selects (args := #[]) (mvT hZ (w37 hw))) (mvT hZ (w37 hw)) (mvT hZ (w36 hw)) (by decide) (StrChars.Road.lenW (W := 1) hZ (own_wL hw) (kI := 4) (w7 hw) (cs := ds) E_a V_a C_a f1 (own_cod hp_a) (own_up hp_a) S_COMPACT_STRINGS hzc ln_a (by decide) (by decide)) q2a q2c (g := (mkF m 2 #[.val (.ref a0), .val (.ref a1), .val (.int p2), .val (.int (Int32.ofNat j))] [(.ref a0), (.int (Int32.ofNat j))])) rfl (by rw [hml]; rfl) (argsL := []) (rest := [(.int (Int32.ofNat j))]) (lenOf pd_9 rfl) rfl (by show 2 * 0 + _ ≤ _; exact Nat.le_of_eq rfl) (hb hby d12_2) rfl e0 (by decide) (by decide)
  obtain ⟨hv2, rfl, eq2⟩ := hQ2
  have hw2 : v2 = some (.int (Int32.ofNat ds.length)) := hv2
  subst hw2
  have N2q : Fr n0 ([] : List Loc) := Fr.nil n0
  have N2 := Fr.app N0 N2q
  refine OwnGo.of st2 ?_
  show OwnGo p.tables e below _ (T2.setTop (mkF m 5 #[.val (.ref a0), .val (.ref a1), .val (.int p2), .val (.int (Int32.ofNat j))] [(.int (Int32.ofNat ds.length)), (.int (Int32.ofNat j))]))
  by_cases hc3 : (Int32.ofNat j) < (Int32.ofNat ds.length)
  · have hi : j < ds.length := own_ltj hj hc3 ln_a
    refine OwnGo.of (A := T2.setTop (mkF m 5 #[.val (.ref a0), .val (.ref a1), .val (.int p2), .val (.int (Int32.ofNat j))] [(.int (Int32.ofNat ds.length)), (.int (Int32.ofNat j))])) (B := T2.setTop (mkF m 12 #[.val (.ref a0), .val (.ref a1), .val (.int p2), .val (.int (Int32.ofNat j))] [(.int (Int32.ofNat j)), (.ref a0)])) (fun t k => ?_) ?_
    · show Steps p.tables e below (T2.setTop (mkF m 5 #[.val (.ref a0), .val (.ref a1), .val (.int p2), .val (.int (Int32.ofNat j))] [(.int (Int32.ofNat ds.length)), (.int (Int32.ofNat j))])) t
      refine XS.icmpYes X2.here hx rfl (pc0 := 5) (pc' := 10) rfl (hb hby d12_5) rfl (tlt hc3).1 (by decide) (by decide) ?_
      refine XS.aloadN X2.here hx rfl (hb hby d12_10) rfl rfl ?_
      refine XS.iloadN X2.here hx rfl (hb hby d12_11) rfl ?_
      exact k
    obtain ⟨cq4, kq4, q4a, q4b, q4c⟩ := isOf hZ eq2 E_a
    obtain ⟨T4, L4, v4, X4, hQ4, st4⟩ := own_callV (Q := fun v H L => v = some (.int (ds.getD j 0)) ∧ L = [] ∧ H = h0) (rc := 0) (rs := 0) X2 hx (y := (⟨"java/lang/String", "charAt", "(I)C"⟩ : MethodName)) (z := (⟨"java/lang/String", "charAt", "(I)C"⟩ : MethodName)) hown (mvT hZ (w124 hw)) (mvT hZ (w77 hw)) (notFace_of_selects (args := #[]) (mvT hZ (w79 hw))) (mvT hZ (w79 hw)) (mvT hZ (w78 hw)) (by decide) (StrChars.Road.chN (W := 0) hZ (own_wC hw) (kI := 4) (w7 hw) (cs := ds) (i := j) E_a V_a C_a f1 (own_cod hp_a) (own_up hp_a) S_COMPACT_STRINGS hzc S_SIOOBE_FORMATTER rf ln_a hi rfl (by decide) (by decide)) q4a q4c (g := (mkF m 12 #[.val (.ref a0), .val (.ref a1), .val (.int p2), .val (.int (Int32.ofNat j))] [(.int (Int32.ofNat j)), (.ref a0)])) rfl (by rw [hml]; rfl) (argsL := [(.int (Int32.ofNat j))]) (rest := []) (lenOf pd_15 rfl) rfl (by show 2 * 0 + _ ≤ _; exact Nat.le_of_eq rfl) (hb hby d12_12) rfl eq2 (by decide) (by decide)
    obtain ⟨hv4, rfl, eq4⟩ := hQ4
    have hw4 : v4 = some (.int (ds.getD j 0)) := hv4
    subst hw4
    have N4q : Fr n0 ([] : List Loc) := Fr.nil n0
    have N4 := Fr.app N2 N4q
    refine OwnGo.of st4 ?_
    show OwnGo p.tables e below _ (T4.setTop (mkF m 15 #[.val (.ref a0), .val (.ref a1), .val (.int p2), .val (.int (Int32.ofNat j))] [(.int (ds.getD j 0))]))
    refine OwnGo.of (A := T4.setTop (mkF m 15 #[.val (.ref a0), .val (.ref a1), .val (.int p2), .val (.int (Int32.ofNat j))] [(.int (ds.getD j 0))])) (B := T4.setTop (mkF m 19 #[.val (.ref a0), .val (.ref a1), .val (.int p2), .val (.int (Int32.ofNat j))] [(.int (p2 + (Int32.ofNat j))), (.ref a1), (.int (ds.getD j 0))])) (fun t k => ?_) ?_
    · show Steps p.tables e below (T4.setTop (mkF m 15 #[.val (.ref a0), .val (.ref a1), .val (.int p2), .val (.int (Int32.ofNat j))] [(.int (ds.getD j 0))])) t
      refine XS.aloadN X4.here hx rfl (hb hby d12_15) rfl rfl ?_
      refine XS.iloadN X4.here hx rfl (hb hby d12_16) rfl ?_
      refine XS.iloadN X4.here hx rfl (hb hby d12_17) rfl ?_
      refine XS.iadd X4.here hx rfl (hb hby d12_18) rfl ?_
      exact k
    rcases hs hc3 with ⟨hx1, hx2⟩ | ⟨hx1, hx2⟩ | ⟨hx1, hx2⟩ | ⟨hx1, hx2⟩
    · rw [hx1]
      show OwnGo p.tables e below _ (T4.setTop (mkF m 19 #[.val (.ref a0), .val (.ref a1), .val (.int p2), .val (.int (Int32.ofNat j))] [(.int (0 : Int32)), (.ref a1), (.int (ds.getD j 0))]))
      have cq5 := V_k
      obtain ⟨clq5, Arq5, qq5, Sq5, Nq5, Hq5, Gq5⟩ := cq5
      have hinq5 := inb_of (j := (0 : Int32)) Sq5 ⟨by decide, by decide⟩
      refine OwnGo.of (X4.caload hx (j := (0 : Int32)) (v := (.int k0)) (by rw [eq4]; exact Arq5.1) (State.isArrayOf_alike hZ.alike Arq5.2.1) Arq5.2.2 hinq5 (Hq5.at hinq5 rfl) (g := (mkF m 19 #[.val (.ref a0), .val (.ref a1), .val (.int p2), .val (.int (Int32.ofNat j))] [(.int (0 : Int32)), (.ref a1), (.int (ds.getD j 0))])) rfl rfl (hb hby d12_19)) ?_
      show OwnGo p.tables e below _ (T4.setTop (mkF m 20 #[.val (.ref a0), .val (.ref a1), .val (.int p2), .val (.int (Int32.ofNat j))] [(.int k0), (.int (ds.getD j 0))]))
      have hc6 : (ds.getD j 0) = k0 := hx2
      refine OwnGo.of (A := T4.setTop (mkF m 20 #[.val (.ref a0), .val (.ref a1), .val (.int p2), .val (.int (Int32.ofNat j))] [(.int k0), (.int (ds.getD j 0))])) (B := T4.setTop (mkF m 28 #[.val (.ref a0), .val (.ref a1), .val (.int p2), .val (.int (Int32.ofNat j))] [(.int (1 : Int32))])) (fun t k => ?_) ?_
      · show Steps p.tables e below (T4.setTop (mkF m 20 #[.val (.ref a0), .val (.ref a1), .val (.int p2), .val (.int (Int32.ofNat j))] [(.int k0), (.int (ds.getD j 0))])) t
        refine XS.icmpNo X4.here hx rfl (hb hby d12_20) rfl (teq hc6).2 ?_
        refine XS.iconst X4.here hx rfl (hb hby d12_23) ?_
        refine XS.goto X4.here hx rfl (pc0 := 24) (pc' := 28) rfl (hb hby d12_24) (by decide) (by decide) ?_
        exact k
      obtain ⟨fs, hr, hrun, hended, hW, hsame⟩ := X4.leave (v := some (.int (nar .boolean (1 : Int32)))) (fun h => by rw [Bd.returns] at h; cases h) hlk
      refine ⟨_, _, ?_, hrun, hended, _, _, rfl, ?_, ⟨_, rfl⟩, hW, hsame.mono (by decide) (by decide)⟩
      · show Steps p.tables e below (T4.setTop (mkF m 28 #[.val (.ref a0), .val (.ref a1), .val (.int p2), .val (.int (Int32.ofNat j))] [(.int (1 : Int32))])) _
        exact retN X4 hx (t := .boolean) Bd.returns (by simp) (hb hby d12_28) hr
      · show Qrm12 Z a0 a1 p2 j ds k0 k1 k2 k3 ka zc fm h0 n0 _ (T4.setFrames fs).heap _
        rw [show (T4.setFrames fs).heap = h0 from eq4]
        exact ⟨congrArg (fun z => some (Value.int z)) (by decide), N4, rfl⟩
    · rw [hx1]
      show OwnGo p.tables e below _ (T4.setTop (mkF m 19 #[.val (.ref a0), .val (.ref a1), .val (.int p2), .val (.int (Int32.ofNat j))] [(.int (1 : Int32)), (.ref a1), (.int (ds.getD j 0))]))
      have cq7 := V_k
      obtain ⟨clq7, Arq7, qq7, Sq7, Nq7, Hq7, Gq7⟩ := cq7
      have hinq7 := inb_of (j := (1 : Int32)) Sq7 ⟨by decide, by decide⟩
      refine OwnGo.of (X4.caload hx (j := (1 : Int32)) (v := (.int k1)) (by rw [eq4]; exact Arq7.1) (State.isArrayOf_alike hZ.alike Arq7.2.1) Arq7.2.2 hinq7 (Hq7.at hinq7 rfl) (g := (mkF m 19 #[.val (.ref a0), .val (.ref a1), .val (.int p2), .val (.int (Int32.ofNat j))] [(.int (1 : Int32)), (.ref a1), (.int (ds.getD j 0))])) rfl rfl (hb hby d12_19)) ?_
      show OwnGo p.tables e below _ (T4.setTop (mkF m 20 #[.val (.ref a0), .val (.ref a1), .val (.int p2), .val (.int (Int32.ofNat j))] [(.int k1), (.int (ds.getD j 0))]))
      have hc8 : (ds.getD j 0) = k1 := hx2
      refine OwnGo.of (A := T4.setTop (mkF m 20 #[.val (.ref a0), .val (.ref a1), .val (.int p2), .val (.int (Int32.ofNat j))] [(.int k1), (.int (ds.getD j 0))])) (B := T4.setTop (mkF m 28 #[.val (.ref a0), .val (.ref a1), .val (.int p2), .val (.int (Int32.ofNat j))] [(.int (1 : Int32))])) (fun t k => ?_) ?_
      · show Steps p.tables e below (T4.setTop (mkF m 20 #[.val (.ref a0), .val (.ref a1), .val (.int p2), .val (.int (Int32.ofNat j))] [(.int k1), (.int (ds.getD j 0))])) t
        refine XS.icmpNo X4.here hx rfl (hb hby d12_20) rfl (teq hc8).2 ?_
        refine XS.iconst X4.here hx rfl (hb hby d12_23) ?_
        refine XS.goto X4.here hx rfl (pc0 := 24) (pc' := 28) rfl (hb hby d12_24) (by decide) (by decide) ?_
        exact k
      obtain ⟨fs, hr, hrun, hended, hW, hsame⟩ := X4.leave (v := some (.int (nar .boolean (1 : Int32)))) (fun h => by rw [Bd.returns] at h; cases h) hlk
      refine ⟨_, _, ?_, hrun, hended, _, _, rfl, ?_, ⟨_, rfl⟩, hW, hsame.mono (by decide) (by decide)⟩
      · show Steps p.tables e below (T4.setTop (mkF m 28 #[.val (.ref a0), .val (.ref a1), .val (.int p2), .val (.int (Int32.ofNat j))] [(.int (1 : Int32))])) _
        exact retN X4 hx (t := .boolean) Bd.returns (by simp) (hb hby d12_28) hr
      · show Qrm12 Z a0 a1 p2 j ds k0 k1 k2 k3 ka zc fm h0 n0 _ (T4.setFrames fs).heap _
        rw [show (T4.setFrames fs).heap = h0 from eq4]
        exact ⟨congrArg (fun z => some (Value.int z)) (by decide), N4, rfl⟩
    · rw [hx1]
      show OwnGo p.tables e below _ (T4.setTop (mkF m 19 #[.val (.ref a0), .val (.ref a1), .val (.int p2), .val (.int (Int32.ofNat j))] [(.int (2 : Int32)), (.ref a1), (.int (ds.getD j 0))]))
      have cq9 := V_k
      obtain ⟨clq9, Arq9, qq9, Sq9, Nq9, Hq9, Gq9⟩ := cq9
      have hinq9 := inb_of (j := (2 : Int32)) Sq9 ⟨by decide, by decide⟩
      refine OwnGo.of (X4.caload hx (j := (2 : Int32)) (v := (.int k2)) (by rw [eq4]; exact Arq9.1) (State.isArrayOf_alike hZ.alike Arq9.2.1) Arq9.2.2 hinq9 (Hq9.at hinq9 rfl) (g := (mkF m 19 #[.val (.ref a0), .val (.ref a1), .val (.int p2), .val (.int (Int32.ofNat j))] [(.int (2 : Int32)), (.ref a1), (.int (ds.getD j 0))])) rfl rfl (hb hby d12_19)) ?_
      show OwnGo p.tables e below _ (T4.setTop (mkF m 20 #[.val (.ref a0), .val (.ref a1), .val (.int p2), .val (.int (Int32.ofNat j))] [(.int k2), (.int (ds.getD j 0))]))
      have hc10 : (ds.getD j 0) = k2 := hx2
      refine OwnGo.of (A := T4.setTop (mkF m 20 #[.val (.ref a0), .val (.ref a1), .val (.int p2), .val (.int (Int32.ofNat j))] [(.int k2), (.int (ds.getD j 0))])) (B := T4.setTop (mkF m 28 #[.val (.ref a0), .val (.ref a1), .val (.int p2), .val (.int (Int32.ofNat j))] [(.int (1 : Int32))])) (fun t k => ?_) ?_
      · show Steps p.tables e below (T4.setTop (mkF m 20 #[.val (.ref a0), .val (.ref a1), .val (.int p2), .val (.int (Int32.ofNat j))] [(.int k2), (.int (ds.getD j 0))])) t
        refine XS.icmpNo X4.here hx rfl (hb hby d12_20) rfl (teq hc10).2 ?_
        refine XS.iconst X4.here hx rfl (hb hby d12_23) ?_
        refine XS.goto X4.here hx rfl (pc0 := 24) (pc' := 28) rfl (hb hby d12_24) (by decide) (by decide) ?_
        exact k
      obtain ⟨fs, hr, hrun, hended, hW, hsame⟩ := X4.leave (v := some (.int (nar .boolean (1 : Int32)))) (fun h => by rw [Bd.returns] at h; cases h) hlk
      refine ⟨_, _, ?_, hrun, hended, _, _, rfl, ?_, ⟨_, rfl⟩, hW, hsame.mono (by decide) (by decide)⟩
      · show Steps p.tables e below (T4.setTop (mkF m 28 #[.val (.ref a0), .val (.ref a1), .val (.int p2), .val (.int (Int32.ofNat j))] [(.int (1 : Int32))])) _
        exact retN X4 hx (t := .boolean) Bd.returns (by simp) (hb hby d12_28) hr
      · show Qrm12 Z a0 a1 p2 j ds k0 k1 k2 k3 ka zc fm h0 n0 _ (T4.setFrames fs).heap _
        rw [show (T4.setFrames fs).heap = h0 from eq4]
        exact ⟨congrArg (fun z => some (Value.int z)) (by decide), N4, rfl⟩
    · rw [hx1]
      show OwnGo p.tables e below _ (T4.setTop (mkF m 19 #[.val (.ref a0), .val (.ref a1), .val (.int p2), .val (.int (Int32.ofNat j))] [(.int (3 : Int32)), (.ref a1), (.int (ds.getD j 0))]))
      have cq11 := V_k
      obtain ⟨clq11, Arq11, qq11, Sq11, Nq11, Hq11, Gq11⟩ := cq11
      have hinq11 := inb_of (j := (3 : Int32)) Sq11 ⟨by decide, by decide⟩
      refine OwnGo.of (X4.caload hx (j := (3 : Int32)) (v := (.int k3)) (by rw [eq4]; exact Arq11.1) (State.isArrayOf_alike hZ.alike Arq11.2.1) Arq11.2.2 hinq11 (Hq11.at hinq11 rfl) (g := (mkF m 19 #[.val (.ref a0), .val (.ref a1), .val (.int p2), .val (.int (Int32.ofNat j))] [(.int (3 : Int32)), (.ref a1), (.int (ds.getD j 0))])) rfl rfl (hb hby d12_19)) ?_
      show OwnGo p.tables e below _ (T4.setTop (mkF m 20 #[.val (.ref a0), .val (.ref a1), .val (.int p2), .val (.int (Int32.ofNat j))] [(.int k3), (.int (ds.getD j 0))]))
      have hc12 : (ds.getD j 0) = k3 := hx2
      refine OwnGo.of (A := T4.setTop (mkF m 20 #[.val (.ref a0), .val (.ref a1), .val (.int p2), .val (.int (Int32.ofNat j))] [(.int k3), (.int (ds.getD j 0))])) (B := T4.setTop (mkF m 28 #[.val (.ref a0), .val (.ref a1), .val (.int p2), .val (.int (Int32.ofNat j))] [(.int (1 : Int32))])) (fun t k => ?_) ?_
      · show Steps p.tables e below (T4.setTop (mkF m 20 #[.val (.ref a0), .val (.ref a1), .val (.int p2), .val (.int (Int32.ofNat j))] [(.int k3), (.int (ds.getD j 0))])) t
        refine XS.icmpNo X4.here hx rfl (hb hby d12_20) rfl (teq hc12).2 ?_
        refine XS.iconst X4.here hx rfl (hb hby d12_23) ?_
        refine XS.goto X4.here hx rfl (pc0 := 24) (pc' := 28) rfl (hb hby d12_24) (by decide) (by decide) ?_
        exact k
      obtain ⟨fs, hr, hrun, hended, hW, hsame⟩ := X4.leave (v := some (.int (nar .boolean (1 : Int32)))) (fun h => by rw [Bd.returns] at h; cases h) hlk
      refine ⟨_, _, ?_, hrun, hended, _, _, rfl, ?_, ⟨_, rfl⟩, hW, hsame.mono (by decide) (by decide)⟩
      · show Steps p.tables e below (T4.setTop (mkF m 28 #[.val (.ref a0), .val (.ref a1), .val (.int p2), .val (.int (Int32.ofNat j))] [(.int (1 : Int32))])) _
        exact retN X4 hx (t := .boolean) Bd.returns (by simp) (hb hby d12_28) hr
      · show Qrm12 Z a0 a1 p2 j ds k0 k1 k2 k3 ka zc fm h0 n0 _ (T4.setFrames fs).heap _
        rw [show (T4.setFrames fs).heap = h0 from eq4]
        exact ⟨congrArg (fun z => some (Value.int z)) (by decide), N4, rfl⟩
  · refine OwnGo.of (A := T2.setTop (mkF m 5 #[.val (.ref a0), .val (.ref a1), .val (.int p2), .val (.int (Int32.ofNat j))] [(.int (Int32.ofNat ds.length)), (.int (Int32.ofNat j))])) (B := T2.setTop (mkF m 9 #[.val (.ref a0), .val (.ref a1), .val (.int p2), .val (.int (Int32.ofNat j))] [(.int (1 : Int32))])) (fun t k => ?_) ?_
    · show Steps p.tables e below (T2.setTop (mkF m 5 #[.val (.ref a0), .val (.ref a1), .val (.int p2), .val (.int (Int32.ofNat j))] [(.int (Int32.ofNat ds.length)), (.int (Int32.ofNat j))])) t
      refine XS.icmpNo X2.here hx rfl (hb hby d12_5) rfl (flt hc3).1 ?_
      refine XS.iconst X2.here hx rfl (hb hby d12_8) ?_
      exact k
    obtain ⟨fs, hr, hrun, hended, hW, hsame⟩ := X2.leave (v := some (.int (nar .boolean (1 : Int32)))) (fun h => by rw [Bd.returns] at h; cases h) hlk
    refine ⟨_, _, ?_, hrun, hended, _, _, rfl, ?_, ⟨_, rfl⟩, hW, hsame.mono (by decide) (by decide)⟩
    · show Steps p.tables e below (T2.setTop (mkF m 9 #[.val (.ref a0), .val (.ref a1), .val (.int p2), .val (.int (Int32.ofNat j))] [(.int (1 : Int32))])) _
      exact retN X2 hx (t := .boolean) Bd.returns (by simp) (hb hby d12_9) hr
    · show Qrm12 Z a0 a1 p2 j ds k0 k1 k2 k3 ka zc fm h0 n0 _ (T2.setFrames fs).heap _
      rw [show (T2.setFrames fs).heap = h0 from eq2]
      exact ⟨congrArg (fun z => some (Value.int z)) (by decide), N2, rfl⟩
theorem d3_0 : decode jdk_42_method_149_code 0 = .ok (.aload_n 0, 1) := by decide +kernel
theorem d3_1 : decode jdk_42_method_149_code 1 = .ok (.invokespecial 1, 3) := by decide +kernel
theorem d3_4 : decode jdk_42_method_149_code 4 = .ok (.iload_n 3, 1) := by decide +kernel
theorem d3_5 : decode jdk_42_method_149_code 5 = .ok (.ifCond .ne 22, 3) := by decide +kernel
theorem d3_8 : decode jdk_42_method_149_code 8 = .ok (.aload_n 0, 1) := by decide +kernel
theorem d3_9 : decode jdk_42_method_149_code 9 = .ok (.ldc 7, 2) := by decide +kernel
theorem d3_11 : decode jdk_42_method_149_code 11 = .ok (.getfield 9, 3) := by decide +kernel
theorem d3_14 : decode jdk_42_method_149_code 14 = .ok (.putfield 9, 3) := by decide +kernel
theorem d3_17 : decode jdk_42_method_149_code 17 = .ok (.aload_n 0, 1) := by decide +kernel
theorem d3_18 : decode jdk_42_method_149_code 18 = .ok (.ldc 7, 2) := by decide +kernel
theorem d3_20 : decode jdk_42_method_149_code 20 = .ok (.getfield 15, 3) := by decide +kernel
theorem d3_23 : decode jdk_42_method_149_code 23 = .ok (.putfield 15, 3) := by decide +kernel
theorem d3_26 : decode jdk_42_method_149_code 26 = .ok (.return_, 1) := by decide +kernel
theorem ef_rm3 (m : MethodId) (a0 : Addr) (a1 : Addr) : entryFrame m #[(.ref a0), (.ref a1), (.int (0 : Int32)), (.int (0 : Int32)), .null] 6 = mkF m 0 #[.val (.ref a0), .val (.ref a1), .val (.int (0 : Int32)), .val (.int (0 : Int32)), .val .null, .unset] [] := by first | (simp [entryFrame, mkF, argsToLocals, Value.category]; done) | rfl
def Qrm3 (Z : State) (a0 : Addr) (a1 : Addr) (h0 : Heap) (n0 : Nat) (v : Option Value) (h : Heap) (L : List Loc) : Prop := v = none ∧ Fr n0 L ∧ Keep h0 h [a0] ∧ Exa Z h a0 "java/lang/String" ∧ Fld Z h a0 "java/lang/String" "coder" "B" (.int (0 : Int32)) ∧ ∃ (t : Addr) (kb : ClassId), Fld Z h a0 "java/lang/String" "value" "[B" (.ref t) ∧ Arv Z h t kb .byte (0 : Int32) [] (.int (0 : Int32))
set_option maxRecDepth 65536 in
set_option maxHeartbeats 40000000 in
theorem rm3 (l : Launch) (Z : State) (aw : Array Value) (hw : ∀ d ∈ tables_1, d.before aw Z = true) (ws : List Jvm.Cond) (a0 : Addr) (a1 : Addr) (h0 : Heap) (n0 : Nat) (Z0 : n0 ≤ h0.size) (E_a0 : Exa Z h0 a0 "java/lang/String") (F_a0_value : Fld Z h0 a0 "java/lang/String" "value" "[B" .null) (F_a0_coder : Fld Z h0 a0 "java/lang/String" "coder" "B" (.int (0 : Int32))) (g_a0 : n0 ≤ a0) :
    MetFree l (⟨"java/lang/String", "<init>", "([CIILjava/lang/Void;)V"⟩ : MethodName) (head1 (Jvm.Cond.code (⟨"java/lang/String", "<init>", "([CIILjava/lang/Void;)V"⟩ : MethodName) jdk_42_method_149_code 6 none :: ws) ({ frames := 1, cells := 4, slots := 8, locals := 12 } : Room)) (fun a U => a = #[(.ref a0), (.ref a1), (.int (0 : Int32)), (.int (0 : Int32)), .null] ∧ Z.Warmed39 U.vm ∧ U.heap = h0 ∧ CHv Z consts_1 U.vm h0 ∧ ∀ x ∈ ([a0] : List Addr), Safe Z consts_1 U.vm h0 x) (fun _ _ _ _ _ => True) (fun _ U o U' => ∃ v L, o = .returned v ∧ Qrm3 Z a0 a1 h0 n0 v U'.heap L ∧ CHr Z consts_1 U.vm U.heap U'.vm U'.heap ∧ ReturnedEndW U o U' L ({ frames := 1, cells := 4, slots := 8, locals := 12 } : Room).cells ({ frames := 1, cells := 4, slots := 8, locals := 12 } : Room).slots) := by
  refine MetFree.of_bodySF (plainFor_of_name pn_26) hisR ?_
  intro p e s m args below meth c s₁ Bd hml0 hP hK
  obtain ⟨rfl, hZ, hh, hC0, hSf⟩ := hP
  have hx := Bd.exec
  have hby := Bd.bytes
  have hml : c.maxLocals = 6 := hml0
  have hown : s.vm.findClass "java/lang/String" = some m.cls := findClass_of_methodNamed Bd.named
  have hnm := (name_of_methodNamed Bd.named Bd.method).1
  have X0 : Stand p l e ({ frames := 1, cells := 4, slots := 8, locals := 12 } : Room) s m #[(.ref a0), (.ref a1), (.int (0 : Int32)), (.int (0 : Int32)), .null] below meth c s₁ [] 0 0 := Stand.of_body Bd
  have e0 : s₁.heap = h0 := by rw [← hh, Bd.state]; rfl
  have N0 := Fr.nil n0
  have hlk := Bd.notSynchronized
  show OwnGo p.tables e below _ (s₁.setTop (entryFrame m #[(.ref a0), (.ref a1), (.int (0 : Int32)), (.int (0 : Int32)), .null] 6))
  rw [ef_rm3 m a0 a1]
  have B0 := OwnB.start s h0
  have C0 := CHr.refl hC0
  have G0_a0 := hSf a0 (List.mem_of_getElem? (i := 0) rfl)
  have K0 : Keep h0 h0 [a0] := Keep.refl _ _
  show OwnGo p.tables e below _ (s₁.setTop (mkF m 0 #[.val (.ref a0), .val (.ref a1), .val (.int (0 : Int32)), .val (.int (0 : Int32)), .val .null, .unset] []))
  refine OwnGo.of (A := s₁.setTop (mkF m 0 #[.val (.ref a0), .val (.ref a1), .val (.int (0 : Int32)), .val (.int (0 : Int32)), .val .null, .unset] [])) (B := s₁.setTop (mkF m 1 #[.val (.ref a0), .val (.ref a1), .val (.int (0 : Int32)), .val (.int (0 : Int32)), .val .null, .unset] [(.ref a0)])) (fun t k => ?_) ?_
  · show Steps p.tables e below (s₁.setTop (mkF m 0 #[.val (.ref a0), .val (.ref a1), .val (.int (0 : Int32)), .val (.int (0 : Int32)), .val .null, .unset] [])) t
    refine XS.aloadN X0.here hx rfl (hb hby d3_0) rfl rfl ?_
    exact k
  obtain ⟨T1, X1, e1, st1⟩ := initO X0 hx hZ hown (w16 hw) (w17 hw) (w18 hw) e0 (g := (mkF m 1 #[.val (.ref a0), .val (.ref a1), .val (.int (0 : Int32)), .val (.int (0 : Int32)), .val .null, .unset] [(.ref a0)])) rfl (by rw [hml]; rfl) rfl (hb hby d3_1) (by decide) (W := 0) (by show 2 * 0 + _ ≤ _; exact Nat.le_of_eq rfl) (by decide)
  refine OwnGo.of st1 ?_
  show OwnGo p.tables e below _ (T1.setTop (mkF m 4 #[.val (.ref a0), .val (.ref a1), .val (.int (0 : Int32)), .val (.int (0 : Int32)), .val .null, .unset] []))
  refine OwnGo.of (A := T1.setTop (mkF m 4 #[.val (.ref a0), .val (.ref a1), .val (.int (0 : Int32)), .val (.int (0 : Int32)), .val .null, .unset] [])) (B := T1.setTop (mkF m 5 #[.val (.ref a0), .val (.ref a1), .val (.int (0 : Int32)), .val (.int (0 : Int32)), .val .null, .unset] [(.int (0 : Int32))])) (fun t k => ?_) ?_
  · show Steps p.tables e below (T1.setTop (mkF m 4 #[.val (.ref a0), .val (.ref a1), .val (.int (0 : Int32)), .val (.int (0 : Int32)), .val .null, .unset] [])) t
    refine XS.iloadN X1.here hx rfl (hb hby d3_4) rfl ?_
    exact k
  have hc2 : (0 : Int32) = (0 : Int32) := by decide
  refine OwnGo.of (A := T1.setTop (mkF m 5 #[.val (.ref a0), .val (.ref a1), .val (.int (0 : Int32)), .val (.int (0 : Int32)), .val .null, .unset] [(.int (0 : Int32))])) (B := T1.setTop (mkF m 9 #[.val (.ref a0), .val (.ref a1), .val (.int (0 : Int32)), .val (.int (0 : Int32)), .val .null, .unset] [(.ref a0)])) (fun t k => ?_) ?_
  · show Steps p.tables e below (T1.setTop (mkF m 5 #[.val (.ref a0), .val (.ref a1), .val (.int (0 : Int32)), .val (.int (0 : Int32)), .val .null, .unset] [(.int (0 : Int32))])) t
    refine XS.ifNo X1.here hx rfl (hb hby d3_5) rfl ((if0 _ _).trans (teq hc2).2) ?_
    refine XS.aloadN X1.here hx rfl (hb hby d3_8) rfl rfl ?_
    exact k
  obtain ⟨s3, b3, T3, h3, t3, kq3, X3, e3, E3, B3, hZ, hown, A3, Fc3, Fv3, Vl3, cs3, ne3, st3⟩ := own_ldc (s := s) X1 hx hZ hown (w19 hw) (own_wS hw) e1 B0 (own_EW hw) (List.mem_of_getElem? (i := 0) rfl) C0.1 own_lit_60.1 (z := (0 : Int32)) (by decide) rfl (g := (mkF m 9 #[.val (.ref a0), .val (.ref a1), .val (.int (0 : Int32)), .val (.int (0 : Int32)), .val .null, .unset] [(.ref a0)])) rfl (hb hby d3_9) (n := 0) own_lit_60.2 (by decide) (by decide) (by decide)
  refine OwnGo.of st3 ?_
  have f4 := Nat.le_trans Z0 E3.1
  have f5 := C0.trans cs3
  have f6 := cs3.safe E_a0.lt G0_a0
  have f7 := K0.ext E3
  have f8 := E_a0.ext E3
  have f9 := F_a0_value.ext E3
  have f10 := F_a0_coder.ext E3
  have nx3_a0 := ne3 _ f6
  show OwnGo p.tables e below _ (T3.setTop (mkF m 11 #[.val (.ref a0), .val (.ref a1), .val (.int (0 : Int32)), .val (.int (0 : Int32)), .val .null, .unset] [(.ref b3), (.ref a0)]))
  obtain ⟨T11, X11, e11, st11⟩ := getF X3 hx hZ hown (host := "") (Or.inl (w25 hw)) Via.refl e3 Fv3 (g := (mkF m 11 #[.val (.ref a0), .val (.ref a1), .val (.int (0 : Int32)), .val (.int (0 : Int32)), .val .null, .unset] [(.ref b3), (.ref a0)])) rfl rfl (hb hby d3_11)
  refine OwnGo.of st11 ?_
  show OwnGo p.tables e below _ (T11.setTop (mkF m 14 #[.val (.ref a0), .val (.ref a1), .val (.int (0 : Int32)), .val (.int (0 : Int32)), .val .null, .unset] [(.ref t3), (.ref a0)]))
  obtain ⟨T12, h12, X12, e12, W12, st12⟩ := putF X11 hx hZ hown (host := "") (Or.inl (w25 hw)) Via.refl e11 f9 f8 (Or.inr ⟨(w21 hw), rfl, hnm⟩) (w7 hw) (ty := (.array .byte)) (by decide) rfl rfl (g := (mkF m 14 #[.val (.ref a0), .val (.ref a1), .val (.int (0 : Int32)), .val (.int (0 : Int32)), .val .null, .unset] [(.ref t3), (.ref a0)])) rfl rfl (hb hby d3_14)
  refine OwnGo.of st12 ?_
  have N12 := Fr.snoc X12 N0 g_a0
  have cs13 := CHr.wr W12 f6 f5.1
  have f14 := Nat.le_trans f4 (Keep.of_wr W12).1
  have f15 := B3.wr W12
  have f16 := f5.trans cs13
  have f17 := cs13.safe f8.lt f6
  have f18 := f7.wr W12 (Or.inl (List.mem_of_getElem? (i := 0) rfl))
  have f19 := f8.wr W12
  have f20 := f10.other W12 (Or.inr (slot_ne (Or.inr (w22 hw)) (Or.inr (w21 hw)) (by decide) (t := .byte) (t' := (.array .byte)) (by decide) (by decide)))
  have f21 := A3.wr W12
  have f22 := Fc3.other W12 (Or.inl (Ne.symm nx3_a0.1))
  have f23 := Fv3.other W12 (Or.inl (Ne.symm nx3_a0.1))
  have f24 := Vl3.other W12 (Ne.symm nx3_a0.2)
  have f25 : Fld Z h12 a0 "java/lang/String" "value" "[B" (.ref t3) := Fld.same W12 f9
  show OwnGo p.tables e below _ (T12.setTop (mkF m 17 #[.val (.ref a0), .val (.ref a1), .val (.int (0 : Int32)), .val (.int (0 : Int32)), .val .null, .unset] []))
  refine OwnGo.of (A := T12.setTop (mkF m 17 #[.val (.ref a0), .val (.ref a1), .val (.int (0 : Int32)), .val (.int (0 : Int32)), .val .null, .unset] [])) (B := T12.setTop (mkF m 18 #[.val (.ref a0), .val (.ref a1), .val (.int (0 : Int32)), .val (.int (0 : Int32)), .val .null, .unset] [(.ref a0)])) (fun t k => ?_) ?_
  · show Steps p.tables e below (T12.setTop (mkF m 17 #[.val (.ref a0), .val (.ref a1), .val (.int (0 : Int32)), .val (.int (0 : Int32)), .val .null, .unset] [])) t
    refine XS.aloadN X12.here hx rfl (hb hby d3_17) rfl rfl ?_
    exact k
  obtain ⟨s26, b26, T26, h26, t26, kq26, X26, e26, E26, B26, hZ, hown, A26, Fc26, Fv26, Vl26, cs26, ne26, st26⟩ := own_ldc (s := s) X12 hx hZ hown (w19 hw) (own_wS hw) e12 f15 (own_EW hw) (List.mem_of_getElem? (i := 0) rfl) f16.1 own_lit_60.1 (z := (0 : Int32)) (by decide) rfl (g := (mkF m 18 #[.val (.ref a0), .val (.ref a1), .val (.int (0 : Int32)), .val (.int (0 : Int32)), .val .null, .unset] [(.ref a0)])) rfl (hb hby d3_18) (n := 0) own_lit_60.2 (by decide) (by decide) (by decide)
  refine OwnGo.of st26 ?_
  have f27 := Nat.le_trans f14 E26.1
  have f28 := f16.trans cs26
  have f29 := cs26.safe f19.lt f17
  have f30 := f18.ext E26
  have f31 := f19.ext E26
  have f32 := f20.ext E26
  have f33 := f21.ext E26
  have f34 := f22.ext E26
  have f35 := f23.ext E26
  have f36 := f24.ext E26
  have f37 := f25.ext E26
  have nx26_a0 := ne26 _ f29
  show OwnGo p.tables e below _ (T26.setTop (mkF m 20 #[.val (.ref a0), .val (.ref a1), .val (.int (0 : Int32)), .val (.int (0 : Int32)), .val .null, .unset] [(.ref b26), (.ref a0)]))
  obtain ⟨T38, X38, e38, st38⟩ := getF X26 hx hZ hown (host := "") (Or.inl (w26 hw)) Via.refl e26 Fc26 (g := (mkF m 20 #[.val (.ref a0), .val (.ref a1), .val (.int (0 : Int32)), .val (.int (0 : Int32)), .val .null, .unset] [(.ref b26), (.ref a0)])) rfl rfl (hb hby d3_20)
  refine OwnGo.of st38 ?_
  show OwnGo p.tables e below _ (T38.setTop (mkF m 23 #[.val (.ref a0), .val (.ref a1), .val (.int (0 : Int32)), .val (.int (0 : Int32)), .val .null, .unset] [(.int (0 : Int32)), (.ref a0)]))
  obtain ⟨T39, h39, X39, e39, W39, st39⟩ := putFN X38 hx hZ hown (w26 hw) Via.refl e38 f32 f31 (Or.inr ⟨(w22 hw), rfl, hnm⟩) (w7 hw) (ty := .byte) (v' := (.int (0 : Int32))) (by decide) rfl rfl (g := (mkF m 23 #[.val (.ref a0), .val (.ref a1), .val (.int (0 : Int32)), .val (.int (0 : Int32)), .val .null, .unset] [(.int (0 : Int32)), (.ref a0)])) rfl rfl (hb hby d3_23)
  refine OwnGo.of st39 ?_
  have N39 := Fr.snoc X39 N12 g_a0
  have cs40 := CHr.wr W39 f29 f28.1
  have f41 := Nat.le_trans f27 (Keep.of_wr W39).1
  have f42 := B26.wr W39
  have f43 := f28.trans cs40
  have f44 := cs40.safe f31.lt f29
  have f45 := f30.wr W39 (Or.inl (List.mem_of_getElem? (i := 0) rfl))
  have f46 := f31.wr W39
  have f47 := f33.wr W39
  have f48 := f34.other W39 (Or.inl (Ne.symm nx3_a0.1))
  have f49 := f35.other W39 (Or.inl (Ne.symm nx3_a0.1))
  have f50 := f36.other W39 (Ne.symm nx3_a0.2)
  have f51 := f37.other W39 (Or.inr (slot_ne (Or.inr (w21 hw)) (Or.inr (w22 hw)) (by decide) (t := (.array .byte)) (t' := .byte) (by decide) (by decide)))
  have f52 := A26.wr W39
  have f53 := Fc26.other W39 (Or.inl (Ne.symm nx26_a0.1))
  have f54 := Fv26.other W39 (Or.inl (Ne.symm nx26_a0.1))
  have f55 := Vl26.other W39 (Ne.symm nx26_a0.2)
  have f56 : Fld Z h39 a0 "java/lang/String" "coder" "B" (.int (0 : Int32)) := Fld.same W39 f32
  show OwnGo p.tables e below _ (T39.setTop (mkF m 26 #[.val (.ref a0), .val (.ref a1), .val (.int (0 : Int32)), .val (.int (0 : Int32)), .val .null, .unset] []))
  obtain ⟨fs, hr, hrun, hended, hRW⟩ := own_leaveW X39 f42 e39 (v := none) (fun _ => rfl) hlk
  refine ⟨_, _, ?_, hrun, hended, _, _, rfl, ?_, own_endW X39 hZ (own_EW hw) e39 hh f43 fs, own_monoW hRW (by decide) (by decide)⟩
  · show Steps p.tables e below (T39.setTop (mkF m 26 #[.val (.ref a0), .val (.ref a1), .val (.int (0 : Int32)), .val (.int (0 : Int32)), .val .null, .unset] [])) _
    exact X39.returnOut hx Bd.returns (hb hby d3_26) hr
  · show Qrm3 Z a0 a1 h0 n0 _ (T39.setFrames fs).heap _
    rw [show (T39.setFrames fs).heap = h39 from e39]
    exact ⟨rfl, N39, f45, f46, f56, t3, _, f51, f50⟩
theorem w12 {Z aw} (hw : OwnHW aw Z) : Cond.before (Jvm.Cond.methodLink "java/lang/String" (27 : Nat) ({ cls := "java/lang/String", name := "<init>", desc := "([CIILjava/lang/Void;)V" } : Jvm.MethodName)) aw Z = true := hw _ (List.mem_of_getElem? (i := 12) rfl)
theorem w15 {Z aw} (hw : OwnHW aw Z) : Cond.before (Jvm.Cond.code ({ cls := "java/lang/String", name := "<init>", desc := "([CIILjava/lang/Void;)V" } : Jvm.MethodName) jdk_42_method_149_code (6 : Nat) (Option.none : Option Jvm.ClassFile.FieldType)) aw Z = true := hw _ (List.mem_of_getElem? (i := 15) rfl)
theorem pd_100 : parseMethodDescriptor "([CIILjava/lang/Void;)V" = some ⟨[(.array .char), .int, .int, (.object "java/lang/Void")], none⟩ := by decide +kernel
theorem w13 {Z aw} (hw : OwnHW aw Z) : Cond.before (Jvm.Cond.instanceMethod ({ cls := "java/lang/String", name := "<init>", desc := "([CIILjava/lang/Void;)V" } : Jvm.MethodName)) aw Z = true := hw _ (List.mem_of_getElem? (i := 13) rfl)
theorem d2_0 : decode jdk_42_method_3_code 0 = .ok (.aload_n 0, 1) := by decide +kernel
theorem d2_1 : decode jdk_42_method_3_code 1 = .ok (.aload_n 1, 1) := by decide +kernel
theorem d2_2 : decode jdk_42_method_3_code 2 = .ok (.iconst 0, 1) := by decide +kernel
theorem d2_3 : decode jdk_42_method_3_code 3 = .ok (.aload_n 1, 1) := by decide +kernel
theorem d2_4 : decode jdk_42_method_3_code 4 = .ok (.arraylength, 1) := by decide +kernel
theorem d2_5 : decode jdk_42_method_3_code 5 = .ok (.aconst_null, 1) := by decide +kernel
theorem d2_6 : decode jdk_42_method_3_code 6 = .ok (.invokespecial 27, 3) := by decide +kernel
theorem d2_9 : decode jdk_42_method_3_code 9 = .ok (.return_, 1) := by decide +kernel
theorem ef_rm2 (m : MethodId) (a0 : Addr) (a1 : Addr) : entryFrame m #[(.ref a0), (.ref a1)] 2 = mkF m 0 #[.val (.ref a0), .val (.ref a1)] [] := by first | (simp [entryFrame, mkF, argsToLocals, Value.category]; done) | rfl
def Qrm2 (Z : State) (a0 : Addr) (a1 : Addr) (ka : ClassId) (h0 : Heap) (n0 : Nat) (v : Option Value) (h : Heap) (L : List Loc) : Prop := v = none ∧ Fr n0 L ∧ Keep h0 h [a0] ∧ Exa Z h a0 "java/lang/String" ∧ Fld Z h a0 "java/lang/String" "coder" "B" (.int (0 : Int32)) ∧ ∃ (t : Addr) (kb : ClassId), Fld Z h a0 "java/lang/String" "value" "[B" (.ref t) ∧ Arv Z h t kb .byte (0 : Int32) [] (.int (0 : Int32))
set_option maxRecDepth 65536 in
set_option maxHeartbeats 40000000 in
theorem rm2 (l : Launch) (Z : State) (aw : Array Value) (hw : ∀ d ∈ tables_1, d.before aw Z = true) (ws : List Jvm.Cond) (a0 : Addr) (a1 : Addr) (ka : ClassId) (h0 : Heap) (n0 : Nat) (Z0 : n0 ≤ h0.size) (E_a0 : Exa Z h0 a0 "java/lang/String") (F_a0_value : Fld Z h0 a0 "java/lang/String" "value" "[B" .null) (F_a0_coder : Fld Z h0 a0 "java/lang/String" "coder" "B" (.int (0 : Int32))) (g_a0 : n0 ≤ a0) (V_a : Arv Z h0 a1 ka .char (0 : Int32) [] (.int (0 : Int32))) (hne : a1 ≠ a0) :
    MetFree l (⟨"java/lang/String", "<init>", "([C)V"⟩ : MethodName) (head1 (Jvm.Cond.code (⟨"java/lang/String", "<init>", "([C)V"⟩ : MethodName) jdk_42_method_3_code 2 none :: ws) ({ frames := 2, cells := 4, slots := 8, locals := 29 } : Room)) (fun a U => a = #[(.ref a0), (.ref a1)] ∧ Z.Warmed39 U.vm ∧ U.heap = h0 ∧ CHv Z consts_1 U.vm h0 ∧ ∀ x ∈ ([a0] : List Addr), Safe Z consts_1 U.vm h0 x) (fun _ _ _ _ _ => True) (fun _ U o U' => ∃ v L, o = .returned v ∧ Qrm2 Z a0 a1 ka h0 n0 v U'.heap L ∧ CHr Z consts_1 U.vm U.heap U'.vm U'.heap ∧ ReturnedEndW U o U' L ({ frames := 2, cells := 4, slots := 8, locals := 29 } : Room).cells ({ frames := 2, cells := 4, slots := 8, locals := 29 } : Room).slots) := by
  refine MetFree.of_bodySF (plainFor_of_name pn_26) hisR ?_
  intro p e s m args below meth c s₁ Bd hml0 hP hK
  obtain ⟨rfl, hZ, hh, hC0, hSf⟩ := hP
  have hx := Bd.exec
  have hby := Bd.bytes
  have hml : c.maxLocals = 2 := hml0
  have hown : s.vm.findClass "java/lang/String" = some m.cls := findClass_of_methodNamed Bd.named
  have hnm := (name_of_methodNamed Bd.named Bd.method).1
  have X0 : Stand p l e ({ frames := 2, cells := 4, slots := 8, locals := 29 } : Room) s m #[(.ref a0), (.ref a1)] below meth c s₁ [] 0 0 := Stand.of_body Bd
  have e0 : s₁.heap = h0 := by rw [← hh, Bd.state]; rfl
  have N0 := Fr.nil n0
  have hlk := Bd.notSynchronized
  show OwnGo p.tables e below _ (s₁.setTop (entryFrame m #[(.ref a0), (.ref a1)] 2))
  rw [ef_rm2 m a0 a1]
  have B0 := OwnB.start s h0
  have C0 := CHr.refl hC0
  have G0_a0 := hSf a0 (List.mem_of_getElem? (i := 0) rfl)
  have K0 : Keep h0 h0 [a0] := Keep.refl _ _
  have ne1 : a1 ≠ a0 := hne
  show OwnGo p.tables e below _ (s₁.setTop (mkF m 0 #[.val (.ref a0), .val (.ref a1)] []))
  refine OwnGo.of (A := s₁.setTop (mkF m 0 #[.val (.ref a0), .val (.ref a1)] [])) (B := s₁.setTop (mkF m 4 #[.val (.ref a0), .val (.ref a1)] [(.ref a1), (.int (0 : Int32)), (.ref a1), (.ref a0)])) (fun t k => ?_) ?_
  · show Steps p.tables e below (s₁.setTop (mkF m 0 #[.val (.ref a0), .val (.ref a1)] [])) t
    refine XS.aloadN X0.here hx rfl (hb hby d2_0) rfl rfl ?_
    refine XS.aloadN X0.here hx rfl (hb hby d2_1) rfl rfl ?_
    refine XS.iconst X0.here hx rfl (hb hby d2_2) ?_
    refine XS.aloadN X0.here hx rfl (hb hby d2_3) rfl rfl ?_
    exact k
  have cq1 := V_a
  obtain ⟨clq1, Arq1, qq1, Sq1, Nq1, Hq1, Gq1⟩ := cq1
  refine OwnGo.of (X0.arraylength hx (by rw [e0]; exact Arq1.1) (State.isArrayOf_alike hZ.alike Arq1.2.1) (g := (mkF m 4 #[.val (.ref a0), .val (.ref a1)] [(.ref a1), (.int (0 : Int32)), (.ref a1), (.ref a0)])) rfl rfl (hb hby d2_4)) ?_
  rw [len_of Sq1 Nq1]
  show OwnGo p.tables e below _ (s₁.setTop (mkF m 5 #[.val (.ref a0), .val (.ref a1)] [(.int (0 : Int32)), (.int (0 : Int32)), (.ref a1), (.ref a0)]))
  refine OwnGo.of (A := s₁.setTop (mkF m 5 #[.val (.ref a0), .val (.ref a1)] [(.int (0 : Int32)), (.int (0 : Int32)), (.ref a1), (.ref a0)])) (B := s₁.setTop (mkF m 6 #[.val (.ref a0), .val (.ref a1)] [.null, (.int (0 : Int32)), (.int (0 : Int32)), (.ref a1), (.ref a0)])) (fun t k => ?_) ?_
  · show Steps p.tables e below (s₁.setTop (mkF m 5 #[.val (.ref a0), .val (.ref a1)] [(.int (0 : Int32)), (.int (0 : Int32)), (.ref a1), (.ref a0)])) t
    refine XS.aconstNull X0.here hx rfl (hb hby d2_5) ?_
    exact k
  obtain ⟨s2, T2, L2, v2, X2, hQ2, B2, hZ, hown, cs2, st2⟩ := own_callIW (s := s) X0 hx (y := (⟨"java/lang/String", "<init>", "([CIILjava/lang/Void;)V"⟩ : MethodName)) rfl hown (mvT hZ (w12 hw)) (mvT hZ (w13 hw)) (mvT hZ (w15 hw)) (by decide) hZ B0 (own_backW (W := 0) (ws := [a0]) (rm3 l Z aw hw [] a0 a1  h0 n0 Z0 E_a0 F_a0_value F_a0_coder g_a0) hZ (w15 hw) (w8 hw) (by decide) (by decide) (own_EW hw) C0.1 (allS ⟨E_a0.lt, G0_a0⟩ all0)) (g := (mkF m 6 #[.val (.ref a0), .val (.ref a1)] [.null, (.int (0 : Int32)), (.int (0 : Int32)), (.ref a1), (.ref a0)])) rfl (by rw [hml]; rfl) (a := a0) (argsL := [(.ref a1), (.int (0 : Int32)), (.int (0 : Int32)), .null]) (rest := []) (lenOf pd_100 rfl) rfl (by show 2 * 0 + _ ≤ _; exact Nat.le_of_eq rfl) (hb hby d2_6) rfl e0 (by decide) (by decide)
  obtain ⟨rfl, N2q, K2, y2E, y2C, t2, kb2, y2V, y2A⟩ := hQ2
  have f3 := Nat.le_trans Z0 K2.1
  have f4 := C0.trans cs2
  have f5 := cs2.safe E_a0.lt G0_a0
  have f6 := K0.trans K2 (allS (Or.inl (List.mem_of_getElem? (i := 0) rfl)) all0)
  have f7 := E_a0.keep K2
  have f8 := V_a.keep K2 (ninS ne1 nin0)
  have N2 := Fr.app N0 N2q
  refine OwnGo.of st2 ?_
  show OwnGo p.tables e below _ (T2.setTop (mkF m 9 #[.val (.ref a0), .val (.ref a1)] []))
  obtain ⟨fs, hr, hrun, hended, hRW⟩ := own_leaveW X2 B2 rfl (v := none) (fun _ => rfl) hlk
  refine ⟨_, _, ?_, hrun, hended, _, _, rfl, ?_, own_endW X2 hZ (own_EW hw) rfl hh f4 fs, own_monoW hRW (by decide) (by decide)⟩
  · show Steps p.tables e below (T2.setTop (mkF m 9 #[.val (.ref a0), .val (.ref a1)] [])) _
    exact X2.returnOut hx Bd.returns (hb hby d2_9) hr
  · show Qrm2 Z a0 a1 ka h0 n0 _ (T2.setFrames fs).heap _
    rw [show (T2.setFrames fs).heap = T2.heap from rfl]
    exact ⟨rfl, N2, f6, y2E, y2C, t2, _, y2V, y2A⟩
def own_draw (p0 : Int32) : Int32 := (if (p0 &&& (3 : Int32)) = (0 : Int32) then (nar .char (32 : Int32)) else (if (p0 &&& (3 : Int32)) = (1 : Int32) then (nar .char (9 : Int32)) else (nar .char ((((p0.toUInt32 >>> ((2 : Int32) &&& 31).toUInt32).toInt32) &&& (255 : Int32)).toUInt32.toUInt16.toUInt32.toInt32))))
theorem d1_0 : decode method_2_code 0 = .ok (.iload_n 0, 1) := by decide +kernel
theorem d1_1 : decode method_2_code 1 = .ok (.iconst 3, 1) := by decide +kernel
theorem d1_2 : decode method_2_code 2 = .ok (.iand, 1) := by decide +kernel
theorem d1_3 : decode method_2_code 3 = .ok (.istore_n 1, 1) := by decide +kernel
theorem d1_4 : decode method_2_code 4 = .ok (.iload_n 1, 1) := by decide +kernel
theorem d1_5 : decode method_2_code 5 = .ok (.ifCond .ne 6, 3) := by decide +kernel
theorem d1_8 : decode method_2_code 8 = .ok (.bipush 32, 2) := by decide +kernel
theorem d1_10 : decode method_2_code 10 = .ok (.ireturn, 1) := by decide +kernel
theorem d1_11 : decode method_2_code 11 = .ok (.iload_n 1, 1) := by decide +kernel
theorem d1_12 : decode method_2_code 12 = .ok (.iconst 1, 1) := by decide +kernel
theorem d1_13 : decode method_2_code 13 = .ok (.if_icmp .ne 6, 3) := by decide +kernel
theorem d1_16 : decode method_2_code 16 = .ok (.bipush 9, 2) := by decide +kernel
theorem d1_18 : decode method_2_code 18 = .ok (.ireturn, 1) := by decide +kernel
theorem d1_19 : decode method_2_code 19 = .ok (.iload_n 0, 1) := by decide +kernel
theorem d1_20 : decode method_2_code 20 = .ok (.iconst 2, 1) := by decide +kernel
theorem d1_21 : decode method_2_code 21 = .ok (.iushr, 1) := by decide +kernel
theorem d1_22 : decode method_2_code 22 = .ok (.sipush 255, 3) := by decide +kernel
theorem d1_25 : decode method_2_code 25 = .ok (.iand, 1) := by decide +kernel
theorem d1_26 : decode method_2_code 26 = .ok (.i2c, 1) := by decide +kernel
theorem d1_27 : decode method_2_code 27 = .ok (.ireturn, 1) := by decide +kernel
theorem ef_rm1 (m : MethodId) (p0 : Int32) : entryFrame m #[(.int p0)] 2 = mkF m 0 #[.val (.int p0), .unset] [] := by first | (simp [entryFrame, mkF, argsToLocals, Value.category]; done) | rfl
def Qrm1 (Z : State) (p0 : Int32) (h0 : Heap) (n0 : Nat) (v : Option Value) (h : Heap) (L : List Loc) : Prop := v = some (.int (own_draw p0)) ∧ Fr n0 L ∧ h = h0
set_option maxRecDepth 65536 in
set_option maxHeartbeats 40000000 in
theorem rm1 (l : Launch) (Z : State) (aw : Array Value) (hw : ∀ d ∈ tables_1, d.before aw Z = true) (ws : List Jvm.Cond) (p0 : Int32) (h0 : Heap) (n0 : Nat) (Z0 : n0 ≤ h0.size) :
    MetFree l (⟨"dev/boundaryline/model/HeaderValueTrimPinLaw", "draw", "(I)C"⟩ : MethodName) (head1 (Jvm.Cond.code (⟨"dev/boundaryline/model/HeaderValueTrimPinLaw", "draw", "(I)C"⟩ : MethodName) method_2_code 2 (some .char) :: ws) ({ frames := 0, cells := 0, slots := 0, locals := 0 } : Room)) (fun a U => a = #[(.int p0)] ∧ Z.Warmed39 U.vm ∧ U.heap = h0) (fun _ _ _ _ _ => True) (fun _ U o U' => ∃ v L, o = .returned v ∧ Qrm1 Z p0 h0 n0 v U'.heap L ∧ FrameEnd U o U' L ({ frames := 0, cells := 0, slots := 0, locals := 0 } : Room).cells ({ frames := 0, cells := 0, slots := 0, locals := 0 } : Room).slots) := by
  refine MetFree.of_bodySF (plainFor_of_name pn_5) hisR ?_
  intro p e s m args below meth c s₁ Bd hml0 hP hK
  obtain ⟨rfl, hZ, hh⟩ := hP
  have hx := Bd.exec
  have hby := Bd.bytes
  have hml : c.maxLocals = 2 := hml0
  have hown : s.vm.findClass "dev/boundaryline/model/HeaderValueTrimPinLaw" = some m.cls := findClass_of_methodNamed Bd.named
  have hnm := (name_of_methodNamed Bd.named Bd.method).1
  have X0 : Stand p l e ({ frames := 0, cells := 0, slots := 0, locals := 0 } : Room) s m #[(.int p0)] below meth c s₁ [] 0 0 := Stand.of_body Bd
  have e0 : s₁.heap = h0 := by rw [← hh, Bd.state]; rfl
  have N0 := Fr.nil n0
  have hlk := Bd.notSynchronized
  show OwnGo p.tables e below _ (s₁.setTop (entryFrame m #[(.int p0)] 2))
  rw [ef_rm1 m p0]
  show OwnGo p.tables e below _ (s₁.setTop (mkF m 0 #[.val (.int p0), .unset] []))
  refine OwnGo.of (A := s₁.setTop (mkF m 0 #[.val (.int p0), .unset] [])) (B := s₁.setTop (mkF m 5 #[.val (.int p0), .val (.int (p0 &&& (3 : Int32)))] [(.int (p0 &&& (3 : Int32)))])) (fun t k => ?_) ?_
  · show Steps p.tables e below (s₁.setTop (mkF m 0 #[.val (.int p0), .unset] [])) t
    refine XS.iloadN X0.here hx rfl (hb hby d1_0) rfl ?_
    refine XS.iconst X0.here hx rfl (hb hby d1_1) ?_
    refine XS.iand X0.here hx rfl (hb hby d1_2) rfl ?_
    refine XS.istoreN X0.here hx rfl (hb hby d1_3) rfl (l' := #[.val (.int p0), .val (.int (p0 &&& (3 : Int32)))]) rfl ?_
    refine XS.iloadN X0.here hx rfl (hb hby d1_4) rfl ?_
    exact k
  by_cases hc1 : (p0 &&& (3 : Int32)) = (0 : Int32)
  · refine OwnGo.of (A := s₁.setTop (mkF m 5 #[.val (.int p0), .val (.int (p0 &&& (3 : Int32)))] [(.int (p0 &&& (3 : Int32)))])) (B := s₁.setTop (mkF m 10 #[.val (.int p0), .val (.int (p0 &&& (3 : Int32)))] [(.int (32 : Int32))])) (fun t k => ?_) ?_
    · show Steps p.tables e below (s₁.setTop (mkF m 5 #[.val (.int p0), .val (.int (p0 &&& (3 : Int32)))] [(.int (p0 &&& (3 : Int32)))])) t
      refine XS.ifNo X0.here hx rfl (hb hby d1_5) rfl ((if0 _ _).trans (teq hc1).2) ?_
      refine XS.bipush X0.here hx rfl (hb hby d1_8) ?_
      exact k
    obtain ⟨fs, hr, hrun, hended, hW, hsame⟩ := X0.leave (v := some (.int (nar .char (32 : Int32)))) (fun h => by rw [Bd.returns] at h; cases h) hlk
    refine ⟨_, _, ?_, hrun, hended, _, _, rfl, ?_, ⟨_, rfl⟩, hW, hsame.mono (by decide) (by decide)⟩
    · show Steps p.tables e below (s₁.setTop (mkF m 10 #[.val (.int p0), .val (.int (p0 &&& (3 : Int32)))] [(.int (32 : Int32))])) _
      exact retN X0 hx (t := .char) Bd.returns (by simp) (hb hby d1_10) hr
    · show Qrm1 Z p0 h0 n0 _ (s₁.setFrames fs).heap _
      rw [show (s₁.setFrames fs).heap = h0 from e0]
      exact ⟨congrArg (fun z => some (Value.int z)) (by rw [own_draw, if_pos hc1]; try rfl), N0, rfl⟩
  · refine OwnGo.of (A := s₁.setTop (mkF m 5 #[.val (.int p0), .val (.int (p0 &&& (3 : Int32)))] [(.int (p0 &&& (3 : Int32)))])) (B := s₁.setTop (mkF m 13 #[.val (.int p0), .val (.int (p0 &&& (3 : Int32)))] [(.int (1 : Int32)), (.int (p0 &&& (3 : Int32)))])) (fun t k => ?_) ?_
    · show Steps p.tables e below (s₁.setTop (mkF m 5 #[.val (.int p0), .val (.int (p0 &&& (3 : Int32)))] [(.int (p0 &&& (3 : Int32)))])) t
      refine XS.ifYes X0.here hx rfl (pc0 := 5) (pc' := 11) rfl (hb hby d1_5) rfl ((if0 _ _).trans (feq hc1).2) (by decide) (by decide) ?_
      refine XS.iloadN X0.here hx rfl (hb hby d1_11) rfl ?_
      refine XS.iconst X0.here hx rfl (hb hby d1_12) ?_
      exact k
    by_cases hc2 : (p0 &&& (3 : Int32)) = (1 : Int32)
    · refine OwnGo.of (A := s₁.setTop (mkF m 13 #[.val (.int p0), .val (.int (p0 &&& (3 : Int32)))] [(.int (1 : Int32)), (.int (p0 &&& (3 : Int32)))])) (B := s₁.setTop (mkF m 18 #[.val (.int p0), .val (.int (p0 &&& (3 : Int32)))] [(.int (9 : Int32))])) (fun t k => ?_) ?_
      · show Steps p.tables e below (s₁.setTop (mkF m 13 #[.val (.int p0), .val (.int (p0 &&& (3 : Int32)))] [(.int (1 : Int32)), (.int (p0 &&& (3 : Int32)))])) t
        refine XS.icmpNo X0.here hx rfl (hb hby d1_13) rfl (teq hc2).2 ?_
        refine XS.bipush X0.here hx rfl (hb hby d1_16) ?_
        exact k
      obtain ⟨fs, hr, hrun, hended, hW, hsame⟩ := X0.leave (v := some (.int (nar .char (9 : Int32)))) (fun h => by rw [Bd.returns] at h; cases h) hlk
      refine ⟨_, _, ?_, hrun, hended, _, _, rfl, ?_, ⟨_, rfl⟩, hW, hsame.mono (by decide) (by decide)⟩
      · show Steps p.tables e below (s₁.setTop (mkF m 18 #[.val (.int p0), .val (.int (p0 &&& (3 : Int32)))] [(.int (9 : Int32))])) _
        exact retN X0 hx (t := .char) Bd.returns (by simp) (hb hby d1_18) hr
      · show Qrm1 Z p0 h0 n0 _ (s₁.setFrames fs).heap _
        rw [show (s₁.setFrames fs).heap = h0 from e0]
        exact ⟨congrArg (fun z => some (Value.int z)) (by rw [own_draw, if_neg hc1, if_pos hc2]; try rfl), N0, rfl⟩
    · refine OwnGo.of (A := s₁.setTop (mkF m 13 #[.val (.int p0), .val (.int (p0 &&& (3 : Int32)))] [(.int (1 : Int32)), (.int (p0 &&& (3 : Int32)))])) (B := s₁.setTop (mkF m 27 #[.val (.int p0), .val (.int (p0 &&& (3 : Int32)))] [(.int ((((p0.toUInt32 >>> ((2 : Int32) &&& 31).toUInt32).toInt32) &&& (255 : Int32)).toUInt32.toUInt16.toUInt32.toInt32))])) (fun t k => ?_) ?_
      · show Steps p.tables e below (s₁.setTop (mkF m 13 #[.val (.int p0), .val (.int (p0 &&& (3 : Int32)))] [(.int (1 : Int32)), (.int (p0 &&& (3 : Int32)))])) t
        refine XS.icmpYes X0.here hx rfl (pc0 := 13) (pc' := 19) rfl (hb hby d1_13) rfl (feq hc2).2 (by decide) (by decide) ?_
        refine XS.iloadN X0.here hx rfl (hb hby d1_19) rfl ?_
        refine XS.iconst X0.here hx rfl (hb hby d1_20) ?_
        refine XS.iushr X0.here hx rfl (hb hby d1_21) rfl ?_
        refine XS.sipush X0.here hx rfl (hb hby d1_22) ?_
        refine XS.iand X0.here hx rfl (hb hby d1_25) rfl ?_
        refine XS.i2c X0.here hx rfl (hb hby d1_26) rfl ?_
        exact k
      obtain ⟨fs, hr, hrun, hended, hW, hsame⟩ := X0.leave (v := some (.int (nar .char ((((p0.toUInt32 >>> ((2 : Int32) &&& 31).toUInt32).toInt32) &&& (255 : Int32)).toUInt32.toUInt16.toUInt32.toInt32)))) (fun h => by rw [Bd.returns] at h; cases h) hlk
      refine ⟨_, _, ?_, hrun, hended, _, _, rfl, ?_, ⟨_, rfl⟩, hW, hsame.mono (by decide) (by decide)⟩
      · show Steps p.tables e below (s₁.setTop (mkF m 27 #[.val (.int p0), .val (.int (p0 &&& (3 : Int32)))] [(.int ((((p0.toUInt32 >>> ((2 : Int32) &&& 31).toUInt32).toInt32) &&& (255 : Int32)).toUInt32.toUInt16.toUInt32.toInt32))])) _
        exact retN X0 hx (t := .char) Bd.returns (by simp) (hb hby d1_27) hr
      · show Qrm1 Z p0 h0 n0 _ (s₁.setFrames fs).heap _
        rw [show (s₁.setFrames fs).heap = h0 from e0]
        exact ⟨congrArg (fun z => some (Value.int z)) (by rw [own_draw, if_neg hc1, if_neg hc2]; try rfl), N0, rfl⟩

theorem own_drawC (x : Int32) : OwnCh (own_draw x) := by
  unfold own_draw
  split
  · exact ⟨by decide, by decide⟩
  · split
    · exact ⟨by decide, by decide⟩
    · exact own_ch (own_ch (own_msk _))
theorem own_ix (x : Int32) : (x &&& (2147483647 : Int32)) % (5 : Int32) = 0 ∨ (x &&& (2147483647 : Int32)) % (5 : Int32) = 1 ∨ (x &&& (2147483647 : Int32)) % (5 : Int32) = 2 ∨ (x &&& (2147483647 : Int32)) % (5 : Int32) = 3 ∨ (x &&& (2147483647 : Int32)) % (5 : Int32) = 4 := by
  have h1 := c_mask x 2147483647 31 (by decide) (by decide)
  have h2 := (c_irem (x &&& 2147483647) 5 5 (by decide)).1
  have : ((x &&& (2147483647 : Int32)) % (5 : Int32)).toInt = 0 ∨ ((x &&& (2147483647 : Int32)) % (5 : Int32)).toInt = 1 ∨ ((x &&& (2147483647 : Int32)) % (5 : Int32)).toInt = 2 ∨ ((x &&& (2147483647 : Int32)) % (5 : Int32)).toInt = 3 ∨ ((x &&& (2147483647 : Int32)) % (5 : Int32)).toInt = 4 := by omega
  rcases this with z | z | z | z | z
  · exact Or.inl (Int32.toInt_inj.mp (z.trans (by decide)))
  · exact Or.inr (Or.inl (Int32.toInt_inj.mp (z.trans (by decide))))
  · exact Or.inr (Or.inr (Or.inl (Int32.toInt_inj.mp (z.trans (by decide)))))
  · exact Or.inr (Or.inr (Or.inr (Or.inl (Int32.toInt_inj.mp (z.trans (by decide))))))
  · exact Or.inr (Or.inr (Or.inr (Or.inr (Int32.toInt_inj.mp (z.trans (by decide))))))

theorem own_fin1_0 (k0 k1 k2 k3 st : Int32) (hst : (st = (0 : Int32) ∧ own_wb k0 = false) ∨ (st = (1 : Int32) ∧ own_wb k0 = true ∧ True)) (g0 : own_wb k0 = true) : (st - st = Int32.ofNat (own_trim ([k0] : List Int32)).length) ∧ (OwnSame k0 k1 k2 k3 st (own_trim ([k0] : List Int32)) 0) ∧ (OwnSame k0 k1 k2 k3 st (own_trim ([k0] : List Int32)) 1) ∧ (OwnSame k0 k1 k2 k3 st (own_trim ([k0] : List Int32)) 2) ∧ (OwnSame k0 k1 k2 k3 st (own_trim ([k0] : List Int32)) 3) := by
  rcases hst with ⟨rfl, e0x⟩ | ⟨rfl, e0x, -⟩
  · cases e0x.symm.trans g0
  · have et : own_trim ([k0] : List Int32) = ([] : List Int32) := by simp [own_trim, e0x, g0]
    rw [et]; exact ⟨show (1 : Int32) - (1 : Int32) = (0 : Int32) from by decide, fun q => absurd q (show ¬ ((0 : Int32) < (0 : Int32)) from by decide), fun q => absurd q (show ¬ ((1 : Int32) < (0 : Int32)) from by decide), fun q => absurd q (show ¬ ((2 : Int32) < (0 : Int32)) from by decide), fun q => absurd q (show ¬ ((3 : Int32) < (0 : Int32)) from by decide)⟩
theorem own_fin1_1 (k0 k1 k2 k3 st : Int32) (hst : (st = (0 : Int32) ∧ own_wb k0 = false) ∨ (st = (1 : Int32) ∧ own_wb k0 = true ∧ True)) (g0 : own_wb k0 = false) : ((1 : Int32) - st = Int32.ofNat (own_trim ([k0] : List Int32)).length) ∧ (OwnSame k0 k1 k2 k3 st (own_trim ([k0] : List Int32)) 0) ∧ (OwnSame k0 k1 k2 k3 st (own_trim ([k0] : List Int32)) 1) ∧ (OwnSame k0 k1 k2 k3 st (own_trim ([k0] : List Int32)) 2) ∧ (OwnSame k0 k1 k2 k3 st (own_trim ([k0] : List Int32)) 3) := by
  rcases hst with ⟨rfl, e0x⟩ | ⟨rfl, e0x, -⟩
  · have et : own_trim ([k0] : List Int32) = ([k0] : List Int32) := by simp [own_trim, e0x, g0]
    rw [et]; exact ⟨show (1 : Int32) - (0 : Int32) = (1 : Int32) from by decide, fun _ => Or.inl ⟨by decide, rfl⟩, fun q => absurd q (show ¬ ((1 : Int32) < (1 : Int32)) from by decide), fun q => absurd q (show ¬ ((2 : Int32) < (1 : Int32)) from by decide), fun q => absurd q (show ¬ ((3 : Int32) < (1 : Int32)) from by decide)⟩
  · cases e0x.symm.trans g0
theorem own_fin2_0 (k0 k1 k2 k3 st : Int32) (hst : (st = (0 : Int32) ∧ own_wb k0 = false) ∨ (st = (1 : Int32) ∧ own_wb k0 = true ∧ own_wb k1 = false) ∨ (st = (2 : Int32) ∧ own_wb k0 = true ∧ own_wb k1 = true ∧ True)) (g0 : own_wb k0 = true) (g1 : own_wb k1 = true) : (st - st = Int32.ofNat (own_trim ([k0, k1] : List Int32)).length) ∧ (OwnSame k0 k1 k2 k3 st (own_trim ([k0, k1] : List Int32)) 0) ∧ (OwnSame k0 k1 k2 k3 st (own_trim ([k0, k1] : List Int32)) 1) ∧ (OwnSame k0 k1 k2 k3 st (own_trim ([k0, k1] : List Int32)) 2) ∧ (OwnSame k0 k1 k2 k3 st (own_trim ([k0, k1] : List Int32)) 3) := by
  rcases hst with ⟨rfl, e0x⟩ | ⟨rfl, e0x, e1x⟩ | ⟨rfl, e0x, e1x, -⟩
  · cases e0x.symm.trans g0
  · cases e1x.symm.trans g1
  · have et : own_trim ([k0, k1] : List Int32) = ([] : List Int32) := by simp [own_trim, e0x, e1x, g0, g1]
    rw [et]; exact ⟨show (2 : Int32) - (2 : Int32) = (0 : Int32) from by decide, fun q => absurd q (show ¬ ((0 : Int32) < (0 : Int32)) from by decide), fun q => absurd q (show ¬ ((1 : Int32) < (0 : Int32)) from by decide), fun q => absurd q (show ¬ ((2 : Int32) < (0 : Int32)) from by decide), fun q => absurd q (show ¬ ((3 : Int32) < (0 : Int32)) from by decide)⟩
theorem own_fin2_1 (k0 k1 k2 k3 st : Int32) (hst : (st = (0 : Int32) ∧ own_wb k0 = false) ∨ (st = (1 : Int32) ∧ own_wb k0 = true ∧ own_wb k1 = false) ∨ (st = (2 : Int32) ∧ own_wb k0 = true ∧ own_wb k1 = true ∧ True)) (g0 : own_wb k0 = false) (g1 : own_wb k1 = true) : ((1 : Int32) - st = Int32.ofNat (own_trim ([k0, k1] : List Int32)).length) ∧ (OwnSame k0 k1 k2 k3 st (own_trim ([k0, k1] : List Int32)) 0) ∧ (OwnSame k0 k1 k2 k3 st (own_trim ([k0, k1] : List Int32)) 1) ∧ (OwnSame k0 k1 k2 k3 st (own_trim ([k0, k1] : List Int32)) 2) ∧ (OwnSame k0 k1 k2 k3 st (own_trim ([k0, k1] : List Int32)) 3) := by
  rcases hst with ⟨rfl, e0x⟩ | ⟨rfl, e0x, e1x⟩ | ⟨rfl, e0x, e1x, -⟩
  · have et : own_trim ([k0, k1] : List Int32) = ([k0] : List Int32) := by simp [own_trim, e0x, g0, g1]
    rw [et]; exact ⟨show (1 : Int32) - (0 : Int32) = (1 : Int32) from by decide, fun _ => Or.inl ⟨by decide, rfl⟩, fun q => absurd q (show ¬ ((1 : Int32) < (1 : Int32)) from by decide), fun q => absurd q (show ¬ ((2 : Int32) < (1 : Int32)) from by decide), fun q => absurd q (show ¬ ((3 : Int32) < (1 : Int32)) from by decide)⟩
  · cases e0x.symm.trans g0
  · cases e0x.symm.trans g0
theorem own_fin2_2 (k0 k1 k2 k3 st : Int32) (hst : (st = (0 : Int32) ∧ own_wb k0 = false) ∨ (st = (1 : Int32) ∧ own_wb k0 = true ∧ own_wb k1 = false) ∨ (st = (2 : Int32) ∧ own_wb k0 = true ∧ own_wb k1 = true ∧ True)) (g1 : own_wb k1 = false) : ((2 : Int32) - st = Int32.ofNat (own_trim ([k0, k1] : List Int32)).length) ∧ (OwnSame k0 k1 k2 k3 st (own_trim ([k0, k1] : List Int32)) 0) ∧ (OwnSame k0 k1 k2 k3 st (own_trim ([k0, k1] : List Int32)) 1) ∧ (OwnSame k0 k1 k2 k3 st (own_trim ([k0, k1] : List Int32)) 2) ∧ (OwnSame k0 k1 k2 k3 st (own_trim ([k0, k1] : List Int32)) 3) := by
  rcases hst with ⟨rfl, e0x⟩ | ⟨rfl, e0x, e1x⟩ | ⟨rfl, e0x, e1x, -⟩
  · have et : own_trim ([k0, k1] : List Int32) = ([k0, k1] : List Int32) := by simp [own_trim, e0x, g1]
    rw [et]; exact ⟨show (2 : Int32) - (0 : Int32) = (2 : Int32) from by decide, fun _ => Or.inl ⟨by decide, rfl⟩, fun _ => Or.inr (Or.inl ⟨by decide, rfl⟩), fun q => absurd q (show ¬ ((2 : Int32) < (2 : Int32)) from by decide), fun q => absurd q (show ¬ ((3 : Int32) < (2 : Int32)) from by decide)⟩
  · have et : own_trim ([k0, k1] : List Int32) = ([k1] : List Int32) := by simp [own_trim, e0x, e1x, g1]
    rw [et]; exact ⟨show (2 : Int32) - (1 : Int32) = (1 : Int32) from by decide, fun _ => Or.inr (Or.inl ⟨by decide, rfl⟩), fun q => absurd q (show ¬ ((1 : Int32) < (1 : Int32)) from by decide), fun q => absurd q (show ¬ ((2 : Int32) < (1 : Int32)) from by decide), fun q => absurd q (show ¬ ((3 : Int32) < (1 : Int32)) from by decide)⟩
  · cases e1x.symm.trans g1
theorem own_fin3_0 (k0 k1 k2 k3 st : Int32) (hst : (st = (0 : Int32) ∧ own_wb k0 = false) ∨ (st = (1 : Int32) ∧ own_wb k0 = true ∧ own_wb k1 = false) ∨ (st = (2 : Int32) ∧ own_wb k0 = true ∧ own_wb k1 = true ∧ own_wb k2 = false) ∨ (st = (3 : Int32) ∧ own_wb k0 = true ∧ own_wb k1 = true ∧ own_wb k2 = true ∧ True)) (g0 : own_wb k0 = true) (g1 : own_wb k1 = true) (g2 : own_wb k2 = true) : (st - st = Int32.ofNat (own_trim ([k0, k1, k2] : List Int32)).length) ∧ (OwnSame k0 k1 k2 k3 st (own_trim ([k0, k1, k2] : List Int32)) 0) ∧ (OwnSame k0 k1 k2 k3 st (own_trim ([k0, k1, k2] : List Int32)) 1) ∧ (OwnSame k0 k1 k2 k3 st (own_trim ([k0, k1, k2] : List Int32)) 2) ∧ (OwnSame k0 k1 k2 k3 st (own_trim ([k0, k1, k2] : List Int32)) 3) := by
  rcases hst with ⟨rfl, e0x⟩ | ⟨rfl, e0x, e1x⟩ | ⟨rfl, e0x, e1x, e2x⟩ | ⟨rfl, e0x, e1x, e2x, -⟩
  · cases e0x.symm.trans g0
  · cases e1x.symm.trans g1
  · cases e2x.symm.trans g2
  · have et : own_trim ([k0, k1, k2] : List Int32) = ([] : List Int32) := by simp [own_trim, e0x, e1x, e2x, g0, g1, g2]
    rw [et]; exact ⟨show (3 : Int32) - (3 : Int32) = (0 : Int32) from by decide, fun q => absurd q (show ¬ ((0 : Int32) < (0 : Int32)) from by decide), fun q => absurd q (show ¬ ((1 : Int32) < (0 : Int32)) from by decide), fun q => absurd q (show ¬ ((2 : Int32) < (0 : Int32)) from by decide), fun q => absurd q (show ¬ ((3 : Int32) < (0 : Int32)) from by decide)⟩
theorem own_fin3_1 (k0 k1 k2 k3 st : Int32) (hst : (st = (0 : Int32) ∧ own_wb k0 = false) ∨ (st = (1 : Int32) ∧ own_wb k0 = true ∧ own_wb k1 = false) ∨ (st = (2 : Int32) ∧ own_wb k0 = true ∧ own_wb k1 = true ∧ own_wb k2 = false) ∨ (st = (3 : Int32) ∧ own_wb k0 = true ∧ own_wb k1 = true ∧ own_wb k2 = true ∧ True)) (g0 : own_wb k0 = false) (g1 : own_wb k1 = true) (g2 : own_wb k2 = true) : ((1 : Int32) - st = Int32.ofNat (own_trim ([k0, k1, k2] : List Int32)).length) ∧ (OwnSame k0 k1 k2 k3 st (own_trim ([k0, k1, k2] : List Int32)) 0) ∧ (OwnSame k0 k1 k2 k3 st (own_trim ([k0, k1, k2] : List Int32)) 1) ∧ (OwnSame k0 k1 k2 k3 st (own_trim ([k0, k1, k2] : List Int32)) 2) ∧ (OwnSame k0 k1 k2 k3 st (own_trim ([k0, k1, k2] : List Int32)) 3) := by
  rcases hst with ⟨rfl, e0x⟩ | ⟨rfl, e0x, e1x⟩ | ⟨rfl, e0x, e1x, e2x⟩ | ⟨rfl, e0x, e1x, e2x, -⟩
  · have et : own_trim ([k0, k1, k2] : List Int32) = ([k0] : List Int32) := by simp [own_trim, e0x, g0, g1, g2]
    rw [et]; exact ⟨show (1 : Int32) - (0 : Int32) = (1 : Int32) from by decide, fun _ => Or.inl ⟨by decide, rfl⟩, fun q => absurd q (show ¬ ((1 : Int32) < (1 : Int32)) from by decide), fun q => absurd q (show ¬ ((2 : Int32) < (1 : Int32)) from by decide), fun q => absurd q (show ¬ ((3 : Int32) < (1 : Int32)) from by decide)⟩
  · cases e0x.symm.trans g0
  · cases e0x.symm.trans g0
  · cases e0x.symm.trans g0
theorem own_fin3_2 (k0 k1 k2 k3 st : Int32) (hst : (st = (0 : Int32) ∧ own_wb k0 = false) ∨ (st = (1 : Int32) ∧ own_wb k0 = true ∧ own_wb k1 = false) ∨ (st = (2 : Int32) ∧ own_wb k0 = true ∧ own_wb k1 = true ∧ own_wb k2 = false) ∨ (st = (3 : Int32) ∧ own_wb k0 = true ∧ own_wb k1 = true ∧ own_wb k2 = true ∧ True)) (g1 : own_wb k1 = false) (g2 : own_wb k2 = true) : ((2 : Int32) - st = Int32.ofNat (own_trim ([k0, k1, k2] : List Int32)).length) ∧ (OwnSame k0 k1 k2 k3 st (own_trim ([k0, k1, k2] : List Int32)) 0) ∧ (OwnSame k0 k1 k2 k3 st (own_trim ([k0, k1, k2] : List Int32)) 1) ∧ (OwnSame k0 k1 k2 k3 st (own_trim ([k0, k1, k2] : List Int32)) 2) ∧ (OwnSame k0 k1 k2 k3 st (own_trim ([k0, k1, k2] : List Int32)) 3) := by
  rcases hst with ⟨rfl, e0x⟩ | ⟨rfl, e0x, e1x⟩ | ⟨rfl, e0x, e1x, e2x⟩ | ⟨rfl, e0x, e1x, e2x, -⟩
  · have et : own_trim ([k0, k1, k2] : List Int32) = ([k0, k1] : List Int32) := by simp [own_trim, e0x, g1, g2]
    rw [et]; exact ⟨show (2 : Int32) - (0 : Int32) = (2 : Int32) from by decide, fun _ => Or.inl ⟨by decide, rfl⟩, fun _ => Or.inr (Or.inl ⟨by decide, rfl⟩), fun q => absurd q (show ¬ ((2 : Int32) < (2 : Int32)) from by decide), fun q => absurd q (show ¬ ((3 : Int32) < (2 : Int32)) from by decide)⟩
  · have et : own_trim ([k0, k1, k2] : List Int32) = ([k1] : List Int32) := by simp [own_trim, e0x, e1x, g1, g2]
    rw [et]; exact ⟨show (2 : Int32) - (1 : Int32) = (1 : Int32) from by decide, fun _ => Or.inr (Or.inl ⟨by decide, rfl⟩), fun q => absurd q (show ¬ ((1 : Int32) < (1 : Int32)) from by decide), fun q => absurd q (show ¬ ((2 : Int32) < (1 : Int32)) from by decide), fun q => absurd q (show ¬ ((3 : Int32) < (1 : Int32)) from by decide)⟩
  · cases e1x.symm.trans g1
  · cases e1x.symm.trans g1
theorem own_fin3_3 (k0 k1 k2 k3 st : Int32) (hst : (st = (0 : Int32) ∧ own_wb k0 = false) ∨ (st = (1 : Int32) ∧ own_wb k0 = true ∧ own_wb k1 = false) ∨ (st = (2 : Int32) ∧ own_wb k0 = true ∧ own_wb k1 = true ∧ own_wb k2 = false) ∨ (st = (3 : Int32) ∧ own_wb k0 = true ∧ own_wb k1 = true ∧ own_wb k2 = true ∧ True)) (g2 : own_wb k2 = false) : ((3 : Int32) - st = Int32.ofNat (own_trim ([k0, k1, k2] : List Int32)).length) ∧ (OwnSame k0 k1 k2 k3 st (own_trim ([k0, k1, k2] : List Int32)) 0) ∧ (OwnSame k0 k1 k2 k3 st (own_trim ([k0, k1, k2] : List Int32)) 1) ∧ (OwnSame k0 k1 k2 k3 st (own_trim ([k0, k1, k2] : List Int32)) 2) ∧ (OwnSame k0 k1 k2 k3 st (own_trim ([k0, k1, k2] : List Int32)) 3) := by
  rcases hst with ⟨rfl, e0x⟩ | ⟨rfl, e0x, e1x⟩ | ⟨rfl, e0x, e1x, e2x⟩ | ⟨rfl, e0x, e1x, e2x, -⟩
  · have et : own_trim ([k0, k1, k2] : List Int32) = ([k0, k1, k2] : List Int32) := by simp [own_trim, e0x, g2]
    rw [et]; exact ⟨show (3 : Int32) - (0 : Int32) = (3 : Int32) from by decide, fun _ => Or.inl ⟨by decide, rfl⟩, fun _ => Or.inr (Or.inl ⟨by decide, rfl⟩), fun _ => Or.inr (Or.inr (Or.inl ⟨by decide, rfl⟩)), fun q => absurd q (show ¬ ((3 : Int32) < (3 : Int32)) from by decide)⟩
  · have et : own_trim ([k0, k1, k2] : List Int32) = ([k1, k2] : List Int32) := by simp [own_trim, e0x, e1x, g2]
    rw [et]; exact ⟨show (3 : Int32) - (1 : Int32) = (2 : Int32) from by decide, fun _ => Or.inr (Or.inl ⟨by decide, rfl⟩), fun _ => Or.inr (Or.inr (Or.inl ⟨by decide, rfl⟩)), fun q => absurd q (show ¬ ((2 : Int32) < (2 : Int32)) from by decide), fun q => absurd q (show ¬ ((3 : Int32) < (2 : Int32)) from by decide)⟩
  · have et : own_trim ([k0, k1, k2] : List Int32) = ([k2] : List Int32) := by simp [own_trim, e0x, e1x, e2x, g2]
    rw [et]; exact ⟨show (3 : Int32) - (2 : Int32) = (1 : Int32) from by decide, fun _ => Or.inr (Or.inr (Or.inl ⟨by decide, rfl⟩)), fun q => absurd q (show ¬ ((1 : Int32) < (1 : Int32)) from by decide), fun q => absurd q (show ¬ ((2 : Int32) < (1 : Int32)) from by decide), fun q => absurd q (show ¬ ((3 : Int32) < (1 : Int32)) from by decide)⟩
  · cases e2x.symm.trans g2
theorem own_fin4_0 (k0 k1 k2 k3 st : Int32) (hst : (st = (0 : Int32) ∧ own_wb k0 = false) ∨ (st = (1 : Int32) ∧ own_wb k0 = true ∧ own_wb k1 = false) ∨ (st = (2 : Int32) ∧ own_wb k0 = true ∧ own_wb k1 = true ∧ own_wb k2 = false) ∨ (st = (3 : Int32) ∧ own_wb k0 = true ∧ own_wb k1 = true ∧ own_wb k2 = true ∧ own_wb k3 = false) ∨ (st = (4 : Int32) ∧ own_wb k0 = true ∧ own_wb k1 = true ∧ own_wb k2 = true ∧ own_wb k3 = true ∧ True)) (g0 : own_wb k0 = true) (g1 : own_wb k1 = true) (g2 : own_wb k2 = true) (g3 : own_wb k3 = true) : (st - st = Int32.ofNat (own_trim ([k0, k1, k2, k3] : List Int32)).length) ∧ (OwnSame k0 k1 k2 k3 st (own_trim ([k0, k1, k2, k3] : List Int32)) 0) ∧ (OwnSame k0 k1 k2 k3 st (own_trim ([k0, k1, k2, k3] : List Int32)) 1) ∧ (OwnSame k0 k1 k2 k3 st (own_trim ([k0, k1, k2, k3] : List Int32)) 2) ∧ (OwnSame k0 k1 k2 k3 st (own_trim ([k0, k1, k2, k3] : List Int32)) 3) := by
  rcases hst with ⟨rfl, e0x⟩ | ⟨rfl, e0x, e1x⟩ | ⟨rfl, e0x, e1x, e2x⟩ | ⟨rfl, e0x, e1x, e2x, e3x⟩ | ⟨rfl, e0x, e1x, e2x, e3x, -⟩
  · cases e0x.symm.trans g0
  · cases e1x.symm.trans g1
  · cases e2x.symm.trans g2
  · cases e3x.symm.trans g3
  · have et : own_trim ([k0, k1, k2, k3] : List Int32) = ([] : List Int32) := by simp [own_trim, e0x, e1x, e2x, e3x, g0, g1, g2, g3]
    rw [et]; exact ⟨show (4 : Int32) - (4 : Int32) = (0 : Int32) from by decide, fun q => absurd q (show ¬ ((0 : Int32) < (0 : Int32)) from by decide), fun q => absurd q (show ¬ ((1 : Int32) < (0 : Int32)) from by decide), fun q => absurd q (show ¬ ((2 : Int32) < (0 : Int32)) from by decide), fun q => absurd q (show ¬ ((3 : Int32) < (0 : Int32)) from by decide)⟩
theorem own_fin4_1 (k0 k1 k2 k3 st : Int32) (hst : (st = (0 : Int32) ∧ own_wb k0 = false) ∨ (st = (1 : Int32) ∧ own_wb k0 = true ∧ own_wb k1 = false) ∨ (st = (2 : Int32) ∧ own_wb k0 = true ∧ own_wb k1 = true ∧ own_wb k2 = false) ∨ (st = (3 : Int32) ∧ own_wb k0 = true ∧ own_wb k1 = true ∧ own_wb k2 = true ∧ own_wb k3 = false) ∨ (st = (4 : Int32) ∧ own_wb k0 = true ∧ own_wb k1 = true ∧ own_wb k2 = true ∧ own_wb k3 = true ∧ True)) (g0 : own_wb k0 = false) (g1 : own_wb k1 = true) (g2 : own_wb k2 = true) (g3 : own_wb k3 = true) : ((1 : Int32) - st = Int32.ofNat (own_trim ([k0, k1, k2, k3] : List Int32)).length) ∧ (OwnSame k0 k1 k2 k3 st (own_trim ([k0, k1, k2, k3] : List Int32)) 0) ∧ (OwnSame k0 k1 k2 k3 st (own_trim ([k0, k1, k2, k3] : List Int32)) 1) ∧ (OwnSame k0 k1 k2 k3 st (own_trim ([k0, k1, k2, k3] : List Int32)) 2) ∧ (OwnSame k0 k1 k2 k3 st (own_trim ([k0, k1, k2, k3] : List Int32)) 3) := by
  rcases hst with ⟨rfl, e0x⟩ | ⟨rfl, e0x, e1x⟩ | ⟨rfl, e0x, e1x, e2x⟩ | ⟨rfl, e0x, e1x, e2x, e3x⟩ | ⟨rfl, e0x, e1x, e2x, e3x, -⟩
  · have et : own_trim ([k0, k1, k2, k3] : List Int32) = ([k0] : List Int32) := by simp [own_trim, e0x, g0, g1, g2, g3]
    rw [et]; exact ⟨show (1 : Int32) - (0 : Int32) = (1 : Int32) from by decide, fun _ => Or.inl ⟨by decide, rfl⟩, fun q => absurd q (show ¬ ((1 : Int32) < (1 : Int32)) from by decide), fun q => absurd q (show ¬ ((2 : Int32) < (1 : Int32)) from by decide), fun q => absurd q (show ¬ ((3 : Int32) < (1 : Int32)) from by decide)⟩
  · cases e0x.symm.trans g0
  · cases e0x.symm.trans g0
  · cases e0x.symm.trans g0
  · cases e0x.symm.trans g0
theorem own_fin4_2 (k0 k1 k2 k3 st : Int32) (hst : (st = (0 : Int32) ∧ own_wb k0 = false) ∨ (st = (1 : Int32) ∧ own_wb k0 = true ∧ own_wb k1 = false) ∨ (st = (2 : Int32) ∧ own_wb k0 = true ∧ own_wb k1 = true ∧ own_wb k2 = false) ∨ (st = (3 : Int32) ∧ own_wb k0 = true ∧ own_wb k1 = true ∧ own_wb k2 = true ∧ own_wb k3 = false) ∨ (st = (4 : Int32) ∧ own_wb k0 = true ∧ own_wb k1 = true ∧ own_wb k2 = true ∧ own_wb k3 = true ∧ True)) (g1 : own_wb k1 = false) (g2 : own_wb k2 = true) (g3 : own_wb k3 = true) : ((2 : Int32) - st = Int32.ofNat (own_trim ([k0, k1, k2, k3] : List Int32)).length) ∧ (OwnSame k0 k1 k2 k3 st (own_trim ([k0, k1, k2, k3] : List Int32)) 0) ∧ (OwnSame k0 k1 k2 k3 st (own_trim ([k0, k1, k2, k3] : List Int32)) 1) ∧ (OwnSame k0 k1 k2 k3 st (own_trim ([k0, k1, k2, k3] : List Int32)) 2) ∧ (OwnSame k0 k1 k2 k3 st (own_trim ([k0, k1, k2, k3] : List Int32)) 3) := by
  rcases hst with ⟨rfl, e0x⟩ | ⟨rfl, e0x, e1x⟩ | ⟨rfl, e0x, e1x, e2x⟩ | ⟨rfl, e0x, e1x, e2x, e3x⟩ | ⟨rfl, e0x, e1x, e2x, e3x, -⟩
  · have et : own_trim ([k0, k1, k2, k3] : List Int32) = ([k0, k1] : List Int32) := by simp [own_trim, e0x, g1, g2, g3]
    rw [et]; exact ⟨show (2 : Int32) - (0 : Int32) = (2 : Int32) from by decide, fun _ => Or.inl ⟨by decide, rfl⟩, fun _ => Or.inr (Or.inl ⟨by decide, rfl⟩), fun q => absurd q (show ¬ ((2 : Int32) < (2 : Int32)) from by decide), fun q => absurd q (show ¬ ((3 : Int32) < (2 : Int32)) from by decide)⟩
  · have et : own_trim ([k0, k1, k2, k3] : List Int32) = ([k1] : List Int32) := by simp [own_trim, e0x, e1x, g1, g2, g3]
    rw [et]; exact ⟨show (2 : Int32) - (1 : Int32) = (1 : Int32) from by decide, fun _ => Or.inr (Or.inl ⟨by decide, rfl⟩), fun q => absurd q (show ¬ ((1 : Int32) < (1 : Int32)) from by decide), fun q => absurd q (show ¬ ((2 : Int32) < (1 : Int32)) from by decide), fun q => absurd q (show ¬ ((3 : Int32) < (1 : Int32)) from by decide)⟩
  · cases e1x.symm.trans g1
  · cases e1x.symm.trans g1
  · cases e1x.symm.trans g1
theorem own_fin4_3 (k0 k1 k2 k3 st : Int32) (hst : (st = (0 : Int32) ∧ own_wb k0 = false) ∨ (st = (1 : Int32) ∧ own_wb k0 = true ∧ own_wb k1 = false) ∨ (st = (2 : Int32) ∧ own_wb k0 = true ∧ own_wb k1 = true ∧ own_wb k2 = false) ∨ (st = (3 : Int32) ∧ own_wb k0 = true ∧ own_wb k1 = true ∧ own_wb k2 = true ∧ own_wb k3 = false) ∨ (st = (4 : Int32) ∧ own_wb k0 = true ∧ own_wb k1 = true ∧ own_wb k2 = true ∧ own_wb k3 = true ∧ True)) (g2 : own_wb k2 = false) (g3 : own_wb k3 = true) : ((3 : Int32) - st = Int32.ofNat (own_trim ([k0, k1, k2, k3] : List Int32)).length) ∧ (OwnSame k0 k1 k2 k3 st (own_trim ([k0, k1, k2, k3] : List Int32)) 0) ∧ (OwnSame k0 k1 k2 k3 st (own_trim ([k0, k1, k2, k3] : List Int32)) 1) ∧ (OwnSame k0 k1 k2 k3 st (own_trim ([k0, k1, k2, k3] : List Int32)) 2) ∧ (OwnSame k0 k1 k2 k3 st (own_trim ([k0, k1, k2, k3] : List Int32)) 3) := by
  rcases hst with ⟨rfl, e0x⟩ | ⟨rfl, e0x, e1x⟩ | ⟨rfl, e0x, e1x, e2x⟩ | ⟨rfl, e0x, e1x, e2x, e3x⟩ | ⟨rfl, e0x, e1x, e2x, e3x, -⟩
  · have et : own_trim ([k0, k1, k2, k3] : List Int32) = ([k0, k1, k2] : List Int32) := by simp [own_trim, e0x, g2, g3]
    rw [et]; exact ⟨show (3 : Int32) - (0 : Int32) = (3 : Int32) from by decide, fun _ => Or.inl ⟨by decide, rfl⟩, fun _ => Or.inr (Or.inl ⟨by decide, rfl⟩), fun _ => Or.inr (Or.inr (Or.inl ⟨by decide, rfl⟩)), fun q => absurd q (show ¬ ((3 : Int32) < (3 : Int32)) from by decide)⟩
  · have et : own_trim ([k0, k1, k2, k3] : List Int32) = ([k1, k2] : List Int32) := by simp [own_trim, e0x, e1x, g2, g3]
    rw [et]; exact ⟨show (3 : Int32) - (1 : Int32) = (2 : Int32) from by decide, fun _ => Or.inr (Or.inl ⟨by decide, rfl⟩), fun _ => Or.inr (Or.inr (Or.inl ⟨by decide, rfl⟩)), fun q => absurd q (show ¬ ((2 : Int32) < (2 : Int32)) from by decide), fun q => absurd q (show ¬ ((3 : Int32) < (2 : Int32)) from by decide)⟩
  · have et : own_trim ([k0, k1, k2, k3] : List Int32) = ([k2] : List Int32) := by simp [own_trim, e0x, e1x, e2x, g2, g3]
    rw [et]; exact ⟨show (3 : Int32) - (2 : Int32) = (1 : Int32) from by decide, fun _ => Or.inr (Or.inr (Or.inl ⟨by decide, rfl⟩)), fun q => absurd q (show ¬ ((1 : Int32) < (1 : Int32)) from by decide), fun q => absurd q (show ¬ ((2 : Int32) < (1 : Int32)) from by decide), fun q => absurd q (show ¬ ((3 : Int32) < (1 : Int32)) from by decide)⟩
  · cases e2x.symm.trans g2
  · cases e2x.symm.trans g2
theorem own_fin4_4 (k0 k1 k2 k3 st : Int32) (hst : (st = (0 : Int32) ∧ own_wb k0 = false) ∨ (st = (1 : Int32) ∧ own_wb k0 = true ∧ own_wb k1 = false) ∨ (st = (2 : Int32) ∧ own_wb k0 = true ∧ own_wb k1 = true ∧ own_wb k2 = false) ∨ (st = (3 : Int32) ∧ own_wb k0 = true ∧ own_wb k1 = true ∧ own_wb k2 = true ∧ own_wb k3 = false) ∨ (st = (4 : Int32) ∧ own_wb k0 = true ∧ own_wb k1 = true ∧ own_wb k2 = true ∧ own_wb k3 = true ∧ True)) (g3 : own_wb k3 = false) : ((4 : Int32) - st = Int32.ofNat (own_trim ([k0, k1, k2, k3] : List Int32)).length) ∧ (OwnSame k0 k1 k2 k3 st (own_trim ([k0, k1, k2, k3] : List Int32)) 0) ∧ (OwnSame k0 k1 k2 k3 st (own_trim ([k0, k1, k2, k3] : List Int32)) 1) ∧ (OwnSame k0 k1 k2 k3 st (own_trim ([k0, k1, k2, k3] : List Int32)) 2) ∧ (OwnSame k0 k1 k2 k3 st (own_trim ([k0, k1, k2, k3] : List Int32)) 3) := by
  rcases hst with ⟨rfl, e0x⟩ | ⟨rfl, e0x, e1x⟩ | ⟨rfl, e0x, e1x, e2x⟩ | ⟨rfl, e0x, e1x, e2x, e3x⟩ | ⟨rfl, e0x, e1x, e2x, e3x, -⟩
  · have et : own_trim ([k0, k1, k2, k3] : List Int32) = ([k0, k1, k2, k3] : List Int32) := by simp [own_trim, e0x, g3]
    rw [et]; exact ⟨show (4 : Int32) - (0 : Int32) = (4 : Int32) from by decide, fun _ => Or.inl ⟨by decide, rfl⟩, fun _ => Or.inr (Or.inl ⟨by decide, rfl⟩), fun _ => Or.inr (Or.inr (Or.inl ⟨by decide, rfl⟩)), fun _ => Or.inr (Or.inr (Or.inr (⟨by decide, rfl⟩)))⟩
  · have et : own_trim ([k0, k1, k2, k3] : List Int32) = ([k1, k2, k3] : List Int32) := by simp [own_trim, e0x, e1x, g3]
    rw [et]; exact ⟨show (4 : Int32) - (1 : Int32) = (3 : Int32) from by decide, fun _ => Or.inr (Or.inl ⟨by decide, rfl⟩), fun _ => Or.inr (Or.inr (Or.inl ⟨by decide, rfl⟩)), fun _ => Or.inr (Or.inr (Or.inr (⟨by decide, rfl⟩))), fun q => absurd q (show ¬ ((3 : Int32) < (3 : Int32)) from by decide)⟩
  · have et : own_trim ([k0, k1, k2, k3] : List Int32) = ([k2, k3] : List Int32) := by simp [own_trim, e0x, e1x, e2x, g3]
    rw [et]; exact ⟨show (4 : Int32) - (2 : Int32) = (2 : Int32) from by decide, fun _ => Or.inr (Or.inr (Or.inl ⟨by decide, rfl⟩)), fun _ => Or.inr (Or.inr (Or.inr (⟨by decide, rfl⟩))), fun q => absurd q (show ¬ ((2 : Int32) < (2 : Int32)) from by decide), fun q => absurd q (show ¬ ((3 : Int32) < (2 : Int32)) from by decide)⟩
  · have et : own_trim ([k0, k1, k2, k3] : List Int32) = ([k3] : List Int32) := by simp [own_trim, e0x, e1x, e2x, e3x, g3]
    rw [et]; exact ⟨show (4 : Int32) - (3 : Int32) = (1 : Int32) from by decide, fun _ => Or.inr (Or.inr (Or.inr (⟨by decide, rfl⟩))), fun q => absurd q (show ¬ ((1 : Int32) < (1 : Int32)) from by decide), fun q => absurd q (show ¬ ((2 : Int32) < (1 : Int32)) from by decide), fun q => absurd q (show ¬ ((3 : Int32) < (1 : Int32)) from by decide)⟩
  · cases e3x.symm.trans g3
theorem w27 {Z aw} (hw : OwnHW aw Z) : Cond.before (Jvm.Cond.methodLink "dev/boundaryline/model/HeaderValueTrimPinLaw" (30 : Nat) ({ cls := "dev/boundaryline/model/HeaderValue", name := "trim", desc := "(Ljava/lang/String;)Ljava/lang/String;" } : Jvm.MethodName)) aw Z = true := hw _ (List.mem_of_getElem? (i := 27) rfl)
theorem w30 {Z aw} (hw : OwnHW aw Z) : Cond.before (Jvm.Cond.code ({ cls := "dev/boundaryline/model/HeaderValue", name := "trim", desc := "(Ljava/lang/String;)Ljava/lang/String;" } : Jvm.MethodName) prog_32_method_8_code (3 : Nat) (Option.some (Jvm.ClassFile.FieldType.object "java/lang/String"))) aw Z = true := hw _ (List.mem_of_getElem? (i := 30) rfl)
theorem pd_104 : parseMethodDescriptor "(Ljava/lang/String;)Ljava/lang/String;" = some ⟨[(.object "java/lang/String")], some (.object "java/lang/String")⟩ := by decide +kernel
theorem w28 {Z aw} (hw : OwnHW aw Z) : Cond.before (Jvm.Cond.static ({ cls := "dev/boundaryline/model/HeaderValue", name := "trim", desc := "(Ljava/lang/String;)Ljava/lang/String;" } : Jvm.MethodName)) aw Z = true := hw _ (List.mem_of_getElem? (i := 28) rfl)
theorem w60 {Z aw} (hw : OwnHW aw Z) : Cond.before (Jvm.Cond.methodLink "dev/boundaryline/model/HeaderValueTrimPinLaw" (36 : Nat) ({ cls := "dev/boundaryline/model/HeaderValueTrimPinLaw", name := "same", desc := "(Ljava/lang/String;[CII)Z" } : Jvm.MethodName)) aw Z = true := hw _ (List.mem_of_getElem? (i := 60) rfl)
theorem w62 {Z aw} (hw : OwnHW aw Z) : Cond.before (Jvm.Cond.code ({ cls := "dev/boundaryline/model/HeaderValueTrimPinLaw", name := "same", desc := "(Ljava/lang/String;[CII)Z" } : Jvm.MethodName) method_4_code (4 : Nat) (Option.some Jvm.ClassFile.FieldType.boolean)) aw Z = true := hw _ (List.mem_of_getElem? (i := 62) rfl)
theorem w4 {Z aw} (hw : OwnHW aw Z) : Cond.before (Jvm.Cond.initialized "dev/boundaryline/model/HeaderValueTrimPinLaw") aw Z = true := hw _ (List.mem_of_getElem? (i := 4) rfl)
theorem pd_109 : parseMethodDescriptor "(Ljava/lang/String;[CII)Z" = some ⟨[(.object "java/lang/String"), (.array .char), .int, .int], some .boolean⟩ := by decide +kernel
theorem w61 {Z aw} (hw : OwnHW aw Z) : Cond.before (Jvm.Cond.static ({ cls := "dev/boundaryline/model/HeaderValueTrimPinLaw", name := "same", desc := "(Ljava/lang/String;[CII)Z" } : Jvm.MethodName)) aw Z = true := hw _ (List.mem_of_getElem? (i := 61) rfl)
theorem w73 {Z aw} (hw : OwnHW aw Z) : Cond.before (Jvm.Cond.methodLink "dev/boundaryline/model/HeaderValueTrimPinLaw" (26 : Nat) ({ cls := "dev/boundaryline/model/HeaderValueTrimPinLaw", name := "ws", desc := "(C)Z" } : Jvm.MethodName)) aw Z = true := hw _ (List.mem_of_getElem? (i := 73) rfl)
theorem w75 {Z aw} (hw : OwnHW aw Z) : Cond.before (Jvm.Cond.code ({ cls := "dev/boundaryline/model/HeaderValueTrimPinLaw", name := "ws", desc := "(C)Z" } : Jvm.MethodName) method_3_code (1 : Nat) (Option.some Jvm.ClassFile.FieldType.boolean)) aw Z = true := hw _ (List.mem_of_getElem? (i := 75) rfl)
theorem w74 {Z aw} (hw : OwnHW aw Z) : Cond.before (Jvm.Cond.static ({ cls := "dev/boundaryline/model/HeaderValueTrimPinLaw", name := "ws", desc := "(C)Z" } : Jvm.MethodName)) aw Z = true := hw _ (List.mem_of_getElem? (i := 74) rfl)
theorem w1 {Z aw} (hw : OwnHW aw Z) : Cond.before (Jvm.Cond.arrayClass Jvm.ClassFile.FieldType.char) aw Z = true := hw _ (List.mem_of_getElem? (i := 1) rfl)
theorem w6 {Z aw} (hw : OwnHW aw Z) : Cond.before (Jvm.Cond.classLink "dev/boundaryline/model/HeaderValueTrimPinLaw" (8 : Nat) "java/lang/String") aw Z = true := hw _ (List.mem_of_getElem? (i := 6) rfl)
theorem w9 {Z aw} (hw : OwnHW aw Z) : Cond.before (Jvm.Cond.methodLink "dev/boundaryline/model/HeaderValueTrimPinLaw" (23 : Nat) ({ cls := "java/lang/String", name := "<init>", desc := "([C)V" } : Jvm.MethodName)) aw Z = true := hw _ (List.mem_of_getElem? (i := 9) rfl)
theorem w11 {Z aw} (hw : OwnHW aw Z) : Cond.before (Jvm.Cond.code ({ cls := "java/lang/String", name := "<init>", desc := "([C)V" } : Jvm.MethodName) jdk_42_method_3_code (2 : Nat) (Option.none : Option Jvm.ClassFile.FieldType)) aw Z = true := hw _ (List.mem_of_getElem? (i := 11) rfl)
theorem pd_118 : parseMethodDescriptor "([C)V" = some ⟨[(.array .char)], none⟩ := by decide +kernel
theorem w10 {Z aw} (hw : OwnHW aw Z) : Cond.before (Jvm.Cond.instanceMethod ({ cls := "java/lang/String", name := "<init>", desc := "([C)V" } : Jvm.MethodName)) aw Z = true := hw _ (List.mem_of_getElem? (i := 10) rfl)
theorem w0 {Z aw} (hw : OwnHW aw Z) : Cond.before (Jvm.Cond.constant "dev/boundaryline/model/HeaderValueTrimPinLaw" (17 : Nat) (2147483647 : Int32)) aw Z = true := hw _ (List.mem_of_getElem? (i := 0) rfl)
theorem w2 {Z aw} (hw : OwnHW aw Z) : Cond.before (Jvm.Cond.methodLink "dev/boundaryline/model/HeaderValueTrimPinLaw" (18 : Nat) ({ cls := "dev/boundaryline/model/HeaderValueTrimPinLaw", name := "draw", desc := "(I)C" } : Jvm.MethodName)) aw Z = true := hw _ (List.mem_of_getElem? (i := 2) rfl)
theorem w5 {Z aw} (hw : OwnHW aw Z) : Cond.before (Jvm.Cond.code ({ cls := "dev/boundaryline/model/HeaderValueTrimPinLaw", name := "draw", desc := "(I)C" } : Jvm.MethodName) method_2_code (2 : Nat) (Option.some Jvm.ClassFile.FieldType.char)) aw Z = true := hw _ (List.mem_of_getElem? (i := 5) rfl)
theorem w3 {Z aw} (hw : OwnHW aw Z) : Cond.before (Jvm.Cond.static ({ cls := "dev/boundaryline/model/HeaderValueTrimPinLaw", name := "draw", desc := "(I)C" } : Jvm.MethodName)) aw Z = true := hw _ (List.mem_of_getElem? (i := 3) rfl)
theorem ef_rm0 (m : MethodId) (p0 : Int32) (p1 : Int32) (p2 : Int32) (p3 : Int32) (p4 : Int32) : entryFrame m #[(.int p0), (.int p1), (.int p2), (.int p3), (.int p4)] maxLocals = mkF m 0 #[.val (.int p0), .val (.int p1), .val (.int p2), .val (.int p3), .val (.int p4), .unset, .unset, .unset, .unset, .unset, .unset, .unset] [] := by first | (simp [entryFrame, mkF, argsToLocals, Value.category, maxLocals]; done) | rfl
def Qrm0 (Z : State) (p0 : Int32) (p1 : Int32) (p2 : Int32) (p3 : Int32) (p4 : Int32) (zc : Int32) (fm : Value) (h0 : Heap) (n0 : Nat) (v : Option Value) (h : Heap) (L : List Loc) : Prop := v = some (.int 1) ∧ Fr n0 L
set_option maxRecDepth 65536 in
set_option maxHeartbeats 40000000 in
theorem rm0 (l : Launch) (Z : State) (aw : Array Value) (hw : ∀ d ∈ tables_1, d.before aw Z = true) (ws : List Jvm.Cond) (p0 : Int32) (p1 : Int32) (p2 : Int32) (p3 : Int32) (p4 : Int32) (zc : Int32) (fm : Value) (h0 : Heap) (n0 : Nat) (Z0 : n0 ≤ h0.size) (S_COMPACT_STRINGS : Sta Z h0 "java/lang/String" "COMPACT_STRINGS" "Z" (.int zc)) (hzc : ¬ zc = 0) (S_SIOOBE_FORMATTER : Sta Z h0 "jdk/internal/util/Preconditions" "SIOOBE_FORMATTER" "Ljava/util/function/BiFunction;" fm) (rf : fm.isRef = true) :
    MetFree l x (head1 (Jvm.Cond.code x code maxLocals ret :: ws) room_1) (fun a U => a = #[(.int p0), (.int p1), (.int p2), (.int p3), (.int p4)] ∧ Z.Warmed39 U.vm ∧ U.heap = h0 ∧ CHv Z consts_1 U.vm h0 ∧ ∀ x ∈ ([] : List Addr), Safe Z consts_1 U.vm h0 x) (fun _ _ _ _ _ => True) (fun _ U o U' => ∃ v L, o = .returned v ∧ Qrm0 Z p0 p1 p2 p3 p4 zc fm h0 n0 v U'.heap L ∧ CHr Z consts_1 U.vm U.heap U'.vm U'.heap ∧ ReturnedEndW U o U' L room_1.cells room_1.slots) := by
  refine MetFree.of_bodySF (plainFor_of_name pn_5) hisR ?_
  intro p e s m args below meth c s₁ Bd hml0 hP hK
  obtain ⟨rfl, hZ, hh, hC0, hSf⟩ := hP
  have hx := Bd.exec
  have hby := Bd.bytes
  have hml : c.maxLocals = 12 := hml0
  have hown : s.vm.findClass "dev/boundaryline/model/HeaderValueTrimPinLaw" = some m.cls := findClass_of_methodNamed Bd.named
  have hnm := (name_of_methodNamed Bd.named Bd.method).1
  have X0 : Stand p l e room_1 s m #[(.int p0), (.int p1), (.int p2), (.int p3), (.int p4)] below meth c s₁ [] 0 0 := Stand.of_body Bd
  have e0 : s₁.heap = h0 := by rw [← hh, Bd.state]; rfl
  have N0 := Fr.nil n0
  have hlk := Bd.notSynchronized
  show OwnGo p.tables e below _ (s₁.setTop (entryFrame m #[(.int p0), (.int p1), (.int p2), (.int p3), (.int p4)] maxLocals))
  rw [ef_rm0 m p0 p1 p2 p3 p4]
  have B0 := OwnB.start s h0
  have C0 := CHr.refl hC0
  have K0 : Keep h0 h0 [] := Keep.refl _ _
  have J365_g : ∀ (l0 l1 l2 l3 l4 : Slot) (Tj : State) (Lo : List Loc) (hj : Heap) (sl5 sl7 : Slot) (bK : Addr) (kb : ClassId) (xS : Addr) (k0 k1 k2 k3 st en : Int32) (cs : List Int32) (Xj : Stand p l e room_1 s m #[(.int p0), (.int p1), (.int p2), (.int p3), (.int p4)] below meth c Tj Lo 4 16) (ej : Tj.heap = hj) (Nj : Fr n0 Lo) (Zj : n0 ≤ hj.size) (Kj : Keep h0 hj []) (Bj : OwnB s s hj) (Cj : CHr Z consts_1 s.vm h0 s.vm hj) (Vj : Arv Z hj bK kb .char (4 : Int32) [(.int k0), (.int k1), (.int k2), (.int k3)] (.int (0 : Int32))) (hk0 : OwnCh k0) (hk1 : OwnCh k1) (hk2 : OwnCh k2) (hk3 : OwnCh k3) (SSj : OwnStr Z hj xS cs) (h4 : cs.length ≤ 4) (hE : en - st = Int32.ofNat (own_trim cs).length) (hs0 : OwnSame k0 k1 k2 k3 st (own_trim cs) 0) (hs1 : OwnSame k0 k1 k2 k3 st (own_trim cs) 1) (hs2 : OwnSame k0 k1 k2 k3 st (own_trim cs) 2) (hs3 : OwnSame k0 k1 k2 k3 st (own_trim cs) 3), OwnGo p.tables e below (fun o U' => ∃ v L, o = .returned v ∧ Qrm0 Z p0 p1 p2 p3 p4 zc fm h0 n0 v U'.heap L ∧ CHr Z consts_1 s.vm s.heap U'.vm U'.heap ∧ ReturnedEndW s o U' L room_1.cells room_1.slots) (Tj.setTop (mkF m 365 #[l0, l1, l2, l3, l4, sl5, .val (.ref bK), sl7, .val (.ref xS), .val (.int st), .val (.int en), .unset] [])) := by
    intro l0 l1 l2 l3 l4 Tj Lo hj sl5 sl7 bK kb xS k0 k1 k2 k3 st en cs Xj ej Nj Zj Kj Bj Cj Vj hk0 hk1 hk2 hk3 SSj h4 hE hs0 hs1 hs2 hs3
    have f1 : Sta Z hj "java/lang/String" "COMPACT_STRINGS" "Z" (.int zc) := own_sta_keep S_COMPACT_STRINGS Kj all0
    have f2 : Sta Z hj "jdk/internal/util/Preconditions" "SIOOBE_FORMATTER" "Ljava/util/function/BiFunction;" fm := own_sta_keep S_SIOOBE_FORMATTER Kj all0
    obtain ⟨t_z, kb_z, E_z, V_z, C_z, K_z, hp_z, ln_z⟩ := SSj
    have f3 : Arv Z hj t_z kb_z .byte (Int32.ofNat cs.length) (cs.map fun c => Value.int (StrChars.lo8 c)) (.int (0 : Int32)) := K_z
    show OwnGo p.tables e below _ (Tj.setTop (mkF m 365 #[l0, l1, l2, l3, l4, sl5, .val (.ref bK), sl7, .val (.ref xS), .val (.int st), .val (.int en), .unset] []))
    refine OwnGo.of (A := Tj.setTop (mkF m 365 #[l0, l1, l2, l3, l4, sl5, .val (.ref bK), sl7, .val (.ref xS), .val (.int st), .val (.int en), .unset] [])) (B := Tj.setTop (mkF m 367 #[l0, l1, l2, l3, l4, sl5, .val (.ref bK), sl7, .val (.ref xS), .val (.int st), .val (.int en), .unset] [(.ref xS)])) (fun t k => ?_) ?_
    · show Steps p.tables e below (Tj.setTop (mkF m 365 #[l0, l1, l2, l3, l4, sl5, .val (.ref bK), sl7, .val (.ref xS), .val (.int st), .val (.int en), .unset] [])) t
      refine XS.aload Xj.here hx rfl (hb hby at_365) rfl rfl ?_
      exact k
    obtain ⟨s4, T4, L4, v4, X4, hQ4, B4, hZ, hown, cs4, st4⟩ := own_callSW (s := s) Xj hx (y := (⟨"dev/boundaryline/model/HeaderValue", "trim", "(Ljava/lang/String;)Ljava/lang/String;"⟩ : MethodName)) hown (mvT hZ (w27 hw)) (mvT hZ (w28 hw)) (mvT hZ (w29 hw)) (mvT hZ (w30 hw)) (by decide) hZ Bj (own_backW (W := 0) (ws := []) (rm5 l Z aw hw [] xS cs zc fm hj n0 Zj h4 ⟨_, _, E_z, V_z, C_z, f3, hp_z, ln_z⟩ f1 hzc f2 rf) hZ (w30 hw) (w29 hw) (by decide) (by decide) (own_EW hw) Cj.1 all0) (g := (mkF m 367 #[l0, l1, l2, l3, l4, sl5, .val (.ref bK), sl7, .val (.ref xS), .val (.int st), .val (.int en), .unset] [(.ref xS)])) rfl (by rw [hml]; rfl) (argsL := [(.ref xS)]) (rest := []) (lenOf pd_104 rfl) rfl (by show 2 * 0 + _ ≤ _; exact Nat.le_of_eq rfl) (hb hby at_367) rfl ej (by decide) (by decide)
    obtain ⟨N4q, K4, x4, rfl, SS4⟩ := hQ4
    have f5 := Nat.le_trans Zj K4.1
    have f6 := Kj.trans K4 all0
    have f7 := Cj.trans cs4
    have f8 := Vj.keep K4 nin0
    have f9 := own_sta_keep f1 K4 all0
    have f10 := own_sta_keep f2 K4 all0
    have f11 := E_z.keep K4
    have f12 := C_z.keep K4 nin0
    have f13 := V_z.keep K4 nin0
    have f14 := f3.keep K4 nin0
    obtain ⟨t_m4, kb_m4, E_m4, V_m4, C_m4, K_m4, hp_m4, ln_m4⟩ := SS4
    have f15 : Arv Z T4.heap t_m4 kb_m4 .byte (Int32.ofNat (own_trim cs).length) ((own_trim cs).map fun c => Value.int (StrChars.lo8 c)) (.int (0 : Int32)) := K_m4
    have N4 := Fr.app Nj N4q
    refine OwnGo.of st4 ?_
    show OwnGo p.tables e below _ (T4.setTop (mkF m 370 #[l0, l1, l2, l3, l4, sl5, .val (.ref bK), sl7, .val (.ref xS), .val (.int st), .val (.int en), .unset] [(.ref x4)]))
    refine OwnGo.of (A := T4.setTop (mkF m 370 #[l0, l1, l2, l3, l4, sl5, .val (.ref bK), sl7, .val (.ref xS), .val (.int st), .val (.int en), .unset] [(.ref x4)])) (B := T4.setTop (mkF m 372 #[l0, l1, l2, l3, l4, sl5, .val (.ref bK), sl7, .val (.ref xS), .val (.int st), .val (.int en), .val (.ref x4)] [])) (fun t k => ?_) ?_
    · show Steps p.tables e below (T4.setTop (mkF m 370 #[l0, l1, l2, l3, l4, sl5, .val (.ref bK), sl7, .val (.ref xS), .val (.int st), .val (.int en), .unset] [(.ref x4)])) t
      refine XS.astore X4.here hx rfl (hb hby at_370) rfl rfl (l' := #[l0, l1, l2, l3, l4, sl5, .val (.ref bK), sl7, .val (.ref xS), .val (.int st), .val (.int en), .val (.ref x4)]) rfl ?_
      exact k
    refine OwnGo.of (A := T4.setTop (mkF m 372 #[l0, l1, l2, l3, l4, sl5, .val (.ref bK), sl7, .val (.ref xS), .val (.int st), .val (.int en), .val (.ref x4)] [])) (B := T4.setTop (mkF m 374 #[l0, l1, l2, l3, l4, sl5, .val (.ref bK), sl7, .val (.ref xS), .val (.int st), .val (.int en), .val (.ref x4)] [(.ref x4)])) (fun t k => ?_) ?_
    · show Steps p.tables e below (T4.setTop (mkF m 372 #[l0, l1, l2, l3, l4, sl5, .val (.ref bK), sl7, .val (.ref xS), .val (.int st), .val (.int en), .val (.ref x4)] [])) t
      refine XS.aload X4.here hx rfl (hb hby at_372) rfl rfl ?_
      exact k
    obtain ⟨cq16, kq16, q16a, q16b, q16c⟩ := isOf hZ rfl E_m4
    obtain ⟨T16, L16, v16, X16, hQ16, st16⟩ := own_callV (Q := fun v H L => v = some (.int (Int32.ofNat (own_trim cs).length)) ∧ L = [] ∧ H = T4.heap) (rc := 0) (rs := 0) X4 hx (y := (⟨"java/lang/String", "length", "()I"⟩ : MethodName)) (z := (⟨"java/lang/String", "length", "()I"⟩ : MethodName)) hown (mvT hZ (w59 hw)) (mvT hZ (w35 hw)) (notFace_of_selects (args := #[]) (mvT hZ (w37 hw))) (mvT hZ (w37 hw)) (mvT hZ (w36 hw)) (by decide) (StrChars.Road.lenW (W := 0) hZ (own_wL hw) (kI := 4) (w7 hw) (cs := (own_trim cs)) E_m4 V_m4 C_m4 f15 (own_cod hp_m4) (own_up hp_m4) f9 hzc ln_m4 (by decide) (by decide)) q16a q16c (g := (mkF m 374 #[l0, l1, l2, l3, l4, sl5, .val (.ref bK), sl7, .val (.ref xS), .val (.int st), .val (.int en), .val (.ref x4)] [(.ref x4)])) rfl (by rw [hml]; rfl) (argsL := []) (rest := []) (lenOf pd_9 rfl) rfl (by show 2 * 0 + _ ≤ _; exact Nat.le_of_eq rfl) (hb hby at_374) rfl rfl (by decide) (by decide)
    obtain ⟨hv16, rfl, eq16⟩ := hQ16
    have hw16 : v16 = some (.int (Int32.ofNat (own_trim cs).length)) := hv16
    subst hw16
    have N16q : Fr n0 ([] : List Loc) := Fr.nil n0
    have N16 := Fr.app N4 N16q
    refine OwnGo.of st16 ?_
    show OwnGo p.tables e below _ (T16.setTop (mkF m 377 #[l0, l1, l2, l3, l4, sl5, .val (.ref bK), sl7, .val (.ref xS), .val (.int st), .val (.int en), .val (.ref x4)] [(.int (Int32.ofNat (own_trim cs).length))]))
    refine OwnGo.of (A := T16.setTop (mkF m 377 #[l0, l1, l2, l3, l4, sl5, .val (.ref bK), sl7, .val (.ref xS), .val (.int st), .val (.int en), .val (.ref x4)] [(.int (Int32.ofNat (own_trim cs).length))])) (B := T16.setTop (mkF m 382 #[l0, l1, l2, l3, l4, sl5, .val (.ref bK), sl7, .val (.ref xS), .val (.int st), .val (.int en), .val (.ref x4)] [(.int (en - st)), (.int (Int32.ofNat (own_trim cs).length))])) (fun t k => ?_) ?_
    · show Steps p.tables e below (T16.setTop (mkF m 377 #[l0, l1, l2, l3, l4, sl5, .val (.ref bK), sl7, .val (.ref xS), .val (.int st), .val (.int en), .val (.ref x4)] [(.int (Int32.ofNat (own_trim cs).length))])) t
      refine XS.iload X16.here hx rfl (hb hby at_377) rfl ?_
      refine XS.iload X16.here hx rfl (hb hby at_379) rfl ?_
      refine XS.isub X16.here hx rfl (hb hby at_381) rfl ?_
      exact k
    have hc17 : (Int32.ofNat (own_trim cs).length) = (en - st) := hE.symm
    refine OwnGo.of (A := T16.setTop (mkF m 382 #[l0, l1, l2, l3, l4, sl5, .val (.ref bK), sl7, .val (.ref xS), .val (.int st), .val (.int en), .val (.ref x4)] [(.int (en - st)), (.int (Int32.ofNat (own_trim cs).length))])) (B := T16.setTop (mkF m 394 #[l0, l1, l2, l3, l4, sl5, .val (.ref bK), sl7, .val (.ref xS), .val (.int st), .val (.int en), .val (.ref x4)] [(.int (0 : Int32)), (.int st), (.ref bK), (.ref x4)])) (fun t k => ?_) ?_
    · show Steps p.tables e below (T16.setTop (mkF m 382 #[l0, l1, l2, l3, l4, sl5, .val (.ref bK), sl7, .val (.ref xS), .val (.int st), .val (.int en), .val (.ref x4)] [(.int (en - st)), (.int (Int32.ofNat (own_trim cs).length))])) t
      refine XS.icmpYes X16.here hx rfl (pc0 := 382) (pc' := 387) rfl (hb hby at_382) rfl (teq hc17).1 (by decide) (by decide) ?_
      refine XS.aload X16.here hx rfl (hb hby at_387) rfl rfl ?_
      refine XS.aload X16.here hx rfl (hb hby at_389) rfl rfl ?_
      refine XS.iload X16.here hx rfl (hb hby at_391) rfl ?_
      refine XS.iconst X16.here hx rfl (hb hby at_393) ?_
      exact k
    obtain ⟨T18, L18, v18, X18, hQ18, st18⟩ := own_callS X16 hx (y := (⟨"dev/boundaryline/model/HeaderValueTrimPinLaw", "same", "(Ljava/lang/String;[CII)Z"⟩ : MethodName)) hown (mvT hZ (w60 hw)) (mvT hZ (w61 hw)) (mvT hZ (w4 hw)) (mvT hZ (w62 hw)) (by decide) (backOf (W := 0) (rm12 l Z aw hw [] x4 bK st 0 (own_trim cs) k0 k1 k2 k3 kb zc fm T4.heap n0 f5 (by decide) ⟨_, _, E_m4, V_m4, C_m4, f15, hp_m4, ln_m4⟩ f8 hs0 f9 hzc f10 rf) hZ (w62 hw) (w4 hw) (by decide) (by decide)) (g := (mkF m 394 #[l0, l1, l2, l3, l4, sl5, .val (.ref bK), sl7, .val (.ref xS), .val (.int st), .val (.int en), .val (.ref x4)] [(.int (0 : Int32)), (.int st), (.ref bK), (.ref x4)])) rfl (by rw [hml]; rfl) (argsL := [(.ref x4), (.ref bK), (.int st), (.int (0 : Int32))]) (rest := []) (lenOf pd_109 rfl) rfl (by show 2 * 0 + _ ≤ _; exact Nat.le_of_eq rfl) (hb hby at_394) rfl eq16 (by decide) (by decide)
    obtain ⟨rfl, N18q, eq18⟩ := hQ18
    have N18 := Fr.app N16 N18q
    refine OwnGo.of st18 ?_
    show OwnGo p.tables e below _ (T18.setTop (mkF m 397 #[l0, l1, l2, l3, l4, sl5, .val (.ref bK), sl7, .val (.ref xS), .val (.int st), .val (.int en), .val (.ref x4)] [(.int (1 : Int32))]))
    have hc19 : ¬ ((1 : Int32) = (0 : Int32)) := by decide
    refine OwnGo.of (A := T18.setTop (mkF m 397 #[l0, l1, l2, l3, l4, sl5, .val (.ref bK), sl7, .val (.ref xS), .val (.int st), .val (.int en), .val (.ref x4)] [(.int (1 : Int32))])) (B := T18.setTop (mkF m 407 #[l0, l1, l2, l3, l4, sl5, .val (.ref bK), sl7, .val (.ref xS), .val (.int st), .val (.int en), .val (.ref x4)] [(.int (1 : Int32)), (.int st), (.ref bK), (.ref x4)])) (fun t k => ?_) ?_
    · show Steps p.tables e below (T18.setTop (mkF m 397 #[l0, l1, l2, l3, l4, sl5, .val (.ref bK), sl7, .val (.ref xS), .val (.int st), .val (.int en), .val (.ref x4)] [(.int (1 : Int32))])) t
      refine XS.ifNo X18.here hx rfl (hb hby at_397) rfl ((if0 _ _).trans (feq hc19).1) ?_
      refine XS.aload X18.here hx rfl (hb hby at_400) rfl rfl ?_
      refine XS.aload X18.here hx rfl (hb hby at_402) rfl rfl ?_
      refine XS.iload X18.here hx rfl (hb hby at_404) rfl ?_
      refine XS.iconst X18.here hx rfl (hb hby at_406) ?_
      exact k
    obtain ⟨T20, L20, v20, X20, hQ20, st20⟩ := own_callS X18 hx (y := (⟨"dev/boundaryline/model/HeaderValueTrimPinLaw", "same", "(Ljava/lang/String;[CII)Z"⟩ : MethodName)) hown (mvT hZ (w60 hw)) (mvT hZ (w61 hw)) (mvT hZ (w4 hw)) (mvT hZ (w62 hw)) (by decide) (backOf (W := 0) (rm12 l Z aw hw [] x4 bK st 1 (own_trim cs) k0 k1 k2 k3 kb zc fm T4.heap n0 f5 (by decide) ⟨_, _, E_m4, V_m4, C_m4, f15, hp_m4, ln_m4⟩ f8 hs1 f9 hzc f10 rf) hZ (w62 hw) (w4 hw) (by decide) (by decide)) (g := (mkF m 407 #[l0, l1, l2, l3, l4, sl5, .val (.ref bK), sl7, .val (.ref xS), .val (.int st), .val (.int en), .val (.ref x4)] [(.int (1 : Int32)), (.int st), (.ref bK), (.ref x4)])) rfl (by rw [hml]; rfl) (argsL := [(.ref x4), (.ref bK), (.int st), (.int (1 : Int32))]) (rest := []) (lenOf pd_109 rfl) rfl (by show 2 * 0 + _ ≤ _; exact Nat.le_of_eq rfl) (hb hby at_407) rfl eq18 (by decide) (by decide)
    obtain ⟨rfl, N20q, eq20⟩ := hQ20
    have N20 := Fr.app N18 N20q
    refine OwnGo.of st20 ?_
    show OwnGo p.tables e below _ (T20.setTop (mkF m 410 #[l0, l1, l2, l3, l4, sl5, .val (.ref bK), sl7, .val (.ref xS), .val (.int st), .val (.int en), .val (.ref x4)] [(.int (1 : Int32))]))
    have hc21 : ¬ ((1 : Int32) = (0 : Int32)) := by decide
    refine OwnGo.of (A := T20.setTop (mkF m 410 #[l0, l1, l2, l3, l4, sl5, .val (.ref bK), sl7, .val (.ref xS), .val (.int st), .val (.int en), .val (.ref x4)] [(.int (1 : Int32))])) (B := T20.setTop (mkF m 420 #[l0, l1, l2, l3, l4, sl5, .val (.ref bK), sl7, .val (.ref xS), .val (.int st), .val (.int en), .val (.ref x4)] [(.int (2 : Int32)), (.int st), (.ref bK), (.ref x4)])) (fun t k => ?_) ?_
    · show Steps p.tables e below (T20.setTop (mkF m 410 #[l0, l1, l2, l3, l4, sl5, .val (.ref bK), sl7, .val (.ref xS), .val (.int st), .val (.int en), .val (.ref x4)] [(.int (1 : Int32))])) t
      refine XS.ifNo X20.here hx rfl (hb hby at_410) rfl ((if0 _ _).trans (feq hc21).1) ?_
      refine XS.aload X20.here hx rfl (hb hby at_413) rfl rfl ?_
      refine XS.aload X20.here hx rfl (hb hby at_415) rfl rfl ?_
      refine XS.iload X20.here hx rfl (hb hby at_417) rfl ?_
      refine XS.iconst X20.here hx rfl (hb hby at_419) ?_
      exact k
    obtain ⟨T22, L22, v22, X22, hQ22, st22⟩ := own_callS X20 hx (y := (⟨"dev/boundaryline/model/HeaderValueTrimPinLaw", "same", "(Ljava/lang/String;[CII)Z"⟩ : MethodName)) hown (mvT hZ (w60 hw)) (mvT hZ (w61 hw)) (mvT hZ (w4 hw)) (mvT hZ (w62 hw)) (by decide) (backOf (W := 0) (rm12 l Z aw hw [] x4 bK st 2 (own_trim cs) k0 k1 k2 k3 kb zc fm T4.heap n0 f5 (by decide) ⟨_, _, E_m4, V_m4, C_m4, f15, hp_m4, ln_m4⟩ f8 hs2 f9 hzc f10 rf) hZ (w62 hw) (w4 hw) (by decide) (by decide)) (g := (mkF m 420 #[l0, l1, l2, l3, l4, sl5, .val (.ref bK), sl7, .val (.ref xS), .val (.int st), .val (.int en), .val (.ref x4)] [(.int (2 : Int32)), (.int st), (.ref bK), (.ref x4)])) rfl (by rw [hml]; rfl) (argsL := [(.ref x4), (.ref bK), (.int st), (.int (2 : Int32))]) (rest := []) (lenOf pd_109 rfl) rfl (by show 2 * 0 + _ ≤ _; exact Nat.le_of_eq rfl) (hb hby at_420) rfl eq20 (by decide) (by decide)
    obtain ⟨rfl, N22q, eq22⟩ := hQ22
    have N22 := Fr.app N20 N22q
    refine OwnGo.of st22 ?_
    show OwnGo p.tables e below _ (T22.setTop (mkF m 423 #[l0, l1, l2, l3, l4, sl5, .val (.ref bK), sl7, .val (.ref xS), .val (.int st), .val (.int en), .val (.ref x4)] [(.int (1 : Int32))]))
    have hc23 : ¬ ((1 : Int32) = (0 : Int32)) := by decide
    refine OwnGo.of (A := T22.setTop (mkF m 423 #[l0, l1, l2, l3, l4, sl5, .val (.ref bK), sl7, .val (.ref xS), .val (.int st), .val (.int en), .val (.ref x4)] [(.int (1 : Int32))])) (B := T22.setTop (mkF m 433 #[l0, l1, l2, l3, l4, sl5, .val (.ref bK), sl7, .val (.ref xS), .val (.int st), .val (.int en), .val (.ref x4)] [(.int (3 : Int32)), (.int st), (.ref bK), (.ref x4)])) (fun t k => ?_) ?_
    · show Steps p.tables e below (T22.setTop (mkF m 423 #[l0, l1, l2, l3, l4, sl5, .val (.ref bK), sl7, .val (.ref xS), .val (.int st), .val (.int en), .val (.ref x4)] [(.int (1 : Int32))])) t
      refine XS.ifNo X22.here hx rfl (hb hby at_423) rfl ((if0 _ _).trans (feq hc23).1) ?_
      refine XS.aload X22.here hx rfl (hb hby at_426) rfl rfl ?_
      refine XS.aload X22.here hx rfl (hb hby at_428) rfl rfl ?_
      refine XS.iload X22.here hx rfl (hb hby at_430) rfl ?_
      refine XS.iconst X22.here hx rfl (hb hby at_432) ?_
      exact k
    obtain ⟨T24, L24, v24, X24, hQ24, st24⟩ := own_callS X22 hx (y := (⟨"dev/boundaryline/model/HeaderValueTrimPinLaw", "same", "(Ljava/lang/String;[CII)Z"⟩ : MethodName)) hown (mvT hZ (w60 hw)) (mvT hZ (w61 hw)) (mvT hZ (w4 hw)) (mvT hZ (w62 hw)) (by decide) (backOf (W := 0) (rm12 l Z aw hw [] x4 bK st 3 (own_trim cs) k0 k1 k2 k3 kb zc fm T4.heap n0 f5 (by decide) ⟨_, _, E_m4, V_m4, C_m4, f15, hp_m4, ln_m4⟩ f8 hs3 f9 hzc f10 rf) hZ (w62 hw) (w4 hw) (by decide) (by decide)) (g := (mkF m 433 #[l0, l1, l2, l3, l4, sl5, .val (.ref bK), sl7, .val (.ref xS), .val (.int st), .val (.int en), .val (.ref x4)] [(.int (3 : Int32)), (.int st), (.ref bK), (.ref x4)])) rfl (by rw [hml]; rfl) (argsL := [(.ref x4), (.ref bK), (.int st), (.int (3 : Int32))]) (rest := []) (lenOf pd_109 rfl) rfl (by show 2 * 0 + _ ≤ _; exact Nat.le_of_eq rfl) (hb hby at_433) rfl eq22 (by decide) (by decide)
    obtain ⟨rfl, N24q, eq24⟩ := hQ24
    have N24 := Fr.app N22 N24q
    refine OwnGo.of st24 ?_
    show OwnGo p.tables e below _ (T24.setTop (mkF m 436 #[l0, l1, l2, l3, l4, sl5, .val (.ref bK), sl7, .val (.ref xS), .val (.int st), .val (.int en), .val (.ref x4)] [(.int (1 : Int32))]))
    have hc25 : ¬ ((1 : Int32) = (0 : Int32)) := by decide
    refine OwnGo.of (A := T24.setTop (mkF m 436 #[l0, l1, l2, l3, l4, sl5, .val (.ref bK), sl7, .val (.ref xS), .val (.int st), .val (.int en), .val (.ref x4)] [(.int (1 : Int32))])) (B := T24.setTop (mkF m 444 #[l0, l1, l2, l3, l4, sl5, .val (.ref bK), sl7, .val (.ref xS), .val (.int st), .val (.int en), .val (.ref x4)] [(.int (1 : Int32))])) (fun t k => ?_) ?_
    · show Steps p.tables e below (T24.setTop (mkF m 436 #[l0, l1, l2, l3, l4, sl5, .val (.ref bK), sl7, .val (.ref xS), .val (.int st), .val (.int en), .val (.ref x4)] [(.int (1 : Int32))])) t
      refine XS.ifNo X24.here hx rfl (hb hby at_436) rfl ((if0 _ _).trans (feq hc25).1) ?_
      refine XS.iconst X24.here hx rfl (hb hby at_439) ?_
      refine XS.goto X24.here hx rfl (pc0 := 440) (pc' := 444) rfl (hb hby at_440) (by decide) (by decide) ?_
      exact k
    obtain ⟨fs, hr, hrun, hended, hRW⟩ := own_leaveW X24 B4 eq24 (v := some (.int (nar .boolean (1 : Int32)))) (fun h => by rw [Bd.returns] at h; cases h) hlk
    refine ⟨_, _, ?_, hrun, hended, _, _, rfl, ?_, own_endW X24 hZ (own_EW hw) eq24 hh f7 fs, own_monoW hRW (by decide) (by decide)⟩
    · show Steps p.tables e below (T24.setTop (mkF m 444 #[l0, l1, l2, l3, l4, sl5, .val (.ref bK), sl7, .val (.ref xS), .val (.int st), .val (.int en), .val (.ref x4)] [(.int (1 : Int32))])) _
      exact retN X24 hx (t := .boolean) Bd.returns (by simp) (hb hby at_444) hr
    · show Qrm0 Z p0 p1 p2 p3 p4 zc fm h0 n0 _ (T24.setFrames fs).heap _
      rw [show (T24.setFrames fs).heap = T4.heap from eq24]
      exact ⟨rfl, N24⟩
  have J274_1 : ∀ (l0 l1 l2 l3 l4 : Slot) (Tj : State) (Lo : List Loc) (hj : Heap) (sl7 : Slot) (bK : Addr) (kb : ClassId) (xS : Addr) (k0 k1 k2 k3 st : Int32) (Xj : Stand p l e room_1 s m #[(.int p0), (.int p1), (.int p2), (.int p3), (.int p4)] below meth c Tj Lo 4 10) (ej : Tj.heap = hj) (Nj : Fr n0 Lo) (Zj : n0 ≤ hj.size) (Kj : Keep h0 hj []) (Bj : OwnB s s hj) (Cj : CHr Z consts_1 s.vm h0 s.vm hj) (Vj : Arv Z hj bK kb .char (4 : Int32) [(.int k0), (.int k1), (.int k2), (.int k3)] (.int (0 : Int32))) (hk0 : OwnCh k0) (hk1 : OwnCh k1) (hk2 : OwnCh k2) (hk3 : OwnCh k3) (SSj : OwnStr Z hj xS ([k0] : List Int32)) (hst : (st = (0 : Int32) ∧ own_wb k0 = false) ∨ (st = (1 : Int32) ∧ own_wb k0 = true ∧ True)), OwnGo p.tables e below (fun o U' => ∃ v L, o = .returned v ∧ Qrm0 Z p0 p1 p2 p3 p4 zc fm h0 n0 v U'.heap L ∧ CHr Z consts_1 s.vm s.heap U'.vm U'.heap ∧ ReturnedEndW s o U' L room_1.cells room_1.slots) (Tj.setTop (mkF m 274 #[l0, l1, l2, l3, l4, .val (.int (1 : Int32)), .val (.ref bK), sl7, .val (.ref xS), .val (.int st), .unset, .unset] [])) := by
    intro l0 l1 l2 l3 l4 Tj Lo hj sl7 bK kb xS k0 k1 k2 k3 st Xj ej Nj Zj Kj Bj Cj Vj hk0 hk1 hk2 hk3 SSj hst
    have f26 : Sta Z hj "java/lang/String" "COMPACT_STRINGS" "Z" (.int zc) := own_sta_keep S_COMPACT_STRINGS Kj all0
    have f27 : Sta Z hj "jdk/internal/util/Preconditions" "SIOOBE_FORMATTER" "Ljava/util/function/BiFunction;" fm := own_sta_keep S_SIOOBE_FORMATTER Kj all0
    obtain ⟨t_z, kb_z, E_z, V_z, C_z, K_z, hp_z, ln_z⟩ := SSj
    have f28 : Arv Z hj t_z kb_z .byte (1 : Int32) [(.int (StrChars.lo8 k0))] (.int (0 : Int32)) := K_z
    show OwnGo p.tables e below _ (Tj.setTop (mkF m 274 #[l0, l1, l2, l3, l4, .val (.int (1 : Int32)), .val (.ref bK), sl7, .val (.ref xS), .val (.int st), .unset, .unset] []))
    refine OwnGo.of (A := Tj.setTop (mkF m 274 #[l0, l1, l2, l3, l4, .val (.int (1 : Int32)), .val (.ref bK), sl7, .val (.ref xS), .val (.int st), .unset, .unset] [])) (B := Tj.setTop (mkF m 277 #[l0, l1, l2, l3, l4, .val (.int (1 : Int32)), .val (.ref bK), sl7, .val (.ref xS), .val (.int st), .unset, .unset] [(.int (3 : Int32)), (.int (1 : Int32))])) (fun t k => ?_) ?_
    · show Steps p.tables e below (Tj.setTop (mkF m 274 #[l0, l1, l2, l3, l4, .val (.int (1 : Int32)), .val (.ref bK), sl7, .val (.ref xS), .val (.int st), .unset, .unset] [])) t
      refine XS.iload Xj.here hx rfl (hb hby at_274) rfl ?_
      refine XS.iconst Xj.here hx rfl (hb hby at_276) ?_
      exact k
    have hc29 : ¬ ((3 : Int32) < (1 : Int32)) := by decide
    refine OwnGo.of (A := Tj.setTop (mkF m 277 #[l0, l1, l2, l3, l4, .val (.int (1 : Int32)), .val (.ref bK), sl7, .val (.ref xS), .val (.int st), .unset, .unset] [(.int (3 : Int32)), (.int (1 : Int32))])) (B := Tj.setTop (mkF m 299 #[l0, l1, l2, l3, l4, .val (.int (1 : Int32)), .val (.ref bK), sl7, .val (.ref xS), .val (.int st), .unset, .unset] [(.int (2 : Int32)), (.int (1 : Int32))])) (fun t k => ?_) ?_
    · show Steps p.tables e below (Tj.setTop (mkF m 277 #[l0, l1, l2, l3, l4, .val (.int (1 : Int32)), .val (.ref bK), sl7, .val (.ref xS), .val (.int st), .unset, .unset] [(.int (3 : Int32)), (.int (1 : Int32))])) t
      refine XS.icmpYes Xj.here hx rfl (pc0 := 277) (pc' := 296) rfl (hb hby at_277) rfl (flt hc29).2.2.2 (by decide) (by decide) ?_
      refine XS.iload Xj.here hx rfl (hb hby at_296) rfl ?_
      refine XS.iconst Xj.here hx rfl (hb hby at_298) ?_
      exact k
    have hc30 : ¬ ((2 : Int32) < (1 : Int32)) := by decide
    refine OwnGo.of (A := Tj.setTop (mkF m 299 #[l0, l1, l2, l3, l4, .val (.int (1 : Int32)), .val (.ref bK), sl7, .val (.ref xS), .val (.int st), .unset, .unset] [(.int (2 : Int32)), (.int (1 : Int32))])) (B := Tj.setTop (mkF m 321 #[l0, l1, l2, l3, l4, .val (.int (1 : Int32)), .val (.ref bK), sl7, .val (.ref xS), .val (.int st), .unset, .unset] [(.int (1 : Int32)), (.int (1 : Int32))])) (fun t k => ?_) ?_
    · show Steps p.tables e below (Tj.setTop (mkF m 299 #[l0, l1, l2, l3, l4, .val (.int (1 : Int32)), .val (.ref bK), sl7, .val (.ref xS), .val (.int st), .unset, .unset] [(.int (2 : Int32)), (.int (1 : Int32))])) t
      refine XS.icmpYes Xj.here hx rfl (pc0 := 299) (pc' := 318) rfl (hb hby at_299) rfl (flt hc30).2.2.2 (by decide) (by decide) ?_
      refine XS.iload Xj.here hx rfl (hb hby at_318) rfl ?_
      refine XS.iconst Xj.here hx rfl (hb hby at_320) ?_
      exact k
    have hc31 : ¬ ((1 : Int32) < (1 : Int32)) := by decide
    refine OwnGo.of (A := Tj.setTop (mkF m 321 #[l0, l1, l2, l3, l4, .val (.int (1 : Int32)), .val (.ref bK), sl7, .val (.ref xS), .val (.int st), .unset, .unset] [(.int (1 : Int32)), (.int (1 : Int32))])) (B := Tj.setTop (mkF m 342 #[l0, l1, l2, l3, l4, .val (.int (1 : Int32)), .val (.ref bK), sl7, .val (.ref xS), .val (.int st), .unset, .unset] [(.int (1 : Int32))])) (fun t k => ?_) ?_
    · show Steps p.tables e below (Tj.setTop (mkF m 321 #[l0, l1, l2, l3, l4, .val (.int (1 : Int32)), .val (.ref bK), sl7, .val (.ref xS), .val (.int st), .unset, .unset] [(.int (1 : Int32)), (.int (1 : Int32))])) t
      refine XS.icmpYes Xj.here hx rfl (pc0 := 321) (pc' := 340) rfl (hb hby at_321) rfl (flt hc31).2.2.2 (by decide) (by decide) ?_
      refine XS.iload Xj.here hx rfl (hb hby at_340) rfl ?_
      exact k
    have hc32 : (0 : Int32) < (1 : Int32) := by decide
    refine OwnGo.of (A := Tj.setTop (mkF m 342 #[l0, l1, l2, l3, l4, .val (.int (1 : Int32)), .val (.ref bK), sl7, .val (.ref xS), .val (.int st), .unset, .unset] [(.int (1 : Int32))])) (B := Tj.setTop (mkF m 348 #[l0, l1, l2, l3, l4, .val (.int (1 : Int32)), .val (.ref bK), sl7, .val (.ref xS), .val (.int st), .unset, .unset] [(.int (0 : Int32)), (.ref bK)])) (fun t k => ?_) ?_
    · show Steps p.tables e below (Tj.setTop (mkF m 342 #[l0, l1, l2, l3, l4, .val (.int (1 : Int32)), .val (.ref bK), sl7, .val (.ref xS), .val (.int st), .unset, .unset] [(.int (1 : Int32))])) t
      refine XS.ifNo Xj.here hx rfl (hb hby at_342) rfl ((if0 _ _).trans (tlt hc32).2.2.2) ?_
      refine XS.aload Xj.here hx rfl (hb hby at_345) rfl rfl ?_
      refine XS.iconst Xj.here hx rfl (hb hby at_347) ?_
      exact k
    have cq33 := Vj
    obtain ⟨clq33, Arq33, qq33, Sq33, Nq33, Hq33, Gq33⟩ := cq33
    have hinq33 := inb_of (j := (0 : Int32)) Sq33 ⟨by decide, by decide⟩
    refine OwnGo.of (Xj.caload hx (j := (0 : Int32)) (v := (.int k0)) (by rw [ej]; exact Arq33.1) (State.isArrayOf_alike hZ.alike Arq33.2.1) Arq33.2.2 hinq33 (Hq33.at hinq33 rfl) (g := (mkF m 348 #[l0, l1, l2, l3, l4, .val (.int (1 : Int32)), .val (.ref bK), sl7, .val (.ref xS), .val (.int st), .unset, .unset] [(.int (0 : Int32)), (.ref bK)])) rfl rfl (hb hby at_348)) ?_
    show OwnGo p.tables e below _ (Tj.setTop (mkF m 349 #[l0, l1, l2, l3, l4, .val (.int (1 : Int32)), .val (.ref bK), sl7, .val (.ref xS), .val (.int st), .unset, .unset] [(.int k0)]))
    obtain ⟨T34, L34, v34, X34, hQ34, st34⟩ := own_callS Xj hx (y := (⟨"dev/boundaryline/model/HeaderValueTrimPinLaw", "ws", "(C)Z"⟩ : MethodName)) hown (mvT hZ (w73 hw)) (mvT hZ (w74 hw)) (mvT hZ (w4 hw)) (mvT hZ (w75 hw)) (by decide) (backOf (W := 0) (rm16 l Z aw hw [] k0  hj n0 Zj ) hZ (w75 hw) (w4 hw) (by decide) (by decide)) (g := (mkF m 349 #[l0, l1, l2, l3, l4, .val (.int (1 : Int32)), .val (.ref bK), sl7, .val (.ref xS), .val (.int st), .unset, .unset] [(.int k0)])) rfl (by rw [hml]; rfl) (argsL := [(.int k0)]) (rest := []) (lenOf pd_22 rfl) rfl (by show 2 * 0 + _ ≤ _; exact Nat.le_of_eq rfl) (hb hby at_349) rfl ej (by decide) (by decide)
    obtain ⟨rfl, N34q, eq34⟩ := hQ34
    have N34 := Fr.app Nj N34q
    refine OwnGo.of st34 ?_
    show OwnGo p.tables e below _ (T34.setTop (mkF m 352 #[l0, l1, l2, l3, l4, .val (.int (1 : Int32)), .val (.ref bK), sl7, .val (.ref xS), .val (.int st), .unset, .unset] [(.int (own_w2 k0))]))
    by_cases hc35 : (own_w2 k0) = (0 : Int32)
    · have ew36 : own_wb k0 = false := own_wF hc35
      refine OwnGo.of (A := T34.setTop (mkF m 352 #[l0, l1, l2, l3, l4, .val (.int (1 : Int32)), .val (.ref bK), sl7, .val (.ref xS), .val (.int st), .unset, .unset] [(.int (own_w2 k0))])) (B := T34.setTop (mkF m 365 #[l0, l1, l2, l3, l4, .val (.int (1 : Int32)), .val (.ref bK), sl7, .val (.ref xS), .val (.int st), .val (.int (1 : Int32)), .unset] [])) (fun t k => ?_) ?_
      · show Steps p.tables e below (T34.setTop (mkF m 352 #[l0, l1, l2, l3, l4, .val (.int (1 : Int32)), .val (.ref bK), sl7, .val (.ref xS), .val (.int st), .unset, .unset] [(.int (own_w2 k0))])) t
        refine XS.ifNo X34.here hx rfl (hb hby at_352) rfl ((if0 _ _).trans (teq hc35).2) ?_
        refine XS.iconst X34.here hx rfl (hb hby at_355) ?_
        refine XS.istore X34.here hx rfl (hb hby at_356) rfl (l' := #[l0, l1, l2, l3, l4, .val (.int (1 : Int32)), .val (.ref bK), sl7, .val (.ref xS), .val (.int st), .val (.int (1 : Int32)), .unset]) rfl ?_
        refine XS.goto X34.here hx rfl (pc0 := 358) (pc' := 365) rfl (hb hby at_358) (by decide) (by decide) ?_
        exact k
      obtain ⟨hf37_0, hf37_1, hf37_2, hf37_3, hf37_4⟩ := own_fin1_1 k0 k1 k2 k3 st hst ew36
      exact J365_g (l0) (l1) (l2) (l3) (l4) T34 _ _ (.val (.int (1 : Int32))) (sl7) bK kb xS k0 k1 k2 k3 st (1 : Int32) ([k0] : List Int32) (X34.more (by decide) (by decide)) eq34 N34 Zj Kj Bj Cj Vj hk0 hk1 hk2 hk3 ⟨_, _, E_z, V_z, C_z, f28, hp_z, ln_z⟩ (Nat.le_of_ble_eq_true rfl) hf37_0 hf37_1 hf37_2 hf37_3 hf37_4
    · have ew38 : own_wb k0 = true := own_wT hc35
      refine OwnGo.of (A := T34.setTop (mkF m 352 #[l0, l1, l2, l3, l4, .val (.int (1 : Int32)), .val (.ref bK), sl7, .val (.ref xS), .val (.int st), .unset, .unset] [(.int (own_w2 k0))])) (B := T34.setTop (mkF m 365 #[l0, l1, l2, l3, l4, .val (.int (1 : Int32)), .val (.ref bK), sl7, .val (.ref xS), .val (.int st), .val (.int st), .unset] [])) (fun t k => ?_) ?_
      · show Steps p.tables e below (T34.setTop (mkF m 352 #[l0, l1, l2, l3, l4, .val (.int (1 : Int32)), .val (.ref bK), sl7, .val (.ref xS), .val (.int st), .unset, .unset] [(.int (own_w2 k0))])) t
        refine XS.ifYes X34.here hx rfl (pc0 := 352) (pc' := 361) rfl (hb hby at_352) rfl ((if0 _ _).trans (feq hc35).2) (by decide) (by decide) ?_
        refine XS.iload X34.here hx rfl (hb hby at_361) rfl ?_
        refine XS.istore X34.here hx rfl (hb hby at_363) rfl (l' := #[l0, l1, l2, l3, l4, .val (.int (1 : Int32)), .val (.ref bK), sl7, .val (.ref xS), .val (.int st), .val (.int st), .unset]) rfl ?_
        exact k
      obtain ⟨hf39_0, hf39_1, hf39_2, hf39_3, hf39_4⟩ := own_fin1_0 k0 k1 k2 k3 st hst ew38
      exact J365_g (l0) (l1) (l2) (l3) (l4) T34 _ _ (.val (.int (1 : Int32))) (sl7) bK kb xS k0 k1 k2 k3 st st ([k0] : List Int32) (X34.more (by decide) (by decide)) eq34 N34 Zj Kj Bj Cj Vj hk0 hk1 hk2 hk3 ⟨_, _, E_z, V_z, C_z, f28, hp_z, ln_z⟩ (Nat.le_of_ble_eq_true rfl) hf39_0 hf39_1 hf39_2 hf39_3 hf39_4
  have J274_2 : ∀ (l0 l1 l2 l3 l4 : Slot) (Tj : State) (Lo : List Loc) (hj : Heap) (sl7 : Slot) (bK : Addr) (kb : ClassId) (xS : Addr) (k0 k1 k2 k3 st : Int32) (Xj : Stand p l e room_1 s m #[(.int p0), (.int p1), (.int p2), (.int p3), (.int p4)] below meth c Tj Lo 4 12) (ej : Tj.heap = hj) (Nj : Fr n0 Lo) (Zj : n0 ≤ hj.size) (Kj : Keep h0 hj []) (Bj : OwnB s s hj) (Cj : CHr Z consts_1 s.vm h0 s.vm hj) (Vj : Arv Z hj bK kb .char (4 : Int32) [(.int k0), (.int k1), (.int k2), (.int k3)] (.int (0 : Int32))) (hk0 : OwnCh k0) (hk1 : OwnCh k1) (hk2 : OwnCh k2) (hk3 : OwnCh k3) (SSj : OwnStr Z hj xS ([k0, k1] : List Int32)) (hst : (st = (0 : Int32) ∧ own_wb k0 = false) ∨ (st = (1 : Int32) ∧ own_wb k0 = true ∧ own_wb k1 = false) ∨ (st = (2 : Int32) ∧ own_wb k0 = true ∧ own_wb k1 = true ∧ True)), OwnGo p.tables e below (fun o U' => ∃ v L, o = .returned v ∧ Qrm0 Z p0 p1 p2 p3 p4 zc fm h0 n0 v U'.heap L ∧ CHr Z consts_1 s.vm s.heap U'.vm U'.heap ∧ ReturnedEndW s o U' L room_1.cells room_1.slots) (Tj.setTop (mkF m 274 #[l0, l1, l2, l3, l4, .val (.int (2 : Int32)), .val (.ref bK), sl7, .val (.ref xS), .val (.int st), .unset, .unset] [])) := by
    intro l0 l1 l2 l3 l4 Tj Lo hj sl7 bK kb xS k0 k1 k2 k3 st Xj ej Nj Zj Kj Bj Cj Vj hk0 hk1 hk2 hk3 SSj hst
    have f40 : Sta Z hj "java/lang/String" "COMPACT_STRINGS" "Z" (.int zc) := own_sta_keep S_COMPACT_STRINGS Kj all0
    have f41 : Sta Z hj "jdk/internal/util/Preconditions" "SIOOBE_FORMATTER" "Ljava/util/function/BiFunction;" fm := own_sta_keep S_SIOOBE_FORMATTER Kj all0
    obtain ⟨t_z, kb_z, E_z, V_z, C_z, K_z, hp_z, ln_z⟩ := SSj
    have f42 : Arv Z hj t_z kb_z .byte (2 : Int32) [(.int (StrChars.lo8 k0)), (.int (StrChars.lo8 k1))] (.int (0 : Int32)) := K_z
    show OwnGo p.tables e below _ (Tj.setTop (mkF m 274 #[l0, l1, l2, l3, l4, .val (.int (2 : Int32)), .val (.ref bK), sl7, .val (.ref xS), .val (.int st), .unset, .unset] []))
    refine OwnGo.of (A := Tj.setTop (mkF m 274 #[l0, l1, l2, l3, l4, .val (.int (2 : Int32)), .val (.ref bK), sl7, .val (.ref xS), .val (.int st), .unset, .unset] [])) (B := Tj.setTop (mkF m 277 #[l0, l1, l2, l3, l4, .val (.int (2 : Int32)), .val (.ref bK), sl7, .val (.ref xS), .val (.int st), .unset, .unset] [(.int (3 : Int32)), (.int (2 : Int32))])) (fun t k => ?_) ?_
    · show Steps p.tables e below (Tj.setTop (mkF m 274 #[l0, l1, l2, l3, l4, .val (.int (2 : Int32)), .val (.ref bK), sl7, .val (.ref xS), .val (.int st), .unset, .unset] [])) t
      refine XS.iload Xj.here hx rfl (hb hby at_274) rfl ?_
      refine XS.iconst Xj.here hx rfl (hb hby at_276) ?_
      exact k
    have hc43 : ¬ ((3 : Int32) < (2 : Int32)) := by decide
    refine OwnGo.of (A := Tj.setTop (mkF m 277 #[l0, l1, l2, l3, l4, .val (.int (2 : Int32)), .val (.ref bK), sl7, .val (.ref xS), .val (.int st), .unset, .unset] [(.int (3 : Int32)), (.int (2 : Int32))])) (B := Tj.setTop (mkF m 299 #[l0, l1, l2, l3, l4, .val (.int (2 : Int32)), .val (.ref bK), sl7, .val (.ref xS), .val (.int st), .unset, .unset] [(.int (2 : Int32)), (.int (2 : Int32))])) (fun t k => ?_) ?_
    · show Steps p.tables e below (Tj.setTop (mkF m 277 #[l0, l1, l2, l3, l4, .val (.int (2 : Int32)), .val (.ref bK), sl7, .val (.ref xS), .val (.int st), .unset, .unset] [(.int (3 : Int32)), (.int (2 : Int32))])) t
      refine XS.icmpYes Xj.here hx rfl (pc0 := 277) (pc' := 296) rfl (hb hby at_277) rfl (flt hc43).2.2.2 (by decide) (by decide) ?_
      refine XS.iload Xj.here hx rfl (hb hby at_296) rfl ?_
      refine XS.iconst Xj.here hx rfl (hb hby at_298) ?_
      exact k
    have hc44 : ¬ ((2 : Int32) < (2 : Int32)) := by decide
    refine OwnGo.of (A := Tj.setTop (mkF m 299 #[l0, l1, l2, l3, l4, .val (.int (2 : Int32)), .val (.ref bK), sl7, .val (.ref xS), .val (.int st), .unset, .unset] [(.int (2 : Int32)), (.int (2 : Int32))])) (B := Tj.setTop (mkF m 321 #[l0, l1, l2, l3, l4, .val (.int (2 : Int32)), .val (.ref bK), sl7, .val (.ref xS), .val (.int st), .unset, .unset] [(.int (1 : Int32)), (.int (2 : Int32))])) (fun t k => ?_) ?_
    · show Steps p.tables e below (Tj.setTop (mkF m 299 #[l0, l1, l2, l3, l4, .val (.int (2 : Int32)), .val (.ref bK), sl7, .val (.ref xS), .val (.int st), .unset, .unset] [(.int (2 : Int32)), (.int (2 : Int32))])) t
      refine XS.icmpYes Xj.here hx rfl (pc0 := 299) (pc' := 318) rfl (hb hby at_299) rfl (flt hc44).2.2.2 (by decide) (by decide) ?_
      refine XS.iload Xj.here hx rfl (hb hby at_318) rfl ?_
      refine XS.iconst Xj.here hx rfl (hb hby at_320) ?_
      exact k
    have hc45 : (1 : Int32) < (2 : Int32) := by decide
    refine OwnGo.of (A := Tj.setTop (mkF m 321 #[l0, l1, l2, l3, l4, .val (.int (2 : Int32)), .val (.ref bK), sl7, .val (.ref xS), .val (.int st), .unset, .unset] [(.int (1 : Int32)), (.int (2 : Int32))])) (B := Tj.setTop (mkF m 327 #[l0, l1, l2, l3, l4, .val (.int (2 : Int32)), .val (.ref bK), sl7, .val (.ref xS), .val (.int st), .unset, .unset] [(.int (1 : Int32)), (.ref bK)])) (fun t k => ?_) ?_
    · show Steps p.tables e below (Tj.setTop (mkF m 321 #[l0, l1, l2, l3, l4, .val (.int (2 : Int32)), .val (.ref bK), sl7, .val (.ref xS), .val (.int st), .unset, .unset] [(.int (1 : Int32)), (.int (2 : Int32))])) t
      refine XS.icmpNo Xj.here hx rfl (hb hby at_321) rfl (tlt hc45).2.2.2 ?_
      refine XS.aload Xj.here hx rfl (hb hby at_324) rfl rfl ?_
      refine XS.iconst Xj.here hx rfl (hb hby at_326) ?_
      exact k
    have cq46 := Vj
    obtain ⟨clq46, Arq46, qq46, Sq46, Nq46, Hq46, Gq46⟩ := cq46
    have hinq46 := inb_of (j := (1 : Int32)) Sq46 ⟨by decide, by decide⟩
    refine OwnGo.of (Xj.caload hx (j := (1 : Int32)) (v := (.int k1)) (by rw [ej]; exact Arq46.1) (State.isArrayOf_alike hZ.alike Arq46.2.1) Arq46.2.2 hinq46 (Hq46.at hinq46 rfl) (g := (mkF m 327 #[l0, l1, l2, l3, l4, .val (.int (2 : Int32)), .val (.ref bK), sl7, .val (.ref xS), .val (.int st), .unset, .unset] [(.int (1 : Int32)), (.ref bK)])) rfl rfl (hb hby at_327)) ?_
    show OwnGo p.tables e below _ (Tj.setTop (mkF m 328 #[l0, l1, l2, l3, l4, .val (.int (2 : Int32)), .val (.ref bK), sl7, .val (.ref xS), .val (.int st), .unset, .unset] [(.int k1)]))
    obtain ⟨T47, L47, v47, X47, hQ47, st47⟩ := own_callS Xj hx (y := (⟨"dev/boundaryline/model/HeaderValueTrimPinLaw", "ws", "(C)Z"⟩ : MethodName)) hown (mvT hZ (w73 hw)) (mvT hZ (w74 hw)) (mvT hZ (w4 hw)) (mvT hZ (w75 hw)) (by decide) (backOf (W := 0) (rm16 l Z aw hw [] k1  hj n0 Zj ) hZ (w75 hw) (w4 hw) (by decide) (by decide)) (g := (mkF m 328 #[l0, l1, l2, l3, l4, .val (.int (2 : Int32)), .val (.ref bK), sl7, .val (.ref xS), .val (.int st), .unset, .unset] [(.int k1)])) rfl (by rw [hml]; rfl) (argsL := [(.int k1)]) (rest := []) (lenOf pd_22 rfl) rfl (by show 2 * 0 + _ ≤ _; exact Nat.le_of_eq rfl) (hb hby at_328) rfl ej (by decide) (by decide)
    obtain ⟨rfl, N47q, eq47⟩ := hQ47
    have N47 := Fr.app Nj N47q
    refine OwnGo.of st47 ?_
    show OwnGo p.tables e below _ (T47.setTop (mkF m 331 #[l0, l1, l2, l3, l4, .val (.int (2 : Int32)), .val (.ref bK), sl7, .val (.ref xS), .val (.int st), .unset, .unset] [(.int (own_w2 k1))]))
    by_cases hc48 : (own_w2 k1) = (0 : Int32)
    · have ew49 : own_wb k1 = false := own_wF hc48
      refine OwnGo.of (A := T47.setTop (mkF m 331 #[l0, l1, l2, l3, l4, .val (.int (2 : Int32)), .val (.ref bK), sl7, .val (.ref xS), .val (.int st), .unset, .unset] [(.int (own_w2 k1))])) (B := T47.setTop (mkF m 365 #[l0, l1, l2, l3, l4, .val (.int (2 : Int32)), .val (.ref bK), sl7, .val (.ref xS), .val (.int st), .val (.int (2 : Int32)), .unset] [])) (fun t k => ?_) ?_
      · show Steps p.tables e below (T47.setTop (mkF m 331 #[l0, l1, l2, l3, l4, .val (.int (2 : Int32)), .val (.ref bK), sl7, .val (.ref xS), .val (.int st), .unset, .unset] [(.int (own_w2 k1))])) t
        refine XS.ifNo X47.here hx rfl (hb hby at_331) rfl ((if0 _ _).trans (teq hc48).2) ?_
        refine XS.iconst X47.here hx rfl (hb hby at_334) ?_
        refine XS.istore X47.here hx rfl (hb hby at_335) rfl (l' := #[l0, l1, l2, l3, l4, .val (.int (2 : Int32)), .val (.ref bK), sl7, .val (.ref xS), .val (.int st), .val (.int (2 : Int32)), .unset]) rfl ?_
        refine XS.goto X47.here hx rfl (pc0 := 337) (pc' := 365) rfl (hb hby at_337) (by decide) (by decide) ?_
        exact k
      obtain ⟨hf50_0, hf50_1, hf50_2, hf50_3, hf50_4⟩ := own_fin2_2 k0 k1 k2 k3 st hst ew49
      exact J365_g (l0) (l1) (l2) (l3) (l4) T47 _ _ (.val (.int (2 : Int32))) (sl7) bK kb xS k0 k1 k2 k3 st (2 : Int32) ([k0, k1] : List Int32) (X47.more (by decide) (by decide)) eq47 N47 Zj Kj Bj Cj Vj hk0 hk1 hk2 hk3 ⟨_, _, E_z, V_z, C_z, f42, hp_z, ln_z⟩ (Nat.le_of_ble_eq_true rfl) hf50_0 hf50_1 hf50_2 hf50_3 hf50_4
    · have ew51 : own_wb k1 = true := own_wT hc48
      refine OwnGo.of (A := T47.setTop (mkF m 331 #[l0, l1, l2, l3, l4, .val (.int (2 : Int32)), .val (.ref bK), sl7, .val (.ref xS), .val (.int st), .unset, .unset] [(.int (own_w2 k1))])) (B := T47.setTop (mkF m 342 #[l0, l1, l2, l3, l4, .val (.int (2 : Int32)), .val (.ref bK), sl7, .val (.ref xS), .val (.int st), .unset, .unset] [(.int (2 : Int32))])) (fun t k => ?_) ?_
      · show Steps p.tables e below (T47.setTop (mkF m 331 #[l0, l1, l2, l3, l4, .val (.int (2 : Int32)), .val (.ref bK), sl7, .val (.ref xS), .val (.int st), .unset, .unset] [(.int (own_w2 k1))])) t
        refine XS.ifYes X47.here hx rfl (pc0 := 331) (pc' := 340) rfl (hb hby at_331) rfl ((if0 _ _).trans (feq hc48).2) (by decide) (by decide) ?_
        refine XS.iload X47.here hx rfl (hb hby at_340) rfl ?_
        exact k
      have hc52 : (0 : Int32) < (2 : Int32) := by decide
      refine OwnGo.of (A := T47.setTop (mkF m 342 #[l0, l1, l2, l3, l4, .val (.int (2 : Int32)), .val (.ref bK), sl7, .val (.ref xS), .val (.int st), .unset, .unset] [(.int (2 : Int32))])) (B := T47.setTop (mkF m 348 #[l0, l1, l2, l3, l4, .val (.int (2 : Int32)), .val (.ref bK), sl7, .val (.ref xS), .val (.int st), .unset, .unset] [(.int (0 : Int32)), (.ref bK)])) (fun t k => ?_) ?_
      · show Steps p.tables e below (T47.setTop (mkF m 342 #[l0, l1, l2, l3, l4, .val (.int (2 : Int32)), .val (.ref bK), sl7, .val (.ref xS), .val (.int st), .unset, .unset] [(.int (2 : Int32))])) t
        refine XS.ifNo X47.here hx rfl (hb hby at_342) rfl ((if0 _ _).trans (tlt hc52).2.2.2) ?_
        refine XS.aload X47.here hx rfl (hb hby at_345) rfl rfl ?_
        refine XS.iconst X47.here hx rfl (hb hby at_347) ?_
        exact k
      have cq53 := Vj
      obtain ⟨clq53, Arq53, qq53, Sq53, Nq53, Hq53, Gq53⟩ := cq53
      have hinq53 := inb_of (j := (0 : Int32)) Sq53 ⟨by decide, by decide⟩
      refine OwnGo.of (X47.caload hx (j := (0 : Int32)) (v := (.int k0)) (by rw [eq47]; exact Arq53.1) (State.isArrayOf_alike hZ.alike Arq53.2.1) Arq53.2.2 hinq53 (Hq53.at hinq53 rfl) (g := (mkF m 348 #[l0, l1, l2, l3, l4, .val (.int (2 : Int32)), .val (.ref bK), sl7, .val (.ref xS), .val (.int st), .unset, .unset] [(.int (0 : Int32)), (.ref bK)])) rfl rfl (hb hby at_348)) ?_
      show OwnGo p.tables e below _ (T47.setTop (mkF m 349 #[l0, l1, l2, l3, l4, .val (.int (2 : Int32)), .val (.ref bK), sl7, .val (.ref xS), .val (.int st), .unset, .unset] [(.int k0)]))
      obtain ⟨T54, L54, v54, X54, hQ54, st54⟩ := own_callS X47 hx (y := (⟨"dev/boundaryline/model/HeaderValueTrimPinLaw", "ws", "(C)Z"⟩ : MethodName)) hown (mvT hZ (w73 hw)) (mvT hZ (w74 hw)) (mvT hZ (w4 hw)) (mvT hZ (w75 hw)) (by decide) (backOf (W := 0) (rm16 l Z aw hw [] k0  hj n0 Zj ) hZ (w75 hw) (w4 hw) (by decide) (by decide)) (g := (mkF m 349 #[l0, l1, l2, l3, l4, .val (.int (2 : Int32)), .val (.ref bK), sl7, .val (.ref xS), .val (.int st), .unset, .unset] [(.int k0)])) rfl (by rw [hml]; rfl) (argsL := [(.int k0)]) (rest := []) (lenOf pd_22 rfl) rfl (by show 2 * 0 + _ ≤ _; exact Nat.le_of_eq rfl) (hb hby at_349) rfl eq47 (by decide) (by decide)
      obtain ⟨rfl, N54q, eq54⟩ := hQ54
      have N54 := Fr.app N47 N54q
      refine OwnGo.of st54 ?_
      show OwnGo p.tables e below _ (T54.setTop (mkF m 352 #[l0, l1, l2, l3, l4, .val (.int (2 : Int32)), .val (.ref bK), sl7, .val (.ref xS), .val (.int st), .unset, .unset] [(.int (own_w2 k0))]))
      by_cases hc55 : (own_w2 k0) = (0 : Int32)
      · have ew56 : own_wb k0 = false := own_wF hc55
        refine OwnGo.of (A := T54.setTop (mkF m 352 #[l0, l1, l2, l3, l4, .val (.int (2 : Int32)), .val (.ref bK), sl7, .val (.ref xS), .val (.int st), .unset, .unset] [(.int (own_w2 k0))])) (B := T54.setTop (mkF m 365 #[l0, l1, l2, l3, l4, .val (.int (2 : Int32)), .val (.ref bK), sl7, .val (.ref xS), .val (.int st), .val (.int (1 : Int32)), .unset] [])) (fun t k => ?_) ?_
        · show Steps p.tables e below (T54.setTop (mkF m 352 #[l0, l1, l2, l3, l4, .val (.int (2 : Int32)), .val (.ref bK), sl7, .val (.ref xS), .val (.int st), .unset, .unset] [(.int (own_w2 k0))])) t
          refine XS.ifNo X54.here hx rfl (hb hby at_352) rfl ((if0 _ _).trans (teq hc55).2) ?_
          refine XS.iconst X54.here hx rfl (hb hby at_355) ?_
          refine XS.istore X54.here hx rfl (hb hby at_356) rfl (l' := #[l0, l1, l2, l3, l4, .val (.int (2 : Int32)), .val (.ref bK), sl7, .val (.ref xS), .val (.int st), .val (.int (1 : Int32)), .unset]) rfl ?_
          refine XS.goto X54.here hx rfl (pc0 := 358) (pc' := 365) rfl (hb hby at_358) (by decide) (by decide) ?_
          exact k
        obtain ⟨hf57_0, hf57_1, hf57_2, hf57_3, hf57_4⟩ := own_fin2_1 k0 k1 k2 k3 st hst ew56 ew51
        exact J365_g (l0) (l1) (l2) (l3) (l4) T54 _ _ (.val (.int (2 : Int32))) (sl7) bK kb xS k0 k1 k2 k3 st (1 : Int32) ([k0, k1] : List Int32) (X54.more (by decide) (by decide)) eq54 N54 Zj Kj Bj Cj Vj hk0 hk1 hk2 hk3 ⟨_, _, E_z, V_z, C_z, f42, hp_z, ln_z⟩ (Nat.le_of_ble_eq_true rfl) hf57_0 hf57_1 hf57_2 hf57_3 hf57_4
      · have ew58 : own_wb k0 = true := own_wT hc55
        refine OwnGo.of (A := T54.setTop (mkF m 352 #[l0, l1, l2, l3, l4, .val (.int (2 : Int32)), .val (.ref bK), sl7, .val (.ref xS), .val (.int st), .unset, .unset] [(.int (own_w2 k0))])) (B := T54.setTop (mkF m 365 #[l0, l1, l2, l3, l4, .val (.int (2 : Int32)), .val (.ref bK), sl7, .val (.ref xS), .val (.int st), .val (.int st), .unset] [])) (fun t k => ?_) ?_
        · show Steps p.tables e below (T54.setTop (mkF m 352 #[l0, l1, l2, l3, l4, .val (.int (2 : Int32)), .val (.ref bK), sl7, .val (.ref xS), .val (.int st), .unset, .unset] [(.int (own_w2 k0))])) t
          refine XS.ifYes X54.here hx rfl (pc0 := 352) (pc' := 361) rfl (hb hby at_352) rfl ((if0 _ _).trans (feq hc55).2) (by decide) (by decide) ?_
          refine XS.iload X54.here hx rfl (hb hby at_361) rfl ?_
          refine XS.istore X54.here hx rfl (hb hby at_363) rfl (l' := #[l0, l1, l2, l3, l4, .val (.int (2 : Int32)), .val (.ref bK), sl7, .val (.ref xS), .val (.int st), .val (.int st), .unset]) rfl ?_
          exact k
        obtain ⟨hf59_0, hf59_1, hf59_2, hf59_3, hf59_4⟩ := own_fin2_0 k0 k1 k2 k3 st hst ew58 ew51
        exact J365_g (l0) (l1) (l2) (l3) (l4) T54 _ _ (.val (.int (2 : Int32))) (sl7) bK kb xS k0 k1 k2 k3 st st ([k0, k1] : List Int32) (X54.more (by decide) (by decide)) eq54 N54 Zj Kj Bj Cj Vj hk0 hk1 hk2 hk3 ⟨_, _, E_z, V_z, C_z, f42, hp_z, ln_z⟩ (Nat.le_of_ble_eq_true rfl) hf59_0 hf59_1 hf59_2 hf59_3 hf59_4
  have J274_3 : ∀ (l0 l1 l2 l3 l4 : Slot) (Tj : State) (Lo : List Loc) (hj : Heap) (sl7 : Slot) (bK : Addr) (kb : ClassId) (xS : Addr) (k0 k1 k2 k3 st : Int32) (Xj : Stand p l e room_1 s m #[(.int p0), (.int p1), (.int p2), (.int p3), (.int p4)] below meth c Tj Lo 4 14) (ej : Tj.heap = hj) (Nj : Fr n0 Lo) (Zj : n0 ≤ hj.size) (Kj : Keep h0 hj []) (Bj : OwnB s s hj) (Cj : CHr Z consts_1 s.vm h0 s.vm hj) (Vj : Arv Z hj bK kb .char (4 : Int32) [(.int k0), (.int k1), (.int k2), (.int k3)] (.int (0 : Int32))) (hk0 : OwnCh k0) (hk1 : OwnCh k1) (hk2 : OwnCh k2) (hk3 : OwnCh k3) (SSj : OwnStr Z hj xS ([k0, k1, k2] : List Int32)) (hst : (st = (0 : Int32) ∧ own_wb k0 = false) ∨ (st = (1 : Int32) ∧ own_wb k0 = true ∧ own_wb k1 = false) ∨ (st = (2 : Int32) ∧ own_wb k0 = true ∧ own_wb k1 = true ∧ own_wb k2 = false) ∨ (st = (3 : Int32) ∧ own_wb k0 = true ∧ own_wb k1 = true ∧ own_wb k2 = true ∧ True)), OwnGo p.tables e below (fun o U' => ∃ v L, o = .returned v ∧ Qrm0 Z p0 p1 p2 p3 p4 zc fm h0 n0 v U'.heap L ∧ CHr Z consts_1 s.vm s.heap U'.vm U'.heap ∧ ReturnedEndW s o U' L room_1.cells room_1.slots) (Tj.setTop (mkF m 274 #[l0, l1, l2, l3, l4, .val (.int (3 : Int32)), .val (.ref bK), sl7, .val (.ref xS), .val (.int st), .unset, .unset] [])) := by
    intro l0 l1 l2 l3 l4 Tj Lo hj sl7 bK kb xS k0 k1 k2 k3 st Xj ej Nj Zj Kj Bj Cj Vj hk0 hk1 hk2 hk3 SSj hst
    have f60 : Sta Z hj "java/lang/String" "COMPACT_STRINGS" "Z" (.int zc) := own_sta_keep S_COMPACT_STRINGS Kj all0
    have f61 : Sta Z hj "jdk/internal/util/Preconditions" "SIOOBE_FORMATTER" "Ljava/util/function/BiFunction;" fm := own_sta_keep S_SIOOBE_FORMATTER Kj all0
    obtain ⟨t_z, kb_z, E_z, V_z, C_z, K_z, hp_z, ln_z⟩ := SSj
    have f62 : Arv Z hj t_z kb_z .byte (3 : Int32) [(.int (StrChars.lo8 k0)), (.int (StrChars.lo8 k1)), (.int (StrChars.lo8 k2))] (.int (0 : Int32)) := K_z
    show OwnGo p.tables e below _ (Tj.setTop (mkF m 274 #[l0, l1, l2, l3, l4, .val (.int (3 : Int32)), .val (.ref bK), sl7, .val (.ref xS), .val (.int st), .unset, .unset] []))
    refine OwnGo.of (A := Tj.setTop (mkF m 274 #[l0, l1, l2, l3, l4, .val (.int (3 : Int32)), .val (.ref bK), sl7, .val (.ref xS), .val (.int st), .unset, .unset] [])) (B := Tj.setTop (mkF m 277 #[l0, l1, l2, l3, l4, .val (.int (3 : Int32)), .val (.ref bK), sl7, .val (.ref xS), .val (.int st), .unset, .unset] [(.int (3 : Int32)), (.int (3 : Int32))])) (fun t k => ?_) ?_
    · show Steps p.tables e below (Tj.setTop (mkF m 274 #[l0, l1, l2, l3, l4, .val (.int (3 : Int32)), .val (.ref bK), sl7, .val (.ref xS), .val (.int st), .unset, .unset] [])) t
      refine XS.iload Xj.here hx rfl (hb hby at_274) rfl ?_
      refine XS.iconst Xj.here hx rfl (hb hby at_276) ?_
      exact k
    have hc63 : ¬ ((3 : Int32) < (3 : Int32)) := by decide
    refine OwnGo.of (A := Tj.setTop (mkF m 277 #[l0, l1, l2, l3, l4, .val (.int (3 : Int32)), .val (.ref bK), sl7, .val (.ref xS), .val (.int st), .unset, .unset] [(.int (3 : Int32)), (.int (3 : Int32))])) (B := Tj.setTop (mkF m 299 #[l0, l1, l2, l3, l4, .val (.int (3 : Int32)), .val (.ref bK), sl7, .val (.ref xS), .val (.int st), .unset, .unset] [(.int (2 : Int32)), (.int (3 : Int32))])) (fun t k => ?_) ?_
    · show Steps p.tables e below (Tj.setTop (mkF m 277 #[l0, l1, l2, l3, l4, .val (.int (3 : Int32)), .val (.ref bK), sl7, .val (.ref xS), .val (.int st), .unset, .unset] [(.int (3 : Int32)), (.int (3 : Int32))])) t
      refine XS.icmpYes Xj.here hx rfl (pc0 := 277) (pc' := 296) rfl (hb hby at_277) rfl (flt hc63).2.2.2 (by decide) (by decide) ?_
      refine XS.iload Xj.here hx rfl (hb hby at_296) rfl ?_
      refine XS.iconst Xj.here hx rfl (hb hby at_298) ?_
      exact k
    have hc64 : (2 : Int32) < (3 : Int32) := by decide
    refine OwnGo.of (A := Tj.setTop (mkF m 299 #[l0, l1, l2, l3, l4, .val (.int (3 : Int32)), .val (.ref bK), sl7, .val (.ref xS), .val (.int st), .unset, .unset] [(.int (2 : Int32)), (.int (3 : Int32))])) (B := Tj.setTop (mkF m 305 #[l0, l1, l2, l3, l4, .val (.int (3 : Int32)), .val (.ref bK), sl7, .val (.ref xS), .val (.int st), .unset, .unset] [(.int (2 : Int32)), (.ref bK)])) (fun t k => ?_) ?_
    · show Steps p.tables e below (Tj.setTop (mkF m 299 #[l0, l1, l2, l3, l4, .val (.int (3 : Int32)), .val (.ref bK), sl7, .val (.ref xS), .val (.int st), .unset, .unset] [(.int (2 : Int32)), (.int (3 : Int32))])) t
      refine XS.icmpNo Xj.here hx rfl (hb hby at_299) rfl (tlt hc64).2.2.2 ?_
      refine XS.aload Xj.here hx rfl (hb hby at_302) rfl rfl ?_
      refine XS.iconst Xj.here hx rfl (hb hby at_304) ?_
      exact k
    have cq65 := Vj
    obtain ⟨clq65, Arq65, qq65, Sq65, Nq65, Hq65, Gq65⟩ := cq65
    have hinq65 := inb_of (j := (2 : Int32)) Sq65 ⟨by decide, by decide⟩
    refine OwnGo.of (Xj.caload hx (j := (2 : Int32)) (v := (.int k2)) (by rw [ej]; exact Arq65.1) (State.isArrayOf_alike hZ.alike Arq65.2.1) Arq65.2.2 hinq65 (Hq65.at hinq65 rfl) (g := (mkF m 305 #[l0, l1, l2, l3, l4, .val (.int (3 : Int32)), .val (.ref bK), sl7, .val (.ref xS), .val (.int st), .unset, .unset] [(.int (2 : Int32)), (.ref bK)])) rfl rfl (hb hby at_305)) ?_
    show OwnGo p.tables e below _ (Tj.setTop (mkF m 306 #[l0, l1, l2, l3, l4, .val (.int (3 : Int32)), .val (.ref bK), sl7, .val (.ref xS), .val (.int st), .unset, .unset] [(.int k2)]))
    obtain ⟨T66, L66, v66, X66, hQ66, st66⟩ := own_callS Xj hx (y := (⟨"dev/boundaryline/model/HeaderValueTrimPinLaw", "ws", "(C)Z"⟩ : MethodName)) hown (mvT hZ (w73 hw)) (mvT hZ (w74 hw)) (mvT hZ (w4 hw)) (mvT hZ (w75 hw)) (by decide) (backOf (W := 0) (rm16 l Z aw hw [] k2  hj n0 Zj ) hZ (w75 hw) (w4 hw) (by decide) (by decide)) (g := (mkF m 306 #[l0, l1, l2, l3, l4, .val (.int (3 : Int32)), .val (.ref bK), sl7, .val (.ref xS), .val (.int st), .unset, .unset] [(.int k2)])) rfl (by rw [hml]; rfl) (argsL := [(.int k2)]) (rest := []) (lenOf pd_22 rfl) rfl (by show 2 * 0 + _ ≤ _; exact Nat.le_of_eq rfl) (hb hby at_306) rfl ej (by decide) (by decide)
    obtain ⟨rfl, N66q, eq66⟩ := hQ66
    have N66 := Fr.app Nj N66q
    refine OwnGo.of st66 ?_
    show OwnGo p.tables e below _ (T66.setTop (mkF m 309 #[l0, l1, l2, l3, l4, .val (.int (3 : Int32)), .val (.ref bK), sl7, .val (.ref xS), .val (.int st), .unset, .unset] [(.int (own_w2 k2))]))
    by_cases hc67 : (own_w2 k2) = (0 : Int32)
    · have ew68 : own_wb k2 = false := own_wF hc67
      refine OwnGo.of (A := T66.setTop (mkF m 309 #[l0, l1, l2, l3, l4, .val (.int (3 : Int32)), .val (.ref bK), sl7, .val (.ref xS), .val (.int st), .unset, .unset] [(.int (own_w2 k2))])) (B := T66.setTop (mkF m 365 #[l0, l1, l2, l3, l4, .val (.int (3 : Int32)), .val (.ref bK), sl7, .val (.ref xS), .val (.int st), .val (.int (3 : Int32)), .unset] [])) (fun t k => ?_) ?_
      · show Steps p.tables e below (T66.setTop (mkF m 309 #[l0, l1, l2, l3, l4, .val (.int (3 : Int32)), .val (.ref bK), sl7, .val (.ref xS), .val (.int st), .unset, .unset] [(.int (own_w2 k2))])) t
        refine XS.ifNo X66.here hx rfl (hb hby at_309) rfl ((if0 _ _).trans (teq hc67).2) ?_
        refine XS.iconst X66.here hx rfl (hb hby at_312) ?_
        refine XS.istore X66.here hx rfl (hb hby at_313) rfl (l' := #[l0, l1, l2, l3, l4, .val (.int (3 : Int32)), .val (.ref bK), sl7, .val (.ref xS), .val (.int st), .val (.int (3 : Int32)), .unset]) rfl ?_
        refine XS.goto X66.here hx rfl (pc0 := 315) (pc' := 365) rfl (hb hby at_315) (by decide) (by decide) ?_
        exact k
      obtain ⟨hf69_0, hf69_1, hf69_2, hf69_3, hf69_4⟩ := own_fin3_3 k0 k1 k2 k3 st hst ew68
      exact J365_g (l0) (l1) (l2) (l3) (l4) T66 _ _ (.val (.int (3 : Int32))) (sl7) bK kb xS k0 k1 k2 k3 st (3 : Int32) ([k0, k1, k2] : List Int32) (X66.more (by decide) (by decide)) eq66 N66 Zj Kj Bj Cj Vj hk0 hk1 hk2 hk3 ⟨_, _, E_z, V_z, C_z, f62, hp_z, ln_z⟩ (Nat.le_of_ble_eq_true rfl) hf69_0 hf69_1 hf69_2 hf69_3 hf69_4
    · have ew70 : own_wb k2 = true := own_wT hc67
      refine OwnGo.of (A := T66.setTop (mkF m 309 #[l0, l1, l2, l3, l4, .val (.int (3 : Int32)), .val (.ref bK), sl7, .val (.ref xS), .val (.int st), .unset, .unset] [(.int (own_w2 k2))])) (B := T66.setTop (mkF m 321 #[l0, l1, l2, l3, l4, .val (.int (3 : Int32)), .val (.ref bK), sl7, .val (.ref xS), .val (.int st), .unset, .unset] [(.int (1 : Int32)), (.int (3 : Int32))])) (fun t k => ?_) ?_
      · show Steps p.tables e below (T66.setTop (mkF m 309 #[l0, l1, l2, l3, l4, .val (.int (3 : Int32)), .val (.ref bK), sl7, .val (.ref xS), .val (.int st), .unset, .unset] [(.int (own_w2 k2))])) t
        refine XS.ifYes X66.here hx rfl (pc0 := 309) (pc' := 318) rfl (hb hby at_309) rfl ((if0 _ _).trans (feq hc67).2) (by decide) (by decide) ?_
        refine XS.iload X66.here hx rfl (hb hby at_318) rfl ?_
        refine XS.iconst X66.here hx rfl (hb hby at_320) ?_
        exact k
      have hc71 : (1 : Int32) < (3 : Int32) := by decide
      refine OwnGo.of (A := T66.setTop (mkF m 321 #[l0, l1, l2, l3, l4, .val (.int (3 : Int32)), .val (.ref bK), sl7, .val (.ref xS), .val (.int st), .unset, .unset] [(.int (1 : Int32)), (.int (3 : Int32))])) (B := T66.setTop (mkF m 327 #[l0, l1, l2, l3, l4, .val (.int (3 : Int32)), .val (.ref bK), sl7, .val (.ref xS), .val (.int st), .unset, .unset] [(.int (1 : Int32)), (.ref bK)])) (fun t k => ?_) ?_
      · show Steps p.tables e below (T66.setTop (mkF m 321 #[l0, l1, l2, l3, l4, .val (.int (3 : Int32)), .val (.ref bK), sl7, .val (.ref xS), .val (.int st), .unset, .unset] [(.int (1 : Int32)), (.int (3 : Int32))])) t
        refine XS.icmpNo X66.here hx rfl (hb hby at_321) rfl (tlt hc71).2.2.2 ?_
        refine XS.aload X66.here hx rfl (hb hby at_324) rfl rfl ?_
        refine XS.iconst X66.here hx rfl (hb hby at_326) ?_
        exact k
      have cq72 := Vj
      obtain ⟨clq72, Arq72, qq72, Sq72, Nq72, Hq72, Gq72⟩ := cq72
      have hinq72 := inb_of (j := (1 : Int32)) Sq72 ⟨by decide, by decide⟩
      refine OwnGo.of (X66.caload hx (j := (1 : Int32)) (v := (.int k1)) (by rw [eq66]; exact Arq72.1) (State.isArrayOf_alike hZ.alike Arq72.2.1) Arq72.2.2 hinq72 (Hq72.at hinq72 rfl) (g := (mkF m 327 #[l0, l1, l2, l3, l4, .val (.int (3 : Int32)), .val (.ref bK), sl7, .val (.ref xS), .val (.int st), .unset, .unset] [(.int (1 : Int32)), (.ref bK)])) rfl rfl (hb hby at_327)) ?_
      show OwnGo p.tables e below _ (T66.setTop (mkF m 328 #[l0, l1, l2, l3, l4, .val (.int (3 : Int32)), .val (.ref bK), sl7, .val (.ref xS), .val (.int st), .unset, .unset] [(.int k1)]))
      obtain ⟨T73, L73, v73, X73, hQ73, st73⟩ := own_callS X66 hx (y := (⟨"dev/boundaryline/model/HeaderValueTrimPinLaw", "ws", "(C)Z"⟩ : MethodName)) hown (mvT hZ (w73 hw)) (mvT hZ (w74 hw)) (mvT hZ (w4 hw)) (mvT hZ (w75 hw)) (by decide) (backOf (W := 0) (rm16 l Z aw hw [] k1  hj n0 Zj ) hZ (w75 hw) (w4 hw) (by decide) (by decide)) (g := (mkF m 328 #[l0, l1, l2, l3, l4, .val (.int (3 : Int32)), .val (.ref bK), sl7, .val (.ref xS), .val (.int st), .unset, .unset] [(.int k1)])) rfl (by rw [hml]; rfl) (argsL := [(.int k1)]) (rest := []) (lenOf pd_22 rfl) rfl (by show 2 * 0 + _ ≤ _; exact Nat.le_of_eq rfl) (hb hby at_328) rfl eq66 (by decide) (by decide)
      obtain ⟨rfl, N73q, eq73⟩ := hQ73
      have N73 := Fr.app N66 N73q
      refine OwnGo.of st73 ?_
      show OwnGo p.tables e below _ (T73.setTop (mkF m 331 #[l0, l1, l2, l3, l4, .val (.int (3 : Int32)), .val (.ref bK), sl7, .val (.ref xS), .val (.int st), .unset, .unset] [(.int (own_w2 k1))]))
      by_cases hc74 : (own_w2 k1) = (0 : Int32)
      · have ew75 : own_wb k1 = false := own_wF hc74
        refine OwnGo.of (A := T73.setTop (mkF m 331 #[l0, l1, l2, l3, l4, .val (.int (3 : Int32)), .val (.ref bK), sl7, .val (.ref xS), .val (.int st), .unset, .unset] [(.int (own_w2 k1))])) (B := T73.setTop (mkF m 365 #[l0, l1, l2, l3, l4, .val (.int (3 : Int32)), .val (.ref bK), sl7, .val (.ref xS), .val (.int st), .val (.int (2 : Int32)), .unset] [])) (fun t k => ?_) ?_
        · show Steps p.tables e below (T73.setTop (mkF m 331 #[l0, l1, l2, l3, l4, .val (.int (3 : Int32)), .val (.ref bK), sl7, .val (.ref xS), .val (.int st), .unset, .unset] [(.int (own_w2 k1))])) t
          refine XS.ifNo X73.here hx rfl (hb hby at_331) rfl ((if0 _ _).trans (teq hc74).2) ?_
          refine XS.iconst X73.here hx rfl (hb hby at_334) ?_
          refine XS.istore X73.here hx rfl (hb hby at_335) rfl (l' := #[l0, l1, l2, l3, l4, .val (.int (3 : Int32)), .val (.ref bK), sl7, .val (.ref xS), .val (.int st), .val (.int (2 : Int32)), .unset]) rfl ?_
          refine XS.goto X73.here hx rfl (pc0 := 337) (pc' := 365) rfl (hb hby at_337) (by decide) (by decide) ?_
          exact k
        obtain ⟨hf76_0, hf76_1, hf76_2, hf76_3, hf76_4⟩ := own_fin3_2 k0 k1 k2 k3 st hst ew75 ew70
        exact J365_g (l0) (l1) (l2) (l3) (l4) T73 _ _ (.val (.int (3 : Int32))) (sl7) bK kb xS k0 k1 k2 k3 st (2 : Int32) ([k0, k1, k2] : List Int32) (X73.more (by decide) (by decide)) eq73 N73 Zj Kj Bj Cj Vj hk0 hk1 hk2 hk3 ⟨_, _, E_z, V_z, C_z, f62, hp_z, ln_z⟩ (Nat.le_of_ble_eq_true rfl) hf76_0 hf76_1 hf76_2 hf76_3 hf76_4
      · have ew77 : own_wb k1 = true := own_wT hc74
        refine OwnGo.of (A := T73.setTop (mkF m 331 #[l0, l1, l2, l3, l4, .val (.int (3 : Int32)), .val (.ref bK), sl7, .val (.ref xS), .val (.int st), .unset, .unset] [(.int (own_w2 k1))])) (B := T73.setTop (mkF m 342 #[l0, l1, l2, l3, l4, .val (.int (3 : Int32)), .val (.ref bK), sl7, .val (.ref xS), .val (.int st), .unset, .unset] [(.int (3 : Int32))])) (fun t k => ?_) ?_
        · show Steps p.tables e below (T73.setTop (mkF m 331 #[l0, l1, l2, l3, l4, .val (.int (3 : Int32)), .val (.ref bK), sl7, .val (.ref xS), .val (.int st), .unset, .unset] [(.int (own_w2 k1))])) t
          refine XS.ifYes X73.here hx rfl (pc0 := 331) (pc' := 340) rfl (hb hby at_331) rfl ((if0 _ _).trans (feq hc74).2) (by decide) (by decide) ?_
          refine XS.iload X73.here hx rfl (hb hby at_340) rfl ?_
          exact k
        have hc78 : (0 : Int32) < (3 : Int32) := by decide
        refine OwnGo.of (A := T73.setTop (mkF m 342 #[l0, l1, l2, l3, l4, .val (.int (3 : Int32)), .val (.ref bK), sl7, .val (.ref xS), .val (.int st), .unset, .unset] [(.int (3 : Int32))])) (B := T73.setTop (mkF m 348 #[l0, l1, l2, l3, l4, .val (.int (3 : Int32)), .val (.ref bK), sl7, .val (.ref xS), .val (.int st), .unset, .unset] [(.int (0 : Int32)), (.ref bK)])) (fun t k => ?_) ?_
        · show Steps p.tables e below (T73.setTop (mkF m 342 #[l0, l1, l2, l3, l4, .val (.int (3 : Int32)), .val (.ref bK), sl7, .val (.ref xS), .val (.int st), .unset, .unset] [(.int (3 : Int32))])) t
          refine XS.ifNo X73.here hx rfl (hb hby at_342) rfl ((if0 _ _).trans (tlt hc78).2.2.2) ?_
          refine XS.aload X73.here hx rfl (hb hby at_345) rfl rfl ?_
          refine XS.iconst X73.here hx rfl (hb hby at_347) ?_
          exact k
        have cq79 := Vj
        obtain ⟨clq79, Arq79, qq79, Sq79, Nq79, Hq79, Gq79⟩ := cq79
        have hinq79 := inb_of (j := (0 : Int32)) Sq79 ⟨by decide, by decide⟩
        refine OwnGo.of (X73.caload hx (j := (0 : Int32)) (v := (.int k0)) (by rw [eq73]; exact Arq79.1) (State.isArrayOf_alike hZ.alike Arq79.2.1) Arq79.2.2 hinq79 (Hq79.at hinq79 rfl) (g := (mkF m 348 #[l0, l1, l2, l3, l4, .val (.int (3 : Int32)), .val (.ref bK), sl7, .val (.ref xS), .val (.int st), .unset, .unset] [(.int (0 : Int32)), (.ref bK)])) rfl rfl (hb hby at_348)) ?_
        show OwnGo p.tables e below _ (T73.setTop (mkF m 349 #[l0, l1, l2, l3, l4, .val (.int (3 : Int32)), .val (.ref bK), sl7, .val (.ref xS), .val (.int st), .unset, .unset] [(.int k0)]))
        obtain ⟨T80, L80, v80, X80, hQ80, st80⟩ := own_callS X73 hx (y := (⟨"dev/boundaryline/model/HeaderValueTrimPinLaw", "ws", "(C)Z"⟩ : MethodName)) hown (mvT hZ (w73 hw)) (mvT hZ (w74 hw)) (mvT hZ (w4 hw)) (mvT hZ (w75 hw)) (by decide) (backOf (W := 0) (rm16 l Z aw hw [] k0  hj n0 Zj ) hZ (w75 hw) (w4 hw) (by decide) (by decide)) (g := (mkF m 349 #[l0, l1, l2, l3, l4, .val (.int (3 : Int32)), .val (.ref bK), sl7, .val (.ref xS), .val (.int st), .unset, .unset] [(.int k0)])) rfl (by rw [hml]; rfl) (argsL := [(.int k0)]) (rest := []) (lenOf pd_22 rfl) rfl (by show 2 * 0 + _ ≤ _; exact Nat.le_of_eq rfl) (hb hby at_349) rfl eq73 (by decide) (by decide)
        obtain ⟨rfl, N80q, eq80⟩ := hQ80
        have N80 := Fr.app N73 N80q
        refine OwnGo.of st80 ?_
        show OwnGo p.tables e below _ (T80.setTop (mkF m 352 #[l0, l1, l2, l3, l4, .val (.int (3 : Int32)), .val (.ref bK), sl7, .val (.ref xS), .val (.int st), .unset, .unset] [(.int (own_w2 k0))]))
        by_cases hc81 : (own_w2 k0) = (0 : Int32)
        · have ew82 : own_wb k0 = false := own_wF hc81
          refine OwnGo.of (A := T80.setTop (mkF m 352 #[l0, l1, l2, l3, l4, .val (.int (3 : Int32)), .val (.ref bK), sl7, .val (.ref xS), .val (.int st), .unset, .unset] [(.int (own_w2 k0))])) (B := T80.setTop (mkF m 365 #[l0, l1, l2, l3, l4, .val (.int (3 : Int32)), .val (.ref bK), sl7, .val (.ref xS), .val (.int st), .val (.int (1 : Int32)), .unset] [])) (fun t k => ?_) ?_
          · show Steps p.tables e below (T80.setTop (mkF m 352 #[l0, l1, l2, l3, l4, .val (.int (3 : Int32)), .val (.ref bK), sl7, .val (.ref xS), .val (.int st), .unset, .unset] [(.int (own_w2 k0))])) t
            refine XS.ifNo X80.here hx rfl (hb hby at_352) rfl ((if0 _ _).trans (teq hc81).2) ?_
            refine XS.iconst X80.here hx rfl (hb hby at_355) ?_
            refine XS.istore X80.here hx rfl (hb hby at_356) rfl (l' := #[l0, l1, l2, l3, l4, .val (.int (3 : Int32)), .val (.ref bK), sl7, .val (.ref xS), .val (.int st), .val (.int (1 : Int32)), .unset]) rfl ?_
            refine XS.goto X80.here hx rfl (pc0 := 358) (pc' := 365) rfl (hb hby at_358) (by decide) (by decide) ?_
            exact k
          obtain ⟨hf83_0, hf83_1, hf83_2, hf83_3, hf83_4⟩ := own_fin3_1 k0 k1 k2 k3 st hst ew82 ew77 ew70
          exact J365_g (l0) (l1) (l2) (l3) (l4) T80 _ _ (.val (.int (3 : Int32))) (sl7) bK kb xS k0 k1 k2 k3 st (1 : Int32) ([k0, k1, k2] : List Int32) (X80.more (by decide) (by decide)) eq80 N80 Zj Kj Bj Cj Vj hk0 hk1 hk2 hk3 ⟨_, _, E_z, V_z, C_z, f62, hp_z, ln_z⟩ (Nat.le_of_ble_eq_true rfl) hf83_0 hf83_1 hf83_2 hf83_3 hf83_4
        · have ew84 : own_wb k0 = true := own_wT hc81
          refine OwnGo.of (A := T80.setTop (mkF m 352 #[l0, l1, l2, l3, l4, .val (.int (3 : Int32)), .val (.ref bK), sl7, .val (.ref xS), .val (.int st), .unset, .unset] [(.int (own_w2 k0))])) (B := T80.setTop (mkF m 365 #[l0, l1, l2, l3, l4, .val (.int (3 : Int32)), .val (.ref bK), sl7, .val (.ref xS), .val (.int st), .val (.int st), .unset] [])) (fun t k => ?_) ?_
          · show Steps p.tables e below (T80.setTop (mkF m 352 #[l0, l1, l2, l3, l4, .val (.int (3 : Int32)), .val (.ref bK), sl7, .val (.ref xS), .val (.int st), .unset, .unset] [(.int (own_w2 k0))])) t
            refine XS.ifYes X80.here hx rfl (pc0 := 352) (pc' := 361) rfl (hb hby at_352) rfl ((if0 _ _).trans (feq hc81).2) (by decide) (by decide) ?_
            refine XS.iload X80.here hx rfl (hb hby at_361) rfl ?_
            refine XS.istore X80.here hx rfl (hb hby at_363) rfl (l' := #[l0, l1, l2, l3, l4, .val (.int (3 : Int32)), .val (.ref bK), sl7, .val (.ref xS), .val (.int st), .val (.int st), .unset]) rfl ?_
            exact k
          obtain ⟨hf85_0, hf85_1, hf85_2, hf85_3, hf85_4⟩ := own_fin3_0 k0 k1 k2 k3 st hst ew84 ew77 ew70
          exact J365_g (l0) (l1) (l2) (l3) (l4) T80 _ _ (.val (.int (3 : Int32))) (sl7) bK kb xS k0 k1 k2 k3 st st ([k0, k1, k2] : List Int32) (X80.more (by decide) (by decide)) eq80 N80 Zj Kj Bj Cj Vj hk0 hk1 hk2 hk3 ⟨_, _, E_z, V_z, C_z, f62, hp_z, ln_z⟩ (Nat.le_of_ble_eq_true rfl) hf85_0 hf85_1 hf85_2 hf85_3 hf85_4
  have J274_4 : ∀ (l0 l1 l2 l3 l4 : Slot) (Tj : State) (Lo : List Loc) (hj : Heap) (sl7 : Slot) (bK : Addr) (kb : ClassId) (xS : Addr) (k0 k1 k2 k3 st : Int32) (Xj : Stand p l e room_1 s m #[(.int p0), (.int p1), (.int p2), (.int p3), (.int p4)] below meth c Tj Lo 4 16) (ej : Tj.heap = hj) (Nj : Fr n0 Lo) (Zj : n0 ≤ hj.size) (Kj : Keep h0 hj []) (Bj : OwnB s s hj) (Cj : CHr Z consts_1 s.vm h0 s.vm hj) (Vj : Arv Z hj bK kb .char (4 : Int32) [(.int k0), (.int k1), (.int k2), (.int k3)] (.int (0 : Int32))) (hk0 : OwnCh k0) (hk1 : OwnCh k1) (hk2 : OwnCh k2) (hk3 : OwnCh k3) (SSj : OwnStr Z hj xS ([k0, k1, k2, k3] : List Int32)) (hst : (st = (0 : Int32) ∧ own_wb k0 = false) ∨ (st = (1 : Int32) ∧ own_wb k0 = true ∧ own_wb k1 = false) ∨ (st = (2 : Int32) ∧ own_wb k0 = true ∧ own_wb k1 = true ∧ own_wb k2 = false) ∨ (st = (3 : Int32) ∧ own_wb k0 = true ∧ own_wb k1 = true ∧ own_wb k2 = true ∧ own_wb k3 = false) ∨ (st = (4 : Int32) ∧ own_wb k0 = true ∧ own_wb k1 = true ∧ own_wb k2 = true ∧ own_wb k3 = true ∧ True)), OwnGo p.tables e below (fun o U' => ∃ v L, o = .returned v ∧ Qrm0 Z p0 p1 p2 p3 p4 zc fm h0 n0 v U'.heap L ∧ CHr Z consts_1 s.vm s.heap U'.vm U'.heap ∧ ReturnedEndW s o U' L room_1.cells room_1.slots) (Tj.setTop (mkF m 274 #[l0, l1, l2, l3, l4, .val (.int (4 : Int32)), .val (.ref bK), sl7, .val (.ref xS), .val (.int st), .unset, .unset] [])) := by
    intro l0 l1 l2 l3 l4 Tj Lo hj sl7 bK kb xS k0 k1 k2 k3 st Xj ej Nj Zj Kj Bj Cj Vj hk0 hk1 hk2 hk3 SSj hst
    have f86 : Sta Z hj "java/lang/String" "COMPACT_STRINGS" "Z" (.int zc) := own_sta_keep S_COMPACT_STRINGS Kj all0
    have f87 : Sta Z hj "jdk/internal/util/Preconditions" "SIOOBE_FORMATTER" "Ljava/util/function/BiFunction;" fm := own_sta_keep S_SIOOBE_FORMATTER Kj all0
    obtain ⟨t_z, kb_z, E_z, V_z, C_z, K_z, hp_z, ln_z⟩ := SSj
    have f88 : Arv Z hj t_z kb_z .byte (4 : Int32) [(.int (StrChars.lo8 k0)), (.int (StrChars.lo8 k1)), (.int (StrChars.lo8 k2)), (.int (StrChars.lo8 k3))] (.int (0 : Int32)) := K_z
    show OwnGo p.tables e below _ (Tj.setTop (mkF m 274 #[l0, l1, l2, l3, l4, .val (.int (4 : Int32)), .val (.ref bK), sl7, .val (.ref xS), .val (.int st), .unset, .unset] []))
    refine OwnGo.of (A := Tj.setTop (mkF m 274 #[l0, l1, l2, l3, l4, .val (.int (4 : Int32)), .val (.ref bK), sl7, .val (.ref xS), .val (.int st), .unset, .unset] [])) (B := Tj.setTop (mkF m 277 #[l0, l1, l2, l3, l4, .val (.int (4 : Int32)), .val (.ref bK), sl7, .val (.ref xS), .val (.int st), .unset, .unset] [(.int (3 : Int32)), (.int (4 : Int32))])) (fun t k => ?_) ?_
    · show Steps p.tables e below (Tj.setTop (mkF m 274 #[l0, l1, l2, l3, l4, .val (.int (4 : Int32)), .val (.ref bK), sl7, .val (.ref xS), .val (.int st), .unset, .unset] [])) t
      refine XS.iload Xj.here hx rfl (hb hby at_274) rfl ?_
      refine XS.iconst Xj.here hx rfl (hb hby at_276) ?_
      exact k
    have hc89 : (3 : Int32) < (4 : Int32) := by decide
    refine OwnGo.of (A := Tj.setTop (mkF m 277 #[l0, l1, l2, l3, l4, .val (.int (4 : Int32)), .val (.ref bK), sl7, .val (.ref xS), .val (.int st), .unset, .unset] [(.int (3 : Int32)), (.int (4 : Int32))])) (B := Tj.setTop (mkF m 283 #[l0, l1, l2, l3, l4, .val (.int (4 : Int32)), .val (.ref bK), sl7, .val (.ref xS), .val (.int st), .unset, .unset] [(.int (3 : Int32)), (.ref bK)])) (fun t k => ?_) ?_
    · show Steps p.tables e below (Tj.setTop (mkF m 277 #[l0, l1, l2, l3, l4, .val (.int (4 : Int32)), .val (.ref bK), sl7, .val (.ref xS), .val (.int st), .unset, .unset] [(.int (3 : Int32)), (.int (4 : Int32))])) t
      refine XS.icmpNo Xj.here hx rfl (hb hby at_277) rfl (tlt hc89).2.2.2 ?_
      refine XS.aload Xj.here hx rfl (hb hby at_280) rfl rfl ?_
      refine XS.iconst Xj.here hx rfl (hb hby at_282) ?_
      exact k
    have cq90 := Vj
    obtain ⟨clq90, Arq90, qq90, Sq90, Nq90, Hq90, Gq90⟩ := cq90
    have hinq90 := inb_of (j := (3 : Int32)) Sq90 ⟨by decide, by decide⟩
    refine OwnGo.of (Xj.caload hx (j := (3 : Int32)) (v := (.int k3)) (by rw [ej]; exact Arq90.1) (State.isArrayOf_alike hZ.alike Arq90.2.1) Arq90.2.2 hinq90 (Hq90.at hinq90 rfl) (g := (mkF m 283 #[l0, l1, l2, l3, l4, .val (.int (4 : Int32)), .val (.ref bK), sl7, .val (.ref xS), .val (.int st), .unset, .unset] [(.int (3 : Int32)), (.ref bK)])) rfl rfl (hb hby at_283)) ?_
    show OwnGo p.tables e below _ (Tj.setTop (mkF m 284 #[l0, l1, l2, l3, l4, .val (.int (4 : Int32)), .val (.ref bK), sl7, .val (.ref xS), .val (.int st), .unset, .unset] [(.int k3)]))
    obtain ⟨T91, L91, v91, X91, hQ91, st91⟩ := own_callS Xj hx (y := (⟨"dev/boundaryline/model/HeaderValueTrimPinLaw", "ws", "(C)Z"⟩ : MethodName)) hown (mvT hZ (w73 hw)) (mvT hZ (w74 hw)) (mvT hZ (w4 hw)) (mvT hZ (w75 hw)) (by decide) (backOf (W := 0) (rm16 l Z aw hw [] k3  hj n0 Zj ) hZ (w75 hw) (w4 hw) (by decide) (by decide)) (g := (mkF m 284 #[l0, l1, l2, l3, l4, .val (.int (4 : Int32)), .val (.ref bK), sl7, .val (.ref xS), .val (.int st), .unset, .unset] [(.int k3)])) rfl (by rw [hml]; rfl) (argsL := [(.int k3)]) (rest := []) (lenOf pd_22 rfl) rfl (by show 2 * 0 + _ ≤ _; exact Nat.le_of_eq rfl) (hb hby at_284) rfl ej (by decide) (by decide)
    obtain ⟨rfl, N91q, eq91⟩ := hQ91
    have N91 := Fr.app Nj N91q
    refine OwnGo.of st91 ?_
    show OwnGo p.tables e below _ (T91.setTop (mkF m 287 #[l0, l1, l2, l3, l4, .val (.int (4 : Int32)), .val (.ref bK), sl7, .val (.ref xS), .val (.int st), .unset, .unset] [(.int (own_w2 k3))]))
    by_cases hc92 : (own_w2 k3) = (0 : Int32)
    · have ew93 : own_wb k3 = false := own_wF hc92
      refine OwnGo.of (A := T91.setTop (mkF m 287 #[l0, l1, l2, l3, l4, .val (.int (4 : Int32)), .val (.ref bK), sl7, .val (.ref xS), .val (.int st), .unset, .unset] [(.int (own_w2 k3))])) (B := T91.setTop (mkF m 365 #[l0, l1, l2, l3, l4, .val (.int (4 : Int32)), .val (.ref bK), sl7, .val (.ref xS), .val (.int st), .val (.int (4 : Int32)), .unset] [])) (fun t k => ?_) ?_
      · show Steps p.tables e below (T91.setTop (mkF m 287 #[l0, l1, l2, l3, l4, .val (.int (4 : Int32)), .val (.ref bK), sl7, .val (.ref xS), .val (.int st), .unset, .unset] [(.int (own_w2 k3))])) t
        refine XS.ifNo X91.here hx rfl (hb hby at_287) rfl ((if0 _ _).trans (teq hc92).2) ?_
        refine XS.iconst X91.here hx rfl (hb hby at_290) ?_
        refine XS.istore X91.here hx rfl (hb hby at_291) rfl (l' := #[l0, l1, l2, l3, l4, .val (.int (4 : Int32)), .val (.ref bK), sl7, .val (.ref xS), .val (.int st), .val (.int (4 : Int32)), .unset]) rfl ?_
        refine XS.goto X91.here hx rfl (pc0 := 293) (pc' := 365) rfl (hb hby at_293) (by decide) (by decide) ?_
        exact k
      obtain ⟨hf94_0, hf94_1, hf94_2, hf94_3, hf94_4⟩ := own_fin4_4 k0 k1 k2 k3 st hst ew93
      exact J365_g (l0) (l1) (l2) (l3) (l4) T91 _ _ (.val (.int (4 : Int32))) (sl7) bK kb xS k0 k1 k2 k3 st (4 : Int32) ([k0, k1, k2, k3] : List Int32) (X91.more (by decide) (by decide)) eq91 N91 Zj Kj Bj Cj Vj hk0 hk1 hk2 hk3 ⟨_, _, E_z, V_z, C_z, f88, hp_z, ln_z⟩ (Nat.le_of_ble_eq_true rfl) hf94_0 hf94_1 hf94_2 hf94_3 hf94_4
    · have ew95 : own_wb k3 = true := own_wT hc92
      refine OwnGo.of (A := T91.setTop (mkF m 287 #[l0, l1, l2, l3, l4, .val (.int (4 : Int32)), .val (.ref bK), sl7, .val (.ref xS), .val (.int st), .unset, .unset] [(.int (own_w2 k3))])) (B := T91.setTop (mkF m 299 #[l0, l1, l2, l3, l4, .val (.int (4 : Int32)), .val (.ref bK), sl7, .val (.ref xS), .val (.int st), .unset, .unset] [(.int (2 : Int32)), (.int (4 : Int32))])) (fun t k => ?_) ?_
      · show Steps p.tables e below (T91.setTop (mkF m 287 #[l0, l1, l2, l3, l4, .val (.int (4 : Int32)), .val (.ref bK), sl7, .val (.ref xS), .val (.int st), .unset, .unset] [(.int (own_w2 k3))])) t
        refine XS.ifYes X91.here hx rfl (pc0 := 287) (pc' := 296) rfl (hb hby at_287) rfl ((if0 _ _).trans (feq hc92).2) (by decide) (by decide) ?_
        refine XS.iload X91.here hx rfl (hb hby at_296) rfl ?_
        refine XS.iconst X91.here hx rfl (hb hby at_298) ?_
        exact k
      have hc96 : (2 : Int32) < (4 : Int32) := by decide
      refine OwnGo.of (A := T91.setTop (mkF m 299 #[l0, l1, l2, l3, l4, .val (.int (4 : Int32)), .val (.ref bK), sl7, .val (.ref xS), .val (.int st), .unset, .unset] [(.int (2 : Int32)), (.int (4 : Int32))])) (B := T91.setTop (mkF m 305 #[l0, l1, l2, l3, l4, .val (.int (4 : Int32)), .val (.ref bK), sl7, .val (.ref xS), .val (.int st), .unset, .unset] [(.int (2 : Int32)), (.ref bK)])) (fun t k => ?_) ?_
      · show Steps p.tables e below (T91.setTop (mkF m 299 #[l0, l1, l2, l3, l4, .val (.int (4 : Int32)), .val (.ref bK), sl7, .val (.ref xS), .val (.int st), .unset, .unset] [(.int (2 : Int32)), (.int (4 : Int32))])) t
        refine XS.icmpNo X91.here hx rfl (hb hby at_299) rfl (tlt hc96).2.2.2 ?_
        refine XS.aload X91.here hx rfl (hb hby at_302) rfl rfl ?_
        refine XS.iconst X91.here hx rfl (hb hby at_304) ?_
        exact k
      have cq97 := Vj
      obtain ⟨clq97, Arq97, qq97, Sq97, Nq97, Hq97, Gq97⟩ := cq97
      have hinq97 := inb_of (j := (2 : Int32)) Sq97 ⟨by decide, by decide⟩
      refine OwnGo.of (X91.caload hx (j := (2 : Int32)) (v := (.int k2)) (by rw [eq91]; exact Arq97.1) (State.isArrayOf_alike hZ.alike Arq97.2.1) Arq97.2.2 hinq97 (Hq97.at hinq97 rfl) (g := (mkF m 305 #[l0, l1, l2, l3, l4, .val (.int (4 : Int32)), .val (.ref bK), sl7, .val (.ref xS), .val (.int st), .unset, .unset] [(.int (2 : Int32)), (.ref bK)])) rfl rfl (hb hby at_305)) ?_
      show OwnGo p.tables e below _ (T91.setTop (mkF m 306 #[l0, l1, l2, l3, l4, .val (.int (4 : Int32)), .val (.ref bK), sl7, .val (.ref xS), .val (.int st), .unset, .unset] [(.int k2)]))
      obtain ⟨T98, L98, v98, X98, hQ98, st98⟩ := own_callS X91 hx (y := (⟨"dev/boundaryline/model/HeaderValueTrimPinLaw", "ws", "(C)Z"⟩ : MethodName)) hown (mvT hZ (w73 hw)) (mvT hZ (w74 hw)) (mvT hZ (w4 hw)) (mvT hZ (w75 hw)) (by decide) (backOf (W := 0) (rm16 l Z aw hw [] k2  hj n0 Zj ) hZ (w75 hw) (w4 hw) (by decide) (by decide)) (g := (mkF m 306 #[l0, l1, l2, l3, l4, .val (.int (4 : Int32)), .val (.ref bK), sl7, .val (.ref xS), .val (.int st), .unset, .unset] [(.int k2)])) rfl (by rw [hml]; rfl) (argsL := [(.int k2)]) (rest := []) (lenOf pd_22 rfl) rfl (by show 2 * 0 + _ ≤ _; exact Nat.le_of_eq rfl) (hb hby at_306) rfl eq91 (by decide) (by decide)
      obtain ⟨rfl, N98q, eq98⟩ := hQ98
      have N98 := Fr.app N91 N98q
      refine OwnGo.of st98 ?_
      show OwnGo p.tables e below _ (T98.setTop (mkF m 309 #[l0, l1, l2, l3, l4, .val (.int (4 : Int32)), .val (.ref bK), sl7, .val (.ref xS), .val (.int st), .unset, .unset] [(.int (own_w2 k2))]))
      by_cases hc99 : (own_w2 k2) = (0 : Int32)
      · have ew100 : own_wb k2 = false := own_wF hc99
        refine OwnGo.of (A := T98.setTop (mkF m 309 #[l0, l1, l2, l3, l4, .val (.int (4 : Int32)), .val (.ref bK), sl7, .val (.ref xS), .val (.int st), .unset, .unset] [(.int (own_w2 k2))])) (B := T98.setTop (mkF m 365 #[l0, l1, l2, l3, l4, .val (.int (4 : Int32)), .val (.ref bK), sl7, .val (.ref xS), .val (.int st), .val (.int (3 : Int32)), .unset] [])) (fun t k => ?_) ?_
        · show Steps p.tables e below (T98.setTop (mkF m 309 #[l0, l1, l2, l3, l4, .val (.int (4 : Int32)), .val (.ref bK), sl7, .val (.ref xS), .val (.int st), .unset, .unset] [(.int (own_w2 k2))])) t
          refine XS.ifNo X98.here hx rfl (hb hby at_309) rfl ((if0 _ _).trans (teq hc99).2) ?_
          refine XS.iconst X98.here hx rfl (hb hby at_312) ?_
          refine XS.istore X98.here hx rfl (hb hby at_313) rfl (l' := #[l0, l1, l2, l3, l4, .val (.int (4 : Int32)), .val (.ref bK), sl7, .val (.ref xS), .val (.int st), .val (.int (3 : Int32)), .unset]) rfl ?_
          refine XS.goto X98.here hx rfl (pc0 := 315) (pc' := 365) rfl (hb hby at_315) (by decide) (by decide) ?_
          exact k
        obtain ⟨hf101_0, hf101_1, hf101_2, hf101_3, hf101_4⟩ := own_fin4_3 k0 k1 k2 k3 st hst ew100 ew95
        exact J365_g (l0) (l1) (l2) (l3) (l4) T98 _ _ (.val (.int (4 : Int32))) (sl7) bK kb xS k0 k1 k2 k3 st (3 : Int32) ([k0, k1, k2, k3] : List Int32) (X98.more (by decide) (by decide)) eq98 N98 Zj Kj Bj Cj Vj hk0 hk1 hk2 hk3 ⟨_, _, E_z, V_z, C_z, f88, hp_z, ln_z⟩ (Nat.le_of_ble_eq_true rfl) hf101_0 hf101_1 hf101_2 hf101_3 hf101_4
      · have ew102 : own_wb k2 = true := own_wT hc99
        refine OwnGo.of (A := T98.setTop (mkF m 309 #[l0, l1, l2, l3, l4, .val (.int (4 : Int32)), .val (.ref bK), sl7, .val (.ref xS), .val (.int st), .unset, .unset] [(.int (own_w2 k2))])) (B := T98.setTop (mkF m 321 #[l0, l1, l2, l3, l4, .val (.int (4 : Int32)), .val (.ref bK), sl7, .val (.ref xS), .val (.int st), .unset, .unset] [(.int (1 : Int32)), (.int (4 : Int32))])) (fun t k => ?_) ?_
        · show Steps p.tables e below (T98.setTop (mkF m 309 #[l0, l1, l2, l3, l4, .val (.int (4 : Int32)), .val (.ref bK), sl7, .val (.ref xS), .val (.int st), .unset, .unset] [(.int (own_w2 k2))])) t
          refine XS.ifYes X98.here hx rfl (pc0 := 309) (pc' := 318) rfl (hb hby at_309) rfl ((if0 _ _).trans (feq hc99).2) (by decide) (by decide) ?_
          refine XS.iload X98.here hx rfl (hb hby at_318) rfl ?_
          refine XS.iconst X98.here hx rfl (hb hby at_320) ?_
          exact k
        have hc103 : (1 : Int32) < (4 : Int32) := by decide
        refine OwnGo.of (A := T98.setTop (mkF m 321 #[l0, l1, l2, l3, l4, .val (.int (4 : Int32)), .val (.ref bK), sl7, .val (.ref xS), .val (.int st), .unset, .unset] [(.int (1 : Int32)), (.int (4 : Int32))])) (B := T98.setTop (mkF m 327 #[l0, l1, l2, l3, l4, .val (.int (4 : Int32)), .val (.ref bK), sl7, .val (.ref xS), .val (.int st), .unset, .unset] [(.int (1 : Int32)), (.ref bK)])) (fun t k => ?_) ?_
        · show Steps p.tables e below (T98.setTop (mkF m 321 #[l0, l1, l2, l3, l4, .val (.int (4 : Int32)), .val (.ref bK), sl7, .val (.ref xS), .val (.int st), .unset, .unset] [(.int (1 : Int32)), (.int (4 : Int32))])) t
          refine XS.icmpNo X98.here hx rfl (hb hby at_321) rfl (tlt hc103).2.2.2 ?_
          refine XS.aload X98.here hx rfl (hb hby at_324) rfl rfl ?_
          refine XS.iconst X98.here hx rfl (hb hby at_326) ?_
          exact k
        have cq104 := Vj
        obtain ⟨clq104, Arq104, qq104, Sq104, Nq104, Hq104, Gq104⟩ := cq104
        have hinq104 := inb_of (j := (1 : Int32)) Sq104 ⟨by decide, by decide⟩
        refine OwnGo.of (X98.caload hx (j := (1 : Int32)) (v := (.int k1)) (by rw [eq98]; exact Arq104.1) (State.isArrayOf_alike hZ.alike Arq104.2.1) Arq104.2.2 hinq104 (Hq104.at hinq104 rfl) (g := (mkF m 327 #[l0, l1, l2, l3, l4, .val (.int (4 : Int32)), .val (.ref bK), sl7, .val (.ref xS), .val (.int st), .unset, .unset] [(.int (1 : Int32)), (.ref bK)])) rfl rfl (hb hby at_327)) ?_
        show OwnGo p.tables e below _ (T98.setTop (mkF m 328 #[l0, l1, l2, l3, l4, .val (.int (4 : Int32)), .val (.ref bK), sl7, .val (.ref xS), .val (.int st), .unset, .unset] [(.int k1)]))
        obtain ⟨T105, L105, v105, X105, hQ105, st105⟩ := own_callS X98 hx (y := (⟨"dev/boundaryline/model/HeaderValueTrimPinLaw", "ws", "(C)Z"⟩ : MethodName)) hown (mvT hZ (w73 hw)) (mvT hZ (w74 hw)) (mvT hZ (w4 hw)) (mvT hZ (w75 hw)) (by decide) (backOf (W := 0) (rm16 l Z aw hw [] k1  hj n0 Zj ) hZ (w75 hw) (w4 hw) (by decide) (by decide)) (g := (mkF m 328 #[l0, l1, l2, l3, l4, .val (.int (4 : Int32)), .val (.ref bK), sl7, .val (.ref xS), .val (.int st), .unset, .unset] [(.int k1)])) rfl (by rw [hml]; rfl) (argsL := [(.int k1)]) (rest := []) (lenOf pd_22 rfl) rfl (by show 2 * 0 + _ ≤ _; exact Nat.le_of_eq rfl) (hb hby at_328) rfl eq98 (by decide) (by decide)
        obtain ⟨rfl, N105q, eq105⟩ := hQ105
        have N105 := Fr.app N98 N105q
        refine OwnGo.of st105 ?_
        show OwnGo p.tables e below _ (T105.setTop (mkF m 331 #[l0, l1, l2, l3, l4, .val (.int (4 : Int32)), .val (.ref bK), sl7, .val (.ref xS), .val (.int st), .unset, .unset] [(.int (own_w2 k1))]))
        by_cases hc106 : (own_w2 k1) = (0 : Int32)
        · have ew107 : own_wb k1 = false := own_wF hc106
          refine OwnGo.of (A := T105.setTop (mkF m 331 #[l0, l1, l2, l3, l4, .val (.int (4 : Int32)), .val (.ref bK), sl7, .val (.ref xS), .val (.int st), .unset, .unset] [(.int (own_w2 k1))])) (B := T105.setTop (mkF m 365 #[l0, l1, l2, l3, l4, .val (.int (4 : Int32)), .val (.ref bK), sl7, .val (.ref xS), .val (.int st), .val (.int (2 : Int32)), .unset] [])) (fun t k => ?_) ?_
          · show Steps p.tables e below (T105.setTop (mkF m 331 #[l0, l1, l2, l3, l4, .val (.int (4 : Int32)), .val (.ref bK), sl7, .val (.ref xS), .val (.int st), .unset, .unset] [(.int (own_w2 k1))])) t
            refine XS.ifNo X105.here hx rfl (hb hby at_331) rfl ((if0 _ _).trans (teq hc106).2) ?_
            refine XS.iconst X105.here hx rfl (hb hby at_334) ?_
            refine XS.istore X105.here hx rfl (hb hby at_335) rfl (l' := #[l0, l1, l2, l3, l4, .val (.int (4 : Int32)), .val (.ref bK), sl7, .val (.ref xS), .val (.int st), .val (.int (2 : Int32)), .unset]) rfl ?_
            refine XS.goto X105.here hx rfl (pc0 := 337) (pc' := 365) rfl (hb hby at_337) (by decide) (by decide) ?_
            exact k
          obtain ⟨hf108_0, hf108_1, hf108_2, hf108_3, hf108_4⟩ := own_fin4_2 k0 k1 k2 k3 st hst ew107 ew102 ew95
          exact J365_g (l0) (l1) (l2) (l3) (l4) T105 _ _ (.val (.int (4 : Int32))) (sl7) bK kb xS k0 k1 k2 k3 st (2 : Int32) ([k0, k1, k2, k3] : List Int32) (X105.more (by decide) (by decide)) eq105 N105 Zj Kj Bj Cj Vj hk0 hk1 hk2 hk3 ⟨_, _, E_z, V_z, C_z, f88, hp_z, ln_z⟩ (Nat.le_of_ble_eq_true rfl) hf108_0 hf108_1 hf108_2 hf108_3 hf108_4
        · have ew109 : own_wb k1 = true := own_wT hc106
          refine OwnGo.of (A := T105.setTop (mkF m 331 #[l0, l1, l2, l3, l4, .val (.int (4 : Int32)), .val (.ref bK), sl7, .val (.ref xS), .val (.int st), .unset, .unset] [(.int (own_w2 k1))])) (B := T105.setTop (mkF m 342 #[l0, l1, l2, l3, l4, .val (.int (4 : Int32)), .val (.ref bK), sl7, .val (.ref xS), .val (.int st), .unset, .unset] [(.int (4 : Int32))])) (fun t k => ?_) ?_
          · show Steps p.tables e below (T105.setTop (mkF m 331 #[l0, l1, l2, l3, l4, .val (.int (4 : Int32)), .val (.ref bK), sl7, .val (.ref xS), .val (.int st), .unset, .unset] [(.int (own_w2 k1))])) t
            refine XS.ifYes X105.here hx rfl (pc0 := 331) (pc' := 340) rfl (hb hby at_331) rfl ((if0 _ _).trans (feq hc106).2) (by decide) (by decide) ?_
            refine XS.iload X105.here hx rfl (hb hby at_340) rfl ?_
            exact k
          have hc110 : (0 : Int32) < (4 : Int32) := by decide
          refine OwnGo.of (A := T105.setTop (mkF m 342 #[l0, l1, l2, l3, l4, .val (.int (4 : Int32)), .val (.ref bK), sl7, .val (.ref xS), .val (.int st), .unset, .unset] [(.int (4 : Int32))])) (B := T105.setTop (mkF m 348 #[l0, l1, l2, l3, l4, .val (.int (4 : Int32)), .val (.ref bK), sl7, .val (.ref xS), .val (.int st), .unset, .unset] [(.int (0 : Int32)), (.ref bK)])) (fun t k => ?_) ?_
          · show Steps p.tables e below (T105.setTop (mkF m 342 #[l0, l1, l2, l3, l4, .val (.int (4 : Int32)), .val (.ref bK), sl7, .val (.ref xS), .val (.int st), .unset, .unset] [(.int (4 : Int32))])) t
            refine XS.ifNo X105.here hx rfl (hb hby at_342) rfl ((if0 _ _).trans (tlt hc110).2.2.2) ?_
            refine XS.aload X105.here hx rfl (hb hby at_345) rfl rfl ?_
            refine XS.iconst X105.here hx rfl (hb hby at_347) ?_
            exact k
          have cq111 := Vj
          obtain ⟨clq111, Arq111, qq111, Sq111, Nq111, Hq111, Gq111⟩ := cq111
          have hinq111 := inb_of (j := (0 : Int32)) Sq111 ⟨by decide, by decide⟩
          refine OwnGo.of (X105.caload hx (j := (0 : Int32)) (v := (.int k0)) (by rw [eq105]; exact Arq111.1) (State.isArrayOf_alike hZ.alike Arq111.2.1) Arq111.2.2 hinq111 (Hq111.at hinq111 rfl) (g := (mkF m 348 #[l0, l1, l2, l3, l4, .val (.int (4 : Int32)), .val (.ref bK), sl7, .val (.ref xS), .val (.int st), .unset, .unset] [(.int (0 : Int32)), (.ref bK)])) rfl rfl (hb hby at_348)) ?_
          show OwnGo p.tables e below _ (T105.setTop (mkF m 349 #[l0, l1, l2, l3, l4, .val (.int (4 : Int32)), .val (.ref bK), sl7, .val (.ref xS), .val (.int st), .unset, .unset] [(.int k0)]))
          obtain ⟨T112, L112, v112, X112, hQ112, st112⟩ := own_callS X105 hx (y := (⟨"dev/boundaryline/model/HeaderValueTrimPinLaw", "ws", "(C)Z"⟩ : MethodName)) hown (mvT hZ (w73 hw)) (mvT hZ (w74 hw)) (mvT hZ (w4 hw)) (mvT hZ (w75 hw)) (by decide) (backOf (W := 0) (rm16 l Z aw hw [] k0  hj n0 Zj ) hZ (w75 hw) (w4 hw) (by decide) (by decide)) (g := (mkF m 349 #[l0, l1, l2, l3, l4, .val (.int (4 : Int32)), .val (.ref bK), sl7, .val (.ref xS), .val (.int st), .unset, .unset] [(.int k0)])) rfl (by rw [hml]; rfl) (argsL := [(.int k0)]) (rest := []) (lenOf pd_22 rfl) rfl (by show 2 * 0 + _ ≤ _; exact Nat.le_of_eq rfl) (hb hby at_349) rfl eq105 (by decide) (by decide)
          obtain ⟨rfl, N112q, eq112⟩ := hQ112
          have N112 := Fr.app N105 N112q
          refine OwnGo.of st112 ?_
          show OwnGo p.tables e below _ (T112.setTop (mkF m 352 #[l0, l1, l2, l3, l4, .val (.int (4 : Int32)), .val (.ref bK), sl7, .val (.ref xS), .val (.int st), .unset, .unset] [(.int (own_w2 k0))]))
          by_cases hc113 : (own_w2 k0) = (0 : Int32)
          · have ew114 : own_wb k0 = false := own_wF hc113
            refine OwnGo.of (A := T112.setTop (mkF m 352 #[l0, l1, l2, l3, l4, .val (.int (4 : Int32)), .val (.ref bK), sl7, .val (.ref xS), .val (.int st), .unset, .unset] [(.int (own_w2 k0))])) (B := T112.setTop (mkF m 365 #[l0, l1, l2, l3, l4, .val (.int (4 : Int32)), .val (.ref bK), sl7, .val (.ref xS), .val (.int st), .val (.int (1 : Int32)), .unset] [])) (fun t k => ?_) ?_
            · show Steps p.tables e below (T112.setTop (mkF m 352 #[l0, l1, l2, l3, l4, .val (.int (4 : Int32)), .val (.ref bK), sl7, .val (.ref xS), .val (.int st), .unset, .unset] [(.int (own_w2 k0))])) t
              refine XS.ifNo X112.here hx rfl (hb hby at_352) rfl ((if0 _ _).trans (teq hc113).2) ?_
              refine XS.iconst X112.here hx rfl (hb hby at_355) ?_
              refine XS.istore X112.here hx rfl (hb hby at_356) rfl (l' := #[l0, l1, l2, l3, l4, .val (.int (4 : Int32)), .val (.ref bK), sl7, .val (.ref xS), .val (.int st), .val (.int (1 : Int32)), .unset]) rfl ?_
              refine XS.goto X112.here hx rfl (pc0 := 358) (pc' := 365) rfl (hb hby at_358) (by decide) (by decide) ?_
              exact k
            obtain ⟨hf115_0, hf115_1, hf115_2, hf115_3, hf115_4⟩ := own_fin4_1 k0 k1 k2 k3 st hst ew114 ew109 ew102 ew95
            exact J365_g (l0) (l1) (l2) (l3) (l4) T112 _ _ (.val (.int (4 : Int32))) (sl7) bK kb xS k0 k1 k2 k3 st (1 : Int32) ([k0, k1, k2, k3] : List Int32) (X112.more (by decide) (by decide)) eq112 N112 Zj Kj Bj Cj Vj hk0 hk1 hk2 hk3 ⟨_, _, E_z, V_z, C_z, f88, hp_z, ln_z⟩ (Nat.le_of_ble_eq_true rfl) hf115_0 hf115_1 hf115_2 hf115_3 hf115_4
          · have ew116 : own_wb k0 = true := own_wT hc113
            refine OwnGo.of (A := T112.setTop (mkF m 352 #[l0, l1, l2, l3, l4, .val (.int (4 : Int32)), .val (.ref bK), sl7, .val (.ref xS), .val (.int st), .unset, .unset] [(.int (own_w2 k0))])) (B := T112.setTop (mkF m 365 #[l0, l1, l2, l3, l4, .val (.int (4 : Int32)), .val (.ref bK), sl7, .val (.ref xS), .val (.int st), .val (.int st), .unset] [])) (fun t k => ?_) ?_
            · show Steps p.tables e below (T112.setTop (mkF m 352 #[l0, l1, l2, l3, l4, .val (.int (4 : Int32)), .val (.ref bK), sl7, .val (.ref xS), .val (.int st), .unset, .unset] [(.int (own_w2 k0))])) t
              refine XS.ifYes X112.here hx rfl (pc0 := 352) (pc' := 361) rfl (hb hby at_352) rfl ((if0 _ _).trans (feq hc113).2) (by decide) (by decide) ?_
              refine XS.iload X112.here hx rfl (hb hby at_361) rfl ?_
              refine XS.istore X112.here hx rfl (hb hby at_363) rfl (l' := #[l0, l1, l2, l3, l4, .val (.int (4 : Int32)), .val (.ref bK), sl7, .val (.ref xS), .val (.int st), .val (.int st), .unset]) rfl ?_
              exact k
            obtain ⟨hf117_0, hf117_1, hf117_2, hf117_3, hf117_4⟩ := own_fin4_0 k0 k1 k2 k3 st hst ew116 ew109 ew102 ew95
            exact J365_g (l0) (l1) (l2) (l3) (l4) T112 _ _ (.val (.int (4 : Int32))) (sl7) bK kb xS k0 k1 k2 k3 st st ([k0, k1, k2, k3] : List Int32) (X112.more (by decide) (by decide)) eq112 N112 Zj Kj Bj Cj Vj hk0 hk1 hk2 hk3 ⟨_, _, E_z, V_z, C_z, f88, hp_z, ln_z⟩ (Nat.le_of_ble_eq_true rfl) hf117_0 hf117_1 hf117_2 hf117_3 hf117_4
  have J42_a : ∀ (l0 l1 l2 l3 l4 : Slot) (Tj : State) (Lo : List Loc) (hj : Heap) (bK : Addr) (kb : ClassId) (k0 k1 k2 k3 nn : Int32) (Xj : Stand p l e room_1 s m #[(.int p0), (.int p1), (.int p2), (.int p3), (.int p4)] below meth c Tj Lo 1 4) (ej : Tj.heap = hj) (Nj : Fr n0 Lo) (Zj : n0 ≤ hj.size) (Kj : Keep h0 hj []) (Bj : OwnB s s hj) (Cj : CHr Z consts_1 s.vm h0 s.vm hj) (Vj : Arv Z hj bK kb .char (4 : Int32) [(.int k0), (.int k1), (.int k2), (.int k3)] (.int (0 : Int32))) (hk0 : OwnCh k0) (hk1 : OwnCh k1) (hk2 : OwnCh k2) (hk3 : OwnCh k3) (hnn : nn = 0 ∨ nn = 1 ∨ nn = 2 ∨ nn = 3 ∨ nn = 4), OwnGo p.tables e below (fun o U' => ∃ v L, o = .returned v ∧ Qrm0 Z p0 p1 p2 p3 p4 zc fm h0 n0 v U'.heap L ∧ CHr Z consts_1 s.vm s.heap U'.vm U'.heap ∧ ReturnedEndW s o U' L room_1.cells room_1.slots) (Tj.setTop (mkF m 42 #[l0, l1, l2, l3, l4, .val (.int nn), .val (.ref bK), .unset, .unset, .unset, .unset, .unset] [])) := by
    intro l0 l1 l2 l3 l4 Tj Lo hj bK kb k0 k1 k2 k3 nn Xj ej Nj Zj Kj Bj Cj Vj hk0 hk1 hk2 hk3 hnn
    have f118 : Sta Z hj "java/lang/String" "COMPACT_STRINGS" "Z" (.int zc) := own_sta_keep S_COMPACT_STRINGS Kj all0
    have f119 : Sta Z hj "jdk/internal/util/Preconditions" "SIOOBE_FORMATTER" "Ljava/util/function/BiFunction;" fm := own_sta_keep S_SIOOBE_FORMATTER Kj all0
    show OwnGo p.tables e below _ (Tj.setTop (mkF m 42 #[l0, l1, l2, l3, l4, .val (.int nn), .val (.ref bK), .unset, .unset, .unset, .unset, .unset] []))
    rcases hnn with rfl | rfl | rfl | rfl | rfl
    · show OwnGo p.tables e below _ (Tj.setTop (mkF m 42 #[l0, l1, l2, l3, l4, .val (.int (0 : Int32)), .val (.ref bK), .unset, .unset, .unset, .unset, .unset] []))
      refine OwnGo.of (A := Tj.setTop (mkF m 42 #[l0, l1, l2, l3, l4, .val (.int (0 : Int32)), .val (.ref bK), .unset, .unset, .unset, .unset, .unset] [])) (B := Tj.setTop (mkF m 44 #[l0, l1, l2, l3, l4, .val (.int (0 : Int32)), .val (.ref bK), .unset, .unset, .unset, .unset, .unset] [(.int (0 : Int32))])) (fun t k => ?_) ?_
      · show Steps p.tables e below (Tj.setTop (mkF m 42 #[l0, l1, l2, l3, l4, .val (.int (0 : Int32)), .val (.ref bK), .unset, .unset, .unset, .unset, .unset] [])) t
        refine XS.iload Xj.here hx rfl (hb hby at_42) rfl ?_
        exact k
      have hc120 : (0 : Int32) = (0 : Int32) := by decide
      refine OwnGo.of (A := Tj.setTop (mkF m 44 #[l0, l1, l2, l3, l4, .val (.int (0 : Int32)), .val (.ref bK), .unset, .unset, .unset, .unset, .unset] [(.int (0 : Int32))])) (B := Tj.setTop (mkF m 48 #[l0, l1, l2, l3, l4, .val (.int (0 : Int32)), .val (.ref bK), .unset, .unset, .unset, .unset, .unset] [(.int (0 : Int32))])) (fun t k => ?_) ?_
      · show Steps p.tables e below (Tj.setTop (mkF m 44 #[l0, l1, l2, l3, l4, .val (.int (0 : Int32)), .val (.ref bK), .unset, .unset, .unset, .unset, .unset] [(.int (0 : Int32))])) t
        refine XS.ifNo Xj.here hx rfl (hb hby at_44) rfl ((if0 _ _).trans (teq hc120).2) ?_
        refine XS.iconst Xj.here hx rfl (hb hby at_47) ?_
        exact k
      obtain ⟨T121, h121, kq121, X121, e121, E121, A121, st121⟩ := newP (aty := .char) Xj hx hZ (w1 hw) ej (g := (mkF m 48 #[l0, l1, l2, l3, l4, .val (.int (0 : Int32)), .val (.ref bK), .unset, .unset, .unset, .unset, .unset] [(.int (0 : Int32))])) rfl (hb hby at_48) rfl (by decide) (cap := 0) (by decide) (by decide) (by decide) (by decide)
      obtain ⟨b121, g121⟩ : ∃ z, z = hj.size := ⟨_, rfl⟩
      rw [← g121] at A121 st121
      refine OwnGo.of st121 ?_
      have ne_bK_b121 : bK ≠ b121 := Nat.ne_of_lt (Nat.lt_of_lt_of_le Vj.lt (Nat.le_of_eq g121.symm))
      have gn_b121 : Safe Z consts_1 s.vm h121 b121 := Safe.ext E121 Cj.1 (Safe.new (Nat.le_of_eq g121.symm))
      have g_b121 : n0 ≤ b121 := Nat.le_trans Zj (Nat.le_of_eq g121.symm)
      have sz_b121 : h0.size ≤ b121 := Nat.le_trans Kj.1 (Nat.le_of_eq g121.symm)
      have cs122 := CHr.ext E121 Cj.1
      have f123 := Nat.le_trans Zj E121.1
      have f124 := Kj.ext E121
      have f125 := Bj.ext E121
      have f126 := Cj.trans cs122
      have f127 := Vj.ext E121
      have f128 := f118.ext E121
      have f129 := f119.ext E121
      have f130 : Arv Z h121 b121 kq121 .char (0 : Int32) [] (.int (0 : Int32)) := (Arv.new A121 (by decide)).pad (pad_rep [] (.int (0 : Int32)) 0)
      show OwnGo p.tables e below _ (T121.setTop (mkF m 50 #[l0, l1, l2, l3, l4, .val (.int (0 : Int32)), .val (.ref bK), .unset, .unset, .unset, .unset, .unset] [(.ref b121)]))
      refine OwnGo.of (A := T121.setTop (mkF m 50 #[l0, l1, l2, l3, l4, .val (.int (0 : Int32)), .val (.ref bK), .unset, .unset, .unset, .unset, .unset] [(.ref b121)])) (B := T121.setTop (mkF m 172 #[l0, l1, l2, l3, l4, .val (.int (0 : Int32)), .val (.ref bK), .val (.ref b121), .unset, .unset, .unset, .unset] [])) (fun t k => ?_) ?_
      · show Steps p.tables e below (T121.setTop (mkF m 50 #[l0, l1, l2, l3, l4, .val (.int (0 : Int32)), .val (.ref bK), .unset, .unset, .unset, .unset, .unset] [(.ref b121)])) t
        refine XS.astore X121.here hx rfl (hb hby at_50) rfl rfl (l' := #[l0, l1, l2, l3, l4, .val (.int (0 : Int32)), .val (.ref bK), .val (.ref b121), .unset, .unset, .unset, .unset]) rfl ?_
        refine XS.goto X121.here hx rfl (pc0 := 52) (pc' := 172) rfl (hb hby at_52) (by decide) (by decide) ?_
        exact k
      obtain ⟨T131, h131, X131, e131, E131, A131, D131, -, st131⟩ := newO X121 hx hZ hown (w6 hw) (w7 hw) (w8 hw) e121 (g := (mkF m 172 #[l0, l1, l2, l3, l4, .val (.int (0 : Int32)), .val (.ref bK), .val (.ref b121), .unset, .unset, .unset, .unset] [])) rfl (hb hby at_172) (by decide) (by decide)
      obtain ⟨b131, g131⟩ : ∃ z, z = h121.size := ⟨_, rfl⟩
      rw [← g131] at A131 D131 st131
      refine OwnGo.of st131 ?_
      have ne_bK_b131 : bK ≠ b131 := Nat.ne_of_lt (Nat.lt_of_lt_of_le f127.lt (Nat.le_of_eq g131.symm))
      have ne_b121_b131 : b121 ≠ b131 := Nat.ne_of_lt (Nat.lt_of_lt_of_le f130.lt (Nat.le_of_eq g131.symm))
      have gn_b131 : Safe Z consts_1 s.vm h131 b131 := Safe.ext E131 f126.1 (Safe.new (Nat.le_of_eq g131.symm))
      have g_b131 : n0 ≤ b131 := Nat.le_trans f123 (Nat.le_of_eq g131.symm)
      have sz_b131 : h0.size ≤ b131 := Nat.le_trans f124.1 (Nat.le_of_eq g131.symm)
      have cs132 := CHr.ext E131 f126.1
      have f133 := Nat.le_trans f123 E131.1
      have f134 := f124.ext E131
      have f135 := f125.ext E131
      have f136 := f126.trans cs132
      have f137 := f127.ext E131
      have f138 := f128.ext E131
      have f139 := f129.ext E131
      have f140 := cs132.safe f130.lt gn_b121
      have f141 := f130.ext E131
      have f142 : Fld Z h131 b131 "java/lang/String" "value" "[B" .null := D131 (Or.inr (w21 hw)) (ty := (.array .byte)) (by decide)
      have f143 : Fld Z h131 b131 "java/lang/String" "coder" "B" (.int (0 : Int32)) := D131 (Or.inr (w22 hw)) (ty := .byte) (by decide)
      show OwnGo p.tables e below _ (T131.setTop (mkF m 175 #[l0, l1, l2, l3, l4, .val (.int (0 : Int32)), .val (.ref bK), .val (.ref b121), .unset, .unset, .unset, .unset] [(.ref b131)]))
      refine OwnGo.of (A := T131.setTop (mkF m 175 #[l0, l1, l2, l3, l4, .val (.int (0 : Int32)), .val (.ref bK), .val (.ref b121), .unset, .unset, .unset, .unset] [(.ref b131)])) (B := T131.setTop (mkF m 178 #[l0, l1, l2, l3, l4, .val (.int (0 : Int32)), .val (.ref bK), .val (.ref b121), .unset, .unset, .unset, .unset] [(.ref b121), (.ref b131), (.ref b131)])) (fun t k => ?_) ?_
      · show Steps p.tables e below (T131.setTop (mkF m 175 #[l0, l1, l2, l3, l4, .val (.int (0 : Int32)), .val (.ref bK), .val (.ref b121), .unset, .unset, .unset, .unset] [(.ref b131)])) t
        refine XS.dup X131.here hx rfl (hb hby at_175) rfl rfl ?_
        refine XS.aload X131.here hx rfl (hb hby at_176) rfl rfl ?_
        exact k
      obtain ⟨s144, T144, L144, v144, X144, hQ144, B144, hZ, hown, cs144, st144⟩ := own_callIW (s := s) X131 hx (y := (⟨"java/lang/String", "<init>", "([C)V"⟩ : MethodName)) rfl hown (mvT hZ (w9 hw)) (mvT hZ (w10 hw)) (mvT hZ (w11 hw)) (by decide) hZ f135 (own_backW (W := 1) (ws := [b131]) (rm2 l Z aw hw [] b131 b121 kq121 h131 n0 f133 A131 f142 f143 g_b131 f141 ne_b121_b131) hZ (w11 hw) (w8 hw) (by decide) (by decide) (own_EW hw) f136.1 (allS ⟨A131.lt, gn_b131⟩ all0)) (g := (mkF m 178 #[l0, l1, l2, l3, l4, .val (.int (0 : Int32)), .val (.ref bK), .val (.ref b121), .unset, .unset, .unset, .unset] [(.ref b121), (.ref b131), (.ref b131)])) rfl (by rw [hml]; rfl) (a := b131) (argsL := [(.ref b121)]) (rest := [(.ref b131)]) (lenOf pd_118 rfl) rfl (by show 2 * 0 + _ ≤ _; exact Nat.le_of_eq rfl) (hb hby at_178) rfl e131 (by decide) (by decide)
      obtain ⟨rfl, N144q, K144, y144E, y144C, t144, kb144, y144V, y144A⟩ := hQ144
      have f145 := Nat.le_trans f133 K144.1
      have f146 := f134.trans K144 (allS (Or.inr sz_b131) all0)
      have f147 := f136.trans cs144
      have f148 := f137.keep K144 (ninS ne_bK_b131 nin0)
      have f149 := own_sta_keep f138 K144 (allS (own_ns_exa A131) all0)
      have f150 := own_sta_keep f139 K144 (allS (own_ns_exa A131) all0)
      have f151 := cs144.safe f141.lt f140
      have f152 := f141.keep K144 (ninS ne_b121_b131 nin0)
      have f153 := cs144.safe A131.lt gn_b131
      have f154 := A131.keep K144
      have N144 := Fr.app Nj N144q
      refine OwnGo.of st144 ?_
      show OwnGo p.tables e below _ (T144.setTop (mkF m 181 #[l0, l1, l2, l3, l4, .val (.int (0 : Int32)), .val (.ref bK), .val (.ref b121), .unset, .unset, .unset, .unset] [(.ref b131)]))
      refine OwnGo.of (A := T144.setTop (mkF m 181 #[l0, l1, l2, l3, l4, .val (.int (0 : Int32)), .val (.ref bK), .val (.ref b121), .unset, .unset, .unset, .unset] [(.ref b131)])) (B := T144.setTop (mkF m 185 #[l0, l1, l2, l3, l4, .val (.int (0 : Int32)), .val (.ref bK), .val (.ref b121), .val (.ref b131), .unset, .unset, .unset] [(.int (0 : Int32))])) (fun t k => ?_) ?_
      · show Steps p.tables e below (T144.setTop (mkF m 181 #[l0, l1, l2, l3, l4, .val (.int (0 : Int32)), .val (.ref bK), .val (.ref b121), .unset, .unset, .unset, .unset] [(.ref b131)])) t
        refine XS.astore X144.here hx rfl (hb hby at_181) rfl rfl (l' := #[l0, l1, l2, l3, l4, .val (.int (0 : Int32)), .val (.ref bK), .val (.ref b121), .val (.ref b131), .unset, .unset, .unset]) rfl ?_
        refine XS.iload X144.here hx rfl (hb hby at_183) rfl ?_
        exact k
      have hc155 : ¬ ((0 : Int32) < (0 : Int32)) := by decide
      refine OwnGo.of (A := T144.setTop (mkF m 185 #[l0, l1, l2, l3, l4, .val (.int (0 : Int32)), .val (.ref bK), .val (.ref b121), .val (.ref b131), .unset, .unset, .unset] [(.int (0 : Int32))])) (B := T144.setTop (mkF m 207 #[l0, l1, l2, l3, l4, .val (.int (0 : Int32)), .val (.ref bK), .val (.ref b121), .val (.ref b131), .unset, .unset, .unset] [(.int (1 : Int32)), (.int (0 : Int32))])) (fun t k => ?_) ?_
      · show Steps p.tables e below (T144.setTop (mkF m 185 #[l0, l1, l2, l3, l4, .val (.int (0 : Int32)), .val (.ref bK), .val (.ref b121), .val (.ref b131), .unset, .unset, .unset] [(.int (0 : Int32))])) t
        refine XS.ifYes X144.here hx rfl (pc0 := 185) (pc' := 204) rfl (hb hby at_185) rfl ((if0 _ _).trans (flt hc155).2.2.2) (by decide) (by decide) ?_
        refine XS.iload X144.here hx rfl (hb hby at_204) rfl ?_
        refine XS.iconst X144.here hx rfl (hb hby at_206) ?_
        exact k
      have hc156 : ¬ ((1 : Int32) < (0 : Int32)) := by decide
      refine OwnGo.of (A := T144.setTop (mkF m 207 #[l0, l1, l2, l3, l4, .val (.int (0 : Int32)), .val (.ref bK), .val (.ref b121), .val (.ref b131), .unset, .unset, .unset] [(.int (1 : Int32)), (.int (0 : Int32))])) (B := T144.setTop (mkF m 229 #[l0, l1, l2, l3, l4, .val (.int (0 : Int32)), .val (.ref bK), .val (.ref b121), .val (.ref b131), .unset, .unset, .unset] [(.int (2 : Int32)), (.int (0 : Int32))])) (fun t k => ?_) ?_
      · show Steps p.tables e below (T144.setTop (mkF m 207 #[l0, l1, l2, l3, l4, .val (.int (0 : Int32)), .val (.ref bK), .val (.ref b121), .val (.ref b131), .unset, .unset, .unset] [(.int (1 : Int32)), (.int (0 : Int32))])) t
        refine XS.icmpYes X144.here hx rfl (pc0 := 207) (pc' := 226) rfl (hb hby at_207) rfl (flt hc156).2.2.2 (by decide) (by decide) ?_
        refine XS.iload X144.here hx rfl (hb hby at_226) rfl ?_
        refine XS.iconst X144.here hx rfl (hb hby at_228) ?_
        exact k
      have hc157 : ¬ ((2 : Int32) < (0 : Int32)) := by decide
      refine OwnGo.of (A := T144.setTop (mkF m 229 #[l0, l1, l2, l3, l4, .val (.int (0 : Int32)), .val (.ref bK), .val (.ref b121), .val (.ref b131), .unset, .unset, .unset] [(.int (2 : Int32)), (.int (0 : Int32))])) (B := T144.setTop (mkF m 251 #[l0, l1, l2, l3, l4, .val (.int (0 : Int32)), .val (.ref bK), .val (.ref b121), .val (.ref b131), .unset, .unset, .unset] [(.int (3 : Int32)), (.int (0 : Int32))])) (fun t k => ?_) ?_
      · show Steps p.tables e below (T144.setTop (mkF m 229 #[l0, l1, l2, l3, l4, .val (.int (0 : Int32)), .val (.ref bK), .val (.ref b121), .val (.ref b131), .unset, .unset, .unset] [(.int (2 : Int32)), (.int (0 : Int32))])) t
        refine XS.icmpYes X144.here hx rfl (pc0 := 229) (pc' := 248) rfl (hb hby at_229) rfl (flt hc157).2.2.2 (by decide) (by decide) ?_
        refine XS.iload X144.here hx rfl (hb hby at_248) rfl ?_
        refine XS.iconst X144.here hx rfl (hb hby at_250) ?_
        exact k
      have hc158 : ¬ ((3 : Int32) < (0 : Int32)) := by decide
      refine OwnGo.of (A := T144.setTop (mkF m 251 #[l0, l1, l2, l3, l4, .val (.int (0 : Int32)), .val (.ref bK), .val (.ref b121), .val (.ref b131), .unset, .unset, .unset] [(.int (3 : Int32)), (.int (0 : Int32))])) (B := T144.setTop (mkF m 277 #[l0, l1, l2, l3, l4, .val (.int (0 : Int32)), .val (.ref bK), .val (.ref b121), .val (.ref b131), .val (.int (0 : Int32)), .unset, .unset] [(.int (3 : Int32)), (.int (0 : Int32))])) (fun t k => ?_) ?_
      · show Steps p.tables e below (T144.setTop (mkF m 251 #[l0, l1, l2, l3, l4, .val (.int (0 : Int32)), .val (.ref bK), .val (.ref b121), .val (.ref b131), .unset, .unset, .unset] [(.int (3 : Int32)), (.int (0 : Int32))])) t
        refine XS.icmpYes X144.here hx rfl (pc0 := 251) (pc' := 270) rfl (hb hby at_251) rfl (flt hc158).2.2.2 (by decide) (by decide) ?_
        refine XS.iload X144.here hx rfl (hb hby at_270) rfl ?_
        refine XS.istore X144.here hx rfl (hb hby at_272) rfl (l' := #[l0, l1, l2, l3, l4, .val (.int (0 : Int32)), .val (.ref bK), .val (.ref b121), .val (.ref b131), .val (.int (0 : Int32)), .unset, .unset]) rfl ?_
        refine XS.iload X144.here hx rfl (hb hby at_274) rfl ?_
        refine XS.iconst X144.here hx rfl (hb hby at_276) ?_
        exact k
      have hc159 : ¬ ((3 : Int32) < (0 : Int32)) := by decide
      refine OwnGo.of (A := T144.setTop (mkF m 277 #[l0, l1, l2, l3, l4, .val (.int (0 : Int32)), .val (.ref bK), .val (.ref b121), .val (.ref b131), .val (.int (0 : Int32)), .unset, .unset] [(.int (3 : Int32)), (.int (0 : Int32))])) (B := T144.setTop (mkF m 299 #[l0, l1, l2, l3, l4, .val (.int (0 : Int32)), .val (.ref bK), .val (.ref b121), .val (.ref b131), .val (.int (0 : Int32)), .unset, .unset] [(.int (2 : Int32)), (.int (0 : Int32))])) (fun t k => ?_) ?_
      · show Steps p.tables e below (T144.setTop (mkF m 277 #[l0, l1, l2, l3, l4, .val (.int (0 : Int32)), .val (.ref bK), .val (.ref b121), .val (.ref b131), .val (.int (0 : Int32)), .unset, .unset] [(.int (3 : Int32)), (.int (0 : Int32))])) t
        refine XS.icmpYes X144.here hx rfl (pc0 := 277) (pc' := 296) rfl (hb hby at_277) rfl (flt hc159).2.2.2 (by decide) (by decide) ?_
        refine XS.iload X144.here hx rfl (hb hby at_296) rfl ?_
        refine XS.iconst X144.here hx rfl (hb hby at_298) ?_
        exact k
      have hc160 : ¬ ((2 : Int32) < (0 : Int32)) := by decide
      refine OwnGo.of (A := T144.setTop (mkF m 299 #[l0, l1, l2, l3, l4, .val (.int (0 : Int32)), .val (.ref bK), .val (.ref b121), .val (.ref b131), .val (.int (0 : Int32)), .unset, .unset] [(.int (2 : Int32)), (.int (0 : Int32))])) (B := T144.setTop (mkF m 321 #[l0, l1, l2, l3, l4, .val (.int (0 : Int32)), .val (.ref bK), .val (.ref b121), .val (.ref b131), .val (.int (0 : Int32)), .unset, .unset] [(.int (1 : Int32)), (.int (0 : Int32))])) (fun t k => ?_) ?_
      · show Steps p.tables e below (T144.setTop (mkF m 299 #[l0, l1, l2, l3, l4, .val (.int (0 : Int32)), .val (.ref bK), .val (.ref b121), .val (.ref b131), .val (.int (0 : Int32)), .unset, .unset] [(.int (2 : Int32)), (.int (0 : Int32))])) t
        refine XS.icmpYes X144.here hx rfl (pc0 := 299) (pc' := 318) rfl (hb hby at_299) rfl (flt hc160).2.2.2 (by decide) (by decide) ?_
        refine XS.iload X144.here hx rfl (hb hby at_318) rfl ?_
        refine XS.iconst X144.here hx rfl (hb hby at_320) ?_
        exact k
      have hc161 : ¬ ((1 : Int32) < (0 : Int32)) := by decide
      refine OwnGo.of (A := T144.setTop (mkF m 321 #[l0, l1, l2, l3, l4, .val (.int (0 : Int32)), .val (.ref bK), .val (.ref b121), .val (.ref b131), .val (.int (0 : Int32)), .unset, .unset] [(.int (1 : Int32)), (.int (0 : Int32))])) (B := T144.setTop (mkF m 342 #[l0, l1, l2, l3, l4, .val (.int (0 : Int32)), .val (.ref bK), .val (.ref b121), .val (.ref b131), .val (.int (0 : Int32)), .unset, .unset] [(.int (0 : Int32))])) (fun t k => ?_) ?_
      · show Steps p.tables e below (T144.setTop (mkF m 321 #[l0, l1, l2, l3, l4, .val (.int (0 : Int32)), .val (.ref bK), .val (.ref b121), .val (.ref b131), .val (.int (0 : Int32)), .unset, .unset] [(.int (1 : Int32)), (.int (0 : Int32))])) t
        refine XS.icmpYes X144.here hx rfl (pc0 := 321) (pc' := 340) rfl (hb hby at_321) rfl (flt hc161).2.2.2 (by decide) (by decide) ?_
        refine XS.iload X144.here hx rfl (hb hby at_340) rfl ?_
        exact k
      have hc162 : ¬ ((0 : Int32) < (0 : Int32)) := by decide
      refine OwnGo.of (A := T144.setTop (mkF m 342 #[l0, l1, l2, l3, l4, .val (.int (0 : Int32)), .val (.ref bK), .val (.ref b121), .val (.ref b131), .val (.int (0 : Int32)), .unset, .unset] [(.int (0 : Int32))])) (B := T144.setTop (mkF m 365 #[l0, l1, l2, l3, l4, .val (.int (0 : Int32)), .val (.ref bK), .val (.ref b121), .val (.ref b131), .val (.int (0 : Int32)), .val (.int (0 : Int32)), .unset] [])) (fun t k => ?_) ?_
      · show Steps p.tables e below (T144.setTop (mkF m 342 #[l0, l1, l2, l3, l4, .val (.int (0 : Int32)), .val (.ref bK), .val (.ref b121), .val (.ref b131), .val (.int (0 : Int32)), .unset, .unset] [(.int (0 : Int32))])) t
        refine XS.ifYes X144.here hx rfl (pc0 := 342) (pc' := 361) rfl (hb hby at_342) rfl ((if0 _ _).trans (flt hc162).2.2.2) (by decide) (by decide) ?_
        refine XS.iload X144.here hx rfl (hb hby at_361) rfl ?_
        refine XS.istore X144.here hx rfl (hb hby at_363) rfl (l' := #[l0, l1, l2, l3, l4, .val (.int (0 : Int32)), .val (.ref bK), .val (.ref b121), .val (.ref b131), .val (.int (0 : Int32)), .val (.int (0 : Int32)), .unset]) rfl ?_
        exact k
      refine OwnGo.of (A := T144.setTop (mkF m 365 #[l0, l1, l2, l3, l4, .val (.int (0 : Int32)), .val (.ref bK), .val (.ref b121), .val (.ref b131), .val (.int (0 : Int32)), .val (.int (0 : Int32)), .unset] [])) (B := T144.setTop (mkF m 367 #[l0, l1, l2, l3, l4, .val (.int (0 : Int32)), .val (.ref bK), .val (.ref b121), .val (.ref b131), .val (.int (0 : Int32)), .val (.int (0 : Int32)), .unset] [(.ref b131)])) (fun t k => ?_) ?_
      · show Steps p.tables e below (T144.setTop (mkF m 365 #[l0, l1, l2, l3, l4, .val (.int (0 : Int32)), .val (.ref bK), .val (.ref b121), .val (.ref b131), .val (.int (0 : Int32)), .val (.int (0 : Int32)), .unset] [])) t
        refine XS.aload X144.here hx rfl (hb hby at_365) rfl rfl ?_
        exact k
      obtain ⟨s163, T163, L163, v163, X163, hQ163, B163, hZ, hown, cs163, st163⟩ := own_callSW (s := s) X144 hx (y := (⟨"dev/boundaryline/model/HeaderValue", "trim", "(Ljava/lang/String;)Ljava/lang/String;"⟩ : MethodName)) hown (mvT hZ (w27 hw)) (mvT hZ (w28 hw)) (mvT hZ (w29 hw)) (mvT hZ (w30 hw)) (by decide) hZ B144 (own_backW (W := 0) (ws := []) (rm5 l Z aw hw [] b131 ([] : List Int32) zc fm T144.heap n0 f145 (Nat.zero_le _) ⟨_, _, y144E, y144V, y144C, y144A, own_h0, (Nat.zero_le _)⟩ f149 hzc f150 rf) hZ (w30 hw) (w29 hw) (by decide) (by decide) (own_EW hw) f147.1 all0) (g := (mkF m 367 #[l0, l1, l2, l3, l4, .val (.int (0 : Int32)), .val (.ref bK), .val (.ref b121), .val (.ref b131), .val (.int (0 : Int32)), .val (.int (0 : Int32)), .unset] [(.ref b131)])) rfl (by rw [hml]; rfl) (argsL := [(.ref b131)]) (rest := []) (lenOf pd_104 rfl) rfl (by show 2 * 0 + _ ≤ _; exact Nat.le_of_eq rfl) (hb hby at_367) rfl rfl (by decide) (by decide)
      obtain ⟨N163q, K163, x163, rfl, SS163⟩ := hQ163
      have f164 := Nat.le_trans f145 K163.1
      have f165 := f146.trans K163 all0
      have f166 := f147.trans cs163
      have f167 := f148.keep K163 nin0
      have f168 := own_sta_keep f149 K163 all0
      have f169 := own_sta_keep f150 K163 all0
      have f170 := cs163.safe f152.lt f151
      have f171 := f152.keep K163 nin0
      have f172 := cs163.safe y144E.lt f153
      have f173 := y144E.keep K163
      have f174 := y144C.keep K163 nin0
      have f175 := y144V.keep K163 nin0
      have f176 := y144A.keep K163 nin0
      obtain ⟨t_m163, kb_m163, E_m163, V_m163, C_m163, K_m163, hp_m163, ln_m163⟩ := SS163
      have f177 : Arv Z T163.heap t_m163 kb_m163 .byte (Int32.ofNat (own_trim ([] : List Int32)).length) ((own_trim ([] : List Int32)).map fun c => Value.int (StrChars.lo8 c)) (.int (0 : Int32)) := K_m163
      have N163 := Fr.app N144 N163q
      refine OwnGo.of st163 ?_
      show OwnGo p.tables e below _ (T163.setTop (mkF m 370 #[l0, l1, l2, l3, l4, .val (.int (0 : Int32)), .val (.ref bK), .val (.ref b121), .val (.ref b131), .val (.int (0 : Int32)), .val (.int (0 : Int32)), .unset] [(.ref x163)]))
      refine OwnGo.of (A := T163.setTop (mkF m 370 #[l0, l1, l2, l3, l4, .val (.int (0 : Int32)), .val (.ref bK), .val (.ref b121), .val (.ref b131), .val (.int (0 : Int32)), .val (.int (0 : Int32)), .unset] [(.ref x163)])) (B := T163.setTop (mkF m 372 #[l0, l1, l2, l3, l4, .val (.int (0 : Int32)), .val (.ref bK), .val (.ref b121), .val (.ref b131), .val (.int (0 : Int32)), .val (.int (0 : Int32)), .val (.ref x163)] [])) (fun t k => ?_) ?_
      · show Steps p.tables e below (T163.setTop (mkF m 370 #[l0, l1, l2, l3, l4, .val (.int (0 : Int32)), .val (.ref bK), .val (.ref b121), .val (.ref b131), .val (.int (0 : Int32)), .val (.int (0 : Int32)), .unset] [(.ref x163)])) t
        refine XS.astore X163.here hx rfl (hb hby at_370) rfl rfl (l' := #[l0, l1, l2, l3, l4, .val (.int (0 : Int32)), .val (.ref bK), .val (.ref b121), .val (.ref b131), .val (.int (0 : Int32)), .val (.int (0 : Int32)), .val (.ref x163)]) rfl ?_
        exact k
      have et : own_trim ([] : List Int32) = [] := rfl
      have hs0 : OwnSame k0 k1 k2 k3 (0 : Int32) (own_trim ([] : List Int32)) 0 := fun q => absurd q (by decide)
      have hs1 : OwnSame k0 k1 k2 k3 (0 : Int32) (own_trim ([] : List Int32)) 1 := fun q => absurd q (by decide)
      have hs2 : OwnSame k0 k1 k2 k3 (0 : Int32) (own_trim ([] : List Int32)) 2 := fun q => absurd q (by decide)
      have hs3 : OwnSame k0 k1 k2 k3 (0 : Int32) (own_trim ([] : List Int32)) 3 := fun q => absurd q (by decide)
      refine OwnGo.of (A := T163.setTop (mkF m 372 #[l0, l1, l2, l3, l4, .val (.int (0 : Int32)), .val (.ref bK), .val (.ref b121), .val (.ref b131), .val (.int (0 : Int32)), .val (.int (0 : Int32)), .val (.ref x163)] [])) (B := T163.setTop (mkF m 374 #[l0, l1, l2, l3, l4, .val (.int (0 : Int32)), .val (.ref bK), .val (.ref b121), .val (.ref b131), .val (.int (0 : Int32)), .val (.int (0 : Int32)), .val (.ref x163)] [(.ref x163)])) (fun t k => ?_) ?_
      · show Steps p.tables e below (T163.setTop (mkF m 372 #[l0, l1, l2, l3, l4, .val (.int (0 : Int32)), .val (.ref bK), .val (.ref b121), .val (.ref b131), .val (.int (0 : Int32)), .val (.int (0 : Int32)), .val (.ref x163)] [])) t
        refine XS.aload X163.here hx rfl (hb hby at_372) rfl rfl ?_
        exact k
      obtain ⟨cq178, kq178, q178a, q178b, q178c⟩ := isOf hZ rfl E_m163
      obtain ⟨T178, L178, v178, X178, hQ178, st178⟩ := own_callV (Q := fun v H L => v = some (.int (Int32.ofNat (own_trim ([] : List Int32)).length)) ∧ L = [] ∧ H = T163.heap) (rc := 0) (rs := 0) X163 hx (y := (⟨"java/lang/String", "length", "()I"⟩ : MethodName)) (z := (⟨"java/lang/String", "length", "()I"⟩ : MethodName)) hown (mvT hZ (w59 hw)) (mvT hZ (w35 hw)) (notFace_of_selects (args := #[]) (mvT hZ (w37 hw))) (mvT hZ (w37 hw)) (mvT hZ (w36 hw)) (by decide) (StrChars.Road.lenW (W := 0) hZ (own_wL hw) (kI := 4) (w7 hw) (cs := (own_trim ([] : List Int32))) E_m163 V_m163 C_m163 f177 (own_cod hp_m163) (own_up hp_m163) f168 hzc ln_m163 (by decide) (by decide)) q178a q178c (g := (mkF m 374 #[l0, l1, l2, l3, l4, .val (.int (0 : Int32)), .val (.ref bK), .val (.ref b121), .val (.ref b131), .val (.int (0 : Int32)), .val (.int (0 : Int32)), .val (.ref x163)] [(.ref x163)])) rfl (by rw [hml]; rfl) (argsL := []) (rest := []) (lenOf pd_9 rfl) rfl (by show 2 * 0 + _ ≤ _; exact Nat.le_of_eq rfl) (hb hby at_374) rfl rfl (by decide) (by decide)
      obtain ⟨hv178, rfl, eq178⟩ := hQ178
      have hw178 : v178 = some (.int (Int32.ofNat (own_trim ([] : List Int32)).length)) := hv178
      subst hw178
      have N178q : Fr n0 ([] : List Loc) := Fr.nil n0
      have N178 := Fr.app N163 N178q
      refine OwnGo.of st178 ?_
      show OwnGo p.tables e below _ (T178.setTop (mkF m 377 #[l0, l1, l2, l3, l4, .val (.int (0 : Int32)), .val (.ref bK), .val (.ref b121), .val (.ref b131), .val (.int (0 : Int32)), .val (.int (0 : Int32)), .val (.ref x163)] [(.int (Int32.ofNat (own_trim ([] : List Int32)).length))]))
      refine OwnGo.of (A := T178.setTop (mkF m 377 #[l0, l1, l2, l3, l4, .val (.int (0 : Int32)), .val (.ref bK), .val (.ref b121), .val (.ref b131), .val (.int (0 : Int32)), .val (.int (0 : Int32)), .val (.ref x163)] [(.int (Int32.ofNat (own_trim ([] : List Int32)).length))])) (B := T178.setTop (mkF m 382 #[l0, l1, l2, l3, l4, .val (.int (0 : Int32)), .val (.ref bK), .val (.ref b121), .val (.ref b131), .val (.int (0 : Int32)), .val (.int (0 : Int32)), .val (.ref x163)] [(.int (0 : Int32)), (.int (Int32.ofNat (own_trim ([] : List Int32)).length))])) (fun t k => ?_) ?_
      · show Steps p.tables e below (T178.setTop (mkF m 377 #[l0, l1, l2, l3, l4, .val (.int (0 : Int32)), .val (.ref bK), .val (.ref b121), .val (.ref b131), .val (.int (0 : Int32)), .val (.int (0 : Int32)), .val (.ref x163)] [(.int (Int32.ofNat (own_trim ([] : List Int32)).length))])) t
        refine XS.iload X178.here hx rfl (hb hby at_377) rfl ?_
        refine XS.iload X178.here hx rfl (hb hby at_379) rfl ?_
        refine XS.isub X178.here hx rfl (hb hby at_381) rfl ?_
        exact k
      have hc179 : (Int32.ofNat (own_trim ([] : List Int32)).length) = (0 : Int32) := by decide
      refine OwnGo.of (A := T178.setTop (mkF m 382 #[l0, l1, l2, l3, l4, .val (.int (0 : Int32)), .val (.ref bK), .val (.ref b121), .val (.ref b131), .val (.int (0 : Int32)), .val (.int (0 : Int32)), .val (.ref x163)] [(.int (0 : Int32)), (.int (Int32.ofNat (own_trim ([] : List Int32)).length))])) (B := T178.setTop (mkF m 394 #[l0, l1, l2, l3, l4, .val (.int (0 : Int32)), .val (.ref bK), .val (.ref b121), .val (.ref b131), .val (.int (0 : Int32)), .val (.int (0 : Int32)), .val (.ref x163)] [(.int (0 : Int32)), (.int (0 : Int32)), (.ref bK), (.ref x163)])) (fun t k => ?_) ?_
      · show Steps p.tables e below (T178.setTop (mkF m 382 #[l0, l1, l2, l3, l4, .val (.int (0 : Int32)), .val (.ref bK), .val (.ref b121), .val (.ref b131), .val (.int (0 : Int32)), .val (.int (0 : Int32)), .val (.ref x163)] [(.int (0 : Int32)), (.int (Int32.ofNat (own_trim ([] : List Int32)).length))])) t
        refine XS.icmpYes X178.here hx rfl (pc0 := 382) (pc' := 387) rfl (hb hby at_382) rfl (teq hc179).1 (by decide) (by decide) ?_
        refine XS.aload X178.here hx rfl (hb hby at_387) rfl rfl ?_
        refine XS.aload X178.here hx rfl (hb hby at_389) rfl rfl ?_
        refine XS.iload X178.here hx rfl (hb hby at_391) rfl ?_
        refine XS.iconst X178.here hx rfl (hb hby at_393) ?_
        exact k
      obtain ⟨T180, L180, v180, X180, hQ180, st180⟩ := own_callS X178 hx (y := (⟨"dev/boundaryline/model/HeaderValueTrimPinLaw", "same", "(Ljava/lang/String;[CII)Z"⟩ : MethodName)) hown (mvT hZ (w60 hw)) (mvT hZ (w61 hw)) (mvT hZ (w4 hw)) (mvT hZ (w62 hw)) (by decide) (backOf (W := 0) (rm12 l Z aw hw [] x163 bK (0 : Int32) 0 (own_trim ([] : List Int32)) k0 k1 k2 k3 kb zc fm T163.heap n0 f164 (by decide) ⟨_, _, E_m163, V_m163, C_m163, f177, hp_m163, ln_m163⟩ f167 hs0 f168 hzc f169 rf) hZ (w62 hw) (w4 hw) (by decide) (by decide)) (g := (mkF m 394 #[l0, l1, l2, l3, l4, .val (.int (0 : Int32)), .val (.ref bK), .val (.ref b121), .val (.ref b131), .val (.int (0 : Int32)), .val (.int (0 : Int32)), .val (.ref x163)] [(.int (0 : Int32)), (.int (0 : Int32)), (.ref bK), (.ref x163)])) rfl (by rw [hml]; rfl) (argsL := [(.ref x163), (.ref bK), (.int (0 : Int32)), (.int (0 : Int32))]) (rest := []) (lenOf pd_109 rfl) rfl (by show 2 * 0 + _ ≤ _; exact Nat.le_of_eq rfl) (hb hby at_394) rfl eq178 (by decide) (by decide)
      obtain ⟨rfl, N180q, eq180⟩ := hQ180
      have N180 := Fr.app N178 N180q
      refine OwnGo.of st180 ?_
      show OwnGo p.tables e below _ (T180.setTop (mkF m 397 #[l0, l1, l2, l3, l4, .val (.int (0 : Int32)), .val (.ref bK), .val (.ref b121), .val (.ref b131), .val (.int (0 : Int32)), .val (.int (0 : Int32)), .val (.ref x163)] [(.int (1 : Int32))]))
      have hc181 : ¬ ((1 : Int32) = (0 : Int32)) := by decide
      refine OwnGo.of (A := T180.setTop (mkF m 397 #[l0, l1, l2, l3, l4, .val (.int (0 : Int32)), .val (.ref bK), .val (.ref b121), .val (.ref b131), .val (.int (0 : Int32)), .val (.int (0 : Int32)), .val (.ref x163)] [(.int (1 : Int32))])) (B := T180.setTop (mkF m 407 #[l0, l1, l2, l3, l4, .val (.int (0 : Int32)), .val (.ref bK), .val (.ref b121), .val (.ref b131), .val (.int (0 : Int32)), .val (.int (0 : Int32)), .val (.ref x163)] [(.int (1 : Int32)), (.int (0 : Int32)), (.ref bK), (.ref x163)])) (fun t k => ?_) ?_
      · show Steps p.tables e below (T180.setTop (mkF m 397 #[l0, l1, l2, l3, l4, .val (.int (0 : Int32)), .val (.ref bK), .val (.ref b121), .val (.ref b131), .val (.int (0 : Int32)), .val (.int (0 : Int32)), .val (.ref x163)] [(.int (1 : Int32))])) t
        refine XS.ifNo X180.here hx rfl (hb hby at_397) rfl ((if0 _ _).trans (feq hc181).1) ?_
        refine XS.aload X180.here hx rfl (hb hby at_400) rfl rfl ?_
        refine XS.aload X180.here hx rfl (hb hby at_402) rfl rfl ?_
        refine XS.iload X180.here hx rfl (hb hby at_404) rfl ?_
        refine XS.iconst X180.here hx rfl (hb hby at_406) ?_
        exact k
      obtain ⟨T182, L182, v182, X182, hQ182, st182⟩ := own_callS X180 hx (y := (⟨"dev/boundaryline/model/HeaderValueTrimPinLaw", "same", "(Ljava/lang/String;[CII)Z"⟩ : MethodName)) hown (mvT hZ (w60 hw)) (mvT hZ (w61 hw)) (mvT hZ (w4 hw)) (mvT hZ (w62 hw)) (by decide) (backOf (W := 0) (rm12 l Z aw hw [] x163 bK (0 : Int32) 1 (own_trim ([] : List Int32)) k0 k1 k2 k3 kb zc fm T163.heap n0 f164 (by decide) ⟨_, _, E_m163, V_m163, C_m163, f177, hp_m163, ln_m163⟩ f167 hs1 f168 hzc f169 rf) hZ (w62 hw) (w4 hw) (by decide) (by decide)) (g := (mkF m 407 #[l0, l1, l2, l3, l4, .val (.int (0 : Int32)), .val (.ref bK), .val (.ref b121), .val (.ref b131), .val (.int (0 : Int32)), .val (.int (0 : Int32)), .val (.ref x163)] [(.int (1 : Int32)), (.int (0 : Int32)), (.ref bK), (.ref x163)])) rfl (by rw [hml]; rfl) (argsL := [(.ref x163), (.ref bK), (.int (0 : Int32)), (.int (1 : Int32))]) (rest := []) (lenOf pd_109 rfl) rfl (by show 2 * 0 + _ ≤ _; exact Nat.le_of_eq rfl) (hb hby at_407) rfl eq180 (by decide) (by decide)
      obtain ⟨rfl, N182q, eq182⟩ := hQ182
      have N182 := Fr.app N180 N182q
      refine OwnGo.of st182 ?_
      show OwnGo p.tables e below _ (T182.setTop (mkF m 410 #[l0, l1, l2, l3, l4, .val (.int (0 : Int32)), .val (.ref bK), .val (.ref b121), .val (.ref b131), .val (.int (0 : Int32)), .val (.int (0 : Int32)), .val (.ref x163)] [(.int (1 : Int32))]))
      have hc183 : ¬ ((1 : Int32) = (0 : Int32)) := by decide
      refine OwnGo.of (A := T182.setTop (mkF m 410 #[l0, l1, l2, l3, l4, .val (.int (0 : Int32)), .val (.ref bK), .val (.ref b121), .val (.ref b131), .val (.int (0 : Int32)), .val (.int (0 : Int32)), .val (.ref x163)] [(.int (1 : Int32))])) (B := T182.setTop (mkF m 420 #[l0, l1, l2, l3, l4, .val (.int (0 : Int32)), .val (.ref bK), .val (.ref b121), .val (.ref b131), .val (.int (0 : Int32)), .val (.int (0 : Int32)), .val (.ref x163)] [(.int (2 : Int32)), (.int (0 : Int32)), (.ref bK), (.ref x163)])) (fun t k => ?_) ?_
      · show Steps p.tables e below (T182.setTop (mkF m 410 #[l0, l1, l2, l3, l4, .val (.int (0 : Int32)), .val (.ref bK), .val (.ref b121), .val (.ref b131), .val (.int (0 : Int32)), .val (.int (0 : Int32)), .val (.ref x163)] [(.int (1 : Int32))])) t
        refine XS.ifNo X182.here hx rfl (hb hby at_410) rfl ((if0 _ _).trans (feq hc183).1) ?_
        refine XS.aload X182.here hx rfl (hb hby at_413) rfl rfl ?_
        refine XS.aload X182.here hx rfl (hb hby at_415) rfl rfl ?_
        refine XS.iload X182.here hx rfl (hb hby at_417) rfl ?_
        refine XS.iconst X182.here hx rfl (hb hby at_419) ?_
        exact k
      obtain ⟨T184, L184, v184, X184, hQ184, st184⟩ := own_callS X182 hx (y := (⟨"dev/boundaryline/model/HeaderValueTrimPinLaw", "same", "(Ljava/lang/String;[CII)Z"⟩ : MethodName)) hown (mvT hZ (w60 hw)) (mvT hZ (w61 hw)) (mvT hZ (w4 hw)) (mvT hZ (w62 hw)) (by decide) (backOf (W := 0) (rm12 l Z aw hw [] x163 bK (0 : Int32) 2 (own_trim ([] : List Int32)) k0 k1 k2 k3 kb zc fm T163.heap n0 f164 (by decide) ⟨_, _, E_m163, V_m163, C_m163, f177, hp_m163, ln_m163⟩ f167 hs2 f168 hzc f169 rf) hZ (w62 hw) (w4 hw) (by decide) (by decide)) (g := (mkF m 420 #[l0, l1, l2, l3, l4, .val (.int (0 : Int32)), .val (.ref bK), .val (.ref b121), .val (.ref b131), .val (.int (0 : Int32)), .val (.int (0 : Int32)), .val (.ref x163)] [(.int (2 : Int32)), (.int (0 : Int32)), (.ref bK), (.ref x163)])) rfl (by rw [hml]; rfl) (argsL := [(.ref x163), (.ref bK), (.int (0 : Int32)), (.int (2 : Int32))]) (rest := []) (lenOf pd_109 rfl) rfl (by show 2 * 0 + _ ≤ _; exact Nat.le_of_eq rfl) (hb hby at_420) rfl eq182 (by decide) (by decide)
      obtain ⟨rfl, N184q, eq184⟩ := hQ184
      have N184 := Fr.app N182 N184q
      refine OwnGo.of st184 ?_
      show OwnGo p.tables e below _ (T184.setTop (mkF m 423 #[l0, l1, l2, l3, l4, .val (.int (0 : Int32)), .val (.ref bK), .val (.ref b121), .val (.ref b131), .val (.int (0 : Int32)), .val (.int (0 : Int32)), .val (.ref x163)] [(.int (1 : Int32))]))
      have hc185 : ¬ ((1 : Int32) = (0 : Int32)) := by decide
      refine OwnGo.of (A := T184.setTop (mkF m 423 #[l0, l1, l2, l3, l4, .val (.int (0 : Int32)), .val (.ref bK), .val (.ref b121), .val (.ref b131), .val (.int (0 : Int32)), .val (.int (0 : Int32)), .val (.ref x163)] [(.int (1 : Int32))])) (B := T184.setTop (mkF m 433 #[l0, l1, l2, l3, l4, .val (.int (0 : Int32)), .val (.ref bK), .val (.ref b121), .val (.ref b131), .val (.int (0 : Int32)), .val (.int (0 : Int32)), .val (.ref x163)] [(.int (3 : Int32)), (.int (0 : Int32)), (.ref bK), (.ref x163)])) (fun t k => ?_) ?_
      · show Steps p.tables e below (T184.setTop (mkF m 423 #[l0, l1, l2, l3, l4, .val (.int (0 : Int32)), .val (.ref bK), .val (.ref b121), .val (.ref b131), .val (.int (0 : Int32)), .val (.int (0 : Int32)), .val (.ref x163)] [(.int (1 : Int32))])) t
        refine XS.ifNo X184.here hx rfl (hb hby at_423) rfl ((if0 _ _).trans (feq hc185).1) ?_
        refine XS.aload X184.here hx rfl (hb hby at_426) rfl rfl ?_
        refine XS.aload X184.here hx rfl (hb hby at_428) rfl rfl ?_
        refine XS.iload X184.here hx rfl (hb hby at_430) rfl ?_
        refine XS.iconst X184.here hx rfl (hb hby at_432) ?_
        exact k
      obtain ⟨T186, L186, v186, X186, hQ186, st186⟩ := own_callS X184 hx (y := (⟨"dev/boundaryline/model/HeaderValueTrimPinLaw", "same", "(Ljava/lang/String;[CII)Z"⟩ : MethodName)) hown (mvT hZ (w60 hw)) (mvT hZ (w61 hw)) (mvT hZ (w4 hw)) (mvT hZ (w62 hw)) (by decide) (backOf (W := 0) (rm12 l Z aw hw [] x163 bK (0 : Int32) 3 (own_trim ([] : List Int32)) k0 k1 k2 k3 kb zc fm T163.heap n0 f164 (by decide) ⟨_, _, E_m163, V_m163, C_m163, f177, hp_m163, ln_m163⟩ f167 hs3 f168 hzc f169 rf) hZ (w62 hw) (w4 hw) (by decide) (by decide)) (g := (mkF m 433 #[l0, l1, l2, l3, l4, .val (.int (0 : Int32)), .val (.ref bK), .val (.ref b121), .val (.ref b131), .val (.int (0 : Int32)), .val (.int (0 : Int32)), .val (.ref x163)] [(.int (3 : Int32)), (.int (0 : Int32)), (.ref bK), (.ref x163)])) rfl (by rw [hml]; rfl) (argsL := [(.ref x163), (.ref bK), (.int (0 : Int32)), (.int (3 : Int32))]) (rest := []) (lenOf pd_109 rfl) rfl (by show 2 * 0 + _ ≤ _; exact Nat.le_of_eq rfl) (hb hby at_433) rfl eq184 (by decide) (by decide)
      obtain ⟨rfl, N186q, eq186⟩ := hQ186
      have N186 := Fr.app N184 N186q
      refine OwnGo.of st186 ?_
      show OwnGo p.tables e below _ (T186.setTop (mkF m 436 #[l0, l1, l2, l3, l4, .val (.int (0 : Int32)), .val (.ref bK), .val (.ref b121), .val (.ref b131), .val (.int (0 : Int32)), .val (.int (0 : Int32)), .val (.ref x163)] [(.int (1 : Int32))]))
      have hc187 : ¬ ((1 : Int32) = (0 : Int32)) := by decide
      refine OwnGo.of (A := T186.setTop (mkF m 436 #[l0, l1, l2, l3, l4, .val (.int (0 : Int32)), .val (.ref bK), .val (.ref b121), .val (.ref b131), .val (.int (0 : Int32)), .val (.int (0 : Int32)), .val (.ref x163)] [(.int (1 : Int32))])) (B := T186.setTop (mkF m 444 #[l0, l1, l2, l3, l4, .val (.int (0 : Int32)), .val (.ref bK), .val (.ref b121), .val (.ref b131), .val (.int (0 : Int32)), .val (.int (0 : Int32)), .val (.ref x163)] [(.int (1 : Int32))])) (fun t k => ?_) ?_
      · show Steps p.tables e below (T186.setTop (mkF m 436 #[l0, l1, l2, l3, l4, .val (.int (0 : Int32)), .val (.ref bK), .val (.ref b121), .val (.ref b131), .val (.int (0 : Int32)), .val (.int (0 : Int32)), .val (.ref x163)] [(.int (1 : Int32))])) t
        refine XS.ifNo X186.here hx rfl (hb hby at_436) rfl ((if0 _ _).trans (feq hc187).1) ?_
        refine XS.iconst X186.here hx rfl (hb hby at_439) ?_
        refine XS.goto X186.here hx rfl (pc0 := 440) (pc' := 444) rfl (hb hby at_440) (by decide) (by decide) ?_
        exact k
      obtain ⟨fs, hr, hrun, hended, hRW⟩ := own_leaveW X186 B163 eq186 (v := some (.int (nar .boolean (1 : Int32)))) (fun h => by rw [Bd.returns] at h; cases h) hlk
      refine ⟨_, _, ?_, hrun, hended, _, _, rfl, ?_, own_endW X186 hZ (own_EW hw) eq186 hh f166 fs, own_monoW hRW (by decide) (by decide)⟩
      · show Steps p.tables e below (T186.setTop (mkF m 444 #[l0, l1, l2, l3, l4, .val (.int (0 : Int32)), .val (.ref bK), .val (.ref b121), .val (.ref b131), .val (.int (0 : Int32)), .val (.int (0 : Int32)), .val (.ref x163)] [(.int (1 : Int32))])) _
        exact retN X186 hx (t := .boolean) Bd.returns (by simp) (hb hby at_444) hr
      · show Qrm0 Z p0 p1 p2 p3 p4 zc fm h0 n0 _ (T186.setFrames fs).heap _
        rw [show (T186.setFrames fs).heap = T163.heap from eq186]
        exact ⟨rfl, N186⟩
    · show OwnGo p.tables e below _ (Tj.setTop (mkF m 42 #[l0, l1, l2, l3, l4, .val (.int (1 : Int32)), .val (.ref bK), .unset, .unset, .unset, .unset, .unset] []))
      refine OwnGo.of (A := Tj.setTop (mkF m 42 #[l0, l1, l2, l3, l4, .val (.int (1 : Int32)), .val (.ref bK), .unset, .unset, .unset, .unset, .unset] [])) (B := Tj.setTop (mkF m 44 #[l0, l1, l2, l3, l4, .val (.int (1 : Int32)), .val (.ref bK), .unset, .unset, .unset, .unset, .unset] [(.int (1 : Int32))])) (fun t k => ?_) ?_
      · show Steps p.tables e below (Tj.setTop (mkF m 42 #[l0, l1, l2, l3, l4, .val (.int (1 : Int32)), .val (.ref bK), .unset, .unset, .unset, .unset, .unset] [])) t
        refine XS.iload Xj.here hx rfl (hb hby at_42) rfl ?_
        exact k
      have hc188 : ¬ ((1 : Int32) = (0 : Int32)) := by decide
      refine OwnGo.of (A := Tj.setTop (mkF m 44 #[l0, l1, l2, l3, l4, .val (.int (1 : Int32)), .val (.ref bK), .unset, .unset, .unset, .unset, .unset] [(.int (1 : Int32))])) (B := Tj.setTop (mkF m 58 #[l0, l1, l2, l3, l4, .val (.int (1 : Int32)), .val (.ref bK), .unset, .unset, .unset, .unset, .unset] [(.int (1 : Int32)), (.int (1 : Int32))])) (fun t k => ?_) ?_
      · show Steps p.tables e below (Tj.setTop (mkF m 44 #[l0, l1, l2, l3, l4, .val (.int (1 : Int32)), .val (.ref bK), .unset, .unset, .unset, .unset, .unset] [(.int (1 : Int32))])) t
        refine XS.ifYes Xj.here hx rfl (pc0 := 44) (pc' := 55) rfl (hb hby at_44) rfl ((if0 _ _).trans (feq hc188).2) (by decide) (by decide) ?_
        refine XS.iload Xj.here hx rfl (hb hby at_55) rfl ?_
        refine XS.iconst Xj.here hx rfl (hb hby at_57) ?_
        exact k
      have hc189 : (1 : Int32) = (1 : Int32) := by decide
      refine OwnGo.of (A := Tj.setTop (mkF m 58 #[l0, l1, l2, l3, l4, .val (.int (1 : Int32)), .val (.ref bK), .unset, .unset, .unset, .unset, .unset] [(.int (1 : Int32)), (.int (1 : Int32))])) (B := Tj.setTop (mkF m 62 #[l0, l1, l2, l3, l4, .val (.int (1 : Int32)), .val (.ref bK), .unset, .unset, .unset, .unset, .unset] [(.int (1 : Int32))])) (fun t k => ?_) ?_
      · show Steps p.tables e below (Tj.setTop (mkF m 58 #[l0, l1, l2, l3, l4, .val (.int (1 : Int32)), .val (.ref bK), .unset, .unset, .unset, .unset, .unset] [(.int (1 : Int32)), (.int (1 : Int32))])) t
        refine XS.icmpNo Xj.here hx rfl (hb hby at_58) rfl (teq hc189).2 ?_
        refine XS.iconst Xj.here hx rfl (hb hby at_61) ?_
        exact k
      obtain ⟨T190, h190, kq190, X190, e190, E190, A190, st190⟩ := newP (aty := .char) Xj hx hZ (w1 hw) ej (g := (mkF m 62 #[l0, l1, l2, l3, l4, .val (.int (1 : Int32)), .val (.ref bK), .unset, .unset, .unset, .unset, .unset] [(.int (1 : Int32))])) rfl (hb hby at_62) rfl (by decide) (cap := 1) (by decide) (by decide) (by decide) (by decide)
      obtain ⟨b190, g190⟩ : ∃ z, z = hj.size := ⟨_, rfl⟩
      rw [← g190] at A190 st190
      refine OwnGo.of st190 ?_
      have ne_bK_b190 : bK ≠ b190 := Nat.ne_of_lt (Nat.lt_of_lt_of_le Vj.lt (Nat.le_of_eq g190.symm))
      have gn_b190 : Safe Z consts_1 s.vm h190 b190 := Safe.ext E190 Cj.1 (Safe.new (Nat.le_of_eq g190.symm))
      have g_b190 : n0 ≤ b190 := Nat.le_trans Zj (Nat.le_of_eq g190.symm)
      have sz_b190 : h0.size ≤ b190 := Nat.le_trans Kj.1 (Nat.le_of_eq g190.symm)
      have cs191 := CHr.ext E190 Cj.1
      have f192 := Nat.le_trans Zj E190.1
      have f193 := Kj.ext E190
      have f194 := Bj.ext E190
      have f195 := Cj.trans cs191
      have f196 := Vj.ext E190
      have f197 := f118.ext E190
      have f198 := f119.ext E190
      have f199 : Arv Z h190 b190 kq190 .char (1 : Int32) [(.int (0 : Int32))] (.int (0 : Int32)) := (Arv.new A190 (by decide)).pad (pad_rep [] (.int (0 : Int32)) 1)
      show OwnGo p.tables e below _ (T190.setTop (mkF m 64 #[l0, l1, l2, l3, l4, .val (.int (1 : Int32)), .val (.ref bK), .unset, .unset, .unset, .unset, .unset] [(.ref b190)]))
      refine OwnGo.of (A := T190.setTop (mkF m 64 #[l0, l1, l2, l3, l4, .val (.int (1 : Int32)), .val (.ref bK), .unset, .unset, .unset, .unset, .unset] [(.ref b190)])) (B := T190.setTop (mkF m 69 #[l0, l1, l2, l3, l4, .val (.int (1 : Int32)), .val (.ref bK), .unset, .unset, .unset, .unset, .unset] [(.int (0 : Int32)), (.ref bK), (.int (0 : Int32)), (.ref b190), (.ref b190)])) (fun t k => ?_) ?_
      · show Steps p.tables e below (T190.setTop (mkF m 64 #[l0, l1, l2, l3, l4, .val (.int (1 : Int32)), .val (.ref bK), .unset, .unset, .unset, .unset, .unset] [(.ref b190)])) t
        refine XS.dup X190.here hx rfl (hb hby at_64) rfl rfl ?_
        refine XS.iconst X190.here hx rfl (hb hby at_65) ?_
        refine XS.aload X190.here hx rfl (hb hby at_66) rfl rfl ?_
        refine XS.iconst X190.here hx rfl (hb hby at_68) ?_
        exact k
      have cq200 := f196
      obtain ⟨clq200, Arq200, qq200, Sq200, Nq200, Hq200, Gq200⟩ := cq200
      have hinq200 := inb_of (j := (0 : Int32)) Sq200 ⟨by decide, by decide⟩
      refine OwnGo.of (X190.caload hx (j := (0 : Int32)) (v := (.int k0)) (by rw [e190]; exact Arq200.1) (State.isArrayOf_alike hZ.alike Arq200.2.1) Arq200.2.2 hinq200 (Hq200.at hinq200 rfl) (g := (mkF m 69 #[l0, l1, l2, l3, l4, .val (.int (1 : Int32)), .val (.ref bK), .unset, .unset, .unset, .unset, .unset] [(.int (0 : Int32)), (.ref bK), (.int (0 : Int32)), (.ref b190), (.ref b190)])) rfl rfl (hb hby at_69)) ?_
      show OwnGo p.tables e below _ (T190.setTop (mkF m 70 #[l0, l1, l2, l3, l4, .val (.int (1 : Int32)), .val (.ref bK), .unset, .unset, .unset, .unset, .unset] [(.int k0), (.int (0 : Int32)), (.ref b190), (.ref b190)]))
      have cq201 := f199
      obtain ⟨clq201, Arq201, qq201, Sq201, Nq201, Hq201, Gq201⟩ := cq201
      obtain ⟨T202, h202, X202, e202, W202, st202⟩ := stC X190 hx hZ e190 Arq201 (j := (0 : Int32)) (inb_of Sq201 ⟨by decide, by decide⟩) (g := (mkF m 70 #[l0, l1, l2, l3, l4, .val (.int (1 : Int32)), .val (.ref bK), .unset, .unset, .unset, .unset, .unset] [(.int k0), (.int (0 : Int32)), (.ref b190), (.ref b190)])) rfl rfl (hb hby at_70)
      refine OwnGo.of st202 ?_
      have N202 := Fr.snoc X202 Nj g_b190
      have cs203 := CHr.wr W202 gn_b190 f195.1
      have f204 := Nat.le_trans f192 (Keep.of_wr W202).1
      have f205 := f193.wr W202 (Or.inr sz_b190)
      have f206 := f194.wr W202
      have f207 := f195.trans cs203
      have f208 := f196.other W202 ne_bK_b190
      have f209 := f197.wr W202
      have f210 := f198.wr W202
      have f211 := cs203.safe f199.lt gn_b190
      have f212 : Arv Z h202 b190 kq190 .char (1 : Int32) [(.int (k0).toUInt32.toUInt16.toUInt32.toInt32)] (.int (0 : Int32)) := Arv.set Arq201 qq201 Sq201 Nq201 Hq201 Gq201 (fits_nar_char _) W202 0 rfl (Nat.le_of_ble_eq_true rfl)
      show OwnGo p.tables e below _ (T202.setTop (mkF m 71 #[l0, l1, l2, l3, l4, .val (.int (1 : Int32)), .val (.ref bK), .unset, .unset, .unset, .unset, .unset] [(.ref b190)]))
      refine OwnGo.of (A := T202.setTop (mkF m 71 #[l0, l1, l2, l3, l4, .val (.int (1 : Int32)), .val (.ref bK), .unset, .unset, .unset, .unset, .unset] [(.ref b190)])) (B := T202.setTop (mkF m 172 #[l0, l1, l2, l3, l4, .val (.int (1 : Int32)), .val (.ref bK), .val (.ref b190), .unset, .unset, .unset, .unset] [])) (fun t k => ?_) ?_
      · show Steps p.tables e below (T202.setTop (mkF m 71 #[l0, l1, l2, l3, l4, .val (.int (1 : Int32)), .val (.ref bK), .unset, .unset, .unset, .unset, .unset] [(.ref b190)])) t
        refine XS.astore X202.here hx rfl (hb hby at_71) rfl rfl (l' := #[l0, l1, l2, l3, l4, .val (.int (1 : Int32)), .val (.ref bK), .val (.ref b190), .unset, .unset, .unset, .unset]) rfl ?_
        refine XS.goto X202.here hx rfl (pc0 := 73) (pc' := 172) rfl (hb hby at_73) (by decide) (by decide) ?_
        exact k
      have f213 := f212
      rw [own_chE hk0] at f213
      obtain ⟨T214, h214, X214, e214, E214, A214, D214, -, st214⟩ := newO X202 hx hZ hown (w6 hw) (w7 hw) (w8 hw) e202 (g := (mkF m 172 #[l0, l1, l2, l3, l4, .val (.int (1 : Int32)), .val (.ref bK), .val (.ref b190), .unset, .unset, .unset, .unset] [])) rfl (hb hby at_172) (by decide) (by decide)
      obtain ⟨b214, g214⟩ : ∃ z, z = h202.size := ⟨_, rfl⟩
      rw [← g214] at A214 D214 st214
      refine OwnGo.of st214 ?_
      have ne_bK_b214 : bK ≠ b214 := Nat.ne_of_lt (Nat.lt_of_lt_of_le f208.lt (Nat.le_of_eq g214.symm))
      have ne_b190_b214 : b190 ≠ b214 := Nat.ne_of_lt (Nat.lt_of_lt_of_le f213.lt (Nat.le_of_eq g214.symm))
      have gn_b214 : Safe Z consts_1 s.vm h214 b214 := Safe.ext E214 f207.1 (Safe.new (Nat.le_of_eq g214.symm))
      have g_b214 : n0 ≤ b214 := Nat.le_trans f204 (Nat.le_of_eq g214.symm)
      have sz_b214 : h0.size ≤ b214 := Nat.le_trans f205.1 (Nat.le_of_eq g214.symm)
      have cs215 := CHr.ext E214 f207.1
      have f216 := Nat.le_trans f204 E214.1
      have f217 := f205.ext E214
      have f218 := f206.ext E214
      have f219 := f207.trans cs215
      have f220 := f208.ext E214
      have f221 := f209.ext E214
      have f222 := f210.ext E214
      have f223 := cs215.safe f213.lt f211
      have f224 := f213.ext E214
      have f225 : Fld Z h214 b214 "java/lang/String" "value" "[B" .null := D214 (Or.inr (w21 hw)) (ty := (.array .byte)) (by decide)
      have f226 : Fld Z h214 b214 "java/lang/String" "coder" "B" (.int (0 : Int32)) := D214 (Or.inr (w22 hw)) (ty := .byte) (by decide)
      show OwnGo p.tables e below _ (T214.setTop (mkF m 175 #[l0, l1, l2, l3, l4, .val (.int (1 : Int32)), .val (.ref bK), .val (.ref b190), .unset, .unset, .unset, .unset] [(.ref b214)]))
      refine OwnGo.of (A := T214.setTop (mkF m 175 #[l0, l1, l2, l3, l4, .val (.int (1 : Int32)), .val (.ref bK), .val (.ref b190), .unset, .unset, .unset, .unset] [(.ref b214)])) (B := T214.setTop (mkF m 178 #[l0, l1, l2, l3, l4, .val (.int (1 : Int32)), .val (.ref bK), .val (.ref b190), .unset, .unset, .unset, .unset] [(.ref b190), (.ref b214), (.ref b214)])) (fun t k => ?_) ?_
      · show Steps p.tables e below (T214.setTop (mkF m 175 #[l0, l1, l2, l3, l4, .val (.int (1 : Int32)), .val (.ref bK), .val (.ref b190), .unset, .unset, .unset, .unset] [(.ref b214)])) t
        refine XS.dup X214.here hx rfl (hb hby at_175) rfl rfl ?_
        refine XS.aload X214.here hx rfl (hb hby at_176) rfl rfl ?_
        exact k
      have hp_b214 : ∀ c ∈ ([k0] : List Int32), OwnCh c := (own_hS hk0 own_h0)
      obtain ⟨T227, L227, v227, X227, hQ227, st227⟩ := own_callI X214 hx (y := (⟨"java/lang/String", "<init>", "([C)V"⟩ : MethodName)) rfl hown (mvT hZ (w9 hw)) (mvT hZ (w10 hw)) (mvT hZ (w11 hw)) (by decide) (StrChars.Road.backV (W := 1) hZ (own_ws hw) (kI := 4) (w7 hw) (cs := ([k0] : List Int32)) (bs := (([k0] : List Int32)).map (fun c => c.toInt8.toInt32)) (n := 1) g_b214 f216 A214 f225 f226 f224 f221 hzc rfl rfl (by decide) (by decide) hp_b214 rfl (by decide) (by decide)) (g := (mkF m 178 #[l0, l1, l2, l3, l4, .val (.int (1 : Int32)), .val (.ref bK), .val (.ref b190), .unset, .unset, .unset, .unset] [(.ref b190), (.ref b214), (.ref b214)])) rfl (by rw [hml]; rfl) (a := b214) (argsL := [(.ref b190)]) (rest := [(.ref b214)]) (lenOf pd_118 rfl) rfl (by show 2 * 0 + _ ≤ _; exact Nat.le_of_eq rfl) (hb hby at_178) rfl e214 (by decide) (by decide)
      obtain ⟨rfl, N227q, K227, y227E, y227C, t227, kb227, -, -, -, y227V, y227A⟩ := hQ227
      have cs228 := CHr.keep K227 (allS gn_b214 all0) f219.1
      have f229 := Nat.le_trans f216 K227.1
      have f230 := f217.trans K227 (allS (Or.inr sz_b214) all0)
      have f231 := f218.keep K227
      have f232 := f219.trans cs228
      have f233 := f220.keep K227 (ninS ne_bK_b214 nin0)
      have f234 := own_sta_keep f221 K227 (allS (own_ns_exa A214) all0)
      have f235 := own_sta_keep f222 K227 (allS (own_ns_exa A214) all0)
      have f236 := cs228.safe f224.lt f223
      have f237 := f224.keep K227 (ninS ne_b190_b214 nin0)
      have f238 := cs228.safe A214.lt gn_b214
      have f239 := A214.keep K227
      have f240 : Arv Z T227.heap t227 kb227 .byte (1 : Int32) [(.int (StrChars.lo8 k0))] (.int (0 : Int32)) := y227A
      have N227 := Fr.app N202 N227q
      refine OwnGo.of st227 ?_
      show OwnGo p.tables e below _ (T227.setTop (mkF m 181 #[l0, l1, l2, l3, l4, .val (.int (1 : Int32)), .val (.ref bK), .val (.ref b190), .unset, .unset, .unset, .unset] [(.ref b214)]))
      refine OwnGo.of (A := T227.setTop (mkF m 181 #[l0, l1, l2, l3, l4, .val (.int (1 : Int32)), .val (.ref bK), .val (.ref b190), .unset, .unset, .unset, .unset] [(.ref b214)])) (B := T227.setTop (mkF m 185 #[l0, l1, l2, l3, l4, .val (.int (1 : Int32)), .val (.ref bK), .val (.ref b190), .val (.ref b214), .unset, .unset, .unset] [(.int (1 : Int32))])) (fun t k => ?_) ?_
      · show Steps p.tables e below (T227.setTop (mkF m 181 #[l0, l1, l2, l3, l4, .val (.int (1 : Int32)), .val (.ref bK), .val (.ref b190), .unset, .unset, .unset, .unset] [(.ref b214)])) t
        refine XS.astore X227.here hx rfl (hb hby at_181) rfl rfl (l' := #[l0, l1, l2, l3, l4, .val (.int (1 : Int32)), .val (.ref bK), .val (.ref b190), .val (.ref b214), .unset, .unset, .unset]) rfl ?_
        refine XS.iload X227.here hx rfl (hb hby at_183) rfl ?_
        exact k
      have hc241 : (0 : Int32) < (1 : Int32) := by decide
      refine OwnGo.of (A := T227.setTop (mkF m 185 #[l0, l1, l2, l3, l4, .val (.int (1 : Int32)), .val (.ref bK), .val (.ref b190), .val (.ref b214), .unset, .unset, .unset] [(.int (1 : Int32))])) (B := T227.setTop (mkF m 191 #[l0, l1, l2, l3, l4, .val (.int (1 : Int32)), .val (.ref bK), .val (.ref b190), .val (.ref b214), .unset, .unset, .unset] [(.int (0 : Int32)), (.ref bK)])) (fun t k => ?_) ?_
      · show Steps p.tables e below (T227.setTop (mkF m 185 #[l0, l1, l2, l3, l4, .val (.int (1 : Int32)), .val (.ref bK), .val (.ref b190), .val (.ref b214), .unset, .unset, .unset] [(.int (1 : Int32))])) t
        refine XS.ifNo X227.here hx rfl (hb hby at_185) rfl ((if0 _ _).trans (tlt hc241).2.2.2) ?_
        refine XS.aload X227.here hx rfl (hb hby at_188) rfl rfl ?_
        refine XS.iconst X227.here hx rfl (hb hby at_190) ?_
        exact k
      have cq242 := f233
      obtain ⟨clq242, Arq242, qq242, Sq242, Nq242, Hq242, Gq242⟩ := cq242
      have hinq242 := inb_of (j := (0 : Int32)) Sq242 ⟨by decide, by decide⟩
      refine OwnGo.of (X227.caload hx (j := (0 : Int32)) (v := (.int k0)) Arq242.1 (State.isArrayOf_alike hZ.alike Arq242.2.1) Arq242.2.2 hinq242 (Hq242.at hinq242 rfl) (g := (mkF m 191 #[l0, l1, l2, l3, l4, .val (.int (1 : Int32)), .val (.ref bK), .val (.ref b190), .val (.ref b214), .unset, .unset, .unset] [(.int (0 : Int32)), (.ref bK)])) rfl rfl (hb hby at_191)) ?_
      show OwnGo p.tables e below _ (T227.setTop (mkF m 192 #[l0, l1, l2, l3, l4, .val (.int (1 : Int32)), .val (.ref bK), .val (.ref b190), .val (.ref b214), .unset, .unset, .unset] [(.int k0)]))
      obtain ⟨T243, L243, v243, X243, hQ243, st243⟩ := own_callS X227 hx (y := (⟨"dev/boundaryline/model/HeaderValueTrimPinLaw", "ws", "(C)Z"⟩ : MethodName)) hown (mvT hZ (w73 hw)) (mvT hZ (w74 hw)) (mvT hZ (w4 hw)) (mvT hZ (w75 hw)) (by decide) (backOf (W := 0) (rm16 l Z aw hw [] k0  T227.heap n0 f229 ) hZ (w75 hw) (w4 hw) (by decide) (by decide)) (g := (mkF m 192 #[l0, l1, l2, l3, l4, .val (.int (1 : Int32)), .val (.ref bK), .val (.ref b190), .val (.ref b214), .unset, .unset, .unset] [(.int k0)])) rfl (by rw [hml]; rfl) (argsL := [(.int k0)]) (rest := []) (lenOf pd_22 rfl) rfl (by show 2 * 0 + _ ≤ _; exact Nat.le_of_eq rfl) (hb hby at_192) rfl rfl (by decide) (by decide)
      obtain ⟨rfl, N243q, eq243⟩ := hQ243
      have N243 := Fr.app N227 N243q
      refine OwnGo.of st243 ?_
      show OwnGo p.tables e below _ (T243.setTop (mkF m 195 #[l0, l1, l2, l3, l4, .val (.int (1 : Int32)), .val (.ref bK), .val (.ref b190), .val (.ref b214), .unset, .unset, .unset] [(.int (own_w2 k0))]))
      by_cases hc244 : (own_w2 k0) = (0 : Int32)
      · have ew245 : own_wb k0 = false := own_wF hc244
        refine OwnGo.of (A := T243.setTop (mkF m 195 #[l0, l1, l2, l3, l4, .val (.int (1 : Int32)), .val (.ref bK), .val (.ref b190), .val (.ref b214), .unset, .unset, .unset] [(.int (own_w2 k0))])) (B := T243.setTop (mkF m 274 #[l0, l1, l2, l3, l4, .val (.int (1 : Int32)), .val (.ref bK), .val (.ref b190), .val (.ref b214), .val (.int (0 : Int32)), .unset, .unset] [])) (fun t k => ?_) ?_
        · show Steps p.tables e below (T243.setTop (mkF m 195 #[l0, l1, l2, l3, l4, .val (.int (1 : Int32)), .val (.ref bK), .val (.ref b190), .val (.ref b214), .unset, .unset, .unset] [(.int (own_w2 k0))])) t
          refine XS.ifNo X243.here hx rfl (hb hby at_195) rfl ((if0 _ _).trans (teq hc244).2) ?_
          refine XS.iconst X243.here hx rfl (hb hby at_198) ?_
          refine XS.istore X243.here hx rfl (hb hby at_199) rfl (l' := #[l0, l1, l2, l3, l4, .val (.int (1 : Int32)), .val (.ref bK), .val (.ref b190), .val (.ref b214), .val (.int (0 : Int32)), .unset, .unset]) rfl ?_
          refine XS.goto X243.here hx rfl (pc0 := 201) (pc' := 274) rfl (hb hby at_201) (by decide) (by decide) ?_
          exact k
        exact J274_1 (l0) (l1) (l2) (l3) (l4) T243 _ _ (.val (.ref b190)) bK kb b214 k0 k1 k2 k3 (0 : Int32) X243 eq243 N243 f229 f230 f231 f232 f233 hk0 hk1 hk2 hk3 ⟨_, _, y227E, y227V, y227C, f240, hp_b214, (Nat.le_of_ble_eq_true rfl)⟩ (Or.inl ⟨rfl, ew245⟩)
      · have ew246 : own_wb k0 = true := own_wT hc244
        refine OwnGo.of (A := T243.setTop (mkF m 195 #[l0, l1, l2, l3, l4, .val (.int (1 : Int32)), .val (.ref bK), .val (.ref b190), .val (.ref b214), .unset, .unset, .unset] [(.int (own_w2 k0))])) (B := T243.setTop (mkF m 207 #[l0, l1, l2, l3, l4, .val (.int (1 : Int32)), .val (.ref bK), .val (.ref b190), .val (.ref b214), .unset, .unset, .unset] [(.int (1 : Int32)), (.int (1 : Int32))])) (fun t k => ?_) ?_
        · show Steps p.tables e below (T243.setTop (mkF m 195 #[l0, l1, l2, l3, l4, .val (.int (1 : Int32)), .val (.ref bK), .val (.ref b190), .val (.ref b214), .unset, .unset, .unset] [(.int (own_w2 k0))])) t
          refine XS.ifYes X243.here hx rfl (pc0 := 195) (pc' := 204) rfl (hb hby at_195) rfl ((if0 _ _).trans (feq hc244).2) (by decide) (by decide) ?_
          refine XS.iload X243.here hx rfl (hb hby at_204) rfl ?_
          refine XS.iconst X243.here hx rfl (hb hby at_206) ?_
          exact k
        have hc247 : ¬ ((1 : Int32) < (1 : Int32)) := by decide
        refine OwnGo.of (A := T243.setTop (mkF m 207 #[l0, l1, l2, l3, l4, .val (.int (1 : Int32)), .val (.ref bK), .val (.ref b190), .val (.ref b214), .unset, .unset, .unset] [(.int (1 : Int32)), (.int (1 : Int32))])) (B := T243.setTop (mkF m 229 #[l0, l1, l2, l3, l4, .val (.int (1 : Int32)), .val (.ref bK), .val (.ref b190), .val (.ref b214), .unset, .unset, .unset] [(.int (2 : Int32)), (.int (1 : Int32))])) (fun t k => ?_) ?_
        · show Steps p.tables e below (T243.setTop (mkF m 207 #[l0, l1, l2, l3, l4, .val (.int (1 : Int32)), .val (.ref bK), .val (.ref b190), .val (.ref b214), .unset, .unset, .unset] [(.int (1 : Int32)), (.int (1 : Int32))])) t
          refine XS.icmpYes X243.here hx rfl (pc0 := 207) (pc' := 226) rfl (hb hby at_207) rfl (flt hc247).2.2.2 (by decide) (by decide) ?_
          refine XS.iload X243.here hx rfl (hb hby at_226) rfl ?_
          refine XS.iconst X243.here hx rfl (hb hby at_228) ?_
          exact k
        have hc248 : ¬ ((2 : Int32) < (1 : Int32)) := by decide
        refine OwnGo.of (A := T243.setTop (mkF m 229 #[l0, l1, l2, l3, l4, .val (.int (1 : Int32)), .val (.ref bK), .val (.ref b190), .val (.ref b214), .unset, .unset, .unset] [(.int (2 : Int32)), (.int (1 : Int32))])) (B := T243.setTop (mkF m 251 #[l0, l1, l2, l3, l4, .val (.int (1 : Int32)), .val (.ref bK), .val (.ref b190), .val (.ref b214), .unset, .unset, .unset] [(.int (3 : Int32)), (.int (1 : Int32))])) (fun t k => ?_) ?_
        · show Steps p.tables e below (T243.setTop (mkF m 229 #[l0, l1, l2, l3, l4, .val (.int (1 : Int32)), .val (.ref bK), .val (.ref b190), .val (.ref b214), .unset, .unset, .unset] [(.int (2 : Int32)), (.int (1 : Int32))])) t
          refine XS.icmpYes X243.here hx rfl (pc0 := 229) (pc' := 248) rfl (hb hby at_229) rfl (flt hc248).2.2.2 (by decide) (by decide) ?_
          refine XS.iload X243.here hx rfl (hb hby at_248) rfl ?_
          refine XS.iconst X243.here hx rfl (hb hby at_250) ?_
          exact k
        have hc249 : ¬ ((3 : Int32) < (1 : Int32)) := by decide
        refine OwnGo.of (A := T243.setTop (mkF m 251 #[l0, l1, l2, l3, l4, .val (.int (1 : Int32)), .val (.ref bK), .val (.ref b190), .val (.ref b214), .unset, .unset, .unset] [(.int (3 : Int32)), (.int (1 : Int32))])) (B := T243.setTop (mkF m 274 #[l0, l1, l2, l3, l4, .val (.int (1 : Int32)), .val (.ref bK), .val (.ref b190), .val (.ref b214), .val (.int (1 : Int32)), .unset, .unset] [])) (fun t k => ?_) ?_
        · show Steps p.tables e below (T243.setTop (mkF m 251 #[l0, l1, l2, l3, l4, .val (.int (1 : Int32)), .val (.ref bK), .val (.ref b190), .val (.ref b214), .unset, .unset, .unset] [(.int (3 : Int32)), (.int (1 : Int32))])) t
          refine XS.icmpYes X243.here hx rfl (pc0 := 251) (pc' := 270) rfl (hb hby at_251) rfl (flt hc249).2.2.2 (by decide) (by decide) ?_
          refine XS.iload X243.here hx rfl (hb hby at_270) rfl ?_
          refine XS.istore X243.here hx rfl (hb hby at_272) rfl (l' := #[l0, l1, l2, l3, l4, .val (.int (1 : Int32)), .val (.ref bK), .val (.ref b190), .val (.ref b214), .val (.int (1 : Int32)), .unset, .unset]) rfl ?_
          exact k
        exact J274_1 (l0) (l1) (l2) (l3) (l4) T243 _ _ (.val (.ref b190)) bK kb b214 k0 k1 k2 k3 (1 : Int32) X243 eq243 N243 f229 f230 f231 f232 f233 hk0 hk1 hk2 hk3 ⟨_, _, y227E, y227V, y227C, f240, hp_b214, (Nat.le_of_ble_eq_true rfl)⟩ (Or.inr (⟨rfl, ew246, trivial⟩))
    · show OwnGo p.tables e below _ (Tj.setTop (mkF m 42 #[l0, l1, l2, l3, l4, .val (.int (2 : Int32)), .val (.ref bK), .unset, .unset, .unset, .unset, .unset] []))
      refine OwnGo.of (A := Tj.setTop (mkF m 42 #[l0, l1, l2, l3, l4, .val (.int (2 : Int32)), .val (.ref bK), .unset, .unset, .unset, .unset, .unset] [])) (B := Tj.setTop (mkF m 44 #[l0, l1, l2, l3, l4, .val (.int (2 : Int32)), .val (.ref bK), .unset, .unset, .unset, .unset, .unset] [(.int (2 : Int32))])) (fun t k => ?_) ?_
      · show Steps p.tables e below (Tj.setTop (mkF m 42 #[l0, l1, l2, l3, l4, .val (.int (2 : Int32)), .val (.ref bK), .unset, .unset, .unset, .unset, .unset] [])) t
        refine XS.iload Xj.here hx rfl (hb hby at_42) rfl ?_
        exact k
      have hc250 : ¬ ((2 : Int32) = (0 : Int32)) := by decide
      refine OwnGo.of (A := Tj.setTop (mkF m 44 #[l0, l1, l2, l3, l4, .val (.int (2 : Int32)), .val (.ref bK), .unset, .unset, .unset, .unset, .unset] [(.int (2 : Int32))])) (B := Tj.setTop (mkF m 58 #[l0, l1, l2, l3, l4, .val (.int (2 : Int32)), .val (.ref bK), .unset, .unset, .unset, .unset, .unset] [(.int (1 : Int32)), (.int (2 : Int32))])) (fun t k => ?_) ?_
      · show Steps p.tables e below (Tj.setTop (mkF m 44 #[l0, l1, l2, l3, l4, .val (.int (2 : Int32)), .val (.ref bK), .unset, .unset, .unset, .unset, .unset] [(.int (2 : Int32))])) t
        refine XS.ifYes Xj.here hx rfl (pc0 := 44) (pc' := 55) rfl (hb hby at_44) rfl ((if0 _ _).trans (feq hc250).2) (by decide) (by decide) ?_
        refine XS.iload Xj.here hx rfl (hb hby at_55) rfl ?_
        refine XS.iconst Xj.here hx rfl (hb hby at_57) ?_
        exact k
      have hc251 : ¬ ((2 : Int32) = (1 : Int32)) := by decide
      refine OwnGo.of (A := Tj.setTop (mkF m 58 #[l0, l1, l2, l3, l4, .val (.int (2 : Int32)), .val (.ref bK), .unset, .unset, .unset, .unset, .unset] [(.int (1 : Int32)), (.int (2 : Int32))])) (B := Tj.setTop (mkF m 79 #[l0, l1, l2, l3, l4, .val (.int (2 : Int32)), .val (.ref bK), .unset, .unset, .unset, .unset, .unset] [(.int (2 : Int32)), (.int (2 : Int32))])) (fun t k => ?_) ?_
      · show Steps p.tables e below (Tj.setTop (mkF m 58 #[l0, l1, l2, l3, l4, .val (.int (2 : Int32)), .val (.ref bK), .unset, .unset, .unset, .unset, .unset] [(.int (1 : Int32)), (.int (2 : Int32))])) t
        refine XS.icmpYes Xj.here hx rfl (pc0 := 58) (pc' := 76) rfl (hb hby at_58) rfl (feq hc251).2 (by decide) (by decide) ?_
        refine XS.iload Xj.here hx rfl (hb hby at_76) rfl ?_
        refine XS.iconst Xj.here hx rfl (hb hby at_78) ?_
        exact k
      have hc252 : (2 : Int32) = (2 : Int32) := by decide
      refine OwnGo.of (A := Tj.setTop (mkF m 79 #[l0, l1, l2, l3, l4, .val (.int (2 : Int32)), .val (.ref bK), .unset, .unset, .unset, .unset, .unset] [(.int (2 : Int32)), (.int (2 : Int32))])) (B := Tj.setTop (mkF m 83 #[l0, l1, l2, l3, l4, .val (.int (2 : Int32)), .val (.ref bK), .unset, .unset, .unset, .unset, .unset] [(.int (2 : Int32))])) (fun t k => ?_) ?_
      · show Steps p.tables e below (Tj.setTop (mkF m 79 #[l0, l1, l2, l3, l4, .val (.int (2 : Int32)), .val (.ref bK), .unset, .unset, .unset, .unset, .unset] [(.int (2 : Int32)), (.int (2 : Int32))])) t
        refine XS.icmpNo Xj.here hx rfl (hb hby at_79) rfl (teq hc252).2 ?_
        refine XS.iconst Xj.here hx rfl (hb hby at_82) ?_
        exact k
      obtain ⟨T253, h253, kq253, X253, e253, E253, A253, st253⟩ := newP (aty := .char) Xj hx hZ (w1 hw) ej (g := (mkF m 83 #[l0, l1, l2, l3, l4, .val (.int (2 : Int32)), .val (.ref bK), .unset, .unset, .unset, .unset, .unset] [(.int (2 : Int32))])) rfl (hb hby at_83) rfl (by decide) (cap := 2) (by decide) (by decide) (by decide) (by decide)
      obtain ⟨b253, g253⟩ : ∃ z, z = hj.size := ⟨_, rfl⟩
      rw [← g253] at A253 st253
      refine OwnGo.of st253 ?_
      have ne_bK_b253 : bK ≠ b253 := Nat.ne_of_lt (Nat.lt_of_lt_of_le Vj.lt (Nat.le_of_eq g253.symm))
      have gn_b253 : Safe Z consts_1 s.vm h253 b253 := Safe.ext E253 Cj.1 (Safe.new (Nat.le_of_eq g253.symm))
      have g_b253 : n0 ≤ b253 := Nat.le_trans Zj (Nat.le_of_eq g253.symm)
      have sz_b253 : h0.size ≤ b253 := Nat.le_trans Kj.1 (Nat.le_of_eq g253.symm)
      have cs254 := CHr.ext E253 Cj.1
      have f255 := Nat.le_trans Zj E253.1
      have f256 := Kj.ext E253
      have f257 := Bj.ext E253
      have f258 := Cj.trans cs254
      have f259 := Vj.ext E253
      have f260 := f118.ext E253
      have f261 := f119.ext E253
      have f262 : Arv Z h253 b253 kq253 .char (2 : Int32) [(.int (0 : Int32)), (.int (0 : Int32))] (.int (0 : Int32)) := (Arv.new A253 (by decide)).pad (pad_rep [] (.int (0 : Int32)) 2)
      show OwnGo p.tables e below _ (T253.setTop (mkF m 85 #[l0, l1, l2, l3, l4, .val (.int (2 : Int32)), .val (.ref bK), .unset, .unset, .unset, .unset, .unset] [(.ref b253)]))
      refine OwnGo.of (A := T253.setTop (mkF m 85 #[l0, l1, l2, l3, l4, .val (.int (2 : Int32)), .val (.ref bK), .unset, .unset, .unset, .unset, .unset] [(.ref b253)])) (B := T253.setTop (mkF m 90 #[l0, l1, l2, l3, l4, .val (.int (2 : Int32)), .val (.ref bK), .unset, .unset, .unset, .unset, .unset] [(.int (0 : Int32)), (.ref bK), (.int (0 : Int32)), (.ref b253), (.ref b253)])) (fun t k => ?_) ?_
      · show Steps p.tables e below (T253.setTop (mkF m 85 #[l0, l1, l2, l3, l4, .val (.int (2 : Int32)), .val (.ref bK), .unset, .unset, .unset, .unset, .unset] [(.ref b253)])) t
        refine XS.dup X253.here hx rfl (hb hby at_85) rfl rfl ?_
        refine XS.iconst X253.here hx rfl (hb hby at_86) ?_
        refine XS.aload X253.here hx rfl (hb hby at_87) rfl rfl ?_
        refine XS.iconst X253.here hx rfl (hb hby at_89) ?_
        exact k
      have cq263 := f259
      obtain ⟨clq263, Arq263, qq263, Sq263, Nq263, Hq263, Gq263⟩ := cq263
      have hinq263 := inb_of (j := (0 : Int32)) Sq263 ⟨by decide, by decide⟩
      refine OwnGo.of (X253.caload hx (j := (0 : Int32)) (v := (.int k0)) (by rw [e253]; exact Arq263.1) (State.isArrayOf_alike hZ.alike Arq263.2.1) Arq263.2.2 hinq263 (Hq263.at hinq263 rfl) (g := (mkF m 90 #[l0, l1, l2, l3, l4, .val (.int (2 : Int32)), .val (.ref bK), .unset, .unset, .unset, .unset, .unset] [(.int (0 : Int32)), (.ref bK), (.int (0 : Int32)), (.ref b253), (.ref b253)])) rfl rfl (hb hby at_90)) ?_
      show OwnGo p.tables e below _ (T253.setTop (mkF m 91 #[l0, l1, l2, l3, l4, .val (.int (2 : Int32)), .val (.ref bK), .unset, .unset, .unset, .unset, .unset] [(.int k0), (.int (0 : Int32)), (.ref b253), (.ref b253)]))
      have cq264 := f262
      obtain ⟨clq264, Arq264, qq264, Sq264, Nq264, Hq264, Gq264⟩ := cq264
      obtain ⟨T265, h265, X265, e265, W265, st265⟩ := stC X253 hx hZ e253 Arq264 (j := (0 : Int32)) (inb_of Sq264 ⟨by decide, by decide⟩) (g := (mkF m 91 #[l0, l1, l2, l3, l4, .val (.int (2 : Int32)), .val (.ref bK), .unset, .unset, .unset, .unset, .unset] [(.int k0), (.int (0 : Int32)), (.ref b253), (.ref b253)])) rfl rfl (hb hby at_91)
      refine OwnGo.of st265 ?_
      have N265 := Fr.snoc X265 Nj g_b253
      have cs266 := CHr.wr W265 gn_b253 f258.1
      have f267 := Nat.le_trans f255 (Keep.of_wr W265).1
      have f268 := f256.wr W265 (Or.inr sz_b253)
      have f269 := f257.wr W265
      have f270 := f258.trans cs266
      have f271 := f259.other W265 ne_bK_b253
      have f272 := f260.wr W265
      have f273 := f261.wr W265
      have f274 := cs266.safe f262.lt gn_b253
      have f275 : Arv Z h265 b253 kq253 .char (2 : Int32) [(.int (k0).toUInt32.toUInt16.toUInt32.toInt32), (.int (0 : Int32))] (.int (0 : Int32)) := Arv.set Arq264 qq264 Sq264 Nq264 Hq264 Gq264 (fits_nar_char _) W265 0 rfl (Nat.le_of_ble_eq_true rfl)
      show OwnGo p.tables e below _ (T265.setTop (mkF m 92 #[l0, l1, l2, l3, l4, .val (.int (2 : Int32)), .val (.ref bK), .unset, .unset, .unset, .unset, .unset] [(.ref b253)]))
      refine OwnGo.of (A := T265.setTop (mkF m 92 #[l0, l1, l2, l3, l4, .val (.int (2 : Int32)), .val (.ref bK), .unset, .unset, .unset, .unset, .unset] [(.ref b253)])) (B := T265.setTop (mkF m 97 #[l0, l1, l2, l3, l4, .val (.int (2 : Int32)), .val (.ref bK), .unset, .unset, .unset, .unset, .unset] [(.int (1 : Int32)), (.ref bK), (.int (1 : Int32)), (.ref b253), (.ref b253)])) (fun t k => ?_) ?_
      · show Steps p.tables e below (T265.setTop (mkF m 92 #[l0, l1, l2, l3, l4, .val (.int (2 : Int32)), .val (.ref bK), .unset, .unset, .unset, .unset, .unset] [(.ref b253)])) t
        refine XS.dup X265.here hx rfl (hb hby at_92) rfl rfl ?_
        refine XS.iconst X265.here hx rfl (hb hby at_93) ?_
        refine XS.aload X265.here hx rfl (hb hby at_94) rfl rfl ?_
        refine XS.iconst X265.here hx rfl (hb hby at_96) ?_
        exact k
      have cq276 := f271
      obtain ⟨clq276, Arq276, qq276, Sq276, Nq276, Hq276, Gq276⟩ := cq276
      have hinq276 := inb_of (j := (1 : Int32)) Sq276 ⟨by decide, by decide⟩
      refine OwnGo.of (X265.caload hx (j := (1 : Int32)) (v := (.int k1)) (by rw [e265]; exact Arq276.1) (State.isArrayOf_alike hZ.alike Arq276.2.1) Arq276.2.2 hinq276 (Hq276.at hinq276 rfl) (g := (mkF m 97 #[l0, l1, l2, l3, l4, .val (.int (2 : Int32)), .val (.ref bK), .unset, .unset, .unset, .unset, .unset] [(.int (1 : Int32)), (.ref bK), (.int (1 : Int32)), (.ref b253), (.ref b253)])) rfl rfl (hb hby at_97)) ?_
      show OwnGo p.tables e below _ (T265.setTop (mkF m 98 #[l0, l1, l2, l3, l4, .val (.int (2 : Int32)), .val (.ref bK), .unset, .unset, .unset, .unset, .unset] [(.int k1), (.int (1 : Int32)), (.ref b253), (.ref b253)]))
      have cq277 := f275
      obtain ⟨clq277, Arq277, qq277, Sq277, Nq277, Hq277, Gq277⟩ := cq277
      obtain ⟨T278, h278, X278, e278, W278, st278⟩ := stC X265 hx hZ e265 Arq277 (j := (1 : Int32)) (inb_of Sq277 ⟨by decide, by decide⟩) (g := (mkF m 98 #[l0, l1, l2, l3, l4, .val (.int (2 : Int32)), .val (.ref bK), .unset, .unset, .unset, .unset, .unset] [(.int k1), (.int (1 : Int32)), (.ref b253), (.ref b253)])) rfl rfl (hb hby at_98)
      refine OwnGo.of st278 ?_
      have N278 := Fr.snoc X278 N265 g_b253
      have cs279 := CHr.wr W278 f274 f270.1
      have f280 := Nat.le_trans f267 (Keep.of_wr W278).1
      have f281 := f268.wr W278 (Or.inr sz_b253)
      have f282 := f269.wr W278
      have f283 := f270.trans cs279
      have f284 := f271.other W278 ne_bK_b253
      have f285 := f272.wr W278
      have f286 := f273.wr W278
      have f287 := cs279.safe f275.lt f274
      have f288 : Arv Z h278 b253 kq253 .char (2 : Int32) [(.int (k0).toUInt32.toUInt16.toUInt32.toInt32), (.int (k1).toUInt32.toUInt16.toUInt32.toInt32)] (.int (0 : Int32)) := Arv.set Arq277 qq277 Sq277 Nq277 Hq277 Gq277 (fits_nar_char _) W278 1 rfl (Nat.le_of_ble_eq_true rfl)
      show OwnGo p.tables e below _ (T278.setTop (mkF m 99 #[l0, l1, l2, l3, l4, .val (.int (2 : Int32)), .val (.ref bK), .unset, .unset, .unset, .unset, .unset] [(.ref b253)]))
      refine OwnGo.of (A := T278.setTop (mkF m 99 #[l0, l1, l2, l3, l4, .val (.int (2 : Int32)), .val (.ref bK), .unset, .unset, .unset, .unset, .unset] [(.ref b253)])) (B := T278.setTop (mkF m 172 #[l0, l1, l2, l3, l4, .val (.int (2 : Int32)), .val (.ref bK), .val (.ref b253), .unset, .unset, .unset, .unset] [])) (fun t k => ?_) ?_
      · show Steps p.tables e below (T278.setTop (mkF m 99 #[l0, l1, l2, l3, l4, .val (.int (2 : Int32)), .val (.ref bK), .unset, .unset, .unset, .unset, .unset] [(.ref b253)])) t
        refine XS.astore X278.here hx rfl (hb hby at_99) rfl rfl (l' := #[l0, l1, l2, l3, l4, .val (.int (2 : Int32)), .val (.ref bK), .val (.ref b253), .unset, .unset, .unset, .unset]) rfl ?_
        refine XS.goto X278.here hx rfl (pc0 := 101) (pc' := 172) rfl (hb hby at_101) (by decide) (by decide) ?_
        exact k
      have f289 := f288
      rw [own_chE hk0, own_chE hk1] at f289
      obtain ⟨T290, h290, X290, e290, E290, A290, D290, -, st290⟩ := newO X278 hx hZ hown (w6 hw) (w7 hw) (w8 hw) e278 (g := (mkF m 172 #[l0, l1, l2, l3, l4, .val (.int (2 : Int32)), .val (.ref bK), .val (.ref b253), .unset, .unset, .unset, .unset] [])) rfl (hb hby at_172) (by decide) (by decide)
      obtain ⟨b290, g290⟩ : ∃ z, z = h278.size := ⟨_, rfl⟩
      rw [← g290] at A290 D290 st290
      refine OwnGo.of st290 ?_
      have ne_bK_b290 : bK ≠ b290 := Nat.ne_of_lt (Nat.lt_of_lt_of_le f284.lt (Nat.le_of_eq g290.symm))
      have ne_b253_b290 : b253 ≠ b290 := Nat.ne_of_lt (Nat.lt_of_lt_of_le f289.lt (Nat.le_of_eq g290.symm))
      have gn_b290 : Safe Z consts_1 s.vm h290 b290 := Safe.ext E290 f283.1 (Safe.new (Nat.le_of_eq g290.symm))
      have g_b290 : n0 ≤ b290 := Nat.le_trans f280 (Nat.le_of_eq g290.symm)
      have sz_b290 : h0.size ≤ b290 := Nat.le_trans f281.1 (Nat.le_of_eq g290.symm)
      have cs291 := CHr.ext E290 f283.1
      have f292 := Nat.le_trans f280 E290.1
      have f293 := f281.ext E290
      have f294 := f282.ext E290
      have f295 := f283.trans cs291
      have f296 := f284.ext E290
      have f297 := f285.ext E290
      have f298 := f286.ext E290
      have f299 := cs291.safe f289.lt f287
      have f300 := f289.ext E290
      have f301 : Fld Z h290 b290 "java/lang/String" "value" "[B" .null := D290 (Or.inr (w21 hw)) (ty := (.array .byte)) (by decide)
      have f302 : Fld Z h290 b290 "java/lang/String" "coder" "B" (.int (0 : Int32)) := D290 (Or.inr (w22 hw)) (ty := .byte) (by decide)
      show OwnGo p.tables e below _ (T290.setTop (mkF m 175 #[l0, l1, l2, l3, l4, .val (.int (2 : Int32)), .val (.ref bK), .val (.ref b253), .unset, .unset, .unset, .unset] [(.ref b290)]))
      refine OwnGo.of (A := T290.setTop (mkF m 175 #[l0, l1, l2, l3, l4, .val (.int (2 : Int32)), .val (.ref bK), .val (.ref b253), .unset, .unset, .unset, .unset] [(.ref b290)])) (B := T290.setTop (mkF m 178 #[l0, l1, l2, l3, l4, .val (.int (2 : Int32)), .val (.ref bK), .val (.ref b253), .unset, .unset, .unset, .unset] [(.ref b253), (.ref b290), (.ref b290)])) (fun t k => ?_) ?_
      · show Steps p.tables e below (T290.setTop (mkF m 175 #[l0, l1, l2, l3, l4, .val (.int (2 : Int32)), .val (.ref bK), .val (.ref b253), .unset, .unset, .unset, .unset] [(.ref b290)])) t
        refine XS.dup X290.here hx rfl (hb hby at_175) rfl rfl ?_
        refine XS.aload X290.here hx rfl (hb hby at_176) rfl rfl ?_
        exact k
      have hp_b290 : ∀ c ∈ ([k0, k1] : List Int32), OwnCh c := (own_hS hk0 (own_hS hk1 own_h0))
      obtain ⟨T303, L303, v303, X303, hQ303, st303⟩ := own_callI X290 hx (y := (⟨"java/lang/String", "<init>", "([C)V"⟩ : MethodName)) rfl hown (mvT hZ (w9 hw)) (mvT hZ (w10 hw)) (mvT hZ (w11 hw)) (by decide) (StrChars.Road.backV (W := 1) hZ (own_ws hw) (kI := 4) (w7 hw) (cs := ([k0, k1] : List Int32)) (bs := (([k0, k1] : List Int32)).map (fun c => c.toInt8.toInt32)) (n := 2) g_b290 f292 A290 f301 f302 f300 f297 hzc rfl rfl (by decide) (by decide) hp_b290 rfl (by decide) (by decide)) (g := (mkF m 178 #[l0, l1, l2, l3, l4, .val (.int (2 : Int32)), .val (.ref bK), .val (.ref b253), .unset, .unset, .unset, .unset] [(.ref b253), (.ref b290), (.ref b290)])) rfl (by rw [hml]; rfl) (a := b290) (argsL := [(.ref b253)]) (rest := [(.ref b290)]) (lenOf pd_118 rfl) rfl (by show 2 * 0 + _ ≤ _; exact Nat.le_of_eq rfl) (hb hby at_178) rfl e290 (by decide) (by decide)
      obtain ⟨rfl, N303q, K303, y303E, y303C, t303, kb303, -, -, -, y303V, y303A⟩ := hQ303
      have cs304 := CHr.keep K303 (allS gn_b290 all0) f295.1
      have f305 := Nat.le_trans f292 K303.1
      have f306 := f293.trans K303 (allS (Or.inr sz_b290) all0)
      have f307 := f294.keep K303
      have f308 := f295.trans cs304
      have f309 := f296.keep K303 (ninS ne_bK_b290 nin0)
      have f310 := own_sta_keep f297 K303 (allS (own_ns_exa A290) all0)
      have f311 := own_sta_keep f298 K303 (allS (own_ns_exa A290) all0)
      have f312 := cs304.safe f300.lt f299
      have f313 := f300.keep K303 (ninS ne_b253_b290 nin0)
      have f314 := cs304.safe A290.lt gn_b290
      have f315 := A290.keep K303
      have f316 : Arv Z T303.heap t303 kb303 .byte (2 : Int32) [(.int (StrChars.lo8 k0)), (.int (StrChars.lo8 k1))] (.int (0 : Int32)) := y303A
      have N303 := Fr.app N278 N303q
      refine OwnGo.of st303 ?_
      show OwnGo p.tables e below _ (T303.setTop (mkF m 181 #[l0, l1, l2, l3, l4, .val (.int (2 : Int32)), .val (.ref bK), .val (.ref b253), .unset, .unset, .unset, .unset] [(.ref b290)]))
      refine OwnGo.of (A := T303.setTop (mkF m 181 #[l0, l1, l2, l3, l4, .val (.int (2 : Int32)), .val (.ref bK), .val (.ref b253), .unset, .unset, .unset, .unset] [(.ref b290)])) (B := T303.setTop (mkF m 185 #[l0, l1, l2, l3, l4, .val (.int (2 : Int32)), .val (.ref bK), .val (.ref b253), .val (.ref b290), .unset, .unset, .unset] [(.int (2 : Int32))])) (fun t k => ?_) ?_
      · show Steps p.tables e below (T303.setTop (mkF m 181 #[l0, l1, l2, l3, l4, .val (.int (2 : Int32)), .val (.ref bK), .val (.ref b253), .unset, .unset, .unset, .unset] [(.ref b290)])) t
        refine XS.astore X303.here hx rfl (hb hby at_181) rfl rfl (l' := #[l0, l1, l2, l3, l4, .val (.int (2 : Int32)), .val (.ref bK), .val (.ref b253), .val (.ref b290), .unset, .unset, .unset]) rfl ?_
        refine XS.iload X303.here hx rfl (hb hby at_183) rfl ?_
        exact k
      have hc317 : (0 : Int32) < (2 : Int32) := by decide
      refine OwnGo.of (A := T303.setTop (mkF m 185 #[l0, l1, l2, l3, l4, .val (.int (2 : Int32)), .val (.ref bK), .val (.ref b253), .val (.ref b290), .unset, .unset, .unset] [(.int (2 : Int32))])) (B := T303.setTop (mkF m 191 #[l0, l1, l2, l3, l4, .val (.int (2 : Int32)), .val (.ref bK), .val (.ref b253), .val (.ref b290), .unset, .unset, .unset] [(.int (0 : Int32)), (.ref bK)])) (fun t k => ?_) ?_
      · show Steps p.tables e below (T303.setTop (mkF m 185 #[l0, l1, l2, l3, l4, .val (.int (2 : Int32)), .val (.ref bK), .val (.ref b253), .val (.ref b290), .unset, .unset, .unset] [(.int (2 : Int32))])) t
        refine XS.ifNo X303.here hx rfl (hb hby at_185) rfl ((if0 _ _).trans (tlt hc317).2.2.2) ?_
        refine XS.aload X303.here hx rfl (hb hby at_188) rfl rfl ?_
        refine XS.iconst X303.here hx rfl (hb hby at_190) ?_
        exact k
      have cq318 := f309
      obtain ⟨clq318, Arq318, qq318, Sq318, Nq318, Hq318, Gq318⟩ := cq318
      have hinq318 := inb_of (j := (0 : Int32)) Sq318 ⟨by decide, by decide⟩
      refine OwnGo.of (X303.caload hx (j := (0 : Int32)) (v := (.int k0)) Arq318.1 (State.isArrayOf_alike hZ.alike Arq318.2.1) Arq318.2.2 hinq318 (Hq318.at hinq318 rfl) (g := (mkF m 191 #[l0, l1, l2, l3, l4, .val (.int (2 : Int32)), .val (.ref bK), .val (.ref b253), .val (.ref b290), .unset, .unset, .unset] [(.int (0 : Int32)), (.ref bK)])) rfl rfl (hb hby at_191)) ?_
      show OwnGo p.tables e below _ (T303.setTop (mkF m 192 #[l0, l1, l2, l3, l4, .val (.int (2 : Int32)), .val (.ref bK), .val (.ref b253), .val (.ref b290), .unset, .unset, .unset] [(.int k0)]))
      obtain ⟨T319, L319, v319, X319, hQ319, st319⟩ := own_callS X303 hx (y := (⟨"dev/boundaryline/model/HeaderValueTrimPinLaw", "ws", "(C)Z"⟩ : MethodName)) hown (mvT hZ (w73 hw)) (mvT hZ (w74 hw)) (mvT hZ (w4 hw)) (mvT hZ (w75 hw)) (by decide) (backOf (W := 0) (rm16 l Z aw hw [] k0  T303.heap n0 f305 ) hZ (w75 hw) (w4 hw) (by decide) (by decide)) (g := (mkF m 192 #[l0, l1, l2, l3, l4, .val (.int (2 : Int32)), .val (.ref bK), .val (.ref b253), .val (.ref b290), .unset, .unset, .unset] [(.int k0)])) rfl (by rw [hml]; rfl) (argsL := [(.int k0)]) (rest := []) (lenOf pd_22 rfl) rfl (by show 2 * 0 + _ ≤ _; exact Nat.le_of_eq rfl) (hb hby at_192) rfl rfl (by decide) (by decide)
      obtain ⟨rfl, N319q, eq319⟩ := hQ319
      have N319 := Fr.app N303 N319q
      refine OwnGo.of st319 ?_
      show OwnGo p.tables e below _ (T319.setTop (mkF m 195 #[l0, l1, l2, l3, l4, .val (.int (2 : Int32)), .val (.ref bK), .val (.ref b253), .val (.ref b290), .unset, .unset, .unset] [(.int (own_w2 k0))]))
      by_cases hc320 : (own_w2 k0) = (0 : Int32)
      · have ew321 : own_wb k0 = false := own_wF hc320
        refine OwnGo.of (A := T319.setTop (mkF m 195 #[l0, l1, l2, l3, l4, .val (.int (2 : Int32)), .val (.ref bK), .val (.ref b253), .val (.ref b290), .unset, .unset, .unset] [(.int (own_w2 k0))])) (B := T319.setTop (mkF m 274 #[l0, l1, l2, l3, l4, .val (.int (2 : Int32)), .val (.ref bK), .val (.ref b253), .val (.ref b290), .val (.int (0 : Int32)), .unset, .unset] [])) (fun t k => ?_) ?_
        · show Steps p.tables e below (T319.setTop (mkF m 195 #[l0, l1, l2, l3, l4, .val (.int (2 : Int32)), .val (.ref bK), .val (.ref b253), .val (.ref b290), .unset, .unset, .unset] [(.int (own_w2 k0))])) t
          refine XS.ifNo X319.here hx rfl (hb hby at_195) rfl ((if0 _ _).trans (teq hc320).2) ?_
          refine XS.iconst X319.here hx rfl (hb hby at_198) ?_
          refine XS.istore X319.here hx rfl (hb hby at_199) rfl (l' := #[l0, l1, l2, l3, l4, .val (.int (2 : Int32)), .val (.ref bK), .val (.ref b253), .val (.ref b290), .val (.int (0 : Int32)), .unset, .unset]) rfl ?_
          refine XS.goto X319.here hx rfl (pc0 := 201) (pc' := 274) rfl (hb hby at_201) (by decide) (by decide) ?_
          exact k
        exact J274_2 (l0) (l1) (l2) (l3) (l4) T319 _ _ (.val (.ref b253)) bK kb b290 k0 k1 k2 k3 (0 : Int32) X319 eq319 N319 f305 f306 f307 f308 f309 hk0 hk1 hk2 hk3 ⟨_, _, y303E, y303V, y303C, f316, hp_b290, (Nat.le_of_ble_eq_true rfl)⟩ (Or.inl ⟨rfl, ew321⟩)
      · have ew322 : own_wb k0 = true := own_wT hc320
        refine OwnGo.of (A := T319.setTop (mkF m 195 #[l0, l1, l2, l3, l4, .val (.int (2 : Int32)), .val (.ref bK), .val (.ref b253), .val (.ref b290), .unset, .unset, .unset] [(.int (own_w2 k0))])) (B := T319.setTop (mkF m 207 #[l0, l1, l2, l3, l4, .val (.int (2 : Int32)), .val (.ref bK), .val (.ref b253), .val (.ref b290), .unset, .unset, .unset] [(.int (1 : Int32)), (.int (2 : Int32))])) (fun t k => ?_) ?_
        · show Steps p.tables e below (T319.setTop (mkF m 195 #[l0, l1, l2, l3, l4, .val (.int (2 : Int32)), .val (.ref bK), .val (.ref b253), .val (.ref b290), .unset, .unset, .unset] [(.int (own_w2 k0))])) t
          refine XS.ifYes X319.here hx rfl (pc0 := 195) (pc' := 204) rfl (hb hby at_195) rfl ((if0 _ _).trans (feq hc320).2) (by decide) (by decide) ?_
          refine XS.iload X319.here hx rfl (hb hby at_204) rfl ?_
          refine XS.iconst X319.here hx rfl (hb hby at_206) ?_
          exact k
        have hc323 : (1 : Int32) < (2 : Int32) := by decide
        refine OwnGo.of (A := T319.setTop (mkF m 207 #[l0, l1, l2, l3, l4, .val (.int (2 : Int32)), .val (.ref bK), .val (.ref b253), .val (.ref b290), .unset, .unset, .unset] [(.int (1 : Int32)), (.int (2 : Int32))])) (B := T319.setTop (mkF m 213 #[l0, l1, l2, l3, l4, .val (.int (2 : Int32)), .val (.ref bK), .val (.ref b253), .val (.ref b290), .unset, .unset, .unset] [(.int (1 : Int32)), (.ref bK)])) (fun t k => ?_) ?_
        · show Steps p.tables e below (T319.setTop (mkF m 207 #[l0, l1, l2, l3, l4, .val (.int (2 : Int32)), .val (.ref bK), .val (.ref b253), .val (.ref b290), .unset, .unset, .unset] [(.int (1 : Int32)), (.int (2 : Int32))])) t
          refine XS.icmpNo X319.here hx rfl (hb hby at_207) rfl (tlt hc323).2.2.2 ?_
          refine XS.aload X319.here hx rfl (hb hby at_210) rfl rfl ?_
          refine XS.iconst X319.here hx rfl (hb hby at_212) ?_
          exact k
        have cq324 := f309
        obtain ⟨clq324, Arq324, qq324, Sq324, Nq324, Hq324, Gq324⟩ := cq324
        have hinq324 := inb_of (j := (1 : Int32)) Sq324 ⟨by decide, by decide⟩
        refine OwnGo.of (X319.caload hx (j := (1 : Int32)) (v := (.int k1)) (by rw [eq319]; exact Arq324.1) (State.isArrayOf_alike hZ.alike Arq324.2.1) Arq324.2.2 hinq324 (Hq324.at hinq324 rfl) (g := (mkF m 213 #[l0, l1, l2, l3, l4, .val (.int (2 : Int32)), .val (.ref bK), .val (.ref b253), .val (.ref b290), .unset, .unset, .unset] [(.int (1 : Int32)), (.ref bK)])) rfl rfl (hb hby at_213)) ?_
        show OwnGo p.tables e below _ (T319.setTop (mkF m 214 #[l0, l1, l2, l3, l4, .val (.int (2 : Int32)), .val (.ref bK), .val (.ref b253), .val (.ref b290), .unset, .unset, .unset] [(.int k1)]))
        obtain ⟨T325, L325, v325, X325, hQ325, st325⟩ := own_callS X319 hx (y := (⟨"dev/boundaryline/model/HeaderValueTrimPinLaw", "ws", "(C)Z"⟩ : MethodName)) hown (mvT hZ (w73 hw)) (mvT hZ (w74 hw)) (mvT hZ (w4 hw)) (mvT hZ (w75 hw)) (by decide) (backOf (W := 0) (rm16 l Z aw hw [] k1  T303.heap n0 f305 ) hZ (w75 hw) (w4 hw) (by decide) (by decide)) (g := (mkF m 214 #[l0, l1, l2, l3, l4, .val (.int (2 : Int32)), .val (.ref bK), .val (.ref b253), .val (.ref b290), .unset, .unset, .unset] [(.int k1)])) rfl (by rw [hml]; rfl) (argsL := [(.int k1)]) (rest := []) (lenOf pd_22 rfl) rfl (by show 2 * 0 + _ ≤ _; exact Nat.le_of_eq rfl) (hb hby at_214) rfl eq319 (by decide) (by decide)
        obtain ⟨rfl, N325q, eq325⟩ := hQ325
        have N325 := Fr.app N319 N325q
        refine OwnGo.of st325 ?_
        show OwnGo p.tables e below _ (T325.setTop (mkF m 217 #[l0, l1, l2, l3, l4, .val (.int (2 : Int32)), .val (.ref bK), .val (.ref b253), .val (.ref b290), .unset, .unset, .unset] [(.int (own_w2 k1))]))
        by_cases hc326 : (own_w2 k1) = (0 : Int32)
        · have ew327 : own_wb k1 = false := own_wF hc326
          refine OwnGo.of (A := T325.setTop (mkF m 217 #[l0, l1, l2, l3, l4, .val (.int (2 : Int32)), .val (.ref bK), .val (.ref b253), .val (.ref b290), .unset, .unset, .unset] [(.int (own_w2 k1))])) (B := T325.setTop (mkF m 274 #[l0, l1, l2, l3, l4, .val (.int (2 : Int32)), .val (.ref bK), .val (.ref b253), .val (.ref b290), .val (.int (1 : Int32)), .unset, .unset] [])) (fun t k => ?_) ?_
          · show Steps p.tables e below (T325.setTop (mkF m 217 #[l0, l1, l2, l3, l4, .val (.int (2 : Int32)), .val (.ref bK), .val (.ref b253), .val (.ref b290), .unset, .unset, .unset] [(.int (own_w2 k1))])) t
            refine XS.ifNo X325.here hx rfl (hb hby at_217) rfl ((if0 _ _).trans (teq hc326).2) ?_
            refine XS.iconst X325.here hx rfl (hb hby at_220) ?_
            refine XS.istore X325.here hx rfl (hb hby at_221) rfl (l' := #[l0, l1, l2, l3, l4, .val (.int (2 : Int32)), .val (.ref bK), .val (.ref b253), .val (.ref b290), .val (.int (1 : Int32)), .unset, .unset]) rfl ?_
            refine XS.goto X325.here hx rfl (pc0 := 223) (pc' := 274) rfl (hb hby at_223) (by decide) (by decide) ?_
            exact k
          exact J274_2 (l0) (l1) (l2) (l3) (l4) T325 _ _ (.val (.ref b253)) bK kb b290 k0 k1 k2 k3 (1 : Int32) X325 eq325 N325 f305 f306 f307 f308 f309 hk0 hk1 hk2 hk3 ⟨_, _, y303E, y303V, y303C, f316, hp_b290, (Nat.le_of_ble_eq_true rfl)⟩ (Or.inr (Or.inl ⟨rfl, ew322, ew327⟩))
        · have ew328 : own_wb k1 = true := own_wT hc326
          refine OwnGo.of (A := T325.setTop (mkF m 217 #[l0, l1, l2, l3, l4, .val (.int (2 : Int32)), .val (.ref bK), .val (.ref b253), .val (.ref b290), .unset, .unset, .unset] [(.int (own_w2 k1))])) (B := T325.setTop (mkF m 229 #[l0, l1, l2, l3, l4, .val (.int (2 : Int32)), .val (.ref bK), .val (.ref b253), .val (.ref b290), .unset, .unset, .unset] [(.int (2 : Int32)), (.int (2 : Int32))])) (fun t k => ?_) ?_
          · show Steps p.tables e below (T325.setTop (mkF m 217 #[l0, l1, l2, l3, l4, .val (.int (2 : Int32)), .val (.ref bK), .val (.ref b253), .val (.ref b290), .unset, .unset, .unset] [(.int (own_w2 k1))])) t
            refine XS.ifYes X325.here hx rfl (pc0 := 217) (pc' := 226) rfl (hb hby at_217) rfl ((if0 _ _).trans (feq hc326).2) (by decide) (by decide) ?_
            refine XS.iload X325.here hx rfl (hb hby at_226) rfl ?_
            refine XS.iconst X325.here hx rfl (hb hby at_228) ?_
            exact k
          have hc329 : ¬ ((2 : Int32) < (2 : Int32)) := by decide
          refine OwnGo.of (A := T325.setTop (mkF m 229 #[l0, l1, l2, l3, l4, .val (.int (2 : Int32)), .val (.ref bK), .val (.ref b253), .val (.ref b290), .unset, .unset, .unset] [(.int (2 : Int32)), (.int (2 : Int32))])) (B := T325.setTop (mkF m 251 #[l0, l1, l2, l3, l4, .val (.int (2 : Int32)), .val (.ref bK), .val (.ref b253), .val (.ref b290), .unset, .unset, .unset] [(.int (3 : Int32)), (.int (2 : Int32))])) (fun t k => ?_) ?_
          · show Steps p.tables e below (T325.setTop (mkF m 229 #[l0, l1, l2, l3, l4, .val (.int (2 : Int32)), .val (.ref bK), .val (.ref b253), .val (.ref b290), .unset, .unset, .unset] [(.int (2 : Int32)), (.int (2 : Int32))])) t
            refine XS.icmpYes X325.here hx rfl (pc0 := 229) (pc' := 248) rfl (hb hby at_229) rfl (flt hc329).2.2.2 (by decide) (by decide) ?_
            refine XS.iload X325.here hx rfl (hb hby at_248) rfl ?_
            refine XS.iconst X325.here hx rfl (hb hby at_250) ?_
            exact k
          have hc330 : ¬ ((3 : Int32) < (2 : Int32)) := by decide
          refine OwnGo.of (A := T325.setTop (mkF m 251 #[l0, l1, l2, l3, l4, .val (.int (2 : Int32)), .val (.ref bK), .val (.ref b253), .val (.ref b290), .unset, .unset, .unset] [(.int (3 : Int32)), (.int (2 : Int32))])) (B := T325.setTop (mkF m 274 #[l0, l1, l2, l3, l4, .val (.int (2 : Int32)), .val (.ref bK), .val (.ref b253), .val (.ref b290), .val (.int (2 : Int32)), .unset, .unset] [])) (fun t k => ?_) ?_
          · show Steps p.tables e below (T325.setTop (mkF m 251 #[l0, l1, l2, l3, l4, .val (.int (2 : Int32)), .val (.ref bK), .val (.ref b253), .val (.ref b290), .unset, .unset, .unset] [(.int (3 : Int32)), (.int (2 : Int32))])) t
            refine XS.icmpYes X325.here hx rfl (pc0 := 251) (pc' := 270) rfl (hb hby at_251) rfl (flt hc330).2.2.2 (by decide) (by decide) ?_
            refine XS.iload X325.here hx rfl (hb hby at_270) rfl ?_
            refine XS.istore X325.here hx rfl (hb hby at_272) rfl (l' := #[l0, l1, l2, l3, l4, .val (.int (2 : Int32)), .val (.ref bK), .val (.ref b253), .val (.ref b290), .val (.int (2 : Int32)), .unset, .unset]) rfl ?_
            exact k
          exact J274_2 (l0) (l1) (l2) (l3) (l4) T325 _ _ (.val (.ref b253)) bK kb b290 k0 k1 k2 k3 (2 : Int32) X325 eq325 N325 f305 f306 f307 f308 f309 hk0 hk1 hk2 hk3 ⟨_, _, y303E, y303V, y303C, f316, hp_b290, (Nat.le_of_ble_eq_true rfl)⟩ (Or.inr (Or.inr (⟨rfl, ew322, ew328, trivial⟩)))
    · show OwnGo p.tables e below _ (Tj.setTop (mkF m 42 #[l0, l1, l2, l3, l4, .val (.int (3 : Int32)), .val (.ref bK), .unset, .unset, .unset, .unset, .unset] []))
      refine OwnGo.of (A := Tj.setTop (mkF m 42 #[l0, l1, l2, l3, l4, .val (.int (3 : Int32)), .val (.ref bK), .unset, .unset, .unset, .unset, .unset] [])) (B := Tj.setTop (mkF m 44 #[l0, l1, l2, l3, l4, .val (.int (3 : Int32)), .val (.ref bK), .unset, .unset, .unset, .unset, .unset] [(.int (3 : Int32))])) (fun t k => ?_) ?_
      · show Steps p.tables e below (Tj.setTop (mkF m 42 #[l0, l1, l2, l3, l4, .val (.int (3 : Int32)), .val (.ref bK), .unset, .unset, .unset, .unset, .unset] [])) t
        refine XS.iload Xj.here hx rfl (hb hby at_42) rfl ?_
        exact k
      have hc331 : ¬ ((3 : Int32) = (0 : Int32)) := by decide
      refine OwnGo.of (A := Tj.setTop (mkF m 44 #[l0, l1, l2, l3, l4, .val (.int (3 : Int32)), .val (.ref bK), .unset, .unset, .unset, .unset, .unset] [(.int (3 : Int32))])) (B := Tj.setTop (mkF m 58 #[l0, l1, l2, l3, l4, .val (.int (3 : Int32)), .val (.ref bK), .unset, .unset, .unset, .unset, .unset] [(.int (1 : Int32)), (.int (3 : Int32))])) (fun t k => ?_) ?_
      · show Steps p.tables e below (Tj.setTop (mkF m 44 #[l0, l1, l2, l3, l4, .val (.int (3 : Int32)), .val (.ref bK), .unset, .unset, .unset, .unset, .unset] [(.int (3 : Int32))])) t
        refine XS.ifYes Xj.here hx rfl (pc0 := 44) (pc' := 55) rfl (hb hby at_44) rfl ((if0 _ _).trans (feq hc331).2) (by decide) (by decide) ?_
        refine XS.iload Xj.here hx rfl (hb hby at_55) rfl ?_
        refine XS.iconst Xj.here hx rfl (hb hby at_57) ?_
        exact k
      have hc332 : ¬ ((3 : Int32) = (1 : Int32)) := by decide
      refine OwnGo.of (A := Tj.setTop (mkF m 58 #[l0, l1, l2, l3, l4, .val (.int (3 : Int32)), .val (.ref bK), .unset, .unset, .unset, .unset, .unset] [(.int (1 : Int32)), (.int (3 : Int32))])) (B := Tj.setTop (mkF m 79 #[l0, l1, l2, l3, l4, .val (.int (3 : Int32)), .val (.ref bK), .unset, .unset, .unset, .unset, .unset] [(.int (2 : Int32)), (.int (3 : Int32))])) (fun t k => ?_) ?_
      · show Steps p.tables e below (Tj.setTop (mkF m 58 #[l0, l1, l2, l3, l4, .val (.int (3 : Int32)), .val (.ref bK), .unset, .unset, .unset, .unset, .unset] [(.int (1 : Int32)), (.int (3 : Int32))])) t
        refine XS.icmpYes Xj.here hx rfl (pc0 := 58) (pc' := 76) rfl (hb hby at_58) rfl (feq hc332).2 (by decide) (by decide) ?_
        refine XS.iload Xj.here hx rfl (hb hby at_76) rfl ?_
        refine XS.iconst Xj.here hx rfl (hb hby at_78) ?_
        exact k
      have hc333 : ¬ ((3 : Int32) = (2 : Int32)) := by decide
      refine OwnGo.of (A := Tj.setTop (mkF m 79 #[l0, l1, l2, l3, l4, .val (.int (3 : Int32)), .val (.ref bK), .unset, .unset, .unset, .unset, .unset] [(.int (2 : Int32)), (.int (3 : Int32))])) (B := Tj.setTop (mkF m 107 #[l0, l1, l2, l3, l4, .val (.int (3 : Int32)), .val (.ref bK), .unset, .unset, .unset, .unset, .unset] [(.int (3 : Int32)), (.int (3 : Int32))])) (fun t k => ?_) ?_
      · show Steps p.tables e below (Tj.setTop (mkF m 79 #[l0, l1, l2, l3, l4, .val (.int (3 : Int32)), .val (.ref bK), .unset, .unset, .unset, .unset, .unset] [(.int (2 : Int32)), (.int (3 : Int32))])) t
        refine XS.icmpYes Xj.here hx rfl (pc0 := 79) (pc' := 104) rfl (hb hby at_79) rfl (feq hc333).2 (by decide) (by decide) ?_
        refine XS.iload Xj.here hx rfl (hb hby at_104) rfl ?_
        refine XS.iconst Xj.here hx rfl (hb hby at_106) ?_
        exact k
      have hc334 : (3 : Int32) = (3 : Int32) := by decide
      refine OwnGo.of (A := Tj.setTop (mkF m 107 #[l0, l1, l2, l3, l4, .val (.int (3 : Int32)), .val (.ref bK), .unset, .unset, .unset, .unset, .unset] [(.int (3 : Int32)), (.int (3 : Int32))])) (B := Tj.setTop (mkF m 111 #[l0, l1, l2, l3, l4, .val (.int (3 : Int32)), .val (.ref bK), .unset, .unset, .unset, .unset, .unset] [(.int (3 : Int32))])) (fun t k => ?_) ?_
      · show Steps p.tables e below (Tj.setTop (mkF m 107 #[l0, l1, l2, l3, l4, .val (.int (3 : Int32)), .val (.ref bK), .unset, .unset, .unset, .unset, .unset] [(.int (3 : Int32)), (.int (3 : Int32))])) t
        refine XS.icmpNo Xj.here hx rfl (hb hby at_107) rfl (teq hc334).2 ?_
        refine XS.iconst Xj.here hx rfl (hb hby at_110) ?_
        exact k
      obtain ⟨T335, h335, kq335, X335, e335, E335, A335, st335⟩ := newP (aty := .char) Xj hx hZ (w1 hw) ej (g := (mkF m 111 #[l0, l1, l2, l3, l4, .val (.int (3 : Int32)), .val (.ref bK), .unset, .unset, .unset, .unset, .unset] [(.int (3 : Int32))])) rfl (hb hby at_111) rfl (by decide) (cap := 3) (by decide) (by decide) (by decide) (by decide)
      obtain ⟨b335, g335⟩ : ∃ z, z = hj.size := ⟨_, rfl⟩
      rw [← g335] at A335 st335
      refine OwnGo.of st335 ?_
      have ne_bK_b335 : bK ≠ b335 := Nat.ne_of_lt (Nat.lt_of_lt_of_le Vj.lt (Nat.le_of_eq g335.symm))
      have gn_b335 : Safe Z consts_1 s.vm h335 b335 := Safe.ext E335 Cj.1 (Safe.new (Nat.le_of_eq g335.symm))
      have g_b335 : n0 ≤ b335 := Nat.le_trans Zj (Nat.le_of_eq g335.symm)
      have sz_b335 : h0.size ≤ b335 := Nat.le_trans Kj.1 (Nat.le_of_eq g335.symm)
      have cs336 := CHr.ext E335 Cj.1
      have f337 := Nat.le_trans Zj E335.1
      have f338 := Kj.ext E335
      have f339 := Bj.ext E335
      have f340 := Cj.trans cs336
      have f341 := Vj.ext E335
      have f342 := f118.ext E335
      have f343 := f119.ext E335
      have f344 : Arv Z h335 b335 kq335 .char (3 : Int32) [(.int (0 : Int32)), (.int (0 : Int32)), (.int (0 : Int32))] (.int (0 : Int32)) := (Arv.new A335 (by decide)).pad (pad_rep [] (.int (0 : Int32)) 3)
      show OwnGo p.tables e below _ (T335.setTop (mkF m 113 #[l0, l1, l2, l3, l4, .val (.int (3 : Int32)), .val (.ref bK), .unset, .unset, .unset, .unset, .unset] [(.ref b335)]))
      refine OwnGo.of (A := T335.setTop (mkF m 113 #[l0, l1, l2, l3, l4, .val (.int (3 : Int32)), .val (.ref bK), .unset, .unset, .unset, .unset, .unset] [(.ref b335)])) (B := T335.setTop (mkF m 118 #[l0, l1, l2, l3, l4, .val (.int (3 : Int32)), .val (.ref bK), .unset, .unset, .unset, .unset, .unset] [(.int (0 : Int32)), (.ref bK), (.int (0 : Int32)), (.ref b335), (.ref b335)])) (fun t k => ?_) ?_
      · show Steps p.tables e below (T335.setTop (mkF m 113 #[l0, l1, l2, l3, l4, .val (.int (3 : Int32)), .val (.ref bK), .unset, .unset, .unset, .unset, .unset] [(.ref b335)])) t
        refine XS.dup X335.here hx rfl (hb hby at_113) rfl rfl ?_
        refine XS.iconst X335.here hx rfl (hb hby at_114) ?_
        refine XS.aload X335.here hx rfl (hb hby at_115) rfl rfl ?_
        refine XS.iconst X335.here hx rfl (hb hby at_117) ?_
        exact k
      have cq345 := f341
      obtain ⟨clq345, Arq345, qq345, Sq345, Nq345, Hq345, Gq345⟩ := cq345
      have hinq345 := inb_of (j := (0 : Int32)) Sq345 ⟨by decide, by decide⟩
      refine OwnGo.of (X335.caload hx (j := (0 : Int32)) (v := (.int k0)) (by rw [e335]; exact Arq345.1) (State.isArrayOf_alike hZ.alike Arq345.2.1) Arq345.2.2 hinq345 (Hq345.at hinq345 rfl) (g := (mkF m 118 #[l0, l1, l2, l3, l4, .val (.int (3 : Int32)), .val (.ref bK), .unset, .unset, .unset, .unset, .unset] [(.int (0 : Int32)), (.ref bK), (.int (0 : Int32)), (.ref b335), (.ref b335)])) rfl rfl (hb hby at_118)) ?_
      show OwnGo p.tables e below _ (T335.setTop (mkF m 119 #[l0, l1, l2, l3, l4, .val (.int (3 : Int32)), .val (.ref bK), .unset, .unset, .unset, .unset, .unset] [(.int k0), (.int (0 : Int32)), (.ref b335), (.ref b335)]))
      have cq346 := f344
      obtain ⟨clq346, Arq346, qq346, Sq346, Nq346, Hq346, Gq346⟩ := cq346
      obtain ⟨T347, h347, X347, e347, W347, st347⟩ := stC X335 hx hZ e335 Arq346 (j := (0 : Int32)) (inb_of Sq346 ⟨by decide, by decide⟩) (g := (mkF m 119 #[l0, l1, l2, l3, l4, .val (.int (3 : Int32)), .val (.ref bK), .unset, .unset, .unset, .unset, .unset] [(.int k0), (.int (0 : Int32)), (.ref b335), (.ref b335)])) rfl rfl (hb hby at_119)
      refine OwnGo.of st347 ?_
      have N347 := Fr.snoc X347 Nj g_b335
      have cs348 := CHr.wr W347 gn_b335 f340.1
      have f349 := Nat.le_trans f337 (Keep.of_wr W347).1
      have f350 := f338.wr W347 (Or.inr sz_b335)
      have f351 := f339.wr W347
      have f352 := f340.trans cs348
      have f353 := f341.other W347 ne_bK_b335
      have f354 := f342.wr W347
      have f355 := f343.wr W347
      have f356 := cs348.safe f344.lt gn_b335
      have f357 : Arv Z h347 b335 kq335 .char (3 : Int32) [(.int (k0).toUInt32.toUInt16.toUInt32.toInt32), (.int (0 : Int32)), (.int (0 : Int32))] (.int (0 : Int32)) := Arv.set Arq346 qq346 Sq346 Nq346 Hq346 Gq346 (fits_nar_char _) W347 0 rfl (Nat.le_of_ble_eq_true rfl)
      show OwnGo p.tables e below _ (T347.setTop (mkF m 120 #[l0, l1, l2, l3, l4, .val (.int (3 : Int32)), .val (.ref bK), .unset, .unset, .unset, .unset, .unset] [(.ref b335)]))
      refine OwnGo.of (A := T347.setTop (mkF m 120 #[l0, l1, l2, l3, l4, .val (.int (3 : Int32)), .val (.ref bK), .unset, .unset, .unset, .unset, .unset] [(.ref b335)])) (B := T347.setTop (mkF m 125 #[l0, l1, l2, l3, l4, .val (.int (3 : Int32)), .val (.ref bK), .unset, .unset, .unset, .unset, .unset] [(.int (1 : Int32)), (.ref bK), (.int (1 : Int32)), (.ref b335), (.ref b335)])) (fun t k => ?_) ?_
      · show Steps p.tables e below (T347.setTop (mkF m 120 #[l0, l1, l2, l3, l4, .val (.int (3 : Int32)), .val (.ref bK), .unset, .unset, .unset, .unset, .unset] [(.ref b335)])) t
        refine XS.dup X347.here hx rfl (hb hby at_120) rfl rfl ?_
        refine XS.iconst X347.here hx rfl (hb hby at_121) ?_
        refine XS.aload X347.here hx rfl (hb hby at_122) rfl rfl ?_
        refine XS.iconst X347.here hx rfl (hb hby at_124) ?_
        exact k
      have cq358 := f353
      obtain ⟨clq358, Arq358, qq358, Sq358, Nq358, Hq358, Gq358⟩ := cq358
      have hinq358 := inb_of (j := (1 : Int32)) Sq358 ⟨by decide, by decide⟩
      refine OwnGo.of (X347.caload hx (j := (1 : Int32)) (v := (.int k1)) (by rw [e347]; exact Arq358.1) (State.isArrayOf_alike hZ.alike Arq358.2.1) Arq358.2.2 hinq358 (Hq358.at hinq358 rfl) (g := (mkF m 125 #[l0, l1, l2, l3, l4, .val (.int (3 : Int32)), .val (.ref bK), .unset, .unset, .unset, .unset, .unset] [(.int (1 : Int32)), (.ref bK), (.int (1 : Int32)), (.ref b335), (.ref b335)])) rfl rfl (hb hby at_125)) ?_
      show OwnGo p.tables e below _ (T347.setTop (mkF m 126 #[l0, l1, l2, l3, l4, .val (.int (3 : Int32)), .val (.ref bK), .unset, .unset, .unset, .unset, .unset] [(.int k1), (.int (1 : Int32)), (.ref b335), (.ref b335)]))
      have cq359 := f357
      obtain ⟨clq359, Arq359, qq359, Sq359, Nq359, Hq359, Gq359⟩ := cq359
      obtain ⟨T360, h360, X360, e360, W360, st360⟩ := stC X347 hx hZ e347 Arq359 (j := (1 : Int32)) (inb_of Sq359 ⟨by decide, by decide⟩) (g := (mkF m 126 #[l0, l1, l2, l3, l4, .val (.int (3 : Int32)), .val (.ref bK), .unset, .unset, .unset, .unset, .unset] [(.int k1), (.int (1 : Int32)), (.ref b335), (.ref b335)])) rfl rfl (hb hby at_126)
      refine OwnGo.of st360 ?_
      have N360 := Fr.snoc X360 N347 g_b335
      have cs361 := CHr.wr W360 f356 f352.1
      have f362 := Nat.le_trans f349 (Keep.of_wr W360).1
      have f363 := f350.wr W360 (Or.inr sz_b335)
      have f364 := f351.wr W360
      have f365 := f352.trans cs361
      have f366 := f353.other W360 ne_bK_b335
      have f367 := f354.wr W360
      have f368 := f355.wr W360
      have f369 := cs361.safe f357.lt f356
      have f370 : Arv Z h360 b335 kq335 .char (3 : Int32) [(.int (k0).toUInt32.toUInt16.toUInt32.toInt32), (.int (k1).toUInt32.toUInt16.toUInt32.toInt32), (.int (0 : Int32))] (.int (0 : Int32)) := Arv.set Arq359 qq359 Sq359 Nq359 Hq359 Gq359 (fits_nar_char _) W360 1 rfl (Nat.le_of_ble_eq_true rfl)
      show OwnGo p.tables e below _ (T360.setTop (mkF m 127 #[l0, l1, l2, l3, l4, .val (.int (3 : Int32)), .val (.ref bK), .unset, .unset, .unset, .unset, .unset] [(.ref b335)]))
      refine OwnGo.of (A := T360.setTop (mkF m 127 #[l0, l1, l2, l3, l4, .val (.int (3 : Int32)), .val (.ref bK), .unset, .unset, .unset, .unset, .unset] [(.ref b335)])) (B := T360.setTop (mkF m 132 #[l0, l1, l2, l3, l4, .val (.int (3 : Int32)), .val (.ref bK), .unset, .unset, .unset, .unset, .unset] [(.int (2 : Int32)), (.ref bK), (.int (2 : Int32)), (.ref b335), (.ref b335)])) (fun t k => ?_) ?_
      · show Steps p.tables e below (T360.setTop (mkF m 127 #[l0, l1, l2, l3, l4, .val (.int (3 : Int32)), .val (.ref bK), .unset, .unset, .unset, .unset, .unset] [(.ref b335)])) t
        refine XS.dup X360.here hx rfl (hb hby at_127) rfl rfl ?_
        refine XS.iconst X360.here hx rfl (hb hby at_128) ?_
        refine XS.aload X360.here hx rfl (hb hby at_129) rfl rfl ?_
        refine XS.iconst X360.here hx rfl (hb hby at_131) ?_
        exact k
      have cq371 := f366
      obtain ⟨clq371, Arq371, qq371, Sq371, Nq371, Hq371, Gq371⟩ := cq371
      have hinq371 := inb_of (j := (2 : Int32)) Sq371 ⟨by decide, by decide⟩
      refine OwnGo.of (X360.caload hx (j := (2 : Int32)) (v := (.int k2)) (by rw [e360]; exact Arq371.1) (State.isArrayOf_alike hZ.alike Arq371.2.1) Arq371.2.2 hinq371 (Hq371.at hinq371 rfl) (g := (mkF m 132 #[l0, l1, l2, l3, l4, .val (.int (3 : Int32)), .val (.ref bK), .unset, .unset, .unset, .unset, .unset] [(.int (2 : Int32)), (.ref bK), (.int (2 : Int32)), (.ref b335), (.ref b335)])) rfl rfl (hb hby at_132)) ?_
      show OwnGo p.tables e below _ (T360.setTop (mkF m 133 #[l0, l1, l2, l3, l4, .val (.int (3 : Int32)), .val (.ref bK), .unset, .unset, .unset, .unset, .unset] [(.int k2), (.int (2 : Int32)), (.ref b335), (.ref b335)]))
      have cq372 := f370
      obtain ⟨clq372, Arq372, qq372, Sq372, Nq372, Hq372, Gq372⟩ := cq372
      obtain ⟨T373, h373, X373, e373, W373, st373⟩ := stC X360 hx hZ e360 Arq372 (j := (2 : Int32)) (inb_of Sq372 ⟨by decide, by decide⟩) (g := (mkF m 133 #[l0, l1, l2, l3, l4, .val (.int (3 : Int32)), .val (.ref bK), .unset, .unset, .unset, .unset, .unset] [(.int k2), (.int (2 : Int32)), (.ref b335), (.ref b335)])) rfl rfl (hb hby at_133)
      refine OwnGo.of st373 ?_
      have N373 := Fr.snoc X373 N360 g_b335
      have cs374 := CHr.wr W373 f369 f365.1
      have f375 := Nat.le_trans f362 (Keep.of_wr W373).1
      have f376 := f363.wr W373 (Or.inr sz_b335)
      have f377 := f364.wr W373
      have f378 := f365.trans cs374
      have f379 := f366.other W373 ne_bK_b335
      have f380 := f367.wr W373
      have f381 := f368.wr W373
      have f382 := cs374.safe f370.lt f369
      have f383 : Arv Z h373 b335 kq335 .char (3 : Int32) [(.int (k0).toUInt32.toUInt16.toUInt32.toInt32), (.int (k1).toUInt32.toUInt16.toUInt32.toInt32), (.int (k2).toUInt32.toUInt16.toUInt32.toInt32)] (.int (0 : Int32)) := Arv.set Arq372 qq372 Sq372 Nq372 Hq372 Gq372 (fits_nar_char _) W373 2 rfl (Nat.le_of_ble_eq_true rfl)
      show OwnGo p.tables e below _ (T373.setTop (mkF m 134 #[l0, l1, l2, l3, l4, .val (.int (3 : Int32)), .val (.ref bK), .unset, .unset, .unset, .unset, .unset] [(.ref b335)]))
      refine OwnGo.of (A := T373.setTop (mkF m 134 #[l0, l1, l2, l3, l4, .val (.int (3 : Int32)), .val (.ref bK), .unset, .unset, .unset, .unset, .unset] [(.ref b335)])) (B := T373.setTop (mkF m 172 #[l0, l1, l2, l3, l4, .val (.int (3 : Int32)), .val (.ref bK), .val (.ref b335), .unset, .unset, .unset, .unset] [])) (fun t k => ?_) ?_
      · show Steps p.tables e below (T373.setTop (mkF m 134 #[l0, l1, l2, l3, l4, .val (.int (3 : Int32)), .val (.ref bK), .unset, .unset, .unset, .unset, .unset] [(.ref b335)])) t
        refine XS.astore X373.here hx rfl (hb hby at_134) rfl rfl (l' := #[l0, l1, l2, l3, l4, .val (.int (3 : Int32)), .val (.ref bK), .val (.ref b335), .unset, .unset, .unset, .unset]) rfl ?_
        refine XS.goto X373.here hx rfl (pc0 := 136) (pc' := 172) rfl (hb hby at_136) (by decide) (by decide) ?_
        exact k
      have f384 := f383
      rw [own_chE hk0, own_chE hk1, own_chE hk2] at f384
      obtain ⟨T385, h385, X385, e385, E385, A385, D385, -, st385⟩ := newO X373 hx hZ hown (w6 hw) (w7 hw) (w8 hw) e373 (g := (mkF m 172 #[l0, l1, l2, l3, l4, .val (.int (3 : Int32)), .val (.ref bK), .val (.ref b335), .unset, .unset, .unset, .unset] [])) rfl (hb hby at_172) (by decide) (by decide)
      obtain ⟨b385, g385⟩ : ∃ z, z = h373.size := ⟨_, rfl⟩
      rw [← g385] at A385 D385 st385
      refine OwnGo.of st385 ?_
      have ne_bK_b385 : bK ≠ b385 := Nat.ne_of_lt (Nat.lt_of_lt_of_le f379.lt (Nat.le_of_eq g385.symm))
      have ne_b335_b385 : b335 ≠ b385 := Nat.ne_of_lt (Nat.lt_of_lt_of_le f384.lt (Nat.le_of_eq g385.symm))
      have gn_b385 : Safe Z consts_1 s.vm h385 b385 := Safe.ext E385 f378.1 (Safe.new (Nat.le_of_eq g385.symm))
      have g_b385 : n0 ≤ b385 := Nat.le_trans f375 (Nat.le_of_eq g385.symm)
      have sz_b385 : h0.size ≤ b385 := Nat.le_trans f376.1 (Nat.le_of_eq g385.symm)
      have cs386 := CHr.ext E385 f378.1
      have f387 := Nat.le_trans f375 E385.1
      have f388 := f376.ext E385
      have f389 := f377.ext E385
      have f390 := f378.trans cs386
      have f391 := f379.ext E385
      have f392 := f380.ext E385
      have f393 := f381.ext E385
      have f394 := cs386.safe f384.lt f382
      have f395 := f384.ext E385
      have f396 : Fld Z h385 b385 "java/lang/String" "value" "[B" .null := D385 (Or.inr (w21 hw)) (ty := (.array .byte)) (by decide)
      have f397 : Fld Z h385 b385 "java/lang/String" "coder" "B" (.int (0 : Int32)) := D385 (Or.inr (w22 hw)) (ty := .byte) (by decide)
      show OwnGo p.tables e below _ (T385.setTop (mkF m 175 #[l0, l1, l2, l3, l4, .val (.int (3 : Int32)), .val (.ref bK), .val (.ref b335), .unset, .unset, .unset, .unset] [(.ref b385)]))
      refine OwnGo.of (A := T385.setTop (mkF m 175 #[l0, l1, l2, l3, l4, .val (.int (3 : Int32)), .val (.ref bK), .val (.ref b335), .unset, .unset, .unset, .unset] [(.ref b385)])) (B := T385.setTop (mkF m 178 #[l0, l1, l2, l3, l4, .val (.int (3 : Int32)), .val (.ref bK), .val (.ref b335), .unset, .unset, .unset, .unset] [(.ref b335), (.ref b385), (.ref b385)])) (fun t k => ?_) ?_
      · show Steps p.tables e below (T385.setTop (mkF m 175 #[l0, l1, l2, l3, l4, .val (.int (3 : Int32)), .val (.ref bK), .val (.ref b335), .unset, .unset, .unset, .unset] [(.ref b385)])) t
        refine XS.dup X385.here hx rfl (hb hby at_175) rfl rfl ?_
        refine XS.aload X385.here hx rfl (hb hby at_176) rfl rfl ?_
        exact k
      have hp_b385 : ∀ c ∈ ([k0, k1, k2] : List Int32), OwnCh c := (own_hS hk0 (own_hS hk1 (own_hS hk2 own_h0)))
      obtain ⟨T398, L398, v398, X398, hQ398, st398⟩ := own_callI X385 hx (y := (⟨"java/lang/String", "<init>", "([C)V"⟩ : MethodName)) rfl hown (mvT hZ (w9 hw)) (mvT hZ (w10 hw)) (mvT hZ (w11 hw)) (by decide) (StrChars.Road.backV (W := 1) hZ (own_ws hw) (kI := 4) (w7 hw) (cs := ([k0, k1, k2] : List Int32)) (bs := (([k0, k1, k2] : List Int32)).map (fun c => c.toInt8.toInt32)) (n := 3) g_b385 f387 A385 f396 f397 f395 f392 hzc rfl rfl (by decide) (by decide) hp_b385 rfl (by decide) (by decide)) (g := (mkF m 178 #[l0, l1, l2, l3, l4, .val (.int (3 : Int32)), .val (.ref bK), .val (.ref b335), .unset, .unset, .unset, .unset] [(.ref b335), (.ref b385), (.ref b385)])) rfl (by rw [hml]; rfl) (a := b385) (argsL := [(.ref b335)]) (rest := [(.ref b385)]) (lenOf pd_118 rfl) rfl (by show 2 * 0 + _ ≤ _; exact Nat.le_of_eq rfl) (hb hby at_178) rfl e385 (by decide) (by decide)
      obtain ⟨rfl, N398q, K398, y398E, y398C, t398, kb398, -, -, -, y398V, y398A⟩ := hQ398
      have cs399 := CHr.keep K398 (allS gn_b385 all0) f390.1
      have f400 := Nat.le_trans f387 K398.1
      have f401 := f388.trans K398 (allS (Or.inr sz_b385) all0)
      have f402 := f389.keep K398
      have f403 := f390.trans cs399
      have f404 := f391.keep K398 (ninS ne_bK_b385 nin0)
      have f405 := own_sta_keep f392 K398 (allS (own_ns_exa A385) all0)
      have f406 := own_sta_keep f393 K398 (allS (own_ns_exa A385) all0)
      have f407 := cs399.safe f395.lt f394
      have f408 := f395.keep K398 (ninS ne_b335_b385 nin0)
      have f409 := cs399.safe A385.lt gn_b385
      have f410 := A385.keep K398
      have f411 : Arv Z T398.heap t398 kb398 .byte (3 : Int32) [(.int (StrChars.lo8 k0)), (.int (StrChars.lo8 k1)), (.int (StrChars.lo8 k2))] (.int (0 : Int32)) := y398A
      have N398 := Fr.app N373 N398q
      refine OwnGo.of st398 ?_
      show OwnGo p.tables e below _ (T398.setTop (mkF m 181 #[l0, l1, l2, l3, l4, .val (.int (3 : Int32)), .val (.ref bK), .val (.ref b335), .unset, .unset, .unset, .unset] [(.ref b385)]))
      refine OwnGo.of (A := T398.setTop (mkF m 181 #[l0, l1, l2, l3, l4, .val (.int (3 : Int32)), .val (.ref bK), .val (.ref b335), .unset, .unset, .unset, .unset] [(.ref b385)])) (B := T398.setTop (mkF m 185 #[l0, l1, l2, l3, l4, .val (.int (3 : Int32)), .val (.ref bK), .val (.ref b335), .val (.ref b385), .unset, .unset, .unset] [(.int (3 : Int32))])) (fun t k => ?_) ?_
      · show Steps p.tables e below (T398.setTop (mkF m 181 #[l0, l1, l2, l3, l4, .val (.int (3 : Int32)), .val (.ref bK), .val (.ref b335), .unset, .unset, .unset, .unset] [(.ref b385)])) t
        refine XS.astore X398.here hx rfl (hb hby at_181) rfl rfl (l' := #[l0, l1, l2, l3, l4, .val (.int (3 : Int32)), .val (.ref bK), .val (.ref b335), .val (.ref b385), .unset, .unset, .unset]) rfl ?_
        refine XS.iload X398.here hx rfl (hb hby at_183) rfl ?_
        exact k
      have hc412 : (0 : Int32) < (3 : Int32) := by decide
      refine OwnGo.of (A := T398.setTop (mkF m 185 #[l0, l1, l2, l3, l4, .val (.int (3 : Int32)), .val (.ref bK), .val (.ref b335), .val (.ref b385), .unset, .unset, .unset] [(.int (3 : Int32))])) (B := T398.setTop (mkF m 191 #[l0, l1, l2, l3, l4, .val (.int (3 : Int32)), .val (.ref bK), .val (.ref b335), .val (.ref b385), .unset, .unset, .unset] [(.int (0 : Int32)), (.ref bK)])) (fun t k => ?_) ?_
      · show Steps p.tables e below (T398.setTop (mkF m 185 #[l0, l1, l2, l3, l4, .val (.int (3 : Int32)), .val (.ref bK), .val (.ref b335), .val (.ref b385), .unset, .unset, .unset] [(.int (3 : Int32))])) t
        refine XS.ifNo X398.here hx rfl (hb hby at_185) rfl ((if0 _ _).trans (tlt hc412).2.2.2) ?_
        refine XS.aload X398.here hx rfl (hb hby at_188) rfl rfl ?_
        refine XS.iconst X398.here hx rfl (hb hby at_190) ?_
        exact k
      have cq413 := f404
      obtain ⟨clq413, Arq413, qq413, Sq413, Nq413, Hq413, Gq413⟩ := cq413
      have hinq413 := inb_of (j := (0 : Int32)) Sq413 ⟨by decide, by decide⟩
      refine OwnGo.of (X398.caload hx (j := (0 : Int32)) (v := (.int k0)) Arq413.1 (State.isArrayOf_alike hZ.alike Arq413.2.1) Arq413.2.2 hinq413 (Hq413.at hinq413 rfl) (g := (mkF m 191 #[l0, l1, l2, l3, l4, .val (.int (3 : Int32)), .val (.ref bK), .val (.ref b335), .val (.ref b385), .unset, .unset, .unset] [(.int (0 : Int32)), (.ref bK)])) rfl rfl (hb hby at_191)) ?_
      show OwnGo p.tables e below _ (T398.setTop (mkF m 192 #[l0, l1, l2, l3, l4, .val (.int (3 : Int32)), .val (.ref bK), .val (.ref b335), .val (.ref b385), .unset, .unset, .unset] [(.int k0)]))
      obtain ⟨T414, L414, v414, X414, hQ414, st414⟩ := own_callS X398 hx (y := (⟨"dev/boundaryline/model/HeaderValueTrimPinLaw", "ws", "(C)Z"⟩ : MethodName)) hown (mvT hZ (w73 hw)) (mvT hZ (w74 hw)) (mvT hZ (w4 hw)) (mvT hZ (w75 hw)) (by decide) (backOf (W := 0) (rm16 l Z aw hw [] k0  T398.heap n0 f400 ) hZ (w75 hw) (w4 hw) (by decide) (by decide)) (g := (mkF m 192 #[l0, l1, l2, l3, l4, .val (.int (3 : Int32)), .val (.ref bK), .val (.ref b335), .val (.ref b385), .unset, .unset, .unset] [(.int k0)])) rfl (by rw [hml]; rfl) (argsL := [(.int k0)]) (rest := []) (lenOf pd_22 rfl) rfl (by show 2 * 0 + _ ≤ _; exact Nat.le_of_eq rfl) (hb hby at_192) rfl rfl (by decide) (by decide)
      obtain ⟨rfl, N414q, eq414⟩ := hQ414
      have N414 := Fr.app N398 N414q
      refine OwnGo.of st414 ?_
      show OwnGo p.tables e below _ (T414.setTop (mkF m 195 #[l0, l1, l2, l3, l4, .val (.int (3 : Int32)), .val (.ref bK), .val (.ref b335), .val (.ref b385), .unset, .unset, .unset] [(.int (own_w2 k0))]))
      by_cases hc415 : (own_w2 k0) = (0 : Int32)
      · have ew416 : own_wb k0 = false := own_wF hc415
        refine OwnGo.of (A := T414.setTop (mkF m 195 #[l0, l1, l2, l3, l4, .val (.int (3 : Int32)), .val (.ref bK), .val (.ref b335), .val (.ref b385), .unset, .unset, .unset] [(.int (own_w2 k0))])) (B := T414.setTop (mkF m 274 #[l0, l1, l2, l3, l4, .val (.int (3 : Int32)), .val (.ref bK), .val (.ref b335), .val (.ref b385), .val (.int (0 : Int32)), .unset, .unset] [])) (fun t k => ?_) ?_
        · show Steps p.tables e below (T414.setTop (mkF m 195 #[l0, l1, l2, l3, l4, .val (.int (3 : Int32)), .val (.ref bK), .val (.ref b335), .val (.ref b385), .unset, .unset, .unset] [(.int (own_w2 k0))])) t
          refine XS.ifNo X414.here hx rfl (hb hby at_195) rfl ((if0 _ _).trans (teq hc415).2) ?_
          refine XS.iconst X414.here hx rfl (hb hby at_198) ?_
          refine XS.istore X414.here hx rfl (hb hby at_199) rfl (l' := #[l0, l1, l2, l3, l4, .val (.int (3 : Int32)), .val (.ref bK), .val (.ref b335), .val (.ref b385), .val (.int (0 : Int32)), .unset, .unset]) rfl ?_
          refine XS.goto X414.here hx rfl (pc0 := 201) (pc' := 274) rfl (hb hby at_201) (by decide) (by decide) ?_
          exact k
        exact J274_3 (l0) (l1) (l2) (l3) (l4) T414 _ _ (.val (.ref b335)) bK kb b385 k0 k1 k2 k3 (0 : Int32) X414 eq414 N414 f400 f401 f402 f403 f404 hk0 hk1 hk2 hk3 ⟨_, _, y398E, y398V, y398C, f411, hp_b385, (Nat.le_of_ble_eq_true rfl)⟩ (Or.inl ⟨rfl, ew416⟩)
      · have ew417 : own_wb k0 = true := own_wT hc415
        refine OwnGo.of (A := T414.setTop (mkF m 195 #[l0, l1, l2, l3, l4, .val (.int (3 : Int32)), .val (.ref bK), .val (.ref b335), .val (.ref b385), .unset, .unset, .unset] [(.int (own_w2 k0))])) (B := T414.setTop (mkF m 207 #[l0, l1, l2, l3, l4, .val (.int (3 : Int32)), .val (.ref bK), .val (.ref b335), .val (.ref b385), .unset, .unset, .unset] [(.int (1 : Int32)), (.int (3 : Int32))])) (fun t k => ?_) ?_
        · show Steps p.tables e below (T414.setTop (mkF m 195 #[l0, l1, l2, l3, l4, .val (.int (3 : Int32)), .val (.ref bK), .val (.ref b335), .val (.ref b385), .unset, .unset, .unset] [(.int (own_w2 k0))])) t
          refine XS.ifYes X414.here hx rfl (pc0 := 195) (pc' := 204) rfl (hb hby at_195) rfl ((if0 _ _).trans (feq hc415).2) (by decide) (by decide) ?_
          refine XS.iload X414.here hx rfl (hb hby at_204) rfl ?_
          refine XS.iconst X414.here hx rfl (hb hby at_206) ?_
          exact k
        have hc418 : (1 : Int32) < (3 : Int32) := by decide
        refine OwnGo.of (A := T414.setTop (mkF m 207 #[l0, l1, l2, l3, l4, .val (.int (3 : Int32)), .val (.ref bK), .val (.ref b335), .val (.ref b385), .unset, .unset, .unset] [(.int (1 : Int32)), (.int (3 : Int32))])) (B := T414.setTop (mkF m 213 #[l0, l1, l2, l3, l4, .val (.int (3 : Int32)), .val (.ref bK), .val (.ref b335), .val (.ref b385), .unset, .unset, .unset] [(.int (1 : Int32)), (.ref bK)])) (fun t k => ?_) ?_
        · show Steps p.tables e below (T414.setTop (mkF m 207 #[l0, l1, l2, l3, l4, .val (.int (3 : Int32)), .val (.ref bK), .val (.ref b335), .val (.ref b385), .unset, .unset, .unset] [(.int (1 : Int32)), (.int (3 : Int32))])) t
          refine XS.icmpNo X414.here hx rfl (hb hby at_207) rfl (tlt hc418).2.2.2 ?_
          refine XS.aload X414.here hx rfl (hb hby at_210) rfl rfl ?_
          refine XS.iconst X414.here hx rfl (hb hby at_212) ?_
          exact k
        have cq419 := f404
        obtain ⟨clq419, Arq419, qq419, Sq419, Nq419, Hq419, Gq419⟩ := cq419
        have hinq419 := inb_of (j := (1 : Int32)) Sq419 ⟨by decide, by decide⟩
        refine OwnGo.of (X414.caload hx (j := (1 : Int32)) (v := (.int k1)) (by rw [eq414]; exact Arq419.1) (State.isArrayOf_alike hZ.alike Arq419.2.1) Arq419.2.2 hinq419 (Hq419.at hinq419 rfl) (g := (mkF m 213 #[l0, l1, l2, l3, l4, .val (.int (3 : Int32)), .val (.ref bK), .val (.ref b335), .val (.ref b385), .unset, .unset, .unset] [(.int (1 : Int32)), (.ref bK)])) rfl rfl (hb hby at_213)) ?_
        show OwnGo p.tables e below _ (T414.setTop (mkF m 214 #[l0, l1, l2, l3, l4, .val (.int (3 : Int32)), .val (.ref bK), .val (.ref b335), .val (.ref b385), .unset, .unset, .unset] [(.int k1)]))
        obtain ⟨T420, L420, v420, X420, hQ420, st420⟩ := own_callS X414 hx (y := (⟨"dev/boundaryline/model/HeaderValueTrimPinLaw", "ws", "(C)Z"⟩ : MethodName)) hown (mvT hZ (w73 hw)) (mvT hZ (w74 hw)) (mvT hZ (w4 hw)) (mvT hZ (w75 hw)) (by decide) (backOf (W := 0) (rm16 l Z aw hw [] k1  T398.heap n0 f400 ) hZ (w75 hw) (w4 hw) (by decide) (by decide)) (g := (mkF m 214 #[l0, l1, l2, l3, l4, .val (.int (3 : Int32)), .val (.ref bK), .val (.ref b335), .val (.ref b385), .unset, .unset, .unset] [(.int k1)])) rfl (by rw [hml]; rfl) (argsL := [(.int k1)]) (rest := []) (lenOf pd_22 rfl) rfl (by show 2 * 0 + _ ≤ _; exact Nat.le_of_eq rfl) (hb hby at_214) rfl eq414 (by decide) (by decide)
        obtain ⟨rfl, N420q, eq420⟩ := hQ420
        have N420 := Fr.app N414 N420q
        refine OwnGo.of st420 ?_
        show OwnGo p.tables e below _ (T420.setTop (mkF m 217 #[l0, l1, l2, l3, l4, .val (.int (3 : Int32)), .val (.ref bK), .val (.ref b335), .val (.ref b385), .unset, .unset, .unset] [(.int (own_w2 k1))]))
        by_cases hc421 : (own_w2 k1) = (0 : Int32)
        · have ew422 : own_wb k1 = false := own_wF hc421
          refine OwnGo.of (A := T420.setTop (mkF m 217 #[l0, l1, l2, l3, l4, .val (.int (3 : Int32)), .val (.ref bK), .val (.ref b335), .val (.ref b385), .unset, .unset, .unset] [(.int (own_w2 k1))])) (B := T420.setTop (mkF m 274 #[l0, l1, l2, l3, l4, .val (.int (3 : Int32)), .val (.ref bK), .val (.ref b335), .val (.ref b385), .val (.int (1 : Int32)), .unset, .unset] [])) (fun t k => ?_) ?_
          · show Steps p.tables e below (T420.setTop (mkF m 217 #[l0, l1, l2, l3, l4, .val (.int (3 : Int32)), .val (.ref bK), .val (.ref b335), .val (.ref b385), .unset, .unset, .unset] [(.int (own_w2 k1))])) t
            refine XS.ifNo X420.here hx rfl (hb hby at_217) rfl ((if0 _ _).trans (teq hc421).2) ?_
            refine XS.iconst X420.here hx rfl (hb hby at_220) ?_
            refine XS.istore X420.here hx rfl (hb hby at_221) rfl (l' := #[l0, l1, l2, l3, l4, .val (.int (3 : Int32)), .val (.ref bK), .val (.ref b335), .val (.ref b385), .val (.int (1 : Int32)), .unset, .unset]) rfl ?_
            refine XS.goto X420.here hx rfl (pc0 := 223) (pc' := 274) rfl (hb hby at_223) (by decide) (by decide) ?_
            exact k
          exact J274_3 (l0) (l1) (l2) (l3) (l4) T420 _ _ (.val (.ref b335)) bK kb b385 k0 k1 k2 k3 (1 : Int32) X420 eq420 N420 f400 f401 f402 f403 f404 hk0 hk1 hk2 hk3 ⟨_, _, y398E, y398V, y398C, f411, hp_b385, (Nat.le_of_ble_eq_true rfl)⟩ (Or.inr (Or.inl ⟨rfl, ew417, ew422⟩))
        · have ew423 : own_wb k1 = true := own_wT hc421
          refine OwnGo.of (A := T420.setTop (mkF m 217 #[l0, l1, l2, l3, l4, .val (.int (3 : Int32)), .val (.ref bK), .val (.ref b335), .val (.ref b385), .unset, .unset, .unset] [(.int (own_w2 k1))])) (B := T420.setTop (mkF m 229 #[l0, l1, l2, l3, l4, .val (.int (3 : Int32)), .val (.ref bK), .val (.ref b335), .val (.ref b385), .unset, .unset, .unset] [(.int (2 : Int32)), (.int (3 : Int32))])) (fun t k => ?_) ?_
          · show Steps p.tables e below (T420.setTop (mkF m 217 #[l0, l1, l2, l3, l4, .val (.int (3 : Int32)), .val (.ref bK), .val (.ref b335), .val (.ref b385), .unset, .unset, .unset] [(.int (own_w2 k1))])) t
            refine XS.ifYes X420.here hx rfl (pc0 := 217) (pc' := 226) rfl (hb hby at_217) rfl ((if0 _ _).trans (feq hc421).2) (by decide) (by decide) ?_
            refine XS.iload X420.here hx rfl (hb hby at_226) rfl ?_
            refine XS.iconst X420.here hx rfl (hb hby at_228) ?_
            exact k
          have hc424 : (2 : Int32) < (3 : Int32) := by decide
          refine OwnGo.of (A := T420.setTop (mkF m 229 #[l0, l1, l2, l3, l4, .val (.int (3 : Int32)), .val (.ref bK), .val (.ref b335), .val (.ref b385), .unset, .unset, .unset] [(.int (2 : Int32)), (.int (3 : Int32))])) (B := T420.setTop (mkF m 235 #[l0, l1, l2, l3, l4, .val (.int (3 : Int32)), .val (.ref bK), .val (.ref b335), .val (.ref b385), .unset, .unset, .unset] [(.int (2 : Int32)), (.ref bK)])) (fun t k => ?_) ?_
          · show Steps p.tables e below (T420.setTop (mkF m 229 #[l0, l1, l2, l3, l4, .val (.int (3 : Int32)), .val (.ref bK), .val (.ref b335), .val (.ref b385), .unset, .unset, .unset] [(.int (2 : Int32)), (.int (3 : Int32))])) t
            refine XS.icmpNo X420.here hx rfl (hb hby at_229) rfl (tlt hc424).2.2.2 ?_
            refine XS.aload X420.here hx rfl (hb hby at_232) rfl rfl ?_
            refine XS.iconst X420.here hx rfl (hb hby at_234) ?_
            exact k
          have cq425 := f404
          obtain ⟨clq425, Arq425, qq425, Sq425, Nq425, Hq425, Gq425⟩ := cq425
          have hinq425 := inb_of (j := (2 : Int32)) Sq425 ⟨by decide, by decide⟩
          refine OwnGo.of (X420.caload hx (j := (2 : Int32)) (v := (.int k2)) (by rw [eq420]; exact Arq425.1) (State.isArrayOf_alike hZ.alike Arq425.2.1) Arq425.2.2 hinq425 (Hq425.at hinq425 rfl) (g := (mkF m 235 #[l0, l1, l2, l3, l4, .val (.int (3 : Int32)), .val (.ref bK), .val (.ref b335), .val (.ref b385), .unset, .unset, .unset] [(.int (2 : Int32)), (.ref bK)])) rfl rfl (hb hby at_235)) ?_
          show OwnGo p.tables e below _ (T420.setTop (mkF m 236 #[l0, l1, l2, l3, l4, .val (.int (3 : Int32)), .val (.ref bK), .val (.ref b335), .val (.ref b385), .unset, .unset, .unset] [(.int k2)]))
          obtain ⟨T426, L426, v426, X426, hQ426, st426⟩ := own_callS X420 hx (y := (⟨"dev/boundaryline/model/HeaderValueTrimPinLaw", "ws", "(C)Z"⟩ : MethodName)) hown (mvT hZ (w73 hw)) (mvT hZ (w74 hw)) (mvT hZ (w4 hw)) (mvT hZ (w75 hw)) (by decide) (backOf (W := 0) (rm16 l Z aw hw [] k2  T398.heap n0 f400 ) hZ (w75 hw) (w4 hw) (by decide) (by decide)) (g := (mkF m 236 #[l0, l1, l2, l3, l4, .val (.int (3 : Int32)), .val (.ref bK), .val (.ref b335), .val (.ref b385), .unset, .unset, .unset] [(.int k2)])) rfl (by rw [hml]; rfl) (argsL := [(.int k2)]) (rest := []) (lenOf pd_22 rfl) rfl (by show 2 * 0 + _ ≤ _; exact Nat.le_of_eq rfl) (hb hby at_236) rfl eq420 (by decide) (by decide)
          obtain ⟨rfl, N426q, eq426⟩ := hQ426
          have N426 := Fr.app N420 N426q
          refine OwnGo.of st426 ?_
          show OwnGo p.tables e below _ (T426.setTop (mkF m 239 #[l0, l1, l2, l3, l4, .val (.int (3 : Int32)), .val (.ref bK), .val (.ref b335), .val (.ref b385), .unset, .unset, .unset] [(.int (own_w2 k2))]))
          by_cases hc427 : (own_w2 k2) = (0 : Int32)
          · have ew428 : own_wb k2 = false := own_wF hc427
            refine OwnGo.of (A := T426.setTop (mkF m 239 #[l0, l1, l2, l3, l4, .val (.int (3 : Int32)), .val (.ref bK), .val (.ref b335), .val (.ref b385), .unset, .unset, .unset] [(.int (own_w2 k2))])) (B := T426.setTop (mkF m 274 #[l0, l1, l2, l3, l4, .val (.int (3 : Int32)), .val (.ref bK), .val (.ref b335), .val (.ref b385), .val (.int (2 : Int32)), .unset, .unset] [])) (fun t k => ?_) ?_
            · show Steps p.tables e below (T426.setTop (mkF m 239 #[l0, l1, l2, l3, l4, .val (.int (3 : Int32)), .val (.ref bK), .val (.ref b335), .val (.ref b385), .unset, .unset, .unset] [(.int (own_w2 k2))])) t
              refine XS.ifNo X426.here hx rfl (hb hby at_239) rfl ((if0 _ _).trans (teq hc427).2) ?_
              refine XS.iconst X426.here hx rfl (hb hby at_242) ?_
              refine XS.istore X426.here hx rfl (hb hby at_243) rfl (l' := #[l0, l1, l2, l3, l4, .val (.int (3 : Int32)), .val (.ref bK), .val (.ref b335), .val (.ref b385), .val (.int (2 : Int32)), .unset, .unset]) rfl ?_
              refine XS.goto X426.here hx rfl (pc0 := 245) (pc' := 274) rfl (hb hby at_245) (by decide) (by decide) ?_
              exact k
            exact J274_3 (l0) (l1) (l2) (l3) (l4) T426 _ _ (.val (.ref b335)) bK kb b385 k0 k1 k2 k3 (2 : Int32) X426 eq426 N426 f400 f401 f402 f403 f404 hk0 hk1 hk2 hk3 ⟨_, _, y398E, y398V, y398C, f411, hp_b385, (Nat.le_of_ble_eq_true rfl)⟩ (Or.inr (Or.inr (Or.inl ⟨rfl, ew417, ew423, ew428⟩)))
          · have ew429 : own_wb k2 = true := own_wT hc427
            refine OwnGo.of (A := T426.setTop (mkF m 239 #[l0, l1, l2, l3, l4, .val (.int (3 : Int32)), .val (.ref bK), .val (.ref b335), .val (.ref b385), .unset, .unset, .unset] [(.int (own_w2 k2))])) (B := T426.setTop (mkF m 251 #[l0, l1, l2, l3, l4, .val (.int (3 : Int32)), .val (.ref bK), .val (.ref b335), .val (.ref b385), .unset, .unset, .unset] [(.int (3 : Int32)), (.int (3 : Int32))])) (fun t k => ?_) ?_
            · show Steps p.tables e below (T426.setTop (mkF m 239 #[l0, l1, l2, l3, l4, .val (.int (3 : Int32)), .val (.ref bK), .val (.ref b335), .val (.ref b385), .unset, .unset, .unset] [(.int (own_w2 k2))])) t
              refine XS.ifYes X426.here hx rfl (pc0 := 239) (pc' := 248) rfl (hb hby at_239) rfl ((if0 _ _).trans (feq hc427).2) (by decide) (by decide) ?_
              refine XS.iload X426.here hx rfl (hb hby at_248) rfl ?_
              refine XS.iconst X426.here hx rfl (hb hby at_250) ?_
              exact k
            have hc430 : ¬ ((3 : Int32) < (3 : Int32)) := by decide
            refine OwnGo.of (A := T426.setTop (mkF m 251 #[l0, l1, l2, l3, l4, .val (.int (3 : Int32)), .val (.ref bK), .val (.ref b335), .val (.ref b385), .unset, .unset, .unset] [(.int (3 : Int32)), (.int (3 : Int32))])) (B := T426.setTop (mkF m 274 #[l0, l1, l2, l3, l4, .val (.int (3 : Int32)), .val (.ref bK), .val (.ref b335), .val (.ref b385), .val (.int (3 : Int32)), .unset, .unset] [])) (fun t k => ?_) ?_
            · show Steps p.tables e below (T426.setTop (mkF m 251 #[l0, l1, l2, l3, l4, .val (.int (3 : Int32)), .val (.ref bK), .val (.ref b335), .val (.ref b385), .unset, .unset, .unset] [(.int (3 : Int32)), (.int (3 : Int32))])) t
              refine XS.icmpYes X426.here hx rfl (pc0 := 251) (pc' := 270) rfl (hb hby at_251) rfl (flt hc430).2.2.2 (by decide) (by decide) ?_
              refine XS.iload X426.here hx rfl (hb hby at_270) rfl ?_
              refine XS.istore X426.here hx rfl (hb hby at_272) rfl (l' := #[l0, l1, l2, l3, l4, .val (.int (3 : Int32)), .val (.ref bK), .val (.ref b335), .val (.ref b385), .val (.int (3 : Int32)), .unset, .unset]) rfl ?_
              exact k
            exact J274_3 (l0) (l1) (l2) (l3) (l4) T426 _ _ (.val (.ref b335)) bK kb b385 k0 k1 k2 k3 (3 : Int32) X426 eq426 N426 f400 f401 f402 f403 f404 hk0 hk1 hk2 hk3 ⟨_, _, y398E, y398V, y398C, f411, hp_b385, (Nat.le_of_ble_eq_true rfl)⟩ (Or.inr (Or.inr (Or.inr (⟨rfl, ew417, ew423, ew429, trivial⟩))))
    · show OwnGo p.tables e below _ (Tj.setTop (mkF m 42 #[l0, l1, l2, l3, l4, .val (.int (4 : Int32)), .val (.ref bK), .unset, .unset, .unset, .unset, .unset] []))
      refine OwnGo.of (A := Tj.setTop (mkF m 42 #[l0, l1, l2, l3, l4, .val (.int (4 : Int32)), .val (.ref bK), .unset, .unset, .unset, .unset, .unset] [])) (B := Tj.setTop (mkF m 44 #[l0, l1, l2, l3, l4, .val (.int (4 : Int32)), .val (.ref bK), .unset, .unset, .unset, .unset, .unset] [(.int (4 : Int32))])) (fun t k => ?_) ?_
      · show Steps p.tables e below (Tj.setTop (mkF m 42 #[l0, l1, l2, l3, l4, .val (.int (4 : Int32)), .val (.ref bK), .unset, .unset, .unset, .unset, .unset] [])) t
        refine XS.iload Xj.here hx rfl (hb hby at_42) rfl ?_
        exact k
      have hc431 : ¬ ((4 : Int32) = (0 : Int32)) := by decide
      refine OwnGo.of (A := Tj.setTop (mkF m 44 #[l0, l1, l2, l3, l4, .val (.int (4 : Int32)), .val (.ref bK), .unset, .unset, .unset, .unset, .unset] [(.int (4 : Int32))])) (B := Tj.setTop (mkF m 58 #[l0, l1, l2, l3, l4, .val (.int (4 : Int32)), .val (.ref bK), .unset, .unset, .unset, .unset, .unset] [(.int (1 : Int32)), (.int (4 : Int32))])) (fun t k => ?_) ?_
      · show Steps p.tables e below (Tj.setTop (mkF m 44 #[l0, l1, l2, l3, l4, .val (.int (4 : Int32)), .val (.ref bK), .unset, .unset, .unset, .unset, .unset] [(.int (4 : Int32))])) t
        refine XS.ifYes Xj.here hx rfl (pc0 := 44) (pc' := 55) rfl (hb hby at_44) rfl ((if0 _ _).trans (feq hc431).2) (by decide) (by decide) ?_
        refine XS.iload Xj.here hx rfl (hb hby at_55) rfl ?_
        refine XS.iconst Xj.here hx rfl (hb hby at_57) ?_
        exact k
      have hc432 : ¬ ((4 : Int32) = (1 : Int32)) := by decide
      refine OwnGo.of (A := Tj.setTop (mkF m 58 #[l0, l1, l2, l3, l4, .val (.int (4 : Int32)), .val (.ref bK), .unset, .unset, .unset, .unset, .unset] [(.int (1 : Int32)), (.int (4 : Int32))])) (B := Tj.setTop (mkF m 79 #[l0, l1, l2, l3, l4, .val (.int (4 : Int32)), .val (.ref bK), .unset, .unset, .unset, .unset, .unset] [(.int (2 : Int32)), (.int (4 : Int32))])) (fun t k => ?_) ?_
      · show Steps p.tables e below (Tj.setTop (mkF m 58 #[l0, l1, l2, l3, l4, .val (.int (4 : Int32)), .val (.ref bK), .unset, .unset, .unset, .unset, .unset] [(.int (1 : Int32)), (.int (4 : Int32))])) t
        refine XS.icmpYes Xj.here hx rfl (pc0 := 58) (pc' := 76) rfl (hb hby at_58) rfl (feq hc432).2 (by decide) (by decide) ?_
        refine XS.iload Xj.here hx rfl (hb hby at_76) rfl ?_
        refine XS.iconst Xj.here hx rfl (hb hby at_78) ?_
        exact k
      have hc433 : ¬ ((4 : Int32) = (2 : Int32)) := by decide
      refine OwnGo.of (A := Tj.setTop (mkF m 79 #[l0, l1, l2, l3, l4, .val (.int (4 : Int32)), .val (.ref bK), .unset, .unset, .unset, .unset, .unset] [(.int (2 : Int32)), (.int (4 : Int32))])) (B := Tj.setTop (mkF m 107 #[l0, l1, l2, l3, l4, .val (.int (4 : Int32)), .val (.ref bK), .unset, .unset, .unset, .unset, .unset] [(.int (3 : Int32)), (.int (4 : Int32))])) (fun t k => ?_) ?_
      · show Steps p.tables e below (Tj.setTop (mkF m 79 #[l0, l1, l2, l3, l4, .val (.int (4 : Int32)), .val (.ref bK), .unset, .unset, .unset, .unset, .unset] [(.int (2 : Int32)), (.int (4 : Int32))])) t
        refine XS.icmpYes Xj.here hx rfl (pc0 := 79) (pc' := 104) rfl (hb hby at_79) rfl (feq hc433).2 (by decide) (by decide) ?_
        refine XS.iload Xj.here hx rfl (hb hby at_104) rfl ?_
        refine XS.iconst Xj.here hx rfl (hb hby at_106) ?_
        exact k
      have hc434 : ¬ ((4 : Int32) = (3 : Int32)) := by decide
      refine OwnGo.of (A := Tj.setTop (mkF m 107 #[l0, l1, l2, l3, l4, .val (.int (4 : Int32)), .val (.ref bK), .unset, .unset, .unset, .unset, .unset] [(.int (3 : Int32)), (.int (4 : Int32))])) (B := Tj.setTop (mkF m 140 #[l0, l1, l2, l3, l4, .val (.int (4 : Int32)), .val (.ref bK), .unset, .unset, .unset, .unset, .unset] [(.int (4 : Int32))])) (fun t k => ?_) ?_
      · show Steps p.tables e below (Tj.setTop (mkF m 107 #[l0, l1, l2, l3, l4, .val (.int (4 : Int32)), .val (.ref bK), .unset, .unset, .unset, .unset, .unset] [(.int (3 : Int32)), (.int (4 : Int32))])) t
        refine XS.icmpYes Xj.here hx rfl (pc0 := 107) (pc' := 139) rfl (hb hby at_107) rfl (feq hc434).2 (by decide) (by decide) ?_
        refine XS.iconst Xj.here hx rfl (hb hby at_139) ?_
        exact k
      obtain ⟨T435, h435, kq435, X435, e435, E435, A435, st435⟩ := newP (aty := .char) Xj hx hZ (w1 hw) ej (g := (mkF m 140 #[l0, l1, l2, l3, l4, .val (.int (4 : Int32)), .val (.ref bK), .unset, .unset, .unset, .unset, .unset] [(.int (4 : Int32))])) rfl (hb hby at_140) rfl (by decide) (cap := 4) (by decide) (by decide) (by decide) (by decide)
      obtain ⟨b435, g435⟩ : ∃ z, z = hj.size := ⟨_, rfl⟩
      rw [← g435] at A435 st435
      refine OwnGo.of st435 ?_
      have ne_bK_b435 : bK ≠ b435 := Nat.ne_of_lt (Nat.lt_of_lt_of_le Vj.lt (Nat.le_of_eq g435.symm))
      have gn_b435 : Safe Z consts_1 s.vm h435 b435 := Safe.ext E435 Cj.1 (Safe.new (Nat.le_of_eq g435.symm))
      have g_b435 : n0 ≤ b435 := Nat.le_trans Zj (Nat.le_of_eq g435.symm)
      have sz_b435 : h0.size ≤ b435 := Nat.le_trans Kj.1 (Nat.le_of_eq g435.symm)
      have cs436 := CHr.ext E435 Cj.1
      have f437 := Nat.le_trans Zj E435.1
      have f438 := Kj.ext E435
      have f439 := Bj.ext E435
      have f440 := Cj.trans cs436
      have f441 := Vj.ext E435
      have f442 := f118.ext E435
      have f443 := f119.ext E435
      have f444 : Arv Z h435 b435 kq435 .char (4 : Int32) [(.int (0 : Int32)), (.int (0 : Int32)), (.int (0 : Int32)), (.int (0 : Int32))] (.int (0 : Int32)) := (Arv.new A435 (by decide)).pad (pad_rep [] (.int (0 : Int32)) 4)
      show OwnGo p.tables e below _ (T435.setTop (mkF m 142 #[l0, l1, l2, l3, l4, .val (.int (4 : Int32)), .val (.ref bK), .unset, .unset, .unset, .unset, .unset] [(.ref b435)]))
      refine OwnGo.of (A := T435.setTop (mkF m 142 #[l0, l1, l2, l3, l4, .val (.int (4 : Int32)), .val (.ref bK), .unset, .unset, .unset, .unset, .unset] [(.ref b435)])) (B := T435.setTop (mkF m 147 #[l0, l1, l2, l3, l4, .val (.int (4 : Int32)), .val (.ref bK), .unset, .unset, .unset, .unset, .unset] [(.int (0 : Int32)), (.ref bK), (.int (0 : Int32)), (.ref b435), (.ref b435)])) (fun t k => ?_) ?_
      · show Steps p.tables e below (T435.setTop (mkF m 142 #[l0, l1, l2, l3, l4, .val (.int (4 : Int32)), .val (.ref bK), .unset, .unset, .unset, .unset, .unset] [(.ref b435)])) t
        refine XS.dup X435.here hx rfl (hb hby at_142) rfl rfl ?_
        refine XS.iconst X435.here hx rfl (hb hby at_143) ?_
        refine XS.aload X435.here hx rfl (hb hby at_144) rfl rfl ?_
        refine XS.iconst X435.here hx rfl (hb hby at_146) ?_
        exact k
      have cq445 := f441
      obtain ⟨clq445, Arq445, qq445, Sq445, Nq445, Hq445, Gq445⟩ := cq445
      have hinq445 := inb_of (j := (0 : Int32)) Sq445 ⟨by decide, by decide⟩
      refine OwnGo.of (X435.caload hx (j := (0 : Int32)) (v := (.int k0)) (by rw [e435]; exact Arq445.1) (State.isArrayOf_alike hZ.alike Arq445.2.1) Arq445.2.2 hinq445 (Hq445.at hinq445 rfl) (g := (mkF m 147 #[l0, l1, l2, l3, l4, .val (.int (4 : Int32)), .val (.ref bK), .unset, .unset, .unset, .unset, .unset] [(.int (0 : Int32)), (.ref bK), (.int (0 : Int32)), (.ref b435), (.ref b435)])) rfl rfl (hb hby at_147)) ?_
      show OwnGo p.tables e below _ (T435.setTop (mkF m 148 #[l0, l1, l2, l3, l4, .val (.int (4 : Int32)), .val (.ref bK), .unset, .unset, .unset, .unset, .unset] [(.int k0), (.int (0 : Int32)), (.ref b435), (.ref b435)]))
      have cq446 := f444
      obtain ⟨clq446, Arq446, qq446, Sq446, Nq446, Hq446, Gq446⟩ := cq446
      obtain ⟨T447, h447, X447, e447, W447, st447⟩ := stC X435 hx hZ e435 Arq446 (j := (0 : Int32)) (inb_of Sq446 ⟨by decide, by decide⟩) (g := (mkF m 148 #[l0, l1, l2, l3, l4, .val (.int (4 : Int32)), .val (.ref bK), .unset, .unset, .unset, .unset, .unset] [(.int k0), (.int (0 : Int32)), (.ref b435), (.ref b435)])) rfl rfl (hb hby at_148)
      refine OwnGo.of st447 ?_
      have N447 := Fr.snoc X447 Nj g_b435
      have cs448 := CHr.wr W447 gn_b435 f440.1
      have f449 := Nat.le_trans f437 (Keep.of_wr W447).1
      have f450 := f438.wr W447 (Or.inr sz_b435)
      have f451 := f439.wr W447
      have f452 := f440.trans cs448
      have f453 := f441.other W447 ne_bK_b435
      have f454 := f442.wr W447
      have f455 := f443.wr W447
      have f456 := cs448.safe f444.lt gn_b435
      have f457 : Arv Z h447 b435 kq435 .char (4 : Int32) [(.int (k0).toUInt32.toUInt16.toUInt32.toInt32), (.int (0 : Int32)), (.int (0 : Int32)), (.int (0 : Int32))] (.int (0 : Int32)) := Arv.set Arq446 qq446 Sq446 Nq446 Hq446 Gq446 (fits_nar_char _) W447 0 rfl (Nat.le_of_ble_eq_true rfl)
      show OwnGo p.tables e below _ (T447.setTop (mkF m 149 #[l0, l1, l2, l3, l4, .val (.int (4 : Int32)), .val (.ref bK), .unset, .unset, .unset, .unset, .unset] [(.ref b435)]))
      refine OwnGo.of (A := T447.setTop (mkF m 149 #[l0, l1, l2, l3, l4, .val (.int (4 : Int32)), .val (.ref bK), .unset, .unset, .unset, .unset, .unset] [(.ref b435)])) (B := T447.setTop (mkF m 154 #[l0, l1, l2, l3, l4, .val (.int (4 : Int32)), .val (.ref bK), .unset, .unset, .unset, .unset, .unset] [(.int (1 : Int32)), (.ref bK), (.int (1 : Int32)), (.ref b435), (.ref b435)])) (fun t k => ?_) ?_
      · show Steps p.tables e below (T447.setTop (mkF m 149 #[l0, l1, l2, l3, l4, .val (.int (4 : Int32)), .val (.ref bK), .unset, .unset, .unset, .unset, .unset] [(.ref b435)])) t
        refine XS.dup X447.here hx rfl (hb hby at_149) rfl rfl ?_
        refine XS.iconst X447.here hx rfl (hb hby at_150) ?_
        refine XS.aload X447.here hx rfl (hb hby at_151) rfl rfl ?_
        refine XS.iconst X447.here hx rfl (hb hby at_153) ?_
        exact k
      have cq458 := f453
      obtain ⟨clq458, Arq458, qq458, Sq458, Nq458, Hq458, Gq458⟩ := cq458
      have hinq458 := inb_of (j := (1 : Int32)) Sq458 ⟨by decide, by decide⟩
      refine OwnGo.of (X447.caload hx (j := (1 : Int32)) (v := (.int k1)) (by rw [e447]; exact Arq458.1) (State.isArrayOf_alike hZ.alike Arq458.2.1) Arq458.2.2 hinq458 (Hq458.at hinq458 rfl) (g := (mkF m 154 #[l0, l1, l2, l3, l4, .val (.int (4 : Int32)), .val (.ref bK), .unset, .unset, .unset, .unset, .unset] [(.int (1 : Int32)), (.ref bK), (.int (1 : Int32)), (.ref b435), (.ref b435)])) rfl rfl (hb hby at_154)) ?_
      show OwnGo p.tables e below _ (T447.setTop (mkF m 155 #[l0, l1, l2, l3, l4, .val (.int (4 : Int32)), .val (.ref bK), .unset, .unset, .unset, .unset, .unset] [(.int k1), (.int (1 : Int32)), (.ref b435), (.ref b435)]))
      have cq459 := f457
      obtain ⟨clq459, Arq459, qq459, Sq459, Nq459, Hq459, Gq459⟩ := cq459
      obtain ⟨T460, h460, X460, e460, W460, st460⟩ := stC X447 hx hZ e447 Arq459 (j := (1 : Int32)) (inb_of Sq459 ⟨by decide, by decide⟩) (g := (mkF m 155 #[l0, l1, l2, l3, l4, .val (.int (4 : Int32)), .val (.ref bK), .unset, .unset, .unset, .unset, .unset] [(.int k1), (.int (1 : Int32)), (.ref b435), (.ref b435)])) rfl rfl (hb hby at_155)
      refine OwnGo.of st460 ?_
      have N460 := Fr.snoc X460 N447 g_b435
      have cs461 := CHr.wr W460 f456 f452.1
      have f462 := Nat.le_trans f449 (Keep.of_wr W460).1
      have f463 := f450.wr W460 (Or.inr sz_b435)
      have f464 := f451.wr W460
      have f465 := f452.trans cs461
      have f466 := f453.other W460 ne_bK_b435
      have f467 := f454.wr W460
      have f468 := f455.wr W460
      have f469 := cs461.safe f457.lt f456
      have f470 : Arv Z h460 b435 kq435 .char (4 : Int32) [(.int (k0).toUInt32.toUInt16.toUInt32.toInt32), (.int (k1).toUInt32.toUInt16.toUInt32.toInt32), (.int (0 : Int32)), (.int (0 : Int32))] (.int (0 : Int32)) := Arv.set Arq459 qq459 Sq459 Nq459 Hq459 Gq459 (fits_nar_char _) W460 1 rfl (Nat.le_of_ble_eq_true rfl)
      show OwnGo p.tables e below _ (T460.setTop (mkF m 156 #[l0, l1, l2, l3, l4, .val (.int (4 : Int32)), .val (.ref bK), .unset, .unset, .unset, .unset, .unset] [(.ref b435)]))
      refine OwnGo.of (A := T460.setTop (mkF m 156 #[l0, l1, l2, l3, l4, .val (.int (4 : Int32)), .val (.ref bK), .unset, .unset, .unset, .unset, .unset] [(.ref b435)])) (B := T460.setTop (mkF m 161 #[l0, l1, l2, l3, l4, .val (.int (4 : Int32)), .val (.ref bK), .unset, .unset, .unset, .unset, .unset] [(.int (2 : Int32)), (.ref bK), (.int (2 : Int32)), (.ref b435), (.ref b435)])) (fun t k => ?_) ?_
      · show Steps p.tables e below (T460.setTop (mkF m 156 #[l0, l1, l2, l3, l4, .val (.int (4 : Int32)), .val (.ref bK), .unset, .unset, .unset, .unset, .unset] [(.ref b435)])) t
        refine XS.dup X460.here hx rfl (hb hby at_156) rfl rfl ?_
        refine XS.iconst X460.here hx rfl (hb hby at_157) ?_
        refine XS.aload X460.here hx rfl (hb hby at_158) rfl rfl ?_
        refine XS.iconst X460.here hx rfl (hb hby at_160) ?_
        exact k
      have cq471 := f466
      obtain ⟨clq471, Arq471, qq471, Sq471, Nq471, Hq471, Gq471⟩ := cq471
      have hinq471 := inb_of (j := (2 : Int32)) Sq471 ⟨by decide, by decide⟩
      refine OwnGo.of (X460.caload hx (j := (2 : Int32)) (v := (.int k2)) (by rw [e460]; exact Arq471.1) (State.isArrayOf_alike hZ.alike Arq471.2.1) Arq471.2.2 hinq471 (Hq471.at hinq471 rfl) (g := (mkF m 161 #[l0, l1, l2, l3, l4, .val (.int (4 : Int32)), .val (.ref bK), .unset, .unset, .unset, .unset, .unset] [(.int (2 : Int32)), (.ref bK), (.int (2 : Int32)), (.ref b435), (.ref b435)])) rfl rfl (hb hby at_161)) ?_
      show OwnGo p.tables e below _ (T460.setTop (mkF m 162 #[l0, l1, l2, l3, l4, .val (.int (4 : Int32)), .val (.ref bK), .unset, .unset, .unset, .unset, .unset] [(.int k2), (.int (2 : Int32)), (.ref b435), (.ref b435)]))
      have cq472 := f470
      obtain ⟨clq472, Arq472, qq472, Sq472, Nq472, Hq472, Gq472⟩ := cq472
      obtain ⟨T473, h473, X473, e473, W473, st473⟩ := stC X460 hx hZ e460 Arq472 (j := (2 : Int32)) (inb_of Sq472 ⟨by decide, by decide⟩) (g := (mkF m 162 #[l0, l1, l2, l3, l4, .val (.int (4 : Int32)), .val (.ref bK), .unset, .unset, .unset, .unset, .unset] [(.int k2), (.int (2 : Int32)), (.ref b435), (.ref b435)])) rfl rfl (hb hby at_162)
      refine OwnGo.of st473 ?_
      have N473 := Fr.snoc X473 N460 g_b435
      have cs474 := CHr.wr W473 f469 f465.1
      have f475 := Nat.le_trans f462 (Keep.of_wr W473).1
      have f476 := f463.wr W473 (Or.inr sz_b435)
      have f477 := f464.wr W473
      have f478 := f465.trans cs474
      have f479 := f466.other W473 ne_bK_b435
      have f480 := f467.wr W473
      have f481 := f468.wr W473
      have f482 := cs474.safe f470.lt f469
      have f483 : Arv Z h473 b435 kq435 .char (4 : Int32) [(.int (k0).toUInt32.toUInt16.toUInt32.toInt32), (.int (k1).toUInt32.toUInt16.toUInt32.toInt32), (.int (k2).toUInt32.toUInt16.toUInt32.toInt32), (.int (0 : Int32))] (.int (0 : Int32)) := Arv.set Arq472 qq472 Sq472 Nq472 Hq472 Gq472 (fits_nar_char _) W473 2 rfl (Nat.le_of_ble_eq_true rfl)
      show OwnGo p.tables e below _ (T473.setTop (mkF m 163 #[l0, l1, l2, l3, l4, .val (.int (4 : Int32)), .val (.ref bK), .unset, .unset, .unset, .unset, .unset] [(.ref b435)]))
      refine OwnGo.of (A := T473.setTop (mkF m 163 #[l0, l1, l2, l3, l4, .val (.int (4 : Int32)), .val (.ref bK), .unset, .unset, .unset, .unset, .unset] [(.ref b435)])) (B := T473.setTop (mkF m 168 #[l0, l1, l2, l3, l4, .val (.int (4 : Int32)), .val (.ref bK), .unset, .unset, .unset, .unset, .unset] [(.int (3 : Int32)), (.ref bK), (.int (3 : Int32)), (.ref b435), (.ref b435)])) (fun t k => ?_) ?_
      · show Steps p.tables e below (T473.setTop (mkF m 163 #[l0, l1, l2, l3, l4, .val (.int (4 : Int32)), .val (.ref bK), .unset, .unset, .unset, .unset, .unset] [(.ref b435)])) t
        refine XS.dup X473.here hx rfl (hb hby at_163) rfl rfl ?_
        refine XS.iconst X473.here hx rfl (hb hby at_164) ?_
        refine XS.aload X473.here hx rfl (hb hby at_165) rfl rfl ?_
        refine XS.iconst X473.here hx rfl (hb hby at_167) ?_
        exact k
      have cq484 := f479
      obtain ⟨clq484, Arq484, qq484, Sq484, Nq484, Hq484, Gq484⟩ := cq484
      have hinq484 := inb_of (j := (3 : Int32)) Sq484 ⟨by decide, by decide⟩
      refine OwnGo.of (X473.caload hx (j := (3 : Int32)) (v := (.int k3)) (by rw [e473]; exact Arq484.1) (State.isArrayOf_alike hZ.alike Arq484.2.1) Arq484.2.2 hinq484 (Hq484.at hinq484 rfl) (g := (mkF m 168 #[l0, l1, l2, l3, l4, .val (.int (4 : Int32)), .val (.ref bK), .unset, .unset, .unset, .unset, .unset] [(.int (3 : Int32)), (.ref bK), (.int (3 : Int32)), (.ref b435), (.ref b435)])) rfl rfl (hb hby at_168)) ?_
      show OwnGo p.tables e below _ (T473.setTop (mkF m 169 #[l0, l1, l2, l3, l4, .val (.int (4 : Int32)), .val (.ref bK), .unset, .unset, .unset, .unset, .unset] [(.int k3), (.int (3 : Int32)), (.ref b435), (.ref b435)]))
      have cq485 := f483
      obtain ⟨clq485, Arq485, qq485, Sq485, Nq485, Hq485, Gq485⟩ := cq485
      obtain ⟨T486, h486, X486, e486, W486, st486⟩ := stC X473 hx hZ e473 Arq485 (j := (3 : Int32)) (inb_of Sq485 ⟨by decide, by decide⟩) (g := (mkF m 169 #[l0, l1, l2, l3, l4, .val (.int (4 : Int32)), .val (.ref bK), .unset, .unset, .unset, .unset, .unset] [(.int k3), (.int (3 : Int32)), (.ref b435), (.ref b435)])) rfl rfl (hb hby at_169)
      refine OwnGo.of st486 ?_
      have N486 := Fr.snoc X486 N473 g_b435
      have cs487 := CHr.wr W486 f482 f478.1
      have f488 := Nat.le_trans f475 (Keep.of_wr W486).1
      have f489 := f476.wr W486 (Or.inr sz_b435)
      have f490 := f477.wr W486
      have f491 := f478.trans cs487
      have f492 := f479.other W486 ne_bK_b435
      have f493 := f480.wr W486
      have f494 := f481.wr W486
      have f495 := cs487.safe f483.lt f482
      have f496 : Arv Z h486 b435 kq435 .char (4 : Int32) [(.int (k0).toUInt32.toUInt16.toUInt32.toInt32), (.int (k1).toUInt32.toUInt16.toUInt32.toInt32), (.int (k2).toUInt32.toUInt16.toUInt32.toInt32), (.int (k3).toUInt32.toUInt16.toUInt32.toInt32)] (.int (0 : Int32)) := Arv.set Arq485 qq485 Sq485 Nq485 Hq485 Gq485 (fits_nar_char _) W486 3 rfl (Nat.le_of_ble_eq_true rfl)
      show OwnGo p.tables e below _ (T486.setTop (mkF m 170 #[l0, l1, l2, l3, l4, .val (.int (4 : Int32)), .val (.ref bK), .unset, .unset, .unset, .unset, .unset] [(.ref b435)]))
      refine OwnGo.of (A := T486.setTop (mkF m 170 #[l0, l1, l2, l3, l4, .val (.int (4 : Int32)), .val (.ref bK), .unset, .unset, .unset, .unset, .unset] [(.ref b435)])) (B := T486.setTop (mkF m 172 #[l0, l1, l2, l3, l4, .val (.int (4 : Int32)), .val (.ref bK), .val (.ref b435), .unset, .unset, .unset, .unset] [])) (fun t k => ?_) ?_
      · show Steps p.tables e below (T486.setTop (mkF m 170 #[l0, l1, l2, l3, l4, .val (.int (4 : Int32)), .val (.ref bK), .unset, .unset, .unset, .unset, .unset] [(.ref b435)])) t
        refine XS.astore X486.here hx rfl (hb hby at_170) rfl rfl (l' := #[l0, l1, l2, l3, l4, .val (.int (4 : Int32)), .val (.ref bK), .val (.ref b435), .unset, .unset, .unset, .unset]) rfl ?_
        exact k
      have f497 := f496
      rw [own_chE hk0, own_chE hk1, own_chE hk2, own_chE hk3] at f497
      obtain ⟨T498, h498, X498, e498, E498, A498, D498, -, st498⟩ := newO X486 hx hZ hown (w6 hw) (w7 hw) (w8 hw) e486 (g := (mkF m 172 #[l0, l1, l2, l3, l4, .val (.int (4 : Int32)), .val (.ref bK), .val (.ref b435), .unset, .unset, .unset, .unset] [])) rfl (hb hby at_172) (by decide) (by decide)
      obtain ⟨b498, g498⟩ : ∃ z, z = h486.size := ⟨_, rfl⟩
      rw [← g498] at A498 D498 st498
      refine OwnGo.of st498 ?_
      have ne_bK_b498 : bK ≠ b498 := Nat.ne_of_lt (Nat.lt_of_lt_of_le f492.lt (Nat.le_of_eq g498.symm))
      have ne_b435_b498 : b435 ≠ b498 := Nat.ne_of_lt (Nat.lt_of_lt_of_le f497.lt (Nat.le_of_eq g498.symm))
      have gn_b498 : Safe Z consts_1 s.vm h498 b498 := Safe.ext E498 f491.1 (Safe.new (Nat.le_of_eq g498.symm))
      have g_b498 : n0 ≤ b498 := Nat.le_trans f488 (Nat.le_of_eq g498.symm)
      have sz_b498 : h0.size ≤ b498 := Nat.le_trans f489.1 (Nat.le_of_eq g498.symm)
      have cs499 := CHr.ext E498 f491.1
      have f500 := Nat.le_trans f488 E498.1
      have f501 := f489.ext E498
      have f502 := f490.ext E498
      have f503 := f491.trans cs499
      have f504 := f492.ext E498
      have f505 := f493.ext E498
      have f506 := f494.ext E498
      have f507 := cs499.safe f497.lt f495
      have f508 := f497.ext E498
      have f509 : Fld Z h498 b498 "java/lang/String" "value" "[B" .null := D498 (Or.inr (w21 hw)) (ty := (.array .byte)) (by decide)
      have f510 : Fld Z h498 b498 "java/lang/String" "coder" "B" (.int (0 : Int32)) := D498 (Or.inr (w22 hw)) (ty := .byte) (by decide)
      show OwnGo p.tables e below _ (T498.setTop (mkF m 175 #[l0, l1, l2, l3, l4, .val (.int (4 : Int32)), .val (.ref bK), .val (.ref b435), .unset, .unset, .unset, .unset] [(.ref b498)]))
      refine OwnGo.of (A := T498.setTop (mkF m 175 #[l0, l1, l2, l3, l4, .val (.int (4 : Int32)), .val (.ref bK), .val (.ref b435), .unset, .unset, .unset, .unset] [(.ref b498)])) (B := T498.setTop (mkF m 178 #[l0, l1, l2, l3, l4, .val (.int (4 : Int32)), .val (.ref bK), .val (.ref b435), .unset, .unset, .unset, .unset] [(.ref b435), (.ref b498), (.ref b498)])) (fun t k => ?_) ?_
      · show Steps p.tables e below (T498.setTop (mkF m 175 #[l0, l1, l2, l3, l4, .val (.int (4 : Int32)), .val (.ref bK), .val (.ref b435), .unset, .unset, .unset, .unset] [(.ref b498)])) t
        refine XS.dup X498.here hx rfl (hb hby at_175) rfl rfl ?_
        refine XS.aload X498.here hx rfl (hb hby at_176) rfl rfl ?_
        exact k
      have hp_b498 : ∀ c ∈ ([k0, k1, k2, k3] : List Int32), OwnCh c := (own_hS hk0 (own_hS hk1 (own_hS hk2 (own_hS hk3 own_h0))))
      obtain ⟨T511, L511, v511, X511, hQ511, st511⟩ := own_callI X498 hx (y := (⟨"java/lang/String", "<init>", "([C)V"⟩ : MethodName)) rfl hown (mvT hZ (w9 hw)) (mvT hZ (w10 hw)) (mvT hZ (w11 hw)) (by decide) (StrChars.Road.backV (W := 1) hZ (own_ws hw) (kI := 4) (w7 hw) (cs := ([k0, k1, k2, k3] : List Int32)) (bs := (([k0, k1, k2, k3] : List Int32)).map (fun c => c.toInt8.toInt32)) (n := 4) g_b498 f500 A498 f509 f510 f508 f505 hzc rfl rfl (by decide) (by decide) hp_b498 rfl (by decide) (by decide)) (g := (mkF m 178 #[l0, l1, l2, l3, l4, .val (.int (4 : Int32)), .val (.ref bK), .val (.ref b435), .unset, .unset, .unset, .unset] [(.ref b435), (.ref b498), (.ref b498)])) rfl (by rw [hml]; rfl) (a := b498) (argsL := [(.ref b435)]) (rest := [(.ref b498)]) (lenOf pd_118 rfl) rfl (by show 2 * 0 + _ ≤ _; exact Nat.le_of_eq rfl) (hb hby at_178) rfl e498 (by decide) (by decide)
      obtain ⟨rfl, N511q, K511, y511E, y511C, t511, kb511, -, -, -, y511V, y511A⟩ := hQ511
      have cs512 := CHr.keep K511 (allS gn_b498 all0) f503.1
      have f513 := Nat.le_trans f500 K511.1
      have f514 := f501.trans K511 (allS (Or.inr sz_b498) all0)
      have f515 := f502.keep K511
      have f516 := f503.trans cs512
      have f517 := f504.keep K511 (ninS ne_bK_b498 nin0)
      have f518 := own_sta_keep f505 K511 (allS (own_ns_exa A498) all0)
      have f519 := own_sta_keep f506 K511 (allS (own_ns_exa A498) all0)
      have f520 := cs512.safe f508.lt f507
      have f521 := f508.keep K511 (ninS ne_b435_b498 nin0)
      have f522 := cs512.safe A498.lt gn_b498
      have f523 := A498.keep K511
      have f524 : Arv Z T511.heap t511 kb511 .byte (4 : Int32) [(.int (StrChars.lo8 k0)), (.int (StrChars.lo8 k1)), (.int (StrChars.lo8 k2)), (.int (StrChars.lo8 k3))] (.int (0 : Int32)) := y511A
      have N511 := Fr.app N486 N511q
      refine OwnGo.of st511 ?_
      show OwnGo p.tables e below _ (T511.setTop (mkF m 181 #[l0, l1, l2, l3, l4, .val (.int (4 : Int32)), .val (.ref bK), .val (.ref b435), .unset, .unset, .unset, .unset] [(.ref b498)]))
      refine OwnGo.of (A := T511.setTop (mkF m 181 #[l0, l1, l2, l3, l4, .val (.int (4 : Int32)), .val (.ref bK), .val (.ref b435), .unset, .unset, .unset, .unset] [(.ref b498)])) (B := T511.setTop (mkF m 185 #[l0, l1, l2, l3, l4, .val (.int (4 : Int32)), .val (.ref bK), .val (.ref b435), .val (.ref b498), .unset, .unset, .unset] [(.int (4 : Int32))])) (fun t k => ?_) ?_
      · show Steps p.tables e below (T511.setTop (mkF m 181 #[l0, l1, l2, l3, l4, .val (.int (4 : Int32)), .val (.ref bK), .val (.ref b435), .unset, .unset, .unset, .unset] [(.ref b498)])) t
        refine XS.astore X511.here hx rfl (hb hby at_181) rfl rfl (l' := #[l0, l1, l2, l3, l4, .val (.int (4 : Int32)), .val (.ref bK), .val (.ref b435), .val (.ref b498), .unset, .unset, .unset]) rfl ?_
        refine XS.iload X511.here hx rfl (hb hby at_183) rfl ?_
        exact k
      have hc525 : (0 : Int32) < (4 : Int32) := by decide
      refine OwnGo.of (A := T511.setTop (mkF m 185 #[l0, l1, l2, l3, l4, .val (.int (4 : Int32)), .val (.ref bK), .val (.ref b435), .val (.ref b498), .unset, .unset, .unset] [(.int (4 : Int32))])) (B := T511.setTop (mkF m 191 #[l0, l1, l2, l3, l4, .val (.int (4 : Int32)), .val (.ref bK), .val (.ref b435), .val (.ref b498), .unset, .unset, .unset] [(.int (0 : Int32)), (.ref bK)])) (fun t k => ?_) ?_
      · show Steps p.tables e below (T511.setTop (mkF m 185 #[l0, l1, l2, l3, l4, .val (.int (4 : Int32)), .val (.ref bK), .val (.ref b435), .val (.ref b498), .unset, .unset, .unset] [(.int (4 : Int32))])) t
        refine XS.ifNo X511.here hx rfl (hb hby at_185) rfl ((if0 _ _).trans (tlt hc525).2.2.2) ?_
        refine XS.aload X511.here hx rfl (hb hby at_188) rfl rfl ?_
        refine XS.iconst X511.here hx rfl (hb hby at_190) ?_
        exact k
      have cq526 := f517
      obtain ⟨clq526, Arq526, qq526, Sq526, Nq526, Hq526, Gq526⟩ := cq526
      have hinq526 := inb_of (j := (0 : Int32)) Sq526 ⟨by decide, by decide⟩
      refine OwnGo.of (X511.caload hx (j := (0 : Int32)) (v := (.int k0)) Arq526.1 (State.isArrayOf_alike hZ.alike Arq526.2.1) Arq526.2.2 hinq526 (Hq526.at hinq526 rfl) (g := (mkF m 191 #[l0, l1, l2, l3, l4, .val (.int (4 : Int32)), .val (.ref bK), .val (.ref b435), .val (.ref b498), .unset, .unset, .unset] [(.int (0 : Int32)), (.ref bK)])) rfl rfl (hb hby at_191)) ?_
      show OwnGo p.tables e below _ (T511.setTop (mkF m 192 #[l0, l1, l2, l3, l4, .val (.int (4 : Int32)), .val (.ref bK), .val (.ref b435), .val (.ref b498), .unset, .unset, .unset] [(.int k0)]))
      obtain ⟨T527, L527, v527, X527, hQ527, st527⟩ := own_callS X511 hx (y := (⟨"dev/boundaryline/model/HeaderValueTrimPinLaw", "ws", "(C)Z"⟩ : MethodName)) hown (mvT hZ (w73 hw)) (mvT hZ (w74 hw)) (mvT hZ (w4 hw)) (mvT hZ (w75 hw)) (by decide) (backOf (W := 0) (rm16 l Z aw hw [] k0  T511.heap n0 f513 ) hZ (w75 hw) (w4 hw) (by decide) (by decide)) (g := (mkF m 192 #[l0, l1, l2, l3, l4, .val (.int (4 : Int32)), .val (.ref bK), .val (.ref b435), .val (.ref b498), .unset, .unset, .unset] [(.int k0)])) rfl (by rw [hml]; rfl) (argsL := [(.int k0)]) (rest := []) (lenOf pd_22 rfl) rfl (by show 2 * 0 + _ ≤ _; exact Nat.le_of_eq rfl) (hb hby at_192) rfl rfl (by decide) (by decide)
      obtain ⟨rfl, N527q, eq527⟩ := hQ527
      have N527 := Fr.app N511 N527q
      refine OwnGo.of st527 ?_
      show OwnGo p.tables e below _ (T527.setTop (mkF m 195 #[l0, l1, l2, l3, l4, .val (.int (4 : Int32)), .val (.ref bK), .val (.ref b435), .val (.ref b498), .unset, .unset, .unset] [(.int (own_w2 k0))]))
      by_cases hc528 : (own_w2 k0) = (0 : Int32)
      · have ew529 : own_wb k0 = false := own_wF hc528
        refine OwnGo.of (A := T527.setTop (mkF m 195 #[l0, l1, l2, l3, l4, .val (.int (4 : Int32)), .val (.ref bK), .val (.ref b435), .val (.ref b498), .unset, .unset, .unset] [(.int (own_w2 k0))])) (B := T527.setTop (mkF m 274 #[l0, l1, l2, l3, l4, .val (.int (4 : Int32)), .val (.ref bK), .val (.ref b435), .val (.ref b498), .val (.int (0 : Int32)), .unset, .unset] [])) (fun t k => ?_) ?_
        · show Steps p.tables e below (T527.setTop (mkF m 195 #[l0, l1, l2, l3, l4, .val (.int (4 : Int32)), .val (.ref bK), .val (.ref b435), .val (.ref b498), .unset, .unset, .unset] [(.int (own_w2 k0))])) t
          refine XS.ifNo X527.here hx rfl (hb hby at_195) rfl ((if0 _ _).trans (teq hc528).2) ?_
          refine XS.iconst X527.here hx rfl (hb hby at_198) ?_
          refine XS.istore X527.here hx rfl (hb hby at_199) rfl (l' := #[l0, l1, l2, l3, l4, .val (.int (4 : Int32)), .val (.ref bK), .val (.ref b435), .val (.ref b498), .val (.int (0 : Int32)), .unset, .unset]) rfl ?_
          refine XS.goto X527.here hx rfl (pc0 := 201) (pc' := 274) rfl (hb hby at_201) (by decide) (by decide) ?_
          exact k
        exact J274_4 (l0) (l1) (l2) (l3) (l4) T527 _ _ (.val (.ref b435)) bK kb b498 k0 k1 k2 k3 (0 : Int32) X527 eq527 N527 f513 f514 f515 f516 f517 hk0 hk1 hk2 hk3 ⟨_, _, y511E, y511V, y511C, f524, hp_b498, (Nat.le_of_ble_eq_true rfl)⟩ (Or.inl ⟨rfl, ew529⟩)
      · have ew530 : own_wb k0 = true := own_wT hc528
        refine OwnGo.of (A := T527.setTop (mkF m 195 #[l0, l1, l2, l3, l4, .val (.int (4 : Int32)), .val (.ref bK), .val (.ref b435), .val (.ref b498), .unset, .unset, .unset] [(.int (own_w2 k0))])) (B := T527.setTop (mkF m 207 #[l0, l1, l2, l3, l4, .val (.int (4 : Int32)), .val (.ref bK), .val (.ref b435), .val (.ref b498), .unset, .unset, .unset] [(.int (1 : Int32)), (.int (4 : Int32))])) (fun t k => ?_) ?_
        · show Steps p.tables e below (T527.setTop (mkF m 195 #[l0, l1, l2, l3, l4, .val (.int (4 : Int32)), .val (.ref bK), .val (.ref b435), .val (.ref b498), .unset, .unset, .unset] [(.int (own_w2 k0))])) t
          refine XS.ifYes X527.here hx rfl (pc0 := 195) (pc' := 204) rfl (hb hby at_195) rfl ((if0 _ _).trans (feq hc528).2) (by decide) (by decide) ?_
          refine XS.iload X527.here hx rfl (hb hby at_204) rfl ?_
          refine XS.iconst X527.here hx rfl (hb hby at_206) ?_
          exact k
        have hc531 : (1 : Int32) < (4 : Int32) := by decide
        refine OwnGo.of (A := T527.setTop (mkF m 207 #[l0, l1, l2, l3, l4, .val (.int (4 : Int32)), .val (.ref bK), .val (.ref b435), .val (.ref b498), .unset, .unset, .unset] [(.int (1 : Int32)), (.int (4 : Int32))])) (B := T527.setTop (mkF m 213 #[l0, l1, l2, l3, l4, .val (.int (4 : Int32)), .val (.ref bK), .val (.ref b435), .val (.ref b498), .unset, .unset, .unset] [(.int (1 : Int32)), (.ref bK)])) (fun t k => ?_) ?_
        · show Steps p.tables e below (T527.setTop (mkF m 207 #[l0, l1, l2, l3, l4, .val (.int (4 : Int32)), .val (.ref bK), .val (.ref b435), .val (.ref b498), .unset, .unset, .unset] [(.int (1 : Int32)), (.int (4 : Int32))])) t
          refine XS.icmpNo X527.here hx rfl (hb hby at_207) rfl (tlt hc531).2.2.2 ?_
          refine XS.aload X527.here hx rfl (hb hby at_210) rfl rfl ?_
          refine XS.iconst X527.here hx rfl (hb hby at_212) ?_
          exact k
        have cq532 := f517
        obtain ⟨clq532, Arq532, qq532, Sq532, Nq532, Hq532, Gq532⟩ := cq532
        have hinq532 := inb_of (j := (1 : Int32)) Sq532 ⟨by decide, by decide⟩
        refine OwnGo.of (X527.caload hx (j := (1 : Int32)) (v := (.int k1)) (by rw [eq527]; exact Arq532.1) (State.isArrayOf_alike hZ.alike Arq532.2.1) Arq532.2.2 hinq532 (Hq532.at hinq532 rfl) (g := (mkF m 213 #[l0, l1, l2, l3, l4, .val (.int (4 : Int32)), .val (.ref bK), .val (.ref b435), .val (.ref b498), .unset, .unset, .unset] [(.int (1 : Int32)), (.ref bK)])) rfl rfl (hb hby at_213)) ?_
        show OwnGo p.tables e below _ (T527.setTop (mkF m 214 #[l0, l1, l2, l3, l4, .val (.int (4 : Int32)), .val (.ref bK), .val (.ref b435), .val (.ref b498), .unset, .unset, .unset] [(.int k1)]))
        obtain ⟨T533, L533, v533, X533, hQ533, st533⟩ := own_callS X527 hx (y := (⟨"dev/boundaryline/model/HeaderValueTrimPinLaw", "ws", "(C)Z"⟩ : MethodName)) hown (mvT hZ (w73 hw)) (mvT hZ (w74 hw)) (mvT hZ (w4 hw)) (mvT hZ (w75 hw)) (by decide) (backOf (W := 0) (rm16 l Z aw hw [] k1  T511.heap n0 f513 ) hZ (w75 hw) (w4 hw) (by decide) (by decide)) (g := (mkF m 214 #[l0, l1, l2, l3, l4, .val (.int (4 : Int32)), .val (.ref bK), .val (.ref b435), .val (.ref b498), .unset, .unset, .unset] [(.int k1)])) rfl (by rw [hml]; rfl) (argsL := [(.int k1)]) (rest := []) (lenOf pd_22 rfl) rfl (by show 2 * 0 + _ ≤ _; exact Nat.le_of_eq rfl) (hb hby at_214) rfl eq527 (by decide) (by decide)
        obtain ⟨rfl, N533q, eq533⟩ := hQ533
        have N533 := Fr.app N527 N533q
        refine OwnGo.of st533 ?_
        show OwnGo p.tables e below _ (T533.setTop (mkF m 217 #[l0, l1, l2, l3, l4, .val (.int (4 : Int32)), .val (.ref bK), .val (.ref b435), .val (.ref b498), .unset, .unset, .unset] [(.int (own_w2 k1))]))
        by_cases hc534 : (own_w2 k1) = (0 : Int32)
        · have ew535 : own_wb k1 = false := own_wF hc534
          refine OwnGo.of (A := T533.setTop (mkF m 217 #[l0, l1, l2, l3, l4, .val (.int (4 : Int32)), .val (.ref bK), .val (.ref b435), .val (.ref b498), .unset, .unset, .unset] [(.int (own_w2 k1))])) (B := T533.setTop (mkF m 274 #[l0, l1, l2, l3, l4, .val (.int (4 : Int32)), .val (.ref bK), .val (.ref b435), .val (.ref b498), .val (.int (1 : Int32)), .unset, .unset] [])) (fun t k => ?_) ?_
          · show Steps p.tables e below (T533.setTop (mkF m 217 #[l0, l1, l2, l3, l4, .val (.int (4 : Int32)), .val (.ref bK), .val (.ref b435), .val (.ref b498), .unset, .unset, .unset] [(.int (own_w2 k1))])) t
            refine XS.ifNo X533.here hx rfl (hb hby at_217) rfl ((if0 _ _).trans (teq hc534).2) ?_
            refine XS.iconst X533.here hx rfl (hb hby at_220) ?_
            refine XS.istore X533.here hx rfl (hb hby at_221) rfl (l' := #[l0, l1, l2, l3, l4, .val (.int (4 : Int32)), .val (.ref bK), .val (.ref b435), .val (.ref b498), .val (.int (1 : Int32)), .unset, .unset]) rfl ?_
            refine XS.goto X533.here hx rfl (pc0 := 223) (pc' := 274) rfl (hb hby at_223) (by decide) (by decide) ?_
            exact k
          exact J274_4 (l0) (l1) (l2) (l3) (l4) T533 _ _ (.val (.ref b435)) bK kb b498 k0 k1 k2 k3 (1 : Int32) X533 eq533 N533 f513 f514 f515 f516 f517 hk0 hk1 hk2 hk3 ⟨_, _, y511E, y511V, y511C, f524, hp_b498, (Nat.le_of_ble_eq_true rfl)⟩ (Or.inr (Or.inl ⟨rfl, ew530, ew535⟩))
        · have ew536 : own_wb k1 = true := own_wT hc534
          refine OwnGo.of (A := T533.setTop (mkF m 217 #[l0, l1, l2, l3, l4, .val (.int (4 : Int32)), .val (.ref bK), .val (.ref b435), .val (.ref b498), .unset, .unset, .unset] [(.int (own_w2 k1))])) (B := T533.setTop (mkF m 229 #[l0, l1, l2, l3, l4, .val (.int (4 : Int32)), .val (.ref bK), .val (.ref b435), .val (.ref b498), .unset, .unset, .unset] [(.int (2 : Int32)), (.int (4 : Int32))])) (fun t k => ?_) ?_
          · show Steps p.tables e below (T533.setTop (mkF m 217 #[l0, l1, l2, l3, l4, .val (.int (4 : Int32)), .val (.ref bK), .val (.ref b435), .val (.ref b498), .unset, .unset, .unset] [(.int (own_w2 k1))])) t
            refine XS.ifYes X533.here hx rfl (pc0 := 217) (pc' := 226) rfl (hb hby at_217) rfl ((if0 _ _).trans (feq hc534).2) (by decide) (by decide) ?_
            refine XS.iload X533.here hx rfl (hb hby at_226) rfl ?_
            refine XS.iconst X533.here hx rfl (hb hby at_228) ?_
            exact k
          have hc537 : (2 : Int32) < (4 : Int32) := by decide
          refine OwnGo.of (A := T533.setTop (mkF m 229 #[l0, l1, l2, l3, l4, .val (.int (4 : Int32)), .val (.ref bK), .val (.ref b435), .val (.ref b498), .unset, .unset, .unset] [(.int (2 : Int32)), (.int (4 : Int32))])) (B := T533.setTop (mkF m 235 #[l0, l1, l2, l3, l4, .val (.int (4 : Int32)), .val (.ref bK), .val (.ref b435), .val (.ref b498), .unset, .unset, .unset] [(.int (2 : Int32)), (.ref bK)])) (fun t k => ?_) ?_
          · show Steps p.tables e below (T533.setTop (mkF m 229 #[l0, l1, l2, l3, l4, .val (.int (4 : Int32)), .val (.ref bK), .val (.ref b435), .val (.ref b498), .unset, .unset, .unset] [(.int (2 : Int32)), (.int (4 : Int32))])) t
            refine XS.icmpNo X533.here hx rfl (hb hby at_229) rfl (tlt hc537).2.2.2 ?_
            refine XS.aload X533.here hx rfl (hb hby at_232) rfl rfl ?_
            refine XS.iconst X533.here hx rfl (hb hby at_234) ?_
            exact k
          have cq538 := f517
          obtain ⟨clq538, Arq538, qq538, Sq538, Nq538, Hq538, Gq538⟩ := cq538
          have hinq538 := inb_of (j := (2 : Int32)) Sq538 ⟨by decide, by decide⟩
          refine OwnGo.of (X533.caload hx (j := (2 : Int32)) (v := (.int k2)) (by rw [eq533]; exact Arq538.1) (State.isArrayOf_alike hZ.alike Arq538.2.1) Arq538.2.2 hinq538 (Hq538.at hinq538 rfl) (g := (mkF m 235 #[l0, l1, l2, l3, l4, .val (.int (4 : Int32)), .val (.ref bK), .val (.ref b435), .val (.ref b498), .unset, .unset, .unset] [(.int (2 : Int32)), (.ref bK)])) rfl rfl (hb hby at_235)) ?_
          show OwnGo p.tables e below _ (T533.setTop (mkF m 236 #[l0, l1, l2, l3, l4, .val (.int (4 : Int32)), .val (.ref bK), .val (.ref b435), .val (.ref b498), .unset, .unset, .unset] [(.int k2)]))
          obtain ⟨T539, L539, v539, X539, hQ539, st539⟩ := own_callS X533 hx (y := (⟨"dev/boundaryline/model/HeaderValueTrimPinLaw", "ws", "(C)Z"⟩ : MethodName)) hown (mvT hZ (w73 hw)) (mvT hZ (w74 hw)) (mvT hZ (w4 hw)) (mvT hZ (w75 hw)) (by decide) (backOf (W := 0) (rm16 l Z aw hw [] k2  T511.heap n0 f513 ) hZ (w75 hw) (w4 hw) (by decide) (by decide)) (g := (mkF m 236 #[l0, l1, l2, l3, l4, .val (.int (4 : Int32)), .val (.ref bK), .val (.ref b435), .val (.ref b498), .unset, .unset, .unset] [(.int k2)])) rfl (by rw [hml]; rfl) (argsL := [(.int k2)]) (rest := []) (lenOf pd_22 rfl) rfl (by show 2 * 0 + _ ≤ _; exact Nat.le_of_eq rfl) (hb hby at_236) rfl eq533 (by decide) (by decide)
          obtain ⟨rfl, N539q, eq539⟩ := hQ539
          have N539 := Fr.app N533 N539q
          refine OwnGo.of st539 ?_
          show OwnGo p.tables e below _ (T539.setTop (mkF m 239 #[l0, l1, l2, l3, l4, .val (.int (4 : Int32)), .val (.ref bK), .val (.ref b435), .val (.ref b498), .unset, .unset, .unset] [(.int (own_w2 k2))]))
          by_cases hc540 : (own_w2 k2) = (0 : Int32)
          · have ew541 : own_wb k2 = false := own_wF hc540
            refine OwnGo.of (A := T539.setTop (mkF m 239 #[l0, l1, l2, l3, l4, .val (.int (4 : Int32)), .val (.ref bK), .val (.ref b435), .val (.ref b498), .unset, .unset, .unset] [(.int (own_w2 k2))])) (B := T539.setTop (mkF m 274 #[l0, l1, l2, l3, l4, .val (.int (4 : Int32)), .val (.ref bK), .val (.ref b435), .val (.ref b498), .val (.int (2 : Int32)), .unset, .unset] [])) (fun t k => ?_) ?_
            · show Steps p.tables e below (T539.setTop (mkF m 239 #[l0, l1, l2, l3, l4, .val (.int (4 : Int32)), .val (.ref bK), .val (.ref b435), .val (.ref b498), .unset, .unset, .unset] [(.int (own_w2 k2))])) t
              refine XS.ifNo X539.here hx rfl (hb hby at_239) rfl ((if0 _ _).trans (teq hc540).2) ?_
              refine XS.iconst X539.here hx rfl (hb hby at_242) ?_
              refine XS.istore X539.here hx rfl (hb hby at_243) rfl (l' := #[l0, l1, l2, l3, l4, .val (.int (4 : Int32)), .val (.ref bK), .val (.ref b435), .val (.ref b498), .val (.int (2 : Int32)), .unset, .unset]) rfl ?_
              refine XS.goto X539.here hx rfl (pc0 := 245) (pc' := 274) rfl (hb hby at_245) (by decide) (by decide) ?_
              exact k
            exact J274_4 (l0) (l1) (l2) (l3) (l4) T539 _ _ (.val (.ref b435)) bK kb b498 k0 k1 k2 k3 (2 : Int32) X539 eq539 N539 f513 f514 f515 f516 f517 hk0 hk1 hk2 hk3 ⟨_, _, y511E, y511V, y511C, f524, hp_b498, (Nat.le_of_ble_eq_true rfl)⟩ (Or.inr (Or.inr (Or.inl ⟨rfl, ew530, ew536, ew541⟩)))
          · have ew542 : own_wb k2 = true := own_wT hc540
            refine OwnGo.of (A := T539.setTop (mkF m 239 #[l0, l1, l2, l3, l4, .val (.int (4 : Int32)), .val (.ref bK), .val (.ref b435), .val (.ref b498), .unset, .unset, .unset] [(.int (own_w2 k2))])) (B := T539.setTop (mkF m 251 #[l0, l1, l2, l3, l4, .val (.int (4 : Int32)), .val (.ref bK), .val (.ref b435), .val (.ref b498), .unset, .unset, .unset] [(.int (3 : Int32)), (.int (4 : Int32))])) (fun t k => ?_) ?_
            · show Steps p.tables e below (T539.setTop (mkF m 239 #[l0, l1, l2, l3, l4, .val (.int (4 : Int32)), .val (.ref bK), .val (.ref b435), .val (.ref b498), .unset, .unset, .unset] [(.int (own_w2 k2))])) t
              refine XS.ifYes X539.here hx rfl (pc0 := 239) (pc' := 248) rfl (hb hby at_239) rfl ((if0 _ _).trans (feq hc540).2) (by decide) (by decide) ?_
              refine XS.iload X539.here hx rfl (hb hby at_248) rfl ?_
              refine XS.iconst X539.here hx rfl (hb hby at_250) ?_
              exact k
            have hc543 : (3 : Int32) < (4 : Int32) := by decide
            refine OwnGo.of (A := T539.setTop (mkF m 251 #[l0, l1, l2, l3, l4, .val (.int (4 : Int32)), .val (.ref bK), .val (.ref b435), .val (.ref b498), .unset, .unset, .unset] [(.int (3 : Int32)), (.int (4 : Int32))])) (B := T539.setTop (mkF m 257 #[l0, l1, l2, l3, l4, .val (.int (4 : Int32)), .val (.ref bK), .val (.ref b435), .val (.ref b498), .unset, .unset, .unset] [(.int (3 : Int32)), (.ref bK)])) (fun t k => ?_) ?_
            · show Steps p.tables e below (T539.setTop (mkF m 251 #[l0, l1, l2, l3, l4, .val (.int (4 : Int32)), .val (.ref bK), .val (.ref b435), .val (.ref b498), .unset, .unset, .unset] [(.int (3 : Int32)), (.int (4 : Int32))])) t
              refine XS.icmpNo X539.here hx rfl (hb hby at_251) rfl (tlt hc543).2.2.2 ?_
              refine XS.aload X539.here hx rfl (hb hby at_254) rfl rfl ?_
              refine XS.iconst X539.here hx rfl (hb hby at_256) ?_
              exact k
            have cq544 := f517
            obtain ⟨clq544, Arq544, qq544, Sq544, Nq544, Hq544, Gq544⟩ := cq544
            have hinq544 := inb_of (j := (3 : Int32)) Sq544 ⟨by decide, by decide⟩
            refine OwnGo.of (X539.caload hx (j := (3 : Int32)) (v := (.int k3)) (by rw [eq539]; exact Arq544.1) (State.isArrayOf_alike hZ.alike Arq544.2.1) Arq544.2.2 hinq544 (Hq544.at hinq544 rfl) (g := (mkF m 257 #[l0, l1, l2, l3, l4, .val (.int (4 : Int32)), .val (.ref bK), .val (.ref b435), .val (.ref b498), .unset, .unset, .unset] [(.int (3 : Int32)), (.ref bK)])) rfl rfl (hb hby at_257)) ?_
            show OwnGo p.tables e below _ (T539.setTop (mkF m 258 #[l0, l1, l2, l3, l4, .val (.int (4 : Int32)), .val (.ref bK), .val (.ref b435), .val (.ref b498), .unset, .unset, .unset] [(.int k3)]))
            obtain ⟨T545, L545, v545, X545, hQ545, st545⟩ := own_callS X539 hx (y := (⟨"dev/boundaryline/model/HeaderValueTrimPinLaw", "ws", "(C)Z"⟩ : MethodName)) hown (mvT hZ (w73 hw)) (mvT hZ (w74 hw)) (mvT hZ (w4 hw)) (mvT hZ (w75 hw)) (by decide) (backOf (W := 0) (rm16 l Z aw hw [] k3  T511.heap n0 f513 ) hZ (w75 hw) (w4 hw) (by decide) (by decide)) (g := (mkF m 258 #[l0, l1, l2, l3, l4, .val (.int (4 : Int32)), .val (.ref bK), .val (.ref b435), .val (.ref b498), .unset, .unset, .unset] [(.int k3)])) rfl (by rw [hml]; rfl) (argsL := [(.int k3)]) (rest := []) (lenOf pd_22 rfl) rfl (by show 2 * 0 + _ ≤ _; exact Nat.le_of_eq rfl) (hb hby at_258) rfl eq539 (by decide) (by decide)
            obtain ⟨rfl, N545q, eq545⟩ := hQ545
            have N545 := Fr.app N539 N545q
            refine OwnGo.of st545 ?_
            show OwnGo p.tables e below _ (T545.setTop (mkF m 261 #[l0, l1, l2, l3, l4, .val (.int (4 : Int32)), .val (.ref bK), .val (.ref b435), .val (.ref b498), .unset, .unset, .unset] [(.int (own_w2 k3))]))
            by_cases hc546 : (own_w2 k3) = (0 : Int32)
            · have ew547 : own_wb k3 = false := own_wF hc546
              refine OwnGo.of (A := T545.setTop (mkF m 261 #[l0, l1, l2, l3, l4, .val (.int (4 : Int32)), .val (.ref bK), .val (.ref b435), .val (.ref b498), .unset, .unset, .unset] [(.int (own_w2 k3))])) (B := T545.setTop (mkF m 274 #[l0, l1, l2, l3, l4, .val (.int (4 : Int32)), .val (.ref bK), .val (.ref b435), .val (.ref b498), .val (.int (3 : Int32)), .unset, .unset] [])) (fun t k => ?_) ?_
              · show Steps p.tables e below (T545.setTop (mkF m 261 #[l0, l1, l2, l3, l4, .val (.int (4 : Int32)), .val (.ref bK), .val (.ref b435), .val (.ref b498), .unset, .unset, .unset] [(.int (own_w2 k3))])) t
                refine XS.ifNo X545.here hx rfl (hb hby at_261) rfl ((if0 _ _).trans (teq hc546).2) ?_
                refine XS.iconst X545.here hx rfl (hb hby at_264) ?_
                refine XS.istore X545.here hx rfl (hb hby at_265) rfl (l' := #[l0, l1, l2, l3, l4, .val (.int (4 : Int32)), .val (.ref bK), .val (.ref b435), .val (.ref b498), .val (.int (3 : Int32)), .unset, .unset]) rfl ?_
                refine XS.goto X545.here hx rfl (pc0 := 267) (pc' := 274) rfl (hb hby at_267) (by decide) (by decide) ?_
                exact k
              exact J274_4 (l0) (l1) (l2) (l3) (l4) T545 _ _ (.val (.ref b435)) bK kb b498 k0 k1 k2 k3 (3 : Int32) X545 eq545 N545 f513 f514 f515 f516 f517 hk0 hk1 hk2 hk3 ⟨_, _, y511E, y511V, y511C, f524, hp_b498, (Nat.le_of_ble_eq_true rfl)⟩ (Or.inr (Or.inr (Or.inr (Or.inl ⟨rfl, ew530, ew536, ew542, ew547⟩))))
            · have ew548 : own_wb k3 = true := own_wT hc546
              refine OwnGo.of (A := T545.setTop (mkF m 261 #[l0, l1, l2, l3, l4, .val (.int (4 : Int32)), .val (.ref bK), .val (.ref b435), .val (.ref b498), .unset, .unset, .unset] [(.int (own_w2 k3))])) (B := T545.setTop (mkF m 274 #[l0, l1, l2, l3, l4, .val (.int (4 : Int32)), .val (.ref bK), .val (.ref b435), .val (.ref b498), .val (.int (4 : Int32)), .unset, .unset] [])) (fun t k => ?_) ?_
              · show Steps p.tables e below (T545.setTop (mkF m 261 #[l0, l1, l2, l3, l4, .val (.int (4 : Int32)), .val (.ref bK), .val (.ref b435), .val (.ref b498), .unset, .unset, .unset] [(.int (own_w2 k3))])) t
                refine XS.ifYes X545.here hx rfl (pc0 := 261) (pc' := 270) rfl (hb hby at_261) rfl ((if0 _ _).trans (feq hc546).2) (by decide) (by decide) ?_
                refine XS.iload X545.here hx rfl (hb hby at_270) rfl ?_
                refine XS.istore X545.here hx rfl (hb hby at_272) rfl (l' := #[l0, l1, l2, l3, l4, .val (.int (4 : Int32)), .val (.ref bK), .val (.ref b435), .val (.ref b498), .val (.int (4 : Int32)), .unset, .unset]) rfl ?_
                exact k
              exact J274_4 (l0) (l1) (l2) (l3) (l4) T545 _ _ (.val (.ref b435)) bK kb b498 k0 k1 k2 k3 (4 : Int32) X545 eq545 N545 f513 f514 f515 f516 f517 hk0 hk1 hk2 hk3 ⟨_, _, y511E, y511V, y511C, f524, hp_b498, (Nat.le_of_ble_eq_true rfl)⟩ (Or.inr (Or.inr (Or.inr (Or.inr (⟨rfl, ew530, ew536, ew542, ew548, trivial⟩)))))
  show OwnGo p.tables e below _ (s₁.setTop (mkF m 0 #[.val (.int p0), .val (.int p1), .val (.int p2), .val (.int p3), .val (.int p4), .unset, .unset, .unset, .unset, .unset, .unset, .unset] []))
  refine OwnGo.of (A := s₁.setTop (mkF m 0 #[.val (.int p0), .val (.int p1), .val (.int p2), .val (.int p3), .val (.int p4), .unset, .unset, .unset, .unset, .unset, .unset, .unset] [])) (B := s₁.setTop (mkF m 9 #[.val (.int p0), .val (.int p1), .val (.int p2), .val (.int p3), .val (.int p4), .val (.int ((p0 &&& (2147483647 : Int32)) % (5 : Int32))), .unset, .unset, .unset, .unset, .unset, .unset] [(.int (4 : Int32))])) (fun t k => ?_) ?_
  · show Steps p.tables e below (s₁.setTop (mkF m 0 #[.val (.int p0), .val (.int p1), .val (.int p2), .val (.int p3), .val (.int p4), .unset, .unset, .unset, .unset, .unset, .unset, .unset] [])) t
    refine XS.iloadN X0.here hx rfl (hb hby at_0) rfl ?_
    refine X0.ldcInt hx hown (mvT hZ (w0 hw)) (g := (mkF m 1 #[.val (.int p0), .val (.int p1), .val (.int p2), .val (.int p3), .val (.int p4), .unset, .unset, .unset, .unset, .unset, .unset, .unset] [(.int p0)])) rfl (hb hby at_1) _ ?_
    refine XS.iand X0.here hx rfl (hb hby at_3) rfl ?_
    refine XS.iconst X0.here hx rfl (hb hby at_4) ?_
    refine iremM X0 hx rfl (hb hby at_5) rfl (by decide) ?_
    refine XS.istore X0.here hx rfl (hb hby at_6) rfl (l' := #[.val (.int p0), .val (.int p1), .val (.int p2), .val (.int p3), .val (.int p4), .val (.int ((p0 &&& (2147483647 : Int32)) % (5 : Int32))), .unset, .unset, .unset, .unset, .unset, .unset]) rfl ?_
    refine XS.iconst X0.here hx rfl (hb hby at_8) ?_
    exact k
  obtain ⟨T549, h549, kq549, X549, e549, E549, A549, st549⟩ := newP (aty := .char) X0 hx hZ (w1 hw) e0 (g := (mkF m 9 #[.val (.int p0), .val (.int p1), .val (.int p2), .val (.int p3), .val (.int p4), .val (.int ((p0 &&& (2147483647 : Int32)) % (5 : Int32))), .unset, .unset, .unset, .unset, .unset, .unset] [(.int (4 : Int32))])) rfl (hb hby at_9) rfl (by decide) (cap := 4) (by decide) (by decide) (by decide) (by decide)
  obtain ⟨b549, g549⟩ : ∃ z, z = h0.size := ⟨_, rfl⟩
  rw [← g549] at A549 st549
  refine OwnGo.of st549 ?_
  have gn_b549 : Safe Z consts_1 s.vm h549 b549 := Safe.ext E549 C0.1 (Safe.new (Nat.le_of_eq g549.symm))
  have g_b549 : n0 ≤ b549 := Nat.le_trans Z0 (Nat.le_of_eq g549.symm)
  have sz_b549 : h0.size ≤ b549 := Nat.le_trans K0.1 (Nat.le_of_eq g549.symm)
  have cs550 := CHr.ext E549 C0.1
  have f551 := Nat.le_trans Z0 E549.1
  have f552 := B0.ext E549
  have f553 := C0.trans cs550
  have f554 := K0.ext E549
  have f555 : Arv Z h549 b549 kq549 .char (4 : Int32) [(.int (0 : Int32)), (.int (0 : Int32)), (.int (0 : Int32)), (.int (0 : Int32))] (.int (0 : Int32)) := (Arv.new A549 (by decide)).pad (pad_rep [] (.int (0 : Int32)) 4)
  show OwnGo p.tables e below _ (T549.setTop (mkF m 11 #[.val (.int p0), .val (.int p1), .val (.int p2), .val (.int p3), .val (.int p4), .val (.int ((p0 &&& (2147483647 : Int32)) % (5 : Int32))), .unset, .unset, .unset, .unset, .unset, .unset] [(.ref b549)]))
  refine OwnGo.of (A := T549.setTop (mkF m 11 #[.val (.int p0), .val (.int p1), .val (.int p2), .val (.int p3), .val (.int p4), .val (.int ((p0 &&& (2147483647 : Int32)) % (5 : Int32))), .unset, .unset, .unset, .unset, .unset, .unset] [(.ref b549)])) (B := T549.setTop (mkF m 14 #[.val (.int p0), .val (.int p1), .val (.int p2), .val (.int p3), .val (.int p4), .val (.int ((p0 &&& (2147483647 : Int32)) % (5 : Int32))), .unset, .unset, .unset, .unset, .unset, .unset] [(.int p1), (.int (0 : Int32)), (.ref b549), (.ref b549)])) (fun t k => ?_) ?_
  · show Steps p.tables e below (T549.setTop (mkF m 11 #[.val (.int p0), .val (.int p1), .val (.int p2), .val (.int p3), .val (.int p4), .val (.int ((p0 &&& (2147483647 : Int32)) % (5 : Int32))), .unset, .unset, .unset, .unset, .unset, .unset] [(.ref b549)])) t
    refine XS.dup X549.here hx rfl (hb hby at_11) rfl rfl ?_
    refine XS.iconst X549.here hx rfl (hb hby at_12) ?_
    refine XS.iloadN X549.here hx rfl (hb hby at_13) rfl ?_
    exact k
  obtain ⟨T556, L556, v556, X556, hQ556, st556⟩ := own_callS X549 hx (y := (⟨"dev/boundaryline/model/HeaderValueTrimPinLaw", "draw", "(I)C"⟩ : MethodName)) hown (mvT hZ (w2 hw)) (mvT hZ (w3 hw)) (mvT hZ (w4 hw)) (mvT hZ (w5 hw)) (by decide) (backOf (W := 3) (rm1 l Z aw hw [] p1  h549 n0 f551 ) hZ (w5 hw) (w4 hw) (by decide) (by decide)) (g := (mkF m 14 #[.val (.int p0), .val (.int p1), .val (.int p2), .val (.int p3), .val (.int p4), .val (.int ((p0 &&& (2147483647 : Int32)) % (5 : Int32))), .unset, .unset, .unset, .unset, .unset, .unset] [(.int p1), (.int (0 : Int32)), (.ref b549), (.ref b549)])) rfl (by rw [hml]; rfl) (argsL := [(.int p1)]) (rest := [(.int (0 : Int32)), (.ref b549), (.ref b549)]) (lenOf pd_15 rfl) rfl (by show 2 * 0 + _ ≤ _; exact Nat.le_of_eq rfl) (hb hby at_14) rfl e549 (by decide) (by decide)
  obtain ⟨rfl, N556q, eq556⟩ := hQ556
  have N556 := Fr.app N0 N556q
  refine OwnGo.of st556 ?_
  show OwnGo p.tables e below _ (T556.setTop (mkF m 17 #[.val (.int p0), .val (.int p1), .val (.int p2), .val (.int p3), .val (.int p4), .val (.int ((p0 &&& (2147483647 : Int32)) % (5 : Int32))), .unset, .unset, .unset, .unset, .unset, .unset] [(.int (own_draw p1)), (.int (0 : Int32)), (.ref b549), (.ref b549)]))
  have cq557 := f555
  obtain ⟨clq557, Arq557, qq557, Sq557, Nq557, Hq557, Gq557⟩ := cq557
  obtain ⟨T558, h558, X558, e558, W558, st558⟩ := stC X556 hx hZ eq556 Arq557 (j := (0 : Int32)) (inb_of Sq557 ⟨by decide, by decide⟩) (g := (mkF m 17 #[.val (.int p0), .val (.int p1), .val (.int p2), .val (.int p3), .val (.int p4), .val (.int ((p0 &&& (2147483647 : Int32)) % (5 : Int32))), .unset, .unset, .unset, .unset, .unset, .unset] [(.int (own_draw p1)), (.int (0 : Int32)), (.ref b549), (.ref b549)])) rfl rfl (hb hby at_17)
  refine OwnGo.of st558 ?_
  have N558 := Fr.snoc X558 N556 g_b549
  have cs559 := CHr.wr W558 gn_b549 f553.1
  have f560 := Nat.le_trans f551 (Keep.of_wr W558).1
  have f561 := f552.wr W558
  have f562 := f553.trans cs559
  have f563 := f554.wr W558 (Or.inr sz_b549)
  have f564 := cs559.safe f555.lt gn_b549
  have f565 : Arv Z h558 b549 kq549 .char (4 : Int32) [(.int ((own_draw p1)).toUInt32.toUInt16.toUInt32.toInt32), (.int (0 : Int32)), (.int (0 : Int32)), (.int (0 : Int32))] (.int (0 : Int32)) := Arv.set Arq557 qq557 Sq557 Nq557 Hq557 Gq557 (fits_nar_char _) W558 0 rfl (Nat.le_of_ble_eq_true rfl)
  show OwnGo p.tables e below _ (T558.setTop (mkF m 18 #[.val (.int p0), .val (.int p1), .val (.int p2), .val (.int p3), .val (.int p4), .val (.int ((p0 &&& (2147483647 : Int32)) % (5 : Int32))), .unset, .unset, .unset, .unset, .unset, .unset] [(.ref b549)]))
  refine OwnGo.of (A := T558.setTop (mkF m 18 #[.val (.int p0), .val (.int p1), .val (.int p2), .val (.int p3), .val (.int p4), .val (.int ((p0 &&& (2147483647 : Int32)) % (5 : Int32))), .unset, .unset, .unset, .unset, .unset, .unset] [(.ref b549)])) (B := T558.setTop (mkF m 21 #[.val (.int p0), .val (.int p1), .val (.int p2), .val (.int p3), .val (.int p4), .val (.int ((p0 &&& (2147483647 : Int32)) % (5 : Int32))), .unset, .unset, .unset, .unset, .unset, .unset] [(.int p2), (.int (1 : Int32)), (.ref b549), (.ref b549)])) (fun t k => ?_) ?_
  · show Steps p.tables e below (T558.setTop (mkF m 18 #[.val (.int p0), .val (.int p1), .val (.int p2), .val (.int p3), .val (.int p4), .val (.int ((p0 &&& (2147483647 : Int32)) % (5 : Int32))), .unset, .unset, .unset, .unset, .unset, .unset] [(.ref b549)])) t
    refine XS.dup X558.here hx rfl (hb hby at_18) rfl rfl ?_
    refine XS.iconst X558.here hx rfl (hb hby at_19) ?_
    refine XS.iloadN X558.here hx rfl (hb hby at_20) rfl ?_
    exact k
  obtain ⟨T566, L566, v566, X566, hQ566, st566⟩ := own_callS X558 hx (y := (⟨"dev/boundaryline/model/HeaderValueTrimPinLaw", "draw", "(I)C"⟩ : MethodName)) hown (mvT hZ (w2 hw)) (mvT hZ (w3 hw)) (mvT hZ (w4 hw)) (mvT hZ (w5 hw)) (by decide) (backOf (W := 3) (rm1 l Z aw hw [] p2  h558 n0 f560 ) hZ (w5 hw) (w4 hw) (by decide) (by decide)) (g := (mkF m 21 #[.val (.int p0), .val (.int p1), .val (.int p2), .val (.int p3), .val (.int p4), .val (.int ((p0 &&& (2147483647 : Int32)) % (5 : Int32))), .unset, .unset, .unset, .unset, .unset, .unset] [(.int p2), (.int (1 : Int32)), (.ref b549), (.ref b549)])) rfl (by rw [hml]; rfl) (argsL := [(.int p2)]) (rest := [(.int (1 : Int32)), (.ref b549), (.ref b549)]) (lenOf pd_15 rfl) rfl (by show 2 * 0 + _ ≤ _; exact Nat.le_of_eq rfl) (hb hby at_21) rfl e558 (by decide) (by decide)
  obtain ⟨rfl, N566q, eq566⟩ := hQ566
  have N566 := Fr.app N558 N566q
  refine OwnGo.of st566 ?_
  show OwnGo p.tables e below _ (T566.setTop (mkF m 24 #[.val (.int p0), .val (.int p1), .val (.int p2), .val (.int p3), .val (.int p4), .val (.int ((p0 &&& (2147483647 : Int32)) % (5 : Int32))), .unset, .unset, .unset, .unset, .unset, .unset] [(.int (own_draw p2)), (.int (1 : Int32)), (.ref b549), (.ref b549)]))
  have cq567 := f565
  obtain ⟨clq567, Arq567, qq567, Sq567, Nq567, Hq567, Gq567⟩ := cq567
  obtain ⟨T568, h568, X568, e568, W568, st568⟩ := stC X566 hx hZ eq566 Arq567 (j := (1 : Int32)) (inb_of Sq567 ⟨by decide, by decide⟩) (g := (mkF m 24 #[.val (.int p0), .val (.int p1), .val (.int p2), .val (.int p3), .val (.int p4), .val (.int ((p0 &&& (2147483647 : Int32)) % (5 : Int32))), .unset, .unset, .unset, .unset, .unset, .unset] [(.int (own_draw p2)), (.int (1 : Int32)), (.ref b549), (.ref b549)])) rfl rfl (hb hby at_24)
  refine OwnGo.of st568 ?_
  have N568 := Fr.snoc X568 N566 g_b549
  have cs569 := CHr.wr W568 f564 f562.1
  have f570 := Nat.le_trans f560 (Keep.of_wr W568).1
  have f571 := f561.wr W568
  have f572 := f562.trans cs569
  have f573 := f563.wr W568 (Or.inr sz_b549)
  have f574 := cs569.safe f565.lt f564
  have f575 : Arv Z h568 b549 kq549 .char (4 : Int32) [(.int ((own_draw p1)).toUInt32.toUInt16.toUInt32.toInt32), (.int ((own_draw p2)).toUInt32.toUInt16.toUInt32.toInt32), (.int (0 : Int32)), (.int (0 : Int32))] (.int (0 : Int32)) := Arv.set Arq567 qq567 Sq567 Nq567 Hq567 Gq567 (fits_nar_char _) W568 1 rfl (Nat.le_of_ble_eq_true rfl)
  show OwnGo p.tables e below _ (T568.setTop (mkF m 25 #[.val (.int p0), .val (.int p1), .val (.int p2), .val (.int p3), .val (.int p4), .val (.int ((p0 &&& (2147483647 : Int32)) % (5 : Int32))), .unset, .unset, .unset, .unset, .unset, .unset] [(.ref b549)]))
  refine OwnGo.of (A := T568.setTop (mkF m 25 #[.val (.int p0), .val (.int p1), .val (.int p2), .val (.int p3), .val (.int p4), .val (.int ((p0 &&& (2147483647 : Int32)) % (5 : Int32))), .unset, .unset, .unset, .unset, .unset, .unset] [(.ref b549)])) (B := T568.setTop (mkF m 28 #[.val (.int p0), .val (.int p1), .val (.int p2), .val (.int p3), .val (.int p4), .val (.int ((p0 &&& (2147483647 : Int32)) % (5 : Int32))), .unset, .unset, .unset, .unset, .unset, .unset] [(.int p3), (.int (2 : Int32)), (.ref b549), (.ref b549)])) (fun t k => ?_) ?_
  · show Steps p.tables e below (T568.setTop (mkF m 25 #[.val (.int p0), .val (.int p1), .val (.int p2), .val (.int p3), .val (.int p4), .val (.int ((p0 &&& (2147483647 : Int32)) % (5 : Int32))), .unset, .unset, .unset, .unset, .unset, .unset] [(.ref b549)])) t
    refine XS.dup X568.here hx rfl (hb hby at_25) rfl rfl ?_
    refine XS.iconst X568.here hx rfl (hb hby at_26) ?_
    refine XS.iloadN X568.here hx rfl (hb hby at_27) rfl ?_
    exact k
  obtain ⟨T576, L576, v576, X576, hQ576, st576⟩ := own_callS X568 hx (y := (⟨"dev/boundaryline/model/HeaderValueTrimPinLaw", "draw", "(I)C"⟩ : MethodName)) hown (mvT hZ (w2 hw)) (mvT hZ (w3 hw)) (mvT hZ (w4 hw)) (mvT hZ (w5 hw)) (by decide) (backOf (W := 3) (rm1 l Z aw hw [] p3  h568 n0 f570 ) hZ (w5 hw) (w4 hw) (by decide) (by decide)) (g := (mkF m 28 #[.val (.int p0), .val (.int p1), .val (.int p2), .val (.int p3), .val (.int p4), .val (.int ((p0 &&& (2147483647 : Int32)) % (5 : Int32))), .unset, .unset, .unset, .unset, .unset, .unset] [(.int p3), (.int (2 : Int32)), (.ref b549), (.ref b549)])) rfl (by rw [hml]; rfl) (argsL := [(.int p3)]) (rest := [(.int (2 : Int32)), (.ref b549), (.ref b549)]) (lenOf pd_15 rfl) rfl (by show 2 * 0 + _ ≤ _; exact Nat.le_of_eq rfl) (hb hby at_28) rfl e568 (by decide) (by decide)
  obtain ⟨rfl, N576q, eq576⟩ := hQ576
  have N576 := Fr.app N568 N576q
  refine OwnGo.of st576 ?_
  show OwnGo p.tables e below _ (T576.setTop (mkF m 31 #[.val (.int p0), .val (.int p1), .val (.int p2), .val (.int p3), .val (.int p4), .val (.int ((p0 &&& (2147483647 : Int32)) % (5 : Int32))), .unset, .unset, .unset, .unset, .unset, .unset] [(.int (own_draw p3)), (.int (2 : Int32)), (.ref b549), (.ref b549)]))
  have cq577 := f575
  obtain ⟨clq577, Arq577, qq577, Sq577, Nq577, Hq577, Gq577⟩ := cq577
  obtain ⟨T578, h578, X578, e578, W578, st578⟩ := stC X576 hx hZ eq576 Arq577 (j := (2 : Int32)) (inb_of Sq577 ⟨by decide, by decide⟩) (g := (mkF m 31 #[.val (.int p0), .val (.int p1), .val (.int p2), .val (.int p3), .val (.int p4), .val (.int ((p0 &&& (2147483647 : Int32)) % (5 : Int32))), .unset, .unset, .unset, .unset, .unset, .unset] [(.int (own_draw p3)), (.int (2 : Int32)), (.ref b549), (.ref b549)])) rfl rfl (hb hby at_31)
  refine OwnGo.of st578 ?_
  have N578 := Fr.snoc X578 N576 g_b549
  have cs579 := CHr.wr W578 f574 f572.1
  have f580 := Nat.le_trans f570 (Keep.of_wr W578).1
  have f581 := f571.wr W578
  have f582 := f572.trans cs579
  have f583 := f573.wr W578 (Or.inr sz_b549)
  have f584 := cs579.safe f575.lt f574
  have f585 : Arv Z h578 b549 kq549 .char (4 : Int32) [(.int ((own_draw p1)).toUInt32.toUInt16.toUInt32.toInt32), (.int ((own_draw p2)).toUInt32.toUInt16.toUInt32.toInt32), (.int ((own_draw p3)).toUInt32.toUInt16.toUInt32.toInt32), (.int (0 : Int32))] (.int (0 : Int32)) := Arv.set Arq577 qq577 Sq577 Nq577 Hq577 Gq577 (fits_nar_char _) W578 2 rfl (Nat.le_of_ble_eq_true rfl)
  show OwnGo p.tables e below _ (T578.setTop (mkF m 32 #[.val (.int p0), .val (.int p1), .val (.int p2), .val (.int p3), .val (.int p4), .val (.int ((p0 &&& (2147483647 : Int32)) % (5 : Int32))), .unset, .unset, .unset, .unset, .unset, .unset] [(.ref b549)]))
  refine OwnGo.of (A := T578.setTop (mkF m 32 #[.val (.int p0), .val (.int p1), .val (.int p2), .val (.int p3), .val (.int p4), .val (.int ((p0 &&& (2147483647 : Int32)) % (5 : Int32))), .unset, .unset, .unset, .unset, .unset, .unset] [(.ref b549)])) (B := T578.setTop (mkF m 36 #[.val (.int p0), .val (.int p1), .val (.int p2), .val (.int p3), .val (.int p4), .val (.int ((p0 &&& (2147483647 : Int32)) % (5 : Int32))), .unset, .unset, .unset, .unset, .unset, .unset] [(.int p4), (.int (3 : Int32)), (.ref b549), (.ref b549)])) (fun t k => ?_) ?_
  · show Steps p.tables e below (T578.setTop (mkF m 32 #[.val (.int p0), .val (.int p1), .val (.int p2), .val (.int p3), .val (.int p4), .val (.int ((p0 &&& (2147483647 : Int32)) % (5 : Int32))), .unset, .unset, .unset, .unset, .unset, .unset] [(.ref b549)])) t
    refine XS.dup X578.here hx rfl (hb hby at_32) rfl rfl ?_
    refine XS.iconst X578.here hx rfl (hb hby at_33) ?_
    refine XS.iload X578.here hx rfl (hb hby at_34) rfl ?_
    exact k
  obtain ⟨T586, L586, v586, X586, hQ586, st586⟩ := own_callS X578 hx (y := (⟨"dev/boundaryline/model/HeaderValueTrimPinLaw", "draw", "(I)C"⟩ : MethodName)) hown (mvT hZ (w2 hw)) (mvT hZ (w3 hw)) (mvT hZ (w4 hw)) (mvT hZ (w5 hw)) (by decide) (backOf (W := 3) (rm1 l Z aw hw [] p4  h578 n0 f580 ) hZ (w5 hw) (w4 hw) (by decide) (by decide)) (g := (mkF m 36 #[.val (.int p0), .val (.int p1), .val (.int p2), .val (.int p3), .val (.int p4), .val (.int ((p0 &&& (2147483647 : Int32)) % (5 : Int32))), .unset, .unset, .unset, .unset, .unset, .unset] [(.int p4), (.int (3 : Int32)), (.ref b549), (.ref b549)])) rfl (by rw [hml]; rfl) (argsL := [(.int p4)]) (rest := [(.int (3 : Int32)), (.ref b549), (.ref b549)]) (lenOf pd_15 rfl) rfl (by show 2 * 0 + _ ≤ _; exact Nat.le_of_eq rfl) (hb hby at_36) rfl e578 (by decide) (by decide)
  obtain ⟨rfl, N586q, eq586⟩ := hQ586
  have N586 := Fr.app N578 N586q
  refine OwnGo.of st586 ?_
  show OwnGo p.tables e below _ (T586.setTop (mkF m 39 #[.val (.int p0), .val (.int p1), .val (.int p2), .val (.int p3), .val (.int p4), .val (.int ((p0 &&& (2147483647 : Int32)) % (5 : Int32))), .unset, .unset, .unset, .unset, .unset, .unset] [(.int (own_draw p4)), (.int (3 : Int32)), (.ref b549), (.ref b549)]))
  have cq587 := f585
  obtain ⟨clq587, Arq587, qq587, Sq587, Nq587, Hq587, Gq587⟩ := cq587
  obtain ⟨T588, h588, X588, e588, W588, st588⟩ := stC X586 hx hZ eq586 Arq587 (j := (3 : Int32)) (inb_of Sq587 ⟨by decide, by decide⟩) (g := (mkF m 39 #[.val (.int p0), .val (.int p1), .val (.int p2), .val (.int p3), .val (.int p4), .val (.int ((p0 &&& (2147483647 : Int32)) % (5 : Int32))), .unset, .unset, .unset, .unset, .unset, .unset] [(.int (own_draw p4)), (.int (3 : Int32)), (.ref b549), (.ref b549)])) rfl rfl (hb hby at_39)
  refine OwnGo.of st588 ?_
  have N588 := Fr.snoc X588 N586 g_b549
  have cs589 := CHr.wr W588 f584 f582.1
  have f590 := Nat.le_trans f580 (Keep.of_wr W588).1
  have f591 := f581.wr W588
  have f592 := f582.trans cs589
  have f593 := f583.wr W588 (Or.inr sz_b549)
  have f594 := cs589.safe f585.lt f584
  have f595 : Arv Z h588 b549 kq549 .char (4 : Int32) [(.int ((own_draw p1)).toUInt32.toUInt16.toUInt32.toInt32), (.int ((own_draw p2)).toUInt32.toUInt16.toUInt32.toInt32), (.int ((own_draw p3)).toUInt32.toUInt16.toUInt32.toInt32), (.int ((own_draw p4)).toUInt32.toUInt16.toUInt32.toInt32)] (.int (0 : Int32)) := Arv.set Arq587 qq587 Sq587 Nq587 Hq587 Gq587 (fits_nar_char _) W588 3 rfl (Nat.le_of_ble_eq_true rfl)
  show OwnGo p.tables e below _ (T588.setTop (mkF m 40 #[.val (.int p0), .val (.int p1), .val (.int p2), .val (.int p3), .val (.int p4), .val (.int ((p0 &&& (2147483647 : Int32)) % (5 : Int32))), .unset, .unset, .unset, .unset, .unset, .unset] [(.ref b549)]))
  refine OwnGo.of (A := T588.setTop (mkF m 40 #[.val (.int p0), .val (.int p1), .val (.int p2), .val (.int p3), .val (.int p4), .val (.int ((p0 &&& (2147483647 : Int32)) % (5 : Int32))), .unset, .unset, .unset, .unset, .unset, .unset] [(.ref b549)])) (B := T588.setTop (mkF m 42 #[.val (.int p0), .val (.int p1), .val (.int p2), .val (.int p3), .val (.int p4), .val (.int ((p0 &&& (2147483647 : Int32)) % (5 : Int32))), .val (.ref b549), .unset, .unset, .unset, .unset, .unset] [])) (fun t k => ?_) ?_
  · show Steps p.tables e below (T588.setTop (mkF m 40 #[.val (.int p0), .val (.int p1), .val (.int p2), .val (.int p3), .val (.int p4), .val (.int ((p0 &&& (2147483647 : Int32)) % (5 : Int32))), .unset, .unset, .unset, .unset, .unset, .unset] [(.ref b549)])) t
    refine XS.astore X588.here hx rfl (hb hby at_40) rfl rfl (l' := #[.val (.int p0), .val (.int p1), .val (.int p2), .val (.int p3), .val (.int p4), .val (.int ((p0 &&& (2147483647 : Int32)) % (5 : Int32))), .val (.ref b549), .unset, .unset, .unset, .unset, .unset]) rfl ?_
    exact k
  exact J42_a (.val (.int p0)) (.val (.int p1)) (.val (.int p2)) (.val (.int p3)) (.val (.int p4)) T588 _ _ b549 kq549 (((own_draw p1)).toUInt32.toUInt16.toUInt32.toInt32) (((own_draw p2)).toUInt32.toUInt16.toUInt32.toInt32) (((own_draw p3)).toUInt32.toUInt16.toUInt32.toInt32) (((own_draw p4)).toUInt32.toUInt16.toUInt32.toInt32) ((p0 &&& (2147483647 : Int32)) % (5 : Int32)) X588 e588 N588 f590 f593 f591 f592 f595 (own_ch (own_drawC _)) (own_ch (own_drawC _)) (own_ch (own_drawC _)) (own_ch (own_drawC _)) (own_ix _)
set_option maxRecDepth 65536 in
set_option maxHeartbeats 40000000 in
theorem comes_1 {Post : Tables → Env → Array Value → State → Outcome → State → Prop} (hpost : ∀ tb e args s v u, (limb_1_1.after args s (.returned v) u = true ∧ limb_1_2.after args s (.returned v) u = true ∧ True) → Jvm.D.FramedW s (.returned v) u (Jvm.fieldLocs frame_1_writes args s ++ Jvm.arrayLocs frame_1_arrays args s ++ Jvm.staticLocs frame_1_statics s) 24 2176 → Post tb e args s (.returned v) u) :
    ArmFor flags0 classFile x code maxLocals ret World_1 tables_1 room_1 Calls_1 rest_1 Pre_1 Post := by
  intro l hfl _ _ p e ha hc hk s m args below hf hA hF happ hP
  obtain ⟨hcalls, hrest, hpre⟩ := hP
  obtain ⟨-, -, -, hnamed, -, -, -, hat⟩ := (Spec.applies_iff hf).mp happ
  obtain ⟨hg, hn⟩ := and_e (Cond.before_iff.mp (show (Jvm.Cond.and given_1 narrow_1).before args s = true from hpre))
  obtain ⟨gg1, gg2⟩ := and_e hg
  obtain ⟨gg3, gg4⟩ := and_e gg2
  obtain ⟨gg5, gg6⟩ := and_e gg4
  obtain ⟨gg7, gg8⟩ := and_e gg6
  obtain ⟨gg9, gg10⟩ := and_e gg8
  obtain ⟨w0, w1, w2, w3, w4, rfl⟩ : ∃ w0 w1 w2 w3 w4 : Value, args = #[w0, w1, w2, w3, w4] := by
    have hs : args.size = 5 := by simpa [Cond.value, given_1] using gg1
    obtain ⟨L⟩ := args
    match L, hs with
    | [w0, w1, w2, w3, w4], _ => exact ⟨w0, w1, w2, w3, w4, rfl⟩
  have hw := fun d (hd : d ∈ tables_1) => atoms_spec (ws := Jvm.Cond.code x code maxLocals ret :: tables_1) hat d (List.mem_cons_of_mem _ hd)
  have hfit : Fit s := fun {y c} hc i hi => by
    obtain ⟨ha, rfl⟩ := Array.getElem?_eq_some_iff.mp hc
    have q := List.all_eq_true.mp ((Array.all_eq_true_iff_forall_mem.mp hF) _ (Array.getElem_mem ha)) i (List.mem_range.mpr hi)
    simpa [Array.getElem?_eq_getElem hi] using q
  obtain ⟨hsets, hown0⟩ := atoms_of _ (rest_1_c_eq ▸ (show rest_1_c.before _ s = true from hrest))
  have hr0 := Cond.before_iff.mp hown0
  obtain ⟨i0, ei0⟩ := is_v gg3
  obtain rfl : w0 = (.int i0) := Option.some.inj ei0
  obtain ⟨i1, ei1⟩ := is_v gg5
  obtain rfl : w1 = (.int i1) := Option.some.inj ei1
  obtain ⟨i2, ei2⟩ := is_v gg7
  obtain rfl : w2 = (.int i2) := Option.some.inj ei2
  obtain ⟨i3, ei3⟩ := is_v gg9
  obtain rfl : w3 = (.int i3) := Option.some.inj ei3
  obtain ⟨i4, ei4⟩ := is_v gg10
  obtain rfl : w4 = (.int i4) := Option.some.inj ei4
  obtain ⟨zc, evz⟩ := is_v (Cond.before_iff.mp (hsets _ (List.mem_of_getElem? (i := 1) rfl)))
  have S_C : Sta s s.heap "java/lang/String" "COMPACT_STRINGS" "Z" (.int zc) := Sta.start evz (Or.inl (hsets _ (List.mem_of_getElem? (i := 0) rfl)))
  have hzc : ¬ (zc = (0 : Int32)) := gotF (Cond.eq_ints evz (Term.int_eval (0))) (not_v (Cond.before_iff.mp (hsets _ (List.mem_of_getElem? (i := 2) rfl))))
  obtain ⟨fm, evf, rf⟩ := isR_v (Cond.before_iff.mp (hsets _ (List.mem_of_getElem? (i := 8) rfl)))
  have S_F : Sta s s.heap "jdk/internal/util/Preconditions" "SIOOBE_FORMATTER" "Ljava/util/function/BiFunction;" fm := Sta.start evf (Or.inl (hsets _ (List.mem_of_getElem? (i := 7) rfl)))
  have hC0 : CHv s consts_1 s.vm s.heap := CHv.start (own_EW hw) (fun p hp => hcalls.1 p hp) (hsets _ (List.mem_of_getElem? (i := 2) rfl)) (w20 hw) (w7 hw)
  obtain ⟨n, o, h1, h2, h3, _, L, rfl, ⟨rfl, N⟩, -, hq⟩ := rm0 l s _ hw tables_1 i0 i1 i2 i3 i4 zc fm s.heap s.heap.size (Nat.le_refl _) S_C hzc S_F rf p e ha hc hk s m _ below hf ((Spec.applies_iff_loose hf).mp happ).1 ⟨rfl, State.Warmed39.refl s, rfl, hC0, fun x hx => nomatch hx⟩ trivial
  refine ⟨n, _, h1, h2, h3, hpost _ _ _ _ _ _ ⟨Cond.after_iff.mpr rfl, Cond.after_iff.mpr (eq_i res_at (Term.int_eval (1)) rfl), trivial⟩ ⟨hq.1, hq.2.1, hq.2.2.1, (hq.2.2.2.sift fun y hy => Or.inr (N y hy)).mono (by decide) (by decide)⟩⟩
theorem main_1_1 : Claimed_1_1 := comes_1 fun _ _ _ _ _ _ h hF => ⟨h.1, hF⟩
theorem main_1_2 : Claimed_1_2 := comes_1 fun _ _ _ _ _ _ h hF => ⟨h.2.1, hF⟩
end Jvm.Pilot.@@N@@
namespace Jvm.Pilot.@@N@@
open Jvm Jvm.ClassFile Sem Op Lib Jvm.Free Jvm.Stand Jvm.Pilot.@@N@@.Jvm.D
/-! MADE BY PROGRAM (witnessworld.py) out of the Statement's table words and the real class files: 23 classes; the members and pool entries that the words name. The judged class is class 1, her method 4. -/
namespace start1
open Jvm.ClassFile
def u (s : String) : CpInfo := .utf8 (stringToUtf16 s)
/-- a pool by its gaps: so many unusable entries, then the entry; so many at the end -/
def gap : Nat → List CpInfo → List CpInfo
  | 0, r => r
  | n + 1, r => .unusable :: gap n r
def poolList (es : List (Nat × CpInfo)) (last : Nat) : List CpInfo := es.foldr (fun e r => gap e.1 (e.2 :: r)) (gap last [])
def pool (es : List (Nat × CpInfo)) (last : Nat) : Array CpInfo := ⟨poolList es last⟩
def fileOf (pool : Array CpInfo) (this : Nat) (attrs : Array Attribute := #[]) (ms : Array MethodInfo := #[]) (fl : Nat := 33) (sup : Nat := 0) (ifs : Array Nat := #[]) (fds : Array FieldInfo := #[]) : ClassFile where
  minorVersion := 0
  majorVersion := 65
  constantPool := pool
  accessFlags := fl
  thisClass := this
  superClass := sup
  interfaces := ifs
  fields := fds
  methods := ms
  attributes := attrs
def plain (name : String) (sup : Option ClassId) : Class where
  name := name
  kind := .ordinary
  loader := none
  accessFlags := 33
  super := sup
  interfaces := #[]
  cf := none
  fields := #[]
  methods := #[]
  instanceTypes := #[]
  staticTypes := #[]
  resolved := #[]
  callSites := []
  init := .initialized
  statics := none
  mirror := none

def pool0 : Array CpInfo := pool [(5, u "<init>"), (0, u "()V"), (1, .class_ 10), (1, u "java/lang/Object")] 113

def k0c0 : Code := { maxStack := 0, maxLocals := 1, code := object_method_1_code, exceptionTable := #[], attributes := #[] }
def k0m0 : Method := { name := "<init>", desc := "()V", sig := { parameters := [], returnType := none }, accessFlags := 1, code := some k0c0 }
/-- java/lang/Object -/
def k0 : Class := { plain "java/lang/Object" none with
  accessFlags := 33
  interfaces := #[]
  cf := some (fileOf pool0 8 #[] #[{ accessFlags := 1, nameIndex := 5, descriptorIndex := 6, attributes := #[] }] 33 0 #[] #[])
  fields := #[]
  methods := #[k0m0]
  instanceTypes := #[]
  staticTypes := #[]
  resolved := Array.replicate 124 none
  statics := none }

def pool1 : Array CpInfo := pool [(2, .class_ 4), (1, u "java/lang/Object"), (0, u "<init>"), (0, u "()V"), (0, .methodref 8 9), (0, .class_ 10), (0, .nameAndType 11 12), (0, u "java/lang/String"), (0, u "length"), (0, u "()I"), (0, .methodref 8 14), (0, .nameAndType 15 16), (0, u "charAt"), (0, u "(I)C"), (0, .integer 2147483647), (0, .methodref 19 20), (0, .class_ 21), (0, .nameAndType 22 16), (0, u "dev/boundaryline/model/HeaderValueTrimPinLaw"), (0, u "draw"), (0, .methodref 8 24), (0, .nameAndType 5 25), (0, u "([C)V"), (0, .methodref 19 27), (0, .nameAndType 28 29), (0, u "ws"), (0, u "(C)Z"), (0, .methodref 31 32), (0, .class_ 33), (0, .nameAndType 34 35), (0, u "dev/boundaryline/model/HeaderValue"), (0, u "trim"), (0, u "(Ljava/lang/String;)Ljava/lang/String;"), (0, .methodref 19 37), (0, .nameAndType 38 39), (0, u "same"), (0, u "(Ljava/lang/String;[CII)Z"), (3, u "law"), (0, u "(IIIII)Z")] 4

def k1m0 : Method := { name := "<init>", desc := "()V", sig := { parameters := [], returnType := none }, accessFlags := 1, code := none }
def k1c1 : Code := { maxStack := 2, maxLocals := 2, code := method_2_code, exceptionTable := #[], attributes := #[] }
def k1m1 : Method := { name := "draw", desc := "(I)C", sig := { parameters := [.int], returnType := some .char }, accessFlags := 10, code := some k1c1 }
def k1c2 : Code := { maxStack := 2, maxLocals := 1, code := method_3_code, exceptionTable := #[], attributes := #[] }
def k1m2 : Method := { name := "ws", desc := "(C)Z", sig := { parameters := [.char], returnType := some .boolean }, accessFlags := 10, code := some k1c2 }
def k1c3 : Code := { maxStack := 4, maxLocals := 4, code := method_4_code, exceptionTable := #[], attributes := #[] }
def k1m3 : Method := { name := "same", desc := "(Ljava/lang/String;[CII)Z", sig := { parameters := [(.object "java/lang/String"), (.array .char), .int, .int], returnType := some .boolean }, accessFlags := 10, code := some k1c3 }
def k1c4 : Code := { maxStack := 5, maxLocals := 12, code := code, exceptionTable := #[], attributes := #[] }
def k1m4 : Method := { name := "law", desc := "(IIIII)Z", sig := { parameters := [.int, .int, .int, .int, .int], returnType := some .boolean }, accessFlags := 9, code := some k1c4 }
/-- dev/boundaryline/model/HeaderValueTrimPinLaw -/
def k1 : Class := { plain "dev/boundaryline/model/HeaderValueTrimPinLaw" (some 0) with
  accessFlags := 49
  interfaces := #[]
  cf := some (fileOf pool1 19 #[] #[{ accessFlags := 1, nameIndex := 5, descriptorIndex := 6, attributes := #[] }, { accessFlags := 10, nameIndex := 22, descriptorIndex := 16, attributes := #[] }, { accessFlags := 10, nameIndex := 28, descriptorIndex := 29, attributes := #[] }, { accessFlags := 10, nameIndex := 38, descriptorIndex := 39, attributes := #[] }, { accessFlags := 9, nameIndex := 43, descriptorIndex := 44, attributes := #[] }] 49 2 #[] #[])
  fields := #[]
  methods := #[k1m0, k1m1, k1m2, k1m3, k1m4]
  instanceTypes := #[]
  staticTypes := #[]
  resolved := Array.replicate 49 none
  statics := none }

def pool2 : Array CpInfo := pool [(1, .class_ 2), (0, u "java/io/Serializable"), (0, .class_ 4), (0, u "java/lang/Object")] 2

/-- java/io/Serializable -/
def k2 : Class := { plain "java/io/Serializable" (some 0) with
  accessFlags := 1537
  interfaces := #[]
  cf := some (fileOf pool2 1 #[] #[] 1537 3 #[] #[])
  fields := #[]
  methods := #[]
  instanceTypes := #[]
  staticTypes := #[]
  resolved := Array.replicate 7 none
  statics := none }

def pool3 : Array CpInfo := pool [(1, .class_ 2), (0, u "java/lang/Comparable"), (0, .class_ 4), (0, u "java/lang/Object")] 7

/-- java/lang/Comparable -/
def k3 : Class := { plain "java/lang/Comparable" (some 0) with
  accessFlags := 1537
  interfaces := #[]
  cf := some (fileOf pool3 1 #[] #[] 1537 3 #[] #[])
  fields := #[]
  methods := #[]
  instanceTypes := #[]
  staticTypes := #[]
  resolved := Array.replicate 12 none
  statics := none }

def pool4 : Array CpInfo := pool [(2, .class_ 4), (1, u "java/lang/CharSequence"), (42, .class_ 48), (0, u "java/lang/CharSequence$1CodePointIterator"), (10, .class_ 60), (0, u "java/lang/CharSequence$1CharIterator"), (5, .class_ 67), (0, u "java/lang/Object")] 63

/-- java/lang/CharSequence -/
def k4 : Class := { plain "java/lang/CharSequence" (some 0) with
  accessFlags := 1537
  interfaces := #[]
  cf := some (fileOf pool4 2 #[.nestMembers #[47, 59]] #[] 1537 66 #[] #[])
  fields := #[]
  methods := #[]
  instanceTypes := #[]
  staticTypes := #[]
  resolved := Array.replicate 131 none
  statics := none }

def pool5 : Array CpInfo := pool [(1, .class_ 2), (0, u "java/lang/constant/Constable"), (0, .class_ 4), (0, u "java/lang/Object")] 6

/-- java/lang/constant/Constable -/
def k5 : Class := { plain "java/lang/constant/Constable" (some 0) with
  accessFlags := 1537
  interfaces := #[]
  cf := some (fileOf pool5 1 #[] #[] 1537 3 #[] #[])
  fields := #[]
  methods := #[]
  instanceTypes := #[]
  staticTypes := #[]
  resolved := Array.replicate 11 none
  statics := none }

def pool6 : Array CpInfo := pool [(1, .class_ 2), (0, u "java/lang/constant/ConstantDesc"), (0, .class_ 4), (0, u "java/lang/Object")] 32

/-- java/lang/constant/ConstantDesc -/
def k6 : Class := { plain "java/lang/constant/ConstantDesc" (some 0) with
  accessFlags := 1537
  interfaces := #[]
  cf := some (fileOf pool6 1 #[] #[] 1537 3 #[] #[])
  fields := #[]
  methods := #[]
  instanceTypes := #[]
  staticTypes := #[]
  resolved := Array.replicate 37 none
  statics := none }

def pool7 : Array CpInfo := pool [(1, .methodref 2 3), (0, .class_ 4), (0, .nameAndType 5 6), (0, u "java/lang/Object"), (0, u "<init>"), (0, u "()V"), (0, .string 8), (0, u ""), (0, .fieldref 10 11), (0, .class_ 12), (0, .nameAndType 13 14), (0, u "java/lang/String"), (0, u "value"), (0, u "[B"), (0, .fieldref 10 16), (0, .nameAndType 17 18), (0, u "coder"), (0, u "B"), (2, u "hash"), (0, u "I"), (2, u "hashIsZero"), (0, u "Z"), (0, .methodref 10 28), (0, .nameAndType 5 29), (0, u "([CIILjava/lang/Void;)V"), (8, .fieldref 10 39), (0, .nameAndType 40 26), (0, u "COMPACT_STRINGS"), (1, .class_ 44), (1, u "java/lang/StringUTF16"), (0, u "compress"), (1, .methodref 42 48), (0, .nameAndType 49 50), (0, u "coderFromArrayLen"), (0, u "([BI)B"), (56, .class_ 109), (1, u "java/lang/StringLatin1"), (32, u "()Z"), (34, .methodref 42 178), (0, .nameAndType 45 179), (0, u "([CII)[B"), (31, u "([BB)V"), (122, u "()I"), (0, .methodref 10 336), (0, .nameAndType 17 337), (0, u "()B"), (25, u "([BI)C"), (27, u "(II)V"), (35, u "(I)C"), (64, .methodref 10 493), (0, .nameAndType 494 142), (0, u "isLatin1"), (0, .methodref 107 496), (0, .nameAndType 497 363), (0, u "charAt"), (3, u "checkIndex"), (3, .methodref 10 506), (0, .nameAndType 507 334), (0, u "length"), (5, u "checkFromToIndex"), (7, .methodref 10 522), (0, .nameAndType 523 524), (0, u "checkBoundsBeginEnd"), (0, u "(III)V"), (50, .class_ 576), (0, u "java/lang/CharSequence"), (22, u "CASE_INSENSITIVE_ORDER"), (0, u "Ljava/util/Comparator;"), (82, u "substring"), (0, u "(II)Ljava/lang/String;"), (0, .methodref 107 686), (0, .nameAndType 687 688), (0, u "newString"), (0, u "([BII)Ljava/lang/String;"), (321, u "([C)V"), (42, .fieldref 1054 1055), (0, .class_ 1056), (0, .nameAndType 1057 1058), (0, u "jdk/internal/util/Preconditions"), (0, u "SIOOBE_FORMATTER"), (0, u "Ljava/util/function/BiFunction;"), (0, .methodref 1054 1060), (0, .nameAndType 501 1061), (0, u "(IILjava/util/function/BiFunction;)I"), (0, .methodref 1054 1063), (0, .nameAndType 513 1064), (0, u "(IIILjava/util/function/BiFunction;)I"), (36, u "serialPersistentFields"), (0, u "[Ljava/io/ObjectStreamField;"), (0, .class_ 1104), (0, u "java/lang/String$CaseInsensitiveComparator"), (1, .class_ 1107), (0, u "java/io/Serializable"), (0, .class_ 1109), (0, u "java/lang/Comparable"), (0, .class_ 1111), (0, u "java/lang/constant/Constable"), (0, .class_ 1113), (0, u "java/lang/constant/ConstantDesc"), (2, u "serialVersionUID"), (0, u "J"), (3, u "REPL"), (0, u "C"), (2, u "LATIN1"), (1, u "UTF16")] 323

def k7m0 : Method := { name := "<init>", desc := "()V", sig := { parameters := [], returnType := none }, accessFlags := 1, code := none }
def k7c1 : Code := { maxStack := 5, maxLocals := 2, code := jdk_42_method_3_code, exceptionTable := #[], attributes := #[] }
def k7m1 : Method := { name := "<init>", desc := "([C)V", sig := { parameters := [(.array .char)], returnType := none }, accessFlags := 1, code := some k7c1 }
def k7c2 : Code := { maxStack := 2, maxLocals := 1, code := jdk_42_method_54_code, exceptionTable := #[], attributes := #[] }
def k7m2 : Method := { name := "length", desc := "()I", sig := { parameters := [], returnType := some .int }, accessFlags := 1, code := some k7c2 }
def k7c3 : Code := { maxStack := 2, maxLocals := 2, code := jdk_42_method_56_code, exceptionTable := #[], attributes := #[] }
def k7m3 : Method := { name := "charAt", desc := "(I)C", sig := { parameters := [.int], returnType := some .char }, accessFlags := 1, code := some k7c3 }
def k7c4 : Code := { maxStack := 3, maxLocals := 5, code := jdk_42_method_92_code, exceptionTable := #[], attributes := #[] }
def k7m4 : Method := { name := "substring", desc := "(II)Ljava/lang/String;", sig := { parameters := [.int, .int], returnType := some (.object "java/lang/String") }, accessFlags := 1, code := some k7c4 }
def k7c5 : Code := { maxStack := 4, maxLocals := 6, code := jdk_42_method_149_code, exceptionTable := #[], attributes := #[] }
def k7m5 : Method := { name := "<init>", desc := "([CIILjava/lang/Void;)V", sig := { parameters := [(.array .char), .int, .int, (.object "java/lang/Void")], returnType := none }, accessFlags := 2, code := some k7c5 }
def k7c6 : Code := { maxStack := 2, maxLocals := 3, code := jdk_42_method_151_code, exceptionTable := #[], attributes := #[] }
def k7m6 : Method := { name := "<init>", desc := "([BB)V", sig := { parameters := [(.array .byte), .byte], returnType := none }, accessFlags := 0, code := some k7c6 }
def k7c7 : Code := { maxStack := 1, maxLocals := 1, code := jdk_42_method_152_code, exceptionTable := #[], attributes := #[] }
def k7m7 : Method := { name := "coder", desc := "()B", sig := { parameters := [], returnType := some .byte }, accessFlags := 0, code := some k7c7 }
def k7c8 : Code := { maxStack := 1, maxLocals := 1, code := jdk_42_method_154_code, exceptionTable := #[], attributes := #[] }
def k7m8 : Method := { name := "isLatin1", desc := "()Z", sig := { parameters := [], returnType := some .boolean }, accessFlags := 0, code := some k7c8 }
def k7c9 : Code := { maxStack := 3, maxLocals := 2, code := jdk_42_method_155_code, exceptionTable := #[], attributes := #[] }
def k7m9 : Method := { name := "checkIndex", desc := "(II)V", sig := { parameters := [.int, .int], returnType := none }, accessFlags := 8, code := some k7c9 }
def k7c10 : Code := { maxStack := 4, maxLocals := 3, code := jdk_42_method_158_code, exceptionTable := #[], attributes := #[] }
def k7m10 : Method := { name := "checkBoundsBeginEnd", desc := "(III)V", sig := { parameters := [.int, .int, .int], returnType := none }, accessFlags := 8, code := some k7c10 }
/-- java/lang/String -/
def k7 : Class := { plain "java/lang/String" (some 0) with
  accessFlags := 49
  interfaces := #[2, 3, 4, 5, 6]
  cf := some (fileOf pool7 10 #[.nestMembers #[1103]] #[{ accessFlags := 1, nameIndex := 5, descriptorIndex := 6, attributes := #[] }, { accessFlags := 1, nameIndex := 5, descriptorIndex := 1010, attributes := #[] }, { accessFlags := 1, nameIndex := 507, descriptorIndex := 334, attributes := #[] }, { accessFlags := 1, nameIndex := 497, descriptorIndex := 427, attributes := #[] }, { accessFlags := 1, nameIndex := 683, descriptorIndex := 684, attributes := #[] }, { accessFlags := 2, nameIndex := 5, descriptorIndex := 29, attributes := #[] }, { accessFlags := 0, nameIndex := 5, descriptorIndex := 211, attributes := #[] }, { accessFlags := 0, nameIndex := 17, descriptorIndex := 337, attributes := #[] }, { accessFlags := 0, nameIndex := 494, descriptorIndex := 142, attributes := #[] }, { accessFlags := 8, nameIndex := 501, descriptorIndex := 391, attributes := #[] }, { accessFlags := 8, nameIndex := 523, descriptorIndex := 524, attributes := #[] }] 49 2 #[1106, 1108, 575, 1110, 1112] #[{ accessFlags := 18, nameIndex := 13, descriptorIndex := 14, attributes := #[] }, { accessFlags := 18, nameIndex := 17, descriptorIndex := 18, attributes := #[] }, { accessFlags := 2, nameIndex := 21, descriptorIndex := 22, attributes := #[] }, { accessFlags := 2, nameIndex := 25, descriptorIndex := 26, attributes := #[] }, { accessFlags := 26, nameIndex := 1116, descriptorIndex := 1117, attributes := #[] }, { accessFlags := 24, nameIndex := 40, descriptorIndex := 26, attributes := #[] }, { accessFlags := 26, nameIndex := 1101, descriptorIndex := 1102, attributes := #[] }, { accessFlags := 26, nameIndex := 1121, descriptorIndex := 1122, attributes := #[] }, { accessFlags := 25, nameIndex := 599, descriptorIndex := 600, attributes := #[] }, { accessFlags := 24, nameIndex := 1125, descriptorIndex := 18, attributes := #[] }, { accessFlags := 24, nameIndex := 1127, descriptorIndex := 18, attributes := #[] }])
  fields := #[{ name := "value", type := (.array .byte), accessFlags := 18, slot := 0, constantValue := 0 }, { name := "coder", type := .byte, accessFlags := 18, slot := 1, constantValue := 0 }, { name := "hash", type := .int, accessFlags := 2, slot := 2, constantValue := 0 }, { name := "hashIsZero", type := .boolean, accessFlags := 2, slot := 3, constantValue := 0 }, { name := "serialVersionUID", type := .long, accessFlags := 26, slot := 0, constantValue := 0 }, { name := "COMPACT_STRINGS", type := .boolean, accessFlags := 24, slot := 1, constantValue := 0 }, { name := "serialPersistentFields", type := (.array (.object "java/io/ObjectStreamField")), accessFlags := 26, slot := 2, constantValue := 0 }, { name := "REPL", type := .char, accessFlags := 26, slot := 3, constantValue := 0 }, { name := "CASE_INSENSITIVE_ORDER", type := (.object "java/util/Comparator"), accessFlags := 25, slot := 4, constantValue := 0 }, { name := "LATIN1", type := .byte, accessFlags := 24, slot := 5, constantValue := 0 }, { name := "UTF16", type := .byte, accessFlags := 24, slot := 6, constantValue := 0 }]
  methods := #[k7m0, k7m1, k7m2, k7m3, k7m4, k7m5, k7m6, k7m7, k7m8, k7m9, k7m10]
  instanceTypes := #[(.array .byte), .byte, .int, .boolean]
  staticTypes := #[.long, .boolean, (.array (.object "java/io/ObjectStreamField")), .char, (.object "java/util/Comparator"), .byte, .byte]
  resolved := Array.replicate 1451 none
  statics := some 0 }

def pool8 : Array CpInfo := pool [(2, .class_ 4), (1, u "java/lang/Object"), (3, .class_ 10), (1, u "dev/boundaryline/model/HeaderValue"), (0, u "value"), (0, u "Ljava/lang/String;"), (2, u "parameters"), (0, u "Ljava/util/Map;"), (0, .methodref 18 19), (0, .class_ 20), (0, .nameAndType 21 22), (0, u "java/lang/String"), (0, u "length"), (0, u "()I"), (7, u "(Ljava/lang/String;)Ljava/lang/String;"), (3, .methodref 8 35), (0, .nameAndType 36 37), (0, u "skipWhitespace"), (0, u "(Ljava/lang/String;I)I"), (0, .methodref 18 39), (0, .nameAndType 40 41), (0, u "charAt"), (0, u "(I)C"), (10, .methodref 18 53), (0, .nameAndType 54 55), (0, u "substring"), (0, u "(II)Ljava/lang/String;"), (2, u "trim"), (57, u "(C)Z"), (2, .methodref 8 120), (0, .nameAndType 121 116), (0, u "isWhitespace"), (5, u "TOKEN_SYMBOLS")] 27

def k8c0 : Code := { maxStack := 3, maxLocals := 3, code := prog_32_method_8_code, exceptionTable := #[], attributes := #[] }
def k8m0 : Method := { name := "trim", desc := "(Ljava/lang/String;)Ljava/lang/String;", sig := { parameters := [(.object "java/lang/String")], returnType := some (.object "java/lang/String") }, accessFlags := 8, code := some k8c0 }
def k8c1 : Code := { maxStack := 2, maxLocals := 3, code := prog_32_method_10_code, exceptionTable := #[], attributes := #[] }
def k8m1 : Method := { name := "skipWhitespace", desc := "(Ljava/lang/String;I)I", sig := { parameters := [(.object "java/lang/String"), .int], returnType := some .int }, accessFlags := 10, code := some k8c1 }
def k8c2 : Code := { maxStack := 2, maxLocals := 1, code := prog_32_method_11_code, exceptionTable := #[], attributes := #[] }
def k8m2 : Method := { name := "isWhitespace", desc := "(C)Z", sig := { parameters := [.char], returnType := some .boolean }, accessFlags := 10, code := some k8c2 }
/-- dev/boundaryline/model/HeaderValue -/
def k8 : Class := { plain "dev/boundaryline/model/HeaderValue" (some 0) with
  accessFlags := 49
  interfaces := #[]
  cf := some (fileOf pool8 8 #[] #[{ accessFlags := 8, nameIndex := 58, descriptorIndex := 30, attributes := #[] }, { accessFlags := 10, nameIndex := 36, descriptorIndex := 37, attributes := #[] }, { accessFlags := 10, nameIndex := 121, descriptorIndex := 116, attributes := #[] }] 49 2 #[] #[{ accessFlags := 26, nameIndex := 127, descriptorIndex := 12, attributes := #[] }, { accessFlags := 18, nameIndex := 11, descriptorIndex := 12, attributes := #[] }, { accessFlags := 18, nameIndex := 15, descriptorIndex := 16, attributes := #[] }])
  fields := #[{ name := "TOKEN_SYMBOLS", type := (.object "java/lang/String"), accessFlags := 26, slot := 0, constantValue := 0 }, { name := "value", type := (.object "java/lang/String"), accessFlags := 18, slot := 0, constantValue := 0 }, { name := "parameters", type := (.object "java/util/Map"), accessFlags := 18, slot := 1, constantValue := 0 }]
  methods := #[k8m0, k8m1, k8m2]
  instanceTypes := #[(.object "java/lang/String"), (.object "java/util/Map")]
  staticTypes := #[(.object "java/lang/String")]
  resolved := Array.replicate 155 none
  statics := none }

def pool9 : Array CpInfo := pool [(2, .class_ 4), (1, u "java/lang/Object"), (0, u "<init>"), (0, u "()V"), (17, .class_ 26), (1, u "jdk/internal/util/Preconditions"), (6, u "checkIndex"), (13, u "checkFromToIndex"), (7, .class_ 56), (0, u "jdk/internal/util/Preconditions$4"), (57, .class_ 115), (0, u "jdk/internal/util/Preconditions$1"), (7, u "SIOOBE_FORMATTER"), (0, u "Ljava/util/function/BiFunction;"), (0, .class_ 126), (0, u "jdk/internal/util/Preconditions$2"), (3, u "AIOOBE_FORMATTER"), (0, .class_ 132), (0, u "jdk/internal/util/Preconditions$3"), (3, u "IOOBE_FORMATTER"), (41, u "(IILjava/util/function/BiFunction;)I"), (4, u "(IIILjava/util/function/BiFunction;)I")] 10

def k9m0 : Method := { name := "<init>", desc := "()V", sig := { parameters := [], returnType := none }, accessFlags := 1, code := none }
def k9c1 : Code := { maxStack := 3, maxLocals := 3, code := jdk_41_method_11_code, exceptionTable := #[], attributes := #[] }
def k9m1 : Method := { name := "checkIndex", desc := "(IILjava/util/function/BiFunction;)I", sig := { parameters := [.int, .int, (.object "java/util/function/BiFunction")], returnType := some .int }, accessFlags := 9, code := some k9c1 }
def k9c2 : Code := { maxStack := 4, maxLocals := 4, code := jdk_41_method_12_code, exceptionTable := #[], attributes := #[] }
def k9m2 : Method := { name := "checkFromToIndex", desc := "(IIILjava/util/function/BiFunction;)I", sig := { parameters := [.int, .int, .int, (.object "java/util/function/BiFunction")], returnType := some .int }, accessFlags := 9, code := some k9c2 }
/-- jdk/internal/util/Preconditions -/
def k9 : Class := { plain "jdk/internal/util/Preconditions" (some 0) with
  accessFlags := 33
  interfaces := #[]
  cf := some (fileOf pool9 24 #[.nestMembers #[55, 131, 125, 114]] #[{ accessFlags := 1, nameIndex := 5, descriptorIndex := 6, attributes := #[] }, { accessFlags := 9, nameIndex := 33, descriptorIndex := 178, attributes := #[] }, { accessFlags := 9, nameIndex := 47, descriptorIndex := 183, attributes := #[] }] 33 2 #[] #[{ accessFlags := 25, nameIndex := 123, descriptorIndex := 124, attributes := #[] }, { accessFlags := 25, nameIndex := 130, descriptorIndex := 124, attributes := #[] }, { accessFlags := 25, nameIndex := 136, descriptorIndex := 124, attributes := #[] }])
  fields := #[{ name := "SIOOBE_FORMATTER", type := (.object "java/util/function/BiFunction"), accessFlags := 25, slot := 0, constantValue := 0 }, { name := "AIOOBE_FORMATTER", type := (.object "java/util/function/BiFunction"), accessFlags := 25, slot := 1, constantValue := 0 }, { name := "IOOBE_FORMATTER", type := (.object "java/util/function/BiFunction"), accessFlags := 25, slot := 2, constantValue := 0 }]
  methods := #[k9m0, k9m1, k9m2]
  instanceTypes := #[]
  staticTypes := #[(.object "java/util/function/BiFunction"), (.object "java/util/function/BiFunction"), (.object "java/util/function/BiFunction")]
  resolved := Array.replicate 194 none
  statics := some 1 }

def pool10 : Array CpInfo := pool [(6, .class_ 8), (1, u "java/lang/Object"), (0, u "<init>"), (0, u "()V"), (1, .class_ 14), (1, u "java/lang/StringUTF16"), (31, u "$assertionsDisabled"), (0, u "Z"), (13, u "HI_BYTE_SHIFT"), (0, u "I"), (2, u "LO_BYTE_SHIFT"), (49, .methodref 12 116), (0, .nameAndType 117 118), (0, u "compress"), (0, u "([CI[BII)I"), (3, u "([CII)[B"), (138, u "coderFromArrayLen"), (0, u "([BI)B"), (106, .class_ 371), (1, u "java/lang/StringUTF16$LinesSpliterator"), (58, u "MAX_LENGTH"), (196, .class_ 628), (0, u "java/lang/StringUTF16$CodePointsSpliterator"), (0, .class_ 630), (0, u "java/lang/StringUTF16$CharsSpliterator")] 4

def k10m0 : Method := { name := "<init>", desc := "()V", sig := { parameters := [], returnType := none }, accessFlags := 0, code := none }
def k10c1 : Code := { maxStack := 2, maxLocals := 2, code := jdk_52_method_15_code, exceptionTable := #[], attributes := #[] }
def k10m1 : Method := { name := "coderFromArrayLen", desc := "([BI)B", sig := { parameters := [(.array .byte), .int], returnType := some .byte }, accessFlags := 8, code := some k10c1 }
def k10c2 : Code := { maxStack := 5, maxLocals := 6, code := jdk_52_method_16_code, exceptionTable := #[], attributes := #[] }
def k10m2 : Method := { name := "compress", desc := "([CII)[B", sig := { parameters := [(.array .char), .int, .int], returnType := some (.array .byte) }, accessFlags := 9, code := some k10c2 }
def k10c3 : Code := { maxStack := 3, maxLocals := 7, code := jdk_52_method_21_code, exceptionTable := #[], attributes := #[] }
def k10m3 : Method := { name := "compress", desc := "([CI[BII)I", sig := { parameters := [(.array .char), .int, (.array .byte), .int, .int], returnType := some .int }, accessFlags := 9, code := some k10c3 }
/-- java/lang/StringUTF16 -/
def k10 : Class := { plain "java/lang/StringUTF16" (some 0) with
  accessFlags := 48
  interfaces := #[]
  cf := some (fileOf pool10 12 #[.nestMembers #[627, 629, 369]] #[{ accessFlags := 0, nameIndex := 9, descriptorIndex := 10, attributes := #[] }, { accessFlags := 8, nameIndex := 261, descriptorIndex := 262, attributes := #[] }, { accessFlags := 9, nameIndex := 117, descriptorIndex := 122, attributes := #[] }, { accessFlags := 9, nameIndex := 117, descriptorIndex := 118, attributes := #[] }] 48 6 #[] #[{ accessFlags := 26, nameIndex := 61, descriptorIndex := 62, attributes := #[] }, { accessFlags := 26, nameIndex := 65, descriptorIndex := 62, attributes := #[] }, { accessFlags := 24, nameIndex := 430, descriptorIndex := 62, attributes := #[] }, { accessFlags := 4120, nameIndex := 46, descriptorIndex := 47, attributes := #[] }])
  fields := #[{ name := "HI_BYTE_SHIFT", type := .int, accessFlags := 26, slot := 0, constantValue := 0 }, { name := "LO_BYTE_SHIFT", type := .int, accessFlags := 26, slot := 1, constantValue := 0 }, { name := "MAX_LENGTH", type := .int, accessFlags := 24, slot := 2, constantValue := 0 }, { name := "$assertionsDisabled", type := .boolean, accessFlags := 4120, slot := 3, constantValue := 0 }]
  methods := #[k10m0, k10m1, k10m2, k10m3]
  instanceTypes := #[]
  staticTypes := #[.int, .int, .int, .boolean]
  resolved := Array.replicate 635 none
  statics := none }

def pool11 : Array CpInfo := pool [(1, .class_ 2), (0, u "java/lang/String"), (1, .class_ 6), (1, u "java/lang/Object"), (0, u "<init>"), (0, u "()V"), (0, .methodref 1 10), (0, .nameAndType 11 12), (0, u "checkIndex"), (0, u "(II)V"), (1, .class_ 16), (1, u "java/lang/StringLatin1"), (36, u "([BI)C"), (58, .methodref 1 113), (0, .nameAndType 7 114), (0, u "([BB)V"), (6, u "$assertionsDisabled"), (0, u "Z"), (8, .class_ 133), (1, u "java/util/Arrays"), (17, .string 152), (0, u ""), (43, u "newString"), (0, u "([BII)Ljava/lang/String;"), (23, .class_ 223), (1, u "java/lang/StringLatin1$LinesSpliterator"), (8, .methodref 131 233), (0, .nameAndType 234 235), (0, u "copyOfRange"), (0, u "([BII)[B"), (16, u "charAt"), (137, .class_ 391), (0, u "java/lang/StringLatin1$CharsSpliterator")] 3

def k11m0 : Method := { name := "<init>", desc := "()V", sig := { parameters := [], returnType := none }, accessFlags := 0, code := none }
def k11c1 : Code := { maxStack := 2, maxLocals := 2, code := jdk_43_method_2_code, exceptionTable := #[], attributes := #[] }
def k11m1 : Method := { name := "charAt", desc := "([BI)C", sig := { parameters := [(.array .byte), .int], returnType := some .char }, accessFlags := 9, code := some k11c1 }
def k11c2 : Code := { maxStack := 6, maxLocals := 3, code := jdk_43_method_47_code, exceptionTable := #[], attributes := #[] }
def k11m2 : Method := { name := "newString", desc := "([BII)Ljava/lang/String;", sig := { parameters := [(.array .byte), .int, .int], returnType := some (.object "java/lang/String") }, accessFlags := 9, code := some k11c2 }
/-- java/lang/StringLatin1 -/
def k11 : Class := { plain "java/lang/StringLatin1" (some 0) with
  accessFlags := 48
  interfaces := #[]
  cf := some (fileOf pool11 14 #[.nestMembers #[390, 221]] #[{ accessFlags := 0, nameIndex := 7, descriptorIndex := 8, attributes := #[] }, { accessFlags := 9, nameIndex := 252, descriptorIndex := 53, attributes := #[] }, { accessFlags := 9, nameIndex := 196, descriptorIndex := 197, attributes := #[] }] 48 4 #[] #[{ accessFlags := 4120, nameIndex := 121, descriptorIndex := 122, attributes := #[] }])
  fields := #[{ name := "$assertionsDisabled", type := .boolean, accessFlags := 4120, slot := 0, constantValue := 0 }]
  methods := #[k11m0, k11m1, k11m2]
  instanceTypes := #[]
  staticTypes := #[.boolean]
  resolved := Array.replicate 395 none
  statics := none }

def pool12 : Array CpInfo := pool [(2, .class_ 4), (1, u "java/lang/Object"), (0, u "<init>"), (0, u "()V"), (7, .class_ 16), (1, u "java/util/Arrays"), (57, .class_ 76), (1, u "java/util/Arrays$NaturalOrder"), (36, .class_ 115), (1, u "java/util/Arrays$LegacyMergeSort"), (1, u "Z"), (21, u "copyOfRange"), (10, .methodref 151 152), (0, .class_ 153), (0, .nameAndType 154 155), (0, u "java/lang/System"), (0, u "arraycopy"), (0, u "(Ljava/lang/Object;ILjava/lang/Object;II)V"), (148, .methodref 305 306), (0, .class_ 307), (0, .nameAndType 308 309), (0, u "java/lang/Math"), (0, u "min"), (0, u "(II)I"), (29, .methodref 14 340), (0, .nameAndType 341 342), (0, u "copyOfRangeByte"), (0, u "([BII)[B"), (0, .methodref 14 344), (0, .nameAndType 345 346), (0, u "checkLength"), (0, u "(II)V"), (28, .class_ 376), (0, u "java/util/Arrays$ArrayList"), (68, u "$assertionsDisabled"), (269, u "MIN_ARRAY_SORT_GRAN"), (0, u "I"), (2, u "INSERTIONSORT_THRESHOLD"), (255, .class_ 976), (0, u "java/util/Arrays$ArrayItr")] 52

def k12m0 : Method := { name := "<init>", desc := "()V", sig := { parameters := [], returnType := none }, accessFlags := 2, code := none }
def k12c1 : Code := { maxStack := 4, maxLocals := 2, code := jdk_65_method_131_code, exceptionTable := #[], attributes := #[] }
def k12m1 : Method := { name := "checkLength", desc := "(II)V", sig := { parameters := [.int, .int], returnType := none }, accessFlags := 10, code := some k12c1 }
def k12c2 : Code := { maxStack := 3, maxLocals := 3, code := jdk_65_method_132_code, exceptionTable := #[], attributes := #[] }
def k12m2 : Method := { name := "copyOfRange", desc := "([BII)[B", sig := { parameters := [(.array .byte), .int, .int], returnType := some (.array .byte) }, accessFlags := 9, code := some k12c2 }
def k12c3 : Code := { maxStack := 6, maxLocals := 5, code := jdk_65_method_133_code, exceptionTable := #[], attributes := #[] }
def k12m3 : Method := { name := "copyOfRangeByte", desc := "([BII)[B", sig := { parameters := [(.array .byte), .int, .int], returnType := some (.array .byte) }, accessFlags := 10, code := some k12c3 }
/-- java/util/Arrays -/
def k12 : Class := { plain "java/util/Arrays" (some 0) with
  accessFlags := 49
  interfaces := #[]
  cf := some (fileOf pool12 14 #[.nestMembers #[975, 375, 113, 74]] #[{ accessFlags := 2, nameIndex := 5, descriptorIndex := 6, attributes := #[] }, { accessFlags := 10, nameIndex := 345, descriptorIndex := 346, attributes := #[] }, { accessFlags := 9, nameIndex := 139, descriptorIndex := 342, attributes := #[] }, { accessFlags := 10, nameIndex := 341, descriptorIndex := 342, attributes := #[] }] 49 2 #[] #[{ accessFlags := 26, nameIndex := 715, descriptorIndex := 716, attributes := #[] }, { accessFlags := 26, nameIndex := 719, descriptorIndex := 716, attributes := #[] }, { accessFlags := 4120, nameIndex := 445, descriptorIndex := 117, attributes := #[] }])
  fields := #[{ name := "MIN_ARRAY_SORT_GRAN", type := .int, accessFlags := 26, slot := 0, constantValue := 0 }, { name := "INSERTIONSORT_THRESHOLD", type := .int, accessFlags := 26, slot := 1, constantValue := 0 }, { name := "$assertionsDisabled", type := .boolean, accessFlags := 4120, slot := 2, constantValue := 0 }]
  methods := #[k12m0, k12m1, k12m2, k12m3]
  instanceTypes := #[]
  staticTypes := #[.int, .int, .boolean]
  resolved := Array.replicate 1029 none
  statics := none }

def pool13 : Array CpInfo := pool [(1, .class_ 2), (0, u "java/lang/Math"), (1, .class_ 6), (1, u "java/lang/Object"), (0, u "<init>"), (0, u "()V"), (89, .class_ 100), (1, u "java/lang/Math$RandomNumberGeneratorHolder"), (71, u "negativeZeroFloatBits"), (0, u "J"), (2, u "negativeZeroDoubleBits"), (24, u "min"), (43, u "$assertionsDisabled"), (0, u "Z"), (88, u "(II)I"), (2, u "twoToTheDoubleScaleDown"), (0, u "D"), (4, u "twoToTheDoubleScaleUp"), (9, u "E"), (3, u "PI"), (2, u "TAU"), (2, u "DEGREES_TO_RADIANS"), (0, u "RADIANS_TO_DEGREES")] 94

def k13m0 : Method := { name := "<init>", desc := "()V", sig := { parameters := [], returnType := none }, accessFlags := 2, code := none }
def k13c1 : Code := { maxStack := 2, maxLocals := 2, code := jdk_29_method_69_code, exceptionTable := #[], attributes := #[] }
def k13m1 : Method := { name := "min", desc := "(II)I", sig := { parameters := [.int, .int], returnType := some .int }, accessFlags := 9, code := some k13c1 }
/-- java/lang/Math -/
def k13 : Class := { plain "java/lang/Math" (some 0) with
  accessFlags := 49
  interfaces := #[]
  cf := some (fileOf pool13 1 #[.nestMembers #[98]] #[{ accessFlags := 2, nameIndex := 7, descriptorIndex := 8, attributes := #[] }, { accessFlags := 9, nameIndex := 201, descriptorIndex := 335, attributes := #[] }] 49 4 #[] #[{ accessFlags := 25, nameIndex := 354, descriptorIndex := 339, attributes := #[] }, { accessFlags := 25, nameIndex := 358, descriptorIndex := 339, attributes := #[] }, { accessFlags := 25, nameIndex := 361, descriptorIndex := 339, attributes := #[] }, { accessFlags := 26, nameIndex := 364, descriptorIndex := 339, attributes := #[] }, { accessFlags := 26, nameIndex := 365, descriptorIndex := 339, attributes := #[] }, { accessFlags := 26, nameIndex := 172, descriptorIndex := 173, attributes := #[] }, { accessFlags := 26, nameIndex := 176, descriptorIndex := 173, attributes := #[] }, { accessFlags := 8, nameIndex := 344, descriptorIndex := 339, attributes := #[] }, { accessFlags := 8, nameIndex := 338, descriptorIndex := 339, attributes := #[] }, { accessFlags := 4120, nameIndex := 245, descriptorIndex := 246, attributes := #[] }])
  fields := #[{ name := "E", type := .double, accessFlags := 25, slot := 0, constantValue := 0 }, { name := "PI", type := .double, accessFlags := 25, slot := 1, constantValue := 0 }, { name := "TAU", type := .double, accessFlags := 25, slot := 2, constantValue := 0 }, { name := "DEGREES_TO_RADIANS", type := .double, accessFlags := 26, slot := 3, constantValue := 0 }, { name := "RADIANS_TO_DEGREES", type := .double, accessFlags := 26, slot := 4, constantValue := 0 }, { name := "negativeZeroFloatBits", type := .long, accessFlags := 26, slot := 5, constantValue := 0 }, { name := "negativeZeroDoubleBits", type := .long, accessFlags := 26, slot := 6, constantValue := 0 }, { name := "twoToTheDoubleScaleUp", type := .double, accessFlags := 8, slot := 7, constantValue := 0 }, { name := "twoToTheDoubleScaleDown", type := .double, accessFlags := 8, slot := 8, constantValue := 0 }, { name := "$assertionsDisabled", type := .boolean, accessFlags := 4120, slot := 9, constantValue := 0 }]
  methods := #[k13m0, k13m1]
  instanceTypes := #[]
  staticTypes := #[.double, .double, .double, .double, .double, .long, .long, .double, .double, .boolean]
  resolved := Array.replicate 460 none
  statics := none }

def pool14 : Array CpInfo := pool [(2, .class_ 4), (1, u "java/lang/Object"), (0, u "<init>"), (0, u "()V"), (1, .class_ 10), (1, u "java/lang/System"), (0, u "allowSecurityManager"), (0, u "I"), (16, u "cons"), (0, u "Ljava/io/Console;"), (77, .class_ 110), (1, u "java/lang/System$CallersHolder"), (43, u "initialErrStream"), (0, u "Ljava/io/PrintStream;"), (19, u "security"), (0, u "Ljava/lang/SecurityManager;"), (31, .class_ 209), (0, u "java/lang/System$1"), (7, u "props"), (0, u "Ljava/util/Properties;"), (2, u "lineSeparator"), (0, u "Ljava/lang/String;"), (96, .class_ 321), (1, u "java/lang/System$LoggerFinder"), (5, .class_ 328), (0, u "java/lang/System$Logger"), (67, u "err"), (2, u "out"), (91, u "notSupportedJnuEncoding"), (15, u "in"), (17, u "initialIn"), (0, u "Ljava/io/InputStream;"), (35, u "bootLayer"), (0, u "Ljava/lang/ModuleLayer;"), (99, .class_ 664), (0, u "java/lang/System$2"), (9, u "NEVER"), (2, u "MAYBE"), (49, u "arraycopy"), (0, u "(Ljava/lang/Object;ILjava/lang/Object;II)V"), (72, .class_ 802), (0, u "java/lang/System$Logger$Level")] 31

def k14m0 : Method := { name := "<init>", desc := "()V", sig := { parameters := [], returnType := none }, accessFlags := 2, code := none }
def k14m1 : Method := { name := "arraycopy", desc := "(Ljava/lang/Object;ILjava/lang/Object;II)V", sig := { parameters := [(.object "java/lang/Object"), .int, (.object "java/lang/Object"), .int, .int], returnType := none }, accessFlags := 265, code := none }
/-- java/lang/System -/
def k14 : Class := { plain "java/lang/System" (some 0) with
  accessFlags := 49
  interfaces := #[]
  cf := some (fileOf pool14 8 #[.nestMembers #[319, 327, 801, 108, 663, 208]] #[{ accessFlags := 2, nameIndex := 5, descriptorIndex := 6, attributes := #[] }, { accessFlags := 265, nameIndex := 727, descriptorIndex := 728, attributes := #[] }] 49 2 #[] #[{ accessFlags := 25, nameIndex := 507, descriptorIndex := 526, attributes := #[] }, { accessFlags := 25, nameIndex := 399, descriptorIndex := 155, attributes := #[] }, { accessFlags := 25, nameIndex := 396, descriptorIndex := 155, attributes := #[] }, { accessFlags := 10, nameIndex := 525, descriptorIndex := 526, attributes := #[] }, { accessFlags := 26, nameIndex := 674, descriptorIndex := 12, attributes := #[] }, { accessFlags := 26, nameIndex := 677, descriptorIndex := 12, attributes := #[] }, { accessFlags := 10, nameIndex := 11, descriptorIndex := 12, attributes := #[] }, { accessFlags := 74, nameIndex := 175, descriptorIndex := 176, attributes := #[] }, { accessFlags := 10, nameIndex := 491, descriptorIndex := 222, attributes := #[] }, { accessFlags := 74, nameIndex := 29, descriptorIndex := 30, attributes := #[] }, { accessFlags := 74, nameIndex := 154, descriptorIndex := 155, attributes := #[] }, { accessFlags := 10, nameIndex := 217, descriptorIndex := 218, attributes := #[] }, { accessFlags := 10, nameIndex := 221, descriptorIndex := 222, attributes := #[] }, { accessFlags := 8, nameIndex := 562, descriptorIndex := 563, attributes := #[] }])
  fields := #[{ name := "in", type := (.object "java/io/InputStream"), accessFlags := 25, slot := 0, constantValue := 0 }, { name := "out", type := (.object "java/io/PrintStream"), accessFlags := 25, slot := 1, constantValue := 0 }, { name := "err", type := (.object "java/io/PrintStream"), accessFlags := 25, slot := 2, constantValue := 0 }, { name := "initialIn", type := (.object "java/io/InputStream"), accessFlags := 10, slot := 3, constantValue := 0 }, { name := "NEVER", type := .int, accessFlags := 26, slot := 4, constantValue := 0 }, { name := "MAYBE", type := .int, accessFlags := 26, slot := 5, constantValue := 0 }, { name := "allowSecurityManager", type := .int, accessFlags := 10, slot := 6, constantValue := 0 }, { name := "security", type := (.object "java/lang/SecurityManager"), accessFlags := 74, slot := 7, constantValue := 0 }, { name := "notSupportedJnuEncoding", type := (.object "java/lang/String"), accessFlags := 10, slot := 8, constantValue := 0 }, { name := "cons", type := (.object "java/io/Console"), accessFlags := 74, slot := 9, constantValue := 0 }, { name := "initialErrStream", type := (.object "java/io/PrintStream"), accessFlags := 74, slot := 10, constantValue := 0 }, { name := "props", type := (.object "java/util/Properties"), accessFlags := 10, slot := 11, constantValue := 0 }, { name := "lineSeparator", type := (.object "java/lang/String"), accessFlags := 10, slot := 12, constantValue := 0 }, { name := "bootLayer", type := (.object "java/lang/ModuleLayer"), accessFlags := 8, slot := 13, constantValue := 0 }]
  methods := #[k14m0, k14m1]
  instanceTypes := #[]
  staticTypes := #[(.object "java/io/InputStream"), (.object "java/io/PrintStream"), (.object "java/io/PrintStream"), (.object "java/io/InputStream"), .int, .int, .int, (.object "java/lang/SecurityManager"), (.object "java/lang/String"), (.object "java/io/Console"), (.object "java/io/PrintStream"), (.object "java/util/Properties"), (.object "java/lang/String"), (.object "java/lang/ModuleLayer")]
  resolved := Array.replicate 834 none
  statics := none }

def pool15 : Array CpInfo := pool [(9, u "<init>"), (6, .class_ 18), (1, u "java/lang/Object"), (0, u "()V"), (1, .class_ 23), (1, u "jdk/internal/util/ArraysSupport"), (0, u "LOG2_ARRAY_LONG_INDEX_SCALE"), (0, u "I"), (2, u "U"), (0, u "Ljdk/internal/misc/Unsafe;"), (8, u "BIG_ENDIAN"), (0, u "Z"), (8, u "LOG2_BYTE_BIT_SIZE"), (4, u "LOG2_ARRAY_INT_INDEX_SCALE"), (54, u "JLA"), (0, u "Ljdk/internal/access/JavaLangAccess;"), (11, u "LOG2_ARRAY_BOOLEAN_INDEX_SCALE"), (9, u "LOG2_ARRAY_BYTE_INDEX_SCALE"), (5, u "LOG2_ARRAY_CHAR_INDEX_SCALE"), (5, u "LOG2_ARRAY_SHORT_INDEX_SCALE"), (18, u "LOG2_ARRAY_FLOAT_INDEX_SCALE"), (24, u "LOG2_ARRAY_DOUBLE_INDEX_SCALE"), (89, u "T_BOOLEAN"), (2, u "T_CHAR"), (1, u "T_FLOAT"), (1, u "T_DOUBLE"), (1, u "T_BYTE"), (1, u "T_SHORT"), (1, u "T_INT"), (1, u "T_LONG"), (1, u "SOFT_MAX_ARRAY_LENGTH")] 83

def k15m0 : Method := { name := "<init>", desc := "()V", sig := { parameters := [], returnType := none }, accessFlags := 2, code := none }
/-- jdk/internal/util/ArraysSupport -/
def k15 : Class := { plain "jdk/internal/util/ArraysSupport" (some 0) with
  accessFlags := 33
  interfaces := #[]
  cf := some (fileOf pool15 21 #[] #[{ accessFlags := 2, nameIndex := 9, descriptorIndex := 19, attributes := #[] }] 33 16 #[] #[{ accessFlags := 24, nameIndex := 28, descriptorIndex := 29, attributes := #[] }, { accessFlags := 26, nameIndex := 38, descriptorIndex := 39, attributes := #[] }, { accessFlags := 25, nameIndex := 121, descriptorIndex := 25, attributes := #[] }, { accessFlags := 25, nameIndex := 131, descriptorIndex := 25, attributes := #[] }, { accessFlags := 25, nameIndex := 137, descriptorIndex := 25, attributes := #[] }, { accessFlags := 25, nameIndex := 143, descriptorIndex := 25, attributes := #[] }, { accessFlags := 25, nameIndex := 53, descriptorIndex := 25, attributes := #[] }, { accessFlags := 25, nameIndex := 24, descriptorIndex := 25, attributes := #[] }, { accessFlags := 25, nameIndex := 162, descriptorIndex := 25, attributes := #[] }, { accessFlags := 25, nameIndex := 187, descriptorIndex := 25, attributes := #[] }, { accessFlags := 26, nameIndex := 48, descriptorIndex := 25, attributes := #[] }, { accessFlags := 25, nameIndex := 277, descriptorIndex := 25, attributes := #[] }, { accessFlags := 25, nameIndex := 280, descriptorIndex := 25, attributes := #[] }, { accessFlags := 25, nameIndex := 282, descriptorIndex := 25, attributes := #[] }, { accessFlags := 25, nameIndex := 284, descriptorIndex := 25, attributes := #[] }, { accessFlags := 25, nameIndex := 286, descriptorIndex := 25, attributes := #[] }, { accessFlags := 25, nameIndex := 288, descriptorIndex := 25, attributes := #[] }, { accessFlags := 25, nameIndex := 290, descriptorIndex := 25, attributes := #[] }, { accessFlags := 25, nameIndex := 292, descriptorIndex := 25, attributes := #[] }, { accessFlags := 26, nameIndex := 108, descriptorIndex := 109, attributes := #[] }, { accessFlags := 25, nameIndex := 294, descriptorIndex := 25, attributes := #[] }])
  fields := #[{ name := "U", type := (.object "jdk/internal/misc/Unsafe"), accessFlags := 24, slot := 0, constantValue := 0 }, { name := "BIG_ENDIAN", type := .boolean, accessFlags := 26, slot := 1, constantValue := 0 }, { name := "LOG2_ARRAY_BOOLEAN_INDEX_SCALE", type := .int, accessFlags := 25, slot := 2, constantValue := 0 }, { name := "LOG2_ARRAY_BYTE_INDEX_SCALE", type := .int, accessFlags := 25, slot := 3, constantValue := 0 }, { name := "LOG2_ARRAY_CHAR_INDEX_SCALE", type := .int, accessFlags := 25, slot := 4, constantValue := 0 }, { name := "LOG2_ARRAY_SHORT_INDEX_SCALE", type := .int, accessFlags := 25, slot := 5, constantValue := 0 }, { name := "LOG2_ARRAY_INT_INDEX_SCALE", type := .int, accessFlags := 25, slot := 6, constantValue := 0 }, { name := "LOG2_ARRAY_LONG_INDEX_SCALE", type := .int, accessFlags := 25, slot := 7, constantValue := 0 }, { name := "LOG2_ARRAY_FLOAT_INDEX_SCALE", type := .int, accessFlags := 25, slot := 8, constantValue := 0 }, { name := "LOG2_ARRAY_DOUBLE_INDEX_SCALE", type := .int, accessFlags := 25, slot := 9, constantValue := 0 }, { name := "LOG2_BYTE_BIT_SIZE", type := .int, accessFlags := 26, slot := 10, constantValue := 0 }, { name := "T_BOOLEAN", type := .int, accessFlags := 25, slot := 11, constantValue := 0 }, { name := "T_CHAR", type := .int, accessFlags := 25, slot := 12, constantValue := 0 }, { name := "T_FLOAT", type := .int, accessFlags := 25, slot := 13, constantValue := 0 }, { name := "T_DOUBLE", type := .int, accessFlags := 25, slot := 14, constantValue := 0 }, { name := "T_BYTE", type := .int, accessFlags := 25, slot := 15, constantValue := 0 }, { name := "T_SHORT", type := .int, accessFlags := 25, slot := 16, constantValue := 0 }, { name := "T_INT", type := .int, accessFlags := 25, slot := 17, constantValue := 0 }, { name := "T_LONG", type := .int, accessFlags := 25, slot := 18, constantValue := 0 }, { name := "JLA", type := (.object "jdk/internal/access/JavaLangAccess"), accessFlags := 26, slot := 19, constantValue := 0 }, { name := "SOFT_MAX_ARRAY_LENGTH", type := .int, accessFlags := 25, slot := 20, constantValue := 0 }]
  methods := #[k15m0]
  instanceTypes := #[]
  staticTypes := #[(.object "jdk/internal/misc/Unsafe"), .boolean, .int, .int, .int, .int, .int, .int, .int, .int, .int, .int, .int, .int, .int, .int, .int, .int, .int, (.object "jdk/internal/access/JavaLangAccess"), .int]
  resolved := Array.replicate 378 none
  statics := none }

def pool16 : Array CpInfo := pool [(1, u "java/lang/Cloneable"), (0, .class_ 1), (0, u "java/lang/Object"), (0, .class_ 3)] 3

/-- java/lang/Cloneable -/
def k16 : Class := { plain "java/lang/Cloneable" (some 0) with
  accessFlags := 1537
  interfaces := #[]
  cf := some (fileOf pool16 2 #[] #[] 1537 4 #[] #[])
  fields := #[]
  methods := #[]
  instanceTypes := #[]
  staticTypes := #[]
  resolved := Array.replicate 8 none
  statics := none }

/-- the primitive byte -/
def k17 : Class := { plain "byte" none with kind := .primitive 'B', accessFlags := 0x411 }
/-- [B -/
def k18 : Class := { plain "[B" (some 0) with kind := .array 17 .byte, interfaces := #[16, 2], accessFlags := 1041 }

/-- the primitive char -/
def k19 : Class := { plain "char" none with kind := .primitive 'C', accessFlags := 0x411 }
/-- [C -/
def k20 : Class := { plain "[C" (some 0) with kind := .array 19 .char, interfaces := #[16, 2], accessFlags := 1041 }

/-- the primitive int -/
def k21 : Class := { plain "int" none with kind := .primitive 'I', accessFlags := 0x411 }
/-- [I -/
def k22 : Class := { plain "[I" (some 0) with kind := .array 21 .int, interfaces := #[16, 2], accessFlags := 1041 }

def heap : Heap := #[{ cls := 7, slots := #[.long 0, .int 1, .null, .int 0, .null, .int 0, .int 0], vm := .statics 7 },
  { cls := 9, slots := #[.null, .null, .null], vm := .statics 9 }]
def classes : Array Class := #[k0, k1, k2, k3, k4, k5, k6, k7, k8, k9, k10, k11, k12, k13, k14, k15, k16, k17, k18, k19, k20, k21, k22]
def interned : List (Array UInt16 × Addr) := []
def slotsUsed : Nat := 10
def theMethod : MethodId := ⟨1, 4⟩
def args0 : Array Value := #[.int 0, .int 0, .int 0, .int 0, .int 0]
def aboutOver (below : List Frame) : State where
  vm := { classes := classes, interned := interned.toArray }
  heap := heap
  slotsUsed := slotsUsed
  threads := #[{ frames := .invoking theMethod args0 :: below }]
def below0 : List Frame := [.native { method := ⟨0, 0⟩, args := #[] }]
def about1 : State := aboutOver below0
def p0 : Program := .bare "" "" ""
def e0 : Env := launch0.env 0 0 0
theorem w_frames : about1.frames = Frame.invoking theMethod args0 :: below0 := rfl
set_option maxRecDepth 65536 in
theorem w_args : argsFit about1.vm theMethod args0 = true := by decide +kernel
set_option maxRecDepth 65536 in
theorem w_heap : heapFits about1 = true := by decide +kernel
set_option maxRecDepth 65536 in
theorem w_runnable : about1.curStatus? = some .runnable := by decide +kernel
set_option maxRecDepth 65536 in
theorem w_alone : about1.alone = true := by decide +kernel
set_option maxRecDepth 65536 in
theorem w_named : about1.methodNamed? x = some theMethod := by decide +kernel
set_option maxRecDepth 65536 in
theorem w_hears : about1.hears theMethod below0 = true := by decide +kernel
set_option maxRecDepth 65536 in
theorem w_ripe : about1.ripe theMethod args0 below0 = true := by decide +kernel
theorem w_running : about1.status = .running := rfl
set_option maxRecDepth 65536 in
theorem w_room : about1.hasRoom e0.platform room_1 = true :=
  launch0.hasRoom_least _ room_1 (by decide +kernel) (by decide +kernel) (by decide +kernel) (by decide +kernel) (by decide +kernel) (by decide +kernel)
theorem allAtoms_all (ts : List Jvm.Cond) (a : Array Jvm.Value) (st : Jvm.State) : (allAtoms ts).before a st = ts.all (fun c => c.before a st) := by
  induction ts with
  | nil => rfl
  | cons c t ih =>
    show (Jvm.Cond.and c (allAtoms t)).before a st = _
    rw [Jvm.Cond.before_and, ih, List.all_cons]
def words1 : List Jvm.Cond := Jvm.Cond.code x code maxLocals ret :: tables_1
/-- a 'code' word, met by the world's own term for the bytes: nothing is compared byte by byte -/
theorem code_word {y : MethodName} {bytes : ByteArray} {mx : Nat} {rt : Option FieldType} {a : Array Value} {s : State} {m : MethodId} {meth : Method} {c : Code} (h1 : s.methodNamed? y = some m) (h2 : s.vm.method? m = some meth) (h3 : meth.code = some c) (h4 : c.code = bytes)
    (h5 : (c.maxLocals == mx && c.exceptionTable.isEmpty && decide (c.maxStack ≤ mostOperands) && decide (meth.sig.returnType = rt) && !meth.locks && decide (parseMethodDescriptor y.desc = some meth.sig)) = true) : (Jvm.Cond.code y bytes mx rt).before a s = true := by
  simp only [Bool.and_eq_true, beq_iff_eq, Bool.not_eq_true', decide_eq_true_eq] at h5
  obtain ⟨⟨⟨⟨⟨g1, g2⟩, g3⟩, g4⟩, g5⟩, g6⟩ := h5
  simp [Cond.before, Cond.holds, Cond.value, h1, h2, h3, h4, g1, g2, g3, g4, g5, g6]
def isCode : Jvm.Cond → Bool
  | .code _ _ _ _ => true
  | _ => false
theorem all_split {L : List Jvm.Cond} {P : Jvm.Cond → Bool} (h1 : L.all (fun c => isCode c || P c) = true) (h2 : ∀ c ∈ L.filter isCode, P c = true) : L.all P = true := by
  refine List.all_eq_true.mpr fun c hc => ?_
  have h := List.all_eq_true.mp h1 c hc
  rcases Bool.eq_false_or_eq_true (isCode c) with hi | hi
  · exact h2 c (List.mem_filter.mpr ⟨hc, hi⟩)
  · simpa [hi] using h
set_option maxRecDepth 65536 in
theorem w_c0 : (Jvm.Cond.code x code maxLocals ret).before args0 about1 = true := code_word (m := ⟨1, 4⟩) (meth := k1m4) (c := k1c4) (by decide +kernel) rfl rfl rfl (by decide +kernel)
set_option maxRecDepth 65536 in
theorem w_c1 : (Jvm.Cond.code ({ cls := "dev/boundaryline/model/HeaderValueTrimPinLaw", name := "draw", desc := "(I)C" } : Jvm.MethodName) method_2_code (2 : Nat) (Option.some Jvm.ClassFile.FieldType.char)).before args0 about1 = true := code_word (m := ⟨1, 1⟩) (meth := k1m1) (c := k1c1) (by decide +kernel) rfl rfl rfl (by decide +kernel)
set_option maxRecDepth 65536 in
theorem w_c2 : (Jvm.Cond.code ({ cls := "java/lang/String", name := "<init>", desc := "([C)V" } : Jvm.MethodName) jdk_42_method_3_code (2 : Nat) (Option.none : Option Jvm.ClassFile.FieldType)).before args0 about1 = true := code_word (m := ⟨7, 1⟩) (meth := k7m1) (c := k7c1) (by decide +kernel) rfl rfl rfl (by decide +kernel)
set_option maxRecDepth 65536 in
theorem w_c3 : (Jvm.Cond.code ({ cls := "java/lang/String", name := "<init>", desc := "([CIILjava/lang/Void;)V" } : Jvm.MethodName) jdk_42_method_149_code (6 : Nat) (Option.none : Option Jvm.ClassFile.FieldType)).before args0 about1 = true := code_word (m := ⟨7, 5⟩) (meth := k7m5) (c := k7c5) (by decide +kernel) rfl rfl rfl (by decide +kernel)
set_option maxRecDepth 65536 in
theorem w_c4 : (Jvm.Cond.code ({ cls := "java/lang/Object", name := "<init>", desc := "()V" } : Jvm.MethodName) object_method_1_code (1 : Nat) (Option.none : Option Jvm.ClassFile.FieldType)).before args0 about1 = true := code_word (m := ⟨0, 0⟩) (meth := k0m0) (c := k0c0) (by decide +kernel) rfl rfl rfl (by decide +kernel)
set_option maxRecDepth 65536 in
theorem w_c5 : (Jvm.Cond.code ({ cls := "dev/boundaryline/model/HeaderValue", name := "trim", desc := "(Ljava/lang/String;)Ljava/lang/String;" } : Jvm.MethodName) prog_32_method_8_code (3 : Nat) (Option.some (Jvm.ClassFile.FieldType.object "java/lang/String"))).before args0 about1 = true := code_word (m := ⟨8, 0⟩) (meth := k8m0) (c := k8c0) (by decide +kernel) rfl rfl rfl (by decide +kernel)
set_option maxRecDepth 65536 in
theorem w_c6 : (Jvm.Cond.code ({ cls := "dev/boundaryline/model/HeaderValue", name := "skipWhitespace", desc := "(Ljava/lang/String;I)I" } : Jvm.MethodName) prog_32_method_10_code (3 : Nat) (Option.some Jvm.ClassFile.FieldType.int)).before args0 about1 = true := code_word (m := ⟨8, 1⟩) (meth := k8m1) (c := k8c1) (by decide +kernel) rfl rfl rfl (by decide +kernel)
set_option maxRecDepth 65536 in
theorem w_c7 : (Jvm.Cond.code ({ cls := "java/lang/String", name := "length", desc := "()I" } : Jvm.MethodName) jdk_42_method_54_code (1 : Nat) (Option.some Jvm.ClassFile.FieldType.int)).before args0 about1 = true := code_word (m := ⟨7, 2⟩) (meth := k7m2) (c := k7c2) (by decide +kernel) rfl rfl rfl (by decide +kernel)
set_option maxRecDepth 65536 in
theorem w_c8 : (Jvm.Cond.code ({ cls := "java/lang/String", name := "coder", desc := "()B" } : Jvm.MethodName) jdk_42_method_152_code (1 : Nat) (Option.some Jvm.ClassFile.FieldType.byte)).before args0 about1 = true := code_word (m := ⟨7, 7⟩) (meth := k7m7) (c := k7c7) (by decide +kernel) rfl rfl rfl (by decide +kernel)
set_option maxRecDepth 65536 in
theorem w_c9 : (Jvm.Cond.code ({ cls := "java/lang/String", name := "substring", desc := "(II)Ljava/lang/String;" } : Jvm.MethodName) jdk_42_method_92_code (5 : Nat) (Option.some (Jvm.ClassFile.FieldType.object "java/lang/String"))).before args0 about1 = true := code_word (m := ⟨7, 4⟩) (meth := k7m4) (c := k7c4) (by decide +kernel) rfl rfl rfl (by decide +kernel)
set_option maxRecDepth 65536 in
theorem w_c10 : (Jvm.Cond.code ({ cls := "java/lang/String", name := "checkBoundsBeginEnd", desc := "(III)V" } : Jvm.MethodName) jdk_42_method_158_code (3 : Nat) (Option.none : Option Jvm.ClassFile.FieldType)).before args0 about1 = true := code_word (m := ⟨7, 10⟩) (meth := k7m10) (c := k7c10) (by decide +kernel) rfl rfl rfl (by decide +kernel)
set_option maxRecDepth 65536 in
theorem w_c11 : (Jvm.Cond.code ({ cls := "jdk/internal/util/Preconditions", name := "checkFromToIndex", desc := "(IIILjava/util/function/BiFunction;)I" } : Jvm.MethodName) jdk_41_method_12_code (4 : Nat) (Option.some Jvm.ClassFile.FieldType.int)).before args0 about1 = true := code_word (m := ⟨9, 2⟩) (meth := k9m2) (c := k9c2) (by decide +kernel) rfl rfl rfl (by decide +kernel)
set_option maxRecDepth 65536 in
theorem w_c12 : (Jvm.Cond.code ({ cls := "dev/boundaryline/model/HeaderValueTrimPinLaw", name := "same", desc := "(Ljava/lang/String;[CII)Z" } : Jvm.MethodName) method_4_code (4 : Nat) (Option.some Jvm.ClassFile.FieldType.boolean)).before args0 about1 = true := code_word (m := ⟨1, 3⟩) (meth := k1m3) (c := k1c3) (by decide +kernel) rfl rfl rfl (by decide +kernel)
set_option maxRecDepth 65536 in
theorem w_c13 : (Jvm.Cond.code ({ cls := "java/lang/StringUTF16", name := "compress", desc := "([CII)[B" } : Jvm.MethodName) jdk_52_method_16_code (6 : Nat) (Option.some (Jvm.ClassFile.FieldType.array Jvm.ClassFile.FieldType.byte))).before args0 about1 = true := code_word (m := ⟨10, 2⟩) (meth := k10m2) (c := k10c2) (by decide +kernel) rfl rfl rfl (by decide +kernel)
set_option maxRecDepth 65536 in
theorem w_c14 : (Jvm.Cond.code ({ cls := "java/lang/StringUTF16", name := "compress", desc := "([CI[BII)I" } : Jvm.MethodName) jdk_52_method_21_code (7 : Nat) (Option.some Jvm.ClassFile.FieldType.int)).before args0 about1 = true := code_word (m := ⟨10, 3⟩) (meth := k10m3) (c := k10c3) (by decide +kernel) rfl rfl rfl (by decide +kernel)
set_option maxRecDepth 65536 in
theorem w_c15 : (Jvm.Cond.code ({ cls := "java/lang/StringUTF16", name := "coderFromArrayLen", desc := "([BI)B" } : Jvm.MethodName) jdk_52_method_15_code (2 : Nat) (Option.some Jvm.ClassFile.FieldType.byte)).before args0 about1 = true := code_word (m := ⟨10, 1⟩) (meth := k10m1) (c := k10c1) (by decide +kernel) rfl rfl rfl (by decide +kernel)
set_option maxRecDepth 65536 in
theorem w_c16 : (Jvm.Cond.code ({ cls := "dev/boundaryline/model/HeaderValueTrimPinLaw", name := "ws", desc := "(C)Z" } : Jvm.MethodName) method_3_code (1 : Nat) (Option.some Jvm.ClassFile.FieldType.boolean)).before args0 about1 = true := code_word (m := ⟨1, 2⟩) (meth := k1m2) (c := k1c2) (by decide +kernel) rfl rfl rfl (by decide +kernel)
set_option maxRecDepth 65536 in
theorem w_c17 : (Jvm.Cond.code ({ cls := "java/lang/String", name := "charAt", desc := "(I)C" } : Jvm.MethodName) jdk_42_method_56_code (2 : Nat) (Option.some Jvm.ClassFile.FieldType.char)).before args0 about1 = true := code_word (m := ⟨7, 3⟩) (meth := k7m3) (c := k7c3) (by decide +kernel) rfl rfl rfl (by decide +kernel)
set_option maxRecDepth 65536 in
theorem w_c18 : (Jvm.Cond.code ({ cls := "java/lang/String", name := "isLatin1", desc := "()Z" } : Jvm.MethodName) jdk_42_method_154_code (1 : Nat) (Option.some Jvm.ClassFile.FieldType.boolean)).before args0 about1 = true := code_word (m := ⟨7, 8⟩) (meth := k7m8) (c := k7c8) (by decide +kernel) rfl rfl rfl (by decide +kernel)
set_option maxRecDepth 65536 in
theorem w_c19 : (Jvm.Cond.code ({ cls := "java/lang/StringLatin1", name := "charAt", desc := "([BI)C" } : Jvm.MethodName) jdk_43_method_2_code (2 : Nat) (Option.some Jvm.ClassFile.FieldType.char)).before args0 about1 = true := code_word (m := ⟨11, 1⟩) (meth := k11m1) (c := k11c1) (by decide +kernel) rfl rfl rfl (by decide +kernel)
set_option maxRecDepth 65536 in
theorem w_c20 : (Jvm.Cond.code ({ cls := "java/lang/String", name := "checkIndex", desc := "(II)V" } : Jvm.MethodName) jdk_42_method_155_code (2 : Nat) (Option.none : Option Jvm.ClassFile.FieldType)).before args0 about1 = true := code_word (m := ⟨7, 9⟩) (meth := k7m9) (c := k7c9) (by decide +kernel) rfl rfl rfl (by decide +kernel)
set_option maxRecDepth 65536 in
theorem w_c21 : (Jvm.Cond.code ({ cls := "jdk/internal/util/Preconditions", name := "checkIndex", desc := "(IILjava/util/function/BiFunction;)I" } : Jvm.MethodName) jdk_41_method_11_code (3 : Nat) (Option.some Jvm.ClassFile.FieldType.int)).before args0 about1 = true := code_word (m := ⟨9, 1⟩) (meth := k9m1) (c := k9c1) (by decide +kernel) rfl rfl rfl (by decide +kernel)
set_option maxRecDepth 65536 in
theorem w_c22 : (Jvm.Cond.code ({ cls := "dev/boundaryline/model/HeaderValue", name := "isWhitespace", desc := "(C)Z" } : Jvm.MethodName) prog_32_method_11_code (1 : Nat) (Option.some Jvm.ClassFile.FieldType.boolean)).before args0 about1 = true := code_word (m := ⟨8, 2⟩) (meth := k8m2) (c := k8c2) (by decide +kernel) rfl rfl rfl (by decide +kernel)
set_option maxRecDepth 65536 in
theorem w_c23 : (Jvm.Cond.code ({ cls := "java/lang/StringLatin1", name := "newString", desc := "([BII)Ljava/lang/String;" } : Jvm.MethodName) jdk_43_method_47_code (3 : Nat) (Option.some (Jvm.ClassFile.FieldType.object "java/lang/String"))).before args0 about1 = true := code_word (m := ⟨11, 2⟩) (meth := k11m2) (c := k11c2) (by decide +kernel) rfl rfl rfl (by decide +kernel)
set_option maxRecDepth 65536 in
theorem w_c24 : (Jvm.Cond.code ({ cls := "java/util/Arrays", name := "copyOfRange", desc := "([BII)[B" } : Jvm.MethodName) jdk_65_method_132_code (3 : Nat) (Option.some (Jvm.ClassFile.FieldType.array Jvm.ClassFile.FieldType.byte))).before args0 about1 = true := code_word (m := ⟨12, 2⟩) (meth := k12m2) (c := k12c2) (by decide +kernel) rfl rfl rfl (by decide +kernel)
set_option maxRecDepth 65536 in
theorem w_c25 : (Jvm.Cond.code ({ cls := "java/util/Arrays", name := "copyOfRangeByte", desc := "([BII)[B" } : Jvm.MethodName) jdk_65_method_133_code (5 : Nat) (Option.some (Jvm.ClassFile.FieldType.array Jvm.ClassFile.FieldType.byte))).before args0 about1 = true := code_word (m := ⟨12, 3⟩) (meth := k12m3) (c := k12c3) (by decide +kernel) rfl rfl rfl (by decide +kernel)
set_option maxRecDepth 65536 in
theorem w_c26 : (Jvm.Cond.code ({ cls := "java/util/Arrays", name := "checkLength", desc := "(II)V" } : Jvm.MethodName) jdk_65_method_131_code (2 : Nat) (Option.none : Option Jvm.ClassFile.FieldType)).before args0 about1 = true := code_word (m := ⟨12, 1⟩) (meth := k12m1) (c := k12c1) (by decide +kernel) rfl rfl rfl (by decide +kernel)
set_option maxRecDepth 65536 in
theorem w_c27 : (Jvm.Cond.code ({ cls := "java/lang/Math", name := "min", desc := "(II)I" } : Jvm.MethodName) jdk_29_method_69_code (2 : Nat) (Option.some Jvm.ClassFile.FieldType.int)).before args0 about1 = true := code_word (m := ⟨13, 1⟩) (meth := k13m1) (c := k13c1) (by decide +kernel) rfl rfl rfl (by decide +kernel)
set_option maxRecDepth 65536 in
theorem w_c28 : (Jvm.Cond.code ({ cls := "java/lang/String", name := "<init>", desc := "([BB)V" } : Jvm.MethodName) jdk_42_method_151_code (3 : Nat) (Option.none : Option Jvm.ClassFile.FieldType)).before args0 about1 = true := code_word (m := ⟨7, 6⟩) (meth := k7m6) (c := k7c6) (by decide +kernel) rfl rfl rfl (by decide +kernel)
def codes1 : List Jvm.Cond := [Jvm.Cond.code x code maxLocals ret, Jvm.Cond.code ({ cls := "dev/boundaryline/model/HeaderValueTrimPinLaw", name := "draw", desc := "(I)C" } : Jvm.MethodName) method_2_code (2 : Nat) (Option.some Jvm.ClassFile.FieldType.char), Jvm.Cond.code ({ cls := "java/lang/String", name := "<init>", desc := "([C)V" } : Jvm.MethodName) jdk_42_method_3_code (2 : Nat) (Option.none : Option Jvm.ClassFile.FieldType), Jvm.Cond.code ({ cls := "java/lang/String", name := "<init>", desc := "([CIILjava/lang/Void;)V" } : Jvm.MethodName) jdk_42_method_149_code (6 : Nat) (Option.none : Option Jvm.ClassFile.FieldType), Jvm.Cond.code ({ cls := "java/lang/Object", name := "<init>", desc := "()V" } : Jvm.MethodName) object_method_1_code (1 : Nat) (Option.none : Option Jvm.ClassFile.FieldType), Jvm.Cond.code ({ cls := "dev/boundaryline/model/HeaderValue", name := "trim", desc := "(Ljava/lang/String;)Ljava/lang/String;" } : Jvm.MethodName) prog_32_method_8_code (3 : Nat) (Option.some (Jvm.ClassFile.FieldType.object "java/lang/String")), Jvm.Cond.code ({ cls := "dev/boundaryline/model/HeaderValue", name := "skipWhitespace", desc := "(Ljava/lang/String;I)I" } : Jvm.MethodName) prog_32_method_10_code (3 : Nat) (Option.some Jvm.ClassFile.FieldType.int), Jvm.Cond.code ({ cls := "java/lang/String", name := "length", desc := "()I" } : Jvm.MethodName) jdk_42_method_54_code (1 : Nat) (Option.some Jvm.ClassFile.FieldType.int), Jvm.Cond.code ({ cls := "java/lang/String", name := "coder", desc := "()B" } : Jvm.MethodName) jdk_42_method_152_code (1 : Nat) (Option.some Jvm.ClassFile.FieldType.byte), Jvm.Cond.code ({ cls := "java/lang/String", name := "substring", desc := "(II)Ljava/lang/String;" } : Jvm.MethodName) jdk_42_method_92_code (5 : Nat) (Option.some (Jvm.ClassFile.FieldType.object "java/lang/String")), Jvm.Cond.code ({ cls := "java/lang/String", name := "checkBoundsBeginEnd", desc := "(III)V" } : Jvm.MethodName) jdk_42_method_158_code (3 : Nat) (Option.none : Option Jvm.ClassFile.FieldType), Jvm.Cond.code ({ cls := "jdk/internal/util/Preconditions", name := "checkFromToIndex", desc := "(IIILjava/util/function/BiFunction;)I" } : Jvm.MethodName) jdk_41_method_12_code (4 : Nat) (Option.some Jvm.ClassFile.FieldType.int), Jvm.Cond.code ({ cls := "dev/boundaryline/model/HeaderValueTrimPinLaw", name := "same", desc := "(Ljava/lang/String;[CII)Z" } : Jvm.MethodName) method_4_code (4 : Nat) (Option.some Jvm.ClassFile.FieldType.boolean), Jvm.Cond.code ({ cls := "java/lang/StringUTF16", name := "compress", desc := "([CII)[B" } : Jvm.MethodName) jdk_52_method_16_code (6 : Nat) (Option.some (Jvm.ClassFile.FieldType.array Jvm.ClassFile.FieldType.byte)), Jvm.Cond.code ({ cls := "java/lang/StringUTF16", name := "compress", desc := "([CI[BII)I" } : Jvm.MethodName) jdk_52_method_21_code (7 : Nat) (Option.some Jvm.ClassFile.FieldType.int), Jvm.Cond.code ({ cls := "java/lang/StringUTF16", name := "coderFromArrayLen", desc := "([BI)B" } : Jvm.MethodName) jdk_52_method_15_code (2 : Nat) (Option.some Jvm.ClassFile.FieldType.byte), Jvm.Cond.code ({ cls := "dev/boundaryline/model/HeaderValueTrimPinLaw", name := "ws", desc := "(C)Z" } : Jvm.MethodName) method_3_code (1 : Nat) (Option.some Jvm.ClassFile.FieldType.boolean), Jvm.Cond.code ({ cls := "java/lang/String", name := "charAt", desc := "(I)C" } : Jvm.MethodName) jdk_42_method_56_code (2 : Nat) (Option.some Jvm.ClassFile.FieldType.char), Jvm.Cond.code ({ cls := "java/lang/String", name := "isLatin1", desc := "()Z" } : Jvm.MethodName) jdk_42_method_154_code (1 : Nat) (Option.some Jvm.ClassFile.FieldType.boolean), Jvm.Cond.code ({ cls := "java/lang/StringLatin1", name := "charAt", desc := "([BI)C" } : Jvm.MethodName) jdk_43_method_2_code (2 : Nat) (Option.some Jvm.ClassFile.FieldType.char), Jvm.Cond.code ({ cls := "java/lang/String", name := "checkIndex", desc := "(II)V" } : Jvm.MethodName) jdk_42_method_155_code (2 : Nat) (Option.none : Option Jvm.ClassFile.FieldType), Jvm.Cond.code ({ cls := "jdk/internal/util/Preconditions", name := "checkIndex", desc := "(IILjava/util/function/BiFunction;)I" } : Jvm.MethodName) jdk_41_method_11_code (3 : Nat) (Option.some Jvm.ClassFile.FieldType.int), Jvm.Cond.code ({ cls := "dev/boundaryline/model/HeaderValue", name := "isWhitespace", desc := "(C)Z" } : Jvm.MethodName) prog_32_method_11_code (1 : Nat) (Option.some Jvm.ClassFile.FieldType.boolean), Jvm.Cond.code ({ cls := "java/lang/StringLatin1", name := "newString", desc := "([BII)Ljava/lang/String;" } : Jvm.MethodName) jdk_43_method_47_code (3 : Nat) (Option.some (Jvm.ClassFile.FieldType.object "java/lang/String")), Jvm.Cond.code ({ cls := "java/util/Arrays", name := "copyOfRange", desc := "([BII)[B" } : Jvm.MethodName) jdk_65_method_132_code (3 : Nat) (Option.some (Jvm.ClassFile.FieldType.array Jvm.ClassFile.FieldType.byte)), Jvm.Cond.code ({ cls := "java/util/Arrays", name := "copyOfRangeByte", desc := "([BII)[B" } : Jvm.MethodName) jdk_65_method_133_code (5 : Nat) (Option.some (Jvm.ClassFile.FieldType.array Jvm.ClassFile.FieldType.byte)), Jvm.Cond.code ({ cls := "java/util/Arrays", name := "checkLength", desc := "(II)V" } : Jvm.MethodName) jdk_65_method_131_code (2 : Nat) (Option.none : Option Jvm.ClassFile.FieldType), Jvm.Cond.code ({ cls := "java/lang/Math", name := "min", desc := "(II)I" } : Jvm.MethodName) jdk_29_method_69_code (2 : Nat) (Option.some Jvm.ClassFile.FieldType.int), Jvm.Cond.code ({ cls := "java/lang/String", name := "<init>", desc := "([BB)V" } : Jvm.MethodName) jdk_42_method_151_code (3 : Nat) (Option.none : Option Jvm.ClassFile.FieldType)]
set_option maxRecDepth 65536 in
theorem codes_eq : words1.filter isCode = codes1 := rfl
theorem w_codes : ∀ c ∈ words1.filter isCode, c.before args0 about1 = true := by
  rw [codes_eq]
  intro c hc
  simp only [codes1, List.mem_cons, List.not_mem_nil, or_false] at hc
  rcases hc with rfl | rfl | rfl | rfl | rfl | rfl | rfl | rfl | rfl | rfl | rfl | rfl | rfl | rfl | rfl | rfl | rfl | rfl | rfl | rfl | rfl | rfl | rfl | rfl | rfl | rfl | rfl | rfl | rfl
  · exact w_c0
  · exact w_c1
  · exact w_c2
  · exact w_c3
  · exact w_c4
  · exact w_c5
  · exact w_c6
  · exact w_c7
  · exact w_c8
  · exact w_c9
  · exact w_c10
  · exact w_c11
  · exact w_c12
  · exact w_c13
  · exact w_c14
  · exact w_c15
  · exact w_c16
  · exact w_c17
  · exact w_c18
  · exact w_c19
  · exact w_c20
  · exact w_c21
  · exact w_c22
  · exact w_c23
  · exact w_c24
  · exact w_c25
  · exact w_c26
  · exact w_c27
  · exact w_c28
set_option maxRecDepth 65536 in
theorem w_t1 : (words1.take 24).all (fun c => isCode c || c.before args0 about1) = true := by decide +kernel
set_option maxRecDepth 65536 in
theorem w_t2 : ((words1.drop 24).take 24).all (fun c => isCode c || c.before args0 about1) = true := by decide +kernel
set_option maxRecDepth 65536 in
theorem w_t3 : (((words1.drop 24).drop 24).take 24).all (fun c => isCode c || c.before args0 about1) = true := by decide +kernel
set_option maxRecDepth 65536 in
theorem w_t4 : ((((words1.drop 24).drop 24).drop 24).take 24).all (fun c => isCode c || c.before args0 about1) = true := by decide +kernel
set_option maxRecDepth 65536 in
theorem w_t5 : (((((words1.drop 24).drop 24).drop 24).drop 24).take 24).all (fun c => isCode c || c.before args0 about1) = true := by decide +kernel
set_option maxRecDepth 65536 in
theorem w_t6 : (((((words1.drop 24).drop 24).drop 24).drop 24).drop 24).all (fun c => isCode c || c.before args0 about1) = true := by decide +kernel
theorem w_tables : (allAtoms (Jvm.Cond.code x code maxLocals ret :: tables_1)).before args0 about1 = true := by
  rw [allAtoms_all]
  show words1.all (fun c => c.before args0 about1) = true
  refine all_split ?_ w_codes
  rw [← List.take_append_drop 24 words1, List.all_append, w_t1, ← List.take_append_drop 24 (words1.drop 24), List.all_append, w_t2, ← List.take_append_drop 24 ((words1.drop 24).drop 24), List.all_append, w_t3, ← List.take_append_drop 24 (((words1.drop 24).drop 24).drop 24), List.all_append, w_t4, ← List.take_append_drop 24 ((((words1.drop 24).drop 24).drop 24).drop 24), List.all_append, w_t5, w_t6]
  rfl
set_option maxRecDepth 65536 in
theorem w_rest : rest_1_c.before args0 about1 = true := by decide +kernel
set_option maxRecDepth 65536 in
theorem w_case : (Jvm.Cond.and given_1 narrow_1).before args0 about1 = true := by decide +kernel
set_option maxRecDepth 65536 in
theorem w_consts : constsHeld consts_1 about1 := Jvm.Lit.constsHeldB_iff.mp (by decide +kernel)
theorem w_applies : (headSpec (Jvm.Cond.code x code maxLocals ret :: tables_1) room_1).applies x e0.platform about1 = true :=
  (Spec.applies_iff w_frames).mpr ⟨w_running, w_runnable, w_alone, w_named, w_hears, w_ripe, w_room, w_tables⟩
theorem atStart : AtStart classFile x code maxLocals ret World_1 tables_1 room_1 Calls_1 rest_1 Pre_1 launch0 p0 e0 about1 theMethod args0 below0 :=
  ⟨lists_1, trivial, launch0.admits_env _ _ _, launch0.least_env, fairChoices_fair.cas, fairChoices_fair.clock, w_frames, w_args, w_heap, w_applies, ⟨w_consts, trivial⟩, w_rest, w_case⟩
end start1
theorem witness_1 : WitnessClaimed_1 := ⟨start1.p0, start1.e0, start1.about1, start1.theMethod, start1.args0, start1.below0, start1.atStart⟩
end Jvm.Pilot.@@N@@
