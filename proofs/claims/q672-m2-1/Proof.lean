import JvmDerived
import JvmDerived.Pilot.@@N@@Statement
import JvmDerived.Pilot.@@N@@Code
set_option linter.unusedVariables false
set_option linter.unusedSimpArgs false
/- laws to paste: Road.backV, Road.eqW, Road.codOf (cut by pick.py; bodies as the Statement names them) -/
namespace Jvm.Pilot.@@N@@
namespace StrChars
open Jvm Sem ClassFile Op Lib Jvm.Stand Jvm.Free.XT Jvm.Free.ALB Jvm.Free.JM Jvm.Free
open Jvm.Lib.Cold (StaticIs)
/-- a char array whose places are chars -/
def Ch (a : Addr) (A : Cell) (U : State) : Prop := Arr .char a A U ∧ Typed .char A
theorem Ch.mv {a : Addr} {A : Cell} {U U' : State} (h : Ch a A U) (hal : U.vm.Alike U'.vm) (hh : U'.heap = U.heap) : Ch a A U' := ⟨h.1.mv hal hh, h.2⟩
theorem Ch.keep {a : Addr} {A : Cell} {U U' : State} (h : Ch a A U) (hal : U.vm.Alike U'.vm) (hk : U'.heap[a]? = some A) : Ch a A U' := ⟨h.1.keep hal hk, h.2⟩
/-- what place i of a char[]'s cell holds -/
def cv (A : Cell) (i : Nat) : Int32 := match A.slots[i]? with | some (.int x) => x | _ => 0
theorem Ch.get {a : Addr} {A : Cell} {U : State} (h : Ch a A U) {i : Nat} (hi : i < A.slots.size) : A.slots[i]? = some (.int (cv A i)) := by
  have e := Array.getElem?_eq_getElem hi
  have f := h.2 i _ e
  unfold cv; rw [e]
  generalize A.slots[i] = v at f
  cases v <;> simp [fits] at f ⊢
/-- the byte that i2b leaves of a char -/
def lo8 (x : Int32) : Int32 := x.toInt8.toInt32
theorem fits_lo8 (y : Int32) : fits .byte (.int (lo8 y)) = true := by
  have h1 := y.toInt8.le_toInt
  have h2 := y.toInt8.toInt_lt
  simp only [lo8, fits, Bool.and_eq_true, decide_eq_true_eq, Int32.le_iff_toInt_le, Int8.toInt_toInt32, show (-128 : Int32).toInt = -128 from by decide, show (127 : Int32).toInt = 127 from by decide]
  omega
/-- A' is A but that each place j of lo .. hi - 1 holds f j -/
def Laid (A A' : Cell) (lo hi : Nat) (f : Nat → Value) : Prop := A'.cls = A.cls ∧ A'.vm = A.vm ∧ A'.slots.size = A.slots.size ∧ ∀ i, A'.slots[i]? = if lo ≤ i ∧ i < hi then some (f i) else A.slots[i]?
theorem Laid.zero (A : Cell) (lo : Nat) (f : Nat → Value) : Laid A A lo (lo + 0) f := ⟨rfl, rfl, rfl, fun i => by rw [if_neg (by omega)]⟩
theorem Laid.step {A Ak : Cell} {lo k : Nat} {f : Nat → Value} {v : Value} (h : Laid A Ak lo k f) (hlo : lo ≤ k) (hk : k < Ak.slots.size) (hv : v = f k) : Laid A (Ak.setSlot k v) lo (k + 1) f := by
  refine ⟨h.1, h.2.1, by simpa [Cell.setSlot] using h.2.2.1, fun i => ?_⟩
  by_cases e : k = i
  · subst e; rw [Cell.slots_setSlot_self v hk, if_pos (by omega), hv]
  · rw [Cell.slots_setSlot_ne v e, h.2.2.2 i]
    by_cases q : lo ≤ i ∧ i < k
    · rw [if_pos q, if_pos (by omega)]
    · rw [if_neg q, if_neg (by omega)]
def U16 : String := "java/lang/StringUTF16"
namespace Cmp5
def yN : MethodName := ⟨"java/lang/StringUTF16", "compress", "([CI[BII)I"⟩
abbrev yB : ByteArray := jdk_52_method_21_code
theorem d0 : decode yB 0 = .ok (.iconst 0, 1) := by decide +kernel
theorem d1 : decode yB 1 = .ok (.istore 5, 2) := by decide +kernel
theorem d3 : decode yB 3 = .ok (.iload 5, 2) := by decide +kernel
theorem d5 : decode yB 5 = .ok (.iload 4, 2) := by decide +kernel
theorem d7 : decode yB 7 = .ok (.if_icmp (.ge) 37, 3) := by decide +kernel
theorem d10 : decode yB 10 = .ok (.aload_n 0, 1) := by decide +kernel
theorem d11 : decode yB 11 = .ok (.iload_n 1, 1) := by decide +kernel
theorem d12 : decode yB 12 = .ok (.caload, 1) := by decide +kernel
theorem d13 : decode yB 13 = .ok (.istore 6, 2) := by decide +kernel
theorem d15 : decode yB 15 = .ok (.iload 6, 2) := by decide +kernel
theorem d17 : decode yB 17 = .ok (.sipush 255, 3) := by decide +kernel
theorem d20 : decode yB 20 = .ok (.if_icmp (.le) 6, 3) := by decide +kernel
theorem d26 : decode yB 26 = .ok (.aload_n 2, 1) := by decide +kernel
theorem d27 : decode yB 27 = .ok (.iload_n 3, 1) := by decide +kernel
theorem d28 : decode yB 28 = .ok (.iload 6, 2) := by decide +kernel
theorem d30 : decode yB 30 = .ok (.i2b, 1) := by decide +kernel
theorem d31 : decode yB 31 = .ok (.bastore, 1) := by decide +kernel
theorem d32 : decode yB 32 = .ok (.iinc 1 1, 3) := by decide +kernel
theorem d35 : decode yB 35 = .ok (.iinc 3 1, 3) := by decide +kernel
theorem d38 : decode yB 38 = .ok (.iinc 5 1, 3) := by decide +kernel
theorem d41 : decode yB 41 = .ok (.goto (-38), 3) := by decide +kernel
theorem d44 : decode yB 44 = .ok (.iload 4, 2) := by decide +kernel
theorem d46 : decode yB 46 = .ok (.ireturn, 1) := by decide +kernel
def site : List Cond := []
def tab : Cond := tabOf yN yB 7 (some .int) site
def P (b : Addr) (A : Cell) (d : Addr) (B : Cell) (o q len : Nat) (args : Array Value) (s : State) : Prop := args = #[.ref b, .int (Int32.ofNat o), .ref d, .int (Int32.ofNat q), .int (Int32.ofNat len)] ∧ Ch b A s ∧ Arr .byte d B s ∧ b ≠ d ∧ o + len ≤ A.slots.size ∧ q + len ≤ B.slots.size ∧ ∀ i, i < len → ¬ 255 < cv A (o + i)
def E (b : Addr) (A : Cell) (d : Addr) (B : Cell) (o q len : Nat) (r : Option Value) (s u : State) : Prop := r = some (.int (Int32.ofNat len)) ∧ ∃ B', Put d B' s u ∧ Laid B B' q (q + len) (fun j => Value.int (lo8 (cv A (o + (j - q)))))
/-- no char of the range above 255: len; the places written hold each char's low byte -/
theorem law (l : Launch) (b : Addr) (A : Cell) (d : Addr) (B : Cell) (o q len : Nat) : Law l yN 5 5 0 0 yB 7 (some .int) site (P b A d B o q len) (E b A d B o q len) (copyLocs d q len) 0 0 := by
  refine Law.of_walk (plainFor_of_name (by decide +kernel)) (by decide +kernel) (by decide +kernel) (by decide) (fun _ _ h => by rw [h.1]; rfl) (fun _ U U' hal hh h => ⟨h.1, h.2.1.mv hal hh, h.2.2.1.mv hal hh, h.2.2.2⟩) (fun r U U' V V' h1 hal h2 h => ⟨h.1, h.2.elim fun B' q => ⟨B', q.1.mv h1 h2, q.2⟩⟩) ?_
  intro p e s m args below meth c s₁ X0 hexec hbytes hml hret hlk hnm hown hh0 W hP
  obtain ⟨rfl, hA, hB, hne, l1, l2, hp⟩ := hP
  have c1 : Steps p.tables e below (s₁.setTop (entryFrame m #[.ref b, .int (Int32.ofNat o), .ref d, .int (Int32.ofNat q), .int (Int32.ofNat len)] 7)) (s₁.setTop (mkF m 0 #[.val (.ref b), .val (.int (Int32.ofNat o)), .val (.ref d), .val (.int (Int32.ofNat q)), .val (.int (Int32.ofNat len)), .unset, .unset] [])) := entry rfl
  have hA0 := hA.1.mv X0.warmed.alike hh0
  have hB0 := hB.mv X0.warmed.alike hh0
  have a31 := hA.1.2.2.2
  have c2 : Steps p.tables e below (s₁.setTop (entryFrame m #[.ref b, .int (Int32.ofNat o), .ref d, .int (Int32.ofNat q), .int (Int32.ofNat len)] 7)) (s₁.setTop (mkF m 3 #[.val (.ref b), .val (.int (Int32.ofNat o)), .val (.ref d), .val (.int (Int32.ofNat q)), .val (.int (Int32.ofNat len)), .val (.int 0), .unset] [])) := c1.trans (by
    refine iconstV X0.here hexec rfl 0 (hb hbytes d0) (by decide) ?_
    refine XS.istore X0.here hexec rfl (hb hbytes d1) rfl rfl ?_
    exact Steps.refl _)
  have loop : ∀ (r i : Nat), i + r = len → ∀ (z : Slot), (z = .unset ∨ ∃ w, z = .val w ∧ w.category = 1) → ∀ (Tl : State) (Bk : Cell), Stand p l e { frames := 0, locals := 0, cells := 0, slots := 0 } s m #[.ref b, .int (Int32.ofNat o), .ref d, .int (Int32.ofNat q), .int (Int32.ofNat len)] below meth c Tl ([] ++ copyLocs d q i) 0 0 → Put d Bk s₁ Tl → Laid B Bk q (q + i) (fun j => Value.int (lo8 (cv A (o + (j - q))))) →
      Steps p.tables e below (s₁.setTop (entryFrame m #[.ref b, .int (Int32.ofNat o), .ref d, .int (Int32.ofNat q), .int (Int32.ofNat len)] 7)) (Tl.setTop (mkF m 3 #[.val (.ref b), .val (.int (Int32.ofNat (o + i))), .val (.ref d), .val (.int (Int32.ofNat (q + i))), .val (.int (Int32.ofNat len)), .val (.int (Int32.ofNat i)), z] [])) → ∃ (T' : State) (B' : Cell) (z' : Slot), Stand p l e { frames := 0, locals := 0, cells := 0, slots := 0 } s m #[.ref b, .int (Int32.ofNat o), .ref d, .int (Int32.ofNat q), .int (Int32.ofNat len)] below meth c T' ([] ++ copyLocs d q len) 0 0 ∧ Put d B' s₁ T' ∧ Laid B B' q (q + len) (fun j => Value.int (lo8 (cv A (o + (j - q))))) ∧
      Steps p.tables e below (s₁.setTop (entryFrame m #[.ref b, .int (Int32.ofNat o), .ref d, .int (Int32.ofNat q), .int (Int32.ofNat len)] 7)) (T'.setTop (mkF m 3 #[.val (.ref b), .val (.int (Int32.ofNat (o + len))), .val (.ref d), .val (.int (Int32.ofNat (q + len))), .val (.int (Int32.ofNat len)), .val (.int (Int32.ofNat len)), z'] [])) := by
    intro r
    induction r with
    | zero =>
      intro i hi z hz Tl Bk Xl pl fl cl
      have hil : i = len := by omega
      rw [hil] at Xl fl cl
      exact ⟨Tl, Bk, z, Xl, pl, fl, cl⟩
    | succ r ih =>
      intro i hi z hz Tl Bk Xl pl fl cl
      have all := X0.warmed.alike.symm.trans Xl.warmed.alike
      have hAl := hA0.keep all (pl.other hne hA0.1)
      have hBk := hB0.like all pl.1 fl.1 fl.2.1 fl.2.2.1
      have hlt : q + i < Bk.slots.size := by rw [fl.2.2.1]; omega
      have c3 : Steps p.tables e below (s₁.setTop (entryFrame m #[.ref b, .int (Int32.ofNat o), .ref d, .int (Int32.ofNat q), .int (Int32.ofNat len)] 7)) (Tl.setTop (mkF m 12 #[.val (.ref b), .val (.int (Int32.ofNat (o + i))), .val (.ref d), .val (.int (Int32.ofNat (q + i))), .val (.int (Int32.ofNat len)), .val (.int (Int32.ofNat i)), z] [.int (Int32.ofNat (o + i)), .ref b])) := cl.trans (by
        refine XS.iload Xl.here hexec rfl (hb hbytes d3) rfl ?_
        refine XS.iload Xl.here hexec rfl (hb hbytes d5) rfl ?_
        refine XS.icmpNo Xl.here hexec rfl (hb hbytes d7) rfl (ii_ge_f (lt32 (by omega) (by omega))) ?_
        refine XS.aloadN Xl.here hexec rfl (hb hbytes d10) rfl rfl ?_
        refine XS.iloadN Xl.here hexec rfl (hb hbytes d11) rfl ?_
        exact Steps.refl _)
      have c4 : Steps p.tables e below (s₁.setTop (entryFrame m #[.ref b, .int (Int32.ofNat o), .ref d, .int (Int32.ofNat q), .int (Int32.ofNat len)] 7)) (Tl.setTop (mkF m 13 #[.val (.ref b), .val (.int (Int32.ofNat (o + i))), .val (.ref d), .val (.int (Int32.ofNat (q + i))), .val (.int (Int32.ofNat len)), .val (.int (Int32.ofNat i)), z] [.int (cv A (o + i))])) := c3.trans (by
        refine Xl.aget hexec hAl rfl (hA.get (i := o + i) (by omega)) rfl rfl (hb hbytes d12) ?_
        exact Steps.refl _)
      have c5 : Steps p.tables e below (s₁.setTop (entryFrame m #[.ref b, .int (Int32.ofNat o), .ref d, .int (Int32.ofNat q), .int (Int32.ofNat len)] 7)) (Tl.setTop (mkF m 15 #[.val (.ref b), .val (.int (Int32.ofNat (o + i))), .val (.ref d), .val (.int (Int32.ofNat (q + i))), .val (.int (Int32.ofNat len)), .val (.int (Int32.ofNat i)), .val (.int (cv A (o + i)))] [])) := c4.trans (by
        refine XS.istoreS Xl.here hexec rfl (hb hbytes d13) rfl rfl hz ?_
        exact Steps.refl _)
      have c6 : Steps p.tables e below (s₁.setTop (entryFrame m #[.ref b, .int (Int32.ofNat o), .ref d, .int (Int32.ofNat q), .int (Int32.ofNat len)] 7)) (Tl.setTop (mkF m 31 #[.val (.ref b), .val (.int (Int32.ofNat (o + i))), .val (.ref d), .val (.int (Int32.ofNat (q + i))), .val (.int (Int32.ofNat len)), .val (.int (Int32.ofNat i)), .val (.int (cv A (o + i)))] [.int (lo8 (cv A (o + i))), .int (Int32.ofNat (q + i)), .ref d])) := c5.trans (by
        refine XS.iload Xl.here hexec rfl (hb hbytes d15) rfl ?_
        refine sipushV Xl.here hexec rfl 255 (hb hbytes d17) (by decide) ?_
        refine XS.icmpYes Xl.here hexec rfl (pc0 := 20) rfl (hb hbytes d20) rfl (ii_le_t (hp i (by omega))) (by decide) rfl ?_
        refine XS.aloadN Xl.here hexec rfl (hb hbytes d26) rfl rfl ?_
        refine XS.iloadN Xl.here hexec rfl (hb hbytes d27) rfl ?_
        refine XS.iload Xl.here hexec rfl (hb hbytes d28) rfl ?_
        refine i2b Xl.here hexec rfl (hb hbytes d30) rfl ?_
        exact Steps.refl _)
      obtain ⟨T7, X7, p7, st7⟩ := Xl.aput hexec hBk rfl hlt rfl (fits_lo8 (cv A (o + i))) (g := (mkF m 31 #[.val (.ref b), .val (.int (Int32.ofNat (o + i))), .val (.ref d), .val (.int (Int32.ofNat (q + i))), .val (.int (Int32.ofNat len)), .val (.int (Int32.ofNat i)), .val (.int (cv A (o + i)))] [.int (lo8 (cv A (o + i))), .int (Int32.ofNat (q + i)), .ref d])) rfl (rest := []) rfl (hb hbytes d31)
      have c8 : Steps p.tables e below (s₁.setTop (entryFrame m #[.ref b, .int (Int32.ofNat o), .ref d, .int (Int32.ofNat q), .int (Int32.ofNat len)] 7)) (T7.setTop (mkF m 32 #[.val (.ref b), .val (.int (Int32.ofNat (o + i))), .val (.ref d), .val (.int (Int32.ofNat (q + i))), .val (.int (Int32.ofNat len)), .val (.int (Int32.ofNat i)), .val (.int (cv A (o + i)))] [])) := c6.trans (st7 _ (Steps.refl _))
      have c9 : Steps p.tables e below (s₁.setTop (entryFrame m #[.ref b, .int (Int32.ofNat o), .ref d, .int (Int32.ofNat q), .int (Int32.ofNat len)] 7)) (T7.setTop (mkF m 3 #[.val (.ref b), .val (.int (Int32.ofNat (o + i) + 1)), .val (.ref d), .val (.int (Int32.ofNat (q + i) + 1)), .val (.int (Int32.ofNat len)), .val (.int (Int32.ofNat i + 1)), .val (.int (cv A (o + i)))] [])) := c8.trans (by
        refine iincV X7.here hexec rfl 1 (hb hbytes d32) (by decide) rfl rfl ?_
        refine iincV X7.here hexec rfl 1 (hb hbytes d35) (by decide) rfl rfl ?_
        refine iincV X7.here hexec rfl 1 (hb hbytes d38) (by decide) rfl rfl ?_
        refine XS.goto X7.here hexec rfl (pc0 := 41) rfl (hb hbytes d41) (by decide) rfl ?_
        exact Steps.refl _)
      have c10 : Steps p.tables e below (s₁.setTop (entryFrame m #[.ref b, .int (Int32.ofNat o), .ref d, .int (Int32.ofNat q), .int (Int32.ofNat len)] 7)) (T7.setTop (mkF m 3 #[.val (.ref b), .val (.int (Int32.ofNat (o + (i + 1)))), .val (.ref d), .val (.int (Int32.ofNat (q + (i + 1)))), .val (.int (Int32.ofNat len)), .val (.int (Int32.ofNat (i + 1))), .val (.int (cv A (o + i)))] [])) := by
        have := c9
        rw [succ32, succ32, succ32] at this
        exact this
      exact ih (i + 1) (by omega) _ (Or.inr ⟨_, rfl, rfl⟩) T7 _ (by rw [copyLocs_step, ← List.append_assoc]; exact X7) (pl.trans p7) (fl.step (by omega) hlt (by simp)) c10
  obtain ⟨T9, B9, z9, X9, p9, f9, g9⟩ := loop len 0 (by omega) .unset (Or.inl rfl) s₁ B (by simpa [copyLocs] using X0) ⟨hB0.1, fun _ _ => rfl, rfl⟩ (Laid.zero _ _ _) c2
  have c11 : Steps p.tables e below (s₁.setTop (entryFrame m #[.ref b, .int (Int32.ofNat o), .ref d, .int (Int32.ofNat q), .int (Int32.ofNat len)] 7)) (T9.setTop (mkF m 46 #[.val (.ref b), .val (.int (Int32.ofNat (o + len))), .val (.ref d), .val (.int (Int32.ofNat (q + len))), .val (.int (Int32.ofNat len)), .val (.int (Int32.ofNat len)), z9] [.int (Int32.ofNat len)])) := g9.trans (by
    refine XS.iload X9.here hexec rfl (hb hbytes d3) rfl ?_
    refine XS.iload X9.here hexec rfl (hb hbytes d5) rfl ?_
    refine XS.icmpYes X9.here hexec rfl (pc0 := 7) rfl (hb hbytes d7) rfl (ii_ge_t (nlt32 (by omega) (Nat.le_refl _))) (by decide) rfl ?_
    refine XS.iload X9.here hexec rfl (hb hbytes d44) rfl ?_
    exact Steps.refl _)
  exact ⟨T9, some (.int (Int32.ofNat len)), _, _, _, X9, by simp, rfl, rfl, (fun h => by cases h), ⟨rfl, B9, p9.from hh0, f9⟩, fun fs hl => c11.trans (X9.ireturnOut hexec hret rfl (Or.inl rfl) (hb hbytes d46) hl)⟩
end Cmp5
namespace Cmp3
def yN : MethodName := ⟨"java/lang/StringUTF16", "compress", "([CII)[B"⟩
abbrev yB : ByteArray := jdk_52_method_16_code
theorem d0 : decode yB 0 = .ok (.iload_n 2, 1) := by decide +kernel
theorem d1 : decode yB 1 = .ok (.newarray .byte, 2) := by decide +kernel
theorem d3 : decode yB 3 = .ok (.astore_n 3, 1) := by decide +kernel
theorem d4 : decode yB 4 = .ok (.aload_n 0, 1) := by decide +kernel
theorem d5 : decode yB 5 = .ok (.iload_n 1, 1) := by decide +kernel
theorem d6 : decode yB 6 = .ok (.aload_n 3, 1) := by decide +kernel
theorem d7 : decode yB 7 = .ok (.iconst 0, 1) := by decide +kernel
theorem d8 : decode yB 8 = .ok (.iload_n 2, 1) := by decide +kernel
theorem d9 : decode yB 9 = .ok (.invokestatic 115, 3) := by decide +kernel
theorem d12 : decode yB 12 = .ok (.istore 4, 2) := by decide +kernel
theorem d14 : decode yB 14 = .ok (.iload 4, 2) := by decide +kernel
theorem d16 : decode yB 16 = .ok (.iload_n 2, 1) := by decide +kernel
theorem d17 : decode yB 17 = .ok (.if_icmp (.eq) 40, 3) := by decide +kernel
theorem d57 : decode yB 57 = .ok (.aload_n 3, 1) := by decide +kernel
theorem d58 : decode yB 58 = .ok (.areturn, 1) := by decide +kernel
def site : List Cond := [.arrayClass .byte, Cmp5.tab] ++ staticW U16 115 Cmp5.yN
def tab : Cond := tabOf yN yB 6 (some (.array .byte)) site
def P (b : Addr) (A : Cell) (o len : Nat) (args : Array Value) (s : State) : Prop := args = #[.ref b, .int (Int32.ofNat o), .int (Int32.ofNat len)] ∧ Ch b A s ∧ o + len ≤ A.slots.size ∧ len ≤ 536870912 ∧ ∀ i, i < len → ¬ 255 < cv A (o + i)
def E (b : Addr) (A : Cell) (o len : Nat) (r : Option Value) (s u : State) : Prop := NewArr .byte "[B" len (fun j => .int (lo8 (cv A (o + j)))) r s u ∧ u.heap.size = s.heap.size + 1
/-- no char of the range above 255: a new byte[] of their low bytes -/
theorem law (l : Launch) (b : Addr) (A : Cell) (o len : Nat) : Law l yN 3 3 1 18 yB 6 (some (.array .byte)) site (P b A o len) (E b A o len) [] 1 len := by
  refine Law.of_walk (plainFor_of_name (by decide +kernel)) (by decide +kernel) (by decide +kernel) (by decide) (fun _ _ h => by rw [h.1]; rfl) (fun _ U U' hal hh h => ⟨h.1, h.2.1.mv hal hh, h.2.2⟩) (fun r U U' V V' h1 hal h2 h => ⟨NewArr.mv r U U' V V' h1 hal h2 h.1, by rw [h1, h2]; exact h.2⟩) ?_
  intro p e s m args below meth c s₁ X0 hexec hbytes hml hret hlk hnm hown hh0 W hP
  obtain ⟨rfl, hA, l1, l2, hp⟩ := hP
  have a31 := hA.1.2.2.2
  have c1 : Steps p.tables e below (s₁.setTop (entryFrame m #[.ref b, .int (Int32.ofNat o), .int (Int32.ofNat len)] 6)) (s₁.setTop (mkF m 0 #[.val (.ref b), .val (.int (Int32.ofNat o)), .val (.int (Int32.ofNat len)), .unset, .unset, .unset] [])) := entry rfl
  have c2 : Steps p.tables e below (s₁.setTop (entryFrame m #[.ref b, .int (Int32.ofNat o), .int (Int32.ofNat len)] 6)) (s₁.setTop (mkF m 1 #[.val (.ref b), .val (.int (Int32.ofNat o)), .val (.int (Int32.ofNat len)), .unset, .unset, .unset] [.int (Int32.ofNat len)])) := c1.trans (by
    refine XS.iloadN X0.here hexec rfl (hb hbytes d0) rfl ?_
    exact Steps.refl _)
  obtain ⟨T3, B3, X3, ba3, bs3, bv3, bh3, bf3, st3⟩ := X0.anew hexec (atype := .byte) (wk W (.arrayClass .byte)) rfl (by show len * 1 ≤ _; omega) (by omega) (g := (mkF m 1 #[.val (.ref b), .val (.int (Int32.ofNat o)), .val (.int (Int32.ofNat len)), .unset, .unset, .unset] [.int (Int32.ofNat len)])) rfl (hb hbytes d1) (rest := []) rfl (Nat.le_refl _) (by show 0 + len ≤ len; omega)
  rw [hh0] at ba3 st3
  have kp3 : XT.Kept s T3 := (XT.Kept.of_eq hh0).push bh3
  have hA3 := hA.keep X3.warmed.alike (kp3 _ _ hA.1.1)
  have hne : b ≠ s.heap.size := hA.1.ne
  have c4 : Steps p.tables e below (s₁.setTop (entryFrame m #[.ref b, .int (Int32.ofNat o), .int (Int32.ofNat len)] 6)) (T3.setTop (mkF m 3 #[.val (.ref b), .val (.int (Int32.ofNat o)), .val (.int (Int32.ofNat len)), .unset, .unset, .unset] [.ref s.heap.size])) := c2.trans (st3 _ (Steps.refl _))
  have c5 : Steps p.tables e below (s₁.setTop (entryFrame m #[.ref b, .int (Int32.ofNat o), .int (Int32.ofNat len)] 6)) (T3.setTop (mkF m 9 #[.val (.ref b), .val (.int (Int32.ofNat o)), .val (.int (Int32.ofNat len)), .val (.ref s.heap.size), .unset, .unset] [.int (Int32.ofNat len), .int 0, .ref s.heap.size, .int (Int32.ofNat o), .ref b])) := c4.trans (by
    refine XS.astoreN X3.here hexec rfl (hb hbytes d3) rfl rfl rfl ?_
    refine XS.aloadN X3.here hexec rfl (hb hbytes d4) rfl rfl ?_
    refine XS.iloadN X3.here hexec rfl (hb hbytes d5) rfl ?_
    refine XS.aloadN X3.here hexec rfl (hb hbytes d6) rfl rfl ?_
    refine iconstV X3.here hexec rfl 0 (hb hbytes d7) (by decide) ?_
    refine XS.iloadN X3.here hexec rfl (hb hbytes d8) rfl ?_
    exact Steps.refl _)
  obtain ⟨v6, T6, X6, E6, g6⟩ := X3.callS hexec (Cmp5.law l b A s.heap.size B3 o 0 len) hown (wks W (staticW U16 115 Cmp5.yN)) (wk W Cmp5.tab) (W := 0) (Nat.le_of_ble_eq_true rfl) (Nat.le_of_ble_eq_true rfl) (Nat.le_refl _) (by show 0 + len + 0 ≤ len; omega) (g := (mkF m 9 #[.val (.ref b), .val (.int (Int32.ofNat o)), .val (.int (Int32.ofNat len)), .val (.ref s.heap.size), .unset, .unset] [.int (Int32.ofNat len), .int (Int32.ofNat 0), .ref s.heap.size, .int (Int32.ofNat o), .ref b])) rfl (by rw [hml]; rfl) c5 (argsL := [.ref b, .int (Int32.ofNat o), .ref s.heap.size, .int (Int32.ofNat 0), .int (Int32.ofNat len)]) (rest := []) rfl rfl (by show 2 * 0 + 0 ≤ _; decide) (hb hbytes d9) (⟨rfl, hA3, ba3, hne, l1, by rw [bs3]; simp, hp⟩)
  obtain ⟨rfl, B6, p6, f6⟩ := E6
  have c7 : Steps p.tables e below (s₁.setTop (entryFrame m #[.ref b, .int (Int32.ofNat o), .int (Int32.ofNat len)] 6)) (T6.setTop (mkF m 12 #[.val (.ref b), .val (.int (Int32.ofNat o)), .val (.int (Int32.ofNat len)), .val (.ref s.heap.size), .unset, .unset] [.int (Int32.ofNat len)])) := g6
  have c8 : Steps p.tables e below (s₁.setTop (entryFrame m #[.ref b, .int (Int32.ofNat o), .int (Int32.ofNat len)] 6)) (T6.setTop (mkF m 58 #[.val (.ref b), .val (.int (Int32.ofNat o)), .val (.int (Int32.ofNat len)), .val (.ref s.heap.size), .val (.int (Int32.ofNat len)), .unset] [.ref s.heap.size])) := c7.trans (by
    refine XS.istore X6.here hexec rfl (hb hbytes d12) rfl rfl ?_
    refine XS.iload X6.here hexec rfl (hb hbytes d14) rfl ?_
    refine XS.iloadN X6.here hexec rfl (hb hbytes d16) rfl ?_
    refine XS.icmpYes X6.here hexec rfl (pc0 := 17) rfl (hb hbytes d17) rfl (ii_eq_t rfl) (by decide) rfl ?_
    refine XS.aloadN X6.here hexec rfl (hb hbytes d57) rfl rfl ?_
    exact Steps.refl _)
  have X8 := X6.wide (L' := []) (cells' := 1) (slots' := len) (fun x hx hlt => by
    simp only [List.nil_append, copyLocs, List.mem_map, List.mem_range] at hx
    obtain ⟨i, -, rfl⟩ := hx
    exact absurd hlt (Nat.lt_irrefl _)) (Nat.le_refl _) (by omega)
  exact ⟨T6, some (.ref s.heap.size), _, _, _, X8, rfl, rfl, rfl, (fun h => by cases h), ⟨⟨rfl, B6, ba3.like (X3.warmed.alike.symm.trans X6.warmed.alike) p6.1 f6.1 f6.2.1 f6.2.2.1, f6.2.1.trans bv3, by rw [X6.warmed.alike.findClass, f6.1]; exact bf3, by rw [f6.2.2.1, bs3]; simp, fun j hj => by rw [f6.2.2.2 j, if_pos (by omega)]; rfl, kp3.put p6 (Nat.le_refl _)⟩, by rw [p6.2.2, bh3, hh0]; simp⟩, fun fs hl => c8.trans (X8.areturnOut hexec rfl hret rfl (hb hbytes d58) hl)⟩
end Cmp3
namespace CodL
def yN : MethodName := ⟨"java/lang/StringUTF16", "coderFromArrayLen", "([BI)B"⟩
abbrev yB : ByteArray := jdk_52_method_15_code
theorem d0 : decode yB 0 = .ok (.iload_n 1, 1) := by decide +kernel
theorem d1 : decode yB 1 = .ok (.aload_n 0, 1) := by decide +kernel
theorem d2 : decode yB 2 = .ok (.arraylength, 1) := by decide +kernel
theorem d3 : decode yB 3 = .ok (.isub, 1) := by decide +kernel
theorem d4 : decode yB 4 = .ok (.bipush 31, 2) := by decide +kernel
theorem d6 : decode yB 6 = .ok (.iushr, 1) := by decide +kernel
theorem d7 : decode yB 7 = .ok (.i2b, 1) := by decide +kernel
theorem d8 : decode yB 8 = .ok (.ireturn, 1) := by decide +kernel
def site : List Cond := []
def tab : Cond := tabOf yN yB 2 (some .byte) site
def P (d : Addr) (B : Cell) (args : Array Value) (s : State) : Prop := args = #[.ref d, .int (Int32.ofNat B.slots.size)] ∧ Arr .byte d B s
def E (r : Option Value) (s u : State) : Prop := XT.PureE (some (.int 0)) r s u
/-- an array as long as the number of chars: LATIN1 -/
theorem law (l : Launch) (d : Addr) (B : Cell) : Law l yN 2 2 0 0 yB 2 (some .byte) site (P d B) E [] 0 0 := by
  refine Law.of_walk (plainFor_of_name (by decide +kernel)) (by decide +kernel) (by decide +kernel) (by decide) (fun _ _ h => by rw [h.1]; rfl) (fun _ U U' hal hh h => ⟨h.1, h.2.mv hal hh⟩) (fun r U U' V V' h1 hal h2 h => XT.PureE.mv r U U' V V' h1 hal h2 h) ?_
  intro p e s m args below meth c s₁ X0 hexec hbytes hml hret hlk hnm hown hh0 W hP
  obtain ⟨rfl, hB⟩ := hP
  have hB0 := hB.mv X0.warmed.alike hh0
  have c1 : Steps p.tables e below (s₁.setTop (entryFrame m #[.ref d, .int (Int32.ofNat B.slots.size)] 2)) (s₁.setTop (mkF m 0 #[.val (.ref d), .val (.int (Int32.ofNat B.slots.size))] [])) := entry rfl
  have c2 : Steps p.tables e below (s₁.setTop (entryFrame m #[.ref d, .int (Int32.ofNat B.slots.size)] 2)) (s₁.setTop (mkF m 2 #[.val (.ref d), .val (.int (Int32.ofNat B.slots.size))] [.ref d, .int (Int32.ofNat B.slots.size)])) := c1.trans (by
    refine XS.iloadN X0.here hexec rfl (hb hbytes d0) rfl ?_
    refine XS.aloadN X0.here hexec rfl (hb hbytes d1) rfl rfl ?_
    exact Steps.refl _)
  have c3 : Steps p.tables e below (s₁.setTop (entryFrame m #[.ref d, .int (Int32.ofNat B.slots.size)] 2)) (s₁.setTop (mkF m 8 #[.val (.ref d), .val (.int (Int32.ofNat B.slots.size))] [.int (lo8 (ushr (Int32.ofNat B.slots.size - Int32.ofNat B.slots.size) 31))])) := c2.trans (by
    refine X0.alen hexec hB0 rfl rfl (hb hbytes d2) ?_
    refine XS.isub X0.here hexec rfl (hb hbytes d3) rfl ?_
    refine bipushV X0.here hexec rfl 31 (hb hbytes d4) (by decide) ?_
    refine iushr X0.here hexec rfl (hb hbytes d6) rfl ?_
    refine i2b X0.here hexec rfl (hb hbytes d7) rfl ?_
    exact Steps.refl _)
  have e0 : lo8 (ushr (Int32.ofNat B.slots.size - Int32.ofNat B.slots.size) 31) = 0 := by rw [Int32.sub_self]; decide
  rw [e0] at c3
  exact ⟨s₁, some (.int 0), _, _, _, X0, rfl, rfl, rfl, (fun h => by cases h), ⟨rfl, hh0⟩, fun fs hl => c3.trans (X0.ireturnOut hexec hret rfl (Or.inr (Or.inr (Or.inl rfl))) (hb hbytes d8) hl)⟩
end CodL
/-- the String at a is Latin-1 over a new byte[] (the heap's one new cell): the low bytes of the len chars of A from o on; every cell but a is kept -/
def Got (a : Addr) (D : Cell) (fV fC : Field) (A : Cell) (o len : Nat) (r : Option Value) (s u : State) : Prop := r = none ∧ ∃ D' V : Cell, Blank "java/lang/String" a D' u ∧ Same D D' [fV.slot, fC.slot] ∧ D'.slots[fV.slot]? = some (.ref s.heap.size) ∧ D'.slots[fC.slot]? = some (.int 0) ∧ Arr .byte s.heap.size V u ∧ V.vm = .none ∧ u.vm.findClass "[B" = some V.cls ∧ V.slots.size = len ∧ (∀ j, j < len → V.slots[j]? = some (.int (lo8 (cv A (o + j))))) ∧ (∀ (y : Addr) (c : Cell), y ≠ a → s.heap[y]? = some c → u.heap[y]? = some c) ∧ u.heap.size = s.heap.size + 1
theorem Got.mv {a : Addr} {D A : Cell} {fV fC : Field} {o len : Nat} : ∀ r (U U' V V' : State), U'.heap = U.heap → V.vm.Alike V'.vm → V'.heap = V.heap → Got a D fV fC A o len r U V → Got a D fV fC A o len r U' V' :=
  fun r U U' V V' h1 hal h2 ⟨e0, D', X, a1, a2, a3, a4, a5, a6, a7, a8, a9, a10, a11⟩ => ⟨e0, D', X, a1.mv hal h2, a2, by rw [h1]; exact a3, a4, by rw [h1]; exact a5.mv hal h2, a6, by rw [hal.findClass]; exact a7, a8, a9, by rw [h1, h2]; exact a10, by rw [h1, h2]; exact a11⟩
namespace New4
def yN : MethodName := ⟨"java/lang/String", "<init>", "([CIILjava/lang/Void;)V"⟩
abbrev yB : ByteArray := jdk_42_method_149_code
theorem d0 : decode yB 0 = .ok (.aload_n 0, 1) := by decide +kernel
theorem d1 : decode yB 1 = .ok (.invokespecial 1, 3) := by decide +kernel
theorem d4 : decode yB 4 = .ok (.iload_n 3, 1) := by decide +kernel
theorem d5 : decode yB 5 = .ok (.ifCond (.ne) 22, 3) := by decide +kernel
theorem d27 : decode yB 27 = .ok (.getstatic 38, 3) := by decide +kernel
theorem d30 : decode yB 30 = .ok (.ifCond (.eq) 28, 3) := by decide +kernel
theorem d33 : decode yB 33 = .ok (.aload_n 1, 1) := by decide +kernel
theorem d34 : decode yB 34 = .ok (.iload_n 2, 1) := by decide +kernel
theorem d35 : decode yB 35 = .ok (.iload_n 3, 1) := by decide +kernel
theorem d36 : decode yB 36 = .ok (.invokestatic 177, 3) := by decide +kernel
theorem d39 : decode yB 39 = .ok (.astore 5, 2) := by decide +kernel
theorem d41 : decode yB 41 = .ok (.aload_n 0, 1) := by decide +kernel
theorem d42 : decode yB 42 = .ok (.aload 5, 2) := by decide +kernel
theorem d44 : decode yB 44 = .ok (.iload_n 3, 1) := by decide +kernel
theorem d45 : decode yB 45 = .ok (.invokestatic 47, 3) := by decide +kernel
theorem d48 : decode yB 48 = .ok (.putfield 15, 3) := by decide +kernel
theorem d51 : decode yB 51 = .ok (.aload_n 0, 1) := by decide +kernel
theorem d52 : decode yB 52 = .ok (.aload 5, 2) := by decide +kernel
theorem d54 : decode yB 54 = .ok (.putfield 9, 3) := by decide +kernel
theorem d57 : decode yB 57 = .ok (.return_, 1) := by decide +kernel
def site : List Cond := [.fieldLink "java/lang/String" 38 "java/lang/String" "COMPACT_STRINGS" "Z", Cmp3.tab, CodL.tab, .laysFinal "java/lang/String" "java/lang/String" "value" "[B", .fieldLink "java/lang/String" 9 "java/lang/String" "value" "[B", .laysFinal "java/lang/String" "java/lang/String" "coder" "B", .fieldLink "java/lang/String" 15 "java/lang/String" "coder" "B"] ++ objW "java/lang/String" 1 ++ staticW "java/lang/String" 177 Cmp3.yN ++ staticW "java/lang/String" 47 CodL.yN
def tab : Cond := tabOf yN yB 6 none site
def P (a : Addr) (D : Cell) (fV fC : Field) (b : Addr) (A : Cell) (z : Int32) (o len : Nat) (args : Array Value) (s : State) : Prop := args = #[.ref a, .ref b, .int (Int32.ofNat o), .int (Int32.ofNat len), .null] ∧ Blank "java/lang/String" a D s ∧ Found "java/lang/String" "value" "[B" fV s ∧ Found "java/lang/String" "coder" "B" fC s ∧ Ch b A s ∧ StaticIs s "java/lang/String" "COMPACT_STRINGS" "Z" (.int z) ∧ ¬ z = 0 ∧ 0 < len ∧ o + len ≤ A.slots.size ∧ len ≤ 536870912 ∧ ∀ i, i < len → ¬ 255 < cv A (o + i)
def E (a : Addr) (D : Cell) (fV fC : Field) (A : Cell) (o len : Nat) (r : Option Value) (s u : State) : Prop := Got a D fV fC A o len r s u
/-- len > 0, no char of the range above 255: a Latin-1 String of their low bytes -/
theorem law (l : Launch) (a : Addr) (D : Cell) (fV fC : Field) (b : Addr) (A : Cell) (z : Int32) (o len : Nat) : Law l yN 5 4 2 35 yB 6 none site (P a D fV fC b A z o len) (E a D fV fC A o len) [⟨a, fC.slot⟩, ⟨a, fV.slot⟩] 1 len := by
  refine Law.of_walk (plainFor_of_name (by decide +kernel)) (by decide +kernel) (by decide +kernel) (by decide) (fun _ _ h => by rw [h.1]; rfl) (fun _ U U' hal hh h => ⟨h.1, h.2.1.mv hal hh, h.2.2.1.al hal, h.2.2.2.1.al hal, h.2.2.2.2.1.mv hal hh, h.2.2.2.2.2.1.there hal hh, h.2.2.2.2.2.2⟩) (fun r U U' V V' h1 hal h2 h => Got.mv r U U' V V' h1 hal h2 h) ?_
  intro p e s m args below meth c s₁ X0 hexec hbytes hml hret hlk hnm hown hh0 W hP
  obtain ⟨rfl, hB, f1, f2, hA, s1, hz, l0, l1, l2, hp⟩ := hP
  have a31 := hA.1.2.2.2
  have c1 : Steps p.tables e below (s₁.setTop (entryFrame m #[.ref a, .ref b, .int (Int32.ofNat o), .int (Int32.ofNat len), .null] 6)) (s₁.setTop (mkF m 0 #[.val (.ref a), .val (.ref b), .val (.int (Int32.ofNat o)), .val (.int (Int32.ofNat len)), .val .null, .unset] [])) := entry rfl
  have c2 : Steps p.tables e below (s₁.setTop (entryFrame m #[.ref a, .ref b, .int (Int32.ofNat o), .int (Int32.ofNat len), .null] 6)) (s₁.setTop (mkF m 1 #[.val (.ref a), .val (.ref b), .val (.int (Int32.ofNat o)), .val (.int (Int32.ofNat len)), .val .null, .unset] [.ref a])) := c1.trans (by
    refine XS.aloadN X0.here hexec rfl (hb hbytes d0) rfl rfl ?_
    exact Steps.refl _)
  obtain ⟨T3, X3, q3, st3⟩ := X0.oinit hexec hown (wks W (objW "java/lang/String" 1)) (g := (mkF m 1 #[.val (.ref a), .val (.ref b), .val (.int (Int32.ofNat o)), .val (.int (Int32.ofNat len)), .val .null, .unset] [.ref a])) rfl (by rw [hml]; rfl) (rest := []) rfl (hb hbytes d1) (W := 0) (by show 2 * 0 + 0 ≤ _; decide) (Nat.le_of_ble_eq_true rfl) (Nat.le_of_ble_eq_true rfl)
  have hh3 := q3.trans hh0
  have c4 : Steps p.tables e below (s₁.setTop (entryFrame m #[.ref a, .ref b, .int (Int32.ofNat o), .int (Int32.ofNat len), .null] 6)) (T3.setTop (mkF m 27 #[.val (.ref a), .val (.ref b), .val (.int (Int32.ofNat o)), .val (.int (Int32.ofNat len)), .val .null, .unset] [])) := (c2.trans (st3 _ (Steps.refl _))).trans (by
    refine XS.iloadN X3.here hexec rfl (hb hbytes d4) rfl ?_
    refine XS.ifYes X3.here hexec rfl (pc0 := 5) rfl (hb hbytes d5) rfl (i0_ne_t (nz32 (by omega) l0)) (by decide) rfl ?_
    exact Steps.refl _)
  obtain ⟨T5, X5, q5, st5⟩ := X3.sget hexec hown (wk W (.fieldLink "java/lang/String" 38 "java/lang/String" "COMPACT_STRINGS" "Z")) s1 (fun _ _ h => by rw [hh3]; exact h) (g := (mkF m 27 #[.val (.ref a), .val (.ref b), .val (.int (Int32.ofNat o)), .val (.int (Int32.ofNat len)), .val .null, .unset] [])) rfl (hb hbytes d27)
  have hh5 := q5.trans hh3
  have c6 : Steps p.tables e below (s₁.setTop (entryFrame m #[.ref a, .ref b, .int (Int32.ofNat o), .int (Int32.ofNat len), .null] 6)) (T5.setTop (mkF m 30 #[.val (.ref a), .val (.ref b), .val (.int (Int32.ofNat o)), .val (.int (Int32.ofNat len)), .val .null, .unset] [.int z])) := c4.trans (st5 _ (Steps.refl _))
  have c7 : Steps p.tables e below (s₁.setTop (entryFrame m #[.ref a, .ref b, .int (Int32.ofNat o), .int (Int32.ofNat len), .null] 6)) (T5.setTop (mkF m 36 #[.val (.ref a), .val (.ref b), .val (.int (Int32.ofNat o)), .val (.int (Int32.ofNat len)), .val .null, .unset] [.int (Int32.ofNat len), .int (Int32.ofNat o), .ref b])) := c6.trans (by
    refine XS.ifNo X5.here hexec rfl (hb hbytes d30) rfl (i0_eq_f hz) ?_
    refine XS.aloadN X5.here hexec rfl (hb hbytes d33) rfl rfl ?_
    refine XS.iloadN X5.here hexec rfl (hb hbytes d34) rfl ?_
    refine XS.iloadN X5.here hexec rfl (hb hbytes d35) rfl ?_
    exact Steps.refl _)
  obtain ⟨v8, T8, X8, E8, g8⟩ := X5.callS hexec (Cmp3.law l b A o len) hown (wks W (staticW "java/lang/String" 177 Cmp3.yN)) (wk W Cmp3.tab) (W := 0) (Nat.le_of_ble_eq_true rfl) (Nat.le_of_ble_eq_true rfl) (Nat.le_refl _) (by show 0 + len ≤ len; omega) (g := (mkF m 36 #[.val (.ref a), .val (.ref b), .val (.int (Int32.ofNat o)), .val (.int (Int32.ofNat len)), .val .null, .unset] [.int (Int32.ofNat len), .int (Int32.ofNat o), .ref b])) rfl (by rw [hml]; rfl) c7 (argsL := [.ref b, .int (Int32.ofNat o), .int (Int32.ofNat len)]) (rest := []) rfl rfl (by show 2 * 0 + 0 ≤ _; decide) (hb hbytes d36) (⟨rfl, hA.mv X5.warmed.alike hh5, l1, l2, hp⟩)
  obtain ⟨e8, z8⟩ := E8
  obtain ⟨rfl, N, n1, n2, n3, n4, n5, n6⟩ := NewArr.mv _ T5 s _ _ hh5.symm (Vm.Alike.refl _) rfl e8
  rw [hh5] at z8
  have hB1 := hB.keep X8.warmed.alike (n6 _ _ hB.1)
  have hne : s.heap.size ≠ a := (Nat.ne_of_lt (Array.getElem?_eq_some_iff.mp hB.1).1).symm
  have c9 : Steps p.tables e below (s₁.setTop (entryFrame m #[.ref a, .ref b, .int (Int32.ofNat o), .int (Int32.ofNat len), .null] 6)) (T8.setTop (mkF m 39 #[.val (.ref a), .val (.ref b), .val (.int (Int32.ofNat o)), .val (.int (Int32.ofNat len)), .val .null, .unset] [.ref s.heap.size])) := g8
  have c10 : Steps p.tables e below (s₁.setTop (entryFrame m #[.ref a, .ref b, .int (Int32.ofNat o), .int (Int32.ofNat len), .null] 6)) (T8.setTop (mkF m 45 #[.val (.ref a), .val (.ref b), .val (.int (Int32.ofNat o)), .val (.int (Int32.ofNat len)), .val .null, .val (.ref s.heap.size)] [.int (Int32.ofNat N.slots.size), .ref s.heap.size, .ref a])) := by
    have hc : Steps p.tables e below (s₁.setTop (entryFrame m #[.ref a, .ref b, .int (Int32.ofNat o), .int (Int32.ofNat len), .null] 6)) (T8.setTop (mkF m 45 #[.val (.ref a), .val (.ref b), .val (.int (Int32.ofNat o)), .val (.int (Int32.ofNat len)), .val .null, .val (.ref s.heap.size)] [.int (Int32.ofNat len), .ref s.heap.size, .ref a])) := c9.trans (by
      refine XS.astore X8.here hexec rfl (hb hbytes d39) rfl rfl rfl ?_
      refine XS.aloadN X8.here hexec rfl (hb hbytes d41) rfl rfl ?_
      refine XS.aload X8.here hexec rfl (hb hbytes d42) rfl rfl ?_
      refine XS.iloadN X8.here hexec rfl (hb hbytes d44) rfl ?_
      exact Steps.refl _)
    rw [n4]; exact hc
  obtain ⟨v11, T11, X11, E11, g11⟩ := X8.callS hexec (CodL.law l s.heap.size N) hown (wks W (staticW "java/lang/String" 47 CodL.yN)) (wk W CodL.tab) (W := 1) (Nat.le_of_ble_eq_true rfl) (Nat.le_of_ble_eq_true rfl) (Nat.le_refl _) (by show 0 + len + 0 ≤ len; omega) (g := (mkF m 45 #[.val (.ref a), .val (.ref b), .val (.int (Int32.ofNat o)), .val (.int (Int32.ofNat len)), .val .null, .val (.ref s.heap.size)] [.int (Int32.ofNat N.slots.size), .ref s.heap.size, .ref a])) rfl (by rw [hml]; rfl) c10 (argsL := [.ref s.heap.size, .int (Int32.ofNat N.slots.size)]) (rest := [.ref a]) rfl rfl (by show 2 * 0 + (1 + 0) ≤ _; decide) (hb hbytes d45) (⟨rfl, n1⟩)
  obtain ⟨rfl, q11⟩ := E11
  have hB11 := hB1.mv (X8.warmed.alike.symm.trans X11.warmed.alike) q11
  have c12 : Steps p.tables e below (s₁.setTop (entryFrame m #[.ref a, .ref b, .int (Int32.ofNat o), .int (Int32.ofNat len), .null] 6)) (T11.setTop (mkF m 48 #[.val (.ref a), .val (.ref b), .val (.int (Int32.ofNat o)), .val (.int (Int32.ofNat len)), .val .null, .val (.ref s.heap.size)] [.int 0, .ref a])) := g11
  obtain ⟨T13, X13, p13, bl13, sl13, st13⟩ := X11.finit hexec hown (wk W (.fieldLink "java/lang/String" 15 "java/lang/String" "coder" "B")) (Or.inr ⟨_, (wk W (.laysFinal "java/lang/String" "java/lang/String" "coder" "B"))⟩) (Or.inl ⟨rfl, hnm⟩) f2 (Or.inl rfl) hB11 (t := .byte) (by decide +kernel) rfl (g := (mkF m 48 #[.val (.ref a), .val (.ref b), .val (.int (Int32.ofNat o)), .val (.int (Int32.ofNat len)), .val .null, .val (.ref s.heap.size)] [.int 0, .ref a])) rfl (rest := []) rfl (hb hbytes d48)
  have c14 : Steps p.tables e below (s₁.setTop (entryFrame m #[.ref a, .ref b, .int (Int32.ofNat o), .int (Int32.ofNat len), .null] 6)) (T13.setTop (mkF m 54 #[.val (.ref a), .val (.ref b), .val (.int (Int32.ofNat o)), .val (.int (Int32.ofNat len)), .val .null, .val (.ref s.heap.size)] [.ref s.heap.size, .ref a])) := (c12.trans (st13 _ (Steps.refl _))).trans (by
    refine XS.aloadN X13.here hexec rfl (hb hbytes d51) rfl rfl ?_
    refine XS.aload X13.here hexec rfl (hb hbytes d52) rfl rfl ?_
    exact Steps.refl _)
  obtain ⟨T15, X15, p15, bl15, sl15, st15⟩ := X13.finit hexec hown (wk W (.fieldLink "java/lang/String" 9 "java/lang/String" "value" "[B")) (Or.inr ⟨_, (wk W (.laysFinal "java/lang/String" "java/lang/String" "value" "[B"))⟩) (Or.inl ⟨rfl, hnm⟩) f1 (Or.inl rfl) bl13 (t := (.array .byte)) (by decide +kernel) rfl (g := (mkF m 54 #[.val (.ref a), .val (.ref b), .val (.int (Int32.ofNat o)), .val (.int (Int32.ofNat len)), .val .null, .val (.ref s.heap.size)] [.ref s.heap.size, .ref a])) rfl (rest := []) rfl (hb hbytes d54)
  have c16 : Steps p.tables e below (s₁.setTop (entryFrame m #[.ref a, .ref b, .int (Int32.ofNat o), .int (Int32.ofNat len), .null] 6)) (T15.setTop (mkF m 57 #[.val (.ref a), .val (.ref b), .val (.int (Int32.ofNat o)), .val (.int (Int32.ofNat len)), .val .null, .val (.ref s.heap.size)] [])) := c14.trans (st15 _ (Steps.refl _))
  have ap := apart (Or.inr ⟨_, (wk W (.laysFinal "java/lang/String" "java/lang/String" "value" "[B"))⟩) (Or.inr ⟨_, (wk W (.laysFinal "java/lang/String" "java/lang/String" "coder" "B"))⟩) f1 f2 (t₁ := .array .byte) (t₂ := .byte) (by decide +kernel) (by decide +kernel) (by decide)
  have al := X8.warmed.alike.symm.trans X15.warmed.alike
  have n7 : T11.heap[s.heap.size]? = some N := by rw [q11]; exact n1.1
  exact ⟨T15, none, _, _, _, X15, by simp, rfl, by omega, (fun _ => rfl), ⟨rfl, _, N, bl15, ((Same.refl D _).set _ (by simp)).set _ (by simp), sl15, (Cell.slots_setSlot_ne _ ap).trans sl13, n1.keep al (p15.other hne (p13.other hne n7)), n2, by rw [al.findClass]; exact n3, n4, n5, fun y c h1 h2 => p15.other h1 (p13.other h1 (by rw [q11]; exact n6 y c h2)), by rw [p15.2.2, p13.2.2, q11]; exact z8⟩, fun fs hl => c16.trans (X15.returnOut hexec hret (hb hbytes d57) hl)⟩
end New4
namespace New1
def yN : MethodName := ⟨"java/lang/String", "<init>", "([C)V"⟩
abbrev yB : ByteArray := jdk_42_method_3_code
theorem d0 : decode yB 0 = .ok (.aload_n 0, 1) := by decide +kernel
theorem d1 : decode yB 1 = .ok (.aload_n 1, 1) := by decide +kernel
theorem d2 : decode yB 2 = .ok (.iconst 0, 1) := by decide +kernel
theorem d3 : decode yB 3 = .ok (.aload_n 1, 1) := by decide +kernel
theorem d4 : decode yB 4 = .ok (.arraylength, 1) := by decide +kernel
theorem d5 : decode yB 5 = .ok (.aconst_null, 1) := by decide +kernel
theorem d6 : decode yB 6 = .ok (.invokespecial 27, 3) := by decide +kernel
theorem d9 : decode yB 9 = .ok (.return_, 1) := by decide +kernel
def site : List Cond := [New4.tab] ++ initW "java/lang/String" 27 New4.yN
def tab : Cond := tabOf yN yB 2 none site
def P (a : Addr) (D : Cell) (fV fC : Field) (b : Addr) (A : Cell) (z : Int32) (args : Array Value) (s : State) : Prop := args = #[.ref a, .ref b] ∧ Blank "java/lang/String" a D s ∧ Found "java/lang/String" "value" "[B" fV s ∧ Found "java/lang/String" "coder" "B" fC s ∧ Ch b A s ∧ StaticIs s "java/lang/String" "COMPACT_STRINGS" "Z" (.int z) ∧ ¬ z = 0 ∧ 0 < A.slots.size ∧ A.slots.size ≤ 536870912 ∧ ∀ i, i < A.slots.size → ¬ 255 < cv A i
def E (a : Addr) (D : Cell) (fV fC : Field) (A : Cell) (r : Option Value) (s u : State) : Prop := Got a D fV fC A 0 A.slots.size r s u
/-- new String(chars), not empty, no char above 255: a Latin-1 String of their low bytes -/
theorem law (l : Launch) (a : Addr) (D : Cell) (fV fC : Field) (b : Addr) (A : Cell) (z : Int32) : Law l yN 2 1 3 52 yB 2 none site (P a D fV fC b A z) (E a D fV fC A) [⟨a, fC.slot⟩, ⟨a, fV.slot⟩] 1 A.slots.size := by
  refine Law.of_walk (plainFor_of_name (by decide +kernel)) (by decide +kernel) (by decide +kernel) (by decide) (fun _ _ h => by rw [h.1]; rfl) (fun _ U U' hal hh h => ⟨h.1, h.2.1.mv hal hh, h.2.2.1.al hal, h.2.2.2.1.al hal, h.2.2.2.2.1.mv hal hh, h.2.2.2.2.2.1.there hal hh, h.2.2.2.2.2.2⟩) (fun r U U' V V' h1 hal h2 h => Got.mv r U U' V V' h1 hal h2 h) ?_
  intro p e s m args below meth c s₁ X0 hexec hbytes hml hret hlk hnm hown hh0 W hP
  obtain ⟨rfl, hB, f1, f2, hA, s1, hz, l0, l2, hp⟩ := hP
  have c1 : Steps p.tables e below (s₁.setTop (entryFrame m #[.ref a, .ref b] 2)) (s₁.setTop (mkF m 0 #[.val (.ref a), .val (.ref b)] [])) := entry rfl
  have c2 : Steps p.tables e below (s₁.setTop (entryFrame m #[.ref a, .ref b] 2)) (s₁.setTop (mkF m 6 #[.val (.ref a), .val (.ref b)] [.null, .int (Int32.ofNat A.slots.size), .int 0, .ref b, .ref a])) := c1.trans (by
    refine XS.aloadN X0.here hexec rfl (hb hbytes d0) rfl rfl ?_
    refine XS.aloadN X0.here hexec rfl (hb hbytes d1) rfl rfl ?_
    refine iconstV X0.here hexec rfl 0 (hb hbytes d2) (by decide) ?_
    refine XS.aloadN X0.here hexec rfl (hb hbytes d3) rfl rfl ?_
    refine X0.alen hexec (hA.1.mv X0.warmed.alike hh0) rfl rfl (hb hbytes d4) ?_
    refine XS.aconstNull X0.here hexec rfl (hb hbytes d5) ?_
    exact Steps.refl _)
  obtain ⟨v3, T3, X3, E3, g3⟩ := X0.callN hexec (New4.law l a D fV fC b A z 0 A.slots.size) rfl hown (wks W (initW "java/lang/String" 27 New4.yN)) (W New4.tab (by simp only [site, List.mem_cons, List.mem_append, true_or, or_true])) (W := 0) (Nat.le_of_ble_eq_true rfl) (Nat.le_of_ble_eq_true rfl) (Nat.le_refl _) (by show 0 + A.slots.size ≤ A.slots.size; omega) (g := (mkF m 6 #[.val (.ref a), .val (.ref b)] [.null, .int (Int32.ofNat A.slots.size), .int (Int32.ofNat 0), .ref b, .ref a])) rfl (by rw [hml]; rfl) c2 (argsL := [.ref b, .int (Int32.ofNat 0), .int (Int32.ofNat A.slots.size), .null]) (rest := []) rfl rfl (by show 2 * 0 + 0 ≤ _; decide) (hb hbytes d6) (⟨rfl, hB.mv X0.warmed.alike hh0, f1.al X0.warmed.alike, f2.al X0.warmed.alike, hA.mv X0.warmed.alike hh0, s1.there X0.warmed.alike hh0, hz, l0, by omega, l2, fun i hi => by rw [Nat.zero_add]; exact hp i hi⟩)
  have e0 := Got.mv _ s₁ s _ _ hh0.symm (Vm.Alike.refl _) rfl E3
  obtain rfl := e0.1
  have c4 : Steps p.tables e below (s₁.setTop (entryFrame m #[.ref a, .ref b] 2)) (T3.setTop (mkF m 9 #[.val (.ref a), .val (.ref b)] [])) := g3
  exact ⟨T3, none, _, _, _, X3, by simp, rfl, by omega, (fun _ => rfl), e0, fun fs hl => c4.trans (X3.returnOut hexec hret (hb hbytes d9) hl)⟩
theorem pays {l : Launch} {R : Room} {p : Program} {e : Env} {below : List Frame} {s : State} {sargs : Array Value} {len W : Nat} (a : Addr) (D : Cell) (fV fC : Field) (b : Addr) (A : Cell) (z : Int32) (htab : tab.before sargs s = true) (hfr : 4 ≤ R.frames) (hlo : W + 65 ≤ R.locals) :
    Back l R p e below s sargs yN len W (fun A₁ a₁ => A₁.cells + 1 ≤ R.cells ∧ A₁.slots + A.slots.size ≤ R.slots ∧ P a D fV fC b A z a₁ A₁.U) (fun A₁ _ v₁ B₁ => E a D fV fC A v₁ A₁.U B₁.U ∧ B₁.locs = A₁.locs ++ [⟨a, fC.slot⟩, ⟨a, fV.slot⟩] ∧ B₁.cells = A₁.cells + 1 ∧ B₁.slots = A₁.slots + A.slots.size) :=
  (law l a D fV fC b A z).pays htab hfr (by omega)
end New1
/-- the byte, read back as charAt reads it, is the char -/
theorem lo8_mask {x : Int32} (h0 : ¬ x < 0) (h1 : ¬ 255 < x) : lo8 x &&& 255 = x := by
  have t : ∀ k : Fin 256, lo8 (Int32.ofNat k.val) &&& 255 = Int32.ofNat k.val := by decide +kernel
  rw [Int32.lt_iff_toInt_lt] at h0 h1
  have e0 : (0 : Int32).toInt = 0 := rfl
  have e1 : (255 : Int32).toInt = 255 := rfl
  obtain ⟨k, hk⟩ : ∃ k : Nat, x.toInt = k := ⟨x.toInt.toNat, by omega⟩
  have hx : x = Int32.ofNat k := Int32.toInt_inj.mp (by rw [hk, Int32.toInt_ofNat_small (by omega)])
  rw [hx]
  exact t ⟨k, by omega⟩
end StrChars
namespace StrChars.Road
open Jvm Sem ClassFile Op Lib Jvm.Stand Jvm.Free Jvm.Free.XT
open Jvm.Lib.Cold (StaticIs)
abbrev ST : String := "java/lang/String"
/-- every table word that New1's law asks, flat -/
abbrev words : List Jvm.Cond := [.code New1.yN New1.yB 2 none, .initialized ST, .methodLink ST 27 New4.yN, .instanceMethod New4.yN,
  .code New4.yN New4.yB 6 none, .fieldLink ST 38 ST "COMPACT_STRINGS" "Z", .laysFinal ST ST "value" "[B", .fieldLink ST 9 ST "value" "[B", .laysFinal ST ST "coder" "B", .fieldLink ST 15 ST "coder" "B",
  .methodLink ST 1 Lib.objectInit, .instanceMethod Lib.objectInit, .code Lib.objectInit ⟨#[0xb1]⟩ 1 none, .methodLink ST 177 Cmp3.yN, .static Cmp3.yN, .methodLink ST 47 CodL.yN, .static CodL.yN,
  .code Cmp3.yN Cmp3.yB 6 (some (.array .byte)), .initialized U16, .arrayClass .byte, .methodLink U16 115 Cmp5.yN, .static Cmp5.yN, .code Cmp5.yN Cmp5.yB 7 (some .int), .code CodL.yN CodL.yB 2 (some .byte)]
theorem tab_of {a : Array Value} {s : State} (h : ∀ w ∈ words, w.before a s = true) : New1.tab.before a s = true := by
  have h5 : Cmp5.tab.before a s = true := unparts (wk h (.code Cmp5.yN Cmp5.yB 7 (some .int))) (wks h (.initialized Cmp5.yN.cls :: Cmp5.site))
  have hc : CodL.tab.before a s = true := unparts (wk h (.code CodL.yN CodL.yB 2 (some .byte))) (wks h (.initialized CodL.yN.cls :: CodL.site))
  have q5 : ∀ w ∈ Cmp5.tab :: words, w.before a s = true := fun w hw => (List.mem_cons.mp hw).elim (fun e => e ▸ h5) (h w)
  have h3 : Cmp3.tab.before a s = true := unparts (wk q5 (.code Cmp3.yN Cmp3.yB 6 (some (.array .byte)))) (wks q5 (.initialized Cmp3.yN.cls :: Cmp3.site))
  have q3 : ∀ w ∈ Cmp3.tab :: CodL.tab :: words, w.before a s = true := fun w hw => (List.mem_cons.mp hw).elim (fun e => e ▸ h3) fun hw => (List.mem_cons.mp hw).elim (fun e => e ▸ hc) (h w)
  have h4 : New4.tab.before a s = true := unparts (wk q3 (.code New4.yN New4.yB 6 none)) (wks q3 (.initialized New4.yN.cls :: New4.site))
  have q4 : ∀ w ∈ New4.tab :: words, w.before a s = true := fun w hw => (List.mem_cons.mp hw).elim (fun e => e ▸ h4) (h w)
  exact unparts (wk q4 (.code New1.yN New1.yB 2 none)) (wks q4 (.initialized New1.yN.cls :: New1.site))
/-- the words ride from the start Z to the walk's own state -/
theorem moved {Z s : State} {a0 args : Array Value} (hZ : Z.Warmed39 s.vm) (hw : ∀ d ∈ words, d.before a0 Z = true) : ∀ d ∈ words, d.before args s = true := fun d hd => by
  have q := hw d hd
  have t : ∀ d ∈ words, d = .arrayClass .byte ∨ (d.onTables && d.keepsFace) = true := by decide +kernel
  rcases t d hd with rfl | t
  · exact RoadKit.mvA hZ q
  · exact RoadKit.mv hZ q t
/-- WHAT COMES BACK, over the tables of the start Z: h the heap at the call, h' behind it -/
def Q (Z : State) (x : Addr) (A : Cell) (h : Heap) (v : Option Value) (h' : Heap) (L : List Loc) : Prop := v = none ∧ (∀ y ∈ L, y.base = x) ∧ RoadKit.Keep h h' [x] ∧ h'.size = h.size + 1 ∧ RoadKit.Exa Z h' x ST ∧ RoadKit.Fld Z h' x ST "value" "[B" (.ref h.size) ∧ RoadKit.Fld Z h' x ST "coder" "B" (.int 0) ∧
  (∃ V : Cell, RoadKit.Arr Z h' h.size V .byte ∧ V.vm = .none ∧ Z.vm.findClass "[B" = some V.cls ∧ V.slots.size = A.slots.size ∧ ∀ j, j < A.slots.size → V.slots[j]? = some (.int (lo8 (cv A j)))) ∧
  ∀ (O n d : String) (w : Value), RoadKit.Fld Z h x O n d w → RoadKit.slotOf Z O n d ≠ RoadKit.slotOf Z ST "value" "[B" → RoadKit.slotOf Z O n d ≠ RoadKit.slotOf Z ST "coder" "B" → RoadKit.Fld Z h' x O n d w
/-- **new String(chars) AT A CALL, IN THE ROAD'S FORM**: for specialBack behind newO: x the fresh String, b the char[] with the cell A -/
theorem back {p : Program} {l : Launch} {e : Env} {R : Room} {s : State} {args : Array Value} {below : List Frame} {len W : Nat} {Z : State} {a0 : Array Value} {h : Heap} (hZ : Z.Warmed39 s.vm) (hw : ∀ d ∈ words, d.before a0 Z = true) {kI : Nat} (wi : (Jvm.Cond.instantiable ST kI).before a0 Z = true)
    {x b : Addr} {A : Cell} {z : Int32} {v0 c0 : Value} (E : RoadKit.Exa Z h x ST) (V : RoadKit.Fld Z h x ST "value" "[B" v0) (C : RoadKit.Fld Z h x ST "coder" "B" c0) (K : RoadKit.Arr Z h b A .char) (hty : Typed .char A) (S : RoadKit.Sta Z h ST "COMPACT_STRINGS" "Z" (.int z)) (hz : ¬ z = 0)
    (l0 : 0 < A.slots.size) (l2 : A.slots.size ≤ 536870912) (hp : ∀ i, i < A.slots.size → ¬ 255 < cv A i) (hfr : 4 ≤ R.frames) (hlo : W + 65 ≤ R.locals) :
    Back l R p e below s args New1.yN len W (fun P a => a = #[.ref x, .ref b] ∧ P.U.heap = h ∧ P.cells + 1 ≤ R.cells ∧ P.slots + A.slots.size ≤ R.slots)
      (fun P _ v B => ∃ L, Q Z x A h v B.U.heap L ∧ B.locs = P.locs ++ L ∧ B.cells = P.cells + 1 ∧ B.slots = P.slots + A.slots.size) := by
  intro m meth c P g ig mk a X hg hsize hdg hW hn hp'
  obtain ⟨rfl, rfl, r1, r2⟩ := hp'
  have al : Z.vm.Alike P.U.vm := hZ.alike.trans X.warmed.alike
  obtain ⟨D, cfV, kV, iV, fV, hD, gV, stV, knV, obV, asV, slV⟩ := id V
  obtain ⟨D', cfC, kC, iC, fC, hD', gC, stC, -, -, asC, slC⟩ := id C
  cases hD.symm.trans hD'
  obtain ⟨D2, kD, e1, e2, e3, e4, e5⟩ := id E
  cases hD.symm.trans e1
  obtain ⟨c2, k2, i1, i2, i3, -⟩ := Cond.instantiable_spec wi
  cases e2.symm.trans i1
  cases e3.symm.trans i2
  obtain ⟨kU, u1, u2⟩ := al.2.2 _ _ e3
  have hB : Blank ST x D P.U := ⟨hD, ⟨knV, fun q hq => by rw [hq] at obV; cases obV⟩, by rw [al.findClass]; exact e2, kU, u1, by rw [u2]; exact i3, by rw [u2]; exact e5 i3⟩
  have F1 : Found ST "value" "[B" fV P.U := ⟨SBG.found_only al ⟨cfV, kV, iV, gV⟩, stV⟩
  have F2 : Found ST "coder" "B" fC P.U := ⟨SBG.found_only al ⟨cfC, kC, iC, gC⟩, stC⟩
  have hA : Ch b A P.U := ⟨⟨K.1, State.isArrayOf_alike al K.2.1, K.2.2, by omega⟩, hty⟩
  have hS : StaticIs P.U ST "COMPACT_STRINGS" "Z" (.int z) := by
    obtain ⟨cfS, iS, kS, fS, st, cS, t1, t2, t3, t4, t5, t6, t7⟩ := S
    exact StaticIs.there (s := { Z with heap := P.U.heap }) ⟨cfS, iS, kS, fS, st, cS, t1, t2, t3, t4, t5, (fun q => by rw [q] at t6; cases t6), t7⟩ al rfl
  obtain ⟨v, B, X', ⟨⟨hv, E', V', q1, q2, q3, q4, q5, q6, q7, q8, q9, q10, q11⟩, hl, hc, hs⟩, st⟩ := New1.pays x D fV fC b A z (tab_of (moved hZ hw)) hfr hlo m meth c P g ig mk _ X hg hsize hdg hW hn ⟨r1, r2, rfl, hB, F1, F2, hA, hS, hz, l0, l2, hp⟩
  have al' : Z.vm.Alike B.U.vm := hZ.alike.trans X'.warmed.alike
  have hsz : E'.slots.size = D.slots.size := by
    obtain ⟨-, -, -, kB, w1, w2, w3⟩ := q1
    obtain ⟨kB', y1, y2⟩ := al'.2.2 _ _ e3
    rw [q2.2.1] at w1
    cases w1.symm.trans y1
    rw [w3, e5 i3, y2]
  refine ⟨v, B, X', ⟨_, ⟨hv, ?_, ⟨by omega, fun y cy hy hn' => q10 y cy (by simpa using hn') hy, fun y cy hy => ?_⟩, q11, ⟨E', _, q1.1, by rw [q2.2.1]; exact e2, by rw [q2.2.1]; exact e3, by rw [q2.1]; exact obV, fun _ => by rw [hsz]; exact e5 i3⟩,
    ⟨E', cfV, kV, iV, fV, q1.1, gV, stV, by rw [q2.1]; exact knV, by rw [q2.1]; exact obV, by rw [q2.2.1]; exact asV, q3⟩, ⟨E', cfC, kC, iC, fC, q1.1, gC, stC, by rw [q2.1]; exact knV, by rw [q2.1]; exact obV, by rw [q2.2.1]; exact asC, q4⟩,
    ⟨V', ⟨q5.1, State.isArrayOf_alike al'.symm q5.2.1, q5.2.2.1⟩, q6, by rw [← al'.findClass]; exact q7, q8, fun j hj => by have := q9 j hj; rwa [Nat.zero_add] at this⟩, fun O n d w F n1 n2 => ?_⟩, hl, hc, hs⟩, st⟩
  · intro y hy
    simp only [List.mem_cons, List.not_mem_nil, or_false] at hy
    rcases hy with rfl | rfl <;> rfl
  · by_cases q : y = x
    · subst q
      cases hD.symm.trans hy
      exact ⟨E', q1.1, q2.2.1, q2.1, hsz⟩
    · exact ⟨cy, q10 y cy q hy, rfl, rfl, rfl⟩
  · obtain ⟨D3, cf, k, i, f, g1, g2, g3, g4, g5, g6, g7⟩ := F
    cases hD.symm.trans g1
    simp only [RoadKit.slotOf, g2, gV, gC, Option.map_some, Option.getD_some] at n1 n2
    exact ⟨E', cf, k, i, f, q1.1, g2, g3, by rw [q2.1]; exact g4, by rw [q2.1]; exact g5, by rw [q2.2.1]; exact g6, by rw [q2.2.2 f.slot (by simp [n1, n2])]; exact g7⟩
end StrChars.Road
namespace StrChars.Road
open Jvm Sem ClassFile Op Lib Jvm.Stand Jvm.Free Jvm.Free.XT
/-- WHAT COMES BACK, the byte[] as a list of values -/
def QA (Z : State) (x : Addr) (zn : Int32) (cs : List Int32) (h : Heap) (v : Option Value) (h' : Heap) (L : List Loc) : Prop := v = none ∧ (∀ y ∈ L, y.base = x) ∧ RoadKit.Keep h h' [x] ∧ h'.size = h.size + 1 ∧ RoadKit.Exa Z h' x ST ∧ RoadKit.Fld Z h' x ST "value" "[B" (.ref h.size) ∧ RoadKit.Fld Z h' x ST "coder" "B" (.int 0) ∧
  (∃ kb, Z.vm.findClass "[B" = some kb ∧ RoadKit.Arv Z h' h.size kb .byte zn (cs.map fun c => .int (lo8 c)) (.int 0)) ∧
  ∀ (O n d : String) (w : Value), RoadKit.Fld Z h x O n d w → RoadKit.slotOf Z O n d ≠ RoadKit.slotOf Z ST "value" "[B" → RoadKit.slotOf Z O n d ≠ RoadKit.slotOf Z ST "coder" "B" → RoadKit.Fld Z h' x O n d w
/-- **new String(chars) AT A CALL, THE ARRAYS AS LISTS**: the char[] at b holds cs, not empty, no char above 255 -/
theorem backArv {p : Program} {l : Launch} {e : Env} {R : Room} {s : State} {args : Array Value} {below : List Frame} {len W : Nat} {Z : State} {a0 : Array Value} {h : Heap} (hZ : Z.Warmed39 s.vm) (hw : ∀ d ∈ words, d.before a0 Z = true) {kI : Nat} (wi : (Jvm.Cond.instantiable ST kI).before a0 Z = true)
    {x b : Addr} {k : ClassId} {zn z : Int32} {cs : List Int32} {dv v0 c0 : Value} (E : RoadKit.Exa Z h x ST) (V : RoadKit.Fld Z h x ST "value" "[B" v0) (C : RoadKit.Fld Z h x ST "coder" "B" c0) (K : RoadKit.Arv Z h b k .char zn (cs.map Value.int) dv) (S : RoadKit.Sta Z h ST "COMPACT_STRINGS" "Z" (.int z)) (hz : ¬ z = 0)
    (hlen : zn.toNatClampNeg = cs.length) (h0 : 0 < cs.length) (hbig : cs.length ≤ 536870912) (hall : ∀ c ∈ cs, ¬ 255 < c) (hfr : 4 ≤ R.frames) (hlo : W + 65 ≤ R.locals) :
    Back l R p e below s args New1.yN len W (fun P a => a = #[.ref x, .ref b] ∧ P.U.heap = h ∧ P.cells + 1 ≤ R.cells ∧ P.slots + cs.length ≤ R.slots)
      (fun P _ v B => ∃ L, QA Z x zn cs h v B.U.heap L ∧ B.locs = P.locs ++ L ∧ B.cells = P.cells + 1 ∧ B.slots = P.slots + cs.length) := by
  obtain ⟨A, K1, K2, K3, K4, K5, K6⟩ := K
  have e : A.slots.size = cs.length := K3.trans hlen
  have hat : ∀ (i : Nat) (hi : i < cs.length), A.slots[i]? = some (.int cs[i]) := fun i hi => by rw [K5 i (by omega)]; simp [List.getD_eq_getElem?_getD, hi]
  have hcv : ∀ (i : Nat) (hi : i < cs.length), cv A i = cs[i] := fun i hi => by unfold cv; rw [hat i hi]
  have hty : Typed .char A := fun i v hv => by
    have hi : i < A.slots.size := (Array.getElem?_eq_some_iff.mp hv).1
    have q := K5 i hi
    rw [hv] at q
    rw [Option.some.inj q]
    exact K6 i hi
  refine Back.mono (back hZ hw wi E V C K1 hty S hz (by omega) (by omega) (fun i hi => by rw [hcv i (by omega)]; exact hall _ (List.getElem_mem _)) hfr hlo) (fun P a hp => ⟨hp.1, hp.2.1, hp.2.2.1, by rw [e]; exact hp.2.2.2⟩) (fun P a v B hp hq => ?_)
  obtain ⟨L, ⟨q1, q2, q3, q4, q5, q6, q7, ⟨V', v1, v2, v3, v4, v5⟩, q9⟩, hl, hc, hs⟩ := hq
  refine ⟨L, ⟨q1, q2, q3, q4, q5, q6, q7, ⟨V'.cls, v3, V', v1, rfl, by rw [v4, e, hlen], K4, fun i hi => ?_, fun i hi => ?_⟩, q9⟩, hl, hc, by rw [hs, e]⟩
  · have hi' : i < cs.length := by omega
    rw [v5 i (by omega), hcv i hi']; simp [List.getD_eq_getElem?_getD, hi']
  · have hi' : i < cs.length := by omega
    simp only [List.getD_eq_getElem?_getD, List.getElem?_map, List.getElem?_eq_getElem hi', Option.map_some, Option.getD_some]
    exact fits_lo8 _
end StrChars.Road
namespace StrChars.Road
open Jvm Sem ClassFile Op Lib Jvm.Stand Jvm.Free Jvm.Free.XT
/-- WHAT COMES BACK, in the writer's own shape -/
def QV (Z : State) (x : Addr) (N : Int32) (bs : List Int32) (h : Heap) (n0 : Nat) (v : Option Value) (h' : Heap) (L : List Loc) : Prop := v = none ∧ RoadKit.Fr n0 L ∧ RoadKit.Keep h h' [x] ∧ RoadKit.Exa Z h' x ST ∧ RoadKit.Fld Z h' x ST "coder" "B" (.int 0) ∧
  ∃ (t : Addr) (kb : ClassId), n0 ≤ t ∧ h.size ≤ t ∧ ¬ t = x ∧ RoadKit.Fld Z h' x ST "value" "[B" (.ref t) ∧ RoadKit.Arv Z h' t kb .byte N (bs.map Value.int) (.int 0)
/-- **new String(chars) AT A CALL, FOR THE WRITER**: a char[] of n known ints, each 0 to 255 -/
theorem backV {p : Program} {l : Launch} {e : Env} {R : Room} {s : State} {args : Array Value} {below : List Frame} {len W : Nat} {Z : State} {a0 : Array Value} {h : Heap} (hZ : Z.Warmed39 s.vm) (hw : ∀ d ∈ words, d.before a0 Z = true) {kI : Nat} (wi : (Jvm.Cond.instantiable ST kI).before a0 Z = true)
    {x b : Addr} {kC : ClassId} {cs bs : List Int32} {d v0 c0 : Value} {z N : Int32} {n n0 : Nat} (hx0 : n0 ≤ x) (hh0 : n0 ≤ h.size) (E : RoadKit.Exa Z h x ST) (V : RoadKit.Fld Z h x ST "value" "[B" v0) (C : RoadKit.Fld Z h x ST "coder" "B" c0) (K : RoadKit.Arv Z h b kC .char N (cs.map Value.int) d) (S : RoadKit.Sta Z h ST "COMPACT_STRINGS" "Z" (.int z)) (hz : ¬ z = 0)
    (hn : cs.length = n) (hN : N = Int32.ofNat n) (l0 : 0 < n) (l2 : n ≤ 4000) (hp : ∀ c ∈ cs, ¬ c < 0 ∧ ¬ (255 : Int32) < c) (hb : bs = cs.map (fun c => c.toInt8.toInt32)) (hfr : 4 ≤ R.frames) (hlo : W + 65 ≤ R.locals) :
    Back l R p e below s args (⟨"java/lang/String", "<init>", "([C)V"⟩ : MethodName) len W (fun P a => a = #[.ref x, .ref b] ∧ P.U.heap = h ∧ P.cells + 1 ≤ R.cells ∧ P.slots + n ≤ R.slots)
      (fun P _ v B => ∃ L, QV Z x N bs h n0 v B.U.heap L ∧ B.locs = P.locs ++ L ∧ B.cells = P.cells + 1 ∧ B.slots = P.slots + n) := by
  subst hn hN hb
  refine Back.mono (backArv hZ hw wi E V C K S hz (n32 (by omega)) l0 (by omega) (fun c hc => (hp c hc).2) hfr hlo) (fun P a hp => hp) (fun P a v B hp hq => ?_)
  obtain ⟨L, ⟨q1, q2, q3, q4, q5, q6, q7, ⟨kb, v1, v2⟩, q9⟩, hl, hc, hs⟩ := hq
  exact ⟨L, ⟨q1, fun y hy => by rw [q2 y hy]; exact hx0, q3, q5, q7, h.size, kb, hh0, Nat.le_refl _, Nat.ne_of_gt E.lt, q6, by rw [List.map_map]; exact v2⟩, hl, hc, hs⟩
end StrChars.Road
namespace StrChars
open Jvm Sem ClassFile Op Lib Jvm.Stand Jvm.Free.XT Jvm.Free.ALB Jvm.Free.JM Jvm.Free
open Jvm.Lib.Cold (StaticIs)
def hi8 (x : Int32) : Int32 := lo8 (x >>> ((8 : Int32) &&& 31))
/-- what StringUTF16.getChar makes of two bytes -/
def pairCh (u v : Int32) : Int32 := (((u &&& 255) <<< ((0 : Int32) &&& 31)) ||| ((v &&& 255) <<< ((8 : Int32) &&& 31))).toUInt32.toUInt16.toUInt32.toInt32
theorem lo8_and (x : Int32) : (lo8 x &&& 255).toBitVec.toNat = x.toBitVec.toNat % 256 := by
  have h : (lo8 x).toBitVec = (x.toBitVec.signExtend 8).signExtend 32 := by rw [lo8, Int8.toBitVec_toInt32, Int32.toBitVec_toInt8]
  rw [Int32.toBitVec_and, BitVec.toNat_and, h]
  have e : ((x.toBitVec.signExtend 8).signExtend 32).toNat % 256 = x.toBitVec.toNat % 256 := by
    rw [BitVec.toNat_signExtend]
    have hlt := x.toBitVec.isLt
    simp only [BitVec.toNat_setWidth, BitVec.toNat_signExtend]
    split <;> split <;> omega
  rw [← e]
  exact Nat.and_two_pow_sub_one_eq_mod _ 8
theorem pair_says {c : Int32} (h0 : ¬ c < 0) (h1 : ¬ 65535 < c) : pairCh (lo8 c) (hi8 c) = c := by
  rw [Int32.lt_iff_toInt_lt] at h0 h1
  have e0 : (0 : Int32).toInt = 0 := rfl
  have e1 : (65535 : Int32).toInt = 65535 := rfl
  have hc : c.toInt = c.toBitVec.toNat := by
    have := c.toBitVec.isLt
    have e : c.toInt = c.toBitVec.toInt := rfl
    rw [e] at h0 h1
    rw [e]
    rw [BitVec.toInt_eq_toNat_cond] at h0 h1 ⊢
    split at h0 <;> split <;> omega
  have hn : c.toBitVec.toNat < 65536 := by omega
  have a1 := lo8_and c
  have a2 : (hi8 c &&& 255).toBitVec.toNat = c.toBitVec.toNat / 256 := by
    rw [hi8, lo8_and]
    have e : ((8 : Int32) &&& 31) = 8 := by decide
    rw [e, Int32.toBitVec_shiftRight]
    have e2 : ((8 : Int32).toBitVec.smod 32) = 8#32 := by decide
    rw [e2, BitVec.sshiftRight_eq', BitVec.toNat_sshiftRight_of_msb_false (by rw [BitVec.msb_eq_false_iff_two_mul_lt]; omega)]
    show c.toBitVec.toNat >>> 8 % 256 = _
    rw [Nat.shiftRight_eq_div_pow]
    omega
  unfold pairCh
  apply Int32.toBitVec_inj.mp
  apply BitVec.eq_of_toNat_eq
  have f0 : ((0 : Int32) &&& 31) = 0 := by decide
  have f8 : ((8 : Int32) &&& 31) = 8 := by decide
  rw [f0, f8]
  have g : (((lo8 c &&& 255) <<< (0 : Int32)) ||| ((hi8 c &&& 255) <<< (8 : Int32))).toBitVec.toNat = c.toBitVec.toNat := by
    rw [Int32.toBitVec_or, Int32.toBitVec_shiftLeft, Int32.toBitVec_shiftLeft]
    have s0 : ((0 : Int32).toBitVec.smod 32) = 0#32 := by decide
    have s8 : ((8 : Int32).toBitVec.smod 32) = 8#32 := by decide
    rw [s0, s8, BitVec.toNat_or]
    simp only [BitVec.shiftLeft_eq', BitVec.toNat_shiftLeft, a1, a2]
    show (c.toBitVec.toNat % 256) <<< 0 % 2 ^ 32 ||| (c.toBitVec.toNat / 256) <<< 8 % 2 ^ 32 = _
    rw [Nat.shiftLeft_zero, Nat.mod_eq_of_lt (show c.toBitVec.toNat % 256 < 2 ^ 32 by omega), Nat.mod_eq_of_lt (show (c.toBitVec.toNat / 256) <<< 8 < 2 ^ 32 by rw [Nat.shiftLeft_eq]; omega), Nat.or_comm, ← Nat.shiftLeft_add_eq_or_of_lt (by omega), Nat.shiftLeft_eq]
    omega
  show BitVec.toNat (((((lo8 c &&& 255) <<< (0 : Int32)) ||| ((hi8 c &&& 255) <<< (8 : Int32))).toBitVec.setWidth 16).setWidth 32) = _
  rw [BitVec.toNat_setWidth, BitVec.toNat_setWidth, g]
  omega
end StrChars
namespace StrChars
open Jvm Sem ClassFile Op Lib Jvm.Stand Jvm.Free.XT Jvm.Free.ALB Jvm.Free.JM Jvm.Free
open Jvm.Lib.Cold (StaticIs)
/-- the array's cell V codes the n chars f 0 .. f (n - 1) by the coder cd, as the JDK does: coder 1 just where some char is above 255 -/
def Cod (cd : Int32) (n : Nat) (f : Nat → Int32) (V : Cell) : Prop := (cd = 0 ∧ V.slots.size = n ∧ ∀ j, j < n → V.slots[j]? = some (.int (lo8 (f j))) ∧ ¬ 255 < f j) ∨ (cd = 1 ∧ V.slots.size = 2 * n ∧ (∀ j, j < n → V.slots[2 * j]? = some (.int (lo8 (f j))) ∧ V.slots[2 * j + 1]? = some (.int (hi8 (f j)))) ∧ ∃ j, j < n ∧ 255 < f j)
/-- **x is a String of the n chars f 0 .. f (n - 1)**, Latin-1 or UTF-16; its array at t has the cell V -/
def Txt (x t : Addr) (V : Cell) (cd : Int32) (n : Nat) (f : Nat → Int32) (U : State) : Prop := Exact "java/lang/String" x U ∧ Has x "java/lang/String" "value" "[B" (.ref t) U ∧ Has x "java/lang/String" "coder" "B" (.int cd) U ∧ XT.Arr .byte t V U ∧ Cod cd n f V ∧ ∀ j, j < n → ¬ f j < 0 ∧ ¬ 65535 < f j
theorem Txt.mv {x t : Addr} {V : Cell} {cd : Int32} {n : Nat} {f : Nat → Int32} {U U' : State} (h : Txt x t V cd n f U) (hal : U.vm.Alike U'.vm) (hh : U'.heap = U.heap) : Txt x t V cd n f U' := ⟨h.1.mv hal hh, h.2.1.mv hal hh, h.2.2.1.mv hal hh, h.2.2.2.1.mv hal hh, h.2.2.2.2⟩
end StrChars
namespace StrChars.Road
open Jvm Sem ClassFile Op Lib Jvm.Stand Jvm.Free Jvm.Free.XT
open Jvm.Lib.Cold (StaticIs)
theorem consq {a : Array Value} {s : State} {c : Jvm.Cond} {L : List Jvm.Cond} (h0 : c.before a s = true) (h : ∀ w ∈ L, w.before a s = true) : ∀ w ∈ c :: L, w.before a s = true := fun w hw => (List.mem_cons.mp hw).elim (fun e => e ▸ h0) (h w)
/-- the bytes of the chars cs, low before high -/
def wideBytes : List Int32 → List Value
  | [] => []
  | c :: cs => .int (lo8 c) :: .int (hi8 c) :: wideBytes cs
theorem wide_lo (d : Value) : ∀ (cs : List Int32) (j : Nat), j < cs.length → (wideBytes cs).getD (2 * j) d = .int (lo8 (cs.getD j 0))
  | [], j, h => absurd h (Nat.not_lt_zero j)
  | c :: cs, 0, _ => rfl
  | c :: cs, j + 1, h => by
    have q := wide_lo d cs j (by simpa using h)
    rw [show 2 * (j + 1) = 2 * j + 1 + 1 from by omega]
    simpa [wideBytes] using q
theorem wide_hi (d : Value) : ∀ (cs : List Int32) (j : Nat), j < cs.length → (wideBytes cs).getD (2 * j + 1) d = .int (hi8 (cs.getD j 0))
  | [], j, h => absurd h (Nat.not_lt_zero j)
  | c :: cs, 0, _ => rfl
  | c :: cs, j + 1, h => by
    have q := wide_hi d cs j (by simpa using h)
    rw [show 2 * (j + 1) + 1 = 2 * j + 1 + 1 + 1 from by omega]
    simpa [wideBytes] using q
theorem low_at (d : Value) (cs : List Int32) (j : Nat) (h : j < cs.length) : (cs.map fun c => Value.int (lo8 c)).getD j d = .int (lo8 (cs.getD j 0)) := by
  simp [List.getD_eq_getElem?_getD, h]
/-- an array of N2 bytes vs codes the chars cs by the coder cd -/
def CodA (cs : List Int32) (cd N2 : Int32) (vs : List Value) : Prop := (cd = 0 ∧ N2 = Int32.ofNat cs.length ∧ vs = (cs.map fun c => Value.int (lo8 c)) ∧ ∀ c ∈ cs, ¬ 255 < c) ∨ (cd = 1 ∧ N2 = Int32.ofNat (2 * cs.length) ∧ vs = wideBytes cs ∧ ∃ c ∈ cs, 255 < c)
theorem CodA.cod {cs : List Int32} {cd N2 : Int32} {vs : List Value} {V : Cell} (h : CodA cs cd N2 vs) (hn : 2 * cs.length < 2 ^ 31) (hs : V.slots.size = N2.toNatClampNeg) (hv : RoadKit.Has V vs (.int 0)) : Cod cd cs.length (fun j => cs.getD j 0) V := by
  rcases h with ⟨rfl, rfl, rfl, h⟩ | ⟨rfl, rfl, rfl, c, hc, hw⟩
  · rw [n32 (by omega)] at hs
    exact Or.inl ⟨rfl, hs, fun j hj => ⟨by rw [hv j (by omega), low_at _ _ _ hj], by
      have e : cs.getD j 0 = cs[j] := by simp [List.getD_eq_getElem?_getD, hj]
      show ¬ 255 < cs.getD j 0
      rw [e]; exact h _ (List.getElem_mem _)⟩⟩
  · rw [n32 (by omega)] at hs
    obtain ⟨j, hj, rfl⟩ := List.getElem_of_mem hc
    exact Or.inr ⟨rfl, hs, fun j hj => ⟨by rw [hv _ (by omega), wide_lo _ _ _ hj], by rw [hv _ (by omega), wide_hi _ _ _ hj]⟩, j, hj, by
      have e : cs.getD j 0 = cs[j] := by simp [List.getD_eq_getElem?_getD, hj]
      show 255 < cs.getD j 0
      rw [e]; exact hw⟩
/-- an object of exactly java/lang/String, its two fields found: as the laws ask it -/
theorem strObj {Z U : State} {a0 : Array Value} {kI : Nat} (wi : (Jvm.Cond.instantiable ST kI).before a0 Z = true) (al : Z.vm.Alike U.vm) {x : Addr} {v0 c0 : Value} (E : RoadKit.Exa Z U.heap x ST) (V : RoadKit.Fld Z U.heap x ST "value" "[B" v0) (C : RoadKit.Fld Z U.heap x ST "coder" "B" c0) :
    ∃ (D : Cell) (fV fC : Field), Blank ST x D U ∧ Found ST "value" "[B" fV U ∧ Found ST "coder" "B" fC U ∧ D.slots[fV.slot]? = some v0 ∧ D.slots[fC.slot]? = some c0 ∧ RoadKit.slotOf Z ST "value" "[B" = fV.slot ∧ RoadKit.slotOf Z ST "coder" "B" = fC.slot := by
  obtain ⟨D, cfV, kV, iV, fV, hD, gV, stV, knV, obV, asV, slV⟩ := V
  obtain ⟨D', cfC, kC, iC, fC, hD', gC, stC, -, -, asC, slC⟩ := C
  cases hD.symm.trans hD'
  obtain ⟨D2, kD, e1, e2, e3, e4, e5⟩ := E
  cases hD.symm.trans e1
  obtain ⟨c2, k2, i1, i2, i3, -⟩ := Cond.instantiable_spec wi
  cases e2.symm.trans i1
  cases e3.symm.trans i2
  obtain ⟨kU, u1, u2⟩ := al.2.2 _ _ e3
  exact ⟨D, fV, fC, ⟨hD, ⟨knV, fun q hq => by rw [hq] at obV; cases obV⟩, by rw [al.findClass]; exact e2, kU, u1, by rw [u2]; exact i3, by rw [u2]; exact e5 i3⟩, ⟨SBG.found_only al ⟨cfV, kV, iV, gV⟩, stV⟩, ⟨SBG.found_only al ⟨cfC, kC, iC, gC⟩, stC⟩, slV, slC, by simp [RoadKit.slotOf, gV], by simp [RoadKit.slotOf, gC]⟩
theorem sta_is {Z U : State} (al : Z.vm.Alike U.vm) {C n d : String} {v : Value} (S : RoadKit.Sta Z U.heap C n d v) : StaticIs U C n d v := by
  obtain ⟨cfS, iS, kS, fS, st, cS, t1, t2, t3, t4, t5, t6, t7⟩ := S
  exact StaticIs.there (s := { Z with heap := U.heap }) ⟨cfS, iS, kS, fS, st, cS, t1, t2, t3, t4, t5, (fun q => by rw [q] at t6; cases t6), t7⟩ al rfl
end StrChars.Road
namespace StrChars
open Jvm Sem ClassFile Op Lib Jvm.Stand Jvm.Free.XT Jvm.Free.ALB Jvm.Free.JM Jvm.Free
open Jvm.Lib.Cold (StaticIs)
/-- what place i of a byte[]'s cell holds -/
def yv (A : Cell) (i : Nat) : Int32 := match A.slots[i]? with | some (.int x) => x | _ => 0
theorem yv_get {a : Addr} {A : Cell} {U : State} (h : XT.Arr .byte a A U) (ht : Typed .byte A) {i : Nat} (hi : i < A.slots.size) : A.slots[i]? = some (.int (yv A i)) := by
  have e := Array.getElem?_eq_getElem hi
  have f := ht i _ e
  unfold yv; rw [e]
  generalize A.slots[i] = v at f
  cases v <;> simp [fits] at f ⊢
/-- the two arrays are equal, place for place -/
def EqC (A B : Cell) : Prop := A.slots.size = B.slots.size ∧ ∀ i, i < A.slots.size → yv A i = yv B i
/-- a boolean that says whether p -/
def Says01 (q : Prop) (r : Option Value) (s u : State) : Prop := ∃ v : Int32, r = some (.int v) ∧ u.heap = s.heap ∧ ((v = 1 ∧ q) ∨ (v = 0 ∧ ¬ q))
theorem Says01.mv {q : Prop} : ∀ r (U U' V V' : State), U'.heap = U.heap → V.vm.Alike V'.vm → V'.heap = V.heap → Says01 q r U V → Says01 q r U' V' :=
  fun r U U' V V' h1 _ h2 ⟨v, a, b, c⟩ => ⟨v, a, by rw [h1, h2]; exact b, c⟩
namespace LEq
def yN : MethodName := ⟨"java/lang/StringLatin1", "equals", "([B[B)Z"⟩
abbrev yB : ByteArray := jdk_43_method_13_code
theorem d0 : decode yB 0 = .ok (.aload_n 0, 1) := by decide +kernel
theorem d1 : decode yB 1 = .ok (.arraylength, 1) := by decide +kernel
theorem d2 : decode yB 2 = .ok (.aload_n 1, 1) := by decide +kernel
theorem d3 : decode yB 3 = .ok (.arraylength, 1) := by decide +kernel
theorem d4 : decode yB 4 = .ok (.if_icmp (.ne) 30, 3) := by decide +kernel
theorem d7 : decode yB 7 = .ok (.iconst 0, 1) := by decide +kernel
theorem d8 : decode yB 8 = .ok (.istore_n 2, 1) := by decide +kernel
theorem d9 : decode yB 9 = .ok (.iload_n 2, 1) := by decide +kernel
theorem d10 : decode yB 10 = .ok (.aload_n 0, 1) := by decide +kernel
theorem d11 : decode yB 11 = .ok (.arraylength, 1) := by decide +kernel
theorem d12 : decode yB 12 = .ok (.if_icmp (.ge) 20, 3) := by decide +kernel
theorem d15 : decode yB 15 = .ok (.aload_n 0, 1) := by decide +kernel
theorem d16 : decode yB 16 = .ok (.iload_n 2, 1) := by decide +kernel
theorem d17 : decode yB 17 = .ok (.baload, 1) := by decide +kernel
theorem d18 : decode yB 18 = .ok (.aload_n 1, 1) := by decide +kernel
theorem d19 : decode yB 19 = .ok (.iload_n 2, 1) := by decide +kernel
theorem d20 : decode yB 20 = .ok (.baload, 1) := by decide +kernel
theorem d21 : decode yB 21 = .ok (.if_icmp (.eq) 5, 3) := by decide +kernel
theorem d24 : decode yB 24 = .ok (.iconst 0, 1) := by decide +kernel
theorem d25 : decode yB 25 = .ok (.ireturn, 1) := by decide +kernel
theorem d26 : decode yB 26 = .ok (.iinc 2 1, 3) := by decide +kernel
theorem d29 : decode yB 29 = .ok (.goto (-20), 3) := by decide +kernel
theorem d32 : decode yB 32 = .ok (.iconst 1, 1) := by decide +kernel
theorem d33 : decode yB 33 = .ok (.ireturn, 1) := by decide +kernel
theorem d34 : decode yB 34 = .ok (.iconst 0, 1) := by decide +kernel
theorem d35 : decode yB 35 = .ok (.ireturn, 1) := by decide +kernel
def site : List Cond := []
def tab : Cond := tabOf yN yB 3 (some .boolean) site
def P (a : Addr) (A : Cell) (b : Addr) (B : Cell) (args : Array Value) (s : State) : Prop := args = #[.ref a, .ref b] ∧ XT.Arr .byte a A s ∧ Typed .byte A ∧ XT.Arr .byte b B s ∧ Typed .byte B
/-- whether two byte[] are equal, place for place -/
theorem law (l : Launch) (a : Addr) (A : Cell) (b : Addr) (B : Cell) : Law l yN 2 2 0 0 yB 3 (some .boolean) site (P a A b B) (Says01 (EqC A B)) [] 0 0 := by
  refine Law.of_walk (plainFor_of_name (by decide +kernel)) (by decide +kernel) (by decide +kernel) (by decide) (fun _ _ h => by rw [h.1]; rfl) (fun _ U U' hal hh h => ⟨h.1, h.2.1.mv hal hh, h.2.2.1, h.2.2.2.1.mv hal hh, h.2.2.2.2⟩) (fun r U U' V V' h1 hal h2 h => Says01.mv r U U' V V' h1 hal h2 h) ?_
  intro p e s m args below meth c s₁ X0 hexec hbytes hml hret hlk hnm hown hh0 W hP
  obtain ⟨rfl, hA, tA, hB, tB⟩ := hP
  have a31 := hA.2.2.2
  have b31 := hB.2.2.2
  have hA0 := hA.mv X0.warmed.alike hh0
  have hB0 := hB.mv X0.warmed.alike hh0
  have c1 : Steps p.tables e below (s₁.setTop (entryFrame m #[.ref a, .ref b] 3)) (s₁.setTop (mkF m 0 #[.val (.ref a), .val (.ref b), .unset] [])) := entry rfl
  have c2 : Steps p.tables e below (s₁.setTop (entryFrame m #[.ref a, .ref b] 3)) (s₁.setTop (mkF m 4 #[.val (.ref a), .val (.ref b), .unset] [.int (Int32.ofNat B.slots.size), .int (Int32.ofNat A.slots.size)])) := c1.trans (by
    refine XS.aloadN X0.here hexec rfl (hb hbytes d0) rfl rfl ?_
    refine X0.alen hexec hA0 rfl rfl (hb hbytes d1) ?_
    refine XS.aloadN X0.here hexec rfl (hb hbytes d2) rfl rfl ?_
    refine X0.alen hexec hB0 rfl rfl (hb hbytes d3) ?_
    exact Steps.refl _)
  by_cases hs : A.slots.size = B.slots.size
  · have c3 : Steps p.tables e below (s₁.setTop (entryFrame m #[.ref a, .ref b] 3)) (s₁.setTop (mkF m 9 #[.val (.ref a), .val (.ref b), .val (.int 0)] [])) := c2.trans (by
      refine XS.icmpNo X0.here hexec rfl (hb hbytes d4) rfl (ii_ne_f (by rw [hs])) ?_
      refine iconstV X0.here hexec rfl 0 (hb hbytes d7) (by decide) ?_
      refine XS.istoreN X0.here hexec rfl (hb hbytes d8) rfl rfl ?_
      exact Steps.refl _)
    have loop : ∀ (r i : Nat), i + r = A.slots.size → (∀ j, j < i → yv A j = yv B j) → Steps p.tables e below (s₁.setTop (entryFrame m #[.ref a, .ref b] 3)) (s₁.setTop (mkF m 9 #[.val (.ref a), .val (.ref b), .val (.int (Int32.ofNat i))] [])) → ∃ (pc : Nat) (Ls : Array Slot) (v : Int32), (pc = 25 ∨ pc = 33) ∧ ((v = 1 ∧ EqC A B) ∨ (v = 0 ∧ ¬ EqC A B)) ∧ Steps p.tables e below (s₁.setTop (entryFrame m #[.ref a, .ref b] 3)) (s₁.setTop (mkF m pc Ls [.int v])) := by
      intro r
      induction r with
      | zero =>
        intro i hi he cl
        exact ⟨33, _, 1, Or.inr rfl, Or.inl ⟨rfl, hs, fun j hj => he j (by omega)⟩, cl.trans (by
          refine XS.iloadN X0.here hexec rfl (hb hbytes d9) rfl ?_
          refine XS.aloadN X0.here hexec rfl (hb hbytes d10) rfl rfl ?_
          refine X0.alen hexec hA0 rfl rfl (hb hbytes d11) ?_
          refine XS.icmpYes X0.here hexec rfl (pc0 := 12) rfl (hb hbytes d12) rfl (ii_ge_t (nlt32 (by omega) (by omega))) (by decide) rfl ?_
          refine iconstV X0.here hexec rfl 1 (hb hbytes d32) (by decide) ?_
          exact Steps.refl _)⟩
      | succ r ih =>
        intro i hi he cl
        have c4 : Steps p.tables e below (s₁.setTop (entryFrame m #[.ref a, .ref b] 3)) (s₁.setTop (mkF m 21 #[.val (.ref a), .val (.ref b), .val (.int (Int32.ofNat i))] [.int (yv B i), .int (yv A i)])) := cl.trans (by
          refine XS.iloadN X0.here hexec rfl (hb hbytes d9) rfl ?_
          refine XS.aloadN X0.here hexec rfl (hb hbytes d10) rfl rfl ?_
          refine X0.alen hexec hA0 rfl rfl (hb hbytes d11) ?_
          refine XS.icmpNo X0.here hexec rfl (hb hbytes d12) rfl (ii_ge_f (lt32 (by omega) (by omega))) ?_
          refine XS.aloadN X0.here hexec rfl (hb hbytes d15) rfl rfl ?_
          refine XS.iloadN X0.here hexec rfl (hb hbytes d16) rfl ?_
          refine X0.aget hexec hA0 rfl (yv_get hA tA (i := i) (by omega)) rfl rfl (hb hbytes d17) ?_
          refine XS.aloadN X0.here hexec rfl (hb hbytes d18) rfl rfl ?_
          refine XS.iloadN X0.here hexec rfl (hb hbytes d19) rfl ?_
          refine X0.aget hexec hB0 rfl (yv_get hB tB (i := i) (by omega)) rfl rfl (hb hbytes d20) ?_
          exact Steps.refl _)
        by_cases hv : yv A i = yv B i
        · have c5 : Steps p.tables e below (s₁.setTop (entryFrame m #[.ref a, .ref b] 3)) (s₁.setTop (mkF m 9 #[.val (.ref a), .val (.ref b), .val (.int (Int32.ofNat i + 1))] [])) := c4.trans (by
            refine XS.icmpYes X0.here hexec rfl (pc0 := 21) rfl (hb hbytes d21) rfl (ii_eq_t hv) (by decide) rfl ?_
            refine iincV X0.here hexec rfl 1 (hb hbytes d26) (by decide) rfl rfl ?_
            refine XS.goto X0.here hexec rfl (pc0 := 29) rfl (hb hbytes d29) (by decide) rfl ?_
            exact Steps.refl _)
          rw [succ32] at c5
          exact ih (i + 1) (by omega) (fun j hj => by
            by_cases e : j = i
            · rw [e]; exact hv
            · exact he j (by omega)) c5
        · exact ⟨25, _, 0, Or.inl rfl, Or.inr ⟨rfl, fun q => hv (q.2 i (by omega))⟩, c4.trans (by
            refine XS.icmpNo X0.here hexec rfl (hb hbytes d21) rfl (ii_eq_f hv) ?_
            refine iconstV X0.here hexec rfl 0 (hb hbytes d24) (by decide) ?_
            exact Steps.refl _)⟩
    obtain ⟨pc, Ls, v, hpc, hv, cz⟩ := loop A.slots.size 0 (by omega) (fun j hj => absurd hj (Nat.not_lt_zero j)) c3
    have nv : narrow .boolean (.int v) = .int v := by rcases hv with ⟨rfl, -⟩ | ⟨rfl, -⟩ <;> rfl
    rcases hpc with rfl | rfl
    · exact ⟨s₁, some (.int v), _, _, _, X0, rfl, rfl, rfl, (fun h => by cases h), ⟨v, rfl, hh0, hv⟩, fun fs hl => cz.trans (X0.ireturnOut hexec hret nv (Or.inr (Or.inl rfl)) (hb hbytes d25) hl)⟩
    · exact ⟨s₁, some (.int v), _, _, _, X0, rfl, rfl, rfl, (fun h => by cases h), ⟨v, rfl, hh0, hv⟩, fun fs hl => cz.trans (X0.ireturnOut hexec hret nv (Or.inr (Or.inl rfl)) (hb hbytes d33) hl)⟩
  · have c3 : Steps p.tables e below (s₁.setTop (entryFrame m #[.ref a, .ref b] 3)) (s₁.setTop (mkF m 35 #[.val (.ref a), .val (.ref b), .unset] [.int 0])) := c2.trans (by
      refine XS.icmpYes X0.here hexec rfl (pc0 := 4) rfl (hb hbytes d4) rfl (ii_ne_t (ne32 a31 b31 hs)) (by decide) rfl ?_
      refine iconstV X0.here hexec rfl 0 (hb hbytes d34) (by decide) ?_
      exact Steps.refl _)
    exact ⟨s₁, some (.int 0), _, _, _, X0, rfl, rfl, rfl, (fun h => by cases h), ⟨0, rfl, hh0, Or.inr ⟨rfl, fun q => hs q.1⟩⟩, fun fs hl => c3.trans (X0.ireturnOut hexec hret rfl (Or.inr (Or.inl rfl)) (hb hbytes d35) hl)⟩
end LEq
theorem Cod.ty {cd : Int32} {n : Nat} {f : Nat → Int32} {V : Cell} (h : Cod cd n f V) : Typed .byte V := fun i v hv => by
  have hi : i < V.slots.size := (Array.getElem?_eq_some_iff.mp hv).1
  rcases h with ⟨-, k1, k2⟩ | ⟨-, k1, k2, -⟩
  · rw [(k2 i (by omega)).1] at hv; cases hv; exact fits_lo8 _
  · rcases Nat.mod_two_eq_zero_or_one i with e | e
    · obtain ⟨j, rfl⟩ : ∃ j, i = 2 * j := ⟨i / 2, by omega⟩
      rw [(k2 j (by omega)).1] at hv; cases hv; exact fits_lo8 _
    · obtain ⟨j, rfl⟩ : ∃ j, i = 2 * j + 1 := ⟨i / 2, by omega⟩
      rw [(k2 j (by omega)).2] at hv; cases hv; exact fits_lo8 _
/-- the same text -/
def SameT (n : Nat) (f : Nat → Int32) (k : Nat) (g : Nat → Int32) : Prop := n = k ∧ ∀ j, j < n → f j = g j
theorem lo8_inj {x y : Int32} (h0 : ¬ x < 0) (h1 : ¬ 255 < x) (k0 : ¬ y < 0) (k1 : ¬ 255 < y) (h : lo8 x = lo8 y) : x = y := by
  rw [← lo8_mask h0 h1, ← lo8_mask k0 k1, h]
/-- arrays coded by one coder are equal just where the texts are -/
theorem Cod.eqv {cd : Int32} {n k : Nat} {f g : Nat → Int32} {V V' : Cell} (h : Cod cd n f V) (h' : Cod cd k g V') (hf : ∀ j, j < n → ¬ f j < 0 ∧ ¬ 65535 < f j) (hg : ∀ j, j < k → ¬ g j < 0 ∧ ¬ 65535 < g j) : EqC V V' ↔ SameT n f k g := by
  have yvv : ∀ {W : Cell} {i : Nat} {x : Int32}, W.slots[i]? = some (.int x) → yv W i = x := fun q => by unfold yv; rw [q]
  rcases h with ⟨rfl, k1, k2⟩ | ⟨rfl, k1, k2, -⟩
  · rcases h' with ⟨-, m1, m2⟩ | ⟨e, -⟩
    · constructor
      · rintro ⟨e1, e2⟩
        refine ⟨by omega, fun j hj => ?_⟩
        have q := e2 j (by omega)
        rw [yvv (k2 j hj).1, yvv (m2 j (by omega)).1] at q
        exact lo8_inj (hf j hj).1 (k2 j hj).2 (hg j (by omega)).1 (m2 j (by omega)).2 q
      · rintro ⟨rfl, e2⟩
        refine ⟨by omega, fun j hj => ?_⟩
        rw [yvv (k2 j (by omega)).1, yvv (m2 j (by omega)).1, e2 j (by omega)]
    · exact absurd e (by decide)
  · rcases h' with ⟨e, -⟩ | ⟨-, m1, m2, -⟩
    · exact absurd e (by decide)
    · constructor
      · rintro ⟨e1, e2⟩
        refine ⟨by omega, fun j hj => ?_⟩
        have q1 := e2 (2 * j) (by omega)
        have q2 := e2 (2 * j + 1) (by omega)
        rw [yvv (k2 j hj).1, yvv (m2 j (by omega)).1] at q1
        rw [yvv (k2 j hj).2, yvv (m2 j (by omega)).2] at q2
        rw [← pair_says (hf j hj).1 (hf j hj).2, ← pair_says (hg j (by omega)).1 (hg j (by omega)).2, q1, q2]
      · rintro ⟨rfl, e2⟩
        refine ⟨by omega, fun i hi => ?_⟩
        rcases Nat.mod_two_eq_zero_or_one i with e | e
        · obtain ⟨j, rfl⟩ : ∃ j, i = 2 * j := ⟨i / 2, by omega⟩
          rw [yvv (k2 j (by omega)).1, yvv (m2 j (by omega)).1, e2 j (by omega)]
        · obtain ⟨j, rfl⟩ : ∃ j, i = 2 * j + 1 := ⟨i / 2, by omega⟩
          rw [yvv (k2 j (by omega)).2, yvv (m2 j (by omega)).2, e2 j (by omega)]
/-- two codings differ: so do the texts -/
theorem Cod.dif {cd cd' : Int32} {n k : Nat} {f g : Nat → Int32} {V V' : Cell} (h : Cod cd n f V) (h' : Cod cd' k g V') (hne : ¬ cd = cd') : ¬ SameT n f k g := by
  rintro ⟨rfl, e⟩
  rcases h with ⟨rfl, -, k2⟩ | ⟨rfl, -, -, j, hj, hw⟩
  · rcases h' with ⟨rfl, -⟩ | ⟨-, -, -, j, hj, hw⟩
    · exact hne rfl
    · exact (k2 j hj).2 (by rw [e j hj]; exact hw)
  · rcases h' with ⟨-, -, m2⟩ | ⟨rfl, -⟩
    · exact (m2 j hj).2 (by rw [← e j hj]; exact hw)
    · exact hne rfl
/-- an object of exactly C is an instance of C -/
theorem cinst {p : Program} {l : Launch} {e : Env} {R : Room} {s : State} {m : MethodId} {args : Array Value} {below : List Frame} {meth : Method} {c : Code} {T : State} {locs : List Loc} {cells slots : Nat} (X : Stand p l e R s m args below meth c T locs cells slots) (hexec : p.tables.exec = Jvm.exec) {own C : String} {index : Nat} (hown : s.vm.findClass own = some m.cls) (hlink : (Cond.classLink own index C).before args s = true) {a : Addr} (hE : Exact C a T)
    {g : JFrame} (hg : g.method = m) {rest : List Value} (hstack : g.stack = .ref a :: rest) (hdg : decode c.code g.pc = .ok (.instanceof index, 3)) :
    ∃ T', Stand p l e R s m args below meth c T' locs cells slots ∧ T'.heap = T.heap ∧ ∀ target, Steps p.tables e below (T'.setTop { g with pc := g.pc + 3, stack := .int 1 :: rest }) target → Steps p.tables e below (T.setTop g) target := by
  obtain ⟨cB, h1, D, h2, h3, h4⟩ := hE
  have h1' : s.vm.findClass C = some cB := by rw [← X.warmed.alike.findClass]; exact h1
  obtain ⟨vm', X', st⟩ := X.instanceofYes hexec hown hlink h2 h4 h1' (by rw [h3]; exact Jvm.Free.SB.assignable_self _ _) hg hstack hdg
  exact ⟨_, X', rfl, st⟩
theorem cself {p : Program} {l : Launch} {e : Env} {R : Room} {s : State} {m : MethodId} {args : Array Value} {below : List Frame} {meth : Method} {c : Code} {T : State} {locs : List Loc} {cells slots : Nat} (X : Stand p l e R s m args below meth c T locs cells slots) (hexec : p.tables.exec = Jvm.exec) {own C : String} {index : Nat} (hown : s.vm.findClass own = some m.cls) (hlink : (Cond.classLink own index C).before args s = true) {a : Addr} (hE : Exact C a T)
    {g : JFrame} (hg : g.method = m) {rest : List Value} (hstack : g.stack = .ref a :: rest) (hdg : decode c.code g.pc = .ok (.checkcast index, 3)) :
    ∃ T', Stand p l e R s m args below meth c T' locs cells slots ∧ T'.heap = T.heap ∧ ∀ target, Steps p.tables e below (T'.setTop { g with pc := g.pc + 3, stack := .ref a :: rest }) target → Steps p.tables e below (T.setTop g) target := by
  obtain ⟨cB, h1, D, h2, h3, h4⟩ := hE
  have h1' : s.vm.findClass C = some cB := by rw [← X.warmed.alike.findClass]; exact h1
  obtain ⟨vm', X', st⟩ := X.checkcastYes hexec hown hlink h2 h4 h1' (by rw [h3]; exact Jvm.Free.SB.assignable_self _ _) hg hstack hdg
  exact ⟨_, X', rfl, fun t h => st t (by rw [← hstack] at h; exact h)⟩
namespace SEq
def yN : MethodName := ⟨"java/lang/String", "equals", "(Ljava/lang/Object;)Z"⟩
abbrev yB : ByteArray := jdk_42_method_66_code
theorem d0 : decode yB 0 = .ok (.aload_n 0, 1) := by decide +kernel
theorem d1 : decode yB 1 = .ok (.aload_n 1, 1) := by decide +kernel
theorem d2 : decode yB 2 = .ok (.if_acmp (.ne) 5, 3) := by decide +kernel
theorem d5 : decode yB 5 = .ok (.iconst 1, 1) := by decide +kernel
theorem d6 : decode yB 6 = .ok (.ireturn, 1) := by decide +kernel
theorem d7 : decode yB 7 = .ok (.aload_n 1, 1) := by decide +kernel
theorem d8 : decode yB 8 = .ok (.instanceof 10, 3) := by decide +kernel
theorem d11 : decode yB 11 = .ok (.ifCond (.eq) 43, 3) := by decide +kernel
theorem d14 : decode yB 14 = .ok (.aload_n 1, 1) := by decide +kernel
theorem d15 : decode yB 15 = .ok (.checkcast 10, 3) := by decide +kernel
theorem d18 : decode yB 18 = .ok (.astore_n 2, 1) := by decide +kernel
theorem d19 : decode yB 19 = .ok (.getstatic 38, 3) := by decide +kernel
theorem d22 : decode yB 22 = .ok (.ifCond (.eq) 14, 3) := by decide +kernel
theorem d25 : decode yB 25 = .ok (.aload_n 0, 1) := by decide +kernel
theorem d26 : decode yB 26 = .ok (.getfield 15, 3) := by decide +kernel
theorem d29 : decode yB 29 = .ok (.aload_n 2, 1) := by decide +kernel
theorem d30 : decode yB 30 = .ok (.getfield 15, 3) := by decide +kernel
theorem d33 : decode yB 33 = .ok (.if_icmp (.ne) 21, 3) := by decide +kernel
theorem d36 : decode yB 36 = .ok (.aload_n 0, 1) := by decide +kernel
theorem d37 : decode yB 37 = .ok (.getfield 9, 3) := by decide +kernel
theorem d40 : decode yB 40 = .ok (.aload_n 2, 1) := by decide +kernel
theorem d41 : decode yB 41 = .ok (.getfield 9, 3) := by decide +kernel
theorem d44 : decode yB 44 = .ok (.invokestatic 541, 3) := by decide +kernel
theorem d47 : decode yB 47 = .ok (.ifCond (.eq) 7, 3) := by decide +kernel
theorem d50 : decode yB 50 = .ok (.iconst 1, 1) := by decide +kernel
theorem d51 : decode yB 51 = .ok (.goto 4, 3) := by decide +kernel
theorem d54 : decode yB 54 = .ok (.iconst 0, 1) := by decide +kernel
theorem d55 : decode yB 55 = .ok (.ireturn, 1) := by decide +kernel
def site : List Cond := [.classLink "java/lang/String" 10 "java/lang/String", .fieldLink "java/lang/String" 38 "java/lang/String" "COMPACT_STRINGS" "Z", .fieldLink "java/lang/String" 15 "java/lang/String" "coder" "B", .fieldLink "java/lang/String" 9 "java/lang/String" "value" "[B", LEq.tab] ++ staticW "java/lang/String" 541 LEq.yN
def tab : Cond := tabOf yN yB 3 (some .boolean) site
def P (x t : Addr) (V : Cell) (cd : Int32) (n : Nat) (f : Nat → Int32) (y t' : Addr) (V' : Cell) (cd' : Int32) (k : Nat) (g : Nat → Int32) (z : Int32) (args : Array Value) (s : State) : Prop := args = #[.ref x, .ref y] ∧ Txt x t V cd n f s ∧ Txt y t' V' cd' k g s ∧ StaticIs s "java/lang/String" "COMPACT_STRINGS" "Z" (.int z) ∧ ¬ z = 0
/-- equals(Object) of two Strings: whether the texts are the same -/
theorem law (l : Launch) (x t : Addr) (V : Cell) (cd : Int32) (n : Nat) (f : Nat → Int32) (y t' : Addr) (V' : Cell) (cd' : Int32) (k : Nat) (g : Nat → Int32) (z : Int32) : Law l yN 2 1 1 14 yB 3 (some .boolean) site (P x t V cd n f y t' V' cd' k g z) (Says01 (SameT n f k g)) [] 0 0 := by
  refine Law.of_walk (plainFor_of_name (by decide +kernel)) (by decide +kernel) (by decide +kernel) (by decide) (fun _ _ h => by rw [h.1]; rfl) (fun _ U U' hal hh h => ⟨h.1, h.2.1.mv hal hh, h.2.2.1.mv hal hh, h.2.2.2.1.there hal hh, h.2.2.2.2⟩) (fun r U U' V V' h1 hal h2 h => Says01.mv r U U' V V' h1 hal h2 h) ?_
  intro p e s m args below meth c s₁ X0 hexec hbytes hml hret hlk hnm hown hh0 W hP
  obtain ⟨rfl, hx, hy, s1, hz⟩ := hP
  have c1 : Steps p.tables e below (s₁.setTop (entryFrame m #[.ref x, .ref y] 3)) (s₁.setTop (mkF m 2 #[.val (.ref x), .val (.ref y), .unset] [.ref y, .ref x])) := Steps.trans (entry rfl) (by
    show Steps p.tables e below (s₁.setTop (mkF m 0 #[.val (.ref x), .val (.ref y), .unset] [])) _
    refine XS.aloadN X0.here hexec rfl (hb hbytes d0) rfl rfl ?_
    refine XS.aloadN X0.here hexec rfl (hb hbytes d1) rfl rfl ?_
    exact Steps.refl _)
  by_cases hxy : x = y
  · have c2 : Steps p.tables e below (s₁.setTop (entryFrame m #[.ref x, .ref y] 3)) (s₁.setTop (mkF m 6 #[.val (.ref x), .val (.ref y), .unset] [.int 1])) := c1.trans (by
      refine acmpNo X0.here hexec rfl (hb hbytes d2) rfl rfl rfl (by simp [acmp, hxy]) ?_
      refine iconstV X0.here hexec rfl 1 (hb hbytes d5) (by decide) ?_
      exact Steps.refl _)
    subst hxy
    have ec : cd = cd' := by
      obtain ⟨D, fd, a1, a2, a3⟩ := hx.2.2.1
      obtain ⟨D', fd', b1, b2, b3⟩ := hy.2.2.1
      cases a1.symm.trans b1
      obtain ⟨q1, q2, q3, q4⟩ := a2.1
      obtain ⟨r1, r2, r3, r4⟩ := b2.1
      cases q4.symm.trans r4
      cases a3.symm.trans b3; rfl
    have et : t = t' := by
      obtain ⟨D, fd, a1, a2, a3⟩ := hx.2.1
      obtain ⟨D', fd', b1, b2, b3⟩ := hy.2.1
      cases a1.symm.trans b1
      obtain ⟨q1, q2, q3, q4⟩ := a2.1
      obtain ⟨r1, r2, r3, r4⟩ := b2.1
      cases q4.symm.trans r4
      cases a3.symm.trans b3; rfl
    subst ec et
    have ev : V = V' := by cases hx.2.2.2.1.1.symm.trans hy.2.2.2.1.1; rfl
    subst ev
    have hs : SameT n f k g := (Cod.eqv hx.2.2.2.2.1 hy.2.2.2.2.1 hx.2.2.2.2.2 hy.2.2.2.2.2).mp ⟨rfl, fun _ _ => rfl⟩
    exact ⟨s₁, some (.int 1), _, _, _, X0, rfl, rfl, rfl, (fun h => by cases h), ⟨1, rfl, hh0, Or.inl ⟨rfl, hs⟩⟩, fun fs hl => c2.trans (X0.ireturnOut hexec hret rfl (Or.inr (Or.inl rfl)) (hb hbytes d6) hl)⟩
  · have c2 : Steps p.tables e below (s₁.setTop (entryFrame m #[.ref x, .ref y] 3)) (s₁.setTop (mkF m 8 #[.val (.ref x), .val (.ref y), .unset] [.ref y])) := c1.trans (by
      refine acmpYes X0.here hexec rfl (pc0 := 2) rfl (hb hbytes d2) rfl rfl rfl (by simp [acmp, hxy]) (by decide) rfl ?_
      refine XS.aloadN X0.here hexec rfl (hb hbytes d7) rfl rfl ?_
      exact Steps.refl _)
    obtain ⟨T3, X3, q3, st3⟩ := cinst X0 hexec hown (wk W (.classLink "java/lang/String" 10 "java/lang/String")) (hy.mv X0.warmed.alike hh0).1 (g := (mkF m 8 #[.val (.ref x), .val (.ref y), .unset] [.ref y])) rfl (rest := []) rfl (hb hbytes d8)
    have hh3 := q3.trans hh0
    have c4 : Steps p.tables e below (s₁.setTop (entryFrame m #[.ref x, .ref y] 3)) (T3.setTop (mkF m 15 #[.val (.ref x), .val (.ref y), .unset] [.ref y])) := (c2.trans (st3 _ (Steps.refl _))).trans (by
      refine XS.ifNo X3.here hexec rfl (hb hbytes d11) rfl (i0_eq_f (by decide)) ?_
      refine XS.aloadN X3.here hexec rfl (hb hbytes d14) rfl rfl ?_
      exact Steps.refl _)
    obtain ⟨T5, X5, q5, st5⟩ := cself X3 hexec hown (wk W (.classLink "java/lang/String" 10 "java/lang/String")) (hy.mv X3.warmed.alike hh3).1 (g := (mkF m 15 #[.val (.ref x), .val (.ref y), .unset] [.ref y])) rfl (rest := []) rfl (hb hbytes d15)
    have hh5 := q5.trans hh3
    have c6 : Steps p.tables e below (s₁.setTop (entryFrame m #[.ref x, .ref y] 3)) (T5.setTop (mkF m 19 #[.val (.ref x), .val (.ref y), .val (.ref y)] [])) := (c4.trans (st5 _ (Steps.refl _))).trans (by
      refine XS.astoreN X5.here hexec rfl (hb hbytes d18) rfl rfl rfl ?_
      exact Steps.refl _)
    obtain ⟨T7, X7, q7, st7⟩ := X5.sget hexec hown (wk W (.fieldLink "java/lang/String" 38 "java/lang/String" "COMPACT_STRINGS" "Z")) s1 (fun _ _ h => by rw [hh5]; exact h) (g := (mkF m 19 #[.val (.ref x), .val (.ref y), .val (.ref y)] [])) rfl (hb hbytes d19)
    have hh7 := q7.trans hh5
    have c8 : Steps p.tables e below (s₁.setTop (entryFrame m #[.ref x, .ref y] 3)) (T7.setTop (mkF m 26 #[.val (.ref x), .val (.ref y), .val (.ref y)] [.ref x])) := (c6.trans (st7 _ (Steps.refl _))).trans (by
      refine XS.ifNo X7.here hexec rfl (hb hbytes d22) rfl (i0_eq_f hz) ?_
      refine XS.aloadN X7.here hexec rfl (hb hbytes d25) rfl rfl ?_
      exact Steps.refl _)
    obtain ⟨T9, X9, q9, st9⟩ := X7.hget hexec hown (wk W (.fieldLink "java/lang/String" 15 "java/lang/String" "coder" "B")) (hx.mv X7.warmed.alike hh7).2.2.1 (g := (mkF m 26 #[.val (.ref x), .val (.ref y), .val (.ref y)] [.ref x])) rfl (rest := []) rfl (hb hbytes d26)
    have hh9 := q9.trans hh7
    have c10 : Steps p.tables e below (s₁.setTop (entryFrame m #[.ref x, .ref y] 3)) (T9.setTop (mkF m 30 #[.val (.ref x), .val (.ref y), .val (.ref y)] [.ref y, .int cd])) := (c8.trans (st9 _ (Steps.refl _))).trans (by
      refine XS.aloadN X9.here hexec rfl (hb hbytes d29) rfl rfl ?_
      exact Steps.refl _)
    obtain ⟨T11, X11, q11, st11⟩ := X9.hget hexec hown (wk W (.fieldLink "java/lang/String" 15 "java/lang/String" "coder" "B")) (hy.mv X9.warmed.alike hh9).2.2.1 (g := (mkF m 30 #[.val (.ref x), .val (.ref y), .val (.ref y)] [.ref y, .int cd])) rfl (rest := [.int cd]) rfl (hb hbytes d30)
    have hh11 := q11.trans hh9
    have c12 : Steps p.tables e below (s₁.setTop (entryFrame m #[.ref x, .ref y] 3)) (T11.setTop (mkF m 33 #[.val (.ref x), .val (.ref y), .val (.ref y)] [.int cd', .int cd])) := c10.trans (st11 _ (Steps.refl _))
    by_cases hcd : cd = cd'
    · subst hcd
      have c13 : Steps p.tables e below (s₁.setTop (entryFrame m #[.ref x, .ref y] 3)) (T11.setTop (mkF m 37 #[.val (.ref x), .val (.ref y), .val (.ref y)] [.ref x])) := c12.trans (by
        refine XS.icmpNo X11.here hexec rfl (hb hbytes d33) rfl (ii_ne_f rfl) ?_
        refine XS.aloadN X11.here hexec rfl (hb hbytes d36) rfl rfl ?_
        exact Steps.refl _)
      obtain ⟨T14, X14, q14, st14⟩ := X11.hget hexec hown (wk W (.fieldLink "java/lang/String" 9 "java/lang/String" "value" "[B")) (hx.mv X11.warmed.alike hh11).2.1 (g := (mkF m 37 #[.val (.ref x), .val (.ref y), .val (.ref y)] [.ref x])) rfl (rest := []) rfl (hb hbytes d37)
      have hh14 := q14.trans hh11
      have c15 : Steps p.tables e below (s₁.setTop (entryFrame m #[.ref x, .ref y] 3)) (T14.setTop (mkF m 41 #[.val (.ref x), .val (.ref y), .val (.ref y)] [.ref y, .ref t])) := (c13.trans (st14 _ (Steps.refl _))).trans (by
        refine XS.aloadN X14.here hexec rfl (hb hbytes d40) rfl rfl ?_
        exact Steps.refl _)
      obtain ⟨T16, X16, q16, st16⟩ := X14.hget hexec hown (wk W (.fieldLink "java/lang/String" 9 "java/lang/String" "value" "[B")) (hy.mv X14.warmed.alike hh14).2.1 (g := (mkF m 41 #[.val (.ref x), .val (.ref y), .val (.ref y)] [.ref y, .ref t])) rfl (rest := [.ref t]) rfl (hb hbytes d41)
      have hh16 := q16.trans hh14
      have c17 : Steps p.tables e below (s₁.setTop (entryFrame m #[.ref x, .ref y] 3)) (T16.setTop (mkF m 44 #[.val (.ref x), .val (.ref y), .val (.ref y)] [.ref t', .ref t])) := c15.trans (st16 _ (Steps.refl _))
      obtain ⟨v18, T18, X18, E18, g18⟩ := X16.callS hexec (LEq.law l t V t' V') hown (wks W (staticW "java/lang/String" 541 LEq.yN)) (wk W LEq.tab) (W := 0) (Nat.le_of_ble_eq_true rfl) (Nat.le_of_ble_eq_true rfl) (Nat.le_refl _) (Nat.le_refl _) (g := (mkF m 44 #[.val (.ref x), .val (.ref y), .val (.ref y)] [.ref t', .ref t])) rfl (by rw [hml]; rfl) c17 (argsL := [.ref t, .ref t']) (rest := []) rfl rfl (by show 2 * 0 + 0 ≤ _; decide) (hb hbytes d44) (⟨rfl, hx.2.2.2.1.mv X16.warmed.alike hh16, hx.2.2.2.2.1.ty, hy.2.2.2.1.mv X16.warmed.alike hh16, hy.2.2.2.2.1.ty⟩)
      obtain ⟨v, rfl, q18, hv⟩ := E18
      have iff := Cod.eqv hx.2.2.2.2.1 hy.2.2.2.2.1 hx.2.2.2.2.2 hy.2.2.2.2.2
      rcases hv with ⟨rfl, he⟩ | ⟨rfl, he⟩
      · have c19 : Steps p.tables e below (s₁.setTop (entryFrame m #[.ref x, .ref y] 3)) (T18.setTop (mkF m 55 #[.val (.ref x), .val (.ref y), .val (.ref y)] [.int 1])) := Steps.trans g18 (by
          refine XS.ifNo X18.here hexec rfl (hb hbytes d47) rfl (i0_eq_f (by decide)) ?_
          refine iconstV X18.here hexec rfl 1 (hb hbytes d50) (by decide) ?_
          refine XS.goto X18.here hexec rfl (pc0 := 51) rfl (hb hbytes d51) (by decide) rfl ?_
          exact Steps.refl _)
        exact ⟨T18, some (.int 1), _, _, _, X18, rfl, rfl, rfl, (fun h => by cases h), ⟨1, rfl, q18.trans hh16, Or.inl ⟨rfl, iff.mp he⟩⟩, fun fs hl => c19.trans (X18.ireturnOut hexec hret rfl (Or.inr (Or.inl rfl)) (hb hbytes d55) hl)⟩
      · have c19 : Steps p.tables e below (s₁.setTop (entryFrame m #[.ref x, .ref y] 3)) (T18.setTop (mkF m 55 #[.val (.ref x), .val (.ref y), .val (.ref y)] [.int 0])) := Steps.trans g18 (by
          refine XS.ifYes X18.here hexec rfl (pc0 := 47) rfl (hb hbytes d47) rfl (i0_eq_t rfl) (by decide) rfl ?_
          refine iconstV X18.here hexec rfl 0 (hb hbytes d54) (by decide) ?_
          exact Steps.refl _)
        exact ⟨T18, some (.int 0), _, _, _, X18, rfl, rfl, rfl, (fun h => by cases h), ⟨0, rfl, q18.trans hh16, Or.inr ⟨rfl, fun q => he (iff.mpr q)⟩⟩, fun fs hl => c19.trans (X18.ireturnOut hexec hret rfl (Or.inr (Or.inl rfl)) (hb hbytes d55) hl)⟩
    · have c13 : Steps p.tables e below (s₁.setTop (entryFrame m #[.ref x, .ref y] 3)) (T11.setTop (mkF m 55 #[.val (.ref x), .val (.ref y), .val (.ref y)] [.int 0])) := c12.trans (by
        refine XS.icmpYes X11.here hexec rfl (pc0 := 33) rfl (hb hbytes d33) rfl (ii_ne_t hcd) (by decide) rfl ?_
        refine iconstV X11.here hexec rfl 0 (hb hbytes d54) (by decide) ?_
        exact Steps.refl _)
      exact ⟨T11, some (.int 0), _, _, _, X11, rfl, rfl, rfl, (fun h => by cases h), ⟨0, rfl, hh11, Or.inr ⟨rfl, Cod.dif hx.2.2.2.2.1 hy.2.2.2.2.1 hcd⟩⟩, fun fs hl => c13.trans (X11.ireturnOut hexec hret rfl (Or.inr (Or.inl rfl)) (hb hbytes d55) hl)⟩
theorem pays {l : Launch} {R : Room} {p : Program} {e : Env} {below : List Frame} {s : State} {sargs : Array Value} {len W : Nat} (x t : Addr) (V : Cell) (cd : Int32) (n : Nat) (f : Nat → Int32) (y t' : Addr) (V' : Cell) (cd' : Int32) (k : Nat) (g : Nat → Int32) (z : Int32) (htab : tab.before sargs s = true) (hfr : 2 ≤ R.frames) (hlo : W + 28 ≤ R.locals) :
    Back l R p e below s sargs yN len W (fun A₁ a₁ => A₁.cells + 0 ≤ R.cells ∧ A₁.slots + 0 ≤ R.slots ∧ P x t V cd n f y t' V' cd' k g z a₁ A₁.U) (fun A₁ _ v₁ B₁ => Says01 (SameT n f k g) v₁ A₁.U B₁.U ∧ B₁.locs = A₁.locs ++ [] ∧ B₁.cells = A₁.cells + 0 ∧ B₁.slots = A₁.slots + 0) :=
  (law l x t V cd n f y t' V' cd' k g z).pays htab hfr (by omega)
end SEq
end StrChars
namespace StrChars.Road
open Jvm Sem ClassFile Op Lib Jvm.Stand Jvm.Free Jvm.Free.XT
open Jvm.Lib.Cold (StaticIs)
/-- the words of String.equals(Object) -/
abbrev wordsEq : List Jvm.Cond := [.code SEq.yN SEq.yB 3 (some .boolean), .initialized ST, .classLink ST 10 ST, .fieldLink ST 38 ST "COMPACT_STRINGS" "Z", .fieldLink ST 15 ST "coder" "B", .fieldLink ST 9 ST "value" "[B", .methodLink ST 541 LEq.yN, .static LEq.yN, .code LEq.yN LEq.yB 3 (some .boolean), .initialized "java/lang/StringLatin1"]
theorem tabEq_of {a : Array Value} {s : State} (h : ∀ w ∈ wordsEq, w.before a s = true) : SEq.tab.before a s = true := by
  have hl : LEq.tab.before a s = true := unparts (wk h (.code LEq.yN LEq.yB 3 (some .boolean))) (wks h (.initialized LEq.yN.cls :: LEq.site))
  have q := consq hl h
  exact unparts (wk q (.code SEq.yN SEq.yB 3 (some .boolean))) (wks q (.initialized SEq.yN.cls :: SEq.site))
theorem movedEq {Z s : State} {a0 args : Array Value} (hZ : Z.Warmed39 s.vm) (hw : ∀ d ∈ wordsEq, d.before a0 Z = true) : ∀ d ∈ wordsEq, d.before args s = true := fun d hd => by
  have t : ∀ d ∈ wordsEq, (d.onTables && d.keepsFace) = true := by decide +kernel
  exact RoadKit.mv hZ (hw d hd) (t d hd)
/-- the road's facts of a String, as the laws ask it -/
theorem txt_of {Z U : State} {a0 : Array Value} {kI : Nat} (wi : (Jvm.Cond.instantiable ST kI).before a0 Z = true) (al : Z.vm.Alike U.vm) {x t : Addr} {kb : ClassId} {cs : List Int32} {cd N2 : Int32} {vs : List Value} (E : RoadKit.Exa Z U.heap x ST) (V : RoadKit.Fld Z U.heap x ST "value" "[B" (.ref t)) (C : RoadKit.Fld Z U.heap x ST "coder" "B" (.int cd)) (K : RoadKit.Arv Z U.heap t kb .byte N2 vs (.int 0)) (hc : CodA cs cd N2 vs) (hb : ∀ c ∈ cs, ¬ c < 0 ∧ ¬ (65535 : Int32) < c) (l2 : cs.length ≤ 4000) :
    ∃ A, Txt x t A cd cs.length (fun j => cs.getD j 0) U := by
  obtain ⟨A, K1, K2, K3, K4, K5, K6⟩ := K
  have hcod := hc.cod (by omega) K3 K5
  obtain ⟨D, fV, fC, hB, F1, F2, g1, g2, -, -⟩ := strObj wi al E V C
  exact ⟨A, ⟨_, hB.2.2.1, D, hB.1, rfl, by cases q : D.vm <;> first | rfl | exact absurd q (hB.2.1.2 _)⟩, Has.of hB F1 g1, Has.of hB F2 g2, ⟨K1.1, State.isArrayOf_alike al K1.2.1, K1.2.2, by rcases hcod with ⟨-, q, -⟩ | ⟨-, q, -⟩ <;> omega⟩, hcod, fun j hj => by
    have e : cs.getD j 0 = cs[j] := by simp [List.getD_eq_getElem?_getD, hj]
    show ¬ cs.getD j 0 < 0 ∧ ¬ 65535 < cs.getD j 0
    rw [e]; exact hb _ (List.getElem_mem _)⟩
theorem same_list (cs ds : List Int32) : SameT cs.length (fun j => cs.getD j 0) ds.length (fun j => ds.getD j 0) ↔ cs = ds := by
  constructor
  · rintro ⟨e, q⟩
    refine List.ext_getElem e fun j h1 h2 => ?_
    have := q j h1
    simpa [List.getD_eq_getElem?_getD, h1, h2] using this
  · rintro rfl
    exact ⟨rfl, fun _ _ => rfl⟩
/-- **equals(Object) OF TWO SUCH STRINGS**: 1 just where the chars are the same -/
theorem eqW {p : Program} {l : Launch} {e : Env} {R : Room} {s : State} {args : Array Value} {below : List Frame} {len W : Nat} {Z : State} {a0 : Array Value} {h : Heap} (hZ : Z.Warmed39 s.vm) (hw : ∀ d ∈ wordsEq, d.before a0 Z = true) {kI : Nat} (wi : (Jvm.Cond.instantiable ST kI).before a0 Z = true)
    {x t : Addr} {kb : ClassId} {cs : List Int32} {cd N2 : Int32} {vs : List Value} (E : RoadKit.Exa Z h x ST) (V : RoadKit.Fld Z h x ST "value" "[B" (.ref t)) (C : RoadKit.Fld Z h x ST "coder" "B" (.int cd)) (K : RoadKit.Arv Z h t kb .byte N2 vs (.int 0)) (hc : CodA cs cd N2 vs) (hb : ∀ c ∈ cs, ¬ c < 0 ∧ ¬ (65535 : Int32) < c) (l2 : cs.length ≤ 4000)
    {y t' : Addr} {kb' : ClassId} {ds : List Int32} {cd' N2' : Int32} {vs' : List Value} (E' : RoadKit.Exa Z h y ST) (V' : RoadKit.Fld Z h y ST "value" "[B" (.ref t')) (C' : RoadKit.Fld Z h y ST "coder" "B" (.int cd')) (K' : RoadKit.Arv Z h t' kb' .byte N2' vs' (.int 0)) (hc' : CodA ds cd' N2' vs') (hb' : ∀ c ∈ ds, ¬ c < 0 ∧ ¬ (65535 : Int32) < c) (l2' : ds.length ≤ 4000)
    {z : Int32} (S : RoadKit.Sta Z h ST "COMPACT_STRINGS" "Z" (.int z)) (hz : ¬ z = 0) (hfr : 2 ≤ R.frames) (hlo : W + 28 ≤ R.locals) :
    Back l R p e below s args (⟨"java/lang/String", "equals", "(Ljava/lang/Object;)Z"⟩ : MethodName) len W (fun P a => a = #[.ref x, .ref y] ∧ P.U.heap = h ∧ P.cells + 0 ≤ R.cells ∧ P.slots + 0 ≤ R.slots)
      (fun P _ v B => ∃ L, (((v = some (.int 1) ∧ cs = ds) ∨ (v = some (.int 0) ∧ ¬ cs = ds)) ∧ L = [] ∧ B.U.heap = h) ∧ B.locs = P.locs ++ L ∧ B.cells = P.cells + 0 ∧ B.slots = P.slots + 0) := by
  intro m meth c P g ig mk a X hg hsize hdg hW hn hp'
  obtain ⟨rfl, rfl, r1, r2⟩ := hp'
  have al : Z.vm.Alike P.U.vm := hZ.alike.trans X.warmed.alike
  obtain ⟨A, hx⟩ := txt_of wi al E V C K hc hb l2
  obtain ⟨A', hy⟩ := txt_of wi al E' V' C' K' hc' hb' l2'
  obtain ⟨v, B, X', ⟨⟨w, hv, hh, hq⟩, hl, hk, hs⟩, st⟩ := SEq.pays x t A cd cs.length (fun j => cs.getD j 0) y t' A' cd' ds.length (fun j => ds.getD j 0) z (tabEq_of (movedEq hZ hw)) hfr hlo m meth c P g ig mk _ X hg hsize hdg hW hn ⟨r1, r2, rfl, hx, hy, sta_is al S, hz⟩
  refine ⟨v, B, X', ⟨[], ⟨?_, rfl, hh⟩, hl, hk, hs⟩, st⟩
  rcases hq with ⟨rfl, q⟩ | ⟨rfl, q⟩
  · exact Or.inl ⟨hv, (same_list cs ds).mp q⟩
  · exact Or.inr ⟨hv, fun e => q ((same_list cs ds).mpr e)⟩
end StrChars.Road
namespace StrChars.Road
open Jvm Sem ClassFile Op Lib Jvm.Stand Jvm.Free Jvm.Free.XT
open Jvm.Lib.Cold (StaticIs)
/-- what backV says of its String, as the contracts of this text ask it: cs's low bytes, coder 0 -/
theorem codOf {cs : List Int32} {n : Nat} (hn : cs.length = n) (hb : ∀ c ∈ cs, ¬ 255 < c) : CodA cs 0 (Int32.ofNat n) ((cs.map lo8).map Value.int) := Or.inl ⟨rfl, by rw [hn], by simp [List.map_map, Function.comp_def], hb⟩
end StrChars.Road
end Jvm.Pilot.@@N@@
namespace Jvm.Pilot.@@N@@
open Jvm Jvm.ClassFile Sem Op Lib Jvm.Free Jvm.Stand Jvm.LawKit Jvm.RoadKit Bundle Jvm.Pilot.@@N@@.Jvm.D
section OwnKit
variable {p : Program} {l : Launch} {e : Env} {R : Room} {s : State} {m : MethodId} {args : Array Value} {below : List Frame} {meth : Method} {c : Code} {T : State} {locs : List Loc} {cells slots : Nat}
theorem own_retI (X : Stand p l e R s m args below meth c T locs cells slots) (hx : p.tables.exec = Jvm.exec) {pc : Nat} {Ls : Array Slot} {z : Int32} {rest : List Value} (hret : meth.sig.returnType = some .int) (hd : decode c.code pc = .ok (.ireturn, 1)) {fs : List Frame}
    (hl : ∀ (f : JFrame) (acts : List Action), f.method = m → f.locked = none → f.entered = [] → (doReturn e (T.setTop f) acts (some (.int z))).1 = T.setFrames fs) : Steps p.tables e below (T.setTop (mkF m pc Ls (.int z :: rest))) (T.setFrames fs) :=
  retOut X hx hret rfl (Or.inl ⟨rfl, Or.inl rfl, z, rfl⟩) hd hl
theorem own_retL (X : Stand p l e R s m args below meth c T locs cells slots) (hx : p.tables.exec = Jvm.exec) {pc : Nat} {Ls : Array Slot} {z : Int64} {rest : List Value} (hret : meth.sig.returnType = some .long) (hd : decode c.code pc = .ok (.lreturn, 1)) {fs : List Frame}
    (hl : ∀ (f : JFrame) (acts : List Action), f.method = m → f.locked = none → f.entered = [] → (doReturn e (T.setTop f) acts (some (.long z))).1 = T.setFrames fs) : Steps p.tables e below (T.setTop (mkF m pc Ls (.long z :: rest))) (T.setFrames fs) :=
  retOut X hx hret rfl (Or.inr (Or.inl ⟨rfl, rfl, z, rfl⟩)) hd hl
theorem own_retD (X : Stand p l e R s m args below meth c T locs cells slots) (hx : p.tables.exec = Jvm.exec) {pc : Nat} {Ls : Array Slot} {z : UInt64} {rest : List Value} (hret : meth.sig.returnType = some .double) (hd : decode c.code pc = .ok (.dreturn, 1)) {fs : List Frame}
    (hl : ∀ (f : JFrame) (acts : List Action), f.method = m → f.locked = none → f.entered = [] → (doReturn e (T.setTop f) acts (some (.double z))).1 = T.setFrames fs) : Steps p.tables e below (T.setTop (mkF m pc Ls (.double z :: rest))) (T.setFrames fs) :=
  retOut X hx hret rfl (Or.inr (Or.inr (Or.inl ⟨rfl, rfl, z, rfl⟩))) hd hl
theorem own_retA (X : Stand p l e R s m args below meth c T locs cells slots) (hx : p.tables.exec = Jvm.exec) {pc : Nat} {Ls : Array Slot} {t : FieldType} {v : Value} {rest : List Value} (hret : meth.sig.returnType = some t) (ht : t.isReference = true) (hv : v.isRef = true) (hn : narrow t v = v) (hd : decode c.code pc = .ok (.areturn, 1)) {fs : List Frame}
    (hl : ∀ (f : JFrame) (acts : List Action), f.method = m → f.locked = none → f.entered = [] → (doReturn e (T.setTop f) acts (some v)).1 = T.setFrames fs) : Steps p.tables e below (T.setTop (mkF m pc Ls (v :: rest))) (T.setFrames fs) :=
  retOut X hx hret hn (Or.inr (Or.inr (Or.inr (Or.inr ⟨rfl, ht, hv⟩)))) hd hl
theorem own_ns_exa {Z : State} {h : Heap} {a : Addr} {C : String} (F : Exa Z h a C) : ∃ c : Cell, h[a]? = some c ∧ c.vm.isStatics = false := by
  obtain ⟨c, _, h1, -, -, h4, -⟩ := F; exact ⟨c, h1, h4⟩
theorem own_ns_arv {Z : State} {h : Heap} {a : Addr} {k : ClassId} {ty : FieldType} {z : Int32} {vs : List Value} {dv : Value} (F : Arv Z h a k ty z vs dv) : ∃ c : Cell, h[a]? = some c ∧ c.vm.isStatics = false := by
  obtain ⟨c, A, -⟩ := F; exact ⟨c, A.1, A.plain⟩
theorem own_sta_keep {Z : State} {h h' : Heap} {C n d : String} {v : Value} {ws : List Addr} (F : Sta Z h C n d v) (K : Keep h h' ws) (q : ∀ x ∈ ws, ∃ c : Cell, h[x]? = some c ∧ c.vm.isStatics = false) : Sta Z h' C n d v := by
  obtain ⟨cf, i, k, f, st, cell, h1, h2, h3, h4, h5, h6, h7⟩ := F
  refine ⟨cf, i, k, f, st, cell, h1, h2, h3, h4, K.2.1 st cell h5 (fun m => ?_), h6, h7⟩
  obtain ⟨c, e1, e2⟩ := q st m; cases h5.symm.trans e1; rw [e2] at h6; cases h6
/-- from A the run ends, and then P -/
def OwnGo (tb : Tables) (e : Env) (below : List Frame) (P : Outcome → State → Prop) (A : State) : Prop := ∃ s₂ o, Steps tb e below A s₂ ∧ s₂.status = .running ∧ Ended s₂ below o ∧ P o s₂
theorem OwnGo.of {tb : Tables} {P : Outcome → State → Prop} {A B : State} (k : ∀ t, Steps tb e below B t → Steps tb e below A t) (g : OwnGo tb e below P B) : OwnGo tb e below P A := by
  obtain ⟨s2, o, h1, h2⟩ := g; exact ⟨s2, o, k _ h1, h2⟩
abbrev OwnPre (R : Room) (as' : Array Value) (h : Heap) (rc rs : Nat) : Pt → Array Value → Prop := fun A a => a = as' ∧ A.U.heap = h ∧ A.cells + rc ≤ R.cells ∧ A.slots + rs ≤ R.slots
abbrev OwnPost (Q : Option Value → Heap → List Loc → Prop) (rc rs : Nat) : Pt → Array Value → Option Value → Pt → Prop := fun A _ v B => ∃ L, Q v B.U.heap L ∧ B.locs = A.locs ++ L ∧ B.cells = A.cells + rc ∧ B.slots = A.slots + rs
theorem own_callS (X : Stand p l e R s m args below meth c T locs cells slots) (hexec : p.tables.exec = Jvm.exec) {own : String} {index : Nat} {y : MethodName} {bytes : ByteArray} {maxL : Nat} {ret : Option FieldType}
    (hown : s.vm.findClass own = some m.cls) (hlink : (Jvm.Cond.methodLink own index y).before args s = true) (hstat : (Jvm.Cond.static y).before args s = true) (hinit : (Jvm.Cond.initialized y.cls).before args s = true)
    (hcode : (Jvm.Cond.code y bytes maxL ret).before args s = true) (hy : y.cls ≠ "java/lang/invoke/MethodHandle" ∧ y.cls ≠ "java/lang/invoke/VarHandle")
    {W : Nat} {as' : Array Value} {h : Heap} {Q : Option Value → Heap → List Loc → Prop} {rc rs : Nat} (hK : Back l R p e below s args y 3 W (OwnPre R as' h rc rs) (OwnPost Q rc rs))
    {g : JFrame} (hg : g.method = m) (hsize : g.locals.size = c.maxLocals) {argsL rest : List Value} (hlen : ∀ sig, parseMethodDescriptor y.desc = some sig → argsL.length = sig.parameters.length)
    (hstack : g.stack = argsL.reverse ++ rest) (hW : 2 * g.monitorRoom + (rest.map fun v => v.category).sum ≤ W) (hdg : decode c.code g.pc = .ok (.invokestatic index, 3))
    (ha : argsL.toArray = as') (eT : T.heap = h) (hc : cells + rc ≤ R.cells) (hs : slots + rs ≤ R.slots) :
    ∃ (T' : State) (L : List Loc) (v : Option Value), Stand p l e R s m args below meth c T' (locs ++ L) (cells + rc) (slots + rs) ∧ Q v T'.heap L ∧ ∀ target, Steps p.tables e below (T'.setTop { g with pc := g.pc + 3, stack := v.toList ++ rest }) target → Steps p.tables e below (T.setTop g) target := by
  obtain ⟨v, _, ⟨T1, L1, k1, n1⟩, -, X1, ⟨Lc, hQ, l1, y1, z1⟩, st⟩ := Jvm.LawKit.callS X hexec hown hlink hstat hinit hcode hy hK hg hsize hlen hstack hW hdg (fun _ _ => ⟨ha, eT, hc, hs⟩)
  dsimp only [Pt.U, Pt.locs, Pt.cells, Pt.slots] at X1 l1 y1 z1 st hQ
  subst l1 y1 z1
  exact ⟨T1, Lc, v, X1, hQ, st⟩
theorem own_callI (X : Stand p l e R s m args below meth c T locs cells slots) (hexec : p.tables.exec = Jvm.exec) {own : String} {index : Nat} {y : MethodName} (hy1 : y.name = "<init>")
    (hown : s.vm.findClass own = some m.cls) (hlink : (Jvm.Cond.methodLink own index y).before args s = true) (hinst : (Jvm.Cond.instanceMethod y).before args s = true)
    {bytes : ByteArray} {maxL : Nat} (hcode : (Jvm.Cond.code y bytes maxL none).before args s = true) (hy : y.cls ≠ "java/lang/invoke/MethodHandle" ∧ y.cls ≠ "java/lang/invoke/VarHandle")
    {W : Nat} {as' : Array Value} {h : Heap} {Q : Option Value → Heap → List Loc → Prop} {rc rs : Nat} (hK : Back l R p e below s args y 3 W (OwnPre R as' h rc rs) (OwnPost Q rc rs))
    {g : JFrame} (hg : g.method = m) (hsize : g.locals.size = c.maxLocals) {a : Addr} {argsL rest : List Value}
    (hlen : ∀ sig, parseMethodDescriptor y.desc = some sig → argsL.length = sig.parameters.length) (hstack : g.stack = argsL.reverse ++ .ref a :: rest) (hW : 2 * g.monitorRoom + (rest.map fun v => v.category).sum ≤ W)
    (hdg : decode c.code g.pc = .ok (.invokespecial index, 3)) (ha : (Value.ref a :: argsL).toArray = as') (eT : T.heap = h) (hc : cells + rc ≤ R.cells) (hs : slots + rs ≤ R.slots) :
    ∃ (T' : State) (L : List Loc) (v : Option Value), Stand p l e R s m args below meth c T' (locs ++ L) (cells + rc) (slots + rs) ∧ Q v T'.heap L ∧ ∀ target, Steps p.tables e below (T'.setTop { g with pc := g.pc + 3, stack := v.toList ++ rest }) target → Steps p.tables e below (T.setTop g) target := by
  obtain ⟨v, _, ⟨T1, L1, k1, n1⟩, -, X1, ⟨Lc, hQ, l1, y1, z1⟩, st⟩ := X.specialBack hexec hy1 hown hlink hinst hcode hy hK hg hsize (Steps.refl _) hlen hstack hW hdg (fun _ _ => ⟨ha, eT, hc, hs⟩)
  dsimp only [Pt.U, Pt.locs, Pt.cells, Pt.slots] at X1 l1 y1 z1 st hQ
  subst l1 y1 z1
  exact ⟨T1, Lc, v, X1, hQ, fun t k => st.trans k⟩
theorem own_callV (X : Stand p l e R s m args below meth c T locs cells slots) (hexec : p.tables.exec = Jvm.exec) {own C : String} {index : Nat} {y z : MethodName}
    (hown : s.vm.findClass own = some m.cls) (hlink : (Jvm.Cond.methodLink own index y).before args s = true) (hdecl : (Jvm.Cond.declares y).before args s = true) (hnf : NotFace s y)
    (hsel : (Jvm.Cond.selects C y z).before args s = true) (hinst : (Jvm.Cond.instanceMethod z).before args s = true) (hy : y.cls ≠ "java/lang/invoke/MethodHandle" ∧ y.cls ≠ "java/lang/invoke/VarHandle")
    {W : Nat} {as' : Array Value} {h : Heap} {Q : Option Value → Heap → List Loc → Prop} {rc rs : Nat} (hK : Back l R p e below s args z 3 W (OwnPre R as' h rc rs) (OwnPost Q rc rs))
    {b : Addr} {cB : ClassId} (hcB : s.vm.findClass C = some cB) (hrecv : IsOf cB T b)
    {g : JFrame} (hg : g.method = m) (hsize : g.locals.size = c.maxLocals) {argsL rest : List Value}
    (hlen : ∀ sig, parseMethodDescriptor y.desc = some sig → argsL.length = sig.parameters.length) (hstack : g.stack = argsL.reverse ++ .ref b :: rest) (hW : 2 * g.monitorRoom + (rest.map fun v => v.category).sum ≤ W)
    (hdg : decode c.code g.pc = .ok (.invokevirtual index, 3)) (ha : (Value.ref b :: argsL).toArray = as') (eT : T.heap = h) (hc : cells + rc ≤ R.cells) (hs : slots + rs ≤ R.slots) :
    ∃ (T' : State) (L : List Loc) (v : Option Value), Stand p l e R s m args below meth c T' (locs ++ L) (cells + rc) (slots + rs) ∧ Q v T'.heap L ∧ ∀ target, Steps p.tables e below (T'.setTop { g with pc := g.pc + 3, stack := v.toList ++ rest }) target → Steps p.tables e below (T.setTop g) target := by
  obtain ⟨v, _, ⟨T1, L1, k1, n1⟩, -, X1, ⟨Lc, hQ, l1, y1, z1⟩, st⟩ := X.virtualBack hexec hown hlink hdecl hnf hsel hinst hy hK hcB hrecv hg hsize (Steps.refl _) hlen hstack hW hdg (fun _ _ => ⟨ha, eT, hc, hs⟩)
  dsimp only [Pt.U, Pt.locs, Pt.cells, Pt.slots] at X1 l1 y1 z1 st hQ
  subst l1 y1 z1
  exact ⟨T1, Lc, v, X1, hQ, fun t k => st.trans k⟩
end OwnKit
section OwnWide
variable {p : Program} {l : Launch} {e : Env} {R : Room} {s b : State} {m : MethodId} {args : Array Value} {below : List Frame} {meth : Method} {c : Code} {T : State} {locs : List Loc} {cells slots : Nat} {Z : State} {a0 : Array Value} {EL : List (String × Nat)} {h h' : Heap}
/-- b: the base of a walk from s that may have interned -/
def OwnB (s b : State) (h : Heap) : Prop := ∃ (vm0 : Vm) (k0 : Nat), b = s.setVm vm0 ∧ s.Since vm0 k0 ∧ k0 ≤ h.size
theorem OwnB.start (s : State) (h : Heap) : OwnB s s h := ⟨s.vm, 0, rfl, (State.WarmedH.refl s).since 0, Nat.zero_le _⟩
theorem OwnB.grow (B : OwnB s b h) (g : h.size ≤ h'.size) : OwnB s b h' := by obtain ⟨v, k, e, S, q⟩ := B; exact ⟨v, k, e, S, Nat.le_trans q g⟩
theorem OwnB.ext (B : OwnB s b h) (E : Ext h h') : OwnB s b h' := B.grow E.1
theorem OwnB.wr {a : Addr} {sl : Nat} {v : Value} (B : OwnB s b h) (W : Wr h h' a sl v) : OwnB s b h' := B.grow (Keep.of_wr W).1
theorem OwnB.keep {ws : List Addr} (B : OwnB s b h) (K : Keep h h' ws) : OwnB s b h' := B.grow K.1
theorem own_ldc (X : Stand p l e R b m args below meth c T locs cells slots) (hx : p.tables.exec = Jvm.exec) (hZ : Z.Warmed39 b.vm) {own text : String} {index : Nat} (hown : b.vm.findClass own = some m.cls) (w : (Jvm.Cond.stringLink own index text).before a0 Z = true) (wS : ∀ a ∈ Bundle.stringAtoms, a.before a0 Z = true)
    (eT : T.heap = h) (B : OwnB s b h) (hEL : EW Z a0 EL) (hmem : (own, index) ∈ EL) (H : CHv Z EL b.vm h)
    {vs : List Value} {z : Int32} (ht : (∀ c ∈ text.toList, c.toNat < 256) ∧ text.toList.map (fun c => Value.int (Jvm.Lit.byteI c.toNat.toUInt16)) = vs) (hz : ¬ z < 0) (hl : z.toNatClampNeg = vs.length)
    {g : JFrame} (hg : g.method = m) (hd : decode c.code g.pc = .ok (.ldc index, 2)) {n : Nat} (hn : 4 * text.toList.length ≤ n) (hbig : n ≤ 536870912) (hc : cells + 2 ≤ R.cells) (hl' : slots + (n + 4) ≤ R.slots) :
    ∃ (b' : State) (a : Addr) (T' : State) (h' : Heap) (t : Addr) (k : ClassId), Stand p l e R b' m args below meth c T' locs (cells + 2) (slots + (n + 4)) ∧ T'.heap = h' ∧ Ext h h' ∧ OwnB s b' h' ∧ Z.Warmed39 b'.vm ∧ b'.vm.findClass own = some m.cls ∧
      Exa Z h' a "java/lang/String" ∧ Fld Z h' a "java/lang/String" "coder" "B" (.int 0) ∧ Fld Z h' a "java/lang/String" "value" "[B" (.ref t) ∧ Arv Z h' t k .byte z vs (.int 0) ∧ CHr Z EL b.vm h b'.vm h' ∧ (∀ x, Safe Z EL b'.vm h' x → x ≠ a ∧ x ≠ t) ∧
      ∀ target, Steps p.tables e below (T'.setTop { g with pc := g.pc + 2, stack := .ref a :: g.stack }) target → Steps p.tables e below (T.setTop g) target := by
  obtain ⟨vm0, k0, rfl, hS, hk⟩ := B
  obtain ⟨a, T', h', k1, t, k, X', e', E', S', q', Z', o', A1, A2, A3, A4, -, -, C', -, ne', st⟩ := ldcCH X hx hZ hown w wS eT hS hk hEL hmem H ht hz hl hg hd hn hbig hc hl'
  exact ⟨s.setVm T'.vm, a, T', h', t, k, X', e', E', ⟨T'.vm, k1, rfl, S', q'⟩, Z', o', A1, A2, A3, A4, C', ne', st⟩
abbrev OwnPostW (Z : State) (EL : List (String × Nat)) (vm : Vm) (h : Heap) (Q : Option Value → Heap → List Loc → Prop) (rc rs : Nat) : Pt → Array Value → Option Value → Pt → Prop := fun A _ v B => ∃ L, Q v B.U.heap L ∧ B.locs = A.locs ++ L ∧ B.cells = A.cells + rc ∧ B.slots = A.slots + rs ∧ CHr Z EL vm h B.U.vm B.U.heap
theorem own_at (X : Stand p l e R b m args below meth c T locs cells slots) (hZ : Z.Warmed39 b.vm) (w : EW Z a0 EL) (H : CHv Z EL b.vm h) : CHr Z EL b.vm h T.vm h := CHv.at (s := b) (vm0 := b.vm) X hZ w H
/-- the contract of a callee that may intern, at a call -/
theorem own_backW {y : MethodName} {bytes : ByteArray} {maxL : Nat} {ret : Option FieldType} {rm : Room} {len W : Nat} {as' : Array Value} {Q : Option Value → Heap → List Loc → Prop} {ws : List Addr}
    (hM : MetFree l y (head1 [Jvm.Cond.code y bytes maxL ret] rm) (fun a U => a = as' ∧ Z.Warmed39 U.vm ∧ U.heap = h ∧ CHv Z EL U.vm h ∧ ∀ x ∈ ws, Safe Z EL U.vm h x) (fun _ _ _ _ _ => True) (fun _ U o U' => ∃ v L, o = .returned v ∧ Q v U'.heap L ∧ CHr Z EL U.vm U.heap U'.vm U'.heap ∧ ReturnedEndW U o U' L rm.cells rm.slots))
    (hZ : Z.Warmed39 b.vm) (wc : (Jvm.Cond.code y bytes maxL ret).before a0 Z = true) (wz : (Jvm.Cond.initialized y.cls).before a0 Z = true) (hf : rm.frames + 1 ≤ R.frames) (hl : W + (maxL + 11) + rm.locals ≤ R.locals) (hEL : EW Z a0 EL) (H : CHv Z EL b.vm h) (hs : ∀ x ∈ ws, x < h.size ∧ Safe Z EL b.vm h x) :
    BackS l R p e below b args y len W (OwnPre R as' h rm.cells rm.slots) (OwnPostW Z EL b.vm h Q rm.cells rm.slots) := by
  refine BackS.of_freeW (bytes := bytes) (maxL := maxL) (ret := ret) (E := fun _ first o t L k n => (∃ v, o = .returned v ∧ Q v t.heap L) ∧ CHr Z EL first.vm first.heap t.vm t.heap ∧ k = rm.cells ∧ n = rm.slots) hM hf hl ?_ ?_ (fun _ _ _ _ _ _ _ _ _ => trivial) ?_ ?_
  · intro m meth c A a Y hp
    have hU : Z.Warmed39 A.U.vm := wtrans (s := b) hZ Y.warmed
    refine ⟨?_, mv hU wc, mv hU wz, hp.2.2.1, hp.2.2.2⟩
    show (Jvm.Cond.and _ .tt).before a A.U = true
    rw [Cond.before_and, mv hU wc]; rfl
  · intro m meth c A a g mk Y hp
    have q := own_at Y hZ hEL H
    exact ⟨hp.1, wtrans (s := b) hZ Y.warmed, hp.2.1, q.1, fun x hx => q.safe (hs x hx).1 (hs x hx).2⟩
  · rintro _ _ _ _ ⟨v, L, h1, h2, h3, h4⟩
    exact ⟨L, _, _, h4, ⟨v, h1, h2⟩, h3, rfl, rfl⟩
  · rintro m meth c A a g mk v t L k n Y hp - - ⟨⟨v', e3, e4⟩, e5, rfl, rfl⟩
    cases e3
    refine ⟨L, e4, rfl, rfl, rfl, (own_at Y hZ hEL H).trans ?_⟩
    have e6 : CHr Z EL A.U.vm A.U.heap t.vm t.heap := e5
    rw [hp.2.1] at e6; exact e6
theorem own_callSW (X : Stand p l e R b m args below meth c T locs cells slots) (hexec : p.tables.exec = Jvm.exec) {own : String} {index : Nat} {y : MethodName} {bytes : ByteArray} {maxL : Nat} {ret : Option FieldType}
    (hown : b.vm.findClass own = some m.cls) (hlink : (Jvm.Cond.methodLink own index y).before args b = true) (hstat : (Jvm.Cond.static y).before args b = true) (hinit : (Jvm.Cond.initialized y.cls).before args b = true)
    (hcode : (Jvm.Cond.code y bytes maxL ret).before args b = true) (hy : y.cls ≠ "java/lang/invoke/MethodHandle" ∧ y.cls ≠ "java/lang/invoke/VarHandle") (hZ : Z.Warmed39 b.vm) (B : OwnB s b h)
    {W : Nat} {as' : Array Value} {Q : Option Value → Heap → List Loc → Prop} {rc rs : Nat} (hK : BackS l R p e below b args y 3 W (OwnPre R as' h rc rs) (OwnPostW Z EL b.vm h Q rc rs))
    {g : JFrame} (hg : g.method = m) (hsize : g.locals.size = c.maxLocals) {argsL rest : List Value} (hlen : ∀ sig, parseMethodDescriptor y.desc = some sig → argsL.length = sig.parameters.length)
    (hstack : g.stack = argsL.reverse ++ rest) (hW : 2 * g.monitorRoom + (rest.map fun v => v.category).sum ≤ W) (hdg : decode c.code g.pc = .ok (.invokestatic index, 3))
    (ha : argsL.toArray = as') (eT : T.heap = h) (hc : cells + rc ≤ R.cells) (hs : slots + rs ≤ R.slots) :
    ∃ (b' T' : State) (L : List Loc) (v : Option Value), Stand p l e R b' m args below meth c T' (locs ++ L) (cells + rc) (slots + rs) ∧ Q v T'.heap L ∧ OwnB s b' T'.heap ∧ Z.Warmed39 b'.vm ∧ b'.vm.findClass own = some m.cls ∧ CHr Z EL b.vm h b'.vm T'.heap ∧
      ∀ target, Steps p.tables e below (T'.setTop { g with pc := g.pc + 3, stack := v.toList ++ rest }) target → Steps p.tables e below (T.setTop g) target := by
  obtain ⟨v, _, ⟨T1, L1, k1, n1⟩, -, X1, S1, g1, ⟨Lc, hQ, l1, y1, z1, C1⟩, st⟩ := callSS X hexec hown hlink hstat hinit hcode hy hK hg hsize hlen hstack hW hdg (fun _ _ => ⟨ha, eT, hc, hs⟩)
  dsimp only [Pt.U, Pt.locs, Pt.cells, Pt.slots] at X1 l1 y1 z1 st hQ C1 S1 g1
  subst l1 y1 z1
  obtain ⟨vm0, k0, rfl, hS, hk⟩ := B
  exact ⟨(s.setVm vm0).setVm T1.vm, T1, Lc, v, X1, hQ, ⟨T1.vm, T1.heap.size, rfl, hS.trans S1 (Nat.le_trans hk (eT ▸ g1)), Nat.le_refl _⟩, State.Warmed39.trans (t := s.setVm vm0) hZ S1.1, by show T1.vm.findClass own = _; rw [S1.1.alike.findClass]; exact hown, C1, fun t k => st.trans k⟩
theorem own_callIW (X : Stand p l e R b m args below meth c T locs cells slots) (hexec : p.tables.exec = Jvm.exec) {own : String} {index : Nat} {y : MethodName} (hy1 : y.name = "<init>")
    (hown : b.vm.findClass own = some m.cls) (hlink : (Jvm.Cond.methodLink own index y).before args b = true) (hinst : (Jvm.Cond.instanceMethod y).before args b = true)
    {bytes : ByteArray} {maxL : Nat} (hcode : (Jvm.Cond.code y bytes maxL none).before args b = true) (hy : y.cls ≠ "java/lang/invoke/MethodHandle" ∧ y.cls ≠ "java/lang/invoke/VarHandle") (hZ : Z.Warmed39 b.vm) (B : OwnB s b h)
    {W : Nat} {as' : Array Value} {Q : Option Value → Heap → List Loc → Prop} {rc rs : Nat} (hK : BackS l R p e below b args y 3 W (OwnPre R as' h rc rs) (OwnPostW Z EL b.vm h Q rc rs))
    {g : JFrame} (hg : g.method = m) (hsize : g.locals.size = c.maxLocals) {a : Addr} {argsL rest : List Value}
    (hlen : ∀ sig, parseMethodDescriptor y.desc = some sig → argsL.length = sig.parameters.length) (hstack : g.stack = argsL.reverse ++ .ref a :: rest) (hW : 2 * g.monitorRoom + (rest.map fun v => v.category).sum ≤ W)
    (hdg : decode c.code g.pc = .ok (.invokespecial index, 3)) (ha : (Value.ref a :: argsL).toArray = as') (eT : T.heap = h) (hc : cells + rc ≤ R.cells) (hs : slots + rs ≤ R.slots) :
    ∃ (b' T' : State) (L : List Loc) (v : Option Value), Stand p l e R b' m args below meth c T' (locs ++ L) (cells + rc) (slots + rs) ∧ Q v T'.heap L ∧ OwnB s b' T'.heap ∧ Z.Warmed39 b'.vm ∧ b'.vm.findClass own = some m.cls ∧ CHr Z EL b.vm h b'.vm T'.heap ∧
      ∀ target, Steps p.tables e below (T'.setTop { g with pc := g.pc + 3, stack := v.toList ++ rest }) target → Steps p.tables e below (T.setTop g) target := by
  obtain ⟨v, _, ⟨T1, L1, k1, n1⟩, -, X1, S1, g1, ⟨Lc, hQ, l1, y1, z1, C1⟩, st⟩ := X.specialBackS hexec hy1 hown hlink hinst hcode hy hK hg hsize (Steps.refl _) hlen hstack hW hdg (fun _ _ => ⟨ha, eT, hc, hs⟩)
  dsimp only [Pt.U, Pt.locs, Pt.cells, Pt.slots] at X1 l1 y1 z1 st hQ C1 S1 g1
  subst l1 y1 z1
  obtain ⟨vm0, k0, rfl, hS, hk⟩ := B
  exact ⟨(s.setVm vm0).setVm T1.vm, T1, Lc, v, X1, hQ, ⟨T1.vm, T1.heap.size, rfl, hS.trans S1 (Nat.le_trans hk (eT ▸ g1)), Nat.le_refl _⟩, State.Warmed39.trans (t := s.setVm vm0) hZ S1.1, by show T1.vm.findClass own = _; rw [S1.1.alike.findClass]; exact hown, C1, fun t k => st.trans k⟩
theorem own_leaveW (X : Stand p l e R b m args below meth c T locs cells slots) (B : OwnB s b h) (eT : T.heap = h) {v : Option Value} (hv : meth.sig.returnType = none → v = none) (hlk : meth.locks = false) :
    ∃ fs, (∀ (f : JFrame) (acts : List Action), f.method = m → f.locked = none → f.entered = [] → (doReturn e (T.setTop f) acts v).1 = T.setFrames fs) ∧
      (T.setFrames fs).status = .running ∧ Ended (T.setFrames fs) below (.returned v) ∧ ReturnedEndW s (.returned v) (T.setFrames fs) locs cells slots := by
  obtain ⟨vm0, k0, rfl, hS, hk⟩ := B
  exact X.leaveW hS (by rw [eT]; exact hk) hv hlk
theorem own_endW (X : Stand p l e R b m args below meth c T locs cells slots) (hZ : Z.Warmed39 b.vm) (w : EW Z a0 EL) (eT : T.heap = h) {h0 : Heap} (e0 : s.heap = h0) (C : CHr Z EL s.vm h0 b.vm h) (fs : List Frame) : CHr Z EL s.vm s.heap (T.setFrames fs).vm (T.setFrames fs).heap := by
  show CHr Z EL s.vm s.heap T.vm T.heap
  rw [e0, eT]; exact C.trans (own_at X hZ w C.1)
theorem own_monoW {o : Outcome} {t : State} {L : List Loc} {k n k' n' : Nat} (h : ReturnedEndW s o t L k n) (hk : k ≤ k') (hn : n ≤ n') : ReturnedEndW s o t L k' n' := ⟨h.1, h.2.1, h.2.2.1, h.2.2.2.mono hk hn⟩
end OwnWide


section OwnStrings
theorem own_EW {Z : State} {aw : Array Value} (hw : ∀ d ∈ tables_1, d.before aw Z = true) : EW Z aw consts_1 := (EW.cons (own := "java/lang/String") (index := 7) (hw _ (List.mem_of_getElem? (i := 18) rfl)) (by decide +kernel) (EW.cons (own := "org/postline/VocabularyWritingPinLaw") (index := 27) (hw _ (List.mem_of_getElem? (i := 64) rfl)) (by decide +kernel) (EW.cons (own := "org/postline/VocabularyWritingPinLaw") (index := 37) (hw _ (List.mem_of_getElem? (i := 66) rfl)) (by decide +kernel) (EW.cons (own := "org/postline/VocabularyWritingPinLaw") (index := 42) (hw _ (List.mem_of_getElem? (i := 67) rfl)) (by decide +kernel) EW.nil))))
theorem own_wS {Z : State} {aw : Array Value} (hw : ∀ d ∈ tables_1, d.before aw Z = true) : ∀ a ∈ Bundle.stringAtoms, a.before aw Z = true := fun a ha => hw a ((by decide +kernel : ∀ a ∈ Bundle.stringAtoms, a ∈ tables_1) a ha)
theorem own_ws {Z : State} {aw : Array Value} (hw : ∀ d ∈ tables_1, d.before aw Z = true) : ∀ a ∈ StrChars.Road.words, a.before aw Z = true := fun a ha => hw a ((by decide +kernel : ∀ a ∈ StrChars.Road.words, a ∈ tables_1) a ha)
theorem own_wE {Z : State} {aw : Array Value} (hw : ∀ d ∈ tables_1, d.before aw Z = true) : ∀ a ∈ StrChars.Road.wordsEq, a.before aw Z = true := fun a ha => hw a ((by decide +kernel : ∀ a ∈ StrChars.Road.wordsEq, a ∈ tables_1) a ha)
/-- x is a String of the chars cs -/
def OwnStr (Z : State) (h : Heap) (x : Addr) (cs : List Int32) : Prop := ∃ (t : Addr) (kb : ClassId) (cd N : Int32) (vs : List Value), Exa Z h x "java/lang/String" ∧ Fld Z h x "java/lang/String" "value" "[B" (.ref t) ∧ Fld Z h x "java/lang/String" "coder" "B" (.int cd) ∧ Arv Z h t kb .byte N vs (.int 0) ∧ StrChars.Road.CodA cs cd N vs ∧ (∀ c ∈ cs, ¬ c < 0 ∧ ¬ (65535 : Int32) < c) ∧ cs.length ≤ 4000
theorem own_case {v : Option Value} {cs ds : List Int32} (h : (v = some (.int 1) ∧ cs = ds) ∨ (v = some (.int 0) ∧ ¬ cs = ds)) : v = some (.int (if cs = ds then (1 : Int32) else (0 : Int32))) := by
  rcases h with ⟨rfl, h⟩ | ⟨rfl, h⟩
  · rw [if_pos h]
  · rw [if_neg h]
theorem own_c0 {P : Prop} [Decidable P] (h : (if P then (1 : Int32) else (0 : Int32)) = (0 : Int32)) : ¬ P := fun q => by rw [if_pos q] at h; exact absurd h (by decide)
theorem own_c1 {P : Prop} [Decidable P] (h : ¬ (if P then (1 : Int32) else (0 : Int32)) = (0 : Int32)) : P := by
  by_cases q : P
  · exact q
  · rw [if_neg q] at h; exact absurd rfl h
theorem own_up {cs : List Int32} (hp : ∀ c ∈ cs, ¬ c < 0 ∧ ¬ (255 : Int32) < c) : ∀ c ∈ cs, ¬ c < 0 ∧ ¬ (65535 : Int32) < c := fun c hc => by
  refine ⟨(hp c hc).1, fun q => (hp c hc).2 ?_⟩
  rw [Int32.lt_iff_toInt_lt] at q ⊢
  rw [show (65535 : Int32).toInt = 65535 from by decide] at q
  rw [show (255 : Int32).toInt = 255 from by decide]
  omega
theorem own_litcod {cs : List Int32} {N : Int32} {vs : List Value} (h1 : N = Int32.ofNat cs.length) (h2 : vs = cs.map fun c => Value.int (StrChars.lo8 c)) (h3 : ∀ c ∈ cs, ¬ 255 < c) : StrChars.Road.CodA cs 0 N vs := Or.inl ⟨rfl, h1, h2, h3⟩
end OwnStrings

theorem own_lit_0 : ((∀ c ∈ "".toList, c.toNat < 256) ∧ "".toList.map (fun c => Value.int (Jvm.Lit.byteI c.toNat.toUInt16)) = []) ∧ 4 * "".toList.length ≤ 0 := by refine ⟨⟨by decide +kernel, by rfl⟩, by decide +kernel⟩
theorem pn_1 : plainName "java/lang/String" = true := by first | (simp [plainName, overriddenIn]; done) | decide +kernel
theorem d3_0 : decode jdk_42_method_149_code 0 = .ok (.aload_n 0, 1) := by decide +kernel
theorem d3_1 : decode jdk_42_method_149_code 1 = .ok (.invokespecial 1, 3) := by decide +kernel
theorem d3_4 : decode jdk_42_method_149_code 4 = .ok (.iload_n 3, 1) := by decide +kernel
theorem d3_5 : decode jdk_42_method_149_code 5 = .ok (.ifCond .ne 22, 3) := by decide +kernel
theorem d3_8 : decode jdk_42_method_149_code 8 = .ok (.aload_n 0, 1) := by decide +kernel
theorem d3_9 : decode jdk_42_method_149_code 9 = .ok (.ldc 7, 2) := by decide +kernel
theorem d3_11 : decode jdk_42_method_149_code 11 = .ok (.getfield 9, 3) := by decide +kernel
theorem d3_14 : decode jdk_42_method_149_code 14 = .ok (.putfield 9, 3) := by decide +kernel
theorem d3_17 : decode jdk_42_method_149_code 17 = .ok (.aload_n 0, 1) := by decide +kernel
theorem d3_18 : decode jdk_42_method_149_code 18 = .ok (.ldc 7, 2) := by decide +kernel
theorem d3_20 : decode jdk_42_method_149_code 20 = .ok (.getfield 15, 3) := by decide +kernel
theorem d3_23 : decode jdk_42_method_149_code 23 = .ok (.putfield 15, 3) := by decide +kernel
theorem d3_26 : decode jdk_42_method_149_code 26 = .ok (.return_, 1) := by decide +kernel
theorem ef_rm3 (m : MethodId) (a0 : Addr) (a1 : Addr) : entryFrame m #[(.ref a0), (.ref a1), (.int (0 : Int32)), (.int (0 : Int32)), .null] 6 = mkF m 0 #[.val (.ref a0), .val (.ref a1), .val (.int (0 : Int32)), .val (.int (0 : Int32)), .val .null, .unset] [] := by first | (simp [entryFrame, mkF, argsToLocals, Value.category]; done) | rfl
def Qrm3 (Z : State) (a0 : Addr) (a1 : Addr) (h0 : Heap) (n0 : Nat) (v : Option Value) (h : Heap) (L : List Loc) : Prop := v = none ∧ Fr n0 L ∧ Keep h0 h [a0] ∧ Exa Z h a0 "java/lang/String" ∧ Fld Z h a0 "java/lang/String" "coder" "B" (.int (0 : Int32)) ∧ ∃ (t : Addr) (kb : ClassId), Fld Z h a0 "java/lang/String" "value" "[B" (.ref t) ∧ Arv Z h t kb .byte (0 : Int32) [] (.int (0 : Int32))
set_option maxRecDepth 65536 in
set_option maxHeartbeats 40000000 in
theorem rm3 (l : Launch) (Z : State) (aw : Array Value) (hw : ∀ d ∈ tables_1, d.before aw Z = true) (ws : List Jvm.Cond) (a0 : Addr) (a1 : Addr) (h0 : Heap) (n0 : Nat) (Z0 : n0 ≤ h0.size) (E_a0 : Exa Z h0 a0 "java/lang/String") (F_a0_value : Fld Z h0 a0 "java/lang/String" "value" "[B" .null) (F_a0_coder : Fld Z h0 a0 "java/lang/String" "coder" "B" (.int (0 : Int32))) (g_a0 : n0 ≤ a0) :
    MetFree l (⟨"java/lang/String", "<init>", "([CIILjava/lang/Void;)V"⟩ : MethodName) (head1 (Jvm.Cond.code (⟨"java/lang/String", "<init>", "([CIILjava/lang/Void;)V"⟩ : MethodName) jdk_42_method_149_code 6 none :: ws) ({ frames := 1, cells := 4, slots := 8, locals := 12 } : Room)) (fun a U => a = #[(.ref a0), (.ref a1), (.int (0 : Int32)), (.int (0 : Int32)), .null] ∧ Z.Warmed39 U.vm ∧ U.heap = h0 ∧ CHv Z consts_1 U.vm h0 ∧ ∀ x ∈ ([a0] : List Addr), Safe Z consts_1 U.vm h0 x) (fun _ _ _ _ _ => True) (fun _ U o U' => ∃ v L, o = .returned v ∧ Qrm3 Z a0 a1 h0 n0 v U'.heap L ∧ CHr Z consts_1 U.vm U.heap U'.vm U'.heap ∧ ReturnedEndW U o U' L ({ frames := 1, cells := 4, slots := 8, locals := 12 } : Room).cells ({ frames := 1, cells := 4, slots := 8, locals := 12 } : Room).slots) := by
  refine MetFree.of_bodySF (plainFor_of_name pn_1) hisR ?_
  intro p e s m args below meth c s₁ Bd hml0 hP hK
  obtain ⟨rfl, hZ, hh, hC0, hSf⟩ := hP
  have hx := Bd.exec
  have hby := Bd.bytes
  have hml : c.maxLocals = 6 := hml0
  have hown : s.vm.findClass "java/lang/String" = some m.cls := findClass_of_methodNamed Bd.named
  have hnm := (name_of_methodNamed Bd.named Bd.method).1
  have X0 : Stand p l e ({ frames := 1, cells := 4, slots := 8, locals := 12 } : Room) s m #[(.ref a0), (.ref a1), (.int (0 : Int32)), (.int (0 : Int32)), .null] below meth c s₁ [] 0 0 := Stand.of_body Bd
  have e0 : s₁.heap = h0 := by rw [← hh, Bd.state]; rfl
  have N0 := Fr.nil n0
  have hlk := Bd.notSynchronized
  show OwnGo p.tables e below _ (s₁.setTop (entryFrame m #[(.ref a0), (.ref a1), (.int (0 : Int32)), (.int (0 : Int32)), .null] 6))
  rw [ef_rm3 m a0 a1]
  have B0 := OwnB.start s h0
  have C0 := CHr.refl hC0
  have G0_a0 := hSf a0 (List.mem_of_getElem? (i := 0) rfl)
  have K0 : Keep h0 h0 [a0] := Keep.refl _ _
  show OwnGo p.tables e below _ (s₁.setTop (mkF m 0 #[.val (.ref a0), .val (.ref a1), .val (.int (0 : Int32)), .val (.int (0 : Int32)), .val .null, .unset] []))
  refine OwnGo.of (A := s₁.setTop (mkF m 0 #[.val (.ref a0), .val (.ref a1), .val (.int (0 : Int32)), .val (.int (0 : Int32)), .val .null, .unset] [])) (B := s₁.setTop (mkF m 1 #[.val (.ref a0), .val (.ref a1), .val (.int (0 : Int32)), .val (.int (0 : Int32)), .val .null, .unset] [(.ref a0)])) (fun t k => ?_) ?_
  · show Steps p.tables e below (s₁.setTop (mkF m 0 #[.val (.ref a0), .val (.ref a1), .val (.int (0 : Int32)), .val (.int (0 : Int32)), .val .null, .unset] [])) t
    refine XS.aloadN X0.here hx rfl (hb hby d3_0) rfl rfl ?_
    exact k
  obtain ⟨T1, X1, e1, st1⟩ := initO X0 hx hZ hown (hw _ (List.mem_of_getElem? (i := 15) rfl)) (hw _ (List.mem_of_getElem? (i := 16) rfl)) (hw _ (List.mem_of_getElem? (i := 17) rfl)) e0 (g := (mkF m 1 #[.val (.ref a0), .val (.ref a1), .val (.int (0 : Int32)), .val (.int (0 : Int32)), .val .null, .unset] [(.ref a0)])) rfl (by rw [hml]; rfl) rfl (hb hby d3_1) (by decide) (W := 0) (by show 2 * 0 + _ ≤ _; exact Nat.le_of_eq rfl) (by decide)
  refine OwnGo.of st1 ?_
  show OwnGo p.tables e below _ (T1.setTop (mkF m 4 #[.val (.ref a0), .val (.ref a1), .val (.int (0 : Int32)), .val (.int (0 : Int32)), .val .null, .unset] []))
  refine OwnGo.of (A := T1.setTop (mkF m 4 #[.val (.ref a0), .val (.ref a1), .val (.int (0 : Int32)), .val (.int (0 : Int32)), .val .null, .unset] [])) (B := T1.setTop (mkF m 5 #[.val (.ref a0), .val (.ref a1), .val (.int (0 : Int32)), .val (.int (0 : Int32)), .val .null, .unset] [(.int (0 : Int32))])) (fun t k => ?_) ?_
  · show Steps p.tables e below (T1.setTop (mkF m 4 #[.val (.ref a0), .val (.ref a1), .val (.int (0 : Int32)), .val (.int (0 : Int32)), .val .null, .unset] [])) t
    refine XS.iloadN X1.here hx rfl (hb hby d3_4) rfl ?_
    exact k
  have hc2 : (0 : Int32) = (0 : Int32) := by decide
  refine OwnGo.of (A := T1.setTop (mkF m 5 #[.val (.ref a0), .val (.ref a1), .val (.int (0 : Int32)), .val (.int (0 : Int32)), .val .null, .unset] [(.int (0 : Int32))])) (B := T1.setTop (mkF m 9 #[.val (.ref a0), .val (.ref a1), .val (.int (0 : Int32)), .val (.int (0 : Int32)), .val .null, .unset] [(.ref a0)])) (fun t k => ?_) ?_
  · show Steps p.tables e below (T1.setTop (mkF m 5 #[.val (.ref a0), .val (.ref a1), .val (.int (0 : Int32)), .val (.int (0 : Int32)), .val .null, .unset] [(.int (0 : Int32))])) t
    refine XS.ifNo X1.here hx rfl (hb hby d3_5) rfl ((if0 _ _).trans (teq hc2).2) ?_
    refine XS.aloadN X1.here hx rfl (hb hby d3_8) rfl rfl ?_
    exact k
  obtain ⟨s3, b3, T3, h3, t3, k3, X3, e3, E3, B3, hZ, hown, A3, Fc3, Fv3, Vl3, cs3, ne3, st3⟩ := own_ldc (s := s) X1 hx hZ hown (hw _ (List.mem_of_getElem? (i := 18) rfl)) (own_wS hw) e1 B0 (own_EW hw) (List.mem_of_getElem? (i := 0) rfl) C0.1 own_lit_0.1 (z := (0 : Int32)) (by decide) rfl (g := (mkF m 9 #[.val (.ref a0), .val (.ref a1), .val (.int (0 : Int32)), .val (.int (0 : Int32)), .val .null, .unset] [(.ref a0)])) rfl (hb hby d3_9) (n := 0) own_lit_0.2 (by decide) (by decide) (by decide)
  refine OwnGo.of st3 ?_
  have f4 : n0 ≤ h3.size := Nat.le_trans Z0 E3.1
  have f5 : CHr Z consts_1 s.vm h0 s3.vm h3 := C0.trans cs3
  have f6 : Safe Z consts_1 s3.vm h3 a0 := cs3.safe E_a0.lt G0_a0
  have f7 : Keep h0 h3 [a0] := K0.ext E3
  have f8 : Exa Z h3 a0 "java/lang/String" := E_a0.ext E3
  have f9 : Fld Z h3 a0 "java/lang/String" "value" "[B" .null := F_a0_value.ext E3
  have f10 : Fld Z h3 a0 "java/lang/String" "coder" "B" (.int (0 : Int32)) := F_a0_coder.ext E3
  have nx3_a0 := ne3 _ f6
  show OwnGo p.tables e below _ (T3.setTop (mkF m 11 #[.val (.ref a0), .val (.ref a1), .val (.int (0 : Int32)), .val (.int (0 : Int32)), .val .null, .unset] [(.ref b3), (.ref a0)]))
  obtain ⟨T11, X11, e11, st11⟩ := getF X3 hx hZ hown (host := "") (Or.inl (hw _ (List.mem_of_getElem? (i := 24) rfl))) Via.refl e3 Fv3 (g := (mkF m 11 #[.val (.ref a0), .val (.ref a1), .val (.int (0 : Int32)), .val (.int (0 : Int32)), .val .null, .unset] [(.ref b3), (.ref a0)])) rfl rfl (hb hby d3_11)
  refine OwnGo.of st11 ?_
  show OwnGo p.tables e below _ (T11.setTop (mkF m 14 #[.val (.ref a0), .val (.ref a1), .val (.int (0 : Int32)), .val (.int (0 : Int32)), .val .null, .unset] [(.ref t3), (.ref a0)]))
  obtain ⟨T12, h12, X12, e12, W12, st12⟩ := putF X11 hx hZ hown (host := "") (Or.inl (hw _ (List.mem_of_getElem? (i := 24) rfl))) Via.refl e11 f9 f8 (Or.inr ⟨(hw _ (List.mem_of_getElem? (i := 20) rfl)), rfl, hnm⟩) (hw _ (List.mem_of_getElem? (i := 6) rfl)) (ty := (.array .byte)) (by decide) rfl rfl (g := (mkF m 14 #[.val (.ref a0), .val (.ref a1), .val (.int (0 : Int32)), .val (.int (0 : Int32)), .val .null, .unset] [(.ref t3), (.ref a0)])) rfl rfl (hb hby d3_14)
  refine OwnGo.of st12 ?_
  have N12 := Fr.snoc X12 N0 g_a0
  have cs13 := CHr.wr W12 f6 f5.1
  have f14 : n0 ≤ h12.size := Nat.le_trans f4 (Keep.of_wr W12).1
  have f15 : OwnB s s3 h12 := B3.wr W12
  have f16 : CHr Z consts_1 s.vm h0 s3.vm h12 := f5.trans cs13
  have f17 : Safe Z consts_1 s3.vm h12 a0 := cs13.safe f8.lt f6
  have f18 : Keep h0 h12 [a0] := f7.wr W12 (Or.inl (List.mem_of_getElem? (i := 0) rfl))
  have f19 : Exa Z h12 a0 "java/lang/String" := f8.wr W12
  have f20 : Fld Z h12 a0 "java/lang/String" "coder" "B" (.int (0 : Int32)) := f10.other W12 (Or.inr (slot_ne (Or.inr (hw _ (List.mem_of_getElem? (i := 21) rfl))) (Or.inr (hw _ (List.mem_of_getElem? (i := 20) rfl))) (by decide) (t := .byte) (t' := (.array .byte)) (by decide) (by decide)))
  have f21 : Exa Z h12 b3 "java/lang/String" := A3.wr W12
  have f22 : Fld Z h12 b3 "java/lang/String" "coder" "B" (.int (0 : Int32)) := Fc3.other W12 (Or.inl (Ne.symm nx3_a0.1))
  have f23 : Fld Z h12 b3 "java/lang/String" "value" "[B" (.ref t3) := Fv3.other W12 (Or.inl (Ne.symm nx3_a0.1))
  have f24 : Arv Z h12 t3 k3 .byte (0 : Int32) [] (.int (0 : Int32)) := Vl3.other W12 (Ne.symm nx3_a0.2)
  have f25 : Fld Z h12 a0 "java/lang/String" "value" "[B" (.ref t3) := Fld.same W12 f9
  show OwnGo p.tables e below _ (T12.setTop (mkF m 17 #[.val (.ref a0), .val (.ref a1), .val (.int (0 : Int32)), .val (.int (0 : Int32)), .val .null, .unset] []))
  refine OwnGo.of (A := T12.setTop (mkF m 17 #[.val (.ref a0), .val (.ref a1), .val (.int (0 : Int32)), .val (.int (0 : Int32)), .val .null, .unset] [])) (B := T12.setTop (mkF m 18 #[.val (.ref a0), .val (.ref a1), .val (.int (0 : Int32)), .val (.int (0 : Int32)), .val .null, .unset] [(.ref a0)])) (fun t k => ?_) ?_
  · show Steps p.tables e below (T12.setTop (mkF m 17 #[.val (.ref a0), .val (.ref a1), .val (.int (0 : Int32)), .val (.int (0 : Int32)), .val .null, .unset] [])) t
    refine XS.aloadN X12.here hx rfl (hb hby d3_17) rfl rfl ?_
    exact k
  obtain ⟨s26, b26, T26, h26, t26, k26, X26, e26, E26, B26, hZ, hown, A26, Fc26, Fv26, Vl26, cs26, ne26, st26⟩ := own_ldc (s := s) X12 hx hZ hown (hw _ (List.mem_of_getElem? (i := 18) rfl)) (own_wS hw) e12 f15 (own_EW hw) (List.mem_of_getElem? (i := 0) rfl) f16.1 own_lit_0.1 (z := (0 : Int32)) (by decide) rfl (g := (mkF m 18 #[.val (.ref a0), .val (.ref a1), .val (.int (0 : Int32)), .val (.int (0 : Int32)), .val .null, .unset] [(.ref a0)])) rfl (hb hby d3_18) (n := 0) own_lit_0.2 (by decide) (by decide) (by decide)
  refine OwnGo.of st26 ?_
  have f27 : n0 ≤ h26.size := Nat.le_trans f14 E26.1
  have f28 : CHr Z consts_1 s.vm h0 s26.vm h26 := f16.trans cs26
  have f29 : Safe Z consts_1 s26.vm h26 a0 := cs26.safe f19.lt f17
  have f30 : Keep h0 h26 [a0] := f18.ext E26
  have f31 : Exa Z h26 a0 "java/lang/String" := f19.ext E26
  have f32 : Fld Z h26 a0 "java/lang/String" "coder" "B" (.int (0 : Int32)) := f20.ext E26
  have f33 : Exa Z h26 b3 "java/lang/String" := f21.ext E26
  have f34 : Fld Z h26 b3 "java/lang/String" "coder" "B" (.int (0 : Int32)) := f22.ext E26
  have f35 : Fld Z h26 b3 "java/lang/String" "value" "[B" (.ref t3) := f23.ext E26
  have f36 : Arv Z h26 t3 k3 .byte (0 : Int32) [] (.int (0 : Int32)) := f24.ext E26
  have f37 : Fld Z h26 a0 "java/lang/String" "value" "[B" (.ref t3) := f25.ext E26
  have nx26_a0 := ne26 _ f29
  show OwnGo p.tables e below _ (T26.setTop (mkF m 20 #[.val (.ref a0), .val (.ref a1), .val (.int (0 : Int32)), .val (.int (0 : Int32)), .val .null, .unset] [(.ref b26), (.ref a0)]))
  obtain ⟨T38, X38, e38, st38⟩ := getF X26 hx hZ hown (host := "") (Or.inl (hw _ (List.mem_of_getElem? (i := 25) rfl))) Via.refl e26 Fc26 (g := (mkF m 20 #[.val (.ref a0), .val (.ref a1), .val (.int (0 : Int32)), .val (.int (0 : Int32)), .val .null, .unset] [(.ref b26), (.ref a0)])) rfl rfl (hb hby d3_20)
  refine OwnGo.of st38 ?_
  show OwnGo p.tables e below _ (T38.setTop (mkF m 23 #[.val (.ref a0), .val (.ref a1), .val (.int (0 : Int32)), .val (.int (0 : Int32)), .val .null, .unset] [(.int (0 : Int32)), (.ref a0)]))
  obtain ⟨T39, h39, X39, e39, W39, st39⟩ := putFN X38 hx hZ hown (hw _ (List.mem_of_getElem? (i := 25) rfl)) Via.refl e38 f32 f31 (Or.inr ⟨(hw _ (List.mem_of_getElem? (i := 21) rfl)), rfl, hnm⟩) (hw _ (List.mem_of_getElem? (i := 6) rfl)) (ty := .byte) (v' := (.int (0 : Int32))) (by decide) rfl rfl (g := (mkF m 23 #[.val (.ref a0), .val (.ref a1), .val (.int (0 : Int32)), .val (.int (0 : Int32)), .val .null, .unset] [(.int (0 : Int32)), (.ref a0)])) rfl rfl (hb hby d3_23)
  refine OwnGo.of st39 ?_
  have N39 := Fr.snoc X39 N12 g_a0
  have cs40 := CHr.wr W39 f29 f28.1
  have f41 : n0 ≤ h39.size := Nat.le_trans f27 (Keep.of_wr W39).1
  have f42 : OwnB s s26 h39 := B26.wr W39
  have f43 : CHr Z consts_1 s.vm h0 s26.vm h39 := f28.trans cs40
  have f44 : Safe Z consts_1 s26.vm h39 a0 := cs40.safe f31.lt f29
  have f45 : Keep h0 h39 [a0] := f30.wr W39 (Or.inl (List.mem_of_getElem? (i := 0) rfl))
  have f46 : Exa Z h39 a0 "java/lang/String" := f31.wr W39
  have f47 : Exa Z h39 b3 "java/lang/String" := f33.wr W39
  have f48 : Fld Z h39 b3 "java/lang/String" "coder" "B" (.int (0 : Int32)) := f34.other W39 (Or.inl (Ne.symm nx3_a0.1))
  have f49 : Fld Z h39 b3 "java/lang/String" "value" "[B" (.ref t3) := f35.other W39 (Or.inl (Ne.symm nx3_a0.1))
  have f50 : Arv Z h39 t3 k3 .byte (0 : Int32) [] (.int (0 : Int32)) := f36.other W39 (Ne.symm nx3_a0.2)
  have f51 : Fld Z h39 a0 "java/lang/String" "value" "[B" (.ref t3) := f37.other W39 (Or.inr (slot_ne (Or.inr (hw _ (List.mem_of_getElem? (i := 20) rfl))) (Or.inr (hw _ (List.mem_of_getElem? (i := 21) rfl))) (by decide) (t := (.array .byte)) (t' := .byte) (by decide) (by decide)))
  have f52 : Exa Z h39 b26 "java/lang/String" := A26.wr W39
  have f53 : Fld Z h39 b26 "java/lang/String" "coder" "B" (.int (0 : Int32)) := Fc26.other W39 (Or.inl (Ne.symm nx26_a0.1))
  have f54 : Fld Z h39 b26 "java/lang/String" "value" "[B" (.ref t26) := Fv26.other W39 (Or.inl (Ne.symm nx26_a0.1))
  have f55 : Arv Z h39 t26 k26 .byte (0 : Int32) [] (.int (0 : Int32)) := Vl26.other W39 (Ne.symm nx26_a0.2)
  have f56 : Fld Z h39 a0 "java/lang/String" "coder" "B" (.int (0 : Int32)) := Fld.same W39 f32
  show OwnGo p.tables e below _ (T39.setTop (mkF m 26 #[.val (.ref a0), .val (.ref a1), .val (.int (0 : Int32)), .val (.int (0 : Int32)), .val .null, .unset] []))
  obtain ⟨fs, hr, hrun, hended, hRW⟩ := own_leaveW X39 f42 e39 (v := none) (fun _ => rfl) hlk
  refine ⟨_, _, ?_, hrun, hended, _, _, rfl, ?_, own_endW X39 hZ (own_EW hw) e39 hh f43 fs, own_monoW hRW (by decide) (by decide)⟩
  · show Steps p.tables e below (T39.setTop (mkF m 26 #[.val (.ref a0), .val (.ref a1), .val (.int (0 : Int32)), .val (.int (0 : Int32)), .val .null, .unset] [])) _
    exact X39.returnOut hx Bd.returns (hb hby d3_26) hr
  · show Qrm3 Z a0 a1 h0 n0 _ (T39.setFrames fs).heap _
    rw [show (T39.setFrames fs).heap = h39 from e39]
    exact ⟨rfl, N39, f45, f46, f56, t3, _, f51, f50⟩
theorem pd_2 : parseMethodDescriptor "([CIILjava/lang/Void;)V" = some ⟨[(.array .char), .int, .int, (.object "java/lang/Void")], none⟩ := by decide +kernel
theorem d2_0 : decode jdk_42_method_3_code 0 = .ok (.aload_n 0, 1) := by decide +kernel
theorem d2_1 : decode jdk_42_method_3_code 1 = .ok (.aload_n 1, 1) := by decide +kernel
theorem d2_2 : decode jdk_42_method_3_code 2 = .ok (.iconst 0, 1) := by decide +kernel
theorem d2_3 : decode jdk_42_method_3_code 3 = .ok (.aload_n 1, 1) := by decide +kernel
theorem d2_4 : decode jdk_42_method_3_code 4 = .ok (.arraylength, 1) := by decide +kernel
theorem d2_5 : decode jdk_42_method_3_code 5 = .ok (.aconst_null, 1) := by decide +kernel
theorem d2_6 : decode jdk_42_method_3_code 6 = .ok (.invokespecial 27, 3) := by decide +kernel
theorem d2_9 : decode jdk_42_method_3_code 9 = .ok (.return_, 1) := by decide +kernel
theorem ef_rm2 (m : MethodId) (a0 : Addr) (a1 : Addr) : entryFrame m #[(.ref a0), (.ref a1)] 2 = mkF m 0 #[.val (.ref a0), .val (.ref a1)] [] := by first | (simp [entryFrame, mkF, argsToLocals, Value.category]; done) | rfl
def Qrm2 (Z : State) (a0 : Addr) (a1 : Addr) (ka : ClassId) (h0 : Heap) (n0 : Nat) (v : Option Value) (h : Heap) (L : List Loc) : Prop := v = none ∧ Fr n0 L ∧ Keep h0 h [a0] ∧ Exa Z h a0 "java/lang/String" ∧ Fld Z h a0 "java/lang/String" "coder" "B" (.int (0 : Int32)) ∧ ∃ (t : Addr) (kb : ClassId), Fld Z h a0 "java/lang/String" "value" "[B" (.ref t) ∧ Arv Z h t kb .byte (0 : Int32) [] (.int (0 : Int32))
set_option maxRecDepth 65536 in
set_option maxHeartbeats 40000000 in
theorem rm2 (l : Launch) (Z : State) (aw : Array Value) (hw : ∀ d ∈ tables_1, d.before aw Z = true) (ws : List Jvm.Cond) (a0 : Addr) (a1 : Addr) (ka : ClassId) (h0 : Heap) (n0 : Nat) (Z0 : n0 ≤ h0.size) (E_a0 : Exa Z h0 a0 "java/lang/String") (F_a0_value : Fld Z h0 a0 "java/lang/String" "value" "[B" .null) (F_a0_coder : Fld Z h0 a0 "java/lang/String" "coder" "B" (.int (0 : Int32))) (g_a0 : n0 ≤ a0) (V_a : Arv Z h0 a1 ka .char (0 : Int32) [] (.int (0 : Int32))) (hne : a1 ≠ a0) :
    MetFree l (⟨"java/lang/String", "<init>", "([C)V"⟩ : MethodName) (head1 (Jvm.Cond.code (⟨"java/lang/String", "<init>", "([C)V"⟩ : MethodName) jdk_42_method_3_code 2 none :: ws) ({ frames := 2, cells := 4, slots := 8, locals := 29 } : Room)) (fun a U => a = #[(.ref a0), (.ref a1)] ∧ Z.Warmed39 U.vm ∧ U.heap = h0 ∧ CHv Z consts_1 U.vm h0 ∧ ∀ x ∈ ([a0] : List Addr), Safe Z consts_1 U.vm h0 x) (fun _ _ _ _ _ => True) (fun _ U o U' => ∃ v L, o = .returned v ∧ Qrm2 Z a0 a1 ka h0 n0 v U'.heap L ∧ CHr Z consts_1 U.vm U.heap U'.vm U'.heap ∧ ReturnedEndW U o U' L ({ frames := 2, cells := 4, slots := 8, locals := 29 } : Room).cells ({ frames := 2, cells := 4, slots := 8, locals := 29 } : Room).slots) := by
  refine MetFree.of_bodySF (plainFor_of_name pn_1) hisR ?_
  intro p e s m args below meth c s₁ Bd hml0 hP hK
  obtain ⟨rfl, hZ, hh, hC0, hSf⟩ := hP
  have hx := Bd.exec
  have hby := Bd.bytes
  have hml : c.maxLocals = 2 := hml0
  have hown : s.vm.findClass "java/lang/String" = some m.cls := findClass_of_methodNamed Bd.named
  have hnm := (name_of_methodNamed Bd.named Bd.method).1
  have X0 : Stand p l e ({ frames := 2, cells := 4, slots := 8, locals := 29 } : Room) s m #[(.ref a0), (.ref a1)] below meth c s₁ [] 0 0 := Stand.of_body Bd
  have e0 : s₁.heap = h0 := by rw [← hh, Bd.state]; rfl
  have N0 := Fr.nil n0
  have hlk := Bd.notSynchronized
  show OwnGo p.tables e below _ (s₁.setTop (entryFrame m #[(.ref a0), (.ref a1)] 2))
  rw [ef_rm2 m a0 a1]
  have B0 := OwnB.start s h0
  have C0 := CHr.refl hC0
  have G0_a0 := hSf a0 (List.mem_of_getElem? (i := 0) rfl)
  have K0 : Keep h0 h0 [a0] := Keep.refl _ _
  have ne1 : a1 ≠ a0 := hne
  show OwnGo p.tables e below _ (s₁.setTop (mkF m 0 #[.val (.ref a0), .val (.ref a1)] []))
  refine OwnGo.of (A := s₁.setTop (mkF m 0 #[.val (.ref a0), .val (.ref a1)] [])) (B := s₁.setTop (mkF m 4 #[.val (.ref a0), .val (.ref a1)] [(.ref a1), (.int (0 : Int32)), (.ref a1), (.ref a0)])) (fun t k => ?_) ?_
  · show Steps p.tables e below (s₁.setTop (mkF m 0 #[.val (.ref a0), .val (.ref a1)] [])) t
    refine XS.aloadN X0.here hx rfl (hb hby d2_0) rfl rfl ?_
    refine XS.aloadN X0.here hx rfl (hb hby d2_1) rfl rfl ?_
    refine XS.iconst X0.here hx rfl (hb hby d2_2) ?_
    refine XS.aloadN X0.here hx rfl (hb hby d2_3) rfl rfl ?_
    exact k
  have cq1 := V_a
  obtain ⟨clq1, Arq1, qq1, Sq1, Nq1, Hq1, Gq1⟩ := cq1
  refine OwnGo.of (X0.arraylength hx (by rw [e0]; exact Arq1.1) (State.isArrayOf_alike hZ.alike Arq1.2.1) (g := (mkF m 4 #[.val (.ref a0), .val (.ref a1)] [(.ref a1), (.int (0 : Int32)), (.ref a1), (.ref a0)])) rfl rfl (hb hby d2_4)) ?_
  rw [len_of Sq1 Nq1]
  show OwnGo p.tables e below _ (s₁.setTop (mkF m 5 #[.val (.ref a0), .val (.ref a1)] [(.int (0 : Int32)), (.int (0 : Int32)), (.ref a1), (.ref a0)]))
  refine OwnGo.of (A := s₁.setTop (mkF m 5 #[.val (.ref a0), .val (.ref a1)] [(.int (0 : Int32)), (.int (0 : Int32)), (.ref a1), (.ref a0)])) (B := s₁.setTop (mkF m 6 #[.val (.ref a0), .val (.ref a1)] [.null, (.int (0 : Int32)), (.int (0 : Int32)), (.ref a1), (.ref a0)])) (fun t k => ?_) ?_
  · show Steps p.tables e below (s₁.setTop (mkF m 5 #[.val (.ref a0), .val (.ref a1)] [(.int (0 : Int32)), (.int (0 : Int32)), (.ref a1), (.ref a0)])) t
    refine XS.aconstNull X0.here hx rfl (hb hby d2_5) ?_
    exact k
  obtain ⟨s2, T2, L2, v2, X2, hQ2, B2, hZ, hown, cs2, st2⟩ := own_callIW (s := s) X0 hx (y := (⟨"java/lang/String", "<init>", "([CIILjava/lang/Void;)V"⟩ : MethodName)) rfl hown (mvT hZ (hw _ (List.mem_of_getElem? (i := 11) rfl))) (mvT hZ (hw _ (List.mem_of_getElem? (i := 12) rfl))) (mvT hZ (hw _ (List.mem_of_getElem? (i := 14) rfl))) (by decide) hZ B0 (own_backW (W := 0) (ws := [a0]) (rm3 l Z aw hw [] a0 a1  h0 n0 Z0 E_a0 F_a0_value F_a0_coder g_a0) hZ (hw _ (List.mem_of_getElem? (i := 14) rfl)) (hw _ (List.mem_of_getElem? (i := 7) rfl)) (by decide) (by decide) (own_EW hw) C0.1 (allS ⟨E_a0.lt, G0_a0⟩ all0)) (g := (mkF m 6 #[.val (.ref a0), .val (.ref a1)] [.null, (.int (0 : Int32)), (.int (0 : Int32)), (.ref a1), (.ref a0)])) rfl (by rw [hml]; rfl) (a := a0) (argsL := [(.ref a1), (.int (0 : Int32)), (.int (0 : Int32)), .null]) (rest := []) (lenOf pd_2 rfl) rfl (by show 2 * 0 + _ ≤ _; exact Nat.le_of_eq rfl) (hb hby d2_6) rfl e0 (by decide) (by decide)
  obtain ⟨rfl, N2q, K2, y2E, y2C, t2, kb2, y2V, y2A⟩ := hQ2
  have f3 : n0 ≤ T2.heap.size := Nat.le_trans Z0 K2.1
  have f4 : CHr Z consts_1 s.vm h0 s2.vm T2.heap := C0.trans cs2
  have f5 : Safe Z consts_1 s2.vm T2.heap a0 := cs2.safe E_a0.lt G0_a0
  have f6 : Keep h0 T2.heap [a0] := K0.trans K2 (allS (Or.inl (List.mem_of_getElem? (i := 0) rfl)) all0)
  have f7 : Exa Z T2.heap a0 "java/lang/String" := E_a0.keep K2
  have f8 : Arv Z T2.heap a1 ka .char (0 : Int32) [] (.int (0 : Int32)) := V_a.keep K2 (ninS ne1 nin0)
  have N2 := Fr.app N0 N2q
  refine OwnGo.of st2 ?_
  show OwnGo p.tables e below _ (T2.setTop (mkF m 9 #[.val (.ref a0), .val (.ref a1)] []))
  obtain ⟨fs, hr, hrun, hended, hRW⟩ := own_leaveW X2 B2 rfl (v := none) (fun _ => rfl) hlk
  refine ⟨_, _, ?_, hrun, hended, _, _, rfl, ?_, own_endW X2 hZ (own_EW hw) rfl hh f4 fs, own_monoW hRW (by decide) (by decide)⟩
  · show Steps p.tables e below (T2.setTop (mkF m 9 #[.val (.ref a0), .val (.ref a1)] [])) _
    exact X2.returnOut hx Bd.returns (hb hby d2_9) hr
  · show Qrm2 Z a0 a1 ka h0 n0 _ (T2.setFrames fs).heap _
    rw [show (T2.setFrames fs).heap = T2.heap from rfl]
    exact ⟨rfl, N2, f6, y2E, y2C, t2, _, y2V, y2A⟩

def own_tei : List Int32 := [116, 101, 105]
theorem own_tei_cod : StrChars.Road.CodA own_tei 0 (3 : Int32) [(.int (116 : Int32)), (.int (101 : Int32)), (.int (105 : Int32))] := own_litcod rfl rfl (by decide)
theorem own_tei_up : ∀ c ∈ own_tei, ¬ c < 0 ∧ ¬ (65535 : Int32) < c := by decide
def own_jats : List Int32 := [106, 97, 116, 115]
theorem own_jats_cod : StrChars.Road.CodA own_jats 0 (4 : Int32) [(.int (106 : Int32)), (.int (97 : Int32)), (.int (116 : Int32)), (.int (115 : Int32))] := own_litcod rfl rfl (by decide)
theorem own_jats_up : ∀ c ∈ own_jats, ¬ c < 0 ∧ ¬ (65535 : Int32) < c := by decide
def own_ead3 : List Int32 := [101, 97, 100, 51]
theorem own_ead3_cod : StrChars.Road.CodA own_ead3 0 (4 : Int32) [(.int (101 : Int32)), (.int (97 : Int32)), (.int (100 : Int32)), (.int (51 : Int32))] := own_litcod rfl rfl (by decide)
theorem own_ead3_up : ∀ c ∈ own_ead3, ¬ c < 0 ∧ ¬ (65535 : Int32) < c := by decide
def OwnCh (x : Int32) : Prop := ¬ x < 0 ∧ ¬ (255 : Int32) < x
theorem own_chI (x : Int32) : OwnCh x ↔ 0 ≤ x.toInt ∧ x.toInt ≤ 255 := by
  rw [OwnCh, Int32.lt_iff_toInt_lt, Int32.lt_iff_toInt_lt, show (0 : Int32).toInt = 0 from by decide, show (255 : Int32).toInt = 255 from by decide]; omega
theorem own_ch {x : Int32} (h : OwnCh x) : OwnCh (x.toUInt32.toUInt16.toUInt32.toInt32) := by
  rw [own_chI] at h ⊢; have := c_i2c x; omega
theorem own_msk (x : Int32) : OwnCh (x &&& (255 : Int32)) := by
  rw [own_chI]; have := c_mask x 255 8 (by decide) (by decide); omega
theorem own_h0 {P : Int32 → Prop} : ∀ x ∈ ([] : List Int32), P x := fun _ q => nomatch q
theorem own_hS {P : Int32 → Prop} {y : Int32} {L : List Int32} (q : P y) (r : ∀ x ∈ L, P x) : ∀ x ∈ y :: L, P x := fun x z => (List.mem_cons.mp z).elim (fun u => u ▸ q) (r x)
def own_voc (cs : List Int32) (aT aJ aE : Addr) : Value := if own_tei = cs then .ref aT else if own_jats = cs then .ref aJ else if own_ead3 = cs then .ref aE else .null
theorem own_vocR (cs : List Int32) (aT aJ aE : Addr) : (own_voc cs aT aJ aE).isRef = true := by
  unfold own_voc; split
  · rfl
  · split
    · rfl
    · split <;> rfl


theorem own_vocC (cs : List Int32) (aT aJ aE : Addr) : (own_voc cs aT aJ aE).category = 1 := by
  unfold own_voc; split
  · rfl
  · split
    · rfl
    · split <;> rfl

theorem pd_3 : parseMethodDescriptor "([C)V" = some ⟨[(.array .char)], none⟩ := by decide +kernel
theorem pn_4 : plainName "org/postline/VocabularyWritingPinLaw" = true := by first | (simp [plainName, overriddenIn]; done) | decide +kernel
theorem d1_0 : decode method_3_code 0 = .ok (.iload_n 1, 1) := by decide +kernel
theorem d1_1 : decode method_3_code 1 = .ok (.ifCond .ne 14, 3) := by decide +kernel
theorem d1_4 : decode method_3_code 4 = .ok (.new 22, 3) := by decide +kernel
theorem d1_7 : decode method_3_code 7 = .ok (.dup, 1) := by decide +kernel
theorem d1_8 : decode method_3_code 8 = .ok (.iconst 0, 1) := by decide +kernel
theorem d1_9 : decode method_3_code 9 = .ok (.newarray .char, 2) := by decide +kernel
theorem d1_11 : decode method_3_code 11 = .ok (.invokespecial 24, 3) := by decide +kernel
theorem d1_14 : decode method_3_code 14 = .ok (.areturn, 1) := by decide +kernel
theorem d1_15 : decode method_3_code 15 = .ok (.iload_n 1, 1) := by decide +kernel
theorem d1_16 : decode method_3_code 16 = .ok (.iconst 1, 1) := by decide +kernel
theorem d1_17 : decode method_3_code 17 = .ok (.if_icmp .ne 20, 3) := by decide +kernel
theorem d1_20 : decode method_3_code 20 = .ok (.new 22, 3) := by decide +kernel
theorem d1_23 : decode method_3_code 23 = .ok (.dup, 1) := by decide +kernel
theorem d1_24 : decode method_3_code 24 = .ok (.iconst 1, 1) := by decide +kernel
theorem d1_25 : decode method_3_code 25 = .ok (.newarray .char, 2) := by decide +kernel
theorem d1_27 : decode method_3_code 27 = .ok (.dup, 1) := by decide +kernel
theorem d1_28 : decode method_3_code 28 = .ok (.iconst 0, 1) := by decide +kernel
theorem d1_29 : decode method_3_code 29 = .ok (.aload_n 0, 1) := by decide +kernel
theorem d1_30 : decode method_3_code 30 = .ok (.iconst 0, 1) := by decide +kernel
theorem d1_31 : decode method_3_code 31 = .ok (.caload, 1) := by decide +kernel
theorem d1_32 : decode method_3_code 32 = .ok (.castore, 1) := by decide +kernel
theorem d1_33 : decode method_3_code 33 = .ok (.invokespecial 24, 3) := by decide +kernel
theorem d1_36 : decode method_3_code 36 = .ok (.areturn, 1) := by decide +kernel
theorem d1_37 : decode method_3_code 37 = .ok (.iload_n 1, 1) := by decide +kernel
theorem d1_38 : decode method_3_code 38 = .ok (.iconst 2, 1) := by decide +kernel
theorem d1_39 : decode method_3_code 39 = .ok (.if_icmp .ne 26, 3) := by decide +kernel
theorem d1_42 : decode method_3_code 42 = .ok (.new 22, 3) := by decide +kernel
theorem d1_45 : decode method_3_code 45 = .ok (.dup, 1) := by decide +kernel
theorem d1_46 : decode method_3_code 46 = .ok (.iconst 2, 1) := by decide +kernel
theorem d1_47 : decode method_3_code 47 = .ok (.newarray .char, 2) := by decide +kernel
theorem d1_49 : decode method_3_code 49 = .ok (.dup, 1) := by decide +kernel
theorem d1_50 : decode method_3_code 50 = .ok (.iconst 0, 1) := by decide +kernel
theorem d1_51 : decode method_3_code 51 = .ok (.aload_n 0, 1) := by decide +kernel
theorem d1_52 : decode method_3_code 52 = .ok (.iconst 0, 1) := by decide +kernel
theorem d1_53 : decode method_3_code 53 = .ok (.caload, 1) := by decide +kernel
theorem d1_54 : decode method_3_code 54 = .ok (.castore, 1) := by decide +kernel
theorem d1_55 : decode method_3_code 55 = .ok (.dup, 1) := by decide +kernel
theorem d1_56 : decode method_3_code 56 = .ok (.iconst 1, 1) := by decide +kernel
theorem d1_57 : decode method_3_code 57 = .ok (.aload_n 0, 1) := by decide +kernel
theorem d1_58 : decode method_3_code 58 = .ok (.iconst 1, 1) := by decide +kernel
theorem d1_59 : decode method_3_code 59 = .ok (.caload, 1) := by decide +kernel
theorem d1_60 : decode method_3_code 60 = .ok (.castore, 1) := by decide +kernel
theorem d1_61 : decode method_3_code 61 = .ok (.invokespecial 24, 3) := by decide +kernel
theorem d1_64 : decode method_3_code 64 = .ok (.areturn, 1) := by decide +kernel
theorem d1_65 : decode method_3_code 65 = .ok (.iload_n 1, 1) := by decide +kernel
theorem d1_66 : decode method_3_code 66 = .ok (.iconst 3, 1) := by decide +kernel
theorem d1_67 : decode method_3_code 67 = .ok (.if_icmp .ne 32, 3) := by decide +kernel
theorem d1_70 : decode method_3_code 70 = .ok (.new 22, 3) := by decide +kernel
theorem d1_73 : decode method_3_code 73 = .ok (.dup, 1) := by decide +kernel
theorem d1_74 : decode method_3_code 74 = .ok (.iconst 3, 1) := by decide +kernel
theorem d1_75 : decode method_3_code 75 = .ok (.newarray .char, 2) := by decide +kernel
theorem d1_77 : decode method_3_code 77 = .ok (.dup, 1) := by decide +kernel
theorem d1_78 : decode method_3_code 78 = .ok (.iconst 0, 1) := by decide +kernel
theorem d1_79 : decode method_3_code 79 = .ok (.aload_n 0, 1) := by decide +kernel
theorem d1_80 : decode method_3_code 80 = .ok (.iconst 0, 1) := by decide +kernel
theorem d1_81 : decode method_3_code 81 = .ok (.caload, 1) := by decide +kernel
theorem d1_82 : decode method_3_code 82 = .ok (.castore, 1) := by decide +kernel
theorem d1_83 : decode method_3_code 83 = .ok (.dup, 1) := by decide +kernel
theorem d1_84 : decode method_3_code 84 = .ok (.iconst 1, 1) := by decide +kernel
theorem d1_85 : decode method_3_code 85 = .ok (.aload_n 0, 1) := by decide +kernel
theorem d1_86 : decode method_3_code 86 = .ok (.iconst 1, 1) := by decide +kernel
theorem d1_87 : decode method_3_code 87 = .ok (.caload, 1) := by decide +kernel
theorem d1_88 : decode method_3_code 88 = .ok (.castore, 1) := by decide +kernel
theorem d1_89 : decode method_3_code 89 = .ok (.dup, 1) := by decide +kernel
theorem d1_90 : decode method_3_code 90 = .ok (.iconst 2, 1) := by decide +kernel
theorem d1_91 : decode method_3_code 91 = .ok (.aload_n 0, 1) := by decide +kernel
theorem d1_92 : decode method_3_code 92 = .ok (.iconst 2, 1) := by decide +kernel
theorem d1_93 : decode method_3_code 93 = .ok (.caload, 1) := by decide +kernel
theorem d1_94 : decode method_3_code 94 = .ok (.castore, 1) := by decide +kernel
theorem d1_95 : decode method_3_code 95 = .ok (.invokespecial 24, 3) := by decide +kernel
theorem d1_98 : decode method_3_code 98 = .ok (.areturn, 1) := by decide +kernel
theorem d1_99 : decode method_3_code 99 = .ok (.iload_n 1, 1) := by decide +kernel
theorem d1_100 : decode method_3_code 100 = .ok (.iconst 4, 1) := by decide +kernel
theorem d1_101 : decode method_3_code 101 = .ok (.if_icmp .ne 38, 3) := by decide +kernel
theorem d1_104 : decode method_3_code 104 = .ok (.new 22, 3) := by decide +kernel
theorem d1_107 : decode method_3_code 107 = .ok (.dup, 1) := by decide +kernel
theorem d1_108 : decode method_3_code 108 = .ok (.iconst 4, 1) := by decide +kernel
theorem d1_109 : decode method_3_code 109 = .ok (.newarray .char, 2) := by decide +kernel
theorem d1_111 : decode method_3_code 111 = .ok (.dup, 1) := by decide +kernel
theorem d1_112 : decode method_3_code 112 = .ok (.iconst 0, 1) := by decide +kernel
theorem d1_113 : decode method_3_code 113 = .ok (.aload_n 0, 1) := by decide +kernel
theorem d1_114 : decode method_3_code 114 = .ok (.iconst 0, 1) := by decide +kernel
theorem d1_115 : decode method_3_code 115 = .ok (.caload, 1) := by decide +kernel
theorem d1_116 : decode method_3_code 116 = .ok (.castore, 1) := by decide +kernel
theorem d1_117 : decode method_3_code 117 = .ok (.dup, 1) := by decide +kernel
theorem d1_118 : decode method_3_code 118 = .ok (.iconst 1, 1) := by decide +kernel
theorem d1_119 : decode method_3_code 119 = .ok (.aload_n 0, 1) := by decide +kernel
theorem d1_120 : decode method_3_code 120 = .ok (.iconst 1, 1) := by decide +kernel
theorem d1_121 : decode method_3_code 121 = .ok (.caload, 1) := by decide +kernel
theorem d1_122 : decode method_3_code 122 = .ok (.castore, 1) := by decide +kernel
theorem d1_123 : decode method_3_code 123 = .ok (.dup, 1) := by decide +kernel
theorem d1_124 : decode method_3_code 124 = .ok (.iconst 2, 1) := by decide +kernel
theorem d1_125 : decode method_3_code 125 = .ok (.aload_n 0, 1) := by decide +kernel
theorem d1_126 : decode method_3_code 126 = .ok (.iconst 2, 1) := by decide +kernel
theorem d1_127 : decode method_3_code 127 = .ok (.caload, 1) := by decide +kernel
theorem d1_128 : decode method_3_code 128 = .ok (.castore, 1) := by decide +kernel
theorem d1_129 : decode method_3_code 129 = .ok (.dup, 1) := by decide +kernel
theorem d1_130 : decode method_3_code 130 = .ok (.iconst 3, 1) := by decide +kernel
theorem d1_131 : decode method_3_code 131 = .ok (.aload_n 0, 1) := by decide +kernel
theorem d1_132 : decode method_3_code 132 = .ok (.iconst 3, 1) := by decide +kernel
theorem d1_133 : decode method_3_code 133 = .ok (.caload, 1) := by decide +kernel
theorem d1_134 : decode method_3_code 134 = .ok (.castore, 1) := by decide +kernel
theorem d1_135 : decode method_3_code 135 = .ok (.invokespecial 24, 3) := by decide +kernel
theorem d1_138 : decode method_3_code 138 = .ok (.areturn, 1) := by decide +kernel
theorem d1_139 : decode method_3_code 139 = .ok (.new 22, 3) := by decide +kernel
theorem d1_142 : decode method_3_code 142 = .ok (.dup, 1) := by decide +kernel
theorem d1_143 : decode method_3_code 143 = .ok (.iconst 5, 1) := by decide +kernel
theorem d1_144 : decode method_3_code 144 = .ok (.newarray .char, 2) := by decide +kernel
theorem d1_146 : decode method_3_code 146 = .ok (.dup, 1) := by decide +kernel
theorem d1_147 : decode method_3_code 147 = .ok (.iconst 0, 1) := by decide +kernel
theorem d1_148 : decode method_3_code 148 = .ok (.aload_n 0, 1) := by decide +kernel
theorem d1_149 : decode method_3_code 149 = .ok (.iconst 0, 1) := by decide +kernel
theorem d1_150 : decode method_3_code 150 = .ok (.caload, 1) := by decide +kernel
theorem d1_151 : decode method_3_code 151 = .ok (.castore, 1) := by decide +kernel
theorem d1_152 : decode method_3_code 152 = .ok (.dup, 1) := by decide +kernel
theorem d1_153 : decode method_3_code 153 = .ok (.iconst 1, 1) := by decide +kernel
theorem d1_154 : decode method_3_code 154 = .ok (.aload_n 0, 1) := by decide +kernel
theorem d1_155 : decode method_3_code 155 = .ok (.iconst 1, 1) := by decide +kernel
theorem d1_156 : decode method_3_code 156 = .ok (.caload, 1) := by decide +kernel
theorem d1_157 : decode method_3_code 157 = .ok (.castore, 1) := by decide +kernel
theorem d1_158 : decode method_3_code 158 = .ok (.dup, 1) := by decide +kernel
theorem d1_159 : decode method_3_code 159 = .ok (.iconst 2, 1) := by decide +kernel
theorem d1_160 : decode method_3_code 160 = .ok (.aload_n 0, 1) := by decide +kernel
theorem d1_161 : decode method_3_code 161 = .ok (.iconst 2, 1) := by decide +kernel
theorem d1_162 : decode method_3_code 162 = .ok (.caload, 1) := by decide +kernel
theorem d1_163 : decode method_3_code 163 = .ok (.castore, 1) := by decide +kernel
theorem d1_164 : decode method_3_code 164 = .ok (.dup, 1) := by decide +kernel
theorem d1_165 : decode method_3_code 165 = .ok (.iconst 3, 1) := by decide +kernel
theorem d1_166 : decode method_3_code 166 = .ok (.aload_n 0, 1) := by decide +kernel
theorem d1_167 : decode method_3_code 167 = .ok (.iconst 3, 1) := by decide +kernel
theorem d1_168 : decode method_3_code 168 = .ok (.caload, 1) := by decide +kernel
theorem d1_169 : decode method_3_code 169 = .ok (.castore, 1) := by decide +kernel
theorem d1_170 : decode method_3_code 170 = .ok (.dup, 1) := by decide +kernel
theorem d1_171 : decode method_3_code 171 = .ok (.iconst 4, 1) := by decide +kernel
theorem d1_172 : decode method_3_code 172 = .ok (.aload_n 0, 1) := by decide +kernel
theorem d1_173 : decode method_3_code 173 = .ok (.iconst 4, 1) := by decide +kernel
theorem d1_174 : decode method_3_code 174 = .ok (.caload, 1) := by decide +kernel
theorem d1_175 : decode method_3_code 175 = .ok (.castore, 1) := by decide +kernel
theorem d1_176 : decode method_3_code 176 = .ok (.invokespecial 24, 3) := by decide +kernel
theorem d1_179 : decode method_3_code 179 = .ok (.areturn, 1) := by decide +kernel
theorem ef_rm1 (m : MethodId) (a0 : Addr) (p1 : Int32) : entryFrame m #[(.ref a0), (.int p1)] 2 = mkF m 0 #[.val (.ref a0), .val (.int p1)] [] := by first | (simp [entryFrame, mkF, argsToLocals, Value.category]; done) | rfl
def Qrm1 (Z : State) (a0 : Addr) (p1 : Int32) (k0 : Int32) (k1 : Int32) (k2 : Int32) (k3 : Int32) (k4 : Int32) (ka : ClassId) (zc : Int32) (h0 : Heap) (n0 : Nat) (v : Option Value) (h : Heap) (L : List Loc) : Prop := Fr n0 L ∧ Keep h0 h [] ∧ ∃ (x : Addr) (cs : List Int32), v = some (.ref x) ∧ OwnStr Z h x cs
set_option maxRecDepth 65536 in
set_option maxHeartbeats 40000000 in
theorem rm1 (l : Launch) (Z : State) (aw : Array Value) (hw : ∀ d ∈ tables_1, d.before aw Z = true) (ws : List Jvm.Cond) (a0 : Addr) (p1 : Int32) (k0 : Int32) (k1 : Int32) (k2 : Int32) (k3 : Int32) (k4 : Int32) (ka : ClassId) (zc : Int32) (h0 : Heap) (n0 : Nat) (Z0 : n0 ≤ h0.size) (V_a : Arv Z h0 a0 ka .char (5 : Int32) [(.int k0), (.int k1), (.int k2), (.int k3), (.int k4)] (.int (0 : Int32))) (hk0 : OwnCh k0) (hk1 : OwnCh k1) (hk2 : OwnCh k2) (hk3 : OwnCh k3) (hk4 : OwnCh k4) (S_COMPACT_STRINGS : Sta Z h0 "java/lang/String" "COMPACT_STRINGS" "Z" (.int zc)) (hzc : ¬ zc = 0) :
    MetFree l (⟨"org/postline/VocabularyWritingPinLaw", "make", "([CI)Ljava/lang/String;"⟩ : MethodName) (head1 (Jvm.Cond.code (⟨"org/postline/VocabularyWritingPinLaw", "make", "([CI)Ljava/lang/String;"⟩ : MethodName) method_3_code 2 (some (.object "java/lang/String")) :: ws) ({ frames := 4, cells := 6, slots := 14, locals := 66 } : Room)) (fun a U => a = #[(.ref a0), (.int p1)] ∧ Z.Warmed39 U.vm ∧ U.heap = h0 ∧ CHv Z consts_1 U.vm h0 ∧ ∀ x ∈ ([] : List Addr), Safe Z consts_1 U.vm h0 x) (fun _ _ _ _ _ => True) (fun _ U o U' => ∃ v L, o = .returned v ∧ Qrm1 Z a0 p1 k0 k1 k2 k3 k4 ka zc h0 n0 v U'.heap L ∧ CHr Z consts_1 U.vm U.heap U'.vm U'.heap ∧ ReturnedEndW U o U' L ({ frames := 4, cells := 6, slots := 14, locals := 66 } : Room).cells ({ frames := 4, cells := 6, slots := 14, locals := 66 } : Room).slots) := by
  refine MetFree.of_bodySF (plainFor_of_name pn_4) hisR ?_
  intro p e s m args below meth c s₁ Bd hml0 hP hK
  obtain ⟨rfl, hZ, hh, hC0, hSf⟩ := hP
  have hx := Bd.exec
  have hby := Bd.bytes
  have hml : c.maxLocals = 2 := hml0
  have hown : s.vm.findClass "org/postline/VocabularyWritingPinLaw" = some m.cls := findClass_of_methodNamed Bd.named
  have hnm := (name_of_methodNamed Bd.named Bd.method).1
  have X0 : Stand p l e ({ frames := 4, cells := 6, slots := 14, locals := 66 } : Room) s m #[(.ref a0), (.int p1)] below meth c s₁ [] 0 0 := Stand.of_body Bd
  have e0 : s₁.heap = h0 := by rw [← hh, Bd.state]; rfl
  have N0 := Fr.nil n0
  have hlk := Bd.notSynchronized
  show OwnGo p.tables e below _ (s₁.setTop (entryFrame m #[(.ref a0), (.int p1)] 2))
  rw [ef_rm1 m a0 p1]
  have B0 := OwnB.start s h0
  have C0 := CHr.refl hC0
  have K0 : Keep h0 h0 [] := Keep.refl _ _
  show OwnGo p.tables e below _ (s₁.setTop (mkF m 0 #[.val (.ref a0), .val (.int p1)] []))
  refine OwnGo.of (A := s₁.setTop (mkF m 0 #[.val (.ref a0), .val (.int p1)] [])) (B := s₁.setTop (mkF m 1 #[.val (.ref a0), .val (.int p1)] [(.int p1)])) (fun t k => ?_) ?_
  · show Steps p.tables e below (s₁.setTop (mkF m 0 #[.val (.ref a0), .val (.int p1)] [])) t
    refine XS.iloadN X0.here hx rfl (hb hby d1_0) rfl ?_
    exact k
  by_cases hc1 : p1 = (0 : Int32)
  · refine OwnGo.of (A := s₁.setTop (mkF m 1 #[.val (.ref a0), .val (.int p1)] [(.int p1)])) (B := s₁.setTop (mkF m 4 #[.val (.ref a0), .val (.int p1)] [])) (fun t k => ?_) ?_
    · show Steps p.tables e below (s₁.setTop (mkF m 1 #[.val (.ref a0), .val (.int p1)] [(.int p1)])) t
      refine XS.ifNo X0.here hx rfl (hb hby d1_1) rfl ((if0 _ _).trans (teq hc1).2) ?_
      exact k
    obtain ⟨T2, h2, X2, e2, E2, A2, D2, -, st2⟩ := newO X0 hx hZ hown (hw _ (List.mem_of_getElem? (i := 5) rfl)) (hw _ (List.mem_of_getElem? (i := 6) rfl)) (hw _ (List.mem_of_getElem? (i := 7) rfl)) e0 (g := (mkF m 4 #[.val (.ref a0), .val (.int p1)] [])) rfl (hb hby d1_4) (by decide) (by decide)
    obtain ⟨b2, g2⟩ : ∃ z, z = h0.size := ⟨_, rfl⟩
    rw [← g2] at A2 D2 st2
    refine OwnGo.of st2 ?_
    have ne_a0_b2 : a0 ≠ b2 := Nat.ne_of_lt (Nat.lt_of_lt_of_le V_a.lt (Nat.le_of_eq g2.symm))
    have gn_b2 : Safe Z consts_1 s.vm h2 b2 := Safe.ext E2 C0.1 (Safe.new (Nat.le_of_eq g2.symm))
    have g_b2 : n0 ≤ b2 := Nat.le_trans Z0 (Nat.le_of_eq g2.symm)
    have sz_b2 : h0.size ≤ b2 := Nat.le_trans K0.1 (Nat.le_of_eq g2.symm)
    have cs3 := CHr.ext E2 C0.1
    have f4 : n0 ≤ h2.size := Nat.le_trans Z0 E2.1
    have f5 : OwnB s s h2 := B0.ext E2
    have f6 : CHr Z consts_1 s.vm h0 s.vm h2 := C0.trans cs3
    have f7 : Keep h0 h2 [] := K0.ext E2
    have f8 : Arv Z h2 a0 ka .char (5 : Int32) [(.int k0), (.int k1), (.int k2), (.int k3), (.int k4)] (.int (0 : Int32)) := V_a.ext E2
    have f9 : Sta Z h2 "java/lang/String" "COMPACT_STRINGS" "Z" (.int zc) := S_COMPACT_STRINGS.ext E2
    have f10 : Fld Z h2 b2 "java/lang/String" "value" "[B" .null := D2 (Or.inr (hw _ (List.mem_of_getElem? (i := 20) rfl))) (ty := (.array .byte)) (by decide)
    have f11 : Fld Z h2 b2 "java/lang/String" "coder" "B" (.int (0 : Int32)) := D2 (Or.inr (hw _ (List.mem_of_getElem? (i := 21) rfl))) (ty := .byte) (by decide)
    show OwnGo p.tables e below _ (T2.setTop (mkF m 7 #[.val (.ref a0), .val (.int p1)] [(.ref b2)]))
    refine OwnGo.of (A := T2.setTop (mkF m 7 #[.val (.ref a0), .val (.int p1)] [(.ref b2)])) (B := T2.setTop (mkF m 9 #[.val (.ref a0), .val (.int p1)] [(.int (0 : Int32)), (.ref b2), (.ref b2)])) (fun t k => ?_) ?_
    · show Steps p.tables e below (T2.setTop (mkF m 7 #[.val (.ref a0), .val (.int p1)] [(.ref b2)])) t
      refine XS.dup X2.here hx rfl (hb hby d1_7) rfl rfl ?_
      refine XS.iconst X2.here hx rfl (hb hby d1_8) ?_
      exact k
    obtain ⟨T12, h12, k12, X12, e12, E12, A12, st12⟩ := newP X2 hx hZ (hw _ (List.mem_of_getElem? (i := 0) rfl)) e2 (g := (mkF m 9 #[.val (.ref a0), .val (.int p1)] [(.int (0 : Int32)), (.ref b2), (.ref b2)])) rfl (hb hby d1_9) rfl (by decide) (cap := 0) (by decide) (by decide) (by decide) (by decide)
    obtain ⟨b12, g12⟩ : ∃ z, z = h2.size := ⟨_, rfl⟩
    rw [← g12] at A12 st12
    refine OwnGo.of st12 ?_
    have ne_a0_b12 : a0 ≠ b12 := Nat.ne_of_lt (Nat.lt_of_lt_of_le f8.lt (Nat.le_of_eq g12.symm))
    have ne_b2_b12 : b2 ≠ b12 := Nat.ne_of_lt (Nat.lt_of_lt_of_le A2.lt (Nat.le_of_eq g12.symm))
    have gn_b12 : Safe Z consts_1 s.vm h12 b12 := Safe.ext E12 f6.1 (Safe.new (Nat.le_of_eq g12.symm))
    have g_b12 : n0 ≤ b12 := Nat.le_trans f4 (Nat.le_of_eq g12.symm)
    have sz_b12 : h0.size ≤ b12 := Nat.le_trans f7.1 (Nat.le_of_eq g12.symm)
    have cs13 := CHr.ext E12 f6.1
    have f14 : n0 ≤ h12.size := Nat.le_trans f4 E12.1
    have f15 : OwnB s s h12 := f5.ext E12
    have f16 : CHr Z consts_1 s.vm h0 s.vm h12 := f6.trans cs13
    have f17 : Keep h0 h12 [] := f7.ext E12
    have f18 : Arv Z h12 a0 ka .char (5 : Int32) [(.int k0), (.int k1), (.int k2), (.int k3), (.int k4)] (.int (0 : Int32)) := f8.ext E12
    have f19 : Sta Z h12 "java/lang/String" "COMPACT_STRINGS" "Z" (.int zc) := f9.ext E12
    have f20 : Safe Z consts_1 s.vm h12 b2 := cs13.safe A2.lt gn_b2
    have f21 : Exa Z h12 b2 "java/lang/String" := A2.ext E12
    have f22 : Fld Z h12 b2 "java/lang/String" "value" "[B" .null := f10.ext E12
    have f23 : Fld Z h12 b2 "java/lang/String" "coder" "B" (.int (0 : Int32)) := f11.ext E12
    have f24 : Arv Z h12 b12 k12 .char (0 : Int32) [] (.int (0 : Int32)) := (Arv.new A12 (by decide)).pad (pad_rep [] (.int (0 : Int32)) 0)
    show OwnGo p.tables e below _ (T12.setTop (mkF m 11 #[.val (.ref a0), .val (.int p1)] [(.ref b12), (.ref b2), (.ref b2)]))
    obtain ⟨s25, T25, L25, v25, X25, hQ25, B25, hZ, hown, cs25, st25⟩ := own_callIW (s := s) X12 hx (y := (⟨"java/lang/String", "<init>", "([C)V"⟩ : MethodName)) rfl hown (mvT hZ (hw _ (List.mem_of_getElem? (i := 8) rfl))) (mvT hZ (hw _ (List.mem_of_getElem? (i := 9) rfl))) (mvT hZ (hw _ (List.mem_of_getElem? (i := 10) rfl))) (by decide) hZ f15 (own_backW (W := 1) (ws := [b2]) (rm2 l Z aw hw [] b2 b12 k12 h12 n0 f14 f21 f22 f23 g_b2 f24 (Ne.symm ne_b2_b12)) hZ (hw _ (List.mem_of_getElem? (i := 10) rfl)) (hw _ (List.mem_of_getElem? (i := 7) rfl)) (by decide) (by decide) (own_EW hw) f16.1 (allS ⟨f21.lt, f20⟩ all0)) (g := (mkF m 11 #[.val (.ref a0), .val (.int p1)] [(.ref b12), (.ref b2), (.ref b2)])) rfl (by rw [hml]; rfl) (a := b2) (argsL := [(.ref b12)]) (rest := [(.ref b2)]) (lenOf pd_3 rfl) rfl (by show 2 * 0 + _ ≤ _; exact Nat.le_of_eq rfl) (hb hby d1_11) rfl e12 (by decide) (by decide)
    obtain ⟨rfl, N25q, K25, y25E, y25C, t25, kb25, y25V, y25A⟩ := hQ25
    have f26 : n0 ≤ T25.heap.size := Nat.le_trans f14 K25.1
    have f27 : CHr Z consts_1 s.vm h0 s25.vm T25.heap := f16.trans cs25
    have f28 : Keep h0 T25.heap [] := f17.trans K25 (allS (Or.inr sz_b2) all0)
    have f29 : Arv Z T25.heap a0 ka .char (5 : Int32) [(.int k0), (.int k1), (.int k2), (.int k3), (.int k4)] (.int (0 : Int32)) := f18.keep K25 (ninS ne_a0_b2 nin0)
    have f30 : Sta Z T25.heap "java/lang/String" "COMPACT_STRINGS" "Z" (.int zc) := own_sta_keep f19 K25 (allS (own_ns_exa f21) all0)
    have f31 : Safe Z consts_1 s25.vm T25.heap b2 := cs25.safe f21.lt f20
    have f32 : Exa Z T25.heap b2 "java/lang/String" := f21.keep K25
    have f33 : Safe Z consts_1 s25.vm T25.heap b12 := cs25.safe f24.lt gn_b12
    have f34 : Arv Z T25.heap b12 k12 .char (0 : Int32) [] (.int (0 : Int32)) := f24.keep K25 (ninS (Ne.symm ne_b2_b12) nin0)
    have N25 := Fr.app N0 N25q
    refine OwnGo.of st25 ?_
    show OwnGo p.tables e below _ (T25.setTop (mkF m 14 #[.val (.ref a0), .val (.int p1)] [(.ref b2)]))
    obtain ⟨fs, hr, hrun, hended, hRW⟩ := own_leaveW X25 B25 rfl (v := some (.ref b2)) (fun h => by rw [Bd.returns] at h; cases h) hlk
    refine ⟨_, _, ?_, hrun, hended, _, _, rfl, ?_, own_endW X25 hZ (own_EW hw) rfl hh f27 fs, own_monoW hRW (by decide) (by decide)⟩
    · show Steps p.tables e below (T25.setTop (mkF m 14 #[.val (.ref a0), .val (.int p1)] [(.ref b2)])) _
      exact own_retA X25 hx Bd.returns rfl rfl rfl (hb hby d1_14) hr
    · show Qrm1 Z a0 p1 k0 k1 k2 k3 k4 ka zc h0 n0 _ (T25.setFrames fs).heap _
      rw [show (T25.setFrames fs).heap = T25.heap from rfl]
      exact ⟨N25, f28, b2, [], rfl, _, _, _, _, _, y25E, y25V, y25C, y25A, own_litcod rfl rfl own_h0, own_h0, Nat.le_of_ble_eq_true rfl⟩
  · refine OwnGo.of (A := s₁.setTop (mkF m 1 #[.val (.ref a0), .val (.int p1)] [(.int p1)])) (B := s₁.setTop (mkF m 17 #[.val (.ref a0), .val (.int p1)] [(.int (1 : Int32)), (.int p1)])) (fun t k => ?_) ?_
    · show Steps p.tables e below (s₁.setTop (mkF m 1 #[.val (.ref a0), .val (.int p1)] [(.int p1)])) t
      refine XS.ifYes X0.here hx rfl (pc0 := 1) (pc' := 15) rfl (hb hby d1_1) rfl ((if0 _ _).trans (feq hc1).2) (by decide) (by decide) ?_
      refine XS.iloadN X0.here hx rfl (hb hby d1_15) rfl ?_
      refine XS.iconst X0.here hx rfl (hb hby d1_16) ?_
      exact k
    by_cases hc35 : p1 = (1 : Int32)
    · refine OwnGo.of (A := s₁.setTop (mkF m 17 #[.val (.ref a0), .val (.int p1)] [(.int (1 : Int32)), (.int p1)])) (B := s₁.setTop (mkF m 20 #[.val (.ref a0), .val (.int p1)] [])) (fun t k => ?_) ?_
      · show Steps p.tables e below (s₁.setTop (mkF m 17 #[.val (.ref a0), .val (.int p1)] [(.int (1 : Int32)), (.int p1)])) t
        refine XS.icmpNo X0.here hx rfl (hb hby d1_17) rfl (teq hc35).2 ?_
        exact k
      obtain ⟨T36, h36, X36, e36, E36, A36, D36, -, st36⟩ := newO X0 hx hZ hown (hw _ (List.mem_of_getElem? (i := 5) rfl)) (hw _ (List.mem_of_getElem? (i := 6) rfl)) (hw _ (List.mem_of_getElem? (i := 7) rfl)) e0 (g := (mkF m 20 #[.val (.ref a0), .val (.int p1)] [])) rfl (hb hby d1_20) (by decide) (by decide)
      obtain ⟨b36, g36⟩ : ∃ z, z = h0.size := ⟨_, rfl⟩
      rw [← g36] at A36 D36 st36
      refine OwnGo.of st36 ?_
      have ne_a0_b36 : a0 ≠ b36 := Nat.ne_of_lt (Nat.lt_of_lt_of_le V_a.lt (Nat.le_of_eq g36.symm))
      have gn_b36 : Safe Z consts_1 s.vm h36 b36 := Safe.ext E36 C0.1 (Safe.new (Nat.le_of_eq g36.symm))
      have g_b36 : n0 ≤ b36 := Nat.le_trans Z0 (Nat.le_of_eq g36.symm)
      have sz_b36 : h0.size ≤ b36 := Nat.le_trans K0.1 (Nat.le_of_eq g36.symm)
      have cs37 := CHr.ext E36 C0.1
      have f38 : n0 ≤ h36.size := Nat.le_trans Z0 E36.1
      have f39 : OwnB s s h36 := B0.ext E36
      have f40 : CHr Z consts_1 s.vm h0 s.vm h36 := C0.trans cs37
      have f41 : Keep h0 h36 [] := K0.ext E36
      have f42 : Arv Z h36 a0 ka .char (5 : Int32) [(.int k0), (.int k1), (.int k2), (.int k3), (.int k4)] (.int (0 : Int32)) := V_a.ext E36
      have f43 : Sta Z h36 "java/lang/String" "COMPACT_STRINGS" "Z" (.int zc) := S_COMPACT_STRINGS.ext E36
      have f44 : Fld Z h36 b36 "java/lang/String" "value" "[B" .null := D36 (Or.inr (hw _ (List.mem_of_getElem? (i := 20) rfl))) (ty := (.array .byte)) (by decide)
      have f45 : Fld Z h36 b36 "java/lang/String" "coder" "B" (.int (0 : Int32)) := D36 (Or.inr (hw _ (List.mem_of_getElem? (i := 21) rfl))) (ty := .byte) (by decide)
      show OwnGo p.tables e below _ (T36.setTop (mkF m 23 #[.val (.ref a0), .val (.int p1)] [(.ref b36)]))
      refine OwnGo.of (A := T36.setTop (mkF m 23 #[.val (.ref a0), .val (.int p1)] [(.ref b36)])) (B := T36.setTop (mkF m 25 #[.val (.ref a0), .val (.int p1)] [(.int (1 : Int32)), (.ref b36), (.ref b36)])) (fun t k => ?_) ?_
      · show Steps p.tables e below (T36.setTop (mkF m 23 #[.val (.ref a0), .val (.int p1)] [(.ref b36)])) t
        refine XS.dup X36.here hx rfl (hb hby d1_23) rfl rfl ?_
        refine XS.iconst X36.here hx rfl (hb hby d1_24) ?_
        exact k
      obtain ⟨T46, h46, k46, X46, e46, E46, A46, st46⟩ := newP X36 hx hZ (hw _ (List.mem_of_getElem? (i := 0) rfl)) e36 (g := (mkF m 25 #[.val (.ref a0), .val (.int p1)] [(.int (1 : Int32)), (.ref b36), (.ref b36)])) rfl (hb hby d1_25) rfl (by decide) (cap := 1) (by decide) (by decide) (by decide) (by decide)
      obtain ⟨b46, g46⟩ : ∃ z, z = h36.size := ⟨_, rfl⟩
      rw [← g46] at A46 st46
      refine OwnGo.of st46 ?_
      have ne_a0_b46 : a0 ≠ b46 := Nat.ne_of_lt (Nat.lt_of_lt_of_le f42.lt (Nat.le_of_eq g46.symm))
      have ne_b36_b46 : b36 ≠ b46 := Nat.ne_of_lt (Nat.lt_of_lt_of_le A36.lt (Nat.le_of_eq g46.symm))
      have gn_b46 : Safe Z consts_1 s.vm h46 b46 := Safe.ext E46 f40.1 (Safe.new (Nat.le_of_eq g46.symm))
      have g_b46 : n0 ≤ b46 := Nat.le_trans f38 (Nat.le_of_eq g46.symm)
      have sz_b46 : h0.size ≤ b46 := Nat.le_trans f41.1 (Nat.le_of_eq g46.symm)
      have cs47 := CHr.ext E46 f40.1
      have f48 : n0 ≤ h46.size := Nat.le_trans f38 E46.1
      have f49 : OwnB s s h46 := f39.ext E46
      have f50 : CHr Z consts_1 s.vm h0 s.vm h46 := f40.trans cs47
      have f51 : Keep h0 h46 [] := f41.ext E46
      have f52 : Arv Z h46 a0 ka .char (5 : Int32) [(.int k0), (.int k1), (.int k2), (.int k3), (.int k4)] (.int (0 : Int32)) := f42.ext E46
      have f53 : Sta Z h46 "java/lang/String" "COMPACT_STRINGS" "Z" (.int zc) := f43.ext E46
      have f54 : Safe Z consts_1 s.vm h46 b36 := cs47.safe A36.lt gn_b36
      have f55 : Exa Z h46 b36 "java/lang/String" := A36.ext E46
      have f56 : Fld Z h46 b36 "java/lang/String" "value" "[B" .null := f44.ext E46
      have f57 : Fld Z h46 b36 "java/lang/String" "coder" "B" (.int (0 : Int32)) := f45.ext E46
      have f58 : Arv Z h46 b46 k46 .char (1 : Int32) [(.int (0 : Int32))] (.int (0 : Int32)) := (Arv.new A46 (by decide)).pad (pad_rep [] (.int (0 : Int32)) 1)
      show OwnGo p.tables e below _ (T46.setTop (mkF m 27 #[.val (.ref a0), .val (.int p1)] [(.ref b46), (.ref b36), (.ref b36)]))
      refine OwnGo.of (A := T46.setTop (mkF m 27 #[.val (.ref a0), .val (.int p1)] [(.ref b46), (.ref b36), (.ref b36)])) (B := T46.setTop (mkF m 31 #[.val (.ref a0), .val (.int p1)] [(.int (0 : Int32)), (.ref a0), (.int (0 : Int32)), (.ref b46), (.ref b46), (.ref b36), (.ref b36)])) (fun t k => ?_) ?_
      · show Steps p.tables e below (T46.setTop (mkF m 27 #[.val (.ref a0), .val (.int p1)] [(.ref b46), (.ref b36), (.ref b36)])) t
        refine XS.dup X46.here hx rfl (hb hby d1_27) rfl rfl ?_
        refine XS.iconst X46.here hx rfl (hb hby d1_28) ?_
        refine XS.aloadN X46.here hx rfl (hb hby d1_29) rfl rfl ?_
        refine XS.iconst X46.here hx rfl (hb hby d1_30) ?_
        exact k
      have cq59 := f52
      obtain ⟨clq59, Arq59, qq59, Sq59, Nq59, Hq59, Gq59⟩ := cq59
      have hinq59 := inb_of (j := (0 : Int32)) Sq59 ⟨by decide, by decide⟩
      refine OwnGo.of (X46.caload hx (j := (0 : Int32)) (v := (.int k0)) (by rw [e46]; exact Arq59.1) (State.isArrayOf_alike hZ.alike Arq59.2.1) Arq59.2.2 hinq59 (Hq59.at hinq59 rfl) (g := (mkF m 31 #[.val (.ref a0), .val (.int p1)] [(.int (0 : Int32)), (.ref a0), (.int (0 : Int32)), (.ref b46), (.ref b46), (.ref b36), (.ref b36)])) rfl rfl (hb hby d1_31)) ?_
      show OwnGo p.tables e below _ (T46.setTop (mkF m 32 #[.val (.ref a0), .val (.int p1)] [(.int k0), (.int (0 : Int32)), (.ref b46), (.ref b46), (.ref b36), (.ref b36)]))
      have cq60 := f58
      obtain ⟨clq60, Arq60, qq60, Sq60, Nq60, Hq60, Gq60⟩ := cq60
      obtain ⟨T61, h61, X61, e61, W61, st61⟩ := stC X46 hx hZ e46 Arq60 (j := (0 : Int32)) (inb_of Sq60 ⟨by decide, by decide⟩) (g := (mkF m 32 #[.val (.ref a0), .val (.int p1)] [(.int k0), (.int (0 : Int32)), (.ref b46), (.ref b46), (.ref b36), (.ref b36)])) rfl rfl (hb hby d1_32)
      refine OwnGo.of st61 ?_
      have N61 := Fr.snoc X61 N0 g_b46
      have cs62 := CHr.wr W61 gn_b46 f50.1
      have f63 : n0 ≤ h61.size := Nat.le_trans f48 (Keep.of_wr W61).1
      have f64 : OwnB s s h61 := f49.wr W61
      have f65 : CHr Z consts_1 s.vm h0 s.vm h61 := f50.trans cs62
      have f66 : Keep h0 h61 [] := f51.wr W61 (Or.inr sz_b46)
      have f67 : Arv Z h61 a0 ka .char (5 : Int32) [(.int k0), (.int k1), (.int k2), (.int k3), (.int k4)] (.int (0 : Int32)) := f52.other W61 ne_a0_b46
      have f68 : Sta Z h61 "java/lang/String" "COMPACT_STRINGS" "Z" (.int zc) := f53.wr W61
      have f69 : Safe Z consts_1 s.vm h61 b36 := cs62.safe f55.lt f54
      have f70 : Exa Z h61 b36 "java/lang/String" := f55.wr W61
      have f71 : Fld Z h61 b36 "java/lang/String" "value" "[B" .null := f56.other W61 (Or.inl ne_b36_b46)
      have f72 : Fld Z h61 b36 "java/lang/String" "coder" "B" (.int (0 : Int32)) := f57.other W61 (Or.inl ne_b36_b46)
      have f73 : Safe Z consts_1 s.vm h61 b46 := cs62.safe f58.lt gn_b46
      have f74 : Arv Z h61 b46 k46 .char (1 : Int32) [(.int (k0).toUInt32.toUInt16.toUInt32.toInt32)] (.int (0 : Int32)) := Arv.set Arq60 qq60 Sq60 Nq60 Hq60 Gq60 (fits_nar_char _) W61 0 rfl (Nat.le_of_ble_eq_true rfl)
      show OwnGo p.tables e below _ (T61.setTop (mkF m 33 #[.val (.ref a0), .val (.int p1)] [(.ref b46), (.ref b36), (.ref b36)]))
      have hp_b36 : ∀ c ∈ ([(k0).toUInt32.toUInt16.toUInt32.toInt32] : List Int32), ¬ c < 0 ∧ ¬ (255 : Int32) < c := (own_hS (own_ch hk0) own_h0)
      obtain ⟨T75, L75, v75, X75, hQ75, st75⟩ := own_callI X61 hx (y := (⟨"java/lang/String", "<init>", "([C)V"⟩ : MethodName)) rfl hown (mvT hZ (hw _ (List.mem_of_getElem? (i := 8) rfl))) (mvT hZ (hw _ (List.mem_of_getElem? (i := 9) rfl))) (mvT hZ (hw _ (List.mem_of_getElem? (i := 10) rfl))) (by decide) (StrChars.Road.backV (W := 1) hZ (own_ws hw) (kI := 4) (hw _ (List.mem_of_getElem? (i := 6) rfl)) (cs := ([(k0).toUInt32.toUInt16.toUInt32.toInt32] : List Int32)) (bs := (([(k0).toUInt32.toUInt16.toUInt32.toInt32] : List Int32)).map (fun c => c.toInt8.toInt32)) (n := 1) g_b36 f63 f70 f71 f72 f74 f68 hzc rfl rfl (by decide) (by decide) hp_b36 rfl (by decide) (by decide)) (g := (mkF m 33 #[.val (.ref a0), .val (.int p1)] [(.ref b46), (.ref b36), (.ref b36)])) rfl (by rw [hml]; rfl) (a := b36) (argsL := [(.ref b46)]) (rest := [(.ref b36)]) (lenOf pd_3 rfl) rfl (by show 2 * 0 + _ ≤ _; exact Nat.le_of_eq rfl) (hb hby d1_33) rfl e61 (by decide) (by decide)
      obtain ⟨rfl, N75q, K75, y75E, y75C, t75, kb75, -, -, -, y75V, y75A⟩ := hQ75
      have cs76 := CHr.keep K75 (allS f69 all0) f65.1
      have f77 : n0 ≤ T75.heap.size := Nat.le_trans f63 K75.1
      have f78 : OwnB s s T75.heap := f64.keep K75
      have f79 : CHr Z consts_1 s.vm h0 s.vm T75.heap := f65.trans cs76
      have f80 : Keep h0 T75.heap [] := f66.trans K75 (allS (Or.inr sz_b36) all0)
      have f81 : Arv Z T75.heap a0 ka .char (5 : Int32) [(.int k0), (.int k1), (.int k2), (.int k3), (.int k4)] (.int (0 : Int32)) := f67.keep K75 (ninS ne_a0_b36 nin0)
      have f82 : Sta Z T75.heap "java/lang/String" "COMPACT_STRINGS" "Z" (.int zc) := own_sta_keep f68 K75 (allS (own_ns_exa f70) all0)
      have f83 : Safe Z consts_1 s.vm T75.heap b36 := cs76.safe f70.lt f69
      have f84 : Exa Z T75.heap b36 "java/lang/String" := f70.keep K75
      have f85 : Safe Z consts_1 s.vm T75.heap b46 := cs76.safe f74.lt f73
      have f86 : Arv Z T75.heap b46 k46 .char (1 : Int32) [(.int (k0).toUInt32.toUInt16.toUInt32.toInt32)] (.int (0 : Int32)) := f74.keep K75 (ninS (Ne.symm ne_b36_b46) nin0)
      have N75 := Fr.app N61 N75q
      refine OwnGo.of st75 ?_
      show OwnGo p.tables e below _ (T75.setTop (mkF m 36 #[.val (.ref a0), .val (.int p1)] [(.ref b36)]))
      obtain ⟨fs, hr, hrun, hended, hRW⟩ := own_leaveW X75 f78 rfl (v := some (.ref b36)) (fun h => by rw [Bd.returns] at h; cases h) hlk
      refine ⟨_, _, ?_, hrun, hended, _, _, rfl, ?_, own_endW X75 hZ (own_EW hw) rfl hh f79 fs, own_monoW hRW (by decide) (by decide)⟩
      · show Steps p.tables e below (T75.setTop (mkF m 36 #[.val (.ref a0), .val (.int p1)] [(.ref b36)])) _
        exact own_retA X75 hx Bd.returns rfl rfl rfl (hb hby d1_36) hr
      · show Qrm1 Z a0 p1 k0 k1 k2 k3 k4 ka zc h0 n0 _ (T75.setFrames fs).heap _
        rw [show (T75.setFrames fs).heap = T75.heap from rfl]
        exact ⟨N75, f80, b36, [(k0).toUInt32.toUInt16.toUInt32.toInt32], rfl, _, _, _, _, _, y75E, y75V, y75C, y75A, StrChars.Road.codOf (n := 1) rfl (fun c hc => (hp_b36 c hc).2), own_up hp_b36, Nat.le_of_ble_eq_true rfl⟩
    · refine OwnGo.of (A := s₁.setTop (mkF m 17 #[.val (.ref a0), .val (.int p1)] [(.int (1 : Int32)), (.int p1)])) (B := s₁.setTop (mkF m 39 #[.val (.ref a0), .val (.int p1)] [(.int (2 : Int32)), (.int p1)])) (fun t k => ?_) ?_
      · show Steps p.tables e below (s₁.setTop (mkF m 17 #[.val (.ref a0), .val (.int p1)] [(.int (1 : Int32)), (.int p1)])) t
        refine XS.icmpYes X0.here hx rfl (pc0 := 17) (pc' := 37) rfl (hb hby d1_17) rfl (feq hc35).2 (by decide) (by decide) ?_
        refine XS.iloadN X0.here hx rfl (hb hby d1_37) rfl ?_
        refine XS.iconst X0.here hx rfl (hb hby d1_38) ?_
        exact k
      by_cases hc87 : p1 = (2 : Int32)
      · refine OwnGo.of (A := s₁.setTop (mkF m 39 #[.val (.ref a0), .val (.int p1)] [(.int (2 : Int32)), (.int p1)])) (B := s₁.setTop (mkF m 42 #[.val (.ref a0), .val (.int p1)] [])) (fun t k => ?_) ?_
        · show Steps p.tables e below (s₁.setTop (mkF m 39 #[.val (.ref a0), .val (.int p1)] [(.int (2 : Int32)), (.int p1)])) t
          refine XS.icmpNo X0.here hx rfl (hb hby d1_39) rfl (teq hc87).2 ?_
          exact k
        obtain ⟨T88, h88, X88, e88, E88, A88, D88, -, st88⟩ := newO X0 hx hZ hown (hw _ (List.mem_of_getElem? (i := 5) rfl)) (hw _ (List.mem_of_getElem? (i := 6) rfl)) (hw _ (List.mem_of_getElem? (i := 7) rfl)) e0 (g := (mkF m 42 #[.val (.ref a0), .val (.int p1)] [])) rfl (hb hby d1_42) (by decide) (by decide)
        obtain ⟨b88, g88⟩ : ∃ z, z = h0.size := ⟨_, rfl⟩
        rw [← g88] at A88 D88 st88
        refine OwnGo.of st88 ?_
        have ne_a0_b88 : a0 ≠ b88 := Nat.ne_of_lt (Nat.lt_of_lt_of_le V_a.lt (Nat.le_of_eq g88.symm))
        have gn_b88 : Safe Z consts_1 s.vm h88 b88 := Safe.ext E88 C0.1 (Safe.new (Nat.le_of_eq g88.symm))
        have g_b88 : n0 ≤ b88 := Nat.le_trans Z0 (Nat.le_of_eq g88.symm)
        have sz_b88 : h0.size ≤ b88 := Nat.le_trans K0.1 (Nat.le_of_eq g88.symm)
        have cs89 := CHr.ext E88 C0.1
        have f90 : n0 ≤ h88.size := Nat.le_trans Z0 E88.1
        have f91 : OwnB s s h88 := B0.ext E88
        have f92 : CHr Z consts_1 s.vm h0 s.vm h88 := C0.trans cs89
        have f93 : Keep h0 h88 [] := K0.ext E88
        have f94 : Arv Z h88 a0 ka .char (5 : Int32) [(.int k0), (.int k1), (.int k2), (.int k3), (.int k4)] (.int (0 : Int32)) := V_a.ext E88
        have f95 : Sta Z h88 "java/lang/String" "COMPACT_STRINGS" "Z" (.int zc) := S_COMPACT_STRINGS.ext E88
        have f96 : Fld Z h88 b88 "java/lang/String" "value" "[B" .null := D88 (Or.inr (hw _ (List.mem_of_getElem? (i := 20) rfl))) (ty := (.array .byte)) (by decide)
        have f97 : Fld Z h88 b88 "java/lang/String" "coder" "B" (.int (0 : Int32)) := D88 (Or.inr (hw _ (List.mem_of_getElem? (i := 21) rfl))) (ty := .byte) (by decide)
        show OwnGo p.tables e below _ (T88.setTop (mkF m 45 #[.val (.ref a0), .val (.int p1)] [(.ref b88)]))
        refine OwnGo.of (A := T88.setTop (mkF m 45 #[.val (.ref a0), .val (.int p1)] [(.ref b88)])) (B := T88.setTop (mkF m 47 #[.val (.ref a0), .val (.int p1)] [(.int (2 : Int32)), (.ref b88), (.ref b88)])) (fun t k => ?_) ?_
        · show Steps p.tables e below (T88.setTop (mkF m 45 #[.val (.ref a0), .val (.int p1)] [(.ref b88)])) t
          refine XS.dup X88.here hx rfl (hb hby d1_45) rfl rfl ?_
          refine XS.iconst X88.here hx rfl (hb hby d1_46) ?_
          exact k
        obtain ⟨T98, h98, k98, X98, e98, E98, A98, st98⟩ := newP X88 hx hZ (hw _ (List.mem_of_getElem? (i := 0) rfl)) e88 (g := (mkF m 47 #[.val (.ref a0), .val (.int p1)] [(.int (2 : Int32)), (.ref b88), (.ref b88)])) rfl (hb hby d1_47) rfl (by decide) (cap := 2) (by decide) (by decide) (by decide) (by decide)
        obtain ⟨b98, g98⟩ : ∃ z, z = h88.size := ⟨_, rfl⟩
        rw [← g98] at A98 st98
        refine OwnGo.of st98 ?_
        have ne_a0_b98 : a0 ≠ b98 := Nat.ne_of_lt (Nat.lt_of_lt_of_le f94.lt (Nat.le_of_eq g98.symm))
        have ne_b88_b98 : b88 ≠ b98 := Nat.ne_of_lt (Nat.lt_of_lt_of_le A88.lt (Nat.le_of_eq g98.symm))
        have gn_b98 : Safe Z consts_1 s.vm h98 b98 := Safe.ext E98 f92.1 (Safe.new (Nat.le_of_eq g98.symm))
        have g_b98 : n0 ≤ b98 := Nat.le_trans f90 (Nat.le_of_eq g98.symm)
        have sz_b98 : h0.size ≤ b98 := Nat.le_trans f93.1 (Nat.le_of_eq g98.symm)
        have cs99 := CHr.ext E98 f92.1
        have f100 : n0 ≤ h98.size := Nat.le_trans f90 E98.1
        have f101 : OwnB s s h98 := f91.ext E98
        have f102 : CHr Z consts_1 s.vm h0 s.vm h98 := f92.trans cs99
        have f103 : Keep h0 h98 [] := f93.ext E98
        have f104 : Arv Z h98 a0 ka .char (5 : Int32) [(.int k0), (.int k1), (.int k2), (.int k3), (.int k4)] (.int (0 : Int32)) := f94.ext E98
        have f105 : Sta Z h98 "java/lang/String" "COMPACT_STRINGS" "Z" (.int zc) := f95.ext E98
        have f106 : Safe Z consts_1 s.vm h98 b88 := cs99.safe A88.lt gn_b88
        have f107 : Exa Z h98 b88 "java/lang/String" := A88.ext E98
        have f108 : Fld Z h98 b88 "java/lang/String" "value" "[B" .null := f96.ext E98
        have f109 : Fld Z h98 b88 "java/lang/String" "coder" "B" (.int (0 : Int32)) := f97.ext E98
        have f110 : Arv Z h98 b98 k98 .char (2 : Int32) [(.int (0 : Int32)), (.int (0 : Int32))] (.int (0 : Int32)) := (Arv.new A98 (by decide)).pad (pad_rep [] (.int (0 : Int32)) 2)
        show OwnGo p.tables e below _ (T98.setTop (mkF m 49 #[.val (.ref a0), .val (.int p1)] [(.ref b98), (.ref b88), (.ref b88)]))
        refine OwnGo.of (A := T98.setTop (mkF m 49 #[.val (.ref a0), .val (.int p1)] [(.ref b98), (.ref b88), (.ref b88)])) (B := T98.setTop (mkF m 53 #[.val (.ref a0), .val (.int p1)] [(.int (0 : Int32)), (.ref a0), (.int (0 : Int32)), (.ref b98), (.ref b98), (.ref b88), (.ref b88)])) (fun t k => ?_) ?_
        · show Steps p.tables e below (T98.setTop (mkF m 49 #[.val (.ref a0), .val (.int p1)] [(.ref b98), (.ref b88), (.ref b88)])) t
          refine XS.dup X98.here hx rfl (hb hby d1_49) rfl rfl ?_
          refine XS.iconst X98.here hx rfl (hb hby d1_50) ?_
          refine XS.aloadN X98.here hx rfl (hb hby d1_51) rfl rfl ?_
          refine XS.iconst X98.here hx rfl (hb hby d1_52) ?_
          exact k
        have cq111 := f104
        obtain ⟨clq111, Arq111, qq111, Sq111, Nq111, Hq111, Gq111⟩ := cq111
        have hinq111 := inb_of (j := (0 : Int32)) Sq111 ⟨by decide, by decide⟩
        refine OwnGo.of (X98.caload hx (j := (0 : Int32)) (v := (.int k0)) (by rw [e98]; exact Arq111.1) (State.isArrayOf_alike hZ.alike Arq111.2.1) Arq111.2.2 hinq111 (Hq111.at hinq111 rfl) (g := (mkF m 53 #[.val (.ref a0), .val (.int p1)] [(.int (0 : Int32)), (.ref a0), (.int (0 : Int32)), (.ref b98), (.ref b98), (.ref b88), (.ref b88)])) rfl rfl (hb hby d1_53)) ?_
        show OwnGo p.tables e below _ (T98.setTop (mkF m 54 #[.val (.ref a0), .val (.int p1)] [(.int k0), (.int (0 : Int32)), (.ref b98), (.ref b98), (.ref b88), (.ref b88)]))
        have cq112 := f110
        obtain ⟨clq112, Arq112, qq112, Sq112, Nq112, Hq112, Gq112⟩ := cq112
        obtain ⟨T113, h113, X113, e113, W113, st113⟩ := stC X98 hx hZ e98 Arq112 (j := (0 : Int32)) (inb_of Sq112 ⟨by decide, by decide⟩) (g := (mkF m 54 #[.val (.ref a0), .val (.int p1)] [(.int k0), (.int (0 : Int32)), (.ref b98), (.ref b98), (.ref b88), (.ref b88)])) rfl rfl (hb hby d1_54)
        refine OwnGo.of st113 ?_
        have N113 := Fr.snoc X113 N0 g_b98
        have cs114 := CHr.wr W113 gn_b98 f102.1
        have f115 : n0 ≤ h113.size := Nat.le_trans f100 (Keep.of_wr W113).1
        have f116 : OwnB s s h113 := f101.wr W113
        have f117 : CHr Z consts_1 s.vm h0 s.vm h113 := f102.trans cs114
        have f118 : Keep h0 h113 [] := f103.wr W113 (Or.inr sz_b98)
        have f119 : Arv Z h113 a0 ka .char (5 : Int32) [(.int k0), (.int k1), (.int k2), (.int k3), (.int k4)] (.int (0 : Int32)) := f104.other W113 ne_a0_b98
        have f120 : Sta Z h113 "java/lang/String" "COMPACT_STRINGS" "Z" (.int zc) := f105.wr W113
        have f121 : Safe Z consts_1 s.vm h113 b88 := cs114.safe f107.lt f106
        have f122 : Exa Z h113 b88 "java/lang/String" := f107.wr W113
        have f123 : Fld Z h113 b88 "java/lang/String" "value" "[B" .null := f108.other W113 (Or.inl ne_b88_b98)
        have f124 : Fld Z h113 b88 "java/lang/String" "coder" "B" (.int (0 : Int32)) := f109.other W113 (Or.inl ne_b88_b98)
        have f125 : Safe Z consts_1 s.vm h113 b98 := cs114.safe f110.lt gn_b98
        have f126 : Arv Z h113 b98 k98 .char (2 : Int32) [(.int (k0).toUInt32.toUInt16.toUInt32.toInt32), (.int (0 : Int32))] (.int (0 : Int32)) := Arv.set Arq112 qq112 Sq112 Nq112 Hq112 Gq112 (fits_nar_char _) W113 0 rfl (Nat.le_of_ble_eq_true rfl)
        show OwnGo p.tables e below _ (T113.setTop (mkF m 55 #[.val (.ref a0), .val (.int p1)] [(.ref b98), (.ref b88), (.ref b88)]))
        refine OwnGo.of (A := T113.setTop (mkF m 55 #[.val (.ref a0), .val (.int p1)] [(.ref b98), (.ref b88), (.ref b88)])) (B := T113.setTop (mkF m 59 #[.val (.ref a0), .val (.int p1)] [(.int (1 : Int32)), (.ref a0), (.int (1 : Int32)), (.ref b98), (.ref b98), (.ref b88), (.ref b88)])) (fun t k => ?_) ?_
        · show Steps p.tables e below (T113.setTop (mkF m 55 #[.val (.ref a0), .val (.int p1)] [(.ref b98), (.ref b88), (.ref b88)])) t
          refine XS.dup X113.here hx rfl (hb hby d1_55) rfl rfl ?_
          refine XS.iconst X113.here hx rfl (hb hby d1_56) ?_
          refine XS.aloadN X113.here hx rfl (hb hby d1_57) rfl rfl ?_
          refine XS.iconst X113.here hx rfl (hb hby d1_58) ?_
          exact k
        have cq127 := f119
        obtain ⟨clq127, Arq127, qq127, Sq127, Nq127, Hq127, Gq127⟩ := cq127
        have hinq127 := inb_of (j := (1 : Int32)) Sq127 ⟨by decide, by decide⟩
        refine OwnGo.of (X113.caload hx (j := (1 : Int32)) (v := (.int k1)) (by rw [e113]; exact Arq127.1) (State.isArrayOf_alike hZ.alike Arq127.2.1) Arq127.2.2 hinq127 (Hq127.at hinq127 rfl) (g := (mkF m 59 #[.val (.ref a0), .val (.int p1)] [(.int (1 : Int32)), (.ref a0), (.int (1 : Int32)), (.ref b98), (.ref b98), (.ref b88), (.ref b88)])) rfl rfl (hb hby d1_59)) ?_
        show OwnGo p.tables e below _ (T113.setTop (mkF m 60 #[.val (.ref a0), .val (.int p1)] [(.int k1), (.int (1 : Int32)), (.ref b98), (.ref b98), (.ref b88), (.ref b88)]))
        have cq128 := f126
        obtain ⟨clq128, Arq128, qq128, Sq128, Nq128, Hq128, Gq128⟩ := cq128
        obtain ⟨T129, h129, X129, e129, W129, st129⟩ := stC X113 hx hZ e113 Arq128 (j := (1 : Int32)) (inb_of Sq128 ⟨by decide, by decide⟩) (g := (mkF m 60 #[.val (.ref a0), .val (.int p1)] [(.int k1), (.int (1 : Int32)), (.ref b98), (.ref b98), (.ref b88), (.ref b88)])) rfl rfl (hb hby d1_60)
        refine OwnGo.of st129 ?_
        have N129 := Fr.snoc X129 N113 g_b98
        have cs130 := CHr.wr W129 f125 f117.1
        have f131 : n0 ≤ h129.size := Nat.le_trans f115 (Keep.of_wr W129).1
        have f132 : OwnB s s h129 := f116.wr W129
        have f133 : CHr Z consts_1 s.vm h0 s.vm h129 := f117.trans cs130
        have f134 : Keep h0 h129 [] := f118.wr W129 (Or.inr sz_b98)
        have f135 : Arv Z h129 a0 ka .char (5 : Int32) [(.int k0), (.int k1), (.int k2), (.int k3), (.int k4)] (.int (0 : Int32)) := f119.other W129 ne_a0_b98
        have f136 : Sta Z h129 "java/lang/String" "COMPACT_STRINGS" "Z" (.int zc) := f120.wr W129
        have f137 : Safe Z consts_1 s.vm h129 b88 := cs130.safe f122.lt f121
        have f138 : Exa Z h129 b88 "java/lang/String" := f122.wr W129
        have f139 : Fld Z h129 b88 "java/lang/String" "value" "[B" .null := f123.other W129 (Or.inl ne_b88_b98)
        have f140 : Fld Z h129 b88 "java/lang/String" "coder" "B" (.int (0 : Int32)) := f124.other W129 (Or.inl ne_b88_b98)
        have f141 : Safe Z consts_1 s.vm h129 b98 := cs130.safe f126.lt f125
        have f142 : Arv Z h129 b98 k98 .char (2 : Int32) [(.int (k0).toUInt32.toUInt16.toUInt32.toInt32), (.int (k1).toUInt32.toUInt16.toUInt32.toInt32)] (.int (0 : Int32)) := Arv.set Arq128 qq128 Sq128 Nq128 Hq128 Gq128 (fits_nar_char _) W129 1 rfl (Nat.le_of_ble_eq_true rfl)
        show OwnGo p.tables e below _ (T129.setTop (mkF m 61 #[.val (.ref a0), .val (.int p1)] [(.ref b98), (.ref b88), (.ref b88)]))
        have hp_b88 : ∀ c ∈ ([(k0).toUInt32.toUInt16.toUInt32.toInt32, (k1).toUInt32.toUInt16.toUInt32.toInt32] : List Int32), ¬ c < 0 ∧ ¬ (255 : Int32) < c := (own_hS (own_ch hk0) (own_hS (own_ch hk1) own_h0))
        obtain ⟨T143, L143, v143, X143, hQ143, st143⟩ := own_callI X129 hx (y := (⟨"java/lang/String", "<init>", "([C)V"⟩ : MethodName)) rfl hown (mvT hZ (hw _ (List.mem_of_getElem? (i := 8) rfl))) (mvT hZ (hw _ (List.mem_of_getElem? (i := 9) rfl))) (mvT hZ (hw _ (List.mem_of_getElem? (i := 10) rfl))) (by decide) (StrChars.Road.backV (W := 1) hZ (own_ws hw) (kI := 4) (hw _ (List.mem_of_getElem? (i := 6) rfl)) (cs := ([(k0).toUInt32.toUInt16.toUInt32.toInt32, (k1).toUInt32.toUInt16.toUInt32.toInt32] : List Int32)) (bs := (([(k0).toUInt32.toUInt16.toUInt32.toInt32, (k1).toUInt32.toUInt16.toUInt32.toInt32] : List Int32)).map (fun c => c.toInt8.toInt32)) (n := 2) g_b88 f131 f138 f139 f140 f142 f136 hzc rfl rfl (by decide) (by decide) hp_b88 rfl (by decide) (by decide)) (g := (mkF m 61 #[.val (.ref a0), .val (.int p1)] [(.ref b98), (.ref b88), (.ref b88)])) rfl (by rw [hml]; rfl) (a := b88) (argsL := [(.ref b98)]) (rest := [(.ref b88)]) (lenOf pd_3 rfl) rfl (by show 2 * 0 + _ ≤ _; exact Nat.le_of_eq rfl) (hb hby d1_61) rfl e129 (by decide) (by decide)
        obtain ⟨rfl, N143q, K143, y143E, y143C, t143, kb143, -, -, -, y143V, y143A⟩ := hQ143
        have cs144 := CHr.keep K143 (allS f137 all0) f133.1
        have f145 : n0 ≤ T143.heap.size := Nat.le_trans f131 K143.1
        have f146 : OwnB s s T143.heap := f132.keep K143
        have f147 : CHr Z consts_1 s.vm h0 s.vm T143.heap := f133.trans cs144
        have f148 : Keep h0 T143.heap [] := f134.trans K143 (allS (Or.inr sz_b88) all0)
        have f149 : Arv Z T143.heap a0 ka .char (5 : Int32) [(.int k0), (.int k1), (.int k2), (.int k3), (.int k4)] (.int (0 : Int32)) := f135.keep K143 (ninS ne_a0_b88 nin0)
        have f150 : Sta Z T143.heap "java/lang/String" "COMPACT_STRINGS" "Z" (.int zc) := own_sta_keep f136 K143 (allS (own_ns_exa f138) all0)
        have f151 : Safe Z consts_1 s.vm T143.heap b88 := cs144.safe f138.lt f137
        have f152 : Exa Z T143.heap b88 "java/lang/String" := f138.keep K143
        have f153 : Safe Z consts_1 s.vm T143.heap b98 := cs144.safe f142.lt f141
        have f154 : Arv Z T143.heap b98 k98 .char (2 : Int32) [(.int (k0).toUInt32.toUInt16.toUInt32.toInt32), (.int (k1).toUInt32.toUInt16.toUInt32.toInt32)] (.int (0 : Int32)) := f142.keep K143 (ninS (Ne.symm ne_b88_b98) nin0)
        have N143 := Fr.app N129 N143q
        refine OwnGo.of st143 ?_
        show OwnGo p.tables e below _ (T143.setTop (mkF m 64 #[.val (.ref a0), .val (.int p1)] [(.ref b88)]))
        obtain ⟨fs, hr, hrun, hended, hRW⟩ := own_leaveW X143 f146 rfl (v := some (.ref b88)) (fun h => by rw [Bd.returns] at h; cases h) hlk
        refine ⟨_, _, ?_, hrun, hended, _, _, rfl, ?_, own_endW X143 hZ (own_EW hw) rfl hh f147 fs, own_monoW hRW (by decide) (by decide)⟩
        · show Steps p.tables e below (T143.setTop (mkF m 64 #[.val (.ref a0), .val (.int p1)] [(.ref b88)])) _
          exact own_retA X143 hx Bd.returns rfl rfl rfl (hb hby d1_64) hr
        · show Qrm1 Z a0 p1 k0 k1 k2 k3 k4 ka zc h0 n0 _ (T143.setFrames fs).heap _
          rw [show (T143.setFrames fs).heap = T143.heap from rfl]
          exact ⟨N143, f148, b88, [(k0).toUInt32.toUInt16.toUInt32.toInt32, (k1).toUInt32.toUInt16.toUInt32.toInt32], rfl, _, _, _, _, _, y143E, y143V, y143C, y143A, StrChars.Road.codOf (n := 2) rfl (fun c hc => (hp_b88 c hc).2), own_up hp_b88, Nat.le_of_ble_eq_true rfl⟩
      · refine OwnGo.of (A := s₁.setTop (mkF m 39 #[.val (.ref a0), .val (.int p1)] [(.int (2 : Int32)), (.int p1)])) (B := s₁.setTop (mkF m 67 #[.val (.ref a0), .val (.int p1)] [(.int (3 : Int32)), (.int p1)])) (fun t k => ?_) ?_
        · show Steps p.tables e below (s₁.setTop (mkF m 39 #[.val (.ref a0), .val (.int p1)] [(.int (2 : Int32)), (.int p1)])) t
          refine XS.icmpYes X0.here hx rfl (pc0 := 39) (pc' := 65) rfl (hb hby d1_39) rfl (feq hc87).2 (by decide) (by decide) ?_
          refine XS.iloadN X0.here hx rfl (hb hby d1_65) rfl ?_
          refine XS.iconst X0.here hx rfl (hb hby d1_66) ?_
          exact k
        by_cases hc155 : p1 = (3 : Int32)
        · refine OwnGo.of (A := s₁.setTop (mkF m 67 #[.val (.ref a0), .val (.int p1)] [(.int (3 : Int32)), (.int p1)])) (B := s₁.setTop (mkF m 70 #[.val (.ref a0), .val (.int p1)] [])) (fun t k => ?_) ?_
          · show Steps p.tables e below (s₁.setTop (mkF m 67 #[.val (.ref a0), .val (.int p1)] [(.int (3 : Int32)), (.int p1)])) t
            refine XS.icmpNo X0.here hx rfl (hb hby d1_67) rfl (teq hc155).2 ?_
            exact k
          obtain ⟨T156, h156, X156, e156, E156, A156, D156, -, st156⟩ := newO X0 hx hZ hown (hw _ (List.mem_of_getElem? (i := 5) rfl)) (hw _ (List.mem_of_getElem? (i := 6) rfl)) (hw _ (List.mem_of_getElem? (i := 7) rfl)) e0 (g := (mkF m 70 #[.val (.ref a0), .val (.int p1)] [])) rfl (hb hby d1_70) (by decide) (by decide)
          obtain ⟨b156, g156⟩ : ∃ z, z = h0.size := ⟨_, rfl⟩
          rw [← g156] at A156 D156 st156
          refine OwnGo.of st156 ?_
          have ne_a0_b156 : a0 ≠ b156 := Nat.ne_of_lt (Nat.lt_of_lt_of_le V_a.lt (Nat.le_of_eq g156.symm))
          have gn_b156 : Safe Z consts_1 s.vm h156 b156 := Safe.ext E156 C0.1 (Safe.new (Nat.le_of_eq g156.symm))
          have g_b156 : n0 ≤ b156 := Nat.le_trans Z0 (Nat.le_of_eq g156.symm)
          have sz_b156 : h0.size ≤ b156 := Nat.le_trans K0.1 (Nat.le_of_eq g156.symm)
          have cs157 := CHr.ext E156 C0.1
          have f158 : n0 ≤ h156.size := Nat.le_trans Z0 E156.1
          have f159 : OwnB s s h156 := B0.ext E156
          have f160 : CHr Z consts_1 s.vm h0 s.vm h156 := C0.trans cs157
          have f161 : Keep h0 h156 [] := K0.ext E156
          have f162 : Arv Z h156 a0 ka .char (5 : Int32) [(.int k0), (.int k1), (.int k2), (.int k3), (.int k4)] (.int (0 : Int32)) := V_a.ext E156
          have f163 : Sta Z h156 "java/lang/String" "COMPACT_STRINGS" "Z" (.int zc) := S_COMPACT_STRINGS.ext E156
          have f164 : Fld Z h156 b156 "java/lang/String" "value" "[B" .null := D156 (Or.inr (hw _ (List.mem_of_getElem? (i := 20) rfl))) (ty := (.array .byte)) (by decide)
          have f165 : Fld Z h156 b156 "java/lang/String" "coder" "B" (.int (0 : Int32)) := D156 (Or.inr (hw _ (List.mem_of_getElem? (i := 21) rfl))) (ty := .byte) (by decide)
          show OwnGo p.tables e below _ (T156.setTop (mkF m 73 #[.val (.ref a0), .val (.int p1)] [(.ref b156)]))
          refine OwnGo.of (A := T156.setTop (mkF m 73 #[.val (.ref a0), .val (.int p1)] [(.ref b156)])) (B := T156.setTop (mkF m 75 #[.val (.ref a0), .val (.int p1)] [(.int (3 : Int32)), (.ref b156), (.ref b156)])) (fun t k => ?_) ?_
          · show Steps p.tables e below (T156.setTop (mkF m 73 #[.val (.ref a0), .val (.int p1)] [(.ref b156)])) t
            refine XS.dup X156.here hx rfl (hb hby d1_73) rfl rfl ?_
            refine XS.iconst X156.here hx rfl (hb hby d1_74) ?_
            exact k
          obtain ⟨T166, h166, k166, X166, e166, E166, A166, st166⟩ := newP X156 hx hZ (hw _ (List.mem_of_getElem? (i := 0) rfl)) e156 (g := (mkF m 75 #[.val (.ref a0), .val (.int p1)] [(.int (3 : Int32)), (.ref b156), (.ref b156)])) rfl (hb hby d1_75) rfl (by decide) (cap := 3) (by decide) (by decide) (by decide) (by decide)
          obtain ⟨b166, g166⟩ : ∃ z, z = h156.size := ⟨_, rfl⟩
          rw [← g166] at A166 st166
          refine OwnGo.of st166 ?_
          have ne_a0_b166 : a0 ≠ b166 := Nat.ne_of_lt (Nat.lt_of_lt_of_le f162.lt (Nat.le_of_eq g166.symm))
          have ne_b156_b166 : b156 ≠ b166 := Nat.ne_of_lt (Nat.lt_of_lt_of_le A156.lt (Nat.le_of_eq g166.symm))
          have gn_b166 : Safe Z consts_1 s.vm h166 b166 := Safe.ext E166 f160.1 (Safe.new (Nat.le_of_eq g166.symm))
          have g_b166 : n0 ≤ b166 := Nat.le_trans f158 (Nat.le_of_eq g166.symm)
          have sz_b166 : h0.size ≤ b166 := Nat.le_trans f161.1 (Nat.le_of_eq g166.symm)
          have cs167 := CHr.ext E166 f160.1
          have f168 : n0 ≤ h166.size := Nat.le_trans f158 E166.1
          have f169 : OwnB s s h166 := f159.ext E166
          have f170 : CHr Z consts_1 s.vm h0 s.vm h166 := f160.trans cs167
          have f171 : Keep h0 h166 [] := f161.ext E166
          have f172 : Arv Z h166 a0 ka .char (5 : Int32) [(.int k0), (.int k1), (.int k2), (.int k3), (.int k4)] (.int (0 : Int32)) := f162.ext E166
          have f173 : Sta Z h166 "java/lang/String" "COMPACT_STRINGS" "Z" (.int zc) := f163.ext E166
          have f174 : Safe Z consts_1 s.vm h166 b156 := cs167.safe A156.lt gn_b156
          have f175 : Exa Z h166 b156 "java/lang/String" := A156.ext E166
          have f176 : Fld Z h166 b156 "java/lang/String" "value" "[B" .null := f164.ext E166
          have f177 : Fld Z h166 b156 "java/lang/String" "coder" "B" (.int (0 : Int32)) := f165.ext E166
          have f178 : Arv Z h166 b166 k166 .char (3 : Int32) [(.int (0 : Int32)), (.int (0 : Int32)), (.int (0 : Int32))] (.int (0 : Int32)) := (Arv.new A166 (by decide)).pad (pad_rep [] (.int (0 : Int32)) 3)
          show OwnGo p.tables e below _ (T166.setTop (mkF m 77 #[.val (.ref a0), .val (.int p1)] [(.ref b166), (.ref b156), (.ref b156)]))
          refine OwnGo.of (A := T166.setTop (mkF m 77 #[.val (.ref a0), .val (.int p1)] [(.ref b166), (.ref b156), (.ref b156)])) (B := T166.setTop (mkF m 81 #[.val (.ref a0), .val (.int p1)] [(.int (0 : Int32)), (.ref a0), (.int (0 : Int32)), (.ref b166), (.ref b166), (.ref b156), (.ref b156)])) (fun t k => ?_) ?_
          · show Steps p.tables e below (T166.setTop (mkF m 77 #[.val (.ref a0), .val (.int p1)] [(.ref b166), (.ref b156), (.ref b156)])) t
            refine XS.dup X166.here hx rfl (hb hby d1_77) rfl rfl ?_
            refine XS.iconst X166.here hx rfl (hb hby d1_78) ?_
            refine XS.aloadN X166.here hx rfl (hb hby d1_79) rfl rfl ?_
            refine XS.iconst X166.here hx rfl (hb hby d1_80) ?_
            exact k
          have cq179 := f172
          obtain ⟨clq179, Arq179, qq179, Sq179, Nq179, Hq179, Gq179⟩ := cq179
          have hinq179 := inb_of (j := (0 : Int32)) Sq179 ⟨by decide, by decide⟩
          refine OwnGo.of (X166.caload hx (j := (0 : Int32)) (v := (.int k0)) (by rw [e166]; exact Arq179.1) (State.isArrayOf_alike hZ.alike Arq179.2.1) Arq179.2.2 hinq179 (Hq179.at hinq179 rfl) (g := (mkF m 81 #[.val (.ref a0), .val (.int p1)] [(.int (0 : Int32)), (.ref a0), (.int (0 : Int32)), (.ref b166), (.ref b166), (.ref b156), (.ref b156)])) rfl rfl (hb hby d1_81)) ?_
          show OwnGo p.tables e below _ (T166.setTop (mkF m 82 #[.val (.ref a0), .val (.int p1)] [(.int k0), (.int (0 : Int32)), (.ref b166), (.ref b166), (.ref b156), (.ref b156)]))
          have cq180 := f178
          obtain ⟨clq180, Arq180, qq180, Sq180, Nq180, Hq180, Gq180⟩ := cq180
          obtain ⟨T181, h181, X181, e181, W181, st181⟩ := stC X166 hx hZ e166 Arq180 (j := (0 : Int32)) (inb_of Sq180 ⟨by decide, by decide⟩) (g := (mkF m 82 #[.val (.ref a0), .val (.int p1)] [(.int k0), (.int (0 : Int32)), (.ref b166), (.ref b166), (.ref b156), (.ref b156)])) rfl rfl (hb hby d1_82)
          refine OwnGo.of st181 ?_
          have N181 := Fr.snoc X181 N0 g_b166
          have cs182 := CHr.wr W181 gn_b166 f170.1
          have f183 : n0 ≤ h181.size := Nat.le_trans f168 (Keep.of_wr W181).1
          have f184 : OwnB s s h181 := f169.wr W181
          have f185 : CHr Z consts_1 s.vm h0 s.vm h181 := f170.trans cs182
          have f186 : Keep h0 h181 [] := f171.wr W181 (Or.inr sz_b166)
          have f187 : Arv Z h181 a0 ka .char (5 : Int32) [(.int k0), (.int k1), (.int k2), (.int k3), (.int k4)] (.int (0 : Int32)) := f172.other W181 ne_a0_b166
          have f188 : Sta Z h181 "java/lang/String" "COMPACT_STRINGS" "Z" (.int zc) := f173.wr W181
          have f189 : Safe Z consts_1 s.vm h181 b156 := cs182.safe f175.lt f174
          have f190 : Exa Z h181 b156 "java/lang/String" := f175.wr W181
          have f191 : Fld Z h181 b156 "java/lang/String" "value" "[B" .null := f176.other W181 (Or.inl ne_b156_b166)
          have f192 : Fld Z h181 b156 "java/lang/String" "coder" "B" (.int (0 : Int32)) := f177.other W181 (Or.inl ne_b156_b166)
          have f193 : Safe Z consts_1 s.vm h181 b166 := cs182.safe f178.lt gn_b166
          have f194 : Arv Z h181 b166 k166 .char (3 : Int32) [(.int (k0).toUInt32.toUInt16.toUInt32.toInt32), (.int (0 : Int32)), (.int (0 : Int32))] (.int (0 : Int32)) := Arv.set Arq180 qq180 Sq180 Nq180 Hq180 Gq180 (fits_nar_char _) W181 0 rfl (Nat.le_of_ble_eq_true rfl)
          show OwnGo p.tables e below _ (T181.setTop (mkF m 83 #[.val (.ref a0), .val (.int p1)] [(.ref b166), (.ref b156), (.ref b156)]))
          refine OwnGo.of (A := T181.setTop (mkF m 83 #[.val (.ref a0), .val (.int p1)] [(.ref b166), (.ref b156), (.ref b156)])) (B := T181.setTop (mkF m 87 #[.val (.ref a0), .val (.int p1)] [(.int (1 : Int32)), (.ref a0), (.int (1 : Int32)), (.ref b166), (.ref b166), (.ref b156), (.ref b156)])) (fun t k => ?_) ?_
          · show Steps p.tables e below (T181.setTop (mkF m 83 #[.val (.ref a0), .val (.int p1)] [(.ref b166), (.ref b156), (.ref b156)])) t
            refine XS.dup X181.here hx rfl (hb hby d1_83) rfl rfl ?_
            refine XS.iconst X181.here hx rfl (hb hby d1_84) ?_
            refine XS.aloadN X181.here hx rfl (hb hby d1_85) rfl rfl ?_
            refine XS.iconst X181.here hx rfl (hb hby d1_86) ?_
            exact k
          have cq195 := f187
          obtain ⟨clq195, Arq195, qq195, Sq195, Nq195, Hq195, Gq195⟩ := cq195
          have hinq195 := inb_of (j := (1 : Int32)) Sq195 ⟨by decide, by decide⟩
          refine OwnGo.of (X181.caload hx (j := (1 : Int32)) (v := (.int k1)) (by rw [e181]; exact Arq195.1) (State.isArrayOf_alike hZ.alike Arq195.2.1) Arq195.2.2 hinq195 (Hq195.at hinq195 rfl) (g := (mkF m 87 #[.val (.ref a0), .val (.int p1)] [(.int (1 : Int32)), (.ref a0), (.int (1 : Int32)), (.ref b166), (.ref b166), (.ref b156), (.ref b156)])) rfl rfl (hb hby d1_87)) ?_
          show OwnGo p.tables e below _ (T181.setTop (mkF m 88 #[.val (.ref a0), .val (.int p1)] [(.int k1), (.int (1 : Int32)), (.ref b166), (.ref b166), (.ref b156), (.ref b156)]))
          have cq196 := f194
          obtain ⟨clq196, Arq196, qq196, Sq196, Nq196, Hq196, Gq196⟩ := cq196
          obtain ⟨T197, h197, X197, e197, W197, st197⟩ := stC X181 hx hZ e181 Arq196 (j := (1 : Int32)) (inb_of Sq196 ⟨by decide, by decide⟩) (g := (mkF m 88 #[.val (.ref a0), .val (.int p1)] [(.int k1), (.int (1 : Int32)), (.ref b166), (.ref b166), (.ref b156), (.ref b156)])) rfl rfl (hb hby d1_88)
          refine OwnGo.of st197 ?_
          have N197 := Fr.snoc X197 N181 g_b166
          have cs198 := CHr.wr W197 f193 f185.1
          have f199 : n0 ≤ h197.size := Nat.le_trans f183 (Keep.of_wr W197).1
          have f200 : OwnB s s h197 := f184.wr W197
          have f201 : CHr Z consts_1 s.vm h0 s.vm h197 := f185.trans cs198
          have f202 : Keep h0 h197 [] := f186.wr W197 (Or.inr sz_b166)
          have f203 : Arv Z h197 a0 ka .char (5 : Int32) [(.int k0), (.int k1), (.int k2), (.int k3), (.int k4)] (.int (0 : Int32)) := f187.other W197 ne_a0_b166
          have f204 : Sta Z h197 "java/lang/String" "COMPACT_STRINGS" "Z" (.int zc) := f188.wr W197
          have f205 : Safe Z consts_1 s.vm h197 b156 := cs198.safe f190.lt f189
          have f206 : Exa Z h197 b156 "java/lang/String" := f190.wr W197
          have f207 : Fld Z h197 b156 "java/lang/String" "value" "[B" .null := f191.other W197 (Or.inl ne_b156_b166)
          have f208 : Fld Z h197 b156 "java/lang/String" "coder" "B" (.int (0 : Int32)) := f192.other W197 (Or.inl ne_b156_b166)
          have f209 : Safe Z consts_1 s.vm h197 b166 := cs198.safe f194.lt f193
          have f210 : Arv Z h197 b166 k166 .char (3 : Int32) [(.int (k0).toUInt32.toUInt16.toUInt32.toInt32), (.int (k1).toUInt32.toUInt16.toUInt32.toInt32), (.int (0 : Int32))] (.int (0 : Int32)) := Arv.set Arq196 qq196 Sq196 Nq196 Hq196 Gq196 (fits_nar_char _) W197 1 rfl (Nat.le_of_ble_eq_true rfl)
          show OwnGo p.tables e below _ (T197.setTop (mkF m 89 #[.val (.ref a0), .val (.int p1)] [(.ref b166), (.ref b156), (.ref b156)]))
          refine OwnGo.of (A := T197.setTop (mkF m 89 #[.val (.ref a0), .val (.int p1)] [(.ref b166), (.ref b156), (.ref b156)])) (B := T197.setTop (mkF m 93 #[.val (.ref a0), .val (.int p1)] [(.int (2 : Int32)), (.ref a0), (.int (2 : Int32)), (.ref b166), (.ref b166), (.ref b156), (.ref b156)])) (fun t k => ?_) ?_
          · show Steps p.tables e below (T197.setTop (mkF m 89 #[.val (.ref a0), .val (.int p1)] [(.ref b166), (.ref b156), (.ref b156)])) t
            refine XS.dup X197.here hx rfl (hb hby d1_89) rfl rfl ?_
            refine XS.iconst X197.here hx rfl (hb hby d1_90) ?_
            refine XS.aloadN X197.here hx rfl (hb hby d1_91) rfl rfl ?_
            refine XS.iconst X197.here hx rfl (hb hby d1_92) ?_
            exact k
          have cq211 := f203
          obtain ⟨clq211, Arq211, qq211, Sq211, Nq211, Hq211, Gq211⟩ := cq211
          have hinq211 := inb_of (j := (2 : Int32)) Sq211 ⟨by decide, by decide⟩
          refine OwnGo.of (X197.caload hx (j := (2 : Int32)) (v := (.int k2)) (by rw [e197]; exact Arq211.1) (State.isArrayOf_alike hZ.alike Arq211.2.1) Arq211.2.2 hinq211 (Hq211.at hinq211 rfl) (g := (mkF m 93 #[.val (.ref a0), .val (.int p1)] [(.int (2 : Int32)), (.ref a0), (.int (2 : Int32)), (.ref b166), (.ref b166), (.ref b156), (.ref b156)])) rfl rfl (hb hby d1_93)) ?_
          show OwnGo p.tables e below _ (T197.setTop (mkF m 94 #[.val (.ref a0), .val (.int p1)] [(.int k2), (.int (2 : Int32)), (.ref b166), (.ref b166), (.ref b156), (.ref b156)]))
          have cq212 := f210
          obtain ⟨clq212, Arq212, qq212, Sq212, Nq212, Hq212, Gq212⟩ := cq212
          obtain ⟨T213, h213, X213, e213, W213, st213⟩ := stC X197 hx hZ e197 Arq212 (j := (2 : Int32)) (inb_of Sq212 ⟨by decide, by decide⟩) (g := (mkF m 94 #[.val (.ref a0), .val (.int p1)] [(.int k2), (.int (2 : Int32)), (.ref b166), (.ref b166), (.ref b156), (.ref b156)])) rfl rfl (hb hby d1_94)
          refine OwnGo.of st213 ?_
          have N213 := Fr.snoc X213 N197 g_b166
          have cs214 := CHr.wr W213 f209 f201.1
          have f215 : n0 ≤ h213.size := Nat.le_trans f199 (Keep.of_wr W213).1
          have f216 : OwnB s s h213 := f200.wr W213
          have f217 : CHr Z consts_1 s.vm h0 s.vm h213 := f201.trans cs214
          have f218 : Keep h0 h213 [] := f202.wr W213 (Or.inr sz_b166)
          have f219 : Arv Z h213 a0 ka .char (5 : Int32) [(.int k0), (.int k1), (.int k2), (.int k3), (.int k4)] (.int (0 : Int32)) := f203.other W213 ne_a0_b166
          have f220 : Sta Z h213 "java/lang/String" "COMPACT_STRINGS" "Z" (.int zc) := f204.wr W213
          have f221 : Safe Z consts_1 s.vm h213 b156 := cs214.safe f206.lt f205
          have f222 : Exa Z h213 b156 "java/lang/String" := f206.wr W213
          have f223 : Fld Z h213 b156 "java/lang/String" "value" "[B" .null := f207.other W213 (Or.inl ne_b156_b166)
          have f224 : Fld Z h213 b156 "java/lang/String" "coder" "B" (.int (0 : Int32)) := f208.other W213 (Or.inl ne_b156_b166)
          have f225 : Safe Z consts_1 s.vm h213 b166 := cs214.safe f210.lt f209
          have f226 : Arv Z h213 b166 k166 .char (3 : Int32) [(.int (k0).toUInt32.toUInt16.toUInt32.toInt32), (.int (k1).toUInt32.toUInt16.toUInt32.toInt32), (.int (k2).toUInt32.toUInt16.toUInt32.toInt32)] (.int (0 : Int32)) := Arv.set Arq212 qq212 Sq212 Nq212 Hq212 Gq212 (fits_nar_char _) W213 2 rfl (Nat.le_of_ble_eq_true rfl)
          show OwnGo p.tables e below _ (T213.setTop (mkF m 95 #[.val (.ref a0), .val (.int p1)] [(.ref b166), (.ref b156), (.ref b156)]))
          have hp_b156 : ∀ c ∈ ([(k0).toUInt32.toUInt16.toUInt32.toInt32, (k1).toUInt32.toUInt16.toUInt32.toInt32, (k2).toUInt32.toUInt16.toUInt32.toInt32] : List Int32), ¬ c < 0 ∧ ¬ (255 : Int32) < c := (own_hS (own_ch hk0) (own_hS (own_ch hk1) (own_hS (own_ch hk2) own_h0)))
          obtain ⟨T227, L227, v227, X227, hQ227, st227⟩ := own_callI X213 hx (y := (⟨"java/lang/String", "<init>", "([C)V"⟩ : MethodName)) rfl hown (mvT hZ (hw _ (List.mem_of_getElem? (i := 8) rfl))) (mvT hZ (hw _ (List.mem_of_getElem? (i := 9) rfl))) (mvT hZ (hw _ (List.mem_of_getElem? (i := 10) rfl))) (by decide) (StrChars.Road.backV (W := 1) hZ (own_ws hw) (kI := 4) (hw _ (List.mem_of_getElem? (i := 6) rfl)) (cs := ([(k0).toUInt32.toUInt16.toUInt32.toInt32, (k1).toUInt32.toUInt16.toUInt32.toInt32, (k2).toUInt32.toUInt16.toUInt32.toInt32] : List Int32)) (bs := (([(k0).toUInt32.toUInt16.toUInt32.toInt32, (k1).toUInt32.toUInt16.toUInt32.toInt32, (k2).toUInt32.toUInt16.toUInt32.toInt32] : List Int32)).map (fun c => c.toInt8.toInt32)) (n := 3) g_b156 f215 f222 f223 f224 f226 f220 hzc rfl rfl (by decide) (by decide) hp_b156 rfl (by decide) (by decide)) (g := (mkF m 95 #[.val (.ref a0), .val (.int p1)] [(.ref b166), (.ref b156), (.ref b156)])) rfl (by rw [hml]; rfl) (a := b156) (argsL := [(.ref b166)]) (rest := [(.ref b156)]) (lenOf pd_3 rfl) rfl (by show 2 * 0 + _ ≤ _; exact Nat.le_of_eq rfl) (hb hby d1_95) rfl e213 (by decide) (by decide)
          obtain ⟨rfl, N227q, K227, y227E, y227C, t227, kb227, -, -, -, y227V, y227A⟩ := hQ227
          have cs228 := CHr.keep K227 (allS f221 all0) f217.1
          have f229 : n0 ≤ T227.heap.size := Nat.le_trans f215 K227.1
          have f230 : OwnB s s T227.heap := f216.keep K227
          have f231 : CHr Z consts_1 s.vm h0 s.vm T227.heap := f217.trans cs228
          have f232 : Keep h0 T227.heap [] := f218.trans K227 (allS (Or.inr sz_b156) all0)
          have f233 : Arv Z T227.heap a0 ka .char (5 : Int32) [(.int k0), (.int k1), (.int k2), (.int k3), (.int k4)] (.int (0 : Int32)) := f219.keep K227 (ninS ne_a0_b156 nin0)
          have f234 : Sta Z T227.heap "java/lang/String" "COMPACT_STRINGS" "Z" (.int zc) := own_sta_keep f220 K227 (allS (own_ns_exa f222) all0)
          have f235 : Safe Z consts_1 s.vm T227.heap b156 := cs228.safe f222.lt f221
          have f236 : Exa Z T227.heap b156 "java/lang/String" := f222.keep K227
          have f237 : Safe Z consts_1 s.vm T227.heap b166 := cs228.safe f226.lt f225
          have f238 : Arv Z T227.heap b166 k166 .char (3 : Int32) [(.int (k0).toUInt32.toUInt16.toUInt32.toInt32), (.int (k1).toUInt32.toUInt16.toUInt32.toInt32), (.int (k2).toUInt32.toUInt16.toUInt32.toInt32)] (.int (0 : Int32)) := f226.keep K227 (ninS (Ne.symm ne_b156_b166) nin0)
          have N227 := Fr.app N213 N227q
          refine OwnGo.of st227 ?_
          show OwnGo p.tables e below _ (T227.setTop (mkF m 98 #[.val (.ref a0), .val (.int p1)] [(.ref b156)]))
          obtain ⟨fs, hr, hrun, hended, hRW⟩ := own_leaveW X227 f230 rfl (v := some (.ref b156)) (fun h => by rw [Bd.returns] at h; cases h) hlk
          refine ⟨_, _, ?_, hrun, hended, _, _, rfl, ?_, own_endW X227 hZ (own_EW hw) rfl hh f231 fs, own_monoW hRW (by decide) (by decide)⟩
          · show Steps p.tables e below (T227.setTop (mkF m 98 #[.val (.ref a0), .val (.int p1)] [(.ref b156)])) _
            exact own_retA X227 hx Bd.returns rfl rfl rfl (hb hby d1_98) hr
          · show Qrm1 Z a0 p1 k0 k1 k2 k3 k4 ka zc h0 n0 _ (T227.setFrames fs).heap _
            rw [show (T227.setFrames fs).heap = T227.heap from rfl]
            exact ⟨N227, f232, b156, [(k0).toUInt32.toUInt16.toUInt32.toInt32, (k1).toUInt32.toUInt16.toUInt32.toInt32, (k2).toUInt32.toUInt16.toUInt32.toInt32], rfl, _, _, _, _, _, y227E, y227V, y227C, y227A, StrChars.Road.codOf (n := 3) rfl (fun c hc => (hp_b156 c hc).2), own_up hp_b156, Nat.le_of_ble_eq_true rfl⟩
        · refine OwnGo.of (A := s₁.setTop (mkF m 67 #[.val (.ref a0), .val (.int p1)] [(.int (3 : Int32)), (.int p1)])) (B := s₁.setTop (mkF m 101 #[.val (.ref a0), .val (.int p1)] [(.int (4 : Int32)), (.int p1)])) (fun t k => ?_) ?_
          · show Steps p.tables e below (s₁.setTop (mkF m 67 #[.val (.ref a0), .val (.int p1)] [(.int (3 : Int32)), (.int p1)])) t
            refine XS.icmpYes X0.here hx rfl (pc0 := 67) (pc' := 99) rfl (hb hby d1_67) rfl (feq hc155).2 (by decide) (by decide) ?_
            refine XS.iloadN X0.here hx rfl (hb hby d1_99) rfl ?_
            refine XS.iconst X0.here hx rfl (hb hby d1_100) ?_
            exact k
          by_cases hc239 : p1 = (4 : Int32)
          · refine OwnGo.of (A := s₁.setTop (mkF m 101 #[.val (.ref a0), .val (.int p1)] [(.int (4 : Int32)), (.int p1)])) (B := s₁.setTop (mkF m 104 #[.val (.ref a0), .val (.int p1)] [])) (fun t k => ?_) ?_
            · show Steps p.tables e below (s₁.setTop (mkF m 101 #[.val (.ref a0), .val (.int p1)] [(.int (4 : Int32)), (.int p1)])) t
              refine XS.icmpNo X0.here hx rfl (hb hby d1_101) rfl (teq hc239).2 ?_
              exact k
            obtain ⟨T240, h240, X240, e240, E240, A240, D240, -, st240⟩ := newO X0 hx hZ hown (hw _ (List.mem_of_getElem? (i := 5) rfl)) (hw _ (List.mem_of_getElem? (i := 6) rfl)) (hw _ (List.mem_of_getElem? (i := 7) rfl)) e0 (g := (mkF m 104 #[.val (.ref a0), .val (.int p1)] [])) rfl (hb hby d1_104) (by decide) (by decide)
            obtain ⟨b240, g240⟩ : ∃ z, z = h0.size := ⟨_, rfl⟩
            rw [← g240] at A240 D240 st240
            refine OwnGo.of st240 ?_
            have ne_a0_b240 : a0 ≠ b240 := Nat.ne_of_lt (Nat.lt_of_lt_of_le V_a.lt (Nat.le_of_eq g240.symm))
            have gn_b240 : Safe Z consts_1 s.vm h240 b240 := Safe.ext E240 C0.1 (Safe.new (Nat.le_of_eq g240.symm))
            have g_b240 : n0 ≤ b240 := Nat.le_trans Z0 (Nat.le_of_eq g240.symm)
            have sz_b240 : h0.size ≤ b240 := Nat.le_trans K0.1 (Nat.le_of_eq g240.symm)
            have cs241 := CHr.ext E240 C0.1
            have f242 : n0 ≤ h240.size := Nat.le_trans Z0 E240.1
            have f243 : OwnB s s h240 := B0.ext E240
            have f244 : CHr Z consts_1 s.vm h0 s.vm h240 := C0.trans cs241
            have f245 : Keep h0 h240 [] := K0.ext E240
            have f246 : Arv Z h240 a0 ka .char (5 : Int32) [(.int k0), (.int k1), (.int k2), (.int k3), (.int k4)] (.int (0 : Int32)) := V_a.ext E240
            have f247 : Sta Z h240 "java/lang/String" "COMPACT_STRINGS" "Z" (.int zc) := S_COMPACT_STRINGS.ext E240
            have f248 : Fld Z h240 b240 "java/lang/String" "value" "[B" .null := D240 (Or.inr (hw _ (List.mem_of_getElem? (i := 20) rfl))) (ty := (.array .byte)) (by decide)
            have f249 : Fld Z h240 b240 "java/lang/String" "coder" "B" (.int (0 : Int32)) := D240 (Or.inr (hw _ (List.mem_of_getElem? (i := 21) rfl))) (ty := .byte) (by decide)
            show OwnGo p.tables e below _ (T240.setTop (mkF m 107 #[.val (.ref a0), .val (.int p1)] [(.ref b240)]))
            refine OwnGo.of (A := T240.setTop (mkF m 107 #[.val (.ref a0), .val (.int p1)] [(.ref b240)])) (B := T240.setTop (mkF m 109 #[.val (.ref a0), .val (.int p1)] [(.int (4 : Int32)), (.ref b240), (.ref b240)])) (fun t k => ?_) ?_
            · show Steps p.tables e below (T240.setTop (mkF m 107 #[.val (.ref a0), .val (.int p1)] [(.ref b240)])) t
              refine XS.dup X240.here hx rfl (hb hby d1_107) rfl rfl ?_
              refine XS.iconst X240.here hx rfl (hb hby d1_108) ?_
              exact k
            obtain ⟨T250, h250, k250, X250, e250, E250, A250, st250⟩ := newP X240 hx hZ (hw _ (List.mem_of_getElem? (i := 0) rfl)) e240 (g := (mkF m 109 #[.val (.ref a0), .val (.int p1)] [(.int (4 : Int32)), (.ref b240), (.ref b240)])) rfl (hb hby d1_109) rfl (by decide) (cap := 4) (by decide) (by decide) (by decide) (by decide)
            obtain ⟨b250, g250⟩ : ∃ z, z = h240.size := ⟨_, rfl⟩
            rw [← g250] at A250 st250
            refine OwnGo.of st250 ?_
            have ne_a0_b250 : a0 ≠ b250 := Nat.ne_of_lt (Nat.lt_of_lt_of_le f246.lt (Nat.le_of_eq g250.symm))
            have ne_b240_b250 : b240 ≠ b250 := Nat.ne_of_lt (Nat.lt_of_lt_of_le A240.lt (Nat.le_of_eq g250.symm))
            have gn_b250 : Safe Z consts_1 s.vm h250 b250 := Safe.ext E250 f244.1 (Safe.new (Nat.le_of_eq g250.symm))
            have g_b250 : n0 ≤ b250 := Nat.le_trans f242 (Nat.le_of_eq g250.symm)
            have sz_b250 : h0.size ≤ b250 := Nat.le_trans f245.1 (Nat.le_of_eq g250.symm)
            have cs251 := CHr.ext E250 f244.1
            have f252 : n0 ≤ h250.size := Nat.le_trans f242 E250.1
            have f253 : OwnB s s h250 := f243.ext E250
            have f254 : CHr Z consts_1 s.vm h0 s.vm h250 := f244.trans cs251
            have f255 : Keep h0 h250 [] := f245.ext E250
            have f256 : Arv Z h250 a0 ka .char (5 : Int32) [(.int k0), (.int k1), (.int k2), (.int k3), (.int k4)] (.int (0 : Int32)) := f246.ext E250
            have f257 : Sta Z h250 "java/lang/String" "COMPACT_STRINGS" "Z" (.int zc) := f247.ext E250
            have f258 : Safe Z consts_1 s.vm h250 b240 := cs251.safe A240.lt gn_b240
            have f259 : Exa Z h250 b240 "java/lang/String" := A240.ext E250
            have f260 : Fld Z h250 b240 "java/lang/String" "value" "[B" .null := f248.ext E250
            have f261 : Fld Z h250 b240 "java/lang/String" "coder" "B" (.int (0 : Int32)) := f249.ext E250
            have f262 : Arv Z h250 b250 k250 .char (4 : Int32) [(.int (0 : Int32)), (.int (0 : Int32)), (.int (0 : Int32)), (.int (0 : Int32))] (.int (0 : Int32)) := (Arv.new A250 (by decide)).pad (pad_rep [] (.int (0 : Int32)) 4)
            show OwnGo p.tables e below _ (T250.setTop (mkF m 111 #[.val (.ref a0), .val (.int p1)] [(.ref b250), (.ref b240), (.ref b240)]))
            refine OwnGo.of (A := T250.setTop (mkF m 111 #[.val (.ref a0), .val (.int p1)] [(.ref b250), (.ref b240), (.ref b240)])) (B := T250.setTop (mkF m 115 #[.val (.ref a0), .val (.int p1)] [(.int (0 : Int32)), (.ref a0), (.int (0 : Int32)), (.ref b250), (.ref b250), (.ref b240), (.ref b240)])) (fun t k => ?_) ?_
            · show Steps p.tables e below (T250.setTop (mkF m 111 #[.val (.ref a0), .val (.int p1)] [(.ref b250), (.ref b240), (.ref b240)])) t
              refine XS.dup X250.here hx rfl (hb hby d1_111) rfl rfl ?_
              refine XS.iconst X250.here hx rfl (hb hby d1_112) ?_
              refine XS.aloadN X250.here hx rfl (hb hby d1_113) rfl rfl ?_
              refine XS.iconst X250.here hx rfl (hb hby d1_114) ?_
              exact k
            have cq263 := f256
            obtain ⟨clq263, Arq263, qq263, Sq263, Nq263, Hq263, Gq263⟩ := cq263
            have hinq263 := inb_of (j := (0 : Int32)) Sq263 ⟨by decide, by decide⟩
            refine OwnGo.of (X250.caload hx (j := (0 : Int32)) (v := (.int k0)) (by rw [e250]; exact Arq263.1) (State.isArrayOf_alike hZ.alike Arq263.2.1) Arq263.2.2 hinq263 (Hq263.at hinq263 rfl) (g := (mkF m 115 #[.val (.ref a0), .val (.int p1)] [(.int (0 : Int32)), (.ref a0), (.int (0 : Int32)), (.ref b250), (.ref b250), (.ref b240), (.ref b240)])) rfl rfl (hb hby d1_115)) ?_
            show OwnGo p.tables e below _ (T250.setTop (mkF m 116 #[.val (.ref a0), .val (.int p1)] [(.int k0), (.int (0 : Int32)), (.ref b250), (.ref b250), (.ref b240), (.ref b240)]))
            have cq264 := f262
            obtain ⟨clq264, Arq264, qq264, Sq264, Nq264, Hq264, Gq264⟩ := cq264
            obtain ⟨T265, h265, X265, e265, W265, st265⟩ := stC X250 hx hZ e250 Arq264 (j := (0 : Int32)) (inb_of Sq264 ⟨by decide, by decide⟩) (g := (mkF m 116 #[.val (.ref a0), .val (.int p1)] [(.int k0), (.int (0 : Int32)), (.ref b250), (.ref b250), (.ref b240), (.ref b240)])) rfl rfl (hb hby d1_116)
            refine OwnGo.of st265 ?_
            have N265 := Fr.snoc X265 N0 g_b250
            have cs266 := CHr.wr W265 gn_b250 f254.1
            have f267 : n0 ≤ h265.size := Nat.le_trans f252 (Keep.of_wr W265).1
            have f268 : OwnB s s h265 := f253.wr W265
            have f269 : CHr Z consts_1 s.vm h0 s.vm h265 := f254.trans cs266
            have f270 : Keep h0 h265 [] := f255.wr W265 (Or.inr sz_b250)
            have f271 : Arv Z h265 a0 ka .char (5 : Int32) [(.int k0), (.int k1), (.int k2), (.int k3), (.int k4)] (.int (0 : Int32)) := f256.other W265 ne_a0_b250
            have f272 : Sta Z h265 "java/lang/String" "COMPACT_STRINGS" "Z" (.int zc) := f257.wr W265
            have f273 : Safe Z consts_1 s.vm h265 b240 := cs266.safe f259.lt f258
            have f274 : Exa Z h265 b240 "java/lang/String" := f259.wr W265
            have f275 : Fld Z h265 b240 "java/lang/String" "value" "[B" .null := f260.other W265 (Or.inl ne_b240_b250)
            have f276 : Fld Z h265 b240 "java/lang/String" "coder" "B" (.int (0 : Int32)) := f261.other W265 (Or.inl ne_b240_b250)
            have f277 : Safe Z consts_1 s.vm h265 b250 := cs266.safe f262.lt gn_b250
            have f278 : Arv Z h265 b250 k250 .char (4 : Int32) [(.int (k0).toUInt32.toUInt16.toUInt32.toInt32), (.int (0 : Int32)), (.int (0 : Int32)), (.int (0 : Int32))] (.int (0 : Int32)) := Arv.set Arq264 qq264 Sq264 Nq264 Hq264 Gq264 (fits_nar_char _) W265 0 rfl (Nat.le_of_ble_eq_true rfl)
            show OwnGo p.tables e below _ (T265.setTop (mkF m 117 #[.val (.ref a0), .val (.int p1)] [(.ref b250), (.ref b240), (.ref b240)]))
            refine OwnGo.of (A := T265.setTop (mkF m 117 #[.val (.ref a0), .val (.int p1)] [(.ref b250), (.ref b240), (.ref b240)])) (B := T265.setTop (mkF m 121 #[.val (.ref a0), .val (.int p1)] [(.int (1 : Int32)), (.ref a0), (.int (1 : Int32)), (.ref b250), (.ref b250), (.ref b240), (.ref b240)])) (fun t k => ?_) ?_
            · show Steps p.tables e below (T265.setTop (mkF m 117 #[.val (.ref a0), .val (.int p1)] [(.ref b250), (.ref b240), (.ref b240)])) t
              refine XS.dup X265.here hx rfl (hb hby d1_117) rfl rfl ?_
              refine XS.iconst X265.here hx rfl (hb hby d1_118) ?_
              refine XS.aloadN X265.here hx rfl (hb hby d1_119) rfl rfl ?_
              refine XS.iconst X265.here hx rfl (hb hby d1_120) ?_
              exact k
            have cq279 := f271
            obtain ⟨clq279, Arq279, qq279, Sq279, Nq279, Hq279, Gq279⟩ := cq279
            have hinq279 := inb_of (j := (1 : Int32)) Sq279 ⟨by decide, by decide⟩
            refine OwnGo.of (X265.caload hx (j := (1 : Int32)) (v := (.int k1)) (by rw [e265]; exact Arq279.1) (State.isArrayOf_alike hZ.alike Arq279.2.1) Arq279.2.2 hinq279 (Hq279.at hinq279 rfl) (g := (mkF m 121 #[.val (.ref a0), .val (.int p1)] [(.int (1 : Int32)), (.ref a0), (.int (1 : Int32)), (.ref b250), (.ref b250), (.ref b240), (.ref b240)])) rfl rfl (hb hby d1_121)) ?_
            show OwnGo p.tables e below _ (T265.setTop (mkF m 122 #[.val (.ref a0), .val (.int p1)] [(.int k1), (.int (1 : Int32)), (.ref b250), (.ref b250), (.ref b240), (.ref b240)]))
            have cq280 := f278
            obtain ⟨clq280, Arq280, qq280, Sq280, Nq280, Hq280, Gq280⟩ := cq280
            obtain ⟨T281, h281, X281, e281, W281, st281⟩ := stC X265 hx hZ e265 Arq280 (j := (1 : Int32)) (inb_of Sq280 ⟨by decide, by decide⟩) (g := (mkF m 122 #[.val (.ref a0), .val (.int p1)] [(.int k1), (.int (1 : Int32)), (.ref b250), (.ref b250), (.ref b240), (.ref b240)])) rfl rfl (hb hby d1_122)
            refine OwnGo.of st281 ?_
            have N281 := Fr.snoc X281 N265 g_b250
            have cs282 := CHr.wr W281 f277 f269.1
            have f283 : n0 ≤ h281.size := Nat.le_trans f267 (Keep.of_wr W281).1
            have f284 : OwnB s s h281 := f268.wr W281
            have f285 : CHr Z consts_1 s.vm h0 s.vm h281 := f269.trans cs282
            have f286 : Keep h0 h281 [] := f270.wr W281 (Or.inr sz_b250)
            have f287 : Arv Z h281 a0 ka .char (5 : Int32) [(.int k0), (.int k1), (.int k2), (.int k3), (.int k4)] (.int (0 : Int32)) := f271.other W281 ne_a0_b250
            have f288 : Sta Z h281 "java/lang/String" "COMPACT_STRINGS" "Z" (.int zc) := f272.wr W281
            have f289 : Safe Z consts_1 s.vm h281 b240 := cs282.safe f274.lt f273
            have f290 : Exa Z h281 b240 "java/lang/String" := f274.wr W281
            have f291 : Fld Z h281 b240 "java/lang/String" "value" "[B" .null := f275.other W281 (Or.inl ne_b240_b250)
            have f292 : Fld Z h281 b240 "java/lang/String" "coder" "B" (.int (0 : Int32)) := f276.other W281 (Or.inl ne_b240_b250)
            have f293 : Safe Z consts_1 s.vm h281 b250 := cs282.safe f278.lt f277
            have f294 : Arv Z h281 b250 k250 .char (4 : Int32) [(.int (k0).toUInt32.toUInt16.toUInt32.toInt32), (.int (k1).toUInt32.toUInt16.toUInt32.toInt32), (.int (0 : Int32)), (.int (0 : Int32))] (.int (0 : Int32)) := Arv.set Arq280 qq280 Sq280 Nq280 Hq280 Gq280 (fits_nar_char _) W281 1 rfl (Nat.le_of_ble_eq_true rfl)
            show OwnGo p.tables e below _ (T281.setTop (mkF m 123 #[.val (.ref a0), .val (.int p1)] [(.ref b250), (.ref b240), (.ref b240)]))
            refine OwnGo.of (A := T281.setTop (mkF m 123 #[.val (.ref a0), .val (.int p1)] [(.ref b250), (.ref b240), (.ref b240)])) (B := T281.setTop (mkF m 127 #[.val (.ref a0), .val (.int p1)] [(.int (2 : Int32)), (.ref a0), (.int (2 : Int32)), (.ref b250), (.ref b250), (.ref b240), (.ref b240)])) (fun t k => ?_) ?_
            · show Steps p.tables e below (T281.setTop (mkF m 123 #[.val (.ref a0), .val (.int p1)] [(.ref b250), (.ref b240), (.ref b240)])) t
              refine XS.dup X281.here hx rfl (hb hby d1_123) rfl rfl ?_
              refine XS.iconst X281.here hx rfl (hb hby d1_124) ?_
              refine XS.aloadN X281.here hx rfl (hb hby d1_125) rfl rfl ?_
              refine XS.iconst X281.here hx rfl (hb hby d1_126) ?_
              exact k
            have cq295 := f287
            obtain ⟨clq295, Arq295, qq295, Sq295, Nq295, Hq295, Gq295⟩ := cq295
            have hinq295 := inb_of (j := (2 : Int32)) Sq295 ⟨by decide, by decide⟩
            refine OwnGo.of (X281.caload hx (j := (2 : Int32)) (v := (.int k2)) (by rw [e281]; exact Arq295.1) (State.isArrayOf_alike hZ.alike Arq295.2.1) Arq295.2.2 hinq295 (Hq295.at hinq295 rfl) (g := (mkF m 127 #[.val (.ref a0), .val (.int p1)] [(.int (2 : Int32)), (.ref a0), (.int (2 : Int32)), (.ref b250), (.ref b250), (.ref b240), (.ref b240)])) rfl rfl (hb hby d1_127)) ?_
            show OwnGo p.tables e below _ (T281.setTop (mkF m 128 #[.val (.ref a0), .val (.int p1)] [(.int k2), (.int (2 : Int32)), (.ref b250), (.ref b250), (.ref b240), (.ref b240)]))
            have cq296 := f294
            obtain ⟨clq296, Arq296, qq296, Sq296, Nq296, Hq296, Gq296⟩ := cq296
            obtain ⟨T297, h297, X297, e297, W297, st297⟩ := stC X281 hx hZ e281 Arq296 (j := (2 : Int32)) (inb_of Sq296 ⟨by decide, by decide⟩) (g := (mkF m 128 #[.val (.ref a0), .val (.int p1)] [(.int k2), (.int (2 : Int32)), (.ref b250), (.ref b250), (.ref b240), (.ref b240)])) rfl rfl (hb hby d1_128)
            refine OwnGo.of st297 ?_
            have N297 := Fr.snoc X297 N281 g_b250
            have cs298 := CHr.wr W297 f293 f285.1
            have f299 : n0 ≤ h297.size := Nat.le_trans f283 (Keep.of_wr W297).1
            have f300 : OwnB s s h297 := f284.wr W297
            have f301 : CHr Z consts_1 s.vm h0 s.vm h297 := f285.trans cs298
            have f302 : Keep h0 h297 [] := f286.wr W297 (Or.inr sz_b250)
            have f303 : Arv Z h297 a0 ka .char (5 : Int32) [(.int k0), (.int k1), (.int k2), (.int k3), (.int k4)] (.int (0 : Int32)) := f287.other W297 ne_a0_b250
            have f304 : Sta Z h297 "java/lang/String" "COMPACT_STRINGS" "Z" (.int zc) := f288.wr W297
            have f305 : Safe Z consts_1 s.vm h297 b240 := cs298.safe f290.lt f289
            have f306 : Exa Z h297 b240 "java/lang/String" := f290.wr W297
            have f307 : Fld Z h297 b240 "java/lang/String" "value" "[B" .null := f291.other W297 (Or.inl ne_b240_b250)
            have f308 : Fld Z h297 b240 "java/lang/String" "coder" "B" (.int (0 : Int32)) := f292.other W297 (Or.inl ne_b240_b250)
            have f309 : Safe Z consts_1 s.vm h297 b250 := cs298.safe f294.lt f293
            have f310 : Arv Z h297 b250 k250 .char (4 : Int32) [(.int (k0).toUInt32.toUInt16.toUInt32.toInt32), (.int (k1).toUInt32.toUInt16.toUInt32.toInt32), (.int (k2).toUInt32.toUInt16.toUInt32.toInt32), (.int (0 : Int32))] (.int (0 : Int32)) := Arv.set Arq296 qq296 Sq296 Nq296 Hq296 Gq296 (fits_nar_char _) W297 2 rfl (Nat.le_of_ble_eq_true rfl)
            show OwnGo p.tables e below _ (T297.setTop (mkF m 129 #[.val (.ref a0), .val (.int p1)] [(.ref b250), (.ref b240), (.ref b240)]))
            refine OwnGo.of (A := T297.setTop (mkF m 129 #[.val (.ref a0), .val (.int p1)] [(.ref b250), (.ref b240), (.ref b240)])) (B := T297.setTop (mkF m 133 #[.val (.ref a0), .val (.int p1)] [(.int (3 : Int32)), (.ref a0), (.int (3 : Int32)), (.ref b250), (.ref b250), (.ref b240), (.ref b240)])) (fun t k => ?_) ?_
            · show Steps p.tables e below (T297.setTop (mkF m 129 #[.val (.ref a0), .val (.int p1)] [(.ref b250), (.ref b240), (.ref b240)])) t
              refine XS.dup X297.here hx rfl (hb hby d1_129) rfl rfl ?_
              refine XS.iconst X297.here hx rfl (hb hby d1_130) ?_
              refine XS.aloadN X297.here hx rfl (hb hby d1_131) rfl rfl ?_
              refine XS.iconst X297.here hx rfl (hb hby d1_132) ?_
              exact k
            have cq311 := f303
            obtain ⟨clq311, Arq311, qq311, Sq311, Nq311, Hq311, Gq311⟩ := cq311
            have hinq311 := inb_of (j := (3 : Int32)) Sq311 ⟨by decide, by decide⟩
            refine OwnGo.of (X297.caload hx (j := (3 : Int32)) (v := (.int k3)) (by rw [e297]; exact Arq311.1) (State.isArrayOf_alike hZ.alike Arq311.2.1) Arq311.2.2 hinq311 (Hq311.at hinq311 rfl) (g := (mkF m 133 #[.val (.ref a0), .val (.int p1)] [(.int (3 : Int32)), (.ref a0), (.int (3 : Int32)), (.ref b250), (.ref b250), (.ref b240), (.ref b240)])) rfl rfl (hb hby d1_133)) ?_
            show OwnGo p.tables e below _ (T297.setTop (mkF m 134 #[.val (.ref a0), .val (.int p1)] [(.int k3), (.int (3 : Int32)), (.ref b250), (.ref b250), (.ref b240), (.ref b240)]))
            have cq312 := f310
            obtain ⟨clq312, Arq312, qq312, Sq312, Nq312, Hq312, Gq312⟩ := cq312
            obtain ⟨T313, h313, X313, e313, W313, st313⟩ := stC X297 hx hZ e297 Arq312 (j := (3 : Int32)) (inb_of Sq312 ⟨by decide, by decide⟩) (g := (mkF m 134 #[.val (.ref a0), .val (.int p1)] [(.int k3), (.int (3 : Int32)), (.ref b250), (.ref b250), (.ref b240), (.ref b240)])) rfl rfl (hb hby d1_134)
            refine OwnGo.of st313 ?_
            have N313 := Fr.snoc X313 N297 g_b250
            have cs314 := CHr.wr W313 f309 f301.1
            have f315 : n0 ≤ h313.size := Nat.le_trans f299 (Keep.of_wr W313).1
            have f316 : OwnB s s h313 := f300.wr W313
            have f317 : CHr Z consts_1 s.vm h0 s.vm h313 := f301.trans cs314
            have f318 : Keep h0 h313 [] := f302.wr W313 (Or.inr sz_b250)
            have f319 : Arv Z h313 a0 ka .char (5 : Int32) [(.int k0), (.int k1), (.int k2), (.int k3), (.int k4)] (.int (0 : Int32)) := f303.other W313 ne_a0_b250
            have f320 : Sta Z h313 "java/lang/String" "COMPACT_STRINGS" "Z" (.int zc) := f304.wr W313
            have f321 : Safe Z consts_1 s.vm h313 b240 := cs314.safe f306.lt f305
            have f322 : Exa Z h313 b240 "java/lang/String" := f306.wr W313
            have f323 : Fld Z h313 b240 "java/lang/String" "value" "[B" .null := f307.other W313 (Or.inl ne_b240_b250)
            have f324 : Fld Z h313 b240 "java/lang/String" "coder" "B" (.int (0 : Int32)) := f308.other W313 (Or.inl ne_b240_b250)
            have f325 : Safe Z consts_1 s.vm h313 b250 := cs314.safe f310.lt f309
            have f326 : Arv Z h313 b250 k250 .char (4 : Int32) [(.int (k0).toUInt32.toUInt16.toUInt32.toInt32), (.int (k1).toUInt32.toUInt16.toUInt32.toInt32), (.int (k2).toUInt32.toUInt16.toUInt32.toInt32), (.int (k3).toUInt32.toUInt16.toUInt32.toInt32)] (.int (0 : Int32)) := Arv.set Arq312 qq312 Sq312 Nq312 Hq312 Gq312 (fits_nar_char _) W313 3 rfl (Nat.le_of_ble_eq_true rfl)
            show OwnGo p.tables e below _ (T313.setTop (mkF m 135 #[.val (.ref a0), .val (.int p1)] [(.ref b250), (.ref b240), (.ref b240)]))
            have hp_b240 : ∀ c ∈ ([(k0).toUInt32.toUInt16.toUInt32.toInt32, (k1).toUInt32.toUInt16.toUInt32.toInt32, (k2).toUInt32.toUInt16.toUInt32.toInt32, (k3).toUInt32.toUInt16.toUInt32.toInt32] : List Int32), ¬ c < 0 ∧ ¬ (255 : Int32) < c := (own_hS (own_ch hk0) (own_hS (own_ch hk1) (own_hS (own_ch hk2) (own_hS (own_ch hk3) own_h0))))
            obtain ⟨T327, L327, v327, X327, hQ327, st327⟩ := own_callI X313 hx (y := (⟨"java/lang/String", "<init>", "([C)V"⟩ : MethodName)) rfl hown (mvT hZ (hw _ (List.mem_of_getElem? (i := 8) rfl))) (mvT hZ (hw _ (List.mem_of_getElem? (i := 9) rfl))) (mvT hZ (hw _ (List.mem_of_getElem? (i := 10) rfl))) (by decide) (StrChars.Road.backV (W := 1) hZ (own_ws hw) (kI := 4) (hw _ (List.mem_of_getElem? (i := 6) rfl)) (cs := ([(k0).toUInt32.toUInt16.toUInt32.toInt32, (k1).toUInt32.toUInt16.toUInt32.toInt32, (k2).toUInt32.toUInt16.toUInt32.toInt32, (k3).toUInt32.toUInt16.toUInt32.toInt32] : List Int32)) (bs := (([(k0).toUInt32.toUInt16.toUInt32.toInt32, (k1).toUInt32.toUInt16.toUInt32.toInt32, (k2).toUInt32.toUInt16.toUInt32.toInt32, (k3).toUInt32.toUInt16.toUInt32.toInt32] : List Int32)).map (fun c => c.toInt8.toInt32)) (n := 4) g_b240 f315 f322 f323 f324 f326 f320 hzc rfl rfl (by decide) (by decide) hp_b240 rfl (by decide) (by decide)) (g := (mkF m 135 #[.val (.ref a0), .val (.int p1)] [(.ref b250), (.ref b240), (.ref b240)])) rfl (by rw [hml]; rfl) (a := b240) (argsL := [(.ref b250)]) (rest := [(.ref b240)]) (lenOf pd_3 rfl) rfl (by show 2 * 0 + _ ≤ _; exact Nat.le_of_eq rfl) (hb hby d1_135) rfl e313 (by decide) (by decide)
            obtain ⟨rfl, N327q, K327, y327E, y327C, t327, kb327, -, -, -, y327V, y327A⟩ := hQ327
            have cs328 := CHr.keep K327 (allS f321 all0) f317.1
            have f329 : n0 ≤ T327.heap.size := Nat.le_trans f315 K327.1
            have f330 : OwnB s s T327.heap := f316.keep K327
            have f331 : CHr Z consts_1 s.vm h0 s.vm T327.heap := f317.trans cs328
            have f332 : Keep h0 T327.heap [] := f318.trans K327 (allS (Or.inr sz_b240) all0)
            have f333 : Arv Z T327.heap a0 ka .char (5 : Int32) [(.int k0), (.int k1), (.int k2), (.int k3), (.int k4)] (.int (0 : Int32)) := f319.keep K327 (ninS ne_a0_b240 nin0)
            have f334 : Sta Z T327.heap "java/lang/String" "COMPACT_STRINGS" "Z" (.int zc) := own_sta_keep f320 K327 (allS (own_ns_exa f322) all0)
            have f335 : Safe Z consts_1 s.vm T327.heap b240 := cs328.safe f322.lt f321
            have f336 : Exa Z T327.heap b240 "java/lang/String" := f322.keep K327
            have f337 : Safe Z consts_1 s.vm T327.heap b250 := cs328.safe f326.lt f325
            have f338 : Arv Z T327.heap b250 k250 .char (4 : Int32) [(.int (k0).toUInt32.toUInt16.toUInt32.toInt32), (.int (k1).toUInt32.toUInt16.toUInt32.toInt32), (.int (k2).toUInt32.toUInt16.toUInt32.toInt32), (.int (k3).toUInt32.toUInt16.toUInt32.toInt32)] (.int (0 : Int32)) := f326.keep K327 (ninS (Ne.symm ne_b240_b250) nin0)
            have N327 := Fr.app N313 N327q
            refine OwnGo.of st327 ?_
            show OwnGo p.tables e below _ (T327.setTop (mkF m 138 #[.val (.ref a0), .val (.int p1)] [(.ref b240)]))
            obtain ⟨fs, hr, hrun, hended, hRW⟩ := own_leaveW X327 f330 rfl (v := some (.ref b240)) (fun h => by rw [Bd.returns] at h; cases h) hlk
            refine ⟨_, _, ?_, hrun, hended, _, _, rfl, ?_, own_endW X327 hZ (own_EW hw) rfl hh f331 fs, own_monoW hRW (by decide) (by decide)⟩
            · show Steps p.tables e below (T327.setTop (mkF m 138 #[.val (.ref a0), .val (.int p1)] [(.ref b240)])) _
              exact own_retA X327 hx Bd.returns rfl rfl rfl (hb hby d1_138) hr
            · show Qrm1 Z a0 p1 k0 k1 k2 k3 k4 ka zc h0 n0 _ (T327.setFrames fs).heap _
              rw [show (T327.setFrames fs).heap = T327.heap from rfl]
              exact ⟨N327, f332, b240, [(k0).toUInt32.toUInt16.toUInt32.toInt32, (k1).toUInt32.toUInt16.toUInt32.toInt32, (k2).toUInt32.toUInt16.toUInt32.toInt32, (k3).toUInt32.toUInt16.toUInt32.toInt32], rfl, _, _, _, _, _, y327E, y327V, y327C, y327A, StrChars.Road.codOf (n := 4) rfl (fun c hc => (hp_b240 c hc).2), own_up hp_b240, Nat.le_of_ble_eq_true rfl⟩
          · refine OwnGo.of (A := s₁.setTop (mkF m 101 #[.val (.ref a0), .val (.int p1)] [(.int (4 : Int32)), (.int p1)])) (B := s₁.setTop (mkF m 139 #[.val (.ref a0), .val (.int p1)] [])) (fun t k => ?_) ?_
            · show Steps p.tables e below (s₁.setTop (mkF m 101 #[.val (.ref a0), .val (.int p1)] [(.int (4 : Int32)), (.int p1)])) t
              refine XS.icmpYes X0.here hx rfl (pc0 := 101) (pc' := 139) rfl (hb hby d1_101) rfl (feq hc239).2 (by decide) (by decide) ?_
              exact k
            obtain ⟨T339, h339, X339, e339, E339, A339, D339, -, st339⟩ := newO X0 hx hZ hown (hw _ (List.mem_of_getElem? (i := 5) rfl)) (hw _ (List.mem_of_getElem? (i := 6) rfl)) (hw _ (List.mem_of_getElem? (i := 7) rfl)) e0 (g := (mkF m 139 #[.val (.ref a0), .val (.int p1)] [])) rfl (hb hby d1_139) (by decide) (by decide)
            obtain ⟨b339, g339⟩ : ∃ z, z = h0.size := ⟨_, rfl⟩
            rw [← g339] at A339 D339 st339
            refine OwnGo.of st339 ?_
            have ne_a0_b339 : a0 ≠ b339 := Nat.ne_of_lt (Nat.lt_of_lt_of_le V_a.lt (Nat.le_of_eq g339.symm))
            have gn_b339 : Safe Z consts_1 s.vm h339 b339 := Safe.ext E339 C0.1 (Safe.new (Nat.le_of_eq g339.symm))
            have g_b339 : n0 ≤ b339 := Nat.le_trans Z0 (Nat.le_of_eq g339.symm)
            have sz_b339 : h0.size ≤ b339 := Nat.le_trans K0.1 (Nat.le_of_eq g339.symm)
            have cs340 := CHr.ext E339 C0.1
            have f341 : n0 ≤ h339.size := Nat.le_trans Z0 E339.1
            have f342 : OwnB s s h339 := B0.ext E339
            have f343 : CHr Z consts_1 s.vm h0 s.vm h339 := C0.trans cs340
            have f344 : Keep h0 h339 [] := K0.ext E339
            have f345 : Arv Z h339 a0 ka .char (5 : Int32) [(.int k0), (.int k1), (.int k2), (.int k3), (.int k4)] (.int (0 : Int32)) := V_a.ext E339
            have f346 : Sta Z h339 "java/lang/String" "COMPACT_STRINGS" "Z" (.int zc) := S_COMPACT_STRINGS.ext E339
            have f347 : Fld Z h339 b339 "java/lang/String" "value" "[B" .null := D339 (Or.inr (hw _ (List.mem_of_getElem? (i := 20) rfl))) (ty := (.array .byte)) (by decide)
            have f348 : Fld Z h339 b339 "java/lang/String" "coder" "B" (.int (0 : Int32)) := D339 (Or.inr (hw _ (List.mem_of_getElem? (i := 21) rfl))) (ty := .byte) (by decide)
            show OwnGo p.tables e below _ (T339.setTop (mkF m 142 #[.val (.ref a0), .val (.int p1)] [(.ref b339)]))
            refine OwnGo.of (A := T339.setTop (mkF m 142 #[.val (.ref a0), .val (.int p1)] [(.ref b339)])) (B := T339.setTop (mkF m 144 #[.val (.ref a0), .val (.int p1)] [(.int (5 : Int32)), (.ref b339), (.ref b339)])) (fun t k => ?_) ?_
            · show Steps p.tables e below (T339.setTop (mkF m 142 #[.val (.ref a0), .val (.int p1)] [(.ref b339)])) t
              refine XS.dup X339.here hx rfl (hb hby d1_142) rfl rfl ?_
              refine XS.iconst X339.here hx rfl (hb hby d1_143) ?_
              exact k
            obtain ⟨T349, h349, k349, X349, e349, E349, A349, st349⟩ := newP X339 hx hZ (hw _ (List.mem_of_getElem? (i := 0) rfl)) e339 (g := (mkF m 144 #[.val (.ref a0), .val (.int p1)] [(.int (5 : Int32)), (.ref b339), (.ref b339)])) rfl (hb hby d1_144) rfl (by decide) (cap := 5) (by decide) (by decide) (by decide) (by decide)
            obtain ⟨b349, g349⟩ : ∃ z, z = h339.size := ⟨_, rfl⟩
            rw [← g349] at A349 st349
            refine OwnGo.of st349 ?_
            have ne_a0_b349 : a0 ≠ b349 := Nat.ne_of_lt (Nat.lt_of_lt_of_le f345.lt (Nat.le_of_eq g349.symm))
            have ne_b339_b349 : b339 ≠ b349 := Nat.ne_of_lt (Nat.lt_of_lt_of_le A339.lt (Nat.le_of_eq g349.symm))
            have gn_b349 : Safe Z consts_1 s.vm h349 b349 := Safe.ext E349 f343.1 (Safe.new (Nat.le_of_eq g349.symm))
            have g_b349 : n0 ≤ b349 := Nat.le_trans f341 (Nat.le_of_eq g349.symm)
            have sz_b349 : h0.size ≤ b349 := Nat.le_trans f344.1 (Nat.le_of_eq g349.symm)
            have cs350 := CHr.ext E349 f343.1
            have f351 : n0 ≤ h349.size := Nat.le_trans f341 E349.1
            have f352 : OwnB s s h349 := f342.ext E349
            have f353 : CHr Z consts_1 s.vm h0 s.vm h349 := f343.trans cs350
            have f354 : Keep h0 h349 [] := f344.ext E349
            have f355 : Arv Z h349 a0 ka .char (5 : Int32) [(.int k0), (.int k1), (.int k2), (.int k3), (.int k4)] (.int (0 : Int32)) := f345.ext E349
            have f356 : Sta Z h349 "java/lang/String" "COMPACT_STRINGS" "Z" (.int zc) := f346.ext E349
            have f357 : Safe Z consts_1 s.vm h349 b339 := cs350.safe A339.lt gn_b339
            have f358 : Exa Z h349 b339 "java/lang/String" := A339.ext E349
            have f359 : Fld Z h349 b339 "java/lang/String" "value" "[B" .null := f347.ext E349
            have f360 : Fld Z h349 b339 "java/lang/String" "coder" "B" (.int (0 : Int32)) := f348.ext E349
            have f361 : Arv Z h349 b349 k349 .char (5 : Int32) [(.int (0 : Int32)), (.int (0 : Int32)), (.int (0 : Int32)), (.int (0 : Int32)), (.int (0 : Int32))] (.int (0 : Int32)) := (Arv.new A349 (by decide)).pad (pad_rep [] (.int (0 : Int32)) 5)
            show OwnGo p.tables e below _ (T349.setTop (mkF m 146 #[.val (.ref a0), .val (.int p1)] [(.ref b349), (.ref b339), (.ref b339)]))
            refine OwnGo.of (A := T349.setTop (mkF m 146 #[.val (.ref a0), .val (.int p1)] [(.ref b349), (.ref b339), (.ref b339)])) (B := T349.setTop (mkF m 150 #[.val (.ref a0), .val (.int p1)] [(.int (0 : Int32)), (.ref a0), (.int (0 : Int32)), (.ref b349), (.ref b349), (.ref b339), (.ref b339)])) (fun t k => ?_) ?_
            · show Steps p.tables e below (T349.setTop (mkF m 146 #[.val (.ref a0), .val (.int p1)] [(.ref b349), (.ref b339), (.ref b339)])) t
              refine XS.dup X349.here hx rfl (hb hby d1_146) rfl rfl ?_
              refine XS.iconst X349.here hx rfl (hb hby d1_147) ?_
              refine XS.aloadN X349.here hx rfl (hb hby d1_148) rfl rfl ?_
              refine XS.iconst X349.here hx rfl (hb hby d1_149) ?_
              exact k
            have cq362 := f355
            obtain ⟨clq362, Arq362, qq362, Sq362, Nq362, Hq362, Gq362⟩ := cq362
            have hinq362 := inb_of (j := (0 : Int32)) Sq362 ⟨by decide, by decide⟩
            refine OwnGo.of (X349.caload hx (j := (0 : Int32)) (v := (.int k0)) (by rw [e349]; exact Arq362.1) (State.isArrayOf_alike hZ.alike Arq362.2.1) Arq362.2.2 hinq362 (Hq362.at hinq362 rfl) (g := (mkF m 150 #[.val (.ref a0), .val (.int p1)] [(.int (0 : Int32)), (.ref a0), (.int (0 : Int32)), (.ref b349), (.ref b349), (.ref b339), (.ref b339)])) rfl rfl (hb hby d1_150)) ?_
            show OwnGo p.tables e below _ (T349.setTop (mkF m 151 #[.val (.ref a0), .val (.int p1)] [(.int k0), (.int (0 : Int32)), (.ref b349), (.ref b349), (.ref b339), (.ref b339)]))
            have cq363 := f361
            obtain ⟨clq363, Arq363, qq363, Sq363, Nq363, Hq363, Gq363⟩ := cq363
            obtain ⟨T364, h364, X364, e364, W364, st364⟩ := stC X349 hx hZ e349 Arq363 (j := (0 : Int32)) (inb_of Sq363 ⟨by decide, by decide⟩) (g := (mkF m 151 #[.val (.ref a0), .val (.int p1)] [(.int k0), (.int (0 : Int32)), (.ref b349), (.ref b349), (.ref b339), (.ref b339)])) rfl rfl (hb hby d1_151)
            refine OwnGo.of st364 ?_
            have N364 := Fr.snoc X364 N0 g_b349
            have cs365 := CHr.wr W364 gn_b349 f353.1
            have f366 : n0 ≤ h364.size := Nat.le_trans f351 (Keep.of_wr W364).1
            have f367 : OwnB s s h364 := f352.wr W364
            have f368 : CHr Z consts_1 s.vm h0 s.vm h364 := f353.trans cs365
            have f369 : Keep h0 h364 [] := f354.wr W364 (Or.inr sz_b349)
            have f370 : Arv Z h364 a0 ka .char (5 : Int32) [(.int k0), (.int k1), (.int k2), (.int k3), (.int k4)] (.int (0 : Int32)) := f355.other W364 ne_a0_b349
            have f371 : Sta Z h364 "java/lang/String" "COMPACT_STRINGS" "Z" (.int zc) := f356.wr W364
            have f372 : Safe Z consts_1 s.vm h364 b339 := cs365.safe f358.lt f357
            have f373 : Exa Z h364 b339 "java/lang/String" := f358.wr W364
            have f374 : Fld Z h364 b339 "java/lang/String" "value" "[B" .null := f359.other W364 (Or.inl ne_b339_b349)
            have f375 : Fld Z h364 b339 "java/lang/String" "coder" "B" (.int (0 : Int32)) := f360.other W364 (Or.inl ne_b339_b349)
            have f376 : Safe Z consts_1 s.vm h364 b349 := cs365.safe f361.lt gn_b349
            have f377 : Arv Z h364 b349 k349 .char (5 : Int32) [(.int (k0).toUInt32.toUInt16.toUInt32.toInt32), (.int (0 : Int32)), (.int (0 : Int32)), (.int (0 : Int32)), (.int (0 : Int32))] (.int (0 : Int32)) := Arv.set Arq363 qq363 Sq363 Nq363 Hq363 Gq363 (fits_nar_char _) W364 0 rfl (Nat.le_of_ble_eq_true rfl)
            show OwnGo p.tables e below _ (T364.setTop (mkF m 152 #[.val (.ref a0), .val (.int p1)] [(.ref b349), (.ref b339), (.ref b339)]))
            refine OwnGo.of (A := T364.setTop (mkF m 152 #[.val (.ref a0), .val (.int p1)] [(.ref b349), (.ref b339), (.ref b339)])) (B := T364.setTop (mkF m 156 #[.val (.ref a0), .val (.int p1)] [(.int (1 : Int32)), (.ref a0), (.int (1 : Int32)), (.ref b349), (.ref b349), (.ref b339), (.ref b339)])) (fun t k => ?_) ?_
            · show Steps p.tables e below (T364.setTop (mkF m 152 #[.val (.ref a0), .val (.int p1)] [(.ref b349), (.ref b339), (.ref b339)])) t
              refine XS.dup X364.here hx rfl (hb hby d1_152) rfl rfl ?_
              refine XS.iconst X364.here hx rfl (hb hby d1_153) ?_
              refine XS.aloadN X364.here hx rfl (hb hby d1_154) rfl rfl ?_
              refine XS.iconst X364.here hx rfl (hb hby d1_155) ?_
              exact k
            have cq378 := f370
            obtain ⟨clq378, Arq378, qq378, Sq378, Nq378, Hq378, Gq378⟩ := cq378
            have hinq378 := inb_of (j := (1 : Int32)) Sq378 ⟨by decide, by decide⟩
            refine OwnGo.of (X364.caload hx (j := (1 : Int32)) (v := (.int k1)) (by rw [e364]; exact Arq378.1) (State.isArrayOf_alike hZ.alike Arq378.2.1) Arq378.2.2 hinq378 (Hq378.at hinq378 rfl) (g := (mkF m 156 #[.val (.ref a0), .val (.int p1)] [(.int (1 : Int32)), (.ref a0), (.int (1 : Int32)), (.ref b349), (.ref b349), (.ref b339), (.ref b339)])) rfl rfl (hb hby d1_156)) ?_
            show OwnGo p.tables e below _ (T364.setTop (mkF m 157 #[.val (.ref a0), .val (.int p1)] [(.int k1), (.int (1 : Int32)), (.ref b349), (.ref b349), (.ref b339), (.ref b339)]))
            have cq379 := f377
            obtain ⟨clq379, Arq379, qq379, Sq379, Nq379, Hq379, Gq379⟩ := cq379
            obtain ⟨T380, h380, X380, e380, W380, st380⟩ := stC X364 hx hZ e364 Arq379 (j := (1 : Int32)) (inb_of Sq379 ⟨by decide, by decide⟩) (g := (mkF m 157 #[.val (.ref a0), .val (.int p1)] [(.int k1), (.int (1 : Int32)), (.ref b349), (.ref b349), (.ref b339), (.ref b339)])) rfl rfl (hb hby d1_157)
            refine OwnGo.of st380 ?_
            have N380 := Fr.snoc X380 N364 g_b349
            have cs381 := CHr.wr W380 f376 f368.1
            have f382 : n0 ≤ h380.size := Nat.le_trans f366 (Keep.of_wr W380).1
            have f383 : OwnB s s h380 := f367.wr W380
            have f384 : CHr Z consts_1 s.vm h0 s.vm h380 := f368.trans cs381
            have f385 : Keep h0 h380 [] := f369.wr W380 (Or.inr sz_b349)
            have f386 : Arv Z h380 a0 ka .char (5 : Int32) [(.int k0), (.int k1), (.int k2), (.int k3), (.int k4)] (.int (0 : Int32)) := f370.other W380 ne_a0_b349
            have f387 : Sta Z h380 "java/lang/String" "COMPACT_STRINGS" "Z" (.int zc) := f371.wr W380
            have f388 : Safe Z consts_1 s.vm h380 b339 := cs381.safe f373.lt f372
            have f389 : Exa Z h380 b339 "java/lang/String" := f373.wr W380
            have f390 : Fld Z h380 b339 "java/lang/String" "value" "[B" .null := f374.other W380 (Or.inl ne_b339_b349)
            have f391 : Fld Z h380 b339 "java/lang/String" "coder" "B" (.int (0 : Int32)) := f375.other W380 (Or.inl ne_b339_b349)
            have f392 : Safe Z consts_1 s.vm h380 b349 := cs381.safe f377.lt f376
            have f393 : Arv Z h380 b349 k349 .char (5 : Int32) [(.int (k0).toUInt32.toUInt16.toUInt32.toInt32), (.int (k1).toUInt32.toUInt16.toUInt32.toInt32), (.int (0 : Int32)), (.int (0 : Int32)), (.int (0 : Int32))] (.int (0 : Int32)) := Arv.set Arq379 qq379 Sq379 Nq379 Hq379 Gq379 (fits_nar_char _) W380 1 rfl (Nat.le_of_ble_eq_true rfl)
            show OwnGo p.tables e below _ (T380.setTop (mkF m 158 #[.val (.ref a0), .val (.int p1)] [(.ref b349), (.ref b339), (.ref b339)]))
            refine OwnGo.of (A := T380.setTop (mkF m 158 #[.val (.ref a0), .val (.int p1)] [(.ref b349), (.ref b339), (.ref b339)])) (B := T380.setTop (mkF m 162 #[.val (.ref a0), .val (.int p1)] [(.int (2 : Int32)), (.ref a0), (.int (2 : Int32)), (.ref b349), (.ref b349), (.ref b339), (.ref b339)])) (fun t k => ?_) ?_
            · show Steps p.tables e below (T380.setTop (mkF m 158 #[.val (.ref a0), .val (.int p1)] [(.ref b349), (.ref b339), (.ref b339)])) t
              refine XS.dup X380.here hx rfl (hb hby d1_158) rfl rfl ?_
              refine XS.iconst X380.here hx rfl (hb hby d1_159) ?_
              refine XS.aloadN X380.here hx rfl (hb hby d1_160) rfl rfl ?_
              refine XS.iconst X380.here hx rfl (hb hby d1_161) ?_
              exact k
            have cq394 := f386
            obtain ⟨clq394, Arq394, qq394, Sq394, Nq394, Hq394, Gq394⟩ := cq394
            have hinq394 := inb_of (j := (2 : Int32)) Sq394 ⟨by decide, by decide⟩
            refine OwnGo.of (X380.caload hx (j := (2 : Int32)) (v := (.int k2)) (by rw [e380]; exact Arq394.1) (State.isArrayOf_alike hZ.alike Arq394.2.1) Arq394.2.2 hinq394 (Hq394.at hinq394 rfl) (g := (mkF m 162 #[.val (.ref a0), .val (.int p1)] [(.int (2 : Int32)), (.ref a0), (.int (2 : Int32)), (.ref b349), (.ref b349), (.ref b339), (.ref b339)])) rfl rfl (hb hby d1_162)) ?_
            show OwnGo p.tables e below _ (T380.setTop (mkF m 163 #[.val (.ref a0), .val (.int p1)] [(.int k2), (.int (2 : Int32)), (.ref b349), (.ref b349), (.ref b339), (.ref b339)]))
            have cq395 := f393
            obtain ⟨clq395, Arq395, qq395, Sq395, Nq395, Hq395, Gq395⟩ := cq395
            obtain ⟨T396, h396, X396, e396, W396, st396⟩ := stC X380 hx hZ e380 Arq395 (j := (2 : Int32)) (inb_of Sq395 ⟨by decide, by decide⟩) (g := (mkF m 163 #[.val (.ref a0), .val (.int p1)] [(.int k2), (.int (2 : Int32)), (.ref b349), (.ref b349), (.ref b339), (.ref b339)])) rfl rfl (hb hby d1_163)
            refine OwnGo.of st396 ?_
            have N396 := Fr.snoc X396 N380 g_b349
            have cs397 := CHr.wr W396 f392 f384.1
            have f398 : n0 ≤ h396.size := Nat.le_trans f382 (Keep.of_wr W396).1
            have f399 : OwnB s s h396 := f383.wr W396
            have f400 : CHr Z consts_1 s.vm h0 s.vm h396 := f384.trans cs397
            have f401 : Keep h0 h396 [] := f385.wr W396 (Or.inr sz_b349)
            have f402 : Arv Z h396 a0 ka .char (5 : Int32) [(.int k0), (.int k1), (.int k2), (.int k3), (.int k4)] (.int (0 : Int32)) := f386.other W396 ne_a0_b349
            have f403 : Sta Z h396 "java/lang/String" "COMPACT_STRINGS" "Z" (.int zc) := f387.wr W396
            have f404 : Safe Z consts_1 s.vm h396 b339 := cs397.safe f389.lt f388
            have f405 : Exa Z h396 b339 "java/lang/String" := f389.wr W396
            have f406 : Fld Z h396 b339 "java/lang/String" "value" "[B" .null := f390.other W396 (Or.inl ne_b339_b349)
            have f407 : Fld Z h396 b339 "java/lang/String" "coder" "B" (.int (0 : Int32)) := f391.other W396 (Or.inl ne_b339_b349)
            have f408 : Safe Z consts_1 s.vm h396 b349 := cs397.safe f393.lt f392
            have f409 : Arv Z h396 b349 k349 .char (5 : Int32) [(.int (k0).toUInt32.toUInt16.toUInt32.toInt32), (.int (k1).toUInt32.toUInt16.toUInt32.toInt32), (.int (k2).toUInt32.toUInt16.toUInt32.toInt32), (.int (0 : Int32)), (.int (0 : Int32))] (.int (0 : Int32)) := Arv.set Arq395 qq395 Sq395 Nq395 Hq395 Gq395 (fits_nar_char _) W396 2 rfl (Nat.le_of_ble_eq_true rfl)
            show OwnGo p.tables e below _ (T396.setTop (mkF m 164 #[.val (.ref a0), .val (.int p1)] [(.ref b349), (.ref b339), (.ref b339)]))
            refine OwnGo.of (A := T396.setTop (mkF m 164 #[.val (.ref a0), .val (.int p1)] [(.ref b349), (.ref b339), (.ref b339)])) (B := T396.setTop (mkF m 168 #[.val (.ref a0), .val (.int p1)] [(.int (3 : Int32)), (.ref a0), (.int (3 : Int32)), (.ref b349), (.ref b349), (.ref b339), (.ref b339)])) (fun t k => ?_) ?_
            · show Steps p.tables e below (T396.setTop (mkF m 164 #[.val (.ref a0), .val (.int p1)] [(.ref b349), (.ref b339), (.ref b339)])) t
              refine XS.dup X396.here hx rfl (hb hby d1_164) rfl rfl ?_
              refine XS.iconst X396.here hx rfl (hb hby d1_165) ?_
              refine XS.aloadN X396.here hx rfl (hb hby d1_166) rfl rfl ?_
              refine XS.iconst X396.here hx rfl (hb hby d1_167) ?_
              exact k
            have cq410 := f402
            obtain ⟨clq410, Arq410, qq410, Sq410, Nq410, Hq410, Gq410⟩ := cq410
            have hinq410 := inb_of (j := (3 : Int32)) Sq410 ⟨by decide, by decide⟩
            refine OwnGo.of (X396.caload hx (j := (3 : Int32)) (v := (.int k3)) (by rw [e396]; exact Arq410.1) (State.isArrayOf_alike hZ.alike Arq410.2.1) Arq410.2.2 hinq410 (Hq410.at hinq410 rfl) (g := (mkF m 168 #[.val (.ref a0), .val (.int p1)] [(.int (3 : Int32)), (.ref a0), (.int (3 : Int32)), (.ref b349), (.ref b349), (.ref b339), (.ref b339)])) rfl rfl (hb hby d1_168)) ?_
            show OwnGo p.tables e below _ (T396.setTop (mkF m 169 #[.val (.ref a0), .val (.int p1)] [(.int k3), (.int (3 : Int32)), (.ref b349), (.ref b349), (.ref b339), (.ref b339)]))
            have cq411 := f409
            obtain ⟨clq411, Arq411, qq411, Sq411, Nq411, Hq411, Gq411⟩ := cq411
            obtain ⟨T412, h412, X412, e412, W412, st412⟩ := stC X396 hx hZ e396 Arq411 (j := (3 : Int32)) (inb_of Sq411 ⟨by decide, by decide⟩) (g := (mkF m 169 #[.val (.ref a0), .val (.int p1)] [(.int k3), (.int (3 : Int32)), (.ref b349), (.ref b349), (.ref b339), (.ref b339)])) rfl rfl (hb hby d1_169)
            refine OwnGo.of st412 ?_
            have N412 := Fr.snoc X412 N396 g_b349
            have cs413 := CHr.wr W412 f408 f400.1
            have f414 : n0 ≤ h412.size := Nat.le_trans f398 (Keep.of_wr W412).1
            have f415 : OwnB s s h412 := f399.wr W412
            have f416 : CHr Z consts_1 s.vm h0 s.vm h412 := f400.trans cs413
            have f417 : Keep h0 h412 [] := f401.wr W412 (Or.inr sz_b349)
            have f418 : Arv Z h412 a0 ka .char (5 : Int32) [(.int k0), (.int k1), (.int k2), (.int k3), (.int k4)] (.int (0 : Int32)) := f402.other W412 ne_a0_b349
            have f419 : Sta Z h412 "java/lang/String" "COMPACT_STRINGS" "Z" (.int zc) := f403.wr W412
            have f420 : Safe Z consts_1 s.vm h412 b339 := cs413.safe f405.lt f404
            have f421 : Exa Z h412 b339 "java/lang/String" := f405.wr W412
            have f422 : Fld Z h412 b339 "java/lang/String" "value" "[B" .null := f406.other W412 (Or.inl ne_b339_b349)
            have f423 : Fld Z h412 b339 "java/lang/String" "coder" "B" (.int (0 : Int32)) := f407.other W412 (Or.inl ne_b339_b349)
            have f424 : Safe Z consts_1 s.vm h412 b349 := cs413.safe f409.lt f408
            have f425 : Arv Z h412 b349 k349 .char (5 : Int32) [(.int (k0).toUInt32.toUInt16.toUInt32.toInt32), (.int (k1).toUInt32.toUInt16.toUInt32.toInt32), (.int (k2).toUInt32.toUInt16.toUInt32.toInt32), (.int (k3).toUInt32.toUInt16.toUInt32.toInt32), (.int (0 : Int32))] (.int (0 : Int32)) := Arv.set Arq411 qq411 Sq411 Nq411 Hq411 Gq411 (fits_nar_char _) W412 3 rfl (Nat.le_of_ble_eq_true rfl)
            show OwnGo p.tables e below _ (T412.setTop (mkF m 170 #[.val (.ref a0), .val (.int p1)] [(.ref b349), (.ref b339), (.ref b339)]))
            refine OwnGo.of (A := T412.setTop (mkF m 170 #[.val (.ref a0), .val (.int p1)] [(.ref b349), (.ref b339), (.ref b339)])) (B := T412.setTop (mkF m 174 #[.val (.ref a0), .val (.int p1)] [(.int (4 : Int32)), (.ref a0), (.int (4 : Int32)), (.ref b349), (.ref b349), (.ref b339), (.ref b339)])) (fun t k => ?_) ?_
            · show Steps p.tables e below (T412.setTop (mkF m 170 #[.val (.ref a0), .val (.int p1)] [(.ref b349), (.ref b339), (.ref b339)])) t
              refine XS.dup X412.here hx rfl (hb hby d1_170) rfl rfl ?_
              refine XS.iconst X412.here hx rfl (hb hby d1_171) ?_
              refine XS.aloadN X412.here hx rfl (hb hby d1_172) rfl rfl ?_
              refine XS.iconst X412.here hx rfl (hb hby d1_173) ?_
              exact k
            have cq426 := f418
            obtain ⟨clq426, Arq426, qq426, Sq426, Nq426, Hq426, Gq426⟩ := cq426
            have hinq426 := inb_of (j := (4 : Int32)) Sq426 ⟨by decide, by decide⟩
            refine OwnGo.of (X412.caload hx (j := (4 : Int32)) (v := (.int k4)) (by rw [e412]; exact Arq426.1) (State.isArrayOf_alike hZ.alike Arq426.2.1) Arq426.2.2 hinq426 (Hq426.at hinq426 rfl) (g := (mkF m 174 #[.val (.ref a0), .val (.int p1)] [(.int (4 : Int32)), (.ref a0), (.int (4 : Int32)), (.ref b349), (.ref b349), (.ref b339), (.ref b339)])) rfl rfl (hb hby d1_174)) ?_
            show OwnGo p.tables e below _ (T412.setTop (mkF m 175 #[.val (.ref a0), .val (.int p1)] [(.int k4), (.int (4 : Int32)), (.ref b349), (.ref b349), (.ref b339), (.ref b339)]))
            have cq427 := f425
            obtain ⟨clq427, Arq427, qq427, Sq427, Nq427, Hq427, Gq427⟩ := cq427
            obtain ⟨T428, h428, X428, e428, W428, st428⟩ := stC X412 hx hZ e412 Arq427 (j := (4 : Int32)) (inb_of Sq427 ⟨by decide, by decide⟩) (g := (mkF m 175 #[.val (.ref a0), .val (.int p1)] [(.int k4), (.int (4 : Int32)), (.ref b349), (.ref b349), (.ref b339), (.ref b339)])) rfl rfl (hb hby d1_175)
            refine OwnGo.of st428 ?_
            have N428 := Fr.snoc X428 N412 g_b349
            have cs429 := CHr.wr W428 f424 f416.1
            have f430 : n0 ≤ h428.size := Nat.le_trans f414 (Keep.of_wr W428).1
            have f431 : OwnB s s h428 := f415.wr W428
            have f432 : CHr Z consts_1 s.vm h0 s.vm h428 := f416.trans cs429
            have f433 : Keep h0 h428 [] := f417.wr W428 (Or.inr sz_b349)
            have f434 : Arv Z h428 a0 ka .char (5 : Int32) [(.int k0), (.int k1), (.int k2), (.int k3), (.int k4)] (.int (0 : Int32)) := f418.other W428 ne_a0_b349
            have f435 : Sta Z h428 "java/lang/String" "COMPACT_STRINGS" "Z" (.int zc) := f419.wr W428
            have f436 : Safe Z consts_1 s.vm h428 b339 := cs429.safe f421.lt f420
            have f437 : Exa Z h428 b339 "java/lang/String" := f421.wr W428
            have f438 : Fld Z h428 b339 "java/lang/String" "value" "[B" .null := f422.other W428 (Or.inl ne_b339_b349)
            have f439 : Fld Z h428 b339 "java/lang/String" "coder" "B" (.int (0 : Int32)) := f423.other W428 (Or.inl ne_b339_b349)
            have f440 : Safe Z consts_1 s.vm h428 b349 := cs429.safe f425.lt f424
            have f441 : Arv Z h428 b349 k349 .char (5 : Int32) [(.int (k0).toUInt32.toUInt16.toUInt32.toInt32), (.int (k1).toUInt32.toUInt16.toUInt32.toInt32), (.int (k2).toUInt32.toUInt16.toUInt32.toInt32), (.int (k3).toUInt32.toUInt16.toUInt32.toInt32), (.int (k4).toUInt32.toUInt16.toUInt32.toInt32)] (.int (0 : Int32)) := Arv.set Arq427 qq427 Sq427 Nq427 Hq427 Gq427 (fits_nar_char _) W428 4 rfl (Nat.le_of_ble_eq_true rfl)
            show OwnGo p.tables e below _ (T428.setTop (mkF m 176 #[.val (.ref a0), .val (.int p1)] [(.ref b349), (.ref b339), (.ref b339)]))
            have hp_b339 : ∀ c ∈ ([(k0).toUInt32.toUInt16.toUInt32.toInt32, (k1).toUInt32.toUInt16.toUInt32.toInt32, (k2).toUInt32.toUInt16.toUInt32.toInt32, (k3).toUInt32.toUInt16.toUInt32.toInt32, (k4).toUInt32.toUInt16.toUInt32.toInt32] : List Int32), ¬ c < 0 ∧ ¬ (255 : Int32) < c := (own_hS (own_ch hk0) (own_hS (own_ch hk1) (own_hS (own_ch hk2) (own_hS (own_ch hk3) (own_hS (own_ch hk4) own_h0)))))
            obtain ⟨T442, L442, v442, X442, hQ442, st442⟩ := own_callI X428 hx (y := (⟨"java/lang/String", "<init>", "([C)V"⟩ : MethodName)) rfl hown (mvT hZ (hw _ (List.mem_of_getElem? (i := 8) rfl))) (mvT hZ (hw _ (List.mem_of_getElem? (i := 9) rfl))) (mvT hZ (hw _ (List.mem_of_getElem? (i := 10) rfl))) (by decide) (StrChars.Road.backV (W := 1) hZ (own_ws hw) (kI := 4) (hw _ (List.mem_of_getElem? (i := 6) rfl)) (cs := ([(k0).toUInt32.toUInt16.toUInt32.toInt32, (k1).toUInt32.toUInt16.toUInt32.toInt32, (k2).toUInt32.toUInt16.toUInt32.toInt32, (k3).toUInt32.toUInt16.toUInt32.toInt32, (k4).toUInt32.toUInt16.toUInt32.toInt32] : List Int32)) (bs := (([(k0).toUInt32.toUInt16.toUInt32.toInt32, (k1).toUInt32.toUInt16.toUInt32.toInt32, (k2).toUInt32.toUInt16.toUInt32.toInt32, (k3).toUInt32.toUInt16.toUInt32.toInt32, (k4).toUInt32.toUInt16.toUInt32.toInt32] : List Int32)).map (fun c => c.toInt8.toInt32)) (n := 5) g_b339 f430 f437 f438 f439 f441 f435 hzc rfl rfl (by decide) (by decide) hp_b339 rfl (by decide) (by decide)) (g := (mkF m 176 #[.val (.ref a0), .val (.int p1)] [(.ref b349), (.ref b339), (.ref b339)])) rfl (by rw [hml]; rfl) (a := b339) (argsL := [(.ref b349)]) (rest := [(.ref b339)]) (lenOf pd_3 rfl) rfl (by show 2 * 0 + _ ≤ _; exact Nat.le_of_eq rfl) (hb hby d1_176) rfl e428 (by decide) (by decide)
            obtain ⟨rfl, N442q, K442, y442E, y442C, t442, kb442, -, -, -, y442V, y442A⟩ := hQ442
            have cs443 := CHr.keep K442 (allS f436 all0) f432.1
            have f444 : n0 ≤ T442.heap.size := Nat.le_trans f430 K442.1
            have f445 : OwnB s s T442.heap := f431.keep K442
            have f446 : CHr Z consts_1 s.vm h0 s.vm T442.heap := f432.trans cs443
            have f447 : Keep h0 T442.heap [] := f433.trans K442 (allS (Or.inr sz_b339) all0)
            have f448 : Arv Z T442.heap a0 ka .char (5 : Int32) [(.int k0), (.int k1), (.int k2), (.int k3), (.int k4)] (.int (0 : Int32)) := f434.keep K442 (ninS ne_a0_b339 nin0)
            have f449 : Sta Z T442.heap "java/lang/String" "COMPACT_STRINGS" "Z" (.int zc) := own_sta_keep f435 K442 (allS (own_ns_exa f437) all0)
            have f450 : Safe Z consts_1 s.vm T442.heap b339 := cs443.safe f437.lt f436
            have f451 : Exa Z T442.heap b339 "java/lang/String" := f437.keep K442
            have f452 : Safe Z consts_1 s.vm T442.heap b349 := cs443.safe f441.lt f440
            have f453 : Arv Z T442.heap b349 k349 .char (5 : Int32) [(.int (k0).toUInt32.toUInt16.toUInt32.toInt32), (.int (k1).toUInt32.toUInt16.toUInt32.toInt32), (.int (k2).toUInt32.toUInt16.toUInt32.toInt32), (.int (k3).toUInt32.toUInt16.toUInt32.toInt32), (.int (k4).toUInt32.toUInt16.toUInt32.toInt32)] (.int (0 : Int32)) := f441.keep K442 (ninS (Ne.symm ne_b339_b349) nin0)
            have N442 := Fr.app N428 N442q
            refine OwnGo.of st442 ?_
            show OwnGo p.tables e below _ (T442.setTop (mkF m 179 #[.val (.ref a0), .val (.int p1)] [(.ref b339)]))
            obtain ⟨fs, hr, hrun, hended, hRW⟩ := own_leaveW X442 f445 rfl (v := some (.ref b339)) (fun h => by rw [Bd.returns] at h; cases h) hlk
            refine ⟨_, _, ?_, hrun, hended, _, _, rfl, ?_, own_endW X442 hZ (own_EW hw) rfl hh f446 fs, own_monoW hRW (by decide) (by decide)⟩
            · show Steps p.tables e below (T442.setTop (mkF m 179 #[.val (.ref a0), .val (.int p1)] [(.ref b339)])) _
              exact own_retA X442 hx Bd.returns rfl rfl rfl (hb hby d1_179) hr
            · show Qrm1 Z a0 p1 k0 k1 k2 k3 k4 ka zc h0 n0 _ (T442.setFrames fs).heap _
              rw [show (T442.setFrames fs).heap = T442.heap from rfl]
              exact ⟨N442, f447, b339, [(k0).toUInt32.toUInt16.toUInt32.toInt32, (k1).toUInt32.toUInt16.toUInt32.toInt32, (k2).toUInt32.toUInt16.toUInt32.toInt32, (k3).toUInt32.toUInt16.toUInt32.toInt32, (k4).toUInt32.toUInt16.toUInt32.toInt32], rfl, _, _, _, _, _, y442E, y442V, y442C, y442A, StrChars.Road.codOf (n := 5) rfl (fun c hc => (hp_b339 c hc).2), own_up hp_b339, Nat.le_of_ble_eq_true rfl⟩
theorem pn_5 : plainName "org/postline/Vocabulary" = true := by first | (simp [plainName, overriddenIn]; done) | decide +kernel
theorem d6_0 : decode prog_43_method_1_code 0 = .ok (.getstatic 13, 3) := by decide +kernel
theorem d6_3 : decode prog_43_method_1_code 3 = .ok (.invokevirtual 17, 3) := by decide +kernel
theorem d6_6 : decode prog_43_method_1_code 6 = .ok (.checkcast 18, 3) := by decide +kernel
theorem d6_9 : decode prog_43_method_1_code 9 = .ok (.areturn, 1) := by decide +kernel
theorem ef_rm6 (m : MethodId)  : entryFrame m #[] 0 = mkF m 0 #[] [] := by first | (simp [entryFrame, mkF, argsToLocals, Value.category]; done) | rfl
def Qrm6 (Z : State) (wV : Addr) (kV : ClassId) (aT : Addr) (aJ : Addr) (aE : Addr) (h0 : Heap) (n0 : Nat) (v : Option Value) (h : Heap) (L : List Loc) : Prop := Fr n0 L ∧ Keep h0 h [] ∧ ∃ y : Addr, v = some (.ref y) ∧ Arv Z h y kV (.object "org/postline/Vocabulary") (3 : Int32) [(.ref aT), (.ref aJ), (.ref aE)] .null
set_option maxRecDepth 65536 in
set_option maxHeartbeats 40000000 in
theorem rm6 (l : Launch) (Z : State) (aw : Array Value) (hw : ∀ d ∈ tables_1, d.before aw Z = true) (ws : List Jvm.Cond) (wV : Addr) (kV : ClassId) (aT : Addr) (aJ : Addr) (aE : Addr) (h0 : Heap) (n0 : Nat) (Z0 : n0 ≤ h0.size) (S__VALUES : Sta Z h0 "org/postline/Vocabulary" "$VALUES" "[Lorg/postline/Vocabulary;" (.ref wV)) (V_v : Arv Z h0 wV kV (.object "org/postline/Vocabulary") (3 : Int32) [(.ref aT), (.ref aJ), (.ref aE)] .null) (E_v : Exa Z h0 wV "[Lorg/postline/Vocabulary;") :
    MetFree l (⟨"org/postline/Vocabulary", "values", "()[Lorg/postline/Vocabulary;"⟩ : MethodName) (head1 (Jvm.Cond.code (⟨"org/postline/Vocabulary", "values", "()[Lorg/postline/Vocabulary;"⟩ : MethodName) prog_43_method_1_code 0 (some (.array (.object "org/postline/Vocabulary"))) :: ws) ({ frames := 1, cells := 1, slots := 3, locals := 14 } : Room)) (fun a U => a = #[] ∧ Z.Warmed39 U.vm ∧ U.heap = h0) (fun _ _ _ _ _ => True) (fun _ U o U' => ∃ v L, o = .returned v ∧ Qrm6 Z wV kV aT aJ aE h0 n0 v U'.heap L ∧ FrameEnd U o U' L ({ frames := 1, cells := 1, slots := 3, locals := 14 } : Room).cells ({ frames := 1, cells := 1, slots := 3, locals := 14 } : Room).slots) := by
  refine MetFree.of_bodySF (plainFor_of_name pn_5) hisR ?_
  intro p e s m args below meth c s₁ Bd hml0 hP hK
  obtain ⟨rfl, hZ, hh⟩ := hP
  have hx := Bd.exec
  have hby := Bd.bytes
  have hml : c.maxLocals = 0 := hml0
  have hown : s.vm.findClass "org/postline/Vocabulary" = some m.cls := findClass_of_methodNamed Bd.named
  have hnm := (name_of_methodNamed Bd.named Bd.method).1
  have X0 : Stand p l e ({ frames := 1, cells := 1, slots := 3, locals := 14 } : Room) s m #[] below meth c s₁ [] 0 0 := Stand.of_body Bd
  have e0 : s₁.heap = h0 := by rw [← hh, Bd.state]; rfl
  have N0 := Fr.nil n0
  have hlk := Bd.notSynchronized
  show OwnGo p.tables e below _ (s₁.setTop (entryFrame m #[] 0))
  rw [ef_rm6 m ]
  have K0 : Keep h0 h0 [] := Keep.refl _ _
  show OwnGo p.tables e below _ (s₁.setTop (mkF m 0 #[] []))
  obtain ⟨T1, X1, e1, st1⟩ := getS2 X0 hx hZ hown (host := "") (Or.inl (hw _ (List.mem_of_getElem? (i := 33) rfl))) Via.refl e0 S__VALUES (g := (mkF m 0 #[] [])) rfl (hb hby d6_0)
  refine OwnGo.of st1 ?_
  show OwnGo p.tables e below _ (T1.setTop (mkF m 3 #[] [(.ref wV)]))
  obtain ⟨T2, h2, X2, e2, E2, A2, Y2, st2⟩ := cloneH X1 hx hZ hown (hw _ (List.mem_of_getElem? (i := 35) rfl)) (hw _ (List.mem_of_getElem? (i := 36) rfl)) (hw _ (List.mem_of_getElem? (i := 40) rfl)) (hw _ (List.mem_of_getElem? (i := 38) rfl)) (hw _ (List.mem_of_getElem? (i := 39) rfl)) (hw _ (List.mem_of_getElem? (i := 41) rfl)) e1 (Arv.arh V_v) E_v (g := (mkF m 3 #[] [(.ref wV)])) rfl (by rw [hml]; rfl) rfl (hb hby d6_3) (by decide) (W := 0) (cap := 3) (by show 2 * 0 + _ ≤ _; exact Nat.le_of_eq rfl) (by decide) (by decide) (by decide) (by decide)
  obtain ⟨b2, g2⟩ : ∃ z, z = h0.size := ⟨_, rfl⟩
  rw [← g2] at A2 Y2 st2
  refine OwnGo.of st2 ?_
  have ne_wV_b2 : wV ≠ b2 := Nat.ne_of_lt (Nat.lt_of_lt_of_le V_v.lt (Nat.le_of_eq g2.symm))
  have g_b2 : n0 ≤ b2 := Nat.le_trans Z0 (Nat.le_of_eq g2.symm)
  have sz_b2 : h0.size ≤ b2 := Nat.le_trans K0.1 (Nat.le_of_eq g2.symm)
  have f3 : n0 ≤ h2.size := Nat.le_trans Z0 E2.1
  have f4 : Keep h0 h2 [] := K0.ext E2
  have f5 : Sta Z h2 "org/postline/Vocabulary" "$VALUES" "[Lorg/postline/Vocabulary;" (.ref wV) := S__VALUES.ext E2
  have f6 : Arv Z h2 wV kV (.object "org/postline/Vocabulary") (3 : Int32) [(.ref aT), (.ref aJ), (.ref aE)] .null := V_v.ext E2
  have f7 : Exa Z h2 wV "[Lorg/postline/Vocabulary;" := E_v.ext E2
  have f8 : Arv Z h2 b2 kV (.object "org/postline/Vocabulary") (3 : Int32) [(.ref aT), (.ref aJ), (.ref aE)] .null := A2
  show OwnGo p.tables e below _ (T2.setTop (mkF m 6 #[] [(.ref b2)]))
  obtain ⟨T9, X9, e9, st9⟩ := castY X2 hx hZ hown (hw _ (List.mem_of_getElem? (i := 46) rfl)) e2 (Ins.self Y2) (g := (mkF m 6 #[] [(.ref b2)])) rfl rfl (hb hby d6_6)
  refine OwnGo.of st9 ?_
  show OwnGo p.tables e below _ (T9.setTop (mkF m 9 #[] [(.ref b2)]))
  obtain ⟨fs, hr, hrun, hended, hW, hsame⟩ := X9.leave (v := some (.ref b2)) (fun h => by rw [Bd.returns] at h; cases h) hlk
  refine ⟨_, _, ?_, hrun, hended, _, _, rfl, ?_, ⟨_, rfl⟩, hW, hsame.mono (by decide) (by decide)⟩
  · show Steps p.tables e below (T9.setTop (mkF m 9 #[] [(.ref b2)])) _
    exact own_retA X9 hx Bd.returns rfl rfl rfl (hb hby d6_9) hr
  · show Qrm6 Z wV kV aT aJ aE h0 n0 _ (T9.setFrames fs).heap _
    rw [show (T9.setFrames fs).heap = h2 from e9]
    exact ⟨N0, f4, b2, rfl, f8⟩
theorem d7_0 : decode jdk_42_method_66_code 0 = .ok (.aload_n 0, 1) := by decide +kernel
theorem d7_1 : decode jdk_42_method_66_code 1 = .ok (.aload_n 1, 1) := by decide +kernel
theorem d7_2 : decode jdk_42_method_66_code 2 = .ok (.if_acmp .ne 5, 3) := by decide +kernel
theorem d7_7 : decode jdk_42_method_66_code 7 = .ok (.aload_n 1, 1) := by decide +kernel
theorem d7_8 : decode jdk_42_method_66_code 8 = .ok (.instanceof 10, 3) := by decide +kernel
theorem d7_11 : decode jdk_42_method_66_code 11 = .ok (.ifCond .eq 43, 3) := by decide +kernel
theorem d7_54 : decode jdk_42_method_66_code 54 = .ok (.iconst 0, 1) := by decide +kernel
theorem d7_55 : decode jdk_42_method_66_code 55 = .ok (.ireturn, 1) := by decide +kernel
theorem ef_rm7n (m : MethodId) (a0 : Addr) : entryFrame m #[(.ref a0), .null] 3 = mkF m 0 #[.val (.ref a0), .val .null, .unset] [] := by first | (simp [entryFrame, mkF, argsToLocals, Value.category]; done) | rfl
def Qrm7n (Z : State) (a0 : Addr) (h0 : Heap) (n0 : Nat) (v : Option Value) (h : Heap) (L : List Loc) : Prop := v = some (.int (0 : Int32)) ∧ Fr n0 L ∧ h = h0
set_option maxRecDepth 65536 in
set_option maxHeartbeats 40000000 in
theorem rm7n (l : Launch) (Z : State) (aw : Array Value) (hw : ∀ d ∈ tables_1, d.before aw Z = true) (ws : List Jvm.Cond) (a0 : Addr) (h0 : Heap) (n0 : Nat) (Z0 : n0 ≤ h0.size) :
    MetFree l (⟨"java/lang/String", "equals", "(Ljava/lang/Object;)Z"⟩ : MethodName) (head1 (Jvm.Cond.code (⟨"java/lang/String", "equals", "(Ljava/lang/Object;)Z"⟩ : MethodName) jdk_42_method_66_code 3 (some .boolean) :: ws) ({ frames := 0, cells := 0, slots := 0, locals := 0 } : Room)) (fun a U => a = #[(.ref a0), .null] ∧ Z.Warmed39 U.vm ∧ U.heap = h0) (fun _ _ _ _ _ => True) (fun _ U o U' => ∃ v L, o = .returned v ∧ Qrm7n Z a0 h0 n0 v U'.heap L ∧ FrameEnd U o U' L ({ frames := 0, cells := 0, slots := 0, locals := 0 } : Room).cells ({ frames := 0, cells := 0, slots := 0, locals := 0 } : Room).slots) := by
  refine MetFree.of_bodySF (plainFor_of_name pn_1) hisR ?_
  intro p e s m args below meth c s₁ Bd hml0 hP hK
  obtain ⟨rfl, hZ, hh⟩ := hP
  have hx := Bd.exec
  have hby := Bd.bytes
  have hml : c.maxLocals = 3 := hml0
  have hown : s.vm.findClass "java/lang/String" = some m.cls := findClass_of_methodNamed Bd.named
  have hnm := (name_of_methodNamed Bd.named Bd.method).1
  have X0 : Stand p l e ({ frames := 0, cells := 0, slots := 0, locals := 0 } : Room) s m #[(.ref a0), .null] below meth c s₁ [] 0 0 := Stand.of_body Bd
  have e0 : s₁.heap = h0 := by rw [← hh, Bd.state]; rfl
  have N0 := Fr.nil n0
  have hlk := Bd.notSynchronized
  show OwnGo p.tables e below _ (s₁.setTop (entryFrame m #[(.ref a0), .null] 3))
  rw [ef_rm7n m a0]
  show OwnGo p.tables e below _ (s₁.setTop (mkF m 0 #[.val (.ref a0), .val .null, .unset] []))
  refine OwnGo.of (A := s₁.setTop (mkF m 0 #[.val (.ref a0), .val .null, .unset] [])) (B := s₁.setTop (mkF m 8 #[.val (.ref a0), .val .null, .unset] [.null])) (fun t k => ?_) ?_
  · show Steps p.tables e below (s₁.setTop (mkF m 0 #[.val (.ref a0), .val .null, .unset] [])) t
    refine XS.aloadN X0.here hx rfl (hb hby d7_0) rfl rfl ?_
    refine XS.aloadN X0.here hx rfl (hb hby d7_1) rfl rfl ?_
    refine Jvm.RoadKit.acmp (g := (mkF m 2 #[.val (.ref a0), .val .null, .unset] [.null, (.ref a0)])) X0 hx rfl rfl rfl (pc0 := 2) (pc' := 7) (same := false) rfl (hb hby d7_2) rfl (decide_eq_false (fun q => by cases q)) (by decide) (by decide) ?_
    refine XS.aloadN X0.here hx rfl (hb hby d7_7) rfl rfl ?_
    exact k
  refine OwnGo.of (Stand.instanceofNull X0 hx (g := (mkF m 8 #[.val (.ref a0), .val .null, .unset] [.null])) rfl rfl (hb hby d7_8)) ?_
  show OwnGo p.tables e below _ (s₁.setTop (mkF m 11 #[.val (.ref a0), .val .null, .unset] [(.int (0 : Int32))]))
  have hc1 : (0 : Int32) = (0 : Int32) := by decide
  refine OwnGo.of (A := s₁.setTop (mkF m 11 #[.val (.ref a0), .val .null, .unset] [(.int (0 : Int32))])) (B := s₁.setTop (mkF m 55 #[.val (.ref a0), .val .null, .unset] [(.int (0 : Int32))])) (fun t k => ?_) ?_
  · show Steps p.tables e below (s₁.setTop (mkF m 11 #[.val (.ref a0), .val .null, .unset] [(.int (0 : Int32))])) t
    refine XS.ifYes X0.here hx rfl (pc0 := 11) (pc' := 54) rfl (hb hby d7_11) rfl ((if0 _ _).trans (teq hc1).1) (by decide) (by decide) ?_
    refine XS.iconst X0.here hx rfl (hb hby d7_54) ?_
    exact k
  obtain ⟨fs, hr, hrun, hended, hW, hsame⟩ := X0.leave (v := some (.int (nar .boolean (0 : Int32)))) (fun h => by rw [Bd.returns] at h; cases h) hlk
  refine ⟨_, _, ?_, hrun, hended, _, _, rfl, ?_, ⟨_, rfl⟩, hW, hsame.mono (by decide) (by decide)⟩
  · show Steps p.tables e below (s₁.setTop (mkF m 55 #[.val (.ref a0), .val .null, .unset] [(.int (0 : Int32))])) _
    exact retN X0 hx (t := .boolean) Bd.returns (by simp) (hb hby d7_55) hr
  · show Qrm7n Z a0 h0 n0 _ (s₁.setFrames fs).heap _
    rw [show (s₁.setFrames fs).heap = h0 from e0]
    exact ⟨congrArg (fun z => some (Value.int z)) (by decide), N0, rfl⟩
theorem pd_6 : parseMethodDescriptor "()[Lorg/postline/Vocabulary;" = some ⟨[], some (.array (.object "org/postline/Vocabulary"))⟩ := by decide +kernel
theorem pd_7 : parseMethodDescriptor "(Ljava/lang/Object;)Z" = some ⟨[(.object "java/lang/Object")], some .boolean⟩ := by decide +kernel
theorem d5_0 : decode prog_43_method_5_code 0 = .ok (.invokestatic 67, 3) := by decide +kernel
theorem d5_3 : decode prog_43_method_5_code 3 = .ok (.astore_n 1, 1) := by decide +kernel
theorem d5_4 : decode prog_43_method_5_code 4 = .ok (.aload_n 1, 1) := by decide +kernel
theorem d5_5 : decode prog_43_method_5_code 5 = .ok (.arraylength, 1) := by decide +kernel
theorem d5_6 : decode prog_43_method_5_code 6 = .ok (.istore_n 2, 1) := by decide +kernel
theorem d5_7 : decode prog_43_method_5_code 7 = .ok (.iconst 0, 1) := by decide +kernel
theorem d5_8 : decode prog_43_method_5_code 8 = .ok (.istore_n 3, 1) := by decide +kernel
theorem d5_9 : decode prog_43_method_5_code 9 = .ok (.iload_n 3, 1) := by decide +kernel
theorem d5_10 : decode prog_43_method_5_code 10 = .ok (.iload_n 2, 1) := by decide +kernel
theorem d5_11 : decode prog_43_method_5_code 11 = .ok (.if_icmp .ge 29, 3) := by decide +kernel
theorem d5_14 : decode prog_43_method_5_code 14 = .ok (.aload_n 1, 1) := by decide +kernel
theorem d5_15 : decode prog_43_method_5_code 15 = .ok (.iload_n 3, 1) := by decide +kernel
theorem d5_16 : decode prog_43_method_5_code 16 = .ok (.aaload, 1) := by decide +kernel
theorem d5_17 : decode prog_43_method_5_code 17 = .ok (.astore 4, 2) := by decide +kernel
theorem d5_19 : decode prog_43_method_5_code 19 = .ok (.aload 4, 2) := by decide +kernel
theorem d5_21 : decode prog_43_method_5_code 21 = .ok (.getfield 48, 3) := by decide +kernel
theorem d5_24 : decode prog_43_method_5_code 24 = .ok (.aload_n 0, 1) := by decide +kernel
theorem d5_25 : decode prog_43_method_5_code 25 = .ok (.invokevirtual 71, 3) := by decide +kernel
theorem d5_28 : decode prog_43_method_5_code 28 = .ok (.ifCond .eq 6, 3) := by decide +kernel
theorem d5_31 : decode prog_43_method_5_code 31 = .ok (.aload 4, 2) := by decide +kernel
theorem d5_33 : decode prog_43_method_5_code 33 = .ok (.areturn, 1) := by decide +kernel
theorem d5_34 : decode prog_43_method_5_code 34 = .ok (.iinc 3 1, 3) := by decide +kernel
theorem d5_37 : decode prog_43_method_5_code 37 = .ok (.goto (-28), 3) := by decide +kernel
theorem d5_40 : decode prog_43_method_5_code 40 = .ok (.aconst_null, 1) := by decide +kernel
theorem d5_41 : decode prog_43_method_5_code 41 = .ok (.areturn, 1) := by decide +kernel
theorem ef_rm5 (m : MethodId) (a0 : Addr) : entryFrame m #[(.ref a0)] 5 = mkF m 0 #[.val (.ref a0), .unset, .unset, .unset, .unset] [] := by first | (simp [entryFrame, mkF, argsToLocals, Value.category]; done) | rfl
def Qrm5 (Z : State) (a0 : Addr) (cs : List Int32) (wV : Addr) (kV : ClassId) (aT : Addr) (aJ : Addr) (aE : Addr) (lT : Addr) (lJ : Addr) (lE : Addr) (zc : Int32) (h0 : Heap) (n0 : Nat) (v : Option Value) (h : Heap) (L : List Loc) : Prop := v = some (own_voc cs aT aJ aE) ∧ Fr n0 L ∧ Keep h0 h []
set_option maxRecDepth 65536 in
set_option maxHeartbeats 40000000 in
theorem rm5 (l : Launch) (Z : State) (aw : Array Value) (hw : ∀ d ∈ tables_1, d.before aw Z = true) (ws : List Jvm.Cond) (a0 : Addr) (cs : List Int32) (wV : Addr) (kV : ClassId) (aT : Addr) (aJ : Addr) (aE : Addr) (lT : Addr) (lJ : Addr) (lE : Addr) (zc : Int32) (h0 : Heap) (n0 : Nat) (Z0 : n0 ≤ h0.size) (S_a : OwnStr Z h0 a0 cs) (S__VALUES : Sta Z h0 "org/postline/Vocabulary" "$VALUES" "[Lorg/postline/Vocabulary;" (.ref wV)) (V_v : Arv Z h0 wV kV (.object "org/postline/Vocabulary") (3 : Int32) [(.ref aT), (.ref aJ), (.ref aE)] .null) (E_v : Exa Z h0 wV "[Lorg/postline/Vocabulary;") (F_aT : Fld Z h0 aT "org/postline/Vocabulary" "label" "Ljava/lang/String;" (.ref lT)) (S_lT : OwnStr Z h0 lT own_tei) (F_aJ : Fld Z h0 aJ "org/postline/Vocabulary" "label" "Ljava/lang/String;" (.ref lJ)) (S_lJ : OwnStr Z h0 lJ own_jats) (F_aE : Fld Z h0 aE "org/postline/Vocabulary" "label" "Ljava/lang/String;" (.ref lE)) (S_lE : OwnStr Z h0 lE own_ead3) (S_COMPACT_STRINGS : Sta Z h0 "java/lang/String" "COMPACT_STRINGS" "Z" (.int zc)) (hzc : ¬ zc = 0) :
    MetFree l (⟨"org/postline/Vocabulary", "writing", "(Ljava/lang/String;)Lorg/postline/Vocabulary;"⟩ : MethodName) (head1 (Jvm.Cond.code (⟨"org/postline/Vocabulary", "writing", "(Ljava/lang/String;)Lorg/postline/Vocabulary;"⟩ : MethodName) prog_43_method_5_code 5 (some (.object "org/postline/Vocabulary")) :: ws) ({ frames := 2, cells := 1, slots := 3, locals := 28 } : Room)) (fun a U => a = #[(.ref a0)] ∧ Z.Warmed39 U.vm ∧ U.heap = h0) (fun _ _ _ _ _ => True) (fun _ U o U' => ∃ v L, o = .returned v ∧ Qrm5 Z a0 cs wV kV aT aJ aE lT lJ lE zc h0 n0 v U'.heap L ∧ FrameEnd U o U' L ({ frames := 2, cells := 1, slots := 3, locals := 28 } : Room).cells ({ frames := 2, cells := 1, slots := 3, locals := 28 } : Room).slots) := by
  refine MetFree.of_bodySF (plainFor_of_name pn_5) hisR ?_
  intro p e s m args below meth c s₁ Bd hml0 hP hK
  obtain ⟨rfl, hZ, hh⟩ := hP
  have hx := Bd.exec
  have hby := Bd.bytes
  have hml : c.maxLocals = 5 := hml0
  have hown : s.vm.findClass "org/postline/Vocabulary" = some m.cls := findClass_of_methodNamed Bd.named
  have hnm := (name_of_methodNamed Bd.named Bd.method).1
  have X0 : Stand p l e ({ frames := 2, cells := 1, slots := 3, locals := 28 } : Room) s m #[(.ref a0)] below meth c s₁ [] 0 0 := Stand.of_body Bd
  have e0 : s₁.heap = h0 := by rw [← hh, Bd.state]; rfl
  have N0 := Fr.nil n0
  have hlk := Bd.notSynchronized
  show OwnGo p.tables e below _ (s₁.setTop (entryFrame m #[(.ref a0)] 5))
  rw [ef_rm5 m a0]
  have K0 : Keep h0 h0 [] := Keep.refl _ _
  obtain ⟨t_a, kb_a, cd_a, N_a, vs_a, E_a, V_a, C_a, K_a, cod_a, up_a, ln_a⟩ := S_a
  obtain ⟨t_lT, kb_lT, cd_lT, N_lT, vs_lT, E_lT, V_lT, C_lT, K_lT, cod_lT, up_lT, ln_lT⟩ := S_lT
  obtain ⟨t_lJ, kb_lJ, cd_lJ, N_lJ, vs_lJ, E_lJ, V_lJ, C_lJ, K_lJ, cod_lJ, up_lJ, ln_lJ⟩ := S_lJ
  obtain ⟨t_lE, kb_lE, cd_lE, N_lE, vs_lE, E_lE, V_lE, C_lE, K_lE, cod_lE, up_lE, ln_lE⟩ := S_lE
  show OwnGo p.tables e below _ (s₁.setTop (mkF m 0 #[.val (.ref a0), .unset, .unset, .unset, .unset] []))
  obtain ⟨T1, L1, v1, X1, hQ1, st1⟩ := own_callS X0 hx (y := (⟨"org/postline/Vocabulary", "values", "()[Lorg/postline/Vocabulary;"⟩ : MethodName)) hown (mvT hZ (hw _ (List.mem_of_getElem? (i := 30) rfl))) (mvT hZ (hw _ (List.mem_of_getElem? (i := 31) rfl))) (mvT hZ (hw _ (List.mem_of_getElem? (i := 28) rfl))) (mvT hZ (hw _ (List.mem_of_getElem? (i := 32) rfl))) (by decide) (backOf (W := 0) (rm6 l Z aw hw []  wV kV aT aJ aE h0 n0 Z0 S__VALUES V_v E_v) hZ (hw _ (List.mem_of_getElem? (i := 32) rfl)) (hw _ (List.mem_of_getElem? (i := 28) rfl)) (by decide) (by decide)) (g := (mkF m 0 #[.val (.ref a0), .unset, .unset, .unset, .unset] [])) rfl (by rw [hml]; rfl) (argsL := []) (rest := []) (lenOf pd_6 rfl) rfl (by show 2 * 0 + _ ≤ _; exact Nat.le_of_eq rfl) (hb hby d5_0) rfl e0 (by decide) (by decide)
  obtain ⟨N1q, K1, y1, rfl, A1⟩ := hQ1
  have f2 : n0 ≤ T1.heap.size := Nat.le_trans Z0 K1.1
  have f3 : Keep h0 T1.heap [] := K0.trans K1 all0
  have f4 : Sta Z T1.heap "org/postline/Vocabulary" "$VALUES" "[Lorg/postline/Vocabulary;" (.ref wV) := own_sta_keep S__VALUES K1 all0
  have f5 : Arv Z T1.heap wV kV (.object "org/postline/Vocabulary") (3 : Int32) [(.ref aT), (.ref aJ), (.ref aE)] .null := V_v.keep K1 nin0
  have f6 : Exa Z T1.heap wV "[Lorg/postline/Vocabulary;" := E_v.keep K1
  have f7 : Exa Z T1.heap a0 "java/lang/String" := E_a.keep K1
  have f8 : Fld Z T1.heap a0 "java/lang/String" "coder" "B" (.int cd_a) := C_a.keep K1 nin0
  have f9 : Fld Z T1.heap a0 "java/lang/String" "value" "[B" (.ref t_a) := V_a.keep K1 nin0
  have f10 : Arv Z T1.heap t_a kb_a .byte N_a vs_a (.int (0 : Int32)) := K_a.keep K1 nin0
  have f11 : Fld Z T1.heap aT "org/postline/Vocabulary" "label" "Ljava/lang/String;" (.ref lT) := F_aT.keep K1 nin0
  have f12 : Exa Z T1.heap lT "java/lang/String" := E_lT.keep K1
  have f13 : Fld Z T1.heap lT "java/lang/String" "coder" "B" (.int cd_lT) := C_lT.keep K1 nin0
  have f14 : Fld Z T1.heap lT "java/lang/String" "value" "[B" (.ref t_lT) := V_lT.keep K1 nin0
  have f15 : Arv Z T1.heap t_lT kb_lT .byte N_lT vs_lT (.int (0 : Int32)) := K_lT.keep K1 nin0
  have f16 : Fld Z T1.heap aJ "org/postline/Vocabulary" "label" "Ljava/lang/String;" (.ref lJ) := F_aJ.keep K1 nin0
  have f17 : Exa Z T1.heap lJ "java/lang/String" := E_lJ.keep K1
  have f18 : Fld Z T1.heap lJ "java/lang/String" "coder" "B" (.int cd_lJ) := C_lJ.keep K1 nin0
  have f19 : Fld Z T1.heap lJ "java/lang/String" "value" "[B" (.ref t_lJ) := V_lJ.keep K1 nin0
  have f20 : Arv Z T1.heap t_lJ kb_lJ .byte N_lJ vs_lJ (.int (0 : Int32)) := K_lJ.keep K1 nin0
  have f21 : Fld Z T1.heap aE "org/postline/Vocabulary" "label" "Ljava/lang/String;" (.ref lE) := F_aE.keep K1 nin0
  have f22 : Exa Z T1.heap lE "java/lang/String" := E_lE.keep K1
  have f23 : Fld Z T1.heap lE "java/lang/String" "coder" "B" (.int cd_lE) := C_lE.keep K1 nin0
  have f24 : Fld Z T1.heap lE "java/lang/String" "value" "[B" (.ref t_lE) := V_lE.keep K1 nin0
  have f25 : Arv Z T1.heap t_lE kb_lE .byte N_lE vs_lE (.int (0 : Int32)) := K_lE.keep K1 nin0
  have f26 : Sta Z T1.heap "java/lang/String" "COMPACT_STRINGS" "Z" (.int zc) := own_sta_keep S_COMPACT_STRINGS K1 all0
  have N1 := Fr.app N0 N1q
  refine OwnGo.of st1 ?_
  show OwnGo p.tables e below _ (T1.setTop (mkF m 3 #[.val (.ref a0), .unset, .unset, .unset, .unset] [(.ref y1)]))
  refine OwnGo.of (A := T1.setTop (mkF m 3 #[.val (.ref a0), .unset, .unset, .unset, .unset] [(.ref y1)])) (B := T1.setTop (mkF m 5 #[.val (.ref a0), .val (.ref y1), .unset, .unset, .unset] [(.ref y1)])) (fun t k => ?_) ?_
  · show Steps p.tables e below (T1.setTop (mkF m 3 #[.val (.ref a0), .unset, .unset, .unset, .unset] [(.ref y1)])) t
    refine XS.astoreN X1.here hx rfl (hb hby d5_3) rfl rfl (l' := #[.val (.ref a0), .val (.ref y1), .unset, .unset, .unset]) rfl ?_
    refine XS.aloadN X1.here hx rfl (hb hby d5_4) rfl rfl ?_
    exact k
  have cq27 := A1
  obtain ⟨clq27, Arq27, qq27, Sq27, Nq27, Hq27, Gq27⟩ := cq27
  refine OwnGo.of (X1.arraylength hx Arq27.1 (State.isArrayOf_alike hZ.alike Arq27.2.1) (g := (mkF m 5 #[.val (.ref a0), .val (.ref y1), .unset, .unset, .unset] [(.ref y1)])) rfl rfl (hb hby d5_5)) ?_
  rw [len_of Sq27 Nq27]
  show OwnGo p.tables e below _ (T1.setTop (mkF m 6 #[.val (.ref a0), .val (.ref y1), .unset, .unset, .unset] [(.int (3 : Int32))]))
  refine OwnGo.of (A := T1.setTop (mkF m 6 #[.val (.ref a0), .val (.ref y1), .unset, .unset, .unset] [(.int (3 : Int32))])) (B := T1.setTop (mkF m 11 #[.val (.ref a0), .val (.ref y1), .val (.int (3 : Int32)), .val (.int (0 : Int32)), .unset] [(.int (3 : Int32)), (.int (0 : Int32))])) (fun t k => ?_) ?_
  · show Steps p.tables e below (T1.setTop (mkF m 6 #[.val (.ref a0), .val (.ref y1), .unset, .unset, .unset] [(.int (3 : Int32))])) t
    refine XS.istoreN X1.here hx rfl (hb hby d5_6) rfl (l' := #[.val (.ref a0), .val (.ref y1), .val (.int (3 : Int32)), .unset, .unset]) rfl ?_
    refine XS.iconst X1.here hx rfl (hb hby d5_7) ?_
    refine XS.istoreN X1.here hx rfl (hb hby d5_8) rfl (l' := #[.val (.ref a0), .val (.ref y1), .val (.int (3 : Int32)), .val (.int (0 : Int32)), .unset]) rfl ?_
    refine XS.iloadN X1.here hx rfl (hb hby d5_9) rfl ?_
    refine XS.iloadN X1.here hx rfl (hb hby d5_10) rfl ?_
    exact k
  have hc28 : (0 : Int32) < (3 : Int32) := by decide
  refine OwnGo.of (A := T1.setTop (mkF m 11 #[.val (.ref a0), .val (.ref y1), .val (.int (3 : Int32)), .val (.int (0 : Int32)), .unset] [(.int (3 : Int32)), (.int (0 : Int32))])) (B := T1.setTop (mkF m 16 #[.val (.ref a0), .val (.ref y1), .val (.int (3 : Int32)), .val (.int (0 : Int32)), .unset] [(.int (0 : Int32)), (.ref y1)])) (fun t k => ?_) ?_
  · show Steps p.tables e below (T1.setTop (mkF m 11 #[.val (.ref a0), .val (.ref y1), .val (.int (3 : Int32)), .val (.int (0 : Int32)), .unset] [(.int (3 : Int32)), (.int (0 : Int32))])) t
    refine XS.icmpNo X1.here hx rfl (hb hby d5_11) rfl (tlt hc28).2.1 ?_
    refine XS.aloadN X1.here hx rfl (hb hby d5_14) rfl rfl ?_
    refine XS.iloadN X1.here hx rfl (hb hby d5_15) rfl ?_
    exact k
  have cq29 := A1
  obtain ⟨clq29, Arq29, qq29, Sq29, Nq29, Hq29, Gq29⟩ := cq29
  have hinq29 := inb_of (j := (0 : Int32)) Sq29 ⟨by decide, by decide⟩
  refine OwnGo.of (X1.aaload hx (j := (0 : Int32)) (v := (.ref aT)) Arq29.1 (State.isArrayOf_alike hZ.alike Arq29.2.1) rfl Arq29.2.2 hinq29 (Hq29.at hinq29 rfl) (g := (mkF m 16 #[.val (.ref a0), .val (.ref y1), .val (.int (3 : Int32)), .val (.int (0 : Int32)), .unset] [(.int (0 : Int32)), (.ref y1)])) rfl rfl (hb hby d5_16)) ?_
  show OwnGo p.tables e below _ (T1.setTop (mkF m 17 #[.val (.ref a0), .val (.ref y1), .val (.int (3 : Int32)), .val (.int (0 : Int32)), .unset] [(.ref aT)]))
  refine OwnGo.of (A := T1.setTop (mkF m 17 #[.val (.ref a0), .val (.ref y1), .val (.int (3 : Int32)), .val (.int (0 : Int32)), .unset] [(.ref aT)])) (B := T1.setTop (mkF m 21 #[.val (.ref a0), .val (.ref y1), .val (.int (3 : Int32)), .val (.int (0 : Int32)), .val (.ref aT)] [(.ref aT)])) (fun t k => ?_) ?_
  · show Steps p.tables e below (T1.setTop (mkF m 17 #[.val (.ref a0), .val (.ref y1), .val (.int (3 : Int32)), .val (.int (0 : Int32)), .unset] [(.ref aT)])) t
    refine XS.astore X1.here hx rfl (hb hby d5_17) rfl rfl (l' := #[.val (.ref a0), .val (.ref y1), .val (.int (3 : Int32)), .val (.int (0 : Int32)), .val (.ref aT)]) rfl ?_
    refine XS.aload X1.here hx rfl (hb hby d5_19) rfl rfl ?_
    exact k
  obtain ⟨T30, X30, e30, st30⟩ := getF X1 hx hZ hown (host := "") (Or.inl (hw _ (List.mem_of_getElem? (i := 48) rfl))) Via.refl rfl f11 (g := (mkF m 21 #[.val (.ref a0), .val (.ref y1), .val (.int (3 : Int32)), .val (.int (0 : Int32)), .val (.ref aT)] [(.ref aT)])) rfl rfl (hb hby d5_21)
  refine OwnGo.of st30 ?_
  show OwnGo p.tables e below _ (T30.setTop (mkF m 24 #[.val (.ref a0), .val (.ref y1), .val (.int (3 : Int32)), .val (.int (0 : Int32)), .val (.ref aT)] [(.ref lT)]))
  refine OwnGo.of (A := T30.setTop (mkF m 24 #[.val (.ref a0), .val (.ref y1), .val (.int (3 : Int32)), .val (.int (0 : Int32)), .val (.ref aT)] [(.ref lT)])) (B := T30.setTop (mkF m 25 #[.val (.ref a0), .val (.ref y1), .val (.int (3 : Int32)), .val (.int (0 : Int32)), .val (.ref aT)] [(.ref a0), (.ref lT)])) (fun t k => ?_) ?_
  · show Steps p.tables e below (T30.setTop (mkF m 24 #[.val (.ref a0), .val (.ref y1), .val (.int (3 : Int32)), .val (.int (0 : Int32)), .val (.ref aT)] [(.ref lT)])) t
    refine XS.aloadN X30.here hx rfl (hb hby d5_24) rfl rfl ?_
    exact k
  obtain ⟨cq31, kq31, q31a, q31b, q31c⟩ := isOf hZ e30 f12
  obtain ⟨T31, L31, v31, X31, hQ31, st31⟩ := own_callV (Q := fun v H L => ((v = some (.int 1) ∧ own_tei = cs) ∨ (v = some (.int 0) ∧ ¬ own_tei = cs)) ∧ L = [] ∧ H = T1.heap) (rc := 0) (rs := 0) X30 hx (y := (⟨"java/lang/String", "equals", "(Ljava/lang/Object;)Z"⟩ : MethodName)) (z := (⟨"java/lang/String", "equals", "(Ljava/lang/Object;)Z"⟩ : MethodName)) hown (mvT hZ (hw _ (List.mem_of_getElem? (i := 50) rfl))) (mvT hZ (hw _ (List.mem_of_getElem? (i := 51) rfl))) (notFace_of_selects (args := #[]) (mvT hZ (hw _ (List.mem_of_getElem? (i := 53) rfl)))) (mvT hZ (hw _ (List.mem_of_getElem? (i := 53) rfl))) (mvT hZ (hw _ (List.mem_of_getElem? (i := 52) rfl))) (by decide) (StrChars.Road.eqW (W := 0) hZ (own_wE hw) (kI := 4) (hw _ (List.mem_of_getElem? (i := 6) rfl)) f12 f14 f13 f15 cod_lT up_lT ln_lT f7 f9 f8 f10 cod_a up_a ln_a f26 hzc (by decide) (by decide)) q31a q31c (g := (mkF m 25 #[.val (.ref a0), .val (.ref y1), .val (.int (3 : Int32)), .val (.int (0 : Int32)), .val (.ref aT)] [(.ref a0), (.ref lT)])) rfl (by rw [hml]; rfl) (argsL := [(.ref a0)]) (rest := []) (lenOf pd_7 rfl) rfl (by show 2 * 0 + _ ≤ _; exact Nat.le_of_eq rfl) (hb hby d5_25) rfl e30 (by decide) (by decide)
  obtain ⟨hcase31, rfl, eq31⟩ := hQ31
  have hv31 := own_case hcase31
  subst hv31
  have N31q : Fr n0 ([] : List Loc) := Fr.nil n0
  have N31 := Fr.app N1 N31q
  refine OwnGo.of st31 ?_
  show OwnGo p.tables e below _ (T31.setTop (mkF m 28 #[.val (.ref a0), .val (.ref y1), .val (.int (3 : Int32)), .val (.int (0 : Int32)), .val (.ref aT)] [(.int (if own_tei = cs then (1 : Int32) else (0 : Int32)))]))
  by_cases hc32 : (if own_tei = cs then (1 : Int32) else (0 : Int32)) = (0 : Int32)
  · have qe33 := own_c0 hc32
    refine OwnGo.of (A := T31.setTop (mkF m 28 #[.val (.ref a0), .val (.ref y1), .val (.int (3 : Int32)), .val (.int (0 : Int32)), .val (.ref aT)] [(.int (if own_tei = cs then (1 : Int32) else (0 : Int32)))])) (B := T31.setTop (mkF m 11 #[.val (.ref a0), .val (.ref y1), .val (.int (3 : Int32)), .val (.int (1 : Int32)), .val (.ref aT)] [(.int (3 : Int32)), (.int (1 : Int32))])) (fun t k => ?_) ?_
    · show Steps p.tables e below (T31.setTop (mkF m 28 #[.val (.ref a0), .val (.ref y1), .val (.int (3 : Int32)), .val (.int (0 : Int32)), .val (.ref aT)] [(.int (if own_tei = cs then (1 : Int32) else (0 : Int32)))])) t
      refine XS.ifYes X31.here hx rfl (pc0 := 28) (pc' := 34) rfl (hb hby d5_28) rfl ((if0 _ _).trans (teq hc32).1) (by decide) (by decide) ?_
      refine XS.iinc X31.here hx rfl (hb hby d5_34) rfl (l' := #[.val (.ref a0), .val (.ref y1), .val (.int (3 : Int32)), .val (.int (1 : Int32)), .val (.ref aT)]) rfl ?_
      refine XS.goto X31.here hx rfl (pc0 := 37) (pc' := 9) rfl (hb hby d5_37) (by decide) (by decide) ?_
      refine XS.iloadN X31.here hx rfl (hb hby d5_9) rfl ?_
      refine XS.iloadN X31.here hx rfl (hb hby d5_10) rfl ?_
      exact k
    have hc34 : (1 : Int32) < (3 : Int32) := by decide
    refine OwnGo.of (A := T31.setTop (mkF m 11 #[.val (.ref a0), .val (.ref y1), .val (.int (3 : Int32)), .val (.int (1 : Int32)), .val (.ref aT)] [(.int (3 : Int32)), (.int (1 : Int32))])) (B := T31.setTop (mkF m 16 #[.val (.ref a0), .val (.ref y1), .val (.int (3 : Int32)), .val (.int (1 : Int32)), .val (.ref aT)] [(.int (1 : Int32)), (.ref y1)])) (fun t k => ?_) ?_
    · show Steps p.tables e below (T31.setTop (mkF m 11 #[.val (.ref a0), .val (.ref y1), .val (.int (3 : Int32)), .val (.int (1 : Int32)), .val (.ref aT)] [(.int (3 : Int32)), (.int (1 : Int32))])) t
      refine XS.icmpNo X31.here hx rfl (hb hby d5_11) rfl (tlt hc34).2.1 ?_
      refine XS.aloadN X31.here hx rfl (hb hby d5_14) rfl rfl ?_
      refine XS.iloadN X31.here hx rfl (hb hby d5_15) rfl ?_
      exact k
    have cq35 := A1
    obtain ⟨clq35, Arq35, qq35, Sq35, Nq35, Hq35, Gq35⟩ := cq35
    have hinq35 := inb_of (j := (1 : Int32)) Sq35 ⟨by decide, by decide⟩
    refine OwnGo.of (X31.aaload hx (j := (1 : Int32)) (v := (.ref aJ)) (by rw [eq31]; exact Arq35.1) (State.isArrayOf_alike hZ.alike Arq35.2.1) rfl Arq35.2.2 hinq35 (Hq35.at hinq35 rfl) (g := (mkF m 16 #[.val (.ref a0), .val (.ref y1), .val (.int (3 : Int32)), .val (.int (1 : Int32)), .val (.ref aT)] [(.int (1 : Int32)), (.ref y1)])) rfl rfl (hb hby d5_16)) ?_
    show OwnGo p.tables e below _ (T31.setTop (mkF m 17 #[.val (.ref a0), .val (.ref y1), .val (.int (3 : Int32)), .val (.int (1 : Int32)), .val (.ref aT)] [(.ref aJ)]))
    refine OwnGo.of (A := T31.setTop (mkF m 17 #[.val (.ref a0), .val (.ref y1), .val (.int (3 : Int32)), .val (.int (1 : Int32)), .val (.ref aT)] [(.ref aJ)])) (B := T31.setTop (mkF m 21 #[.val (.ref a0), .val (.ref y1), .val (.int (3 : Int32)), .val (.int (1 : Int32)), .val (.ref aJ)] [(.ref aJ)])) (fun t k => ?_) ?_
    · show Steps p.tables e below (T31.setTop (mkF m 17 #[.val (.ref a0), .val (.ref y1), .val (.int (3 : Int32)), .val (.int (1 : Int32)), .val (.ref aT)] [(.ref aJ)])) t
      refine XS.astore X31.here hx rfl (hb hby d5_17) rfl rfl (l' := #[.val (.ref a0), .val (.ref y1), .val (.int (3 : Int32)), .val (.int (1 : Int32)), .val (.ref aJ)]) rfl ?_
      refine XS.aload X31.here hx rfl (hb hby d5_19) rfl rfl ?_
      exact k
    obtain ⟨T36, X36, e36, st36⟩ := getF X31 hx hZ hown (host := "") (Or.inl (hw _ (List.mem_of_getElem? (i := 48) rfl))) Via.refl eq31 f16 (g := (mkF m 21 #[.val (.ref a0), .val (.ref y1), .val (.int (3 : Int32)), .val (.int (1 : Int32)), .val (.ref aJ)] [(.ref aJ)])) rfl rfl (hb hby d5_21)
    refine OwnGo.of st36 ?_
    show OwnGo p.tables e below _ (T36.setTop (mkF m 24 #[.val (.ref a0), .val (.ref y1), .val (.int (3 : Int32)), .val (.int (1 : Int32)), .val (.ref aJ)] [(.ref lJ)]))
    refine OwnGo.of (A := T36.setTop (mkF m 24 #[.val (.ref a0), .val (.ref y1), .val (.int (3 : Int32)), .val (.int (1 : Int32)), .val (.ref aJ)] [(.ref lJ)])) (B := T36.setTop (mkF m 25 #[.val (.ref a0), .val (.ref y1), .val (.int (3 : Int32)), .val (.int (1 : Int32)), .val (.ref aJ)] [(.ref a0), (.ref lJ)])) (fun t k => ?_) ?_
    · show Steps p.tables e below (T36.setTop (mkF m 24 #[.val (.ref a0), .val (.ref y1), .val (.int (3 : Int32)), .val (.int (1 : Int32)), .val (.ref aJ)] [(.ref lJ)])) t
      refine XS.aloadN X36.here hx rfl (hb hby d5_24) rfl rfl ?_
      exact k
    obtain ⟨cq37, kq37, q37a, q37b, q37c⟩ := isOf hZ e36 f17
    obtain ⟨T37, L37, v37, X37, hQ37, st37⟩ := own_callV (Q := fun v H L => ((v = some (.int 1) ∧ own_jats = cs) ∨ (v = some (.int 0) ∧ ¬ own_jats = cs)) ∧ L = [] ∧ H = T1.heap) (rc := 0) (rs := 0) X36 hx (y := (⟨"java/lang/String", "equals", "(Ljava/lang/Object;)Z"⟩ : MethodName)) (z := (⟨"java/lang/String", "equals", "(Ljava/lang/Object;)Z"⟩ : MethodName)) hown (mvT hZ (hw _ (List.mem_of_getElem? (i := 50) rfl))) (mvT hZ (hw _ (List.mem_of_getElem? (i := 51) rfl))) (notFace_of_selects (args := #[]) (mvT hZ (hw _ (List.mem_of_getElem? (i := 53) rfl)))) (mvT hZ (hw _ (List.mem_of_getElem? (i := 53) rfl))) (mvT hZ (hw _ (List.mem_of_getElem? (i := 52) rfl))) (by decide) (StrChars.Road.eqW (W := 0) hZ (own_wE hw) (kI := 4) (hw _ (List.mem_of_getElem? (i := 6) rfl)) f17 f19 f18 f20 cod_lJ up_lJ ln_lJ f7 f9 f8 f10 cod_a up_a ln_a f26 hzc (by decide) (by decide)) q37a q37c (g := (mkF m 25 #[.val (.ref a0), .val (.ref y1), .val (.int (3 : Int32)), .val (.int (1 : Int32)), .val (.ref aJ)] [(.ref a0), (.ref lJ)])) rfl (by rw [hml]; rfl) (argsL := [(.ref a0)]) (rest := []) (lenOf pd_7 rfl) rfl (by show 2 * 0 + _ ≤ _; exact Nat.le_of_eq rfl) (hb hby d5_25) rfl e36 (by decide) (by decide)
    obtain ⟨hcase37, rfl, eq37⟩ := hQ37
    have hv37 := own_case hcase37
    subst hv37
    have N37q : Fr n0 ([] : List Loc) := Fr.nil n0
    have N37 := Fr.app N31 N37q
    refine OwnGo.of st37 ?_
    show OwnGo p.tables e below _ (T37.setTop (mkF m 28 #[.val (.ref a0), .val (.ref y1), .val (.int (3 : Int32)), .val (.int (1 : Int32)), .val (.ref aJ)] [(.int (if own_jats = cs then (1 : Int32) else (0 : Int32)))]))
    by_cases hc38 : (if own_jats = cs then (1 : Int32) else (0 : Int32)) = (0 : Int32)
    · have qe39 := own_c0 hc38
      refine OwnGo.of (A := T37.setTop (mkF m 28 #[.val (.ref a0), .val (.ref y1), .val (.int (3 : Int32)), .val (.int (1 : Int32)), .val (.ref aJ)] [(.int (if own_jats = cs then (1 : Int32) else (0 : Int32)))])) (B := T37.setTop (mkF m 11 #[.val (.ref a0), .val (.ref y1), .val (.int (3 : Int32)), .val (.int (2 : Int32)), .val (.ref aJ)] [(.int (3 : Int32)), (.int (2 : Int32))])) (fun t k => ?_) ?_
      · show Steps p.tables e below (T37.setTop (mkF m 28 #[.val (.ref a0), .val (.ref y1), .val (.int (3 : Int32)), .val (.int (1 : Int32)), .val (.ref aJ)] [(.int (if own_jats = cs then (1 : Int32) else (0 : Int32)))])) t
        refine XS.ifYes X37.here hx rfl (pc0 := 28) (pc' := 34) rfl (hb hby d5_28) rfl ((if0 _ _).trans (teq hc38).1) (by decide) (by decide) ?_
        refine XS.iinc X37.here hx rfl (hb hby d5_34) rfl (l' := #[.val (.ref a0), .val (.ref y1), .val (.int (3 : Int32)), .val (.int (2 : Int32)), .val (.ref aJ)]) rfl ?_
        refine XS.goto X37.here hx rfl (pc0 := 37) (pc' := 9) rfl (hb hby d5_37) (by decide) (by decide) ?_
        refine XS.iloadN X37.here hx rfl (hb hby d5_9) rfl ?_
        refine XS.iloadN X37.here hx rfl (hb hby d5_10) rfl ?_
        exact k
      have hc40 : (2 : Int32) < (3 : Int32) := by decide
      refine OwnGo.of (A := T37.setTop (mkF m 11 #[.val (.ref a0), .val (.ref y1), .val (.int (3 : Int32)), .val (.int (2 : Int32)), .val (.ref aJ)] [(.int (3 : Int32)), (.int (2 : Int32))])) (B := T37.setTop (mkF m 16 #[.val (.ref a0), .val (.ref y1), .val (.int (3 : Int32)), .val (.int (2 : Int32)), .val (.ref aJ)] [(.int (2 : Int32)), (.ref y1)])) (fun t k => ?_) ?_
      · show Steps p.tables e below (T37.setTop (mkF m 11 #[.val (.ref a0), .val (.ref y1), .val (.int (3 : Int32)), .val (.int (2 : Int32)), .val (.ref aJ)] [(.int (3 : Int32)), (.int (2 : Int32))])) t
        refine XS.icmpNo X37.here hx rfl (hb hby d5_11) rfl (tlt hc40).2.1 ?_
        refine XS.aloadN X37.here hx rfl (hb hby d5_14) rfl rfl ?_
        refine XS.iloadN X37.here hx rfl (hb hby d5_15) rfl ?_
        exact k
      have cq41 := A1
      obtain ⟨clq41, Arq41, qq41, Sq41, Nq41, Hq41, Gq41⟩ := cq41
      have hinq41 := inb_of (j := (2 : Int32)) Sq41 ⟨by decide, by decide⟩
      refine OwnGo.of (X37.aaload hx (j := (2 : Int32)) (v := (.ref aE)) (by rw [eq37]; exact Arq41.1) (State.isArrayOf_alike hZ.alike Arq41.2.1) rfl Arq41.2.2 hinq41 (Hq41.at hinq41 rfl) (g := (mkF m 16 #[.val (.ref a0), .val (.ref y1), .val (.int (3 : Int32)), .val (.int (2 : Int32)), .val (.ref aJ)] [(.int (2 : Int32)), (.ref y1)])) rfl rfl (hb hby d5_16)) ?_
      show OwnGo p.tables e below _ (T37.setTop (mkF m 17 #[.val (.ref a0), .val (.ref y1), .val (.int (3 : Int32)), .val (.int (2 : Int32)), .val (.ref aJ)] [(.ref aE)]))
      refine OwnGo.of (A := T37.setTop (mkF m 17 #[.val (.ref a0), .val (.ref y1), .val (.int (3 : Int32)), .val (.int (2 : Int32)), .val (.ref aJ)] [(.ref aE)])) (B := T37.setTop (mkF m 21 #[.val (.ref a0), .val (.ref y1), .val (.int (3 : Int32)), .val (.int (2 : Int32)), .val (.ref aE)] [(.ref aE)])) (fun t k => ?_) ?_
      · show Steps p.tables e below (T37.setTop (mkF m 17 #[.val (.ref a0), .val (.ref y1), .val (.int (3 : Int32)), .val (.int (2 : Int32)), .val (.ref aJ)] [(.ref aE)])) t
        refine XS.astore X37.here hx rfl (hb hby d5_17) rfl rfl (l' := #[.val (.ref a0), .val (.ref y1), .val (.int (3 : Int32)), .val (.int (2 : Int32)), .val (.ref aE)]) rfl ?_
        refine XS.aload X37.here hx rfl (hb hby d5_19) rfl rfl ?_
        exact k
      obtain ⟨T42, X42, e42, st42⟩ := getF X37 hx hZ hown (host := "") (Or.inl (hw _ (List.mem_of_getElem? (i := 48) rfl))) Via.refl eq37 f21 (g := (mkF m 21 #[.val (.ref a0), .val (.ref y1), .val (.int (3 : Int32)), .val (.int (2 : Int32)), .val (.ref aE)] [(.ref aE)])) rfl rfl (hb hby d5_21)
      refine OwnGo.of st42 ?_
      show OwnGo p.tables e below _ (T42.setTop (mkF m 24 #[.val (.ref a0), .val (.ref y1), .val (.int (3 : Int32)), .val (.int (2 : Int32)), .val (.ref aE)] [(.ref lE)]))
      refine OwnGo.of (A := T42.setTop (mkF m 24 #[.val (.ref a0), .val (.ref y1), .val (.int (3 : Int32)), .val (.int (2 : Int32)), .val (.ref aE)] [(.ref lE)])) (B := T42.setTop (mkF m 25 #[.val (.ref a0), .val (.ref y1), .val (.int (3 : Int32)), .val (.int (2 : Int32)), .val (.ref aE)] [(.ref a0), (.ref lE)])) (fun t k => ?_) ?_
      · show Steps p.tables e below (T42.setTop (mkF m 24 #[.val (.ref a0), .val (.ref y1), .val (.int (3 : Int32)), .val (.int (2 : Int32)), .val (.ref aE)] [(.ref lE)])) t
        refine XS.aloadN X42.here hx rfl (hb hby d5_24) rfl rfl ?_
        exact k
      obtain ⟨cq43, kq43, q43a, q43b, q43c⟩ := isOf hZ e42 f22
      obtain ⟨T43, L43, v43, X43, hQ43, st43⟩ := own_callV (Q := fun v H L => ((v = some (.int 1) ∧ own_ead3 = cs) ∨ (v = some (.int 0) ∧ ¬ own_ead3 = cs)) ∧ L = [] ∧ H = T1.heap) (rc := 0) (rs := 0) X42 hx (y := (⟨"java/lang/String", "equals", "(Ljava/lang/Object;)Z"⟩ : MethodName)) (z := (⟨"java/lang/String", "equals", "(Ljava/lang/Object;)Z"⟩ : MethodName)) hown (mvT hZ (hw _ (List.mem_of_getElem? (i := 50) rfl))) (mvT hZ (hw _ (List.mem_of_getElem? (i := 51) rfl))) (notFace_of_selects (args := #[]) (mvT hZ (hw _ (List.mem_of_getElem? (i := 53) rfl)))) (mvT hZ (hw _ (List.mem_of_getElem? (i := 53) rfl))) (mvT hZ (hw _ (List.mem_of_getElem? (i := 52) rfl))) (by decide) (StrChars.Road.eqW (W := 0) hZ (own_wE hw) (kI := 4) (hw _ (List.mem_of_getElem? (i := 6) rfl)) f22 f24 f23 f25 cod_lE up_lE ln_lE f7 f9 f8 f10 cod_a up_a ln_a f26 hzc (by decide) (by decide)) q43a q43c (g := (mkF m 25 #[.val (.ref a0), .val (.ref y1), .val (.int (3 : Int32)), .val (.int (2 : Int32)), .val (.ref aE)] [(.ref a0), (.ref lE)])) rfl (by rw [hml]; rfl) (argsL := [(.ref a0)]) (rest := []) (lenOf pd_7 rfl) rfl (by show 2 * 0 + _ ≤ _; exact Nat.le_of_eq rfl) (hb hby d5_25) rfl e42 (by decide) (by decide)
      obtain ⟨hcase43, rfl, eq43⟩ := hQ43
      have hv43 := own_case hcase43
      subst hv43
      have N43q : Fr n0 ([] : List Loc) := Fr.nil n0
      have N43 := Fr.app N37 N43q
      refine OwnGo.of st43 ?_
      show OwnGo p.tables e below _ (T43.setTop (mkF m 28 #[.val (.ref a0), .val (.ref y1), .val (.int (3 : Int32)), .val (.int (2 : Int32)), .val (.ref aE)] [(.int (if own_ead3 = cs then (1 : Int32) else (0 : Int32)))]))
      by_cases hc44 : (if own_ead3 = cs then (1 : Int32) else (0 : Int32)) = (0 : Int32)
      · have qe45 := own_c0 hc44
        refine OwnGo.of (A := T43.setTop (mkF m 28 #[.val (.ref a0), .val (.ref y1), .val (.int (3 : Int32)), .val (.int (2 : Int32)), .val (.ref aE)] [(.int (if own_ead3 = cs then (1 : Int32) else (0 : Int32)))])) (B := T43.setTop (mkF m 11 #[.val (.ref a0), .val (.ref y1), .val (.int (3 : Int32)), .val (.int (3 : Int32)), .val (.ref aE)] [(.int (3 : Int32)), (.int (3 : Int32))])) (fun t k => ?_) ?_
        · show Steps p.tables e below (T43.setTop (mkF m 28 #[.val (.ref a0), .val (.ref y1), .val (.int (3 : Int32)), .val (.int (2 : Int32)), .val (.ref aE)] [(.int (if own_ead3 = cs then (1 : Int32) else (0 : Int32)))])) t
          refine XS.ifYes X43.here hx rfl (pc0 := 28) (pc' := 34) rfl (hb hby d5_28) rfl ((if0 _ _).trans (teq hc44).1) (by decide) (by decide) ?_
          refine XS.iinc X43.here hx rfl (hb hby d5_34) rfl (l' := #[.val (.ref a0), .val (.ref y1), .val (.int (3 : Int32)), .val (.int (3 : Int32)), .val (.ref aE)]) rfl ?_
          refine XS.goto X43.here hx rfl (pc0 := 37) (pc' := 9) rfl (hb hby d5_37) (by decide) (by decide) ?_
          refine XS.iloadN X43.here hx rfl (hb hby d5_9) rfl ?_
          refine XS.iloadN X43.here hx rfl (hb hby d5_10) rfl ?_
          exact k
        have hc46 : ¬ ((3 : Int32) < (3 : Int32)) := by decide
        refine OwnGo.of (A := T43.setTop (mkF m 11 #[.val (.ref a0), .val (.ref y1), .val (.int (3 : Int32)), .val (.int (3 : Int32)), .val (.ref aE)] [(.int (3 : Int32)), (.int (3 : Int32))])) (B := T43.setTop (mkF m 41 #[.val (.ref a0), .val (.ref y1), .val (.int (3 : Int32)), .val (.int (3 : Int32)), .val (.ref aE)] [.null])) (fun t k => ?_) ?_
        · show Steps p.tables e below (T43.setTop (mkF m 11 #[.val (.ref a0), .val (.ref y1), .val (.int (3 : Int32)), .val (.int (3 : Int32)), .val (.ref aE)] [(.int (3 : Int32)), (.int (3 : Int32))])) t
          refine XS.icmpYes X43.here hx rfl (pc0 := 11) (pc' := 40) rfl (hb hby d5_11) rfl (flt hc46).2.1 (by decide) (by decide) ?_
          refine XS.aconstNull X43.here hx rfl (hb hby d5_40) ?_
          exact k
        obtain ⟨fs, hr, hrun, hended, hW, hsame⟩ := X43.leave (v := some .null) (fun h => by rw [Bd.returns] at h; cases h) hlk
        refine ⟨_, _, ?_, hrun, hended, _, _, rfl, ?_, ⟨_, rfl⟩, hW, hsame.mono (by decide) (by decide)⟩
        · show Steps p.tables e below (T43.setTop (mkF m 41 #[.val (.ref a0), .val (.ref y1), .val (.int (3 : Int32)), .val (.int (3 : Int32)), .val (.ref aE)] [.null])) _
          exact own_retA X43 hx Bd.returns rfl rfl rfl (hb hby d5_41) hr
        · show Qrm5 Z a0 cs wV kV aT aJ aE lT lJ lE zc h0 n0 _ (T43.setFrames fs).heap _
          rw [show (T43.setFrames fs).heap = T1.heap from eq43]
          exact ⟨by rw [own_voc, if_neg qe33, if_neg qe39, if_neg qe45], N43, f3⟩
      · have qe47 := own_c1 hc44
        refine OwnGo.of (A := T43.setTop (mkF m 28 #[.val (.ref a0), .val (.ref y1), .val (.int (3 : Int32)), .val (.int (2 : Int32)), .val (.ref aE)] [(.int (if own_ead3 = cs then (1 : Int32) else (0 : Int32)))])) (B := T43.setTop (mkF m 33 #[.val (.ref a0), .val (.ref y1), .val (.int (3 : Int32)), .val (.int (2 : Int32)), .val (.ref aE)] [(.ref aE)])) (fun t k => ?_) ?_
        · show Steps p.tables e below (T43.setTop (mkF m 28 #[.val (.ref a0), .val (.ref y1), .val (.int (3 : Int32)), .val (.int (2 : Int32)), .val (.ref aE)] [(.int (if own_ead3 = cs then (1 : Int32) else (0 : Int32)))])) t
          refine XS.ifNo X43.here hx rfl (hb hby d5_28) rfl ((if0 _ _).trans (feq hc44).1) ?_
          refine XS.aload X43.here hx rfl (hb hby d5_31) rfl rfl ?_
          exact k
        obtain ⟨fs, hr, hrun, hended, hW, hsame⟩ := X43.leave (v := some (.ref aE)) (fun h => by rw [Bd.returns] at h; cases h) hlk
        refine ⟨_, _, ?_, hrun, hended, _, _, rfl, ?_, ⟨_, rfl⟩, hW, hsame.mono (by decide) (by decide)⟩
        · show Steps p.tables e below (T43.setTop (mkF m 33 #[.val (.ref a0), .val (.ref y1), .val (.int (3 : Int32)), .val (.int (2 : Int32)), .val (.ref aE)] [(.ref aE)])) _
          exact own_retA X43 hx Bd.returns rfl rfl rfl (hb hby d5_33) hr
        · show Qrm5 Z a0 cs wV kV aT aJ aE lT lJ lE zc h0 n0 _ (T43.setFrames fs).heap _
          rw [show (T43.setFrames fs).heap = T1.heap from eq43]
          exact ⟨by rw [own_voc, if_neg qe33, if_neg qe39, if_pos qe47], N43, f3⟩
    · have qe48 := own_c1 hc38
      refine OwnGo.of (A := T37.setTop (mkF m 28 #[.val (.ref a0), .val (.ref y1), .val (.int (3 : Int32)), .val (.int (1 : Int32)), .val (.ref aJ)] [(.int (if own_jats = cs then (1 : Int32) else (0 : Int32)))])) (B := T37.setTop (mkF m 33 #[.val (.ref a0), .val (.ref y1), .val (.int (3 : Int32)), .val (.int (1 : Int32)), .val (.ref aJ)] [(.ref aJ)])) (fun t k => ?_) ?_
      · show Steps p.tables e below (T37.setTop (mkF m 28 #[.val (.ref a0), .val (.ref y1), .val (.int (3 : Int32)), .val (.int (1 : Int32)), .val (.ref aJ)] [(.int (if own_jats = cs then (1 : Int32) else (0 : Int32)))])) t
        refine XS.ifNo X37.here hx rfl (hb hby d5_28) rfl ((if0 _ _).trans (feq hc38).1) ?_
        refine XS.aload X37.here hx rfl (hb hby d5_31) rfl rfl ?_
        exact k
      obtain ⟨fs, hr, hrun, hended, hW, hsame⟩ := X37.leave (v := some (.ref aJ)) (fun h => by rw [Bd.returns] at h; cases h) hlk
      refine ⟨_, _, ?_, hrun, hended, _, _, rfl, ?_, ⟨_, rfl⟩, hW, hsame.mono (by decide) (by decide)⟩
      · show Steps p.tables e below (T37.setTop (mkF m 33 #[.val (.ref a0), .val (.ref y1), .val (.int (3 : Int32)), .val (.int (1 : Int32)), .val (.ref aJ)] [(.ref aJ)])) _
        exact own_retA X37 hx Bd.returns rfl rfl rfl (hb hby d5_33) hr
      · show Qrm5 Z a0 cs wV kV aT aJ aE lT lJ lE zc h0 n0 _ (T37.setFrames fs).heap _
        rw [show (T37.setFrames fs).heap = T1.heap from eq37]
        exact ⟨by rw [own_voc, if_neg qe33, if_pos qe48], N37, f3⟩
  · have qe49 := own_c1 hc32
    refine OwnGo.of (A := T31.setTop (mkF m 28 #[.val (.ref a0), .val (.ref y1), .val (.int (3 : Int32)), .val (.int (0 : Int32)), .val (.ref aT)] [(.int (if own_tei = cs then (1 : Int32) else (0 : Int32)))])) (B := T31.setTop (mkF m 33 #[.val (.ref a0), .val (.ref y1), .val (.int (3 : Int32)), .val (.int (0 : Int32)), .val (.ref aT)] [(.ref aT)])) (fun t k => ?_) ?_
    · show Steps p.tables e below (T31.setTop (mkF m 28 #[.val (.ref a0), .val (.ref y1), .val (.int (3 : Int32)), .val (.int (0 : Int32)), .val (.ref aT)] [(.int (if own_tei = cs then (1 : Int32) else (0 : Int32)))])) t
      refine XS.ifNo X31.here hx rfl (hb hby d5_28) rfl ((if0 _ _).trans (feq hc32).1) ?_
      refine XS.aload X31.here hx rfl (hb hby d5_31) rfl rfl ?_
      exact k
    obtain ⟨fs, hr, hrun, hended, hW, hsame⟩ := X31.leave (v := some (.ref aT)) (fun h => by rw [Bd.returns] at h; cases h) hlk
    refine ⟨_, _, ?_, hrun, hended, _, _, rfl, ?_, ⟨_, rfl⟩, hW, hsame.mono (by decide) (by decide)⟩
    · show Steps p.tables e below (T31.setTop (mkF m 33 #[.val (.ref a0), .val (.ref y1), .val (.int (3 : Int32)), .val (.int (0 : Int32)), .val (.ref aT)] [(.ref aT)])) _
      exact own_retA X31 hx Bd.returns rfl rfl rfl (hb hby d5_33) hr
    · show Qrm5 Z a0 cs wV kV aT aJ aE lT lJ lE zc h0 n0 _ (T31.setFrames fs).heap _
      rw [show (T31.setFrames fs).heap = T1.heap from eq31]
      exact ⟨by rw [own_voc, if_pos qe49], N31, f3⟩
theorem ef_rm5n (m : MethodId)  : entryFrame m #[.null] 5 = mkF m 0 #[.val .null, .unset, .unset, .unset, .unset] [] := by first | (simp [entryFrame, mkF, argsToLocals, Value.category]; done) | rfl
def Qrm5n (Z : State) (wV : Addr) (kV : ClassId) (aT : Addr) (aJ : Addr) (aE : Addr) (lT : Addr) (lJ : Addr) (lE : Addr) (zc : Int32) (h0 : Heap) (n0 : Nat) (v : Option Value) (h : Heap) (L : List Loc) : Prop := v = some Value.null ∧ Fr n0 L ∧ Keep h0 h []
set_option maxRecDepth 65536 in
set_option maxHeartbeats 40000000 in
theorem rm5n (l : Launch) (Z : State) (aw : Array Value) (hw : ∀ d ∈ tables_1, d.before aw Z = true) (ws : List Jvm.Cond) (wV : Addr) (kV : ClassId) (aT : Addr) (aJ : Addr) (aE : Addr) (lT : Addr) (lJ : Addr) (lE : Addr) (zc : Int32) (h0 : Heap) (n0 : Nat) (Z0 : n0 ≤ h0.size) (S__VALUES : Sta Z h0 "org/postline/Vocabulary" "$VALUES" "[Lorg/postline/Vocabulary;" (.ref wV)) (V_v : Arv Z h0 wV kV (.object "org/postline/Vocabulary") (3 : Int32) [(.ref aT), (.ref aJ), (.ref aE)] .null) (E_v : Exa Z h0 wV "[Lorg/postline/Vocabulary;") (F_aT : Fld Z h0 aT "org/postline/Vocabulary" "label" "Ljava/lang/String;" (.ref lT)) (S_lT : OwnStr Z h0 lT own_tei) (F_aJ : Fld Z h0 aJ "org/postline/Vocabulary" "label" "Ljava/lang/String;" (.ref lJ)) (S_lJ : OwnStr Z h0 lJ own_jats) (F_aE : Fld Z h0 aE "org/postline/Vocabulary" "label" "Ljava/lang/String;" (.ref lE)) (S_lE : OwnStr Z h0 lE own_ead3) (S_COMPACT_STRINGS : Sta Z h0 "java/lang/String" "COMPACT_STRINGS" "Z" (.int zc)) (hzc : ¬ zc = 0) :
    MetFree l (⟨"org/postline/Vocabulary", "writing", "(Ljava/lang/String;)Lorg/postline/Vocabulary;"⟩ : MethodName) (head1 (Jvm.Cond.code (⟨"org/postline/Vocabulary", "writing", "(Ljava/lang/String;)Lorg/postline/Vocabulary;"⟩ : MethodName) prog_43_method_5_code 5 (some (.object "org/postline/Vocabulary")) :: ws) ({ frames := 2, cells := 1, slots := 3, locals := 25 } : Room)) (fun a U => a = #[.null] ∧ Z.Warmed39 U.vm ∧ U.heap = h0) (fun _ _ _ _ _ => True) (fun _ U o U' => ∃ v L, o = .returned v ∧ Qrm5n Z wV kV aT aJ aE lT lJ lE zc h0 n0 v U'.heap L ∧ FrameEnd U o U' L ({ frames := 2, cells := 1, slots := 3, locals := 25 } : Room).cells ({ frames := 2, cells := 1, slots := 3, locals := 25 } : Room).slots) := by
  refine MetFree.of_bodySF (plainFor_of_name pn_5) hisR ?_
  intro p e s m args below meth c s₁ Bd hml0 hP hK
  obtain ⟨rfl, hZ, hh⟩ := hP
  have hx := Bd.exec
  have hby := Bd.bytes
  have hml : c.maxLocals = 5 := hml0
  have hown : s.vm.findClass "org/postline/Vocabulary" = some m.cls := findClass_of_methodNamed Bd.named
  have hnm := (name_of_methodNamed Bd.named Bd.method).1
  have X0 : Stand p l e ({ frames := 2, cells := 1, slots := 3, locals := 25 } : Room) s m #[.null] below meth c s₁ [] 0 0 := Stand.of_body Bd
  have e0 : s₁.heap = h0 := by rw [← hh, Bd.state]; rfl
  have N0 := Fr.nil n0
  have hlk := Bd.notSynchronized
  show OwnGo p.tables e below _ (s₁.setTop (entryFrame m #[.null] 5))
  rw [ef_rm5n m ]
  have K0 : Keep h0 h0 [] := Keep.refl _ _
  obtain ⟨t_lT, kb_lT, cd_lT, N_lT, vs_lT, E_lT, V_lT, C_lT, K_lT, cod_lT, up_lT, ln_lT⟩ := S_lT
  obtain ⟨t_lJ, kb_lJ, cd_lJ, N_lJ, vs_lJ, E_lJ, V_lJ, C_lJ, K_lJ, cod_lJ, up_lJ, ln_lJ⟩ := S_lJ
  obtain ⟨t_lE, kb_lE, cd_lE, N_lE, vs_lE, E_lE, V_lE, C_lE, K_lE, cod_lE, up_lE, ln_lE⟩ := S_lE
  show OwnGo p.tables e below _ (s₁.setTop (mkF m 0 #[.val .null, .unset, .unset, .unset, .unset] []))
  obtain ⟨T1, L1, v1, X1, hQ1, st1⟩ := own_callS X0 hx (y := (⟨"org/postline/Vocabulary", "values", "()[Lorg/postline/Vocabulary;"⟩ : MethodName)) hown (mvT hZ (hw _ (List.mem_of_getElem? (i := 30) rfl))) (mvT hZ (hw _ (List.mem_of_getElem? (i := 31) rfl))) (mvT hZ (hw _ (List.mem_of_getElem? (i := 28) rfl))) (mvT hZ (hw _ (List.mem_of_getElem? (i := 32) rfl))) (by decide) (backOf (W := 0) (rm6 l Z aw hw []  wV kV aT aJ aE h0 n0 Z0 S__VALUES V_v E_v) hZ (hw _ (List.mem_of_getElem? (i := 32) rfl)) (hw _ (List.mem_of_getElem? (i := 28) rfl)) (by decide) (by decide)) (g := (mkF m 0 #[.val .null, .unset, .unset, .unset, .unset] [])) rfl (by rw [hml]; rfl) (argsL := []) (rest := []) (lenOf pd_6 rfl) rfl (by show 2 * 0 + _ ≤ _; exact Nat.le_of_eq rfl) (hb hby d5_0) rfl e0 (by decide) (by decide)
  obtain ⟨N1q, K1, y1, rfl, A1⟩ := hQ1
  have f2 : n0 ≤ T1.heap.size := Nat.le_trans Z0 K1.1
  have f3 : Keep h0 T1.heap [] := K0.trans K1 all0
  have f4 : Sta Z T1.heap "org/postline/Vocabulary" "$VALUES" "[Lorg/postline/Vocabulary;" (.ref wV) := own_sta_keep S__VALUES K1 all0
  have f5 : Arv Z T1.heap wV kV (.object "org/postline/Vocabulary") (3 : Int32) [(.ref aT), (.ref aJ), (.ref aE)] .null := V_v.keep K1 nin0
  have f6 : Exa Z T1.heap wV "[Lorg/postline/Vocabulary;" := E_v.keep K1
  have f7 : Fld Z T1.heap aT "org/postline/Vocabulary" "label" "Ljava/lang/String;" (.ref lT) := F_aT.keep K1 nin0
  have f8 : Exa Z T1.heap lT "java/lang/String" := E_lT.keep K1
  have f9 : Fld Z T1.heap lT "java/lang/String" "coder" "B" (.int cd_lT) := C_lT.keep K1 nin0
  have f10 : Fld Z T1.heap lT "java/lang/String" "value" "[B" (.ref t_lT) := V_lT.keep K1 nin0
  have f11 : Arv Z T1.heap t_lT kb_lT .byte N_lT vs_lT (.int (0 : Int32)) := K_lT.keep K1 nin0
  have f12 : Fld Z T1.heap aJ "org/postline/Vocabulary" "label" "Ljava/lang/String;" (.ref lJ) := F_aJ.keep K1 nin0
  have f13 : Exa Z T1.heap lJ "java/lang/String" := E_lJ.keep K1
  have f14 : Fld Z T1.heap lJ "java/lang/String" "coder" "B" (.int cd_lJ) := C_lJ.keep K1 nin0
  have f15 : Fld Z T1.heap lJ "java/lang/String" "value" "[B" (.ref t_lJ) := V_lJ.keep K1 nin0
  have f16 : Arv Z T1.heap t_lJ kb_lJ .byte N_lJ vs_lJ (.int (0 : Int32)) := K_lJ.keep K1 nin0
  have f17 : Fld Z T1.heap aE "org/postline/Vocabulary" "label" "Ljava/lang/String;" (.ref lE) := F_aE.keep K1 nin0
  have f18 : Exa Z T1.heap lE "java/lang/String" := E_lE.keep K1
  have f19 : Fld Z T1.heap lE "java/lang/String" "coder" "B" (.int cd_lE) := C_lE.keep K1 nin0
  have f20 : Fld Z T1.heap lE "java/lang/String" "value" "[B" (.ref t_lE) := V_lE.keep K1 nin0
  have f21 : Arv Z T1.heap t_lE kb_lE .byte N_lE vs_lE (.int (0 : Int32)) := K_lE.keep K1 nin0
  have f22 : Sta Z T1.heap "java/lang/String" "COMPACT_STRINGS" "Z" (.int zc) := own_sta_keep S_COMPACT_STRINGS K1 all0
  have N1 := Fr.app N0 N1q
  refine OwnGo.of st1 ?_
  show OwnGo p.tables e below _ (T1.setTop (mkF m 3 #[.val .null, .unset, .unset, .unset, .unset] [(.ref y1)]))
  refine OwnGo.of (A := T1.setTop (mkF m 3 #[.val .null, .unset, .unset, .unset, .unset] [(.ref y1)])) (B := T1.setTop (mkF m 5 #[.val .null, .val (.ref y1), .unset, .unset, .unset] [(.ref y1)])) (fun t k => ?_) ?_
  · show Steps p.tables e below (T1.setTop (mkF m 3 #[.val .null, .unset, .unset, .unset, .unset] [(.ref y1)])) t
    refine XS.astoreN X1.here hx rfl (hb hby d5_3) rfl rfl (l' := #[.val .null, .val (.ref y1), .unset, .unset, .unset]) rfl ?_
    refine XS.aloadN X1.here hx rfl (hb hby d5_4) rfl rfl ?_
    exact k
  have cq23 := A1
  obtain ⟨clq23, Arq23, qq23, Sq23, Nq23, Hq23, Gq23⟩ := cq23
  refine OwnGo.of (X1.arraylength hx Arq23.1 (State.isArrayOf_alike hZ.alike Arq23.2.1) (g := (mkF m 5 #[.val .null, .val (.ref y1), .unset, .unset, .unset] [(.ref y1)])) rfl rfl (hb hby d5_5)) ?_
  rw [len_of Sq23 Nq23]
  show OwnGo p.tables e below _ (T1.setTop (mkF m 6 #[.val .null, .val (.ref y1), .unset, .unset, .unset] [(.int (3 : Int32))]))
  refine OwnGo.of (A := T1.setTop (mkF m 6 #[.val .null, .val (.ref y1), .unset, .unset, .unset] [(.int (3 : Int32))])) (B := T1.setTop (mkF m 11 #[.val .null, .val (.ref y1), .val (.int (3 : Int32)), .val (.int (0 : Int32)), .unset] [(.int (3 : Int32)), (.int (0 : Int32))])) (fun t k => ?_) ?_
  · show Steps p.tables e below (T1.setTop (mkF m 6 #[.val .null, .val (.ref y1), .unset, .unset, .unset] [(.int (3 : Int32))])) t
    refine XS.istoreN X1.here hx rfl (hb hby d5_6) rfl (l' := #[.val .null, .val (.ref y1), .val (.int (3 : Int32)), .unset, .unset]) rfl ?_
    refine XS.iconst X1.here hx rfl (hb hby d5_7) ?_
    refine XS.istoreN X1.here hx rfl (hb hby d5_8) rfl (l' := #[.val .null, .val (.ref y1), .val (.int (3 : Int32)), .val (.int (0 : Int32)), .unset]) rfl ?_
    refine XS.iloadN X1.here hx rfl (hb hby d5_9) rfl ?_
    refine XS.iloadN X1.here hx rfl (hb hby d5_10) rfl ?_
    exact k
  have hc24 : (0 : Int32) < (3 : Int32) := by decide
  refine OwnGo.of (A := T1.setTop (mkF m 11 #[.val .null, .val (.ref y1), .val (.int (3 : Int32)), .val (.int (0 : Int32)), .unset] [(.int (3 : Int32)), (.int (0 : Int32))])) (B := T1.setTop (mkF m 16 #[.val .null, .val (.ref y1), .val (.int (3 : Int32)), .val (.int (0 : Int32)), .unset] [(.int (0 : Int32)), (.ref y1)])) (fun t k => ?_) ?_
  · show Steps p.tables e below (T1.setTop (mkF m 11 #[.val .null, .val (.ref y1), .val (.int (3 : Int32)), .val (.int (0 : Int32)), .unset] [(.int (3 : Int32)), (.int (0 : Int32))])) t
    refine XS.icmpNo X1.here hx rfl (hb hby d5_11) rfl (tlt hc24).2.1 ?_
    refine XS.aloadN X1.here hx rfl (hb hby d5_14) rfl rfl ?_
    refine XS.iloadN X1.here hx rfl (hb hby d5_15) rfl ?_
    exact k
  have cq25 := A1
  obtain ⟨clq25, Arq25, qq25, Sq25, Nq25, Hq25, Gq25⟩ := cq25
  have hinq25 := inb_of (j := (0 : Int32)) Sq25 ⟨by decide, by decide⟩
  refine OwnGo.of (X1.aaload hx (j := (0 : Int32)) (v := (.ref aT)) Arq25.1 (State.isArrayOf_alike hZ.alike Arq25.2.1) rfl Arq25.2.2 hinq25 (Hq25.at hinq25 rfl) (g := (mkF m 16 #[.val .null, .val (.ref y1), .val (.int (3 : Int32)), .val (.int (0 : Int32)), .unset] [(.int (0 : Int32)), (.ref y1)])) rfl rfl (hb hby d5_16)) ?_
  show OwnGo p.tables e below _ (T1.setTop (mkF m 17 #[.val .null, .val (.ref y1), .val (.int (3 : Int32)), .val (.int (0 : Int32)), .unset] [(.ref aT)]))
  refine OwnGo.of (A := T1.setTop (mkF m 17 #[.val .null, .val (.ref y1), .val (.int (3 : Int32)), .val (.int (0 : Int32)), .unset] [(.ref aT)])) (B := T1.setTop (mkF m 21 #[.val .null, .val (.ref y1), .val (.int (3 : Int32)), .val (.int (0 : Int32)), .val (.ref aT)] [(.ref aT)])) (fun t k => ?_) ?_
  · show Steps p.tables e below (T1.setTop (mkF m 17 #[.val .null, .val (.ref y1), .val (.int (3 : Int32)), .val (.int (0 : Int32)), .unset] [(.ref aT)])) t
    refine XS.astore X1.here hx rfl (hb hby d5_17) rfl rfl (l' := #[.val .null, .val (.ref y1), .val (.int (3 : Int32)), .val (.int (0 : Int32)), .val (.ref aT)]) rfl ?_
    refine XS.aload X1.here hx rfl (hb hby d5_19) rfl rfl ?_
    exact k
  obtain ⟨T26, X26, e26, st26⟩ := getF X1 hx hZ hown (host := "") (Or.inl (hw _ (List.mem_of_getElem? (i := 48) rfl))) Via.refl rfl f7 (g := (mkF m 21 #[.val .null, .val (.ref y1), .val (.int (3 : Int32)), .val (.int (0 : Int32)), .val (.ref aT)] [(.ref aT)])) rfl rfl (hb hby d5_21)
  refine OwnGo.of st26 ?_
  show OwnGo p.tables e below _ (T26.setTop (mkF m 24 #[.val .null, .val (.ref y1), .val (.int (3 : Int32)), .val (.int (0 : Int32)), .val (.ref aT)] [(.ref lT)]))
  refine OwnGo.of (A := T26.setTop (mkF m 24 #[.val .null, .val (.ref y1), .val (.int (3 : Int32)), .val (.int (0 : Int32)), .val (.ref aT)] [(.ref lT)])) (B := T26.setTop (mkF m 25 #[.val .null, .val (.ref y1), .val (.int (3 : Int32)), .val (.int (0 : Int32)), .val (.ref aT)] [.null, (.ref lT)])) (fun t k => ?_) ?_
  · show Steps p.tables e below (T26.setTop (mkF m 24 #[.val .null, .val (.ref y1), .val (.int (3 : Int32)), .val (.int (0 : Int32)), .val (.ref aT)] [(.ref lT)])) t
    refine XS.aloadN X26.here hx rfl (hb hby d5_24) rfl rfl ?_
    exact k
  obtain ⟨cq27, kq27, q27a, q27b, q27c⟩ := isOf hZ e26 f8
  obtain ⟨T27, L27, v27, X27, hQ27, st27⟩ := own_callV X26 hx (y := (⟨"java/lang/String", "equals", "(Ljava/lang/Object;)Z"⟩ : MethodName)) (z := (⟨"java/lang/String", "equals", "(Ljava/lang/Object;)Z"⟩ : MethodName)) hown (mvT hZ (hw _ (List.mem_of_getElem? (i := 50) rfl))) (mvT hZ (hw _ (List.mem_of_getElem? (i := 51) rfl))) (notFace_of_selects (args := #[]) (mvT hZ (hw _ (List.mem_of_getElem? (i := 53) rfl)))) (mvT hZ (hw _ (List.mem_of_getElem? (i := 53) rfl))) (mvT hZ (hw _ (List.mem_of_getElem? (i := 52) rfl))) (by decide) (backOf (W := 0) (rm7n l Z aw hw [] lT  T1.heap n0 f2 ) hZ (hw _ (List.mem_of_getElem? (i := 54) rfl)) (hw _ (List.mem_of_getElem? (i := 7) rfl)) (by decide) (by decide)) q27a q27c (g := (mkF m 25 #[.val .null, .val (.ref y1), .val (.int (3 : Int32)), .val (.int (0 : Int32)), .val (.ref aT)] [.null, (.ref lT)])) rfl (by rw [hml]; rfl) (argsL := [.null]) (rest := []) (lenOf pd_7 rfl) rfl (by show 2 * 0 + _ ≤ _; exact Nat.le_of_eq rfl) (hb hby d5_25) rfl e26 (by decide) (by decide)
  obtain ⟨rfl, N27q, eq27⟩ := hQ27
  have N27 := Fr.app N1 N27q
  refine OwnGo.of st27 ?_
  show OwnGo p.tables e below _ (T27.setTop (mkF m 28 #[.val .null, .val (.ref y1), .val (.int (3 : Int32)), .val (.int (0 : Int32)), .val (.ref aT)] [(.int (0 : Int32))]))
  have hc28 : (0 : Int32) = (0 : Int32) := by decide
  refine OwnGo.of (A := T27.setTop (mkF m 28 #[.val .null, .val (.ref y1), .val (.int (3 : Int32)), .val (.int (0 : Int32)), .val (.ref aT)] [(.int (0 : Int32))])) (B := T27.setTop (mkF m 11 #[.val .null, .val (.ref y1), .val (.int (3 : Int32)), .val (.int (1 : Int32)), .val (.ref aT)] [(.int (3 : Int32)), (.int (1 : Int32))])) (fun t k => ?_) ?_
  · show Steps p.tables e below (T27.setTop (mkF m 28 #[.val .null, .val (.ref y1), .val (.int (3 : Int32)), .val (.int (0 : Int32)), .val (.ref aT)] [(.int (0 : Int32))])) t
    refine XS.ifYes X27.here hx rfl (pc0 := 28) (pc' := 34) rfl (hb hby d5_28) rfl ((if0 _ _).trans (teq hc28).1) (by decide) (by decide) ?_
    refine XS.iinc X27.here hx rfl (hb hby d5_34) rfl (l' := #[.val .null, .val (.ref y1), .val (.int (3 : Int32)), .val (.int (1 : Int32)), .val (.ref aT)]) rfl ?_
    refine XS.goto X27.here hx rfl (pc0 := 37) (pc' := 9) rfl (hb hby d5_37) (by decide) (by decide) ?_
    refine XS.iloadN X27.here hx rfl (hb hby d5_9) rfl ?_
    refine XS.iloadN X27.here hx rfl (hb hby d5_10) rfl ?_
    exact k
  have hc29 : (1 : Int32) < (3 : Int32) := by decide
  refine OwnGo.of (A := T27.setTop (mkF m 11 #[.val .null, .val (.ref y1), .val (.int (3 : Int32)), .val (.int (1 : Int32)), .val (.ref aT)] [(.int (3 : Int32)), (.int (1 : Int32))])) (B := T27.setTop (mkF m 16 #[.val .null, .val (.ref y1), .val (.int (3 : Int32)), .val (.int (1 : Int32)), .val (.ref aT)] [(.int (1 : Int32)), (.ref y1)])) (fun t k => ?_) ?_
  · show Steps p.tables e below (T27.setTop (mkF m 11 #[.val .null, .val (.ref y1), .val (.int (3 : Int32)), .val (.int (1 : Int32)), .val (.ref aT)] [(.int (3 : Int32)), (.int (1 : Int32))])) t
    refine XS.icmpNo X27.here hx rfl (hb hby d5_11) rfl (tlt hc29).2.1 ?_
    refine XS.aloadN X27.here hx rfl (hb hby d5_14) rfl rfl ?_
    refine XS.iloadN X27.here hx rfl (hb hby d5_15) rfl ?_
    exact k
  have cq30 := A1
  obtain ⟨clq30, Arq30, qq30, Sq30, Nq30, Hq30, Gq30⟩ := cq30
  have hinq30 := inb_of (j := (1 : Int32)) Sq30 ⟨by decide, by decide⟩
  refine OwnGo.of (X27.aaload hx (j := (1 : Int32)) (v := (.ref aJ)) (by rw [eq27]; exact Arq30.1) (State.isArrayOf_alike hZ.alike Arq30.2.1) rfl Arq30.2.2 hinq30 (Hq30.at hinq30 rfl) (g := (mkF m 16 #[.val .null, .val (.ref y1), .val (.int (3 : Int32)), .val (.int (1 : Int32)), .val (.ref aT)] [(.int (1 : Int32)), (.ref y1)])) rfl rfl (hb hby d5_16)) ?_
  show OwnGo p.tables e below _ (T27.setTop (mkF m 17 #[.val .null, .val (.ref y1), .val (.int (3 : Int32)), .val (.int (1 : Int32)), .val (.ref aT)] [(.ref aJ)]))
  refine OwnGo.of (A := T27.setTop (mkF m 17 #[.val .null, .val (.ref y1), .val (.int (3 : Int32)), .val (.int (1 : Int32)), .val (.ref aT)] [(.ref aJ)])) (B := T27.setTop (mkF m 21 #[.val .null, .val (.ref y1), .val (.int (3 : Int32)), .val (.int (1 : Int32)), .val (.ref aJ)] [(.ref aJ)])) (fun t k => ?_) ?_
  · show Steps p.tables e below (T27.setTop (mkF m 17 #[.val .null, .val (.ref y1), .val (.int (3 : Int32)), .val (.int (1 : Int32)), .val (.ref aT)] [(.ref aJ)])) t
    refine XS.astore X27.here hx rfl (hb hby d5_17) rfl rfl (l' := #[.val .null, .val (.ref y1), .val (.int (3 : Int32)), .val (.int (1 : Int32)), .val (.ref aJ)]) rfl ?_
    refine XS.aload X27.here hx rfl (hb hby d5_19) rfl rfl ?_
    exact k
  obtain ⟨T31, X31, e31, st31⟩ := getF X27 hx hZ hown (host := "") (Or.inl (hw _ (List.mem_of_getElem? (i := 48) rfl))) Via.refl eq27 f12 (g := (mkF m 21 #[.val .null, .val (.ref y1), .val (.int (3 : Int32)), .val (.int (1 : Int32)), .val (.ref aJ)] [(.ref aJ)])) rfl rfl (hb hby d5_21)
  refine OwnGo.of st31 ?_
  show OwnGo p.tables e below _ (T31.setTop (mkF m 24 #[.val .null, .val (.ref y1), .val (.int (3 : Int32)), .val (.int (1 : Int32)), .val (.ref aJ)] [(.ref lJ)]))
  refine OwnGo.of (A := T31.setTop (mkF m 24 #[.val .null, .val (.ref y1), .val (.int (3 : Int32)), .val (.int (1 : Int32)), .val (.ref aJ)] [(.ref lJ)])) (B := T31.setTop (mkF m 25 #[.val .null, .val (.ref y1), .val (.int (3 : Int32)), .val (.int (1 : Int32)), .val (.ref aJ)] [.null, (.ref lJ)])) (fun t k => ?_) ?_
  · show Steps p.tables e below (T31.setTop (mkF m 24 #[.val .null, .val (.ref y1), .val (.int (3 : Int32)), .val (.int (1 : Int32)), .val (.ref aJ)] [(.ref lJ)])) t
    refine XS.aloadN X31.here hx rfl (hb hby d5_24) rfl rfl ?_
    exact k
  obtain ⟨cq32, kq32, q32a, q32b, q32c⟩ := isOf hZ e31 f13
  obtain ⟨T32, L32, v32, X32, hQ32, st32⟩ := own_callV X31 hx (y := (⟨"java/lang/String", "equals", "(Ljava/lang/Object;)Z"⟩ : MethodName)) (z := (⟨"java/lang/String", "equals", "(Ljava/lang/Object;)Z"⟩ : MethodName)) hown (mvT hZ (hw _ (List.mem_of_getElem? (i := 50) rfl))) (mvT hZ (hw _ (List.mem_of_getElem? (i := 51) rfl))) (notFace_of_selects (args := #[]) (mvT hZ (hw _ (List.mem_of_getElem? (i := 53) rfl)))) (mvT hZ (hw _ (List.mem_of_getElem? (i := 53) rfl))) (mvT hZ (hw _ (List.mem_of_getElem? (i := 52) rfl))) (by decide) (backOf (W := 0) (rm7n l Z aw hw [] lJ  T1.heap n0 f2 ) hZ (hw _ (List.mem_of_getElem? (i := 54) rfl)) (hw _ (List.mem_of_getElem? (i := 7) rfl)) (by decide) (by decide)) q32a q32c (g := (mkF m 25 #[.val .null, .val (.ref y1), .val (.int (3 : Int32)), .val (.int (1 : Int32)), .val (.ref aJ)] [.null, (.ref lJ)])) rfl (by rw [hml]; rfl) (argsL := [.null]) (rest := []) (lenOf pd_7 rfl) rfl (by show 2 * 0 + _ ≤ _; exact Nat.le_of_eq rfl) (hb hby d5_25) rfl e31 (by decide) (by decide)
  obtain ⟨rfl, N32q, eq32⟩ := hQ32
  have N32 := Fr.app N27 N32q
  refine OwnGo.of st32 ?_
  show OwnGo p.tables e below _ (T32.setTop (mkF m 28 #[.val .null, .val (.ref y1), .val (.int (3 : Int32)), .val (.int (1 : Int32)), .val (.ref aJ)] [(.int (0 : Int32))]))
  have hc33 : (0 : Int32) = (0 : Int32) := by decide
  refine OwnGo.of (A := T32.setTop (mkF m 28 #[.val .null, .val (.ref y1), .val (.int (3 : Int32)), .val (.int (1 : Int32)), .val (.ref aJ)] [(.int (0 : Int32))])) (B := T32.setTop (mkF m 11 #[.val .null, .val (.ref y1), .val (.int (3 : Int32)), .val (.int (2 : Int32)), .val (.ref aJ)] [(.int (3 : Int32)), (.int (2 : Int32))])) (fun t k => ?_) ?_
  · show Steps p.tables e below (T32.setTop (mkF m 28 #[.val .null, .val (.ref y1), .val (.int (3 : Int32)), .val (.int (1 : Int32)), .val (.ref aJ)] [(.int (0 : Int32))])) t
    refine XS.ifYes X32.here hx rfl (pc0 := 28) (pc' := 34) rfl (hb hby d5_28) rfl ((if0 _ _).trans (teq hc33).1) (by decide) (by decide) ?_
    refine XS.iinc X32.here hx rfl (hb hby d5_34) rfl (l' := #[.val .null, .val (.ref y1), .val (.int (3 : Int32)), .val (.int (2 : Int32)), .val (.ref aJ)]) rfl ?_
    refine XS.goto X32.here hx rfl (pc0 := 37) (pc' := 9) rfl (hb hby d5_37) (by decide) (by decide) ?_
    refine XS.iloadN X32.here hx rfl (hb hby d5_9) rfl ?_
    refine XS.iloadN X32.here hx rfl (hb hby d5_10) rfl ?_
    exact k
  have hc34 : (2 : Int32) < (3 : Int32) := by decide
  refine OwnGo.of (A := T32.setTop (mkF m 11 #[.val .null, .val (.ref y1), .val (.int (3 : Int32)), .val (.int (2 : Int32)), .val (.ref aJ)] [(.int (3 : Int32)), (.int (2 : Int32))])) (B := T32.setTop (mkF m 16 #[.val .null, .val (.ref y1), .val (.int (3 : Int32)), .val (.int (2 : Int32)), .val (.ref aJ)] [(.int (2 : Int32)), (.ref y1)])) (fun t k => ?_) ?_
  · show Steps p.tables e below (T32.setTop (mkF m 11 #[.val .null, .val (.ref y1), .val (.int (3 : Int32)), .val (.int (2 : Int32)), .val (.ref aJ)] [(.int (3 : Int32)), (.int (2 : Int32))])) t
    refine XS.icmpNo X32.here hx rfl (hb hby d5_11) rfl (tlt hc34).2.1 ?_
    refine XS.aloadN X32.here hx rfl (hb hby d5_14) rfl rfl ?_
    refine XS.iloadN X32.here hx rfl (hb hby d5_15) rfl ?_
    exact k
  have cq35 := A1
  obtain ⟨clq35, Arq35, qq35, Sq35, Nq35, Hq35, Gq35⟩ := cq35
  have hinq35 := inb_of (j := (2 : Int32)) Sq35 ⟨by decide, by decide⟩
  refine OwnGo.of (X32.aaload hx (j := (2 : Int32)) (v := (.ref aE)) (by rw [eq32]; exact Arq35.1) (State.isArrayOf_alike hZ.alike Arq35.2.1) rfl Arq35.2.2 hinq35 (Hq35.at hinq35 rfl) (g := (mkF m 16 #[.val .null, .val (.ref y1), .val (.int (3 : Int32)), .val (.int (2 : Int32)), .val (.ref aJ)] [(.int (2 : Int32)), (.ref y1)])) rfl rfl (hb hby d5_16)) ?_
  show OwnGo p.tables e below _ (T32.setTop (mkF m 17 #[.val .null, .val (.ref y1), .val (.int (3 : Int32)), .val (.int (2 : Int32)), .val (.ref aJ)] [(.ref aE)]))
  refine OwnGo.of (A := T32.setTop (mkF m 17 #[.val .null, .val (.ref y1), .val (.int (3 : Int32)), .val (.int (2 : Int32)), .val (.ref aJ)] [(.ref aE)])) (B := T32.setTop (mkF m 21 #[.val .null, .val (.ref y1), .val (.int (3 : Int32)), .val (.int (2 : Int32)), .val (.ref aE)] [(.ref aE)])) (fun t k => ?_) ?_
  · show Steps p.tables e below (T32.setTop (mkF m 17 #[.val .null, .val (.ref y1), .val (.int (3 : Int32)), .val (.int (2 : Int32)), .val (.ref aJ)] [(.ref aE)])) t
    refine XS.astore X32.here hx rfl (hb hby d5_17) rfl rfl (l' := #[.val .null, .val (.ref y1), .val (.int (3 : Int32)), .val (.int (2 : Int32)), .val (.ref aE)]) rfl ?_
    refine XS.aload X32.here hx rfl (hb hby d5_19) rfl rfl ?_
    exact k
  obtain ⟨T36, X36, e36, st36⟩ := getF X32 hx hZ hown (host := "") (Or.inl (hw _ (List.mem_of_getElem? (i := 48) rfl))) Via.refl eq32 f17 (g := (mkF m 21 #[.val .null, .val (.ref y1), .val (.int (3 : Int32)), .val (.int (2 : Int32)), .val (.ref aE)] [(.ref aE)])) rfl rfl (hb hby d5_21)
  refine OwnGo.of st36 ?_
  show OwnGo p.tables e below _ (T36.setTop (mkF m 24 #[.val .null, .val (.ref y1), .val (.int (3 : Int32)), .val (.int (2 : Int32)), .val (.ref aE)] [(.ref lE)]))
  refine OwnGo.of (A := T36.setTop (mkF m 24 #[.val .null, .val (.ref y1), .val (.int (3 : Int32)), .val (.int (2 : Int32)), .val (.ref aE)] [(.ref lE)])) (B := T36.setTop (mkF m 25 #[.val .null, .val (.ref y1), .val (.int (3 : Int32)), .val (.int (2 : Int32)), .val (.ref aE)] [.null, (.ref lE)])) (fun t k => ?_) ?_
  · show Steps p.tables e below (T36.setTop (mkF m 24 #[.val .null, .val (.ref y1), .val (.int (3 : Int32)), .val (.int (2 : Int32)), .val (.ref aE)] [(.ref lE)])) t
    refine XS.aloadN X36.here hx rfl (hb hby d5_24) rfl rfl ?_
    exact k
  obtain ⟨cq37, kq37, q37a, q37b, q37c⟩ := isOf hZ e36 f18
  obtain ⟨T37, L37, v37, X37, hQ37, st37⟩ := own_callV X36 hx (y := (⟨"java/lang/String", "equals", "(Ljava/lang/Object;)Z"⟩ : MethodName)) (z := (⟨"java/lang/String", "equals", "(Ljava/lang/Object;)Z"⟩ : MethodName)) hown (mvT hZ (hw _ (List.mem_of_getElem? (i := 50) rfl))) (mvT hZ (hw _ (List.mem_of_getElem? (i := 51) rfl))) (notFace_of_selects (args := #[]) (mvT hZ (hw _ (List.mem_of_getElem? (i := 53) rfl)))) (mvT hZ (hw _ (List.mem_of_getElem? (i := 53) rfl))) (mvT hZ (hw _ (List.mem_of_getElem? (i := 52) rfl))) (by decide) (backOf (W := 0) (rm7n l Z aw hw [] lE  T1.heap n0 f2 ) hZ (hw _ (List.mem_of_getElem? (i := 54) rfl)) (hw _ (List.mem_of_getElem? (i := 7) rfl)) (by decide) (by decide)) q37a q37c (g := (mkF m 25 #[.val .null, .val (.ref y1), .val (.int (3 : Int32)), .val (.int (2 : Int32)), .val (.ref aE)] [.null, (.ref lE)])) rfl (by rw [hml]; rfl) (argsL := [.null]) (rest := []) (lenOf pd_7 rfl) rfl (by show 2 * 0 + _ ≤ _; exact Nat.le_of_eq rfl) (hb hby d5_25) rfl e36 (by decide) (by decide)
  obtain ⟨rfl, N37q, eq37⟩ := hQ37
  have N37 := Fr.app N32 N37q
  refine OwnGo.of st37 ?_
  show OwnGo p.tables e below _ (T37.setTop (mkF m 28 #[.val .null, .val (.ref y1), .val (.int (3 : Int32)), .val (.int (2 : Int32)), .val (.ref aE)] [(.int (0 : Int32))]))
  have hc38 : (0 : Int32) = (0 : Int32) := by decide
  refine OwnGo.of (A := T37.setTop (mkF m 28 #[.val .null, .val (.ref y1), .val (.int (3 : Int32)), .val (.int (2 : Int32)), .val (.ref aE)] [(.int (0 : Int32))])) (B := T37.setTop (mkF m 11 #[.val .null, .val (.ref y1), .val (.int (3 : Int32)), .val (.int (3 : Int32)), .val (.ref aE)] [(.int (3 : Int32)), (.int (3 : Int32))])) (fun t k => ?_) ?_
  · show Steps p.tables e below (T37.setTop (mkF m 28 #[.val .null, .val (.ref y1), .val (.int (3 : Int32)), .val (.int (2 : Int32)), .val (.ref aE)] [(.int (0 : Int32))])) t
    refine XS.ifYes X37.here hx rfl (pc0 := 28) (pc' := 34) rfl (hb hby d5_28) rfl ((if0 _ _).trans (teq hc38).1) (by decide) (by decide) ?_
    refine XS.iinc X37.here hx rfl (hb hby d5_34) rfl (l' := #[.val .null, .val (.ref y1), .val (.int (3 : Int32)), .val (.int (3 : Int32)), .val (.ref aE)]) rfl ?_
    refine XS.goto X37.here hx rfl (pc0 := 37) (pc' := 9) rfl (hb hby d5_37) (by decide) (by decide) ?_
    refine XS.iloadN X37.here hx rfl (hb hby d5_9) rfl ?_
    refine XS.iloadN X37.here hx rfl (hb hby d5_10) rfl ?_
    exact k
  have hc39 : ¬ ((3 : Int32) < (3 : Int32)) := by decide
  refine OwnGo.of (A := T37.setTop (mkF m 11 #[.val .null, .val (.ref y1), .val (.int (3 : Int32)), .val (.int (3 : Int32)), .val (.ref aE)] [(.int (3 : Int32)), (.int (3 : Int32))])) (B := T37.setTop (mkF m 41 #[.val .null, .val (.ref y1), .val (.int (3 : Int32)), .val (.int (3 : Int32)), .val (.ref aE)] [.null])) (fun t k => ?_) ?_
  · show Steps p.tables e below (T37.setTop (mkF m 11 #[.val .null, .val (.ref y1), .val (.int (3 : Int32)), .val (.int (3 : Int32)), .val (.ref aE)] [(.int (3 : Int32)), (.int (3 : Int32))])) t
    refine XS.icmpYes X37.here hx rfl (pc0 := 11) (pc' := 40) rfl (hb hby d5_11) rfl (flt hc39).2.1 (by decide) (by decide) ?_
    refine XS.aconstNull X37.here hx rfl (hb hby d5_40) ?_
    exact k
  obtain ⟨fs, hr, hrun, hended, hW, hsame⟩ := X37.leave (v := some .null) (fun h => by rw [Bd.returns] at h; cases h) hlk
  refine ⟨_, _, ?_, hrun, hended, _, _, rfl, ?_, ⟨_, rfl⟩, hW, hsame.mono (by decide) (by decide)⟩
  · show Steps p.tables e below (T37.setTop (mkF m 41 #[.val .null, .val (.ref y1), .val (.int (3 : Int32)), .val (.int (3 : Int32)), .val (.ref aE)] [.null])) _
    exact own_retA X37 hx Bd.returns rfl rfl rfl (hb hby d5_41) hr
  · show Qrm5n Z wV kV aT aJ aE lT lJ lE zc h0 n0 _ (T37.setFrames fs).heap _
    rw [show (T37.setFrames fs).heap = T1.heap from eq37]
    exact ⟨rfl, N37, f3⟩
theorem own_lit_8 : ((∀ c ∈ "tei".toList, c.toNat < 256) ∧ "tei".toList.map (fun c => Value.int (Jvm.Lit.byteI c.toNat.toUInt16)) = [Value.int (116), Value.int (101), Value.int (105)]) ∧ 4 * "tei".toList.length ≤ 12 := by refine ⟨⟨by decide +kernel, by rfl⟩, by decide +kernel⟩
theorem own_lit_9 : ((∀ c ∈ "jats".toList, c.toNat < 256) ∧ "jats".toList.map (fun c => Value.int (Jvm.Lit.byteI c.toNat.toUInt16)) = [Value.int (106), Value.int (97), Value.int (116), Value.int (115)]) ∧ 4 * "jats".toList.length ≤ 16 := by refine ⟨⟨by decide +kernel, by rfl⟩, by decide +kernel⟩
theorem own_lit_10 : ((∀ c ∈ "ead3".toList, c.toNat < 256) ∧ "ead3".toList.map (fun c => Value.int (Jvm.Lit.byteI c.toNat.toUInt16)) = [Value.int (101), Value.int (97), Value.int (100), Value.int (51)]) ∧ 4 * "ead3".toList.length ≤ 16 := by refine ⟨⟨by decide +kernel, by rfl⟩, by decide +kernel⟩
theorem d9_0 : decode method_4_code 0 = .ok (.aload_n 0, 1) := by decide +kernel
theorem d9_1 : decode method_4_code 1 = .ok (.ifnonnull 5, 3) := by decide +kernel
theorem d9_6 : decode method_4_code 6 = .ok (.aload_n 0, 1) := by decide +kernel
theorem d9_7 : decode method_4_code 7 = .ok (.ldc 27, 2) := by decide +kernel
theorem d9_9 : decode method_4_code 9 = .ok (.invokevirtual 29, 3) := by decide +kernel
theorem d9_12 : decode method_4_code 12 = .ok (.ifCond .eq 7, 3) := by decide +kernel
theorem d9_15 : decode method_4_code 15 = .ok (.getstatic 33, 3) := by decide +kernel
theorem d9_18 : decode method_4_code 18 = .ok (.areturn, 1) := by decide +kernel
theorem d9_19 : decode method_4_code 19 = .ok (.aload_n 0, 1) := by decide +kernel
theorem d9_20 : decode method_4_code 20 = .ok (.ldc 37, 2) := by decide +kernel
theorem d9_22 : decode method_4_code 22 = .ok (.invokevirtual 29, 3) := by decide +kernel
theorem d9_25 : decode method_4_code 25 = .ok (.ifCond .eq 7, 3) := by decide +kernel
theorem d9_28 : decode method_4_code 28 = .ok (.getstatic 39, 3) := by decide +kernel
theorem d9_31 : decode method_4_code 31 = .ok (.areturn, 1) := by decide +kernel
theorem d9_32 : decode method_4_code 32 = .ok (.aload_n 0, 1) := by decide +kernel
theorem d9_33 : decode method_4_code 33 = .ok (.ldc 42, 2) := by decide +kernel
theorem d9_35 : decode method_4_code 35 = .ok (.invokevirtual 29, 3) := by decide +kernel
theorem d9_38 : decode method_4_code 38 = .ok (.ifCond .eq 7, 3) := by decide +kernel
theorem d9_41 : decode method_4_code 41 = .ok (.getstatic 44, 3) := by decide +kernel
theorem d9_44 : decode method_4_code 44 = .ok (.areturn, 1) := by decide +kernel
theorem d9_45 : decode method_4_code 45 = .ok (.aconst_null, 1) := by decide +kernel
theorem d9_46 : decode method_4_code 46 = .ok (.areturn, 1) := by decide +kernel
theorem ef_rm9 (m : MethodId) (a0 : Addr) : entryFrame m #[(.ref a0)] 1 = mkF m 0 #[.val (.ref a0)] [] := by first | (simp [entryFrame, mkF, argsToLocals, Value.category]; done) | rfl
def Qrm9 (Z : State) (a0 : Addr) (cs : List Int32) (aT : Addr) (aJ : Addr) (aE : Addr) (zc : Int32) (h0 : Heap) (n0 : Nat) (v : Option Value) (h : Heap) (L : List Loc) : Prop := v = some (own_voc cs aT aJ aE) ∧ Fr n0 L ∧ Keep h0 h []
set_option maxRecDepth 65536 in
set_option maxHeartbeats 40000000 in
theorem rm9 (l : Launch) (Z : State) (aw : Array Value) (hw : ∀ d ∈ tables_1, d.before aw Z = true) (ws : List Jvm.Cond) (a0 : Addr) (cs : List Int32) (aT : Addr) (aJ : Addr) (aE : Addr) (zc : Int32) (h0 : Heap) (n0 : Nat) (Z0 : n0 ≤ h0.size) (S_a : OwnStr Z h0 a0 cs) (S_TEI : Sta Z h0 "org/postline/Vocabulary" "TEI" "Lorg/postline/Vocabulary;" (.ref aT)) (S_JATS : Sta Z h0 "org/postline/Vocabulary" "JATS" "Lorg/postline/Vocabulary;" (.ref aJ)) (S_EAD3 : Sta Z h0 "org/postline/Vocabulary" "EAD3" "Lorg/postline/Vocabulary;" (.ref aE)) (S_COMPACT_STRINGS : Sta Z h0 "java/lang/String" "COMPACT_STRINGS" "Z" (.int zc)) (hzc : ¬ zc = 0) :
    MetFree l (⟨"org/postline/VocabularyWritingPinLaw", "expected", "(Ljava/lang/String;)Lorg/postline/Vocabulary;"⟩ : MethodName) (head1 (Jvm.Cond.code (⟨"org/postline/VocabularyWritingPinLaw", "expected", "(Ljava/lang/String;)Lorg/postline/Vocabulary;"⟩ : MethodName) method_4_code 1 (some (.object "org/postline/Vocabulary")) :: ws) ({ frames := 2, cells := 6, slots := 56, locals := 28 } : Room)) (fun a U => a = #[(.ref a0)] ∧ Z.Warmed39 U.vm ∧ U.heap = h0 ∧ CHv Z consts_1 U.vm h0 ∧ ∀ x ∈ ([] : List Addr), Safe Z consts_1 U.vm h0 x) (fun _ _ _ _ _ => True) (fun _ U o U' => ∃ v L, o = .returned v ∧ Qrm9 Z a0 cs aT aJ aE zc h0 n0 v U'.heap L ∧ CHr Z consts_1 U.vm U.heap U'.vm U'.heap ∧ ReturnedEndW U o U' L ({ frames := 2, cells := 6, slots := 56, locals := 28 } : Room).cells ({ frames := 2, cells := 6, slots := 56, locals := 28 } : Room).slots) := by
  refine MetFree.of_bodySF (plainFor_of_name pn_4) hisR ?_
  intro p e s m args below meth c s₁ Bd hml0 hP hK
  obtain ⟨rfl, hZ, hh, hC0, hSf⟩ := hP
  have hx := Bd.exec
  have hby := Bd.bytes
  have hml : c.maxLocals = 1 := hml0
  have hown : s.vm.findClass "org/postline/VocabularyWritingPinLaw" = some m.cls := findClass_of_methodNamed Bd.named
  have hnm := (name_of_methodNamed Bd.named Bd.method).1
  have X0 : Stand p l e ({ frames := 2, cells := 6, slots := 56, locals := 28 } : Room) s m #[(.ref a0)] below meth c s₁ [] 0 0 := Stand.of_body Bd
  have e0 : s₁.heap = h0 := by rw [← hh, Bd.state]; rfl
  have N0 := Fr.nil n0
  have hlk := Bd.notSynchronized
  show OwnGo p.tables e below _ (s₁.setTop (entryFrame m #[(.ref a0)] 1))
  rw [ef_rm9 m a0]
  have B0 := OwnB.start s h0
  have C0 := CHr.refl hC0
  have K0 : Keep h0 h0 [] := Keep.refl _ _
  obtain ⟨t_a, kb_a, cd_a, N_a, vs_a, E_a, V_a, C_a, K_a, cod_a, up_a, ln_a⟩ := S_a
  show OwnGo p.tables e below _ (s₁.setTop (mkF m 0 #[.val (.ref a0)] []))
  refine OwnGo.of (A := s₁.setTop (mkF m 0 #[.val (.ref a0)] [])) (B := s₁.setTop (mkF m 7 #[.val (.ref a0)] [(.ref a0)])) (fun t k => ?_) ?_
  · show Steps p.tables e below (s₁.setTop (mkF m 0 #[.val (.ref a0)] [])) t
    refine XS.aloadN X0.here hx rfl (hb hby d9_0) rfl rfl ?_
    refine XS.ifnonnullYes X0.here hx rfl (pc0 := 1) (pc' := 6) rfl (hb hby d9_1) rfl (by decide) (by decide) ?_
    refine XS.aloadN X0.here hx rfl (hb hby d9_6) rfl rfl ?_
    exact k
  obtain ⟨s1, b1, T1, h1, t1, k1, X1, e1, E1, B1, hZ, hown, A1, Fc1, Fv1, Vl1, cs1, ne1, st1⟩ := own_ldc (s := s) X0 hx hZ hown (hw _ (List.mem_of_getElem? (i := 64) rfl)) (own_wS hw) e0 B0 (own_EW hw) (List.mem_of_getElem? (i := 1) rfl) C0.1 own_lit_8.1 (z := (3 : Int32)) (by decide) rfl (g := (mkF m 7 #[.val (.ref a0)] [(.ref a0)])) rfl (hb hby d9_7) (n := 12) own_lit_8.2 (by decide) (by decide) (by decide)
  refine OwnGo.of st1 ?_
  have f2 : n0 ≤ h1.size := Nat.le_trans Z0 E1.1
  have f3 : CHr Z consts_1 s.vm h0 s1.vm h1 := C0.trans cs1
  have f4 : Keep h0 h1 [] := K0.ext E1
  have f5 : Sta Z h1 "org/postline/Vocabulary" "TEI" "Lorg/postline/Vocabulary;" (.ref aT) := S_TEI.ext E1
  have f6 : Sta Z h1 "org/postline/Vocabulary" "JATS" "Lorg/postline/Vocabulary;" (.ref aJ) := S_JATS.ext E1
  have f7 : Sta Z h1 "org/postline/Vocabulary" "EAD3" "Lorg/postline/Vocabulary;" (.ref aE) := S_EAD3.ext E1
  have f8 : Exa Z h1 a0 "java/lang/String" := E_a.ext E1
  have f9 : Fld Z h1 a0 "java/lang/String" "coder" "B" (.int cd_a) := C_a.ext E1
  have f10 : Fld Z h1 a0 "java/lang/String" "value" "[B" (.ref t_a) := V_a.ext E1
  have f11 : Arv Z h1 t_a kb_a .byte N_a vs_a (.int (0 : Int32)) := K_a.ext E1
  have f12 : Sta Z h1 "java/lang/String" "COMPACT_STRINGS" "Z" (.int zc) := S_COMPACT_STRINGS.ext E1
  show OwnGo p.tables e below _ (T1.setTop (mkF m 9 #[.val (.ref a0)] [(.ref b1), (.ref a0)]))
  obtain ⟨cq13, kq13, q13a, q13b, q13c⟩ := isOf hZ e1 f8
  obtain ⟨T13, L13, v13, X13, hQ13, st13⟩ := own_callV (Q := fun v H L => ((v = some (.int 1) ∧ cs = own_tei) ∨ (v = some (.int 0) ∧ ¬ cs = own_tei)) ∧ L = [] ∧ H = h1) (rc := 0) (rs := 0) X1 hx (y := (⟨"java/lang/String", "equals", "(Ljava/lang/Object;)Z"⟩ : MethodName)) (z := (⟨"java/lang/String", "equals", "(Ljava/lang/Object;)Z"⟩ : MethodName)) hown (mvT hZ (hw _ (List.mem_of_getElem? (i := 65) rfl))) (mvT hZ (hw _ (List.mem_of_getElem? (i := 51) rfl))) (notFace_of_selects (args := #[]) (mvT hZ (hw _ (List.mem_of_getElem? (i := 53) rfl)))) (mvT hZ (hw _ (List.mem_of_getElem? (i := 53) rfl))) (mvT hZ (hw _ (List.mem_of_getElem? (i := 52) rfl))) (by decide) (StrChars.Road.eqW (W := 0) hZ (own_wE hw) (kI := 4) (hw _ (List.mem_of_getElem? (i := 6) rfl)) f8 f10 f9 f11 cod_a up_a ln_a A1 Fv1 Fc1 Vl1 own_tei_cod own_tei_up (by decide) f12 hzc (by decide) (by decide)) q13a q13c (g := (mkF m 9 #[.val (.ref a0)] [(.ref b1), (.ref a0)])) rfl (by rw [hml]; rfl) (argsL := [(.ref b1)]) (rest := []) (lenOf pd_7 rfl) rfl (by show 2 * 0 + _ ≤ _; exact Nat.le_of_eq rfl) (hb hby d9_9) rfl e1 (by decide) (by decide)
  obtain ⟨hcase13, rfl, eq13⟩ := hQ13
  have hv13 := own_case hcase13
  subst hv13
  have N13q : Fr n0 ([] : List Loc) := Fr.nil n0
  have N13 := Fr.app N0 N13q
  refine OwnGo.of st13 ?_
  show OwnGo p.tables e below _ (T13.setTop (mkF m 12 #[.val (.ref a0)] [(.int (if cs = own_tei then (1 : Int32) else (0 : Int32)))]))
  by_cases hc14 : (if cs = own_tei then (1 : Int32) else (0 : Int32)) = (0 : Int32)
  · have qe15 := own_c0 hc14
    refine OwnGo.of (A := T13.setTop (mkF m 12 #[.val (.ref a0)] [(.int (if cs = own_tei then (1 : Int32) else (0 : Int32)))])) (B := T13.setTop (mkF m 20 #[.val (.ref a0)] [(.ref a0)])) (fun t k => ?_) ?_
    · show Steps p.tables e below (T13.setTop (mkF m 12 #[.val (.ref a0)] [(.int (if cs = own_tei then (1 : Int32) else (0 : Int32)))])) t
      refine XS.ifYes X13.here hx rfl (pc0 := 12) (pc' := 19) rfl (hb hby d9_12) rfl ((if0 _ _).trans (teq hc14).1) (by decide) (by decide) ?_
      refine XS.aloadN X13.here hx rfl (hb hby d9_19) rfl rfl ?_
      exact k
    obtain ⟨s16, b16, T16, h16, t16, k16, X16, e16, E16, B16, hZ, hown, A16, Fc16, Fv16, Vl16, cs16, ne16, st16⟩ := own_ldc (s := s) X13 hx hZ hown (hw _ (List.mem_of_getElem? (i := 66) rfl)) (own_wS hw) eq13 B1 (own_EW hw) (List.mem_of_getElem? (i := 2) rfl) f3.1 own_lit_9.1 (z := (4 : Int32)) (by decide) rfl (g := (mkF m 20 #[.val (.ref a0)] [(.ref a0)])) rfl (hb hby d9_20) (n := 16) own_lit_9.2 (by decide) (by decide) (by decide)
    refine OwnGo.of st16 ?_
    have f17 : n0 ≤ h16.size := Nat.le_trans f2 E16.1
    have f18 : CHr Z consts_1 s.vm h0 s16.vm h16 := f3.trans cs16
    have f19 : Keep h0 h16 [] := f4.ext E16
    have f20 : Sta Z h16 "org/postline/Vocabulary" "TEI" "Lorg/postline/Vocabulary;" (.ref aT) := f5.ext E16
    have f21 : Sta Z h16 "org/postline/Vocabulary" "JATS" "Lorg/postline/Vocabulary;" (.ref aJ) := f6.ext E16
    have f22 : Sta Z h16 "org/postline/Vocabulary" "EAD3" "Lorg/postline/Vocabulary;" (.ref aE) := f7.ext E16
    have f23 : Exa Z h16 a0 "java/lang/String" := f8.ext E16
    have f24 : Fld Z h16 a0 "java/lang/String" "coder" "B" (.int cd_a) := f9.ext E16
    have f25 : Fld Z h16 a0 "java/lang/String" "value" "[B" (.ref t_a) := f10.ext E16
    have f26 : Arv Z h16 t_a kb_a .byte N_a vs_a (.int (0 : Int32)) := f11.ext E16
    have f27 : Sta Z h16 "java/lang/String" "COMPACT_STRINGS" "Z" (.int zc) := f12.ext E16
    have f28 : Exa Z h16 b1 "java/lang/String" := A1.ext E16
    have f29 : Fld Z h16 b1 "java/lang/String" "coder" "B" (.int (0 : Int32)) := Fc1.ext E16
    have f30 : Fld Z h16 b1 "java/lang/String" "value" "[B" (.ref t1) := Fv1.ext E16
    have f31 : Arv Z h16 t1 k1 .byte (3 : Int32) [(.int (116 : Int32)), (.int (101 : Int32)), (.int (105 : Int32))] (.int (0 : Int32)) := Vl1.ext E16
    show OwnGo p.tables e below _ (T16.setTop (mkF m 22 #[.val (.ref a0)] [(.ref b16), (.ref a0)]))
    obtain ⟨cq32, kq32, q32a, q32b, q32c⟩ := isOf hZ e16 f23
    obtain ⟨T32, L32, v32, X32, hQ32, st32⟩ := own_callV (Q := fun v H L => ((v = some (.int 1) ∧ cs = own_jats) ∨ (v = some (.int 0) ∧ ¬ cs = own_jats)) ∧ L = [] ∧ H = h16) (rc := 0) (rs := 0) X16 hx (y := (⟨"java/lang/String", "equals", "(Ljava/lang/Object;)Z"⟩ : MethodName)) (z := (⟨"java/lang/String", "equals", "(Ljava/lang/Object;)Z"⟩ : MethodName)) hown (mvT hZ (hw _ (List.mem_of_getElem? (i := 65) rfl))) (mvT hZ (hw _ (List.mem_of_getElem? (i := 51) rfl))) (notFace_of_selects (args := #[]) (mvT hZ (hw _ (List.mem_of_getElem? (i := 53) rfl)))) (mvT hZ (hw _ (List.mem_of_getElem? (i := 53) rfl))) (mvT hZ (hw _ (List.mem_of_getElem? (i := 52) rfl))) (by decide) (StrChars.Road.eqW (W := 0) hZ (own_wE hw) (kI := 4) (hw _ (List.mem_of_getElem? (i := 6) rfl)) f23 f25 f24 f26 cod_a up_a ln_a A16 Fv16 Fc16 Vl16 own_jats_cod own_jats_up (by decide) f27 hzc (by decide) (by decide)) q32a q32c (g := (mkF m 22 #[.val (.ref a0)] [(.ref b16), (.ref a0)])) rfl (by rw [hml]; rfl) (argsL := [(.ref b16)]) (rest := []) (lenOf pd_7 rfl) rfl (by show 2 * 0 + _ ≤ _; exact Nat.le_of_eq rfl) (hb hby d9_22) rfl e16 (by decide) (by decide)
    obtain ⟨hcase32, rfl, eq32⟩ := hQ32
    have hv32 := own_case hcase32
    subst hv32
    have N32q : Fr n0 ([] : List Loc) := Fr.nil n0
    have N32 := Fr.app N13 N32q
    refine OwnGo.of st32 ?_
    show OwnGo p.tables e below _ (T32.setTop (mkF m 25 #[.val (.ref a0)] [(.int (if cs = own_jats then (1 : Int32) else (0 : Int32)))]))
    by_cases hc33 : (if cs = own_jats then (1 : Int32) else (0 : Int32)) = (0 : Int32)
    · have qe34 := own_c0 hc33
      refine OwnGo.of (A := T32.setTop (mkF m 25 #[.val (.ref a0)] [(.int (if cs = own_jats then (1 : Int32) else (0 : Int32)))])) (B := T32.setTop (mkF m 33 #[.val (.ref a0)] [(.ref a0)])) (fun t k => ?_) ?_
      · show Steps p.tables e below (T32.setTop (mkF m 25 #[.val (.ref a0)] [(.int (if cs = own_jats then (1 : Int32) else (0 : Int32)))])) t
        refine XS.ifYes X32.here hx rfl (pc0 := 25) (pc' := 32) rfl (hb hby d9_25) rfl ((if0 _ _).trans (teq hc33).1) (by decide) (by decide) ?_
        refine XS.aloadN X32.here hx rfl (hb hby d9_32) rfl rfl ?_
        exact k
      obtain ⟨s35, b35, T35, h35, t35, k35, X35, e35, E35, B35, hZ, hown, A35, Fc35, Fv35, Vl35, cs35, ne35, st35⟩ := own_ldc (s := s) X32 hx hZ hown (hw _ (List.mem_of_getElem? (i := 67) rfl)) (own_wS hw) eq32 B16 (own_EW hw) (List.mem_of_getElem? (i := 3) rfl) f18.1 own_lit_10.1 (z := (4 : Int32)) (by decide) rfl (g := (mkF m 33 #[.val (.ref a0)] [(.ref a0)])) rfl (hb hby d9_33) (n := 16) own_lit_10.2 (by decide) (by decide) (by decide)
      refine OwnGo.of st35 ?_
      have f36 : n0 ≤ h35.size := Nat.le_trans f17 E35.1
      have f37 : CHr Z consts_1 s.vm h0 s35.vm h35 := f18.trans cs35
      have f38 : Keep h0 h35 [] := f19.ext E35
      have f39 : Sta Z h35 "org/postline/Vocabulary" "TEI" "Lorg/postline/Vocabulary;" (.ref aT) := f20.ext E35
      have f40 : Sta Z h35 "org/postline/Vocabulary" "JATS" "Lorg/postline/Vocabulary;" (.ref aJ) := f21.ext E35
      have f41 : Sta Z h35 "org/postline/Vocabulary" "EAD3" "Lorg/postline/Vocabulary;" (.ref aE) := f22.ext E35
      have f42 : Exa Z h35 a0 "java/lang/String" := f23.ext E35
      have f43 : Fld Z h35 a0 "java/lang/String" "coder" "B" (.int cd_a) := f24.ext E35
      have f44 : Fld Z h35 a0 "java/lang/String" "value" "[B" (.ref t_a) := f25.ext E35
      have f45 : Arv Z h35 t_a kb_a .byte N_a vs_a (.int (0 : Int32)) := f26.ext E35
      have f46 : Sta Z h35 "java/lang/String" "COMPACT_STRINGS" "Z" (.int zc) := f27.ext E35
      have f47 : Exa Z h35 b1 "java/lang/String" := f28.ext E35
      have f48 : Fld Z h35 b1 "java/lang/String" "coder" "B" (.int (0 : Int32)) := f29.ext E35
      have f49 : Fld Z h35 b1 "java/lang/String" "value" "[B" (.ref t1) := f30.ext E35
      have f50 : Arv Z h35 t1 k1 .byte (3 : Int32) [(.int (116 : Int32)), (.int (101 : Int32)), (.int (105 : Int32))] (.int (0 : Int32)) := f31.ext E35
      have f51 : Exa Z h35 b16 "java/lang/String" := A16.ext E35
      have f52 : Fld Z h35 b16 "java/lang/String" "coder" "B" (.int (0 : Int32)) := Fc16.ext E35
      have f53 : Fld Z h35 b16 "java/lang/String" "value" "[B" (.ref t16) := Fv16.ext E35
      have f54 : Arv Z h35 t16 k16 .byte (4 : Int32) [(.int (106 : Int32)), (.int (97 : Int32)), (.int (116 : Int32)), (.int (115 : Int32))] (.int (0 : Int32)) := Vl16.ext E35
      show OwnGo p.tables e below _ (T35.setTop (mkF m 35 #[.val (.ref a0)] [(.ref b35), (.ref a0)]))
      obtain ⟨cq55, kq55, q55a, q55b, q55c⟩ := isOf hZ e35 f42
      obtain ⟨T55, L55, v55, X55, hQ55, st55⟩ := own_callV (Q := fun v H L => ((v = some (.int 1) ∧ cs = own_ead3) ∨ (v = some (.int 0) ∧ ¬ cs = own_ead3)) ∧ L = [] ∧ H = h35) (rc := 0) (rs := 0) X35 hx (y := (⟨"java/lang/String", "equals", "(Ljava/lang/Object;)Z"⟩ : MethodName)) (z := (⟨"java/lang/String", "equals", "(Ljava/lang/Object;)Z"⟩ : MethodName)) hown (mvT hZ (hw _ (List.mem_of_getElem? (i := 65) rfl))) (mvT hZ (hw _ (List.mem_of_getElem? (i := 51) rfl))) (notFace_of_selects (args := #[]) (mvT hZ (hw _ (List.mem_of_getElem? (i := 53) rfl)))) (mvT hZ (hw _ (List.mem_of_getElem? (i := 53) rfl))) (mvT hZ (hw _ (List.mem_of_getElem? (i := 52) rfl))) (by decide) (StrChars.Road.eqW (W := 0) hZ (own_wE hw) (kI := 4) (hw _ (List.mem_of_getElem? (i := 6) rfl)) f42 f44 f43 f45 cod_a up_a ln_a A35 Fv35 Fc35 Vl35 own_ead3_cod own_ead3_up (by decide) f46 hzc (by decide) (by decide)) q55a q55c (g := (mkF m 35 #[.val (.ref a0)] [(.ref b35), (.ref a0)])) rfl (by rw [hml]; rfl) (argsL := [(.ref b35)]) (rest := []) (lenOf pd_7 rfl) rfl (by show 2 * 0 + _ ≤ _; exact Nat.le_of_eq rfl) (hb hby d9_35) rfl e35 (by decide) (by decide)
      obtain ⟨hcase55, rfl, eq55⟩ := hQ55
      have hv55 := own_case hcase55
      subst hv55
      have N55q : Fr n0 ([] : List Loc) := Fr.nil n0
      have N55 := Fr.app N32 N55q
      refine OwnGo.of st55 ?_
      show OwnGo p.tables e below _ (T55.setTop (mkF m 38 #[.val (.ref a0)] [(.int (if cs = own_ead3 then (1 : Int32) else (0 : Int32)))]))
      by_cases hc56 : (if cs = own_ead3 then (1 : Int32) else (0 : Int32)) = (0 : Int32)
      · have qe57 := own_c0 hc56
        refine OwnGo.of (A := T55.setTop (mkF m 38 #[.val (.ref a0)] [(.int (if cs = own_ead3 then (1 : Int32) else (0 : Int32)))])) (B := T55.setTop (mkF m 46 #[.val (.ref a0)] [.null])) (fun t k => ?_) ?_
        · show Steps p.tables e below (T55.setTop (mkF m 38 #[.val (.ref a0)] [(.int (if cs = own_ead3 then (1 : Int32) else (0 : Int32)))])) t
          refine XS.ifYes X55.here hx rfl (pc0 := 38) (pc' := 45) rfl (hb hby d9_38) rfl ((if0 _ _).trans (teq hc56).1) (by decide) (by decide) ?_
          refine XS.aconstNull X55.here hx rfl (hb hby d9_45) ?_
          exact k
        obtain ⟨fs, hr, hrun, hended, hRW⟩ := own_leaveW X55 B35 eq55 (v := some .null) (fun h => by rw [Bd.returns] at h; cases h) hlk
        refine ⟨_, _, ?_, hrun, hended, _, _, rfl, ?_, own_endW X55 hZ (own_EW hw) eq55 hh f37 fs, own_monoW hRW (by decide) (by decide)⟩
        · show Steps p.tables e below (T55.setTop (mkF m 46 #[.val (.ref a0)] [.null])) _
          exact own_retA X55 hx Bd.returns rfl rfl rfl (hb hby d9_46) hr
        · show Qrm9 Z a0 cs aT aJ aE zc h0 n0 _ (T55.setFrames fs).heap _
          rw [show (T55.setFrames fs).heap = h35 from eq55]
          exact ⟨by rw [own_voc, if_neg (fun e => qe15 e.symm), if_neg (fun e => qe34 e.symm), if_neg (fun e => qe57 e.symm)], N55, f38⟩
      · have qe58 := own_c1 hc56
        refine OwnGo.of (A := T55.setTop (mkF m 38 #[.val (.ref a0)] [(.int (if cs = own_ead3 then (1 : Int32) else (0 : Int32)))])) (B := T55.setTop (mkF m 41 #[.val (.ref a0)] [])) (fun t k => ?_) ?_
        · show Steps p.tables e below (T55.setTop (mkF m 38 #[.val (.ref a0)] [(.int (if cs = own_ead3 then (1 : Int32) else (0 : Int32)))])) t
          refine XS.ifNo X55.here hx rfl (hb hby d9_38) rfl ((if0 _ _).trans (feq hc56).1) ?_
          exact k
        obtain ⟨T59, X59, e59, st59⟩ := getS2 X55 hx hZ hown (host := "") (Or.inl (hw _ (List.mem_of_getElem? (i := 79) rfl))) Via.refl eq55 f41 (g := (mkF m 41 #[.val (.ref a0)] [])) rfl (hb hby d9_41)
        refine OwnGo.of st59 ?_
        show OwnGo p.tables e below _ (T59.setTop (mkF m 44 #[.val (.ref a0)] [(.ref aE)]))
        obtain ⟨fs, hr, hrun, hended, hRW⟩ := own_leaveW X59 B35 e59 (v := some (.ref aE)) (fun h => by rw [Bd.returns] at h; cases h) hlk
        refine ⟨_, _, ?_, hrun, hended, _, _, rfl, ?_, own_endW X59 hZ (own_EW hw) e59 hh f37 fs, own_monoW hRW (by decide) (by decide)⟩
        · show Steps p.tables e below (T59.setTop (mkF m 44 #[.val (.ref a0)] [(.ref aE)])) _
          exact own_retA X59 hx Bd.returns rfl rfl rfl (hb hby d9_44) hr
        · show Qrm9 Z a0 cs aT aJ aE zc h0 n0 _ (T59.setFrames fs).heap _
          rw [show (T59.setFrames fs).heap = h35 from e59]
          exact ⟨by rw [own_voc, if_neg (fun e => qe15 e.symm), if_neg (fun e => qe34 e.symm), if_pos qe58.symm], N55, f38⟩
    · have qe60 := own_c1 hc33
      refine OwnGo.of (A := T32.setTop (mkF m 25 #[.val (.ref a0)] [(.int (if cs = own_jats then (1 : Int32) else (0 : Int32)))])) (B := T32.setTop (mkF m 28 #[.val (.ref a0)] [])) (fun t k => ?_) ?_
      · show Steps p.tables e below (T32.setTop (mkF m 25 #[.val (.ref a0)] [(.int (if cs = own_jats then (1 : Int32) else (0 : Int32)))])) t
        refine XS.ifNo X32.here hx rfl (hb hby d9_25) rfl ((if0 _ _).trans (feq hc33).1) ?_
        exact k
      obtain ⟨T61, X61, e61, st61⟩ := getS2 X32 hx hZ hown (host := "") (Or.inl (hw _ (List.mem_of_getElem? (i := 80) rfl))) Via.refl eq32 f21 (g := (mkF m 28 #[.val (.ref a0)] [])) rfl (hb hby d9_28)
      refine OwnGo.of st61 ?_
      show OwnGo p.tables e below _ (T61.setTop (mkF m 31 #[.val (.ref a0)] [(.ref aJ)]))
      obtain ⟨fs, hr, hrun, hended, hRW⟩ := own_leaveW X61 B16 e61 (v := some (.ref aJ)) (fun h => by rw [Bd.returns] at h; cases h) hlk
      refine ⟨_, _, ?_, hrun, hended, _, _, rfl, ?_, own_endW X61 hZ (own_EW hw) e61 hh f18 fs, own_monoW hRW (by decide) (by decide)⟩
      · show Steps p.tables e below (T61.setTop (mkF m 31 #[.val (.ref a0)] [(.ref aJ)])) _
        exact own_retA X61 hx Bd.returns rfl rfl rfl (hb hby d9_31) hr
      · show Qrm9 Z a0 cs aT aJ aE zc h0 n0 _ (T61.setFrames fs).heap _
        rw [show (T61.setFrames fs).heap = h16 from e61]
        exact ⟨by rw [own_voc, if_neg (fun e => qe15 e.symm), if_pos qe60.symm], N32, f19⟩
  · have qe62 := own_c1 hc14
    refine OwnGo.of (A := T13.setTop (mkF m 12 #[.val (.ref a0)] [(.int (if cs = own_tei then (1 : Int32) else (0 : Int32)))])) (B := T13.setTop (mkF m 15 #[.val (.ref a0)] [])) (fun t k => ?_) ?_
    · show Steps p.tables e below (T13.setTop (mkF m 12 #[.val (.ref a0)] [(.int (if cs = own_tei then (1 : Int32) else (0 : Int32)))])) t
      refine XS.ifNo X13.here hx rfl (hb hby d9_12) rfl ((if0 _ _).trans (feq hc14).1) ?_
      exact k
    obtain ⟨T63, X63, e63, st63⟩ := getS2 X13 hx hZ hown (host := "") (Or.inl (hw _ (List.mem_of_getElem? (i := 78) rfl))) Via.refl eq13 f5 (g := (mkF m 15 #[.val (.ref a0)] [])) rfl (hb hby d9_15)
    refine OwnGo.of st63 ?_
    show OwnGo p.tables e below _ (T63.setTop (mkF m 18 #[.val (.ref a0)] [(.ref aT)]))
    obtain ⟨fs, hr, hrun, hended, hRW⟩ := own_leaveW X63 B1 e63 (v := some (.ref aT)) (fun h => by rw [Bd.returns] at h; cases h) hlk
    refine ⟨_, _, ?_, hrun, hended, _, _, rfl, ?_, own_endW X63 hZ (own_EW hw) e63 hh f3 fs, own_monoW hRW (by decide) (by decide)⟩
    · show Steps p.tables e below (T63.setTop (mkF m 18 #[.val (.ref a0)] [(.ref aT)])) _
      exact own_retA X63 hx Bd.returns rfl rfl rfl (hb hby d9_18) hr
    · show Qrm9 Z a0 cs aT aJ aE zc h0 n0 _ (T63.setFrames fs).heap _
      rw [show (T63.setFrames fs).heap = h1 from e63]
      exact ⟨by rw [own_voc, if_pos qe62.symm], N13, f4⟩
theorem d9_4 : decode method_4_code 4 = .ok (.aconst_null, 1) := by decide +kernel
theorem d9_5 : decode method_4_code 5 = .ok (.areturn, 1) := by decide +kernel
theorem ef_rm9n (m : MethodId)  : entryFrame m #[.null] 1 = mkF m 0 #[.val .null] [] := by first | (simp [entryFrame, mkF, argsToLocals, Value.category]; done) | rfl
def Qrm9n (Z : State)  (h0 : Heap) (n0 : Nat) (v : Option Value) (h : Heap) (L : List Loc) : Prop := v = some Value.null ∧ Fr n0 L ∧ h = h0
set_option maxRecDepth 65536 in
set_option maxHeartbeats 40000000 in
theorem rm9n (l : Launch) (Z : State) (aw : Array Value) (hw : ∀ d ∈ tables_1, d.before aw Z = true) (ws : List Jvm.Cond)  (h0 : Heap) (n0 : Nat) (Z0 : n0 ≤ h0.size) :
    MetFree l (⟨"org/postline/VocabularyWritingPinLaw", "expected", "(Ljava/lang/String;)Lorg/postline/Vocabulary;"⟩ : MethodName) (head1 (Jvm.Cond.code (⟨"org/postline/VocabularyWritingPinLaw", "expected", "(Ljava/lang/String;)Lorg/postline/Vocabulary;"⟩ : MethodName) method_4_code 1 (some (.object "org/postline/Vocabulary")) :: ws) ({ frames := 0, cells := 0, slots := 0, locals := 0 } : Room)) (fun a U => a = #[.null] ∧ Z.Warmed39 U.vm ∧ U.heap = h0) (fun _ _ _ _ _ => True) (fun _ U o U' => ∃ v L, o = .returned v ∧ Qrm9n Z  h0 n0 v U'.heap L ∧ FrameEnd U o U' L ({ frames := 0, cells := 0, slots := 0, locals := 0 } : Room).cells ({ frames := 0, cells := 0, slots := 0, locals := 0 } : Room).slots) := by
  refine MetFree.of_bodySF (plainFor_of_name pn_4) hisR ?_
  intro p e s m args below meth c s₁ Bd hml0 hP hK
  obtain ⟨rfl, hZ, hh⟩ := hP
  have hx := Bd.exec
  have hby := Bd.bytes
  have hml : c.maxLocals = 1 := hml0
  have hown : s.vm.findClass "org/postline/VocabularyWritingPinLaw" = some m.cls := findClass_of_methodNamed Bd.named
  have hnm := (name_of_methodNamed Bd.named Bd.method).1
  have X0 : Stand p l e ({ frames := 0, cells := 0, slots := 0, locals := 0 } : Room) s m #[.null] below meth c s₁ [] 0 0 := Stand.of_body Bd
  have e0 : s₁.heap = h0 := by rw [← hh, Bd.state]; rfl
  have N0 := Fr.nil n0
  have hlk := Bd.notSynchronized
  show OwnGo p.tables e below _ (s₁.setTop (entryFrame m #[.null] 1))
  rw [ef_rm9n m ]
  show OwnGo p.tables e below _ (s₁.setTop (mkF m 0 #[.val .null] []))
  refine OwnGo.of (A := s₁.setTop (mkF m 0 #[.val .null] [])) (B := s₁.setTop (mkF m 5 #[.val .null] [.null])) (fun t k => ?_) ?_
  · show Steps p.tables e below (s₁.setTop (mkF m 0 #[.val .null] [])) t
    refine XS.aloadN X0.here hx rfl (hb hby d9_0) rfl rfl ?_
    refine XS.ifnonnullNo X0.here hx rfl (hb hby d9_1) rfl ?_
    refine XS.aconstNull X0.here hx rfl (hb hby d9_4) ?_
    exact k
  obtain ⟨fs, hr, hrun, hended, hW, hsame⟩ := X0.leave (v := some .null) (fun h => by rw [Bd.returns] at h; cases h) hlk
  refine ⟨_, _, ?_, hrun, hended, _, _, rfl, ?_, ⟨_, rfl⟩, hW, hsame.mono (by decide) (by decide)⟩
  · show Steps p.tables e below (s₁.setTop (mkF m 5 #[.val .null] [.null])) _
    exact own_retA X0 hx Bd.returns rfl rfl rfl (hb hby d9_5) hr
  · show Qrm9n Z  h0 n0 _ (s₁.setFrames fs).heap _
    rw [show (s₁.setFrames fs).heap = h0 from e0]
    exact ⟨rfl, N0, rfl⟩

theorem own_ix (x : Int32) : (x &&& (7 : Int32)) % (5 : Int32) = 0 ∨ (x &&& (7 : Int32)) % (5 : Int32) = 1 ∨ (x &&& (7 : Int32)) % (5 : Int32) = 2 ∨ (x &&& (7 : Int32)) % (5 : Int32) = 3 ∨ (x &&& (7 : Int32)) % (5 : Int32) = 4 := by
  have h1 := c_mask x 7 3 (by decide) (by decide)
  have h2 := (c_irem (x &&& 7) 5 5 (by decide)).1
  have : ((x &&& (7 : Int32)) % (5 : Int32)).toInt = 0 ∨ ((x &&& (7 : Int32)) % (5 : Int32)).toInt = 1 ∨ ((x &&& (7 : Int32)) % (5 : Int32)).toInt = 2 ∨ ((x &&& (7 : Int32)) % (5 : Int32)).toInt = 3 ∨ ((x &&& (7 : Int32)) % (5 : Int32)).toInt = 4 := by omega
  rcases this with z | z | z | z | z
  · exact Or.inl (Int32.toInt_inj.mp (z.trans (by decide)))
  · exact Or.inr (Or.inl (Int32.toInt_inj.mp (z.trans (by decide))))
  · exact Or.inr (Or.inr (Or.inl (Int32.toInt_inj.mp (z.trans (by decide)))))
  · exact Or.inr (Or.inr (Or.inr (Or.inl (Int32.toInt_inj.mp (z.trans (by decide))))))
  · exact Or.inr (Or.inr (Or.inr (Or.inr (Int32.toInt_inj.mp (z.trans (by decide))))))

theorem pd_11 : parseMethodDescriptor "(Ljava/lang/String;)Lorg/postline/Vocabulary;" = some ⟨[(.object "java/lang/String")], some (.object "org/postline/Vocabulary")⟩ := by decide +kernel
theorem pd_12 : parseMethodDescriptor "([CI)Ljava/lang/String;" = some ⟨[(.array .char), .int], some (.object "java/lang/String")⟩ := by decide +kernel
theorem ef_rm0 (m : MethodId) (p0 : Int32) (p1 : Int32) (p2 : Int32) (p3 : Int32) (p4 : Int32) (p5 : Int32) : entryFrame m #[(.int p0), (.int p1), (.int p2), (.int p3), (.int p4), (.int p5)] maxLocals = mkF m 0 #[.val (.int p0), .val (.int p1), .val (.int p2), .val (.int p3), .val (.int p4), .val (.int p5), .unset, .unset, .unset, .unset, .unset, .unset, .unset, .unset, .unset, .unset] [] := by first | (simp [entryFrame, mkF, argsToLocals, Value.category, maxLocals]; done) | rfl
def Qrm0 (Z : State) (p0 : Int32) (p1 : Int32) (p2 : Int32) (p3 : Int32) (p4 : Int32) (p5 : Int32) (wV : Addr) (kV : ClassId) (aT : Addr) (aJ : Addr) (aE : Addr) (lT : Addr) (lJ : Addr) (lE : Addr) (zc : Int32) (h0 : Heap) (n0 : Nat) (v : Option Value) (h : Heap) (L : List Loc) : Prop := v = some (.int 1) ∧ Fr n0 L
set_option maxRecDepth 65536 in
set_option maxHeartbeats 40000000 in
theorem rm0 (l : Launch) (Z : State) (aw : Array Value) (hw : ∀ d ∈ tables_1, d.before aw Z = true) (ws : List Jvm.Cond) (p0 : Int32) (p1 : Int32) (p2 : Int32) (p3 : Int32) (p4 : Int32) (p5 : Int32) (wV : Addr) (kV : ClassId) (aT : Addr) (aJ : Addr) (aE : Addr) (lT : Addr) (lJ : Addr) (lE : Addr) (zc : Int32) (h0 : Heap) (n0 : Nat) (Z0 : n0 ≤ h0.size) (S__VALUES : Sta Z h0 "org/postline/Vocabulary" "$VALUES" "[Lorg/postline/Vocabulary;" (.ref wV)) (V_v : Arv Z h0 wV kV (.object "org/postline/Vocabulary") (3 : Int32) [(.ref aT), (.ref aJ), (.ref aE)] .null) (E_v : Exa Z h0 wV "[Lorg/postline/Vocabulary;") (S_TEI : Sta Z h0 "org/postline/Vocabulary" "TEI" "Lorg/postline/Vocabulary;" (.ref aT)) (S_JATS : Sta Z h0 "org/postline/Vocabulary" "JATS" "Lorg/postline/Vocabulary;" (.ref aJ)) (S_EAD3 : Sta Z h0 "org/postline/Vocabulary" "EAD3" "Lorg/postline/Vocabulary;" (.ref aE)) (F_aT : Fld Z h0 aT "org/postline/Vocabulary" "label" "Ljava/lang/String;" (.ref lT)) (S_lT : OwnStr Z h0 lT own_tei) (F_aJ : Fld Z h0 aJ "org/postline/Vocabulary" "label" "Ljava/lang/String;" (.ref lJ)) (S_lJ : OwnStr Z h0 lJ own_jats) (F_aE : Fld Z h0 aE "org/postline/Vocabulary" "label" "Ljava/lang/String;" (.ref lE)) (S_lE : OwnStr Z h0 lE own_ead3) (S_COMPACT_STRINGS : Sta Z h0 "java/lang/String" "COMPACT_STRINGS" "Z" (.int zc)) (hzc : ¬ zc = 0) :
    MetFree l x (head1 (Jvm.Cond.code x code maxLocals ret :: ws) room_1) (fun a U => a = #[(.int p0), (.int p1), (.int p2), (.int p3), (.int p4), (.int p5)] ∧ Z.Warmed39 U.vm ∧ U.heap = h0 ∧ CHv Z consts_1 U.vm h0 ∧ ∀ x ∈ ([] : List Addr), Safe Z consts_1 U.vm h0 x) (fun _ _ _ _ _ => True) (fun _ U o U' => ∃ v L, o = .returned v ∧ Qrm0 Z p0 p1 p2 p3 p4 p5 wV kV aT aJ aE lT lJ lE zc h0 n0 v U'.heap L ∧ CHr Z consts_1 U.vm U.heap U'.vm U'.heap ∧ ReturnedEndW U o U' L room_1.cells room_1.slots) := by
  refine MetFree.of_bodySF (plainFor_of_name pn_4) hisR ?_
  intro p e s m args below meth c s₁ Bd hml0 hP hK
  obtain ⟨rfl, hZ, hh, hC0, hSf⟩ := hP
  have hx := Bd.exec
  have hby := Bd.bytes
  have hml : c.maxLocals = 16 := hml0
  have hown : s.vm.findClass "org/postline/VocabularyWritingPinLaw" = some m.cls := findClass_of_methodNamed Bd.named
  have hnm := (name_of_methodNamed Bd.named Bd.method).1
  have X0 : Stand p l e room_1 s m #[(.int p0), (.int p1), (.int p2), (.int p3), (.int p4), (.int p5)] below meth c s₁ [] 0 0 := Stand.of_body Bd
  have e0 : s₁.heap = h0 := by rw [← hh, Bd.state]; rfl
  have N0 := Fr.nil n0
  have hlk := Bd.notSynchronized
  show OwnGo p.tables e below _ (s₁.setTop (entryFrame m #[(.int p0), (.int p1), (.int p2), (.int p3), (.int p4), (.int p5)] maxLocals))
  rw [ef_rm0 m p0 p1 p2 p3 p4 p5]
  have B0 := OwnB.start s h0
  have C0 := CHr.refl hC0
  have K0 : Keep h0 h0 [] := Keep.refl _ _
  obtain ⟨t_lT, kb_lT, cd_lT, N_lT, vs_lT, E_lT, V_lT, C_lT, K_lT, cod_lT, up_lT, ln_lT⟩ := S_lT
  obtain ⟨t_lJ, kb_lJ, cd_lJ, N_lJ, vs_lJ, E_lJ, V_lJ, C_lJ, K_lJ, cod_lJ, up_lJ, ln_lJ⟩ := S_lJ
  obtain ⟨t_lE, kb_lE, cd_lE, N_lE, vs_lE, E_lE, V_lE, C_lE, K_lE, cod_lE, up_lE, ln_lE⟩ := S_lE
  have J277 : ∀ (Tj : State) (Lo : List Loc) (hj : Heap) (sl6 sl7 sl8 sl9 sl10 sl11 sl13 : Slot) (bK : Addr) (kb : ClassId) (k0 k1 k2 k3 k4 nn : Int32) (Xj : Stand p l e room_1 s m #[(.int p0), (.int p1), (.int p2), (.int p3), (.int p4), (.int p5)] below meth c Tj Lo 1 5) (ej : Tj.heap = hj) (Nj : Fr n0 Lo) (Zj : n0 ≤ hj.size) (Kj : Keep h0 hj []) (Bj : OwnB s s hj) (Cj : CHr Z consts_1 s.vm h0 s.vm hj) (Vj : Arv Z hj bK kb .char (5 : Int32) [(.int k0), (.int k1), (.int k2), (.int k3), (.int k4)] (.int (0 : Int32))) (hk0 : OwnCh k0) (hk1 : OwnCh k1) (hk2 : OwnCh k2) (hk3 : OwnCh k3) (hk4 : OwnCh k4), OwnGo p.tables e below (fun o U' => ∃ v L, o = .returned v ∧ Qrm0 Z p0 p1 p2 p3 p4 p5 wV kV aT aJ aE lT lJ lE zc h0 n0 v U'.heap L ∧ CHr Z consts_1 s.vm s.heap U'.vm U'.heap ∧ ReturnedEndW s o U' L room_1.cells room_1.slots) (Tj.setTop (mkF m 277 #[.val (.int p0), .val (.int p1), .val (.int p2), .val (.int p3), .val (.int p4), .val (.int p5), sl6, sl7, sl8, sl9, sl10, sl11, .val (.ref bK), sl13, .val (.int nn), .unset] [])) := by
    intro Tj Lo hj sl6 sl7 sl8 sl9 sl10 sl11 sl13 bK kb k0 k1 k2 k3 k4 nn Xj ej Nj Zj Kj Bj Cj Vj hk0 hk1 hk2 hk3 hk4
    have f1 : Sta Z hj "org/postline/Vocabulary" "$VALUES" "[Lorg/postline/Vocabulary;" (.ref wV) := own_sta_keep S__VALUES Kj all0
    have f2 : Arv Z hj wV kV (.object "org/postline/Vocabulary") (3 : Int32) [(.ref aT), (.ref aJ), (.ref aE)] .null := V_v.keep Kj nin0
    have f3 : Exa Z hj wV "[Lorg/postline/Vocabulary;" := E_v.keep Kj
    have f4 : Sta Z hj "org/postline/Vocabulary" "TEI" "Lorg/postline/Vocabulary;" (.ref aT) := own_sta_keep S_TEI Kj all0
    have f5 : Sta Z hj "org/postline/Vocabulary" "JATS" "Lorg/postline/Vocabulary;" (.ref aJ) := own_sta_keep S_JATS Kj all0
    have f6 : Sta Z hj "org/postline/Vocabulary" "EAD3" "Lorg/postline/Vocabulary;" (.ref aE) := own_sta_keep S_EAD3 Kj all0
    have f7 : Fld Z hj aT "org/postline/Vocabulary" "label" "Ljava/lang/String;" (.ref lT) := F_aT.keep Kj nin0
    have f8 : Exa Z hj lT "java/lang/String" := E_lT.keep Kj
    have f9 : Fld Z hj lT "java/lang/String" "coder" "B" (.int cd_lT) := C_lT.keep Kj nin0
    have f10 : Fld Z hj lT "java/lang/String" "value" "[B" (.ref t_lT) := V_lT.keep Kj nin0
    have f11 : Arv Z hj t_lT kb_lT .byte N_lT vs_lT (.int (0 : Int32)) := K_lT.keep Kj nin0
    have f12 : Fld Z hj aJ "org/postline/Vocabulary" "label" "Ljava/lang/String;" (.ref lJ) := F_aJ.keep Kj nin0
    have f13 : Exa Z hj lJ "java/lang/String" := E_lJ.keep Kj
    have f14 : Fld Z hj lJ "java/lang/String" "coder" "B" (.int cd_lJ) := C_lJ.keep Kj nin0
    have f15 : Fld Z hj lJ "java/lang/String" "value" "[B" (.ref t_lJ) := V_lJ.keep Kj nin0
    have f16 : Arv Z hj t_lJ kb_lJ .byte N_lJ vs_lJ (.int (0 : Int32)) := K_lJ.keep Kj nin0
    have f17 : Fld Z hj aE "org/postline/Vocabulary" "label" "Ljava/lang/String;" (.ref lE) := F_aE.keep Kj nin0
    have f18 : Exa Z hj lE "java/lang/String" := E_lE.keep Kj
    have f19 : Fld Z hj lE "java/lang/String" "coder" "B" (.int cd_lE) := C_lE.keep Kj nin0
    have f20 : Fld Z hj lE "java/lang/String" "value" "[B" (.ref t_lE) := V_lE.keep Kj nin0
    have f21 : Arv Z hj t_lE kb_lE .byte N_lE vs_lE (.int (0 : Int32)) := K_lE.keep Kj nin0
    have f22 : Sta Z hj "java/lang/String" "COMPACT_STRINGS" "Z" (.int zc) := own_sta_keep S_COMPACT_STRINGS Kj all0
    show OwnGo p.tables e below _ (Tj.setTop (mkF m 277 #[.val (.int p0), .val (.int p1), .val (.int p2), .val (.int p3), .val (.int p4), .val (.int p5), sl6, sl7, sl8, sl9, sl10, sl11, .val (.ref bK), sl13, .val (.int nn), .unset] []))
    refine OwnGo.of (A := Tj.setTop (mkF m 277 #[.val (.int p0), .val (.int p1), .val (.int p2), .val (.int p3), .val (.int p4), .val (.int p5), sl6, sl7, sl8, sl9, sl10, sl11, .val (.ref bK), sl13, .val (.int nn), .unset] [])) (B := Tj.setTop (mkF m 285 #[.val (.int p0), .val (.int p1), .val (.int p2), .val (.int p3), .val (.int p4), .val (.int p5), sl6, sl7, sl8, sl9, sl10, sl11, .val (.ref bK), sl13, .val (.int nn), .unset] [(.int (7 : Int32)), (.int (((p0.toUInt32 >>> ((2 : Int32) &&& 31).toUInt32).toInt32) &&& (7 : Int32)))])) (fun t k => ?_) ?_
    · show Steps p.tables e below (Tj.setTop (mkF m 277 #[.val (.int p0), .val (.int p1), .val (.int p2), .val (.int p3), .val (.int p4), .val (.int p5), sl6, sl7, sl8, sl9, sl10, sl11, .val (.ref bK), sl13, .val (.int nn), .unset] [])) t
      refine XS.iloadN Xj.here hx rfl (hb hby at_277) rfl ?_
      refine XS.iconst Xj.here hx rfl (hb hby at_278) ?_
      refine XS.iushr Xj.here hx rfl (hb hby at_279) rfl ?_
      refine XS.bipush Xj.here hx rfl (hb hby at_280) ?_
      refine XS.iand Xj.here hx rfl (hb hby at_282) rfl ?_
      refine XS.bipush Xj.here hx rfl (hb hby at_283) ?_
      exact k
    by_cases hc23 : (((p0.toUInt32 >>> ((2 : Int32) &&& 31).toUInt32).toInt32) &&& (7 : Int32)) = (7 : Int32)
    · refine OwnGo.of (A := Tj.setTop (mkF m 285 #[.val (.int p0), .val (.int p1), .val (.int p2), .val (.int p3), .val (.int p4), .val (.int p5), sl6, sl7, sl8, sl9, sl10, sl11, .val (.ref bK), sl13, .val (.int nn), .unset] [(.int (7 : Int32)), (.int (((p0.toUInt32 >>> ((2 : Int32) &&& 31).toUInt32).toInt32) &&& (7 : Int32)))])) (B := Tj.setTop (mkF m 303 #[.val (.int p0), .val (.int p1), .val (.int p2), .val (.int p3), .val (.int p4), .val (.int p5), sl6, sl7, sl8, sl9, sl10, sl11, .val (.ref bK), sl13, .val (.int nn), .val .null] [.null])) (fun t k => ?_) ?_
      · show Steps p.tables e below (Tj.setTop (mkF m 285 #[.val (.int p0), .val (.int p1), .val (.int p2), .val (.int p3), .val (.int p4), .val (.int p5), sl6, sl7, sl8, sl9, sl10, sl11, .val (.ref bK), sl13, .val (.int nn), .unset] [(.int (7 : Int32)), (.int (((p0.toUInt32 >>> ((2 : Int32) &&& 31).toUInt32).toInt32) &&& (7 : Int32)))])) t
        refine XS.icmpNo Xj.here hx rfl (hb hby at_285) rfl (teq hc23).2 ?_
        refine XS.aconstNull Xj.here hx rfl (hb hby at_288) ?_
        refine XS.goto Xj.here hx rfl (pc0 := 289) (pc' := 299) rfl (hb hby at_289) (by decide) (by decide) ?_
        refine XS.astore Xj.here hx rfl (hb hby at_299) rfl rfl (l' := #[.val (.int p0), .val (.int p1), .val (.int p2), .val (.int p3), .val (.int p4), .val (.int p5), sl6, sl7, sl8, sl9, sl10, sl11, .val (.ref bK), sl13, .val (.int nn), .val .null]) rfl ?_
        refine XS.aload Xj.here hx rfl (hb hby at_301) rfl rfl ?_
        exact k
      obtain ⟨T24, L24, v24, X24, hQ24, st24⟩ := own_callS Xj hx (y := (⟨"org/postline/Vocabulary", "writing", "(Ljava/lang/String;)Lorg/postline/Vocabulary;"⟩ : MethodName)) hown (mvT hZ (hw _ (List.mem_of_getElem? (i := 26) rfl))) (mvT hZ (hw _ (List.mem_of_getElem? (i := 27) rfl))) (mvT hZ (hw _ (List.mem_of_getElem? (i := 28) rfl))) (mvT hZ (hw _ (List.mem_of_getElem? (i := 29) rfl))) (by decide) (backOf (W := 0) (rm5n l Z aw hw []  wV kV aT aJ aE lT lJ lE zc hj n0 Zj f1 f2 f3 f7 ⟨_, _, _, _, _, f8, f10, f9, f11, cod_lT, up_lT, ln_lT⟩ f12 ⟨_, _, _, _, _, f13, f15, f14, f16, cod_lJ, up_lJ, ln_lJ⟩ f17 ⟨_, _, _, _, _, f18, f20, f19, f21, cod_lE, up_lE, ln_lE⟩ f22 hzc) hZ (hw _ (List.mem_of_getElem? (i := 29) rfl)) (hw _ (List.mem_of_getElem? (i := 28) rfl)) (by decide) (by decide)) (g := (mkF m 303 #[.val (.int p0), .val (.int p1), .val (.int p2), .val (.int p3), .val (.int p4), .val (.int p5), sl6, sl7, sl8, sl9, sl10, sl11, .val (.ref bK), sl13, .val (.int nn), .val .null] [.null])) rfl (by rw [hml]; rfl) (argsL := [.null]) (rest := []) (lenOf pd_11 rfl) rfl (by show 2 * 0 + _ ≤ _; exact Nat.le_of_eq rfl) (hb hby at_303) rfl ej (by decide) (by decide)
      obtain ⟨rfl, N24q, K24⟩ := hQ24
      have cs25 := CHr.keep K24 all0 Cj.1
      have f26 : n0 ≤ T24.heap.size := Nat.le_trans Zj K24.1
      have f27 : Keep h0 T24.heap [] := Kj.trans K24 all0
      have f28 : OwnB s s T24.heap := Bj.keep K24
      have f29 : CHr Z consts_1 s.vm h0 s.vm T24.heap := Cj.trans cs25
      have f30 : Arv Z T24.heap bK kb .char (5 : Int32) [(.int k0), (.int k1), (.int k2), (.int k3), (.int k4)] (.int (0 : Int32)) := Vj.keep K24 nin0
      have f31 : Sta Z T24.heap "org/postline/Vocabulary" "$VALUES" "[Lorg/postline/Vocabulary;" (.ref wV) := own_sta_keep f1 K24 all0
      have f32 : Arv Z T24.heap wV kV (.object "org/postline/Vocabulary") (3 : Int32) [(.ref aT), (.ref aJ), (.ref aE)] .null := f2.keep K24 nin0
      have f33 : Exa Z T24.heap wV "[Lorg/postline/Vocabulary;" := f3.keep K24
      have f34 : Sta Z T24.heap "org/postline/Vocabulary" "TEI" "Lorg/postline/Vocabulary;" (.ref aT) := own_sta_keep f4 K24 all0
      have f35 : Sta Z T24.heap "org/postline/Vocabulary" "JATS" "Lorg/postline/Vocabulary;" (.ref aJ) := own_sta_keep f5 K24 all0
      have f36 : Sta Z T24.heap "org/postline/Vocabulary" "EAD3" "Lorg/postline/Vocabulary;" (.ref aE) := own_sta_keep f6 K24 all0
      have f37 : Fld Z T24.heap aT "org/postline/Vocabulary" "label" "Ljava/lang/String;" (.ref lT) := f7.keep K24 nin0
      have f38 : Exa Z T24.heap lT "java/lang/String" := f8.keep K24
      have f39 : Fld Z T24.heap lT "java/lang/String" "coder" "B" (.int cd_lT) := f9.keep K24 nin0
      have f40 : Fld Z T24.heap lT "java/lang/String" "value" "[B" (.ref t_lT) := f10.keep K24 nin0
      have f41 : Arv Z T24.heap t_lT kb_lT .byte N_lT vs_lT (.int (0 : Int32)) := f11.keep K24 nin0
      have f42 : Fld Z T24.heap aJ "org/postline/Vocabulary" "label" "Ljava/lang/String;" (.ref lJ) := f12.keep K24 nin0
      have f43 : Exa Z T24.heap lJ "java/lang/String" := f13.keep K24
      have f44 : Fld Z T24.heap lJ "java/lang/String" "coder" "B" (.int cd_lJ) := f14.keep K24 nin0
      have f45 : Fld Z T24.heap lJ "java/lang/String" "value" "[B" (.ref t_lJ) := f15.keep K24 nin0
      have f46 : Arv Z T24.heap t_lJ kb_lJ .byte N_lJ vs_lJ (.int (0 : Int32)) := f16.keep K24 nin0
      have f47 : Fld Z T24.heap aE "org/postline/Vocabulary" "label" "Ljava/lang/String;" (.ref lE) := f17.keep K24 nin0
      have f48 : Exa Z T24.heap lE "java/lang/String" := f18.keep K24
      have f49 : Fld Z T24.heap lE "java/lang/String" "coder" "B" (.int cd_lE) := f19.keep K24 nin0
      have f50 : Fld Z T24.heap lE "java/lang/String" "value" "[B" (.ref t_lE) := f20.keep K24 nin0
      have f51 : Arv Z T24.heap t_lE kb_lE .byte N_lE vs_lE (.int (0 : Int32)) := f21.keep K24 nin0
      have f52 : Sta Z T24.heap "java/lang/String" "COMPACT_STRINGS" "Z" (.int zc) := own_sta_keep f22 K24 all0
      have N24 := Fr.app Nj N24q
      refine OwnGo.of st24 ?_
      show OwnGo p.tables e below _ (T24.setTop (mkF m 306 #[.val (.int p0), .val (.int p1), .val (.int p2), .val (.int p3), .val (.int p4), .val (.int p5), sl6, sl7, sl8, sl9, sl10, sl11, .val (.ref bK), sl13, .val (.int nn), .val .null] [.null]))
      refine OwnGo.of (A := T24.setTop (mkF m 306 #[.val (.int p0), .val (.int p1), .val (.int p2), .val (.int p3), .val (.int p4), .val (.int p5), sl6, sl7, sl8, sl9, sl10, sl11, .val (.ref bK), sl13, .val (.int nn), .val .null] [.null])) (B := T24.setTop (mkF m 308 #[.val (.int p0), .val (.int p1), .val (.int p2), .val (.int p3), .val (.int p4), .val (.int p5), sl6, sl7, sl8, sl9, sl10, sl11, .val (.ref bK), sl13, .val (.int nn), .val .null] [.null, .null])) (fun t k => ?_) ?_
      · show Steps p.tables e below (T24.setTop (mkF m 306 #[.val (.int p0), .val (.int p1), .val (.int p2), .val (.int p3), .val (.int p4), .val (.int p5), sl6, sl7, sl8, sl9, sl10, sl11, .val (.ref bK), sl13, .val (.int nn), .val .null] [.null])) t
        refine XS.aload X24.here hx rfl (hb hby at_306) rfl rfl ?_
        exact k
      obtain ⟨T53, L53, v53, X53, hQ53, st53⟩ := own_callS X24 hx (y := (⟨"org/postline/VocabularyWritingPinLaw", "expected", "(Ljava/lang/String;)Lorg/postline/Vocabulary;"⟩ : MethodName)) hown (mvT hZ (hw _ (List.mem_of_getElem? (i := 61) rfl))) (mvT hZ (hw _ (List.mem_of_getElem? (i := 62) rfl))) (mvT hZ (hw _ (List.mem_of_getElem? (i := 3) rfl))) (mvT hZ (hw _ (List.mem_of_getElem? (i := 63) rfl))) (by decide) (backOf (W := 1) (rm9n l Z aw hw []   T24.heap n0 f26 ) hZ (hw _ (List.mem_of_getElem? (i := 63) rfl)) (hw _ (List.mem_of_getElem? (i := 3) rfl)) (by decide) (by decide)) (g := (mkF m 308 #[.val (.int p0), .val (.int p1), .val (.int p2), .val (.int p3), .val (.int p4), .val (.int p5), sl6, sl7, sl8, sl9, sl10, sl11, .val (.ref bK), sl13, .val (.int nn), .val .null] [.null, .null])) rfl (by rw [hml]; rfl) (argsL := [.null]) (rest := [.null]) (lenOf pd_11 rfl) rfl (by show 2 * 0 + _ ≤ _; exact Nat.le_of_eq rfl) (hb hby at_308) rfl rfl (by decide) (by decide)
      obtain ⟨rfl, N53q, eq53⟩ := hQ53
      have N53 := Fr.app N24 N53q
      refine OwnGo.of st53 ?_
      show OwnGo p.tables e below _ (T53.setTop (mkF m 311 #[.val (.int p0), .val (.int p1), .val (.int p2), .val (.int p3), .val (.int p4), .val (.int p5), sl6, sl7, sl8, sl9, sl10, sl11, .val (.ref bK), sl13, .val (.int nn), .val .null] [.null, .null]))
      refine OwnGo.of (A := T53.setTop (mkF m 311 #[.val (.int p0), .val (.int p1), .val (.int p2), .val (.int p3), .val (.int p4), .val (.int p5), sl6, sl7, sl8, sl9, sl10, sl11, .val (.ref bK), sl13, .val (.int nn), .val .null] [.null, .null])) (B := T53.setTop (mkF m 319 #[.val (.int p0), .val (.int p1), .val (.int p2), .val (.int p3), .val (.int p4), .val (.int p5), sl6, sl7, sl8, sl9, sl10, sl11, .val (.ref bK), sl13, .val (.int nn), .val .null] [(.int (1 : Int32))])) (fun t k => ?_) ?_
      · show Steps p.tables e below (T53.setTop (mkF m 311 #[.val (.int p0), .val (.int p1), .val (.int p2), .val (.int p3), .val (.int p4), .val (.int p5), sl6, sl7, sl8, sl9, sl10, sl11, .val (.ref bK), sl13, .val (.int nn), .val .null] [.null, .null])) t
        refine Jvm.RoadKit.acmp (g := (mkF m 311 #[.val (.int p0), .val (.int p1), .val (.int p2), .val (.int p3), .val (.int p4), .val (.int p5), sl6, sl7, sl8, sl9, sl10, sl11, .val (.ref bK), sl13, .val (.int nn), .val .null] [.null, .null])) X53 hx rfl rfl rfl (pc0 := 311) (pc' := 314) (same := true) rfl (hb hby at_311) rfl (decide_eq_true rfl) (by decide) (by decide) ?_
        refine XS.iconst X53.here hx rfl (hb hby at_314) ?_
        refine XS.goto X53.here hx rfl (pc0 := 315) (pc' := 319) rfl (hb hby at_315) (by decide) (by decide) ?_
        exact k
      obtain ⟨fs, hr, hrun, hended, hRW⟩ := own_leaveW X53 f28 eq53 (v := some (.int (nar .boolean (1 : Int32)))) (fun h => by rw [Bd.returns] at h; cases h) hlk
      refine ⟨_, _, ?_, hrun, hended, _, _, rfl, ?_, own_endW X53 hZ (own_EW hw) eq53 hh f29 fs, own_monoW hRW (by decide) (by decide)⟩
      · show Steps p.tables e below (T53.setTop (mkF m 319 #[.val (.int p0), .val (.int p1), .val (.int p2), .val (.int p3), .val (.int p4), .val (.int p5), sl6, sl7, sl8, sl9, sl10, sl11, .val (.ref bK), sl13, .val (.int nn), .val .null] [(.int (1 : Int32))])) _
        exact retN X53 hx (t := .boolean) Bd.returns (by simp) (hb hby at_319) hr
      · show Qrm0 Z p0 p1 p2 p3 p4 p5 wV kV aT aJ aE lT lJ lE zc h0 n0 _ (T53.setFrames fs).heap _
        rw [show (T53.setFrames fs).heap = T24.heap from eq53]
        exact ⟨rfl, N53⟩
    · refine OwnGo.of (A := Tj.setTop (mkF m 285 #[.val (.int p0), .val (.int p1), .val (.int p2), .val (.int p3), .val (.int p4), .val (.int p5), sl6, sl7, sl8, sl9, sl10, sl11, .val (.ref bK), sl13, .val (.int nn), .unset] [(.int (7 : Int32)), (.int (((p0.toUInt32 >>> ((2 : Int32) &&& 31).toUInt32).toInt32) &&& (7 : Int32)))])) (B := Tj.setTop (mkF m 296 #[.val (.int p0), .val (.int p1), .val (.int p2), .val (.int p3), .val (.int p4), .val (.int p5), sl6, sl7, sl8, sl9, sl10, sl11, .val (.ref bK), sl13, .val (.int nn), .unset] [(.int nn), (.ref bK)])) (fun t k => ?_) ?_
      · show Steps p.tables e below (Tj.setTop (mkF m 285 #[.val (.int p0), .val (.int p1), .val (.int p2), .val (.int p3), .val (.int p4), .val (.int p5), sl6, sl7, sl8, sl9, sl10, sl11, .val (.ref bK), sl13, .val (.int nn), .unset] [(.int (7 : Int32)), (.int (((p0.toUInt32 >>> ((2 : Int32) &&& 31).toUInt32).toInt32) &&& (7 : Int32)))])) t
        refine XS.icmpYes Xj.here hx rfl (pc0 := 285) (pc' := 292) rfl (hb hby at_285) rfl (feq hc23).2 (by decide) (by decide) ?_
        refine XS.aload Xj.here hx rfl (hb hby at_292) rfl rfl ?_
        refine XS.iload Xj.here hx rfl (hb hby at_294) rfl ?_
        exact k
      obtain ⟨s54, T54, L54, v54, X54, hQ54, B54, hZ, hown, cs54, st54⟩ := own_callSW (s := s) Xj hx (y := (⟨"org/postline/VocabularyWritingPinLaw", "make", "([CI)Ljava/lang/String;"⟩ : MethodName)) hown (mvT hZ (hw _ (List.mem_of_getElem? (i := 1) rfl))) (mvT hZ (hw _ (List.mem_of_getElem? (i := 2) rfl))) (mvT hZ (hw _ (List.mem_of_getElem? (i := 3) rfl))) (mvT hZ (hw _ (List.mem_of_getElem? (i := 4) rfl))) (by decide) hZ Bj (own_backW (W := 0) (ws := []) (rm1 l Z aw hw [] bK nn k0 k1 k2 k3 k4 kb zc hj n0 Zj Vj hk0 hk1 hk2 hk3 hk4 f22 hzc) hZ (hw _ (List.mem_of_getElem? (i := 4) rfl)) (hw _ (List.mem_of_getElem? (i := 3) rfl)) (by decide) (by decide) (own_EW hw) Cj.1 all0) (g := (mkF m 296 #[.val (.int p0), .val (.int p1), .val (.int p2), .val (.int p3), .val (.int p4), .val (.int p5), sl6, sl7, sl8, sl9, sl10, sl11, .val (.ref bK), sl13, .val (.int nn), .unset] [(.int nn), (.ref bK)])) rfl (by rw [hml]; rfl) (argsL := [(.ref bK), (.int nn)]) (rest := []) (lenOf pd_12 rfl) rfl (by show 2 * 0 + _ ≤ _; exact Nat.le_of_eq rfl) (hb hby at_296) rfl ej (by decide) (by decide)
      obtain ⟨N54q, K54, x54, cs54z, rfl, SS54⟩ := hQ54
      have f55 : n0 ≤ T54.heap.size := Nat.le_trans Zj K54.1
      have f56 : Keep h0 T54.heap [] := Kj.trans K54 all0
      have f57 : CHr Z consts_1 s.vm h0 s54.vm T54.heap := Cj.trans cs54
      have f58 : Arv Z T54.heap bK kb .char (5 : Int32) [(.int k0), (.int k1), (.int k2), (.int k3), (.int k4)] (.int (0 : Int32)) := Vj.keep K54 nin0
      have f59 : Sta Z T54.heap "org/postline/Vocabulary" "$VALUES" "[Lorg/postline/Vocabulary;" (.ref wV) := own_sta_keep f1 K54 all0
      have f60 : Arv Z T54.heap wV kV (.object "org/postline/Vocabulary") (3 : Int32) [(.ref aT), (.ref aJ), (.ref aE)] .null := f2.keep K54 nin0
      have f61 : Exa Z T54.heap wV "[Lorg/postline/Vocabulary;" := f3.keep K54
      have f62 : Sta Z T54.heap "org/postline/Vocabulary" "TEI" "Lorg/postline/Vocabulary;" (.ref aT) := own_sta_keep f4 K54 all0
      have f63 : Sta Z T54.heap "org/postline/Vocabulary" "JATS" "Lorg/postline/Vocabulary;" (.ref aJ) := own_sta_keep f5 K54 all0
      have f64 : Sta Z T54.heap "org/postline/Vocabulary" "EAD3" "Lorg/postline/Vocabulary;" (.ref aE) := own_sta_keep f6 K54 all0
      have f65 : Fld Z T54.heap aT "org/postline/Vocabulary" "label" "Ljava/lang/String;" (.ref lT) := f7.keep K54 nin0
      have f66 : Exa Z T54.heap lT "java/lang/String" := f8.keep K54
      have f67 : Fld Z T54.heap lT "java/lang/String" "coder" "B" (.int cd_lT) := f9.keep K54 nin0
      have f68 : Fld Z T54.heap lT "java/lang/String" "value" "[B" (.ref t_lT) := f10.keep K54 nin0
      have f69 : Arv Z T54.heap t_lT kb_lT .byte N_lT vs_lT (.int (0 : Int32)) := f11.keep K54 nin0
      have f70 : Fld Z T54.heap aJ "org/postline/Vocabulary" "label" "Ljava/lang/String;" (.ref lJ) := f12.keep K54 nin0
      have f71 : Exa Z T54.heap lJ "java/lang/String" := f13.keep K54
      have f72 : Fld Z T54.heap lJ "java/lang/String" "coder" "B" (.int cd_lJ) := f14.keep K54 nin0
      have f73 : Fld Z T54.heap lJ "java/lang/String" "value" "[B" (.ref t_lJ) := f15.keep K54 nin0
      have f74 : Arv Z T54.heap t_lJ kb_lJ .byte N_lJ vs_lJ (.int (0 : Int32)) := f16.keep K54 nin0
      have f75 : Fld Z T54.heap aE "org/postline/Vocabulary" "label" "Ljava/lang/String;" (.ref lE) := f17.keep K54 nin0
      have f76 : Exa Z T54.heap lE "java/lang/String" := f18.keep K54
      have f77 : Fld Z T54.heap lE "java/lang/String" "coder" "B" (.int cd_lE) := f19.keep K54 nin0
      have f78 : Fld Z T54.heap lE "java/lang/String" "value" "[B" (.ref t_lE) := f20.keep K54 nin0
      have f79 : Arv Z T54.heap t_lE kb_lE .byte N_lE vs_lE (.int (0 : Int32)) := f21.keep K54 nin0
      have f80 : Sta Z T54.heap "java/lang/String" "COMPACT_STRINGS" "Z" (.int zc) := own_sta_keep f22 K54 all0
      obtain ⟨t_m54, kb_m54, cd_m54, N_m54, vs_m54, E_m54, V_m54, C_m54, K_m54, cod_m54, up_m54, ln_m54⟩ := SS54
      have N54 := Fr.app Nj N54q
      refine OwnGo.of st54 ?_
      show OwnGo p.tables e below _ (T54.setTop (mkF m 299 #[.val (.int p0), .val (.int p1), .val (.int p2), .val (.int p3), .val (.int p4), .val (.int p5), sl6, sl7, sl8, sl9, sl10, sl11, .val (.ref bK), sl13, .val (.int nn), .unset] [(.ref x54)]))
      refine OwnGo.of (A := T54.setTop (mkF m 299 #[.val (.int p0), .val (.int p1), .val (.int p2), .val (.int p3), .val (.int p4), .val (.int p5), sl6, sl7, sl8, sl9, sl10, sl11, .val (.ref bK), sl13, .val (.int nn), .unset] [(.ref x54)])) (B := T54.setTop (mkF m 303 #[.val (.int p0), .val (.int p1), .val (.int p2), .val (.int p3), .val (.int p4), .val (.int p5), sl6, sl7, sl8, sl9, sl10, sl11, .val (.ref bK), sl13, .val (.int nn), .val (.ref x54)] [(.ref x54)])) (fun t k => ?_) ?_
      · show Steps p.tables e below (T54.setTop (mkF m 299 #[.val (.int p0), .val (.int p1), .val (.int p2), .val (.int p3), .val (.int p4), .val (.int p5), sl6, sl7, sl8, sl9, sl10, sl11, .val (.ref bK), sl13, .val (.int nn), .unset] [(.ref x54)])) t
        refine XS.astore X54.here hx rfl (hb hby at_299) rfl rfl (l' := #[.val (.int p0), .val (.int p1), .val (.int p2), .val (.int p3), .val (.int p4), .val (.int p5), sl6, sl7, sl8, sl9, sl10, sl11, .val (.ref bK), sl13, .val (.int nn), .val (.ref x54)]) rfl ?_
        refine XS.aload X54.here hx rfl (hb hby at_301) rfl rfl ?_
        exact k
      obtain ⟨T81, L81, v81, X81, hQ81, st81⟩ := own_callS X54 hx (y := (⟨"org/postline/Vocabulary", "writing", "(Ljava/lang/String;)Lorg/postline/Vocabulary;"⟩ : MethodName)) hown (mvT hZ (hw _ (List.mem_of_getElem? (i := 26) rfl))) (mvT hZ (hw _ (List.mem_of_getElem? (i := 27) rfl))) (mvT hZ (hw _ (List.mem_of_getElem? (i := 28) rfl))) (mvT hZ (hw _ (List.mem_of_getElem? (i := 29) rfl))) (by decide) (backOf (W := 0) (rm5 l Z aw hw [] x54 cs54z wV kV aT aJ aE lT lJ lE zc T54.heap n0 f55 ⟨_, _, _, _, _, E_m54, V_m54, C_m54, K_m54, cod_m54, up_m54, ln_m54⟩ f59 f60 f61 f65 ⟨_, _, _, _, _, f66, f68, f67, f69, cod_lT, up_lT, ln_lT⟩ f70 ⟨_, _, _, _, _, f71, f73, f72, f74, cod_lJ, up_lJ, ln_lJ⟩ f75 ⟨_, _, _, _, _, f76, f78, f77, f79, cod_lE, up_lE, ln_lE⟩ f80 hzc) hZ (hw _ (List.mem_of_getElem? (i := 29) rfl)) (hw _ (List.mem_of_getElem? (i := 28) rfl)) (by decide) (by decide)) (g := (mkF m 303 #[.val (.int p0), .val (.int p1), .val (.int p2), .val (.int p3), .val (.int p4), .val (.int p5), sl6, sl7, sl8, sl9, sl10, sl11, .val (.ref bK), sl13, .val (.int nn), .val (.ref x54)] [(.ref x54)])) rfl (by rw [hml]; rfl) (argsL := [(.ref x54)]) (rest := []) (lenOf pd_11 rfl) rfl (by show 2 * 0 + _ ≤ _; exact Nat.le_of_eq rfl) (hb hby at_303) rfl rfl (by decide) (by decide)
      obtain ⟨rfl, N81q, K81⟩ := hQ81
      have cs82 := CHr.keep K81 all0 f57.1
      have f83 : n0 ≤ T81.heap.size := Nat.le_trans f55 K81.1
      have f84 : Keep h0 T81.heap [] := f56.trans K81 all0
      have f85 : OwnB s s54 T81.heap := B54.keep K81
      have f86 : CHr Z consts_1 s.vm h0 s54.vm T81.heap := f57.trans cs82
      have f87 : Arv Z T81.heap bK kb .char (5 : Int32) [(.int k0), (.int k1), (.int k2), (.int k3), (.int k4)] (.int (0 : Int32)) := f58.keep K81 nin0
      have f88 : Sta Z T81.heap "org/postline/Vocabulary" "$VALUES" "[Lorg/postline/Vocabulary;" (.ref wV) := own_sta_keep f59 K81 all0
      have f89 : Arv Z T81.heap wV kV (.object "org/postline/Vocabulary") (3 : Int32) [(.ref aT), (.ref aJ), (.ref aE)] .null := f60.keep K81 nin0
      have f90 : Exa Z T81.heap wV "[Lorg/postline/Vocabulary;" := f61.keep K81
      have f91 : Sta Z T81.heap "org/postline/Vocabulary" "TEI" "Lorg/postline/Vocabulary;" (.ref aT) := own_sta_keep f62 K81 all0
      have f92 : Sta Z T81.heap "org/postline/Vocabulary" "JATS" "Lorg/postline/Vocabulary;" (.ref aJ) := own_sta_keep f63 K81 all0
      have f93 : Sta Z T81.heap "org/postline/Vocabulary" "EAD3" "Lorg/postline/Vocabulary;" (.ref aE) := own_sta_keep f64 K81 all0
      have f94 : Fld Z T81.heap aT "org/postline/Vocabulary" "label" "Ljava/lang/String;" (.ref lT) := f65.keep K81 nin0
      have f95 : Exa Z T81.heap lT "java/lang/String" := f66.keep K81
      have f96 : Fld Z T81.heap lT "java/lang/String" "coder" "B" (.int cd_lT) := f67.keep K81 nin0
      have f97 : Fld Z T81.heap lT "java/lang/String" "value" "[B" (.ref t_lT) := f68.keep K81 nin0
      have f98 : Arv Z T81.heap t_lT kb_lT .byte N_lT vs_lT (.int (0 : Int32)) := f69.keep K81 nin0
      have f99 : Fld Z T81.heap aJ "org/postline/Vocabulary" "label" "Ljava/lang/String;" (.ref lJ) := f70.keep K81 nin0
      have f100 : Exa Z T81.heap lJ "java/lang/String" := f71.keep K81
      have f101 : Fld Z T81.heap lJ "java/lang/String" "coder" "B" (.int cd_lJ) := f72.keep K81 nin0
      have f102 : Fld Z T81.heap lJ "java/lang/String" "value" "[B" (.ref t_lJ) := f73.keep K81 nin0
      have f103 : Arv Z T81.heap t_lJ kb_lJ .byte N_lJ vs_lJ (.int (0 : Int32)) := f74.keep K81 nin0
      have f104 : Fld Z T81.heap aE "org/postline/Vocabulary" "label" "Ljava/lang/String;" (.ref lE) := f75.keep K81 nin0
      have f105 : Exa Z T81.heap lE "java/lang/String" := f76.keep K81
      have f106 : Fld Z T81.heap lE "java/lang/String" "coder" "B" (.int cd_lE) := f77.keep K81 nin0
      have f107 : Fld Z T81.heap lE "java/lang/String" "value" "[B" (.ref t_lE) := f78.keep K81 nin0
      have f108 : Arv Z T81.heap t_lE kb_lE .byte N_lE vs_lE (.int (0 : Int32)) := f79.keep K81 nin0
      have f109 : Sta Z T81.heap "java/lang/String" "COMPACT_STRINGS" "Z" (.int zc) := own_sta_keep f80 K81 all0
      have f110 : Exa Z T81.heap x54 "java/lang/String" := E_m54.keep K81
      have f111 : Fld Z T81.heap x54 "java/lang/String" "coder" "B" (.int cd_m54) := C_m54.keep K81 nin0
      have f112 : Fld Z T81.heap x54 "java/lang/String" "value" "[B" (.ref t_m54) := V_m54.keep K81 nin0
      have f113 : Arv Z T81.heap t_m54 kb_m54 .byte N_m54 vs_m54 (.int (0 : Int32)) := K_m54.keep K81 nin0
      have N81 := Fr.app N54 N81q
      refine OwnGo.of st81 ?_
      show OwnGo p.tables e below _ (T81.setTop (mkF m 306 #[.val (.int p0), .val (.int p1), .val (.int p2), .val (.int p3), .val (.int p4), .val (.int p5), sl6, sl7, sl8, sl9, sl10, sl11, .val (.ref bK), sl13, .val (.int nn), .val (.ref x54)] [(own_voc cs54z aT aJ aE)]))
      refine OwnGo.of (A := T81.setTop (mkF m 306 #[.val (.int p0), .val (.int p1), .val (.int p2), .val (.int p3), .val (.int p4), .val (.int p5), sl6, sl7, sl8, sl9, sl10, sl11, .val (.ref bK), sl13, .val (.int nn), .val (.ref x54)] [(own_voc cs54z aT aJ aE)])) (B := T81.setTop (mkF m 308 #[.val (.int p0), .val (.int p1), .val (.int p2), .val (.int p3), .val (.int p4), .val (.int p5), sl6, sl7, sl8, sl9, sl10, sl11, .val (.ref bK), sl13, .val (.int nn), .val (.ref x54)] [(.ref x54), (own_voc cs54z aT aJ aE)])) (fun t k => ?_) ?_
      · show Steps p.tables e below (T81.setTop (mkF m 306 #[.val (.int p0), .val (.int p1), .val (.int p2), .val (.int p3), .val (.int p4), .val (.int p5), sl6, sl7, sl8, sl9, sl10, sl11, .val (.ref bK), sl13, .val (.int nn), .val (.ref x54)] [(own_voc cs54z aT aJ aE)])) t
        refine XS.aload X81.here hx rfl (hb hby at_306) rfl rfl ?_
        exact k
      obtain ⟨s114, T114, L114, v114, X114, hQ114, B114, hZ, hown, cs114, st114⟩ := own_callSW (s := s) X81 hx (y := (⟨"org/postline/VocabularyWritingPinLaw", "expected", "(Ljava/lang/String;)Lorg/postline/Vocabulary;"⟩ : MethodName)) hown (mvT hZ (hw _ (List.mem_of_getElem? (i := 61) rfl))) (mvT hZ (hw _ (List.mem_of_getElem? (i := 62) rfl))) (mvT hZ (hw _ (List.mem_of_getElem? (i := 3) rfl))) (mvT hZ (hw _ (List.mem_of_getElem? (i := 63) rfl))) (by decide) hZ f85 (own_backW (W := 1) (ws := []) (rm9 l Z aw hw [] x54 cs54z aT aJ aE zc T81.heap n0 f83 ⟨_, _, _, _, _, f110, f112, f111, f113, cod_m54, up_m54, ln_m54⟩ f91 f92 f93 f109 hzc) hZ (hw _ (List.mem_of_getElem? (i := 63) rfl)) (hw _ (List.mem_of_getElem? (i := 3) rfl)) (by decide) (by decide) (own_EW hw) f86.1 all0) (g := (mkF m 308 #[.val (.int p0), .val (.int p1), .val (.int p2), .val (.int p3), .val (.int p4), .val (.int p5), sl6, sl7, sl8, sl9, sl10, sl11, .val (.ref bK), sl13, .val (.int nn), .val (.ref x54)] [(.ref x54), (own_voc cs54z aT aJ aE)])) rfl (by rw [hml]; rfl) (argsL := [(.ref x54)]) (rest := [(own_voc cs54z aT aJ aE)]) (lenOf pd_11 rfl) rfl (by show 2 * 0 + (List.map (fun v => v.category) [(own_voc cs54z aT aJ aE)]).sum ≤ _; simp [own_vocC]) (hb hby at_308) rfl rfl (by decide) (by decide)
      obtain ⟨rfl, N114q, K114⟩ := hQ114
      have f115 : n0 ≤ T114.heap.size := Nat.le_trans f83 K114.1
      have f116 : Keep h0 T114.heap [] := f84.trans K114 all0
      have f117 : CHr Z consts_1 s.vm h0 s114.vm T114.heap := f86.trans cs114
      have f118 : Arv Z T114.heap bK kb .char (5 : Int32) [(.int k0), (.int k1), (.int k2), (.int k3), (.int k4)] (.int (0 : Int32)) := f87.keep K114 nin0
      have f119 : Sta Z T114.heap "org/postline/Vocabulary" "$VALUES" "[Lorg/postline/Vocabulary;" (.ref wV) := own_sta_keep f88 K114 all0
      have f120 : Arv Z T114.heap wV kV (.object "org/postline/Vocabulary") (3 : Int32) [(.ref aT), (.ref aJ), (.ref aE)] .null := f89.keep K114 nin0
      have f121 : Exa Z T114.heap wV "[Lorg/postline/Vocabulary;" := f90.keep K114
      have f122 : Sta Z T114.heap "org/postline/Vocabulary" "TEI" "Lorg/postline/Vocabulary;" (.ref aT) := own_sta_keep f91 K114 all0
      have f123 : Sta Z T114.heap "org/postline/Vocabulary" "JATS" "Lorg/postline/Vocabulary;" (.ref aJ) := own_sta_keep f92 K114 all0
      have f124 : Sta Z T114.heap "org/postline/Vocabulary" "EAD3" "Lorg/postline/Vocabulary;" (.ref aE) := own_sta_keep f93 K114 all0
      have f125 : Fld Z T114.heap aT "org/postline/Vocabulary" "label" "Ljava/lang/String;" (.ref lT) := f94.keep K114 nin0
      have f126 : Exa Z T114.heap lT "java/lang/String" := f95.keep K114
      have f127 : Fld Z T114.heap lT "java/lang/String" "coder" "B" (.int cd_lT) := f96.keep K114 nin0
      have f128 : Fld Z T114.heap lT "java/lang/String" "value" "[B" (.ref t_lT) := f97.keep K114 nin0
      have f129 : Arv Z T114.heap t_lT kb_lT .byte N_lT vs_lT (.int (0 : Int32)) := f98.keep K114 nin0
      have f130 : Fld Z T114.heap aJ "org/postline/Vocabulary" "label" "Ljava/lang/String;" (.ref lJ) := f99.keep K114 nin0
      have f131 : Exa Z T114.heap lJ "java/lang/String" := f100.keep K114
      have f132 : Fld Z T114.heap lJ "java/lang/String" "coder" "B" (.int cd_lJ) := f101.keep K114 nin0
      have f133 : Fld Z T114.heap lJ "java/lang/String" "value" "[B" (.ref t_lJ) := f102.keep K114 nin0
      have f134 : Arv Z T114.heap t_lJ kb_lJ .byte N_lJ vs_lJ (.int (0 : Int32)) := f103.keep K114 nin0
      have f135 : Fld Z T114.heap aE "org/postline/Vocabulary" "label" "Ljava/lang/String;" (.ref lE) := f104.keep K114 nin0
      have f136 : Exa Z T114.heap lE "java/lang/String" := f105.keep K114
      have f137 : Fld Z T114.heap lE "java/lang/String" "coder" "B" (.int cd_lE) := f106.keep K114 nin0
      have f138 : Fld Z T114.heap lE "java/lang/String" "value" "[B" (.ref t_lE) := f107.keep K114 nin0
      have f139 : Arv Z T114.heap t_lE kb_lE .byte N_lE vs_lE (.int (0 : Int32)) := f108.keep K114 nin0
      have f140 : Sta Z T114.heap "java/lang/String" "COMPACT_STRINGS" "Z" (.int zc) := own_sta_keep f109 K114 all0
      have f141 : Exa Z T114.heap x54 "java/lang/String" := f110.keep K114
      have f142 : Fld Z T114.heap x54 "java/lang/String" "coder" "B" (.int cd_m54) := f111.keep K114 nin0
      have f143 : Fld Z T114.heap x54 "java/lang/String" "value" "[B" (.ref t_m54) := f112.keep K114 nin0
      have f144 : Arv Z T114.heap t_m54 kb_m54 .byte N_m54 vs_m54 (.int (0 : Int32)) := f113.keep K114 nin0
      have N114 := Fr.app N81 N114q
      refine OwnGo.of st114 ?_
      show OwnGo p.tables e below _ (T114.setTop (mkF m 311 #[.val (.int p0), .val (.int p1), .val (.int p2), .val (.int p3), .val (.int p4), .val (.int p5), sl6, sl7, sl8, sl9, sl10, sl11, .val (.ref bK), sl13, .val (.int nn), .val (.ref x54)] [(own_voc cs54z aT aJ aE), (own_voc cs54z aT aJ aE)]))
      refine OwnGo.of (A := T114.setTop (mkF m 311 #[.val (.int p0), .val (.int p1), .val (.int p2), .val (.int p3), .val (.int p4), .val (.int p5), sl6, sl7, sl8, sl9, sl10, sl11, .val (.ref bK), sl13, .val (.int nn), .val (.ref x54)] [(own_voc cs54z aT aJ aE), (own_voc cs54z aT aJ aE)])) (B := T114.setTop (mkF m 319 #[.val (.int p0), .val (.int p1), .val (.int p2), .val (.int p3), .val (.int p4), .val (.int p5), sl6, sl7, sl8, sl9, sl10, sl11, .val (.ref bK), sl13, .val (.int nn), .val (.ref x54)] [(.int (1 : Int32))])) (fun t k => ?_) ?_
      · show Steps p.tables e below (T114.setTop (mkF m 311 #[.val (.int p0), .val (.int p1), .val (.int p2), .val (.int p3), .val (.int p4), .val (.int p5), sl6, sl7, sl8, sl9, sl10, sl11, .val (.ref bK), sl13, .val (.int nn), .val (.ref x54)] [(own_voc cs54z aT aJ aE), (own_voc cs54z aT aJ aE)])) t
        refine Jvm.RoadKit.acmp (g := (mkF m 311 #[.val (.int p0), .val (.int p1), .val (.int p2), .val (.int p3), .val (.int p4), .val (.int p5), sl6, sl7, sl8, sl9, sl10, sl11, .val (.ref bK), sl13, .val (.int nn), .val (.ref x54)] [(own_voc cs54z aT aJ aE), (own_voc cs54z aT aJ aE)])) X114 hx rfl (own_vocR cs54z aT aJ aE) (own_vocR cs54z aT aJ aE) (pc0 := 311) (pc' := 314) (same := true) rfl (hb hby at_311) rfl (decide_eq_true rfl) (by decide) (by decide) ?_
        refine XS.iconst X114.here hx rfl (hb hby at_314) ?_
        refine XS.goto X114.here hx rfl (pc0 := 315) (pc' := 319) rfl (hb hby at_315) (by decide) (by decide) ?_
        exact k
      obtain ⟨fs, hr, hrun, hended, hRW⟩ := own_leaveW X114 B114 rfl (v := some (.int (nar .boolean (1 : Int32)))) (fun h => by rw [Bd.returns] at h; cases h) hlk
      refine ⟨_, _, ?_, hrun, hended, _, _, rfl, ?_, own_endW X114 hZ (own_EW hw) rfl hh f117 fs, own_monoW hRW (by decide) (by decide)⟩
      · show Steps p.tables e below (T114.setTop (mkF m 319 #[.val (.int p0), .val (.int p1), .val (.int p2), .val (.int p3), .val (.int p4), .val (.int p5), sl6, sl7, sl8, sl9, sl10, sl11, .val (.ref bK), sl13, .val (.int nn), .val (.ref x54)] [(.int (1 : Int32))])) _
        exact retN X114 hx (t := .boolean) Bd.returns (by simp) (hb hby at_319) hr
      · show Qrm0 Z p0 p1 p2 p3 p4 p5 wV kV aT aJ aE lT lJ lE zc h0 n0 _ (T114.setFrames fs).heap _
        rw [show (T114.setFrames fs).heap = T114.heap from rfl]
        exact ⟨rfl, N114⟩
  have J232 : ∀ (Tj : State) (Lo : List Loc) (hj : Heap) (sl6 sl7 sl8 sl9 sl10 sl11 : Slot) (bK : Addr) (kb : ClassId) (k0 k1 k2 k3 k4 nat : Int32) (Xj : Stand p l e room_1 s m #[(.int p0), (.int p1), (.int p2), (.int p3), (.int p4), (.int p5)] below meth c Tj Lo 1 5) (ej : Tj.heap = hj) (Nj : Fr n0 Lo) (Zj : n0 ≤ hj.size) (Kj : Keep h0 hj []) (Bj : OwnB s s hj) (Cj : CHr Z consts_1 s.vm h0 s.vm hj) (Vj : Arv Z hj bK kb .char (5 : Int32) [(.int k0), (.int k1), (.int k2), (.int k3), (.int k4)] (.int (0 : Int32))) (hk0 : OwnCh k0) (hk1 : OwnCh k1) (hk2 : OwnCh k2) (hk3 : OwnCh k3) (hk4 : OwnCh k4) (g_bK : n0 ≤ bK) (sz_bK : h0.size ≤ bK) (Gj : Safe Z consts_1 s.vm hj bK), OwnGo p.tables e below (fun o U' => ∃ v L, o = .returned v ∧ Qrm0 Z p0 p1 p2 p3 p4 p5 wV kV aT aJ aE lT lJ lE zc h0 n0 v U'.heap L ∧ CHr Z consts_1 s.vm s.heap U'.vm U'.heap ∧ ReturnedEndW s o U' L room_1.cells room_1.slots) (Tj.setTop (mkF m 232 #[.val (.int p0), .val (.int p1), .val (.int p2), .val (.int p3), .val (.int p4), .val (.int p5), sl6, sl7, sl8, sl9, sl10, sl11, .val (.ref bK), .val (.int nat), .unset, .unset] [])) := by
    intro Tj Lo hj sl6 sl7 sl8 sl9 sl10 sl11 bK kb k0 k1 k2 k3 k4 nat Xj ej Nj Zj Kj Bj Cj Vj hk0 hk1 hk2 hk3 hk4 g_bK sz_bK Gj
    show OwnGo p.tables e below _ (Tj.setTop (mkF m 232 #[.val (.int p0), .val (.int p1), .val (.int p2), .val (.int p3), .val (.int p4), .val (.int p5), sl6, sl7, sl8, sl9, sl10, sl11, .val (.ref bK), .val (.int nat), .unset, .unset] []))
    refine OwnGo.of (A := Tj.setTop (mkF m 232 #[.val (.int p0), .val (.int p1), .val (.int p2), .val (.int p3), .val (.int p4), .val (.int p5), sl6, sl7, sl8, sl9, sl10, sl11, .val (.ref bK), .val (.int nat), .unset, .unset] [])) (B := Tj.setTop (mkF m 235 #[.val (.int p0), .val (.int p1), .val (.int p2), .val (.int p3), .val (.int p4), .val (.int p5), sl6, sl7, sl8, sl9, sl10, sl11, .val (.ref bK), .val (.int nat), .unset, .unset] [(.int (p3 &&& (1 : Int32)))])) (fun t k => ?_) ?_
    · show Steps p.tables e below (Tj.setTop (mkF m 232 #[.val (.int p0), .val (.int p1), .val (.int p2), .val (.int p3), .val (.int p4), .val (.int p5), sl6, sl7, sl8, sl9, sl10, sl11, .val (.ref bK), .val (.int nat), .unset, .unset] [])) t
      refine XS.iloadN Xj.here hx rfl (hb hby at_232) rfl ?_
      refine XS.iconst Xj.here hx rfl (hb hby at_233) ?_
      refine XS.iand Xj.here hx rfl (hb hby at_234) rfl ?_
      exact k
    by_cases hc145 : (p3 &&& (1 : Int32)) = (0 : Int32)
    · refine OwnGo.of (A := Tj.setTop (mkF m 235 #[.val (.int p0), .val (.int p1), .val (.int p2), .val (.int p3), .val (.int p4), .val (.int p5), sl6, sl7, sl8, sl9, sl10, sl11, .val (.ref bK), .val (.int nat), .unset, .unset] [(.int (p3 &&& (1 : Int32)))])) (B := Tj.setTop (mkF m 257 #[.val (.int p0), .val (.int p1), .val (.int p2), .val (.int p3), .val (.int p4), .val (.int p5), sl6, sl7, sl8, sl9, sl10, sl11, .val (.ref bK), .val (.int nat), .val (.int nat), .unset] [(.int (p1 &&& (1 : Int32)))])) (fun t k => ?_) ?_
      · show Steps p.tables e below (Tj.setTop (mkF m 235 #[.val (.int p0), .val (.int p1), .val (.int p2), .val (.int p3), .val (.int p4), .val (.int p5), sl6, sl7, sl8, sl9, sl10, sl11, .val (.ref bK), .val (.int nat), .unset, .unset] [(.int (p3 &&& (1 : Int32)))])) t
        refine XS.ifNo Xj.here hx rfl (hb hby at_235) rfl ((if0 _ _).trans (teq hc145).2) ?_
        refine XS.iload Xj.here hx rfl (hb hby at_238) rfl ?_
        refine XS.goto Xj.here hx rfl (pc0 := 240) (pc' := 252) rfl (hb hby at_240) (by decide) (by decide) ?_
        refine XS.istore Xj.here hx rfl (hb hby at_252) rfl (l' := #[.val (.int p0), .val (.int p1), .val (.int p2), .val (.int p3), .val (.int p4), .val (.int p5), sl6, sl7, sl8, sl9, sl10, sl11, .val (.ref bK), .val (.int nat), .val (.int nat), .unset]) rfl ?_
        refine XS.iloadN Xj.here hx rfl (hb hby at_254) rfl ?_
        refine XS.iconst Xj.here hx rfl (hb hby at_255) ?_
        refine XS.iand Xj.here hx rfl (hb hby at_256) rfl ?_
        exact k
      by_cases hc146 : (p1 &&& (1 : Int32)) = (0 : Int32)
      · refine OwnGo.of (A := Tj.setTop (mkF m 257 #[.val (.int p0), .val (.int p1), .val (.int p2), .val (.int p3), .val (.int p4), .val (.int p5), sl6, sl7, sl8, sl9, sl10, sl11, .val (.ref bK), .val (.int nat), .val (.int nat), .unset] [(.int (p1 &&& (1 : Int32)))])) (B := Tj.setTop (mkF m 277 #[.val (.int p0), .val (.int p1), .val (.int p2), .val (.int p3), .val (.int p4), .val (.int p5), sl6, sl7, sl8, sl9, sl10, sl11, .val (.ref bK), .val (.int nat), .val (.int nat), .unset] [])) (fun t k => ?_) ?_
        · show Steps p.tables e below (Tj.setTop (mkF m 257 #[.val (.int p0), .val (.int p1), .val (.int p2), .val (.int p3), .val (.int p4), .val (.int p5), sl6, sl7, sl8, sl9, sl10, sl11, .val (.ref bK), .val (.int nat), .val (.int nat), .unset] [(.int (p1 &&& (1 : Int32)))])) t
          refine XS.ifYes Xj.here hx rfl (pc0 := 257) (pc' := 277) rfl (hb hby at_257) rfl ((if0 _ _).trans (teq hc146).1) (by decide) (by decide) ?_
          exact k
        exact J277 Tj _ _ (sl6) (sl7) (sl8) (sl9) (sl10) (sl11) (.val (.int nat)) bK kb (k0) (k1) (k2) (k3) (k4) nat Xj ej Nj Zj Kj Bj Cj Vj hk0 hk1 hk2 hk3 hk4
      · refine OwnGo.of (A := Tj.setTop (mkF m 257 #[.val (.int p0), .val (.int p1), .val (.int p2), .val (.int p3), .val (.int p4), .val (.int p5), sl6, sl7, sl8, sl9, sl10, sl11, .val (.ref bK), .val (.int nat), .val (.int nat), .unset] [(.int (p1 &&& (1 : Int32)))])) (B := Tj.setTop (mkF m 276 #[.val (.int p0), .val (.int p1), .val (.int p2), .val (.int p3), .val (.int p4), .val (.int p5), sl6, sl7, sl8, sl9, sl10, sl11, .val (.ref bK), .val (.int nat), .val (.int nat), .unset] [(.int ((p2 &&& (255 : Int32)).toUInt32.toUInt16.toUInt32.toInt32)), (.int ((((p1.toUInt32 >>> ((1 : Int32) &&& 31).toUInt32).toInt32) &&& (7 : Int32)) % (5 : Int32))), (.ref bK)])) (fun t k => ?_) ?_
        · show Steps p.tables e below (Tj.setTop (mkF m 257 #[.val (.int p0), .val (.int p1), .val (.int p2), .val (.int p3), .val (.int p4), .val (.int p5), sl6, sl7, sl8, sl9, sl10, sl11, .val (.ref bK), .val (.int nat), .val (.int nat), .unset] [(.int (p1 &&& (1 : Int32)))])) t
          refine XS.ifNo Xj.here hx rfl (hb hby at_257) rfl ((if0 _ _).trans (feq hc146).1) ?_
          refine XS.aload Xj.here hx rfl (hb hby at_260) rfl rfl ?_
          refine XS.iloadN Xj.here hx rfl (hb hby at_262) rfl ?_
          refine XS.iconst Xj.here hx rfl (hb hby at_263) ?_
          refine XS.iushr Xj.here hx rfl (hb hby at_264) rfl ?_
          refine XS.bipush Xj.here hx rfl (hb hby at_265) ?_
          refine XS.iand Xj.here hx rfl (hb hby at_267) rfl ?_
          refine XS.iconst Xj.here hx rfl (hb hby at_268) ?_
          refine iremM Xj hx rfl (hb hby at_269) rfl (by decide) ?_
          refine XS.iloadN Xj.here hx rfl (hb hby at_270) rfl ?_
          refine XS.sipush Xj.here hx rfl (hb hby at_271) ?_
          refine XS.iand Xj.here hx rfl (hb hby at_274) rfl ?_
          refine XS.i2c Xj.here hx rfl (hb hby at_275) rfl ?_
          exact k
        rcases own_ix ((p1.toUInt32 >>> ((1 : Int32) &&& 31).toUInt32).toInt32) with hi | hi | hi | hi | hi
        · rw [hi]
          show OwnGo p.tables e below _ (Tj.setTop (mkF m 276 #[.val (.int p0), .val (.int p1), .val (.int p2), .val (.int p3), .val (.int p4), .val (.int p5), sl6, sl7, sl8, sl9, sl10, sl11, .val (.ref bK), .val (.int nat), .val (.int nat), .unset] [(.int ((p2 &&& (255 : Int32)).toUInt32.toUInt16.toUInt32.toInt32)), (.int (0 : Int32)), (.ref bK)]))
          have cq147 := Vj
          obtain ⟨clq147, Arq147, qq147, Sq147, Nq147, Hq147, Gq147⟩ := cq147
          obtain ⟨T148, h148, X148, e148, W148, st148⟩ := stC Xj hx hZ ej Arq147 (j := (0 : Int32)) (inb_of Sq147 ⟨by decide, by decide⟩) (g := (mkF m 276 #[.val (.int p0), .val (.int p1), .val (.int p2), .val (.int p3), .val (.int p4), .val (.int p5), sl6, sl7, sl8, sl9, sl10, sl11, .val (.ref bK), .val (.int nat), .val (.int nat), .unset] [(.int ((p2 &&& (255 : Int32)).toUInt32.toUInt16.toUInt32.toInt32)), (.int (0 : Int32)), (.ref bK)])) rfl rfl (hb hby at_276)
          refine OwnGo.of st148 ?_
          have N148 := Fr.snoc X148 Nj g_bK
          have cs149 := CHr.wr W148 Gj Cj.1
          have f150 : n0 ≤ h148.size := Nat.le_trans Zj (Keep.of_wr W148).1
          have f151 : Keep h0 h148 [] := Kj.wr W148 (Or.inr sz_bK)
          have f152 : OwnB s s h148 := Bj.wr W148
          have f153 : CHr Z consts_1 s.vm h0 s.vm h148 := Cj.trans cs149
          have f154 : Safe Z consts_1 s.vm h148 bK := cs149.safe Vj.lt Gj
          have f155 : Arv Z h148 bK kb .char (5 : Int32) [(.int (((p2 &&& (255 : Int32)).toUInt32.toUInt16.toUInt32.toInt32)).toUInt32.toUInt16.toUInt32.toInt32), (.int k1), (.int k2), (.int k3), (.int k4)] (.int (0 : Int32)) := Arv.set Arq147 qq147 Sq147 Nq147 Hq147 Gq147 (fits_nar_char _) W148 0 rfl (Nat.le_of_ble_eq_true rfl)
          show OwnGo p.tables e below _ (T148.setTop (mkF m 277 #[.val (.int p0), .val (.int p1), .val (.int p2), .val (.int p3), .val (.int p4), .val (.int p5), sl6, sl7, sl8, sl9, sl10, sl11, .val (.ref bK), .val (.int nat), .val (.int nat), .unset] []))
          exact J277 T148 _ _ (sl6) (sl7) (sl8) (sl9) (sl10) (sl11) (.val (.int nat)) bK kb ((((p2 &&& (255 : Int32)).toUInt32.toUInt16.toUInt32.toInt32)).toUInt32.toUInt16.toUInt32.toInt32) (k1) (k2) (k3) (k4) nat X148 e148 N148 f150 f151 f152 f153 f155 (own_ch (own_ch (own_msk _))) hk1 hk2 hk3 hk4
        · rw [hi]
          show OwnGo p.tables e below _ (Tj.setTop (mkF m 276 #[.val (.int p0), .val (.int p1), .val (.int p2), .val (.int p3), .val (.int p4), .val (.int p5), sl6, sl7, sl8, sl9, sl10, sl11, .val (.ref bK), .val (.int nat), .val (.int nat), .unset] [(.int ((p2 &&& (255 : Int32)).toUInt32.toUInt16.toUInt32.toInt32)), (.int (1 : Int32)), (.ref bK)]))
          have cq156 := Vj
          obtain ⟨clq156, Arq156, qq156, Sq156, Nq156, Hq156, Gq156⟩ := cq156
          obtain ⟨T157, h157, X157, e157, W157, st157⟩ := stC Xj hx hZ ej Arq156 (j := (1 : Int32)) (inb_of Sq156 ⟨by decide, by decide⟩) (g := (mkF m 276 #[.val (.int p0), .val (.int p1), .val (.int p2), .val (.int p3), .val (.int p4), .val (.int p5), sl6, sl7, sl8, sl9, sl10, sl11, .val (.ref bK), .val (.int nat), .val (.int nat), .unset] [(.int ((p2 &&& (255 : Int32)).toUInt32.toUInt16.toUInt32.toInt32)), (.int (1 : Int32)), (.ref bK)])) rfl rfl (hb hby at_276)
          refine OwnGo.of st157 ?_
          have N157 := Fr.snoc X157 Nj g_bK
          have cs158 := CHr.wr W157 Gj Cj.1
          have f159 : n0 ≤ h157.size := Nat.le_trans Zj (Keep.of_wr W157).1
          have f160 : Keep h0 h157 [] := Kj.wr W157 (Or.inr sz_bK)
          have f161 : OwnB s s h157 := Bj.wr W157
          have f162 : CHr Z consts_1 s.vm h0 s.vm h157 := Cj.trans cs158
          have f163 : Safe Z consts_1 s.vm h157 bK := cs158.safe Vj.lt Gj
          have f164 : Arv Z h157 bK kb .char (5 : Int32) [(.int k0), (.int (((p2 &&& (255 : Int32)).toUInt32.toUInt16.toUInt32.toInt32)).toUInt32.toUInt16.toUInt32.toInt32), (.int k2), (.int k3), (.int k4)] (.int (0 : Int32)) := Arv.set Arq156 qq156 Sq156 Nq156 Hq156 Gq156 (fits_nar_char _) W157 1 rfl (Nat.le_of_ble_eq_true rfl)
          show OwnGo p.tables e below _ (T157.setTop (mkF m 277 #[.val (.int p0), .val (.int p1), .val (.int p2), .val (.int p3), .val (.int p4), .val (.int p5), sl6, sl7, sl8, sl9, sl10, sl11, .val (.ref bK), .val (.int nat), .val (.int nat), .unset] []))
          exact J277 T157 _ _ (sl6) (sl7) (sl8) (sl9) (sl10) (sl11) (.val (.int nat)) bK kb (k0) ((((p2 &&& (255 : Int32)).toUInt32.toUInt16.toUInt32.toInt32)).toUInt32.toUInt16.toUInt32.toInt32) (k2) (k3) (k4) nat X157 e157 N157 f159 f160 f161 f162 f164 hk0 (own_ch (own_ch (own_msk _))) hk2 hk3 hk4
        · rw [hi]
          show OwnGo p.tables e below _ (Tj.setTop (mkF m 276 #[.val (.int p0), .val (.int p1), .val (.int p2), .val (.int p3), .val (.int p4), .val (.int p5), sl6, sl7, sl8, sl9, sl10, sl11, .val (.ref bK), .val (.int nat), .val (.int nat), .unset] [(.int ((p2 &&& (255 : Int32)).toUInt32.toUInt16.toUInt32.toInt32)), (.int (2 : Int32)), (.ref bK)]))
          have cq165 := Vj
          obtain ⟨clq165, Arq165, qq165, Sq165, Nq165, Hq165, Gq165⟩ := cq165
          obtain ⟨T166, h166, X166, e166, W166, st166⟩ := stC Xj hx hZ ej Arq165 (j := (2 : Int32)) (inb_of Sq165 ⟨by decide, by decide⟩) (g := (mkF m 276 #[.val (.int p0), .val (.int p1), .val (.int p2), .val (.int p3), .val (.int p4), .val (.int p5), sl6, sl7, sl8, sl9, sl10, sl11, .val (.ref bK), .val (.int nat), .val (.int nat), .unset] [(.int ((p2 &&& (255 : Int32)).toUInt32.toUInt16.toUInt32.toInt32)), (.int (2 : Int32)), (.ref bK)])) rfl rfl (hb hby at_276)
          refine OwnGo.of st166 ?_
          have N166 := Fr.snoc X166 Nj g_bK
          have cs167 := CHr.wr W166 Gj Cj.1
          have f168 : n0 ≤ h166.size := Nat.le_trans Zj (Keep.of_wr W166).1
          have f169 : Keep h0 h166 [] := Kj.wr W166 (Or.inr sz_bK)
          have f170 : OwnB s s h166 := Bj.wr W166
          have f171 : CHr Z consts_1 s.vm h0 s.vm h166 := Cj.trans cs167
          have f172 : Safe Z consts_1 s.vm h166 bK := cs167.safe Vj.lt Gj
          have f173 : Arv Z h166 bK kb .char (5 : Int32) [(.int k0), (.int k1), (.int (((p2 &&& (255 : Int32)).toUInt32.toUInt16.toUInt32.toInt32)).toUInt32.toUInt16.toUInt32.toInt32), (.int k3), (.int k4)] (.int (0 : Int32)) := Arv.set Arq165 qq165 Sq165 Nq165 Hq165 Gq165 (fits_nar_char _) W166 2 rfl (Nat.le_of_ble_eq_true rfl)
          show OwnGo p.tables e below _ (T166.setTop (mkF m 277 #[.val (.int p0), .val (.int p1), .val (.int p2), .val (.int p3), .val (.int p4), .val (.int p5), sl6, sl7, sl8, sl9, sl10, sl11, .val (.ref bK), .val (.int nat), .val (.int nat), .unset] []))
          exact J277 T166 _ _ (sl6) (sl7) (sl8) (sl9) (sl10) (sl11) (.val (.int nat)) bK kb (k0) (k1) ((((p2 &&& (255 : Int32)).toUInt32.toUInt16.toUInt32.toInt32)).toUInt32.toUInt16.toUInt32.toInt32) (k3) (k4) nat X166 e166 N166 f168 f169 f170 f171 f173 hk0 hk1 (own_ch (own_ch (own_msk _))) hk3 hk4
        · rw [hi]
          show OwnGo p.tables e below _ (Tj.setTop (mkF m 276 #[.val (.int p0), .val (.int p1), .val (.int p2), .val (.int p3), .val (.int p4), .val (.int p5), sl6, sl7, sl8, sl9, sl10, sl11, .val (.ref bK), .val (.int nat), .val (.int nat), .unset] [(.int ((p2 &&& (255 : Int32)).toUInt32.toUInt16.toUInt32.toInt32)), (.int (3 : Int32)), (.ref bK)]))
          have cq174 := Vj
          obtain ⟨clq174, Arq174, qq174, Sq174, Nq174, Hq174, Gq174⟩ := cq174
          obtain ⟨T175, h175, X175, e175, W175, st175⟩ := stC Xj hx hZ ej Arq174 (j := (3 : Int32)) (inb_of Sq174 ⟨by decide, by decide⟩) (g := (mkF m 276 #[.val (.int p0), .val (.int p1), .val (.int p2), .val (.int p3), .val (.int p4), .val (.int p5), sl6, sl7, sl8, sl9, sl10, sl11, .val (.ref bK), .val (.int nat), .val (.int nat), .unset] [(.int ((p2 &&& (255 : Int32)).toUInt32.toUInt16.toUInt32.toInt32)), (.int (3 : Int32)), (.ref bK)])) rfl rfl (hb hby at_276)
          refine OwnGo.of st175 ?_
          have N175 := Fr.snoc X175 Nj g_bK
          have cs176 := CHr.wr W175 Gj Cj.1
          have f177 : n0 ≤ h175.size := Nat.le_trans Zj (Keep.of_wr W175).1
          have f178 : Keep h0 h175 [] := Kj.wr W175 (Or.inr sz_bK)
          have f179 : OwnB s s h175 := Bj.wr W175
          have f180 : CHr Z consts_1 s.vm h0 s.vm h175 := Cj.trans cs176
          have f181 : Safe Z consts_1 s.vm h175 bK := cs176.safe Vj.lt Gj
          have f182 : Arv Z h175 bK kb .char (5 : Int32) [(.int k0), (.int k1), (.int k2), (.int (((p2 &&& (255 : Int32)).toUInt32.toUInt16.toUInt32.toInt32)).toUInt32.toUInt16.toUInt32.toInt32), (.int k4)] (.int (0 : Int32)) := Arv.set Arq174 qq174 Sq174 Nq174 Hq174 Gq174 (fits_nar_char _) W175 3 rfl (Nat.le_of_ble_eq_true rfl)
          show OwnGo p.tables e below _ (T175.setTop (mkF m 277 #[.val (.int p0), .val (.int p1), .val (.int p2), .val (.int p3), .val (.int p4), .val (.int p5), sl6, sl7, sl8, sl9, sl10, sl11, .val (.ref bK), .val (.int nat), .val (.int nat), .unset] []))
          exact J277 T175 _ _ (sl6) (sl7) (sl8) (sl9) (sl10) (sl11) (.val (.int nat)) bK kb (k0) (k1) (k2) ((((p2 &&& (255 : Int32)).toUInt32.toUInt16.toUInt32.toInt32)).toUInt32.toUInt16.toUInt32.toInt32) (k4) nat X175 e175 N175 f177 f178 f179 f180 f182 hk0 hk1 hk2 (own_ch (own_ch (own_msk _))) hk4
        · rw [hi]
          show OwnGo p.tables e below _ (Tj.setTop (mkF m 276 #[.val (.int p0), .val (.int p1), .val (.int p2), .val (.int p3), .val (.int p4), .val (.int p5), sl6, sl7, sl8, sl9, sl10, sl11, .val (.ref bK), .val (.int nat), .val (.int nat), .unset] [(.int ((p2 &&& (255 : Int32)).toUInt32.toUInt16.toUInt32.toInt32)), (.int (4 : Int32)), (.ref bK)]))
          have cq183 := Vj
          obtain ⟨clq183, Arq183, qq183, Sq183, Nq183, Hq183, Gq183⟩ := cq183
          obtain ⟨T184, h184, X184, e184, W184, st184⟩ := stC Xj hx hZ ej Arq183 (j := (4 : Int32)) (inb_of Sq183 ⟨by decide, by decide⟩) (g := (mkF m 276 #[.val (.int p0), .val (.int p1), .val (.int p2), .val (.int p3), .val (.int p4), .val (.int p5), sl6, sl7, sl8, sl9, sl10, sl11, .val (.ref bK), .val (.int nat), .val (.int nat), .unset] [(.int ((p2 &&& (255 : Int32)).toUInt32.toUInt16.toUInt32.toInt32)), (.int (4 : Int32)), (.ref bK)])) rfl rfl (hb hby at_276)
          refine OwnGo.of st184 ?_
          have N184 := Fr.snoc X184 Nj g_bK
          have cs185 := CHr.wr W184 Gj Cj.1
          have f186 : n0 ≤ h184.size := Nat.le_trans Zj (Keep.of_wr W184).1
          have f187 : Keep h0 h184 [] := Kj.wr W184 (Or.inr sz_bK)
          have f188 : OwnB s s h184 := Bj.wr W184
          have f189 : CHr Z consts_1 s.vm h0 s.vm h184 := Cj.trans cs185
          have f190 : Safe Z consts_1 s.vm h184 bK := cs185.safe Vj.lt Gj
          have f191 : Arv Z h184 bK kb .char (5 : Int32) [(.int k0), (.int k1), (.int k2), (.int k3), (.int (((p2 &&& (255 : Int32)).toUInt32.toUInt16.toUInt32.toInt32)).toUInt32.toUInt16.toUInt32.toInt32)] (.int (0 : Int32)) := Arv.set Arq183 qq183 Sq183 Nq183 Hq183 Gq183 (fits_nar_char _) W184 4 rfl (Nat.le_of_ble_eq_true rfl)
          show OwnGo p.tables e below _ (T184.setTop (mkF m 277 #[.val (.int p0), .val (.int p1), .val (.int p2), .val (.int p3), .val (.int p4), .val (.int p5), sl6, sl7, sl8, sl9, sl10, sl11, .val (.ref bK), .val (.int nat), .val (.int nat), .unset] []))
          exact J277 T184 _ _ (sl6) (sl7) (sl8) (sl9) (sl10) (sl11) (.val (.int nat)) bK kb (k0) (k1) (k2) (k3) ((((p2 &&& (255 : Int32)).toUInt32.toUInt16.toUInt32.toInt32)).toUInt32.toUInt16.toUInt32.toInt32) nat X184 e184 N184 f186 f187 f188 f189 f191 hk0 hk1 hk2 hk3 (own_ch (own_ch (own_msk _)))
    · refine OwnGo.of (A := Tj.setTop (mkF m 235 #[.val (.int p0), .val (.int p1), .val (.int p2), .val (.int p3), .val (.int p4), .val (.int p5), sl6, sl7, sl8, sl9, sl10, sl11, .val (.ref bK), .val (.int nat), .unset, .unset] [(.int (p3 &&& (1 : Int32)))])) (B := Tj.setTop (mkF m 257 #[.val (.int p0), .val (.int p1), .val (.int p2), .val (.int p3), .val (.int p4), .val (.int p5), sl6, sl7, sl8, sl9, sl10, sl11, .val (.ref bK), .val (.int nat), .val (.int ((((p3.toUInt32 >>> ((1 : Int32) &&& 31).toUInt32).toInt32) &&& (7 : Int32)) % (6 : Int32))), .unset] [(.int (p1 &&& (1 : Int32)))])) (fun t k => ?_) ?_
      · show Steps p.tables e below (Tj.setTop (mkF m 235 #[.val (.int p0), .val (.int p1), .val (.int p2), .val (.int p3), .val (.int p4), .val (.int p5), sl6, sl7, sl8, sl9, sl10, sl11, .val (.ref bK), .val (.int nat), .unset, .unset] [(.int (p3 &&& (1 : Int32)))])) t
        refine XS.ifYes Xj.here hx rfl (pc0 := 235) (pc' := 243) rfl (hb hby at_235) rfl ((if0 _ _).trans (feq hc145).2) (by decide) (by decide) ?_
        refine XS.iloadN Xj.here hx rfl (hb hby at_243) rfl ?_
        refine XS.iconst Xj.here hx rfl (hb hby at_244) ?_
        refine XS.iushr Xj.here hx rfl (hb hby at_245) rfl ?_
        refine XS.bipush Xj.here hx rfl (hb hby at_246) ?_
        refine XS.iand Xj.here hx rfl (hb hby at_248) rfl ?_
        refine XS.bipush Xj.here hx rfl (hb hby at_249) ?_
        refine iremM Xj hx rfl (hb hby at_251) rfl (by decide) ?_
        refine XS.istore Xj.here hx rfl (hb hby at_252) rfl (l' := #[.val (.int p0), .val (.int p1), .val (.int p2), .val (.int p3), .val (.int p4), .val (.int p5), sl6, sl7, sl8, sl9, sl10, sl11, .val (.ref bK), .val (.int nat), .val (.int ((((p3.toUInt32 >>> ((1 : Int32) &&& 31).toUInt32).toInt32) &&& (7 : Int32)) % (6 : Int32))), .unset]) rfl ?_
        refine XS.iloadN Xj.here hx rfl (hb hby at_254) rfl ?_
        refine XS.iconst Xj.here hx rfl (hb hby at_255) ?_
        refine XS.iand Xj.here hx rfl (hb hby at_256) rfl ?_
        exact k
      by_cases hc192 : (p1 &&& (1 : Int32)) = (0 : Int32)
      · refine OwnGo.of (A := Tj.setTop (mkF m 257 #[.val (.int p0), .val (.int p1), .val (.int p2), .val (.int p3), .val (.int p4), .val (.int p5), sl6, sl7, sl8, sl9, sl10, sl11, .val (.ref bK), .val (.int nat), .val (.int ((((p3.toUInt32 >>> ((1 : Int32) &&& 31).toUInt32).toInt32) &&& (7 : Int32)) % (6 : Int32))), .unset] [(.int (p1 &&& (1 : Int32)))])) (B := Tj.setTop (mkF m 277 #[.val (.int p0), .val (.int p1), .val (.int p2), .val (.int p3), .val (.int p4), .val (.int p5), sl6, sl7, sl8, sl9, sl10, sl11, .val (.ref bK), .val (.int nat), .val (.int ((((p3.toUInt32 >>> ((1 : Int32) &&& 31).toUInt32).toInt32) &&& (7 : Int32)) % (6 : Int32))), .unset] [])) (fun t k => ?_) ?_
        · show Steps p.tables e below (Tj.setTop (mkF m 257 #[.val (.int p0), .val (.int p1), .val (.int p2), .val (.int p3), .val (.int p4), .val (.int p5), sl6, sl7, sl8, sl9, sl10, sl11, .val (.ref bK), .val (.int nat), .val (.int ((((p3.toUInt32 >>> ((1 : Int32) &&& 31).toUInt32).toInt32) &&& (7 : Int32)) % (6 : Int32))), .unset] [(.int (p1 &&& (1 : Int32)))])) t
          refine XS.ifYes Xj.here hx rfl (pc0 := 257) (pc' := 277) rfl (hb hby at_257) rfl ((if0 _ _).trans (teq hc192).1) (by decide) (by decide) ?_
          exact k
        exact J277 Tj _ _ (sl6) (sl7) (sl8) (sl9) (sl10) (sl11) (.val (.int nat)) bK kb (k0) (k1) (k2) (k3) (k4) ((((p3.toUInt32 >>> ((1 : Int32) &&& 31).toUInt32).toInt32) &&& (7 : Int32)) % (6 : Int32)) Xj ej Nj Zj Kj Bj Cj Vj hk0 hk1 hk2 hk3 hk4
      · refine OwnGo.of (A := Tj.setTop (mkF m 257 #[.val (.int p0), .val (.int p1), .val (.int p2), .val (.int p3), .val (.int p4), .val (.int p5), sl6, sl7, sl8, sl9, sl10, sl11, .val (.ref bK), .val (.int nat), .val (.int ((((p3.toUInt32 >>> ((1 : Int32) &&& 31).toUInt32).toInt32) &&& (7 : Int32)) % (6 : Int32))), .unset] [(.int (p1 &&& (1 : Int32)))])) (B := Tj.setTop (mkF m 276 #[.val (.int p0), .val (.int p1), .val (.int p2), .val (.int p3), .val (.int p4), .val (.int p5), sl6, sl7, sl8, sl9, sl10, sl11, .val (.ref bK), .val (.int nat), .val (.int ((((p3.toUInt32 >>> ((1 : Int32) &&& 31).toUInt32).toInt32) &&& (7 : Int32)) % (6 : Int32))), .unset] [(.int ((p2 &&& (255 : Int32)).toUInt32.toUInt16.toUInt32.toInt32)), (.int ((((p1.toUInt32 >>> ((1 : Int32) &&& 31).toUInt32).toInt32) &&& (7 : Int32)) % (5 : Int32))), (.ref bK)])) (fun t k => ?_) ?_
        · show Steps p.tables e below (Tj.setTop (mkF m 257 #[.val (.int p0), .val (.int p1), .val (.int p2), .val (.int p3), .val (.int p4), .val (.int p5), sl6, sl7, sl8, sl9, sl10, sl11, .val (.ref bK), .val (.int nat), .val (.int ((((p3.toUInt32 >>> ((1 : Int32) &&& 31).toUInt32).toInt32) &&& (7 : Int32)) % (6 : Int32))), .unset] [(.int (p1 &&& (1 : Int32)))])) t
          refine XS.ifNo Xj.here hx rfl (hb hby at_257) rfl ((if0 _ _).trans (feq hc192).1) ?_
          refine XS.aload Xj.here hx rfl (hb hby at_260) rfl rfl ?_
          refine XS.iloadN Xj.here hx rfl (hb hby at_262) rfl ?_
          refine XS.iconst Xj.here hx rfl (hb hby at_263) ?_
          refine XS.iushr Xj.here hx rfl (hb hby at_264) rfl ?_
          refine XS.bipush Xj.here hx rfl (hb hby at_265) ?_
          refine XS.iand Xj.here hx rfl (hb hby at_267) rfl ?_
          refine XS.iconst Xj.here hx rfl (hb hby at_268) ?_
          refine iremM Xj hx rfl (hb hby at_269) rfl (by decide) ?_
          refine XS.iloadN Xj.here hx rfl (hb hby at_270) rfl ?_
          refine XS.sipush Xj.here hx rfl (hb hby at_271) ?_
          refine XS.iand Xj.here hx rfl (hb hby at_274) rfl ?_
          refine XS.i2c Xj.here hx rfl (hb hby at_275) rfl ?_
          exact k
        rcases own_ix ((p1.toUInt32 >>> ((1 : Int32) &&& 31).toUInt32).toInt32) with hi | hi | hi | hi | hi
        · rw [hi]
          show OwnGo p.tables e below _ (Tj.setTop (mkF m 276 #[.val (.int p0), .val (.int p1), .val (.int p2), .val (.int p3), .val (.int p4), .val (.int p5), sl6, sl7, sl8, sl9, sl10, sl11, .val (.ref bK), .val (.int nat), .val (.int ((((p3.toUInt32 >>> ((1 : Int32) &&& 31).toUInt32).toInt32) &&& (7 : Int32)) % (6 : Int32))), .unset] [(.int ((p2 &&& (255 : Int32)).toUInt32.toUInt16.toUInt32.toInt32)), (.int (0 : Int32)), (.ref bK)]))
          have cq193 := Vj
          obtain ⟨clq193, Arq193, qq193, Sq193, Nq193, Hq193, Gq193⟩ := cq193
          obtain ⟨T194, h194, X194, e194, W194, st194⟩ := stC Xj hx hZ ej Arq193 (j := (0 : Int32)) (inb_of Sq193 ⟨by decide, by decide⟩) (g := (mkF m 276 #[.val (.int p0), .val (.int p1), .val (.int p2), .val (.int p3), .val (.int p4), .val (.int p5), sl6, sl7, sl8, sl9, sl10, sl11, .val (.ref bK), .val (.int nat), .val (.int ((((p3.toUInt32 >>> ((1 : Int32) &&& 31).toUInt32).toInt32) &&& (7 : Int32)) % (6 : Int32))), .unset] [(.int ((p2 &&& (255 : Int32)).toUInt32.toUInt16.toUInt32.toInt32)), (.int (0 : Int32)), (.ref bK)])) rfl rfl (hb hby at_276)
          refine OwnGo.of st194 ?_
          have N194 := Fr.snoc X194 Nj g_bK
          have cs195 := CHr.wr W194 Gj Cj.1
          have f196 : n0 ≤ h194.size := Nat.le_trans Zj (Keep.of_wr W194).1
          have f197 : Keep h0 h194 [] := Kj.wr W194 (Or.inr sz_bK)
          have f198 : OwnB s s h194 := Bj.wr W194
          have f199 : CHr Z consts_1 s.vm h0 s.vm h194 := Cj.trans cs195
          have f200 : Safe Z consts_1 s.vm h194 bK := cs195.safe Vj.lt Gj
          have f201 : Arv Z h194 bK kb .char (5 : Int32) [(.int (((p2 &&& (255 : Int32)).toUInt32.toUInt16.toUInt32.toInt32)).toUInt32.toUInt16.toUInt32.toInt32), (.int k1), (.int k2), (.int k3), (.int k4)] (.int (0 : Int32)) := Arv.set Arq193 qq193 Sq193 Nq193 Hq193 Gq193 (fits_nar_char _) W194 0 rfl (Nat.le_of_ble_eq_true rfl)
          show OwnGo p.tables e below _ (T194.setTop (mkF m 277 #[.val (.int p0), .val (.int p1), .val (.int p2), .val (.int p3), .val (.int p4), .val (.int p5), sl6, sl7, sl8, sl9, sl10, sl11, .val (.ref bK), .val (.int nat), .val (.int ((((p3.toUInt32 >>> ((1 : Int32) &&& 31).toUInt32).toInt32) &&& (7 : Int32)) % (6 : Int32))), .unset] []))
          exact J277 T194 _ _ (sl6) (sl7) (sl8) (sl9) (sl10) (sl11) (.val (.int nat)) bK kb ((((p2 &&& (255 : Int32)).toUInt32.toUInt16.toUInt32.toInt32)).toUInt32.toUInt16.toUInt32.toInt32) (k1) (k2) (k3) (k4) ((((p3.toUInt32 >>> ((1 : Int32) &&& 31).toUInt32).toInt32) &&& (7 : Int32)) % (6 : Int32)) X194 e194 N194 f196 f197 f198 f199 f201 (own_ch (own_ch (own_msk _))) hk1 hk2 hk3 hk4
        · rw [hi]
          show OwnGo p.tables e below _ (Tj.setTop (mkF m 276 #[.val (.int p0), .val (.int p1), .val (.int p2), .val (.int p3), .val (.int p4), .val (.int p5), sl6, sl7, sl8, sl9, sl10, sl11, .val (.ref bK), .val (.int nat), .val (.int ((((p3.toUInt32 >>> ((1 : Int32) &&& 31).toUInt32).toInt32) &&& (7 : Int32)) % (6 : Int32))), .unset] [(.int ((p2 &&& (255 : Int32)).toUInt32.toUInt16.toUInt32.toInt32)), (.int (1 : Int32)), (.ref bK)]))
          have cq202 := Vj
          obtain ⟨clq202, Arq202, qq202, Sq202, Nq202, Hq202, Gq202⟩ := cq202
          obtain ⟨T203, h203, X203, e203, W203, st203⟩ := stC Xj hx hZ ej Arq202 (j := (1 : Int32)) (inb_of Sq202 ⟨by decide, by decide⟩) (g := (mkF m 276 #[.val (.int p0), .val (.int p1), .val (.int p2), .val (.int p3), .val (.int p4), .val (.int p5), sl6, sl7, sl8, sl9, sl10, sl11, .val (.ref bK), .val (.int nat), .val (.int ((((p3.toUInt32 >>> ((1 : Int32) &&& 31).toUInt32).toInt32) &&& (7 : Int32)) % (6 : Int32))), .unset] [(.int ((p2 &&& (255 : Int32)).toUInt32.toUInt16.toUInt32.toInt32)), (.int (1 : Int32)), (.ref bK)])) rfl rfl (hb hby at_276)
          refine OwnGo.of st203 ?_
          have N203 := Fr.snoc X203 Nj g_bK
          have cs204 := CHr.wr W203 Gj Cj.1
          have f205 : n0 ≤ h203.size := Nat.le_trans Zj (Keep.of_wr W203).1
          have f206 : Keep h0 h203 [] := Kj.wr W203 (Or.inr sz_bK)
          have f207 : OwnB s s h203 := Bj.wr W203
          have f208 : CHr Z consts_1 s.vm h0 s.vm h203 := Cj.trans cs204
          have f209 : Safe Z consts_1 s.vm h203 bK := cs204.safe Vj.lt Gj
          have f210 : Arv Z h203 bK kb .char (5 : Int32) [(.int k0), (.int (((p2 &&& (255 : Int32)).toUInt32.toUInt16.toUInt32.toInt32)).toUInt32.toUInt16.toUInt32.toInt32), (.int k2), (.int k3), (.int k4)] (.int (0 : Int32)) := Arv.set Arq202 qq202 Sq202 Nq202 Hq202 Gq202 (fits_nar_char _) W203 1 rfl (Nat.le_of_ble_eq_true rfl)
          show OwnGo p.tables e below _ (T203.setTop (mkF m 277 #[.val (.int p0), .val (.int p1), .val (.int p2), .val (.int p3), .val (.int p4), .val (.int p5), sl6, sl7, sl8, sl9, sl10, sl11, .val (.ref bK), .val (.int nat), .val (.int ((((p3.toUInt32 >>> ((1 : Int32) &&& 31).toUInt32).toInt32) &&& (7 : Int32)) % (6 : Int32))), .unset] []))
          exact J277 T203 _ _ (sl6) (sl7) (sl8) (sl9) (sl10) (sl11) (.val (.int nat)) bK kb (k0) ((((p2 &&& (255 : Int32)).toUInt32.toUInt16.toUInt32.toInt32)).toUInt32.toUInt16.toUInt32.toInt32) (k2) (k3) (k4) ((((p3.toUInt32 >>> ((1 : Int32) &&& 31).toUInt32).toInt32) &&& (7 : Int32)) % (6 : Int32)) X203 e203 N203 f205 f206 f207 f208 f210 hk0 (own_ch (own_ch (own_msk _))) hk2 hk3 hk4
        · rw [hi]
          show OwnGo p.tables e below _ (Tj.setTop (mkF m 276 #[.val (.int p0), .val (.int p1), .val (.int p2), .val (.int p3), .val (.int p4), .val (.int p5), sl6, sl7, sl8, sl9, sl10, sl11, .val (.ref bK), .val (.int nat), .val (.int ((((p3.toUInt32 >>> ((1 : Int32) &&& 31).toUInt32).toInt32) &&& (7 : Int32)) % (6 : Int32))), .unset] [(.int ((p2 &&& (255 : Int32)).toUInt32.toUInt16.toUInt32.toInt32)), (.int (2 : Int32)), (.ref bK)]))
          have cq211 := Vj
          obtain ⟨clq211, Arq211, qq211, Sq211, Nq211, Hq211, Gq211⟩ := cq211
          obtain ⟨T212, h212, X212, e212, W212, st212⟩ := stC Xj hx hZ ej Arq211 (j := (2 : Int32)) (inb_of Sq211 ⟨by decide, by decide⟩) (g := (mkF m 276 #[.val (.int p0), .val (.int p1), .val (.int p2), .val (.int p3), .val (.int p4), .val (.int p5), sl6, sl7, sl8, sl9, sl10, sl11, .val (.ref bK), .val (.int nat), .val (.int ((((p3.toUInt32 >>> ((1 : Int32) &&& 31).toUInt32).toInt32) &&& (7 : Int32)) % (6 : Int32))), .unset] [(.int ((p2 &&& (255 : Int32)).toUInt32.toUInt16.toUInt32.toInt32)), (.int (2 : Int32)), (.ref bK)])) rfl rfl (hb hby at_276)
          refine OwnGo.of st212 ?_
          have N212 := Fr.snoc X212 Nj g_bK
          have cs213 := CHr.wr W212 Gj Cj.1
          have f214 : n0 ≤ h212.size := Nat.le_trans Zj (Keep.of_wr W212).1
          have f215 : Keep h0 h212 [] := Kj.wr W212 (Or.inr sz_bK)
          have f216 : OwnB s s h212 := Bj.wr W212
          have f217 : CHr Z consts_1 s.vm h0 s.vm h212 := Cj.trans cs213
          have f218 : Safe Z consts_1 s.vm h212 bK := cs213.safe Vj.lt Gj
          have f219 : Arv Z h212 bK kb .char (5 : Int32) [(.int k0), (.int k1), (.int (((p2 &&& (255 : Int32)).toUInt32.toUInt16.toUInt32.toInt32)).toUInt32.toUInt16.toUInt32.toInt32), (.int k3), (.int k4)] (.int (0 : Int32)) := Arv.set Arq211 qq211 Sq211 Nq211 Hq211 Gq211 (fits_nar_char _) W212 2 rfl (Nat.le_of_ble_eq_true rfl)
          show OwnGo p.tables e below _ (T212.setTop (mkF m 277 #[.val (.int p0), .val (.int p1), .val (.int p2), .val (.int p3), .val (.int p4), .val (.int p5), sl6, sl7, sl8, sl9, sl10, sl11, .val (.ref bK), .val (.int nat), .val (.int ((((p3.toUInt32 >>> ((1 : Int32) &&& 31).toUInt32).toInt32) &&& (7 : Int32)) % (6 : Int32))), .unset] []))
          exact J277 T212 _ _ (sl6) (sl7) (sl8) (sl9) (sl10) (sl11) (.val (.int nat)) bK kb (k0) (k1) ((((p2 &&& (255 : Int32)).toUInt32.toUInt16.toUInt32.toInt32)).toUInt32.toUInt16.toUInt32.toInt32) (k3) (k4) ((((p3.toUInt32 >>> ((1 : Int32) &&& 31).toUInt32).toInt32) &&& (7 : Int32)) % (6 : Int32)) X212 e212 N212 f214 f215 f216 f217 f219 hk0 hk1 (own_ch (own_ch (own_msk _))) hk3 hk4
        · rw [hi]
          show OwnGo p.tables e below _ (Tj.setTop (mkF m 276 #[.val (.int p0), .val (.int p1), .val (.int p2), .val (.int p3), .val (.int p4), .val (.int p5), sl6, sl7, sl8, sl9, sl10, sl11, .val (.ref bK), .val (.int nat), .val (.int ((((p3.toUInt32 >>> ((1 : Int32) &&& 31).toUInt32).toInt32) &&& (7 : Int32)) % (6 : Int32))), .unset] [(.int ((p2 &&& (255 : Int32)).toUInt32.toUInt16.toUInt32.toInt32)), (.int (3 : Int32)), (.ref bK)]))
          have cq220 := Vj
          obtain ⟨clq220, Arq220, qq220, Sq220, Nq220, Hq220, Gq220⟩ := cq220
          obtain ⟨T221, h221, X221, e221, W221, st221⟩ := stC Xj hx hZ ej Arq220 (j := (3 : Int32)) (inb_of Sq220 ⟨by decide, by decide⟩) (g := (mkF m 276 #[.val (.int p0), .val (.int p1), .val (.int p2), .val (.int p3), .val (.int p4), .val (.int p5), sl6, sl7, sl8, sl9, sl10, sl11, .val (.ref bK), .val (.int nat), .val (.int ((((p3.toUInt32 >>> ((1 : Int32) &&& 31).toUInt32).toInt32) &&& (7 : Int32)) % (6 : Int32))), .unset] [(.int ((p2 &&& (255 : Int32)).toUInt32.toUInt16.toUInt32.toInt32)), (.int (3 : Int32)), (.ref bK)])) rfl rfl (hb hby at_276)
          refine OwnGo.of st221 ?_
          have N221 := Fr.snoc X221 Nj g_bK
          have cs222 := CHr.wr W221 Gj Cj.1
          have f223 : n0 ≤ h221.size := Nat.le_trans Zj (Keep.of_wr W221).1
          have f224 : Keep h0 h221 [] := Kj.wr W221 (Or.inr sz_bK)
          have f225 : OwnB s s h221 := Bj.wr W221
          have f226 : CHr Z consts_1 s.vm h0 s.vm h221 := Cj.trans cs222
          have f227 : Safe Z consts_1 s.vm h221 bK := cs222.safe Vj.lt Gj
          have f228 : Arv Z h221 bK kb .char (5 : Int32) [(.int k0), (.int k1), (.int k2), (.int (((p2 &&& (255 : Int32)).toUInt32.toUInt16.toUInt32.toInt32)).toUInt32.toUInt16.toUInt32.toInt32), (.int k4)] (.int (0 : Int32)) := Arv.set Arq220 qq220 Sq220 Nq220 Hq220 Gq220 (fits_nar_char _) W221 3 rfl (Nat.le_of_ble_eq_true rfl)
          show OwnGo p.tables e below _ (T221.setTop (mkF m 277 #[.val (.int p0), .val (.int p1), .val (.int p2), .val (.int p3), .val (.int p4), .val (.int p5), sl6, sl7, sl8, sl9, sl10, sl11, .val (.ref bK), .val (.int nat), .val (.int ((((p3.toUInt32 >>> ((1 : Int32) &&& 31).toUInt32).toInt32) &&& (7 : Int32)) % (6 : Int32))), .unset] []))
          exact J277 T221 _ _ (sl6) (sl7) (sl8) (sl9) (sl10) (sl11) (.val (.int nat)) bK kb (k0) (k1) (k2) ((((p2 &&& (255 : Int32)).toUInt32.toUInt16.toUInt32.toInt32)).toUInt32.toUInt16.toUInt32.toInt32) (k4) ((((p3.toUInt32 >>> ((1 : Int32) &&& 31).toUInt32).toInt32) &&& (7 : Int32)) % (6 : Int32)) X221 e221 N221 f223 f224 f225 f226 f228 hk0 hk1 hk2 (own_ch (own_ch (own_msk _))) hk4
        · rw [hi]
          show OwnGo p.tables e below _ (Tj.setTop (mkF m 276 #[.val (.int p0), .val (.int p1), .val (.int p2), .val (.int p3), .val (.int p4), .val (.int p5), sl6, sl7, sl8, sl9, sl10, sl11, .val (.ref bK), .val (.int nat), .val (.int ((((p3.toUInt32 >>> ((1 : Int32) &&& 31).toUInt32).toInt32) &&& (7 : Int32)) % (6 : Int32))), .unset] [(.int ((p2 &&& (255 : Int32)).toUInt32.toUInt16.toUInt32.toInt32)), (.int (4 : Int32)), (.ref bK)]))
          have cq229 := Vj
          obtain ⟨clq229, Arq229, qq229, Sq229, Nq229, Hq229, Gq229⟩ := cq229
          obtain ⟨T230, h230, X230, e230, W230, st230⟩ := stC Xj hx hZ ej Arq229 (j := (4 : Int32)) (inb_of Sq229 ⟨by decide, by decide⟩) (g := (mkF m 276 #[.val (.int p0), .val (.int p1), .val (.int p2), .val (.int p3), .val (.int p4), .val (.int p5), sl6, sl7, sl8, sl9, sl10, sl11, .val (.ref bK), .val (.int nat), .val (.int ((((p3.toUInt32 >>> ((1 : Int32) &&& 31).toUInt32).toInt32) &&& (7 : Int32)) % (6 : Int32))), .unset] [(.int ((p2 &&& (255 : Int32)).toUInt32.toUInt16.toUInt32.toInt32)), (.int (4 : Int32)), (.ref bK)])) rfl rfl (hb hby at_276)
          refine OwnGo.of st230 ?_
          have N230 := Fr.snoc X230 Nj g_bK
          have cs231 := CHr.wr W230 Gj Cj.1
          have f232 : n0 ≤ h230.size := Nat.le_trans Zj (Keep.of_wr W230).1
          have f233 : Keep h0 h230 [] := Kj.wr W230 (Or.inr sz_bK)
          have f234 : OwnB s s h230 := Bj.wr W230
          have f235 : CHr Z consts_1 s.vm h0 s.vm h230 := Cj.trans cs231
          have f236 : Safe Z consts_1 s.vm h230 bK := cs231.safe Vj.lt Gj
          have f237 : Arv Z h230 bK kb .char (5 : Int32) [(.int k0), (.int k1), (.int k2), (.int k3), (.int (((p2 &&& (255 : Int32)).toUInt32.toUInt16.toUInt32.toInt32)).toUInt32.toUInt16.toUInt32.toInt32)] (.int (0 : Int32)) := Arv.set Arq229 qq229 Sq229 Nq229 Hq229 Gq229 (fits_nar_char _) W230 4 rfl (Nat.le_of_ble_eq_true rfl)
          show OwnGo p.tables e below _ (T230.setTop (mkF m 277 #[.val (.int p0), .val (.int p1), .val (.int p2), .val (.int p3), .val (.int p4), .val (.int p5), sl6, sl7, sl8, sl9, sl10, sl11, .val (.ref bK), .val (.int nat), .val (.int ((((p3.toUInt32 >>> ((1 : Int32) &&& 31).toUInt32).toInt32) &&& (7 : Int32)) % (6 : Int32))), .unset] []))
          exact J277 T230 _ _ (sl6) (sl7) (sl8) (sl9) (sl10) (sl11) (.val (.int nat)) bK kb (k0) (k1) (k2) (k3) ((((p2 &&& (255 : Int32)).toUInt32.toUInt16.toUInt32.toInt32)).toUInt32.toUInt16.toUInt32.toInt32) ((((p3.toUInt32 >>> ((1 : Int32) &&& 31).toUInt32).toInt32) &&& (7 : Int32)) % (6 : Int32)) X230 e230 N230 f232 f233 f234 f235 f237 hk0 hk1 hk2 hk3 (own_ch (own_ch (own_msk _)))
  show OwnGo p.tables e below _ (s₁.setTop (mkF m 0 #[.val (.int p0), .val (.int p1), .val (.int p2), .val (.int p3), .val (.int p4), .val (.int p5), .unset, .unset, .unset, .unset, .unset, .unset, .unset, .unset, .unset, .unset] []))
  refine OwnGo.of (A := s₁.setTop (mkF m 0 #[.val (.int p0), .val (.int p1), .val (.int p2), .val (.int p3), .val (.int p4), .val (.int p5), .unset, .unset, .unset, .unset, .unset, .unset, .unset, .unset, .unset, .unset] [])) (B := s₁.setTop (mkF m 60 #[.val (.int p0), .val (.int p1), .val (.int p2), .val (.int p3), .val (.int p4), .val (.int p5), .val (.int (p0 &&& (3 : Int32))), .val (.int ((p4 &&& (255 : Int32)).toUInt32.toUInt16.toUInt32.toInt32)), .val (.int ((((p4.toUInt32 >>> ((8 : Int32) &&& 31).toUInt32).toInt32) &&& (255 : Int32)).toUInt32.toUInt16.toUInt32.toInt32)), .val (.int ((((p4.toUInt32 >>> ((16 : Int32) &&& 31).toUInt32).toInt32) &&& (255 : Int32)).toUInt32.toUInt16.toUInt32.toInt32)), .val (.int ((((p4.toUInt32 >>> ((24 : Int32) &&& 31).toUInt32).toInt32) &&& (255 : Int32)).toUInt32.toUInt16.toUInt32.toInt32)), .val (.int ((p5 &&& (255 : Int32)).toUInt32.toUInt16.toUInt32.toInt32)), .unset, .unset, .unset, .unset] [(.int (5 : Int32))])) (fun t k => ?_) ?_
  · show Steps p.tables e below (s₁.setTop (mkF m 0 #[.val (.int p0), .val (.int p1), .val (.int p2), .val (.int p3), .val (.int p4), .val (.int p5), .unset, .unset, .unset, .unset, .unset, .unset, .unset, .unset, .unset, .unset] [])) t
    refine XS.iloadN X0.here hx rfl (hb hby at_0) rfl ?_
    refine XS.iconst X0.here hx rfl (hb hby at_1) ?_
    refine XS.iand X0.here hx rfl (hb hby at_2) rfl ?_
    refine XS.istore X0.here hx rfl (hb hby at_3) rfl (l' := #[.val (.int p0), .val (.int p1), .val (.int p2), .val (.int p3), .val (.int p4), .val (.int p5), .val (.int (p0 &&& (3 : Int32))), .unset, .unset, .unset, .unset, .unset, .unset, .unset, .unset, .unset]) rfl ?_
    refine XS.iload X0.here hx rfl (hb hby at_5) rfl ?_
    refine XS.sipush X0.here hx rfl (hb hby at_7) ?_
    refine XS.iand X0.here hx rfl (hb hby at_10) rfl ?_
    refine XS.i2c X0.here hx rfl (hb hby at_11) rfl ?_
    refine XS.istore X0.here hx rfl (hb hby at_12) rfl (l' := #[.val (.int p0), .val (.int p1), .val (.int p2), .val (.int p3), .val (.int p4), .val (.int p5), .val (.int (p0 &&& (3 : Int32))), .val (.int ((p4 &&& (255 : Int32)).toUInt32.toUInt16.toUInt32.toInt32)), .unset, .unset, .unset, .unset, .unset, .unset, .unset, .unset]) rfl ?_
    refine XS.iload X0.here hx rfl (hb hby at_14) rfl ?_
    refine XS.bipush X0.here hx rfl (hb hby at_16) ?_
    refine XS.iushr X0.here hx rfl (hb hby at_18) rfl ?_
    refine XS.sipush X0.here hx rfl (hb hby at_19) ?_
    refine XS.iand X0.here hx rfl (hb hby at_22) rfl ?_
    refine XS.i2c X0.here hx rfl (hb hby at_23) rfl ?_
    refine XS.istore X0.here hx rfl (hb hby at_24) rfl (l' := #[.val (.int p0), .val (.int p1), .val (.int p2), .val (.int p3), .val (.int p4), .val (.int p5), .val (.int (p0 &&& (3 : Int32))), .val (.int ((p4 &&& (255 : Int32)).toUInt32.toUInt16.toUInt32.toInt32)), .val (.int ((((p4.toUInt32 >>> ((8 : Int32) &&& 31).toUInt32).toInt32) &&& (255 : Int32)).toUInt32.toUInt16.toUInt32.toInt32)), .unset, .unset, .unset, .unset, .unset, .unset, .unset]) rfl ?_
    refine XS.iload X0.here hx rfl (hb hby at_26) rfl ?_
    refine XS.bipush X0.here hx rfl (hb hby at_28) ?_
    refine XS.iushr X0.here hx rfl (hb hby at_30) rfl ?_
    refine XS.sipush X0.here hx rfl (hb hby at_31) ?_
    refine XS.iand X0.here hx rfl (hb hby at_34) rfl ?_
    refine XS.i2c X0.here hx rfl (hb hby at_35) rfl ?_
    refine XS.istore X0.here hx rfl (hb hby at_36) rfl (l' := #[.val (.int p0), .val (.int p1), .val (.int p2), .val (.int p3), .val (.int p4), .val (.int p5), .val (.int (p0 &&& (3 : Int32))), .val (.int ((p4 &&& (255 : Int32)).toUInt32.toUInt16.toUInt32.toInt32)), .val (.int ((((p4.toUInt32 >>> ((8 : Int32) &&& 31).toUInt32).toInt32) &&& (255 : Int32)).toUInt32.toUInt16.toUInt32.toInt32)), .val (.int ((((p4.toUInt32 >>> ((16 : Int32) &&& 31).toUInt32).toInt32) &&& (255 : Int32)).toUInt32.toUInt16.toUInt32.toInt32)), .unset, .unset, .unset, .unset, .unset, .unset]) rfl ?_
    refine XS.iload X0.here hx rfl (hb hby at_38) rfl ?_
    refine XS.bipush X0.here hx rfl (hb hby at_40) ?_
    refine XS.iushr X0.here hx rfl (hb hby at_42) rfl ?_
    refine XS.sipush X0.here hx rfl (hb hby at_43) ?_
    refine XS.iand X0.here hx rfl (hb hby at_46) rfl ?_
    refine XS.i2c X0.here hx rfl (hb hby at_47) rfl ?_
    refine XS.istore X0.here hx rfl (hb hby at_48) rfl (l' := #[.val (.int p0), .val (.int p1), .val (.int p2), .val (.int p3), .val (.int p4), .val (.int p5), .val (.int (p0 &&& (3 : Int32))), .val (.int ((p4 &&& (255 : Int32)).toUInt32.toUInt16.toUInt32.toInt32)), .val (.int ((((p4.toUInt32 >>> ((8 : Int32) &&& 31).toUInt32).toInt32) &&& (255 : Int32)).toUInt32.toUInt16.toUInt32.toInt32)), .val (.int ((((p4.toUInt32 >>> ((16 : Int32) &&& 31).toUInt32).toInt32) &&& (255 : Int32)).toUInt32.toUInt16.toUInt32.toInt32)), .val (.int ((((p4.toUInt32 >>> ((24 : Int32) &&& 31).toUInt32).toInt32) &&& (255 : Int32)).toUInt32.toUInt16.toUInt32.toInt32)), .unset, .unset, .unset, .unset, .unset]) rfl ?_
    refine XS.iload X0.here hx rfl (hb hby at_50) rfl ?_
    refine XS.sipush X0.here hx rfl (hb hby at_52) ?_
    refine XS.iand X0.here hx rfl (hb hby at_55) rfl ?_
    refine XS.i2c X0.here hx rfl (hb hby at_56) rfl ?_
    refine XS.istore X0.here hx rfl (hb hby at_57) rfl (l' := #[.val (.int p0), .val (.int p1), .val (.int p2), .val (.int p3), .val (.int p4), .val (.int p5), .val (.int (p0 &&& (3 : Int32))), .val (.int ((p4 &&& (255 : Int32)).toUInt32.toUInt16.toUInt32.toInt32)), .val (.int ((((p4.toUInt32 >>> ((8 : Int32) &&& 31).toUInt32).toInt32) &&& (255 : Int32)).toUInt32.toUInt16.toUInt32.toInt32)), .val (.int ((((p4.toUInt32 >>> ((16 : Int32) &&& 31).toUInt32).toInt32) &&& (255 : Int32)).toUInt32.toUInt16.toUInt32.toInt32)), .val (.int ((((p4.toUInt32 >>> ((24 : Int32) &&& 31).toUInt32).toInt32) &&& (255 : Int32)).toUInt32.toUInt16.toUInt32.toInt32)), .val (.int ((p5 &&& (255 : Int32)).toUInt32.toUInt16.toUInt32.toInt32)), .unset, .unset, .unset, .unset]) rfl ?_
    refine XS.iconst X0.here hx rfl (hb hby at_59) ?_
    exact k
  obtain ⟨T238, h238, k238, X238, e238, E238, A238, st238⟩ := newP X0 hx hZ (hw _ (List.mem_of_getElem? (i := 0) rfl)) e0 (g := (mkF m 60 #[.val (.int p0), .val (.int p1), .val (.int p2), .val (.int p3), .val (.int p4), .val (.int p5), .val (.int (p0 &&& (3 : Int32))), .val (.int ((p4 &&& (255 : Int32)).toUInt32.toUInt16.toUInt32.toInt32)), .val (.int ((((p4.toUInt32 >>> ((8 : Int32) &&& 31).toUInt32).toInt32) &&& (255 : Int32)).toUInt32.toUInt16.toUInt32.toInt32)), .val (.int ((((p4.toUInt32 >>> ((16 : Int32) &&& 31).toUInt32).toInt32) &&& (255 : Int32)).toUInt32.toUInt16.toUInt32.toInt32)), .val (.int ((((p4.toUInt32 >>> ((24 : Int32) &&& 31).toUInt32).toInt32) &&& (255 : Int32)).toUInt32.toUInt16.toUInt32.toInt32)), .val (.int ((p5 &&& (255 : Int32)).toUInt32.toUInt16.toUInt32.toInt32)), .unset, .unset, .unset, .unset] [(.int (5 : Int32))])) rfl (hb hby at_60) rfl (by decide) (cap := 5) (by decide) (by decide) (by decide) (by decide)
  obtain ⟨b238, g238⟩ : ∃ z, z = h0.size := ⟨_, rfl⟩
  rw [← g238] at A238 st238
  refine OwnGo.of st238 ?_
  have gn_b238 : Safe Z consts_1 s.vm h238 b238 := Safe.ext E238 C0.1 (Safe.new (Nat.le_of_eq g238.symm))
  have g_b238 : n0 ≤ b238 := Nat.le_trans Z0 (Nat.le_of_eq g238.symm)
  have sz_b238 : h0.size ≤ b238 := Nat.le_trans K0.1 (Nat.le_of_eq g238.symm)
  have cs239 := CHr.ext E238 C0.1
  have f240 : n0 ≤ h238.size := Nat.le_trans Z0 E238.1
  have f241 : OwnB s s h238 := B0.ext E238
  have f242 : CHr Z consts_1 s.vm h0 s.vm h238 := C0.trans cs239
  have f243 : Keep h0 h238 [] := K0.ext E238
  have f244 : Arv Z h238 b238 k238 .char (5 : Int32) [(.int (0 : Int32)), (.int (0 : Int32)), (.int (0 : Int32)), (.int (0 : Int32)), (.int (0 : Int32))] (.int (0 : Int32)) := (Arv.new A238 (by decide)).pad (pad_rep [] (.int (0 : Int32)) 5)
  show OwnGo p.tables e below _ (T238.setTop (mkF m 62 #[.val (.int p0), .val (.int p1), .val (.int p2), .val (.int p3), .val (.int p4), .val (.int p5), .val (.int (p0 &&& (3 : Int32))), .val (.int ((p4 &&& (255 : Int32)).toUInt32.toUInt16.toUInt32.toInt32)), .val (.int ((((p4.toUInt32 >>> ((8 : Int32) &&& 31).toUInt32).toInt32) &&& (255 : Int32)).toUInt32.toUInt16.toUInt32.toInt32)), .val (.int ((((p4.toUInt32 >>> ((16 : Int32) &&& 31).toUInt32).toInt32) &&& (255 : Int32)).toUInt32.toUInt16.toUInt32.toInt32)), .val (.int ((((p4.toUInt32 >>> ((24 : Int32) &&& 31).toUInt32).toInt32) &&& (255 : Int32)).toUInt32.toUInt16.toUInt32.toInt32)), .val (.int ((p5 &&& (255 : Int32)).toUInt32.toUInt16.toUInt32.toInt32)), .unset, .unset, .unset, .unset] [(.ref b238)]))
  refine OwnGo.of (A := T238.setTop (mkF m 62 #[.val (.int p0), .val (.int p1), .val (.int p2), .val (.int p3), .val (.int p4), .val (.int p5), .val (.int (p0 &&& (3 : Int32))), .val (.int ((p4 &&& (255 : Int32)).toUInt32.toUInt16.toUInt32.toInt32)), .val (.int ((((p4.toUInt32 >>> ((8 : Int32) &&& 31).toUInt32).toInt32) &&& (255 : Int32)).toUInt32.toUInt16.toUInt32.toInt32)), .val (.int ((((p4.toUInt32 >>> ((16 : Int32) &&& 31).toUInt32).toInt32) &&& (255 : Int32)).toUInt32.toUInt16.toUInt32.toInt32)), .val (.int ((((p4.toUInt32 >>> ((24 : Int32) &&& 31).toUInt32).toInt32) &&& (255 : Int32)).toUInt32.toUInt16.toUInt32.toInt32)), .val (.int ((p5 &&& (255 : Int32)).toUInt32.toUInt16.toUInt32.toInt32)), .unset, .unset, .unset, .unset] [(.ref b238)])) (B := T238.setTop (mkF m 66 #[.val (.int p0), .val (.int p1), .val (.int p2), .val (.int p3), .val (.int p4), .val (.int p5), .val (.int (p0 &&& (3 : Int32))), .val (.int ((p4 &&& (255 : Int32)).toUInt32.toUInt16.toUInt32.toInt32)), .val (.int ((((p4.toUInt32 >>> ((8 : Int32) &&& 31).toUInt32).toInt32) &&& (255 : Int32)).toUInt32.toUInt16.toUInt32.toInt32)), .val (.int ((((p4.toUInt32 >>> ((16 : Int32) &&& 31).toUInt32).toInt32) &&& (255 : Int32)).toUInt32.toUInt16.toUInt32.toInt32)), .val (.int ((((p4.toUInt32 >>> ((24 : Int32) &&& 31).toUInt32).toInt32) &&& (255 : Int32)).toUInt32.toUInt16.toUInt32.toInt32)), .val (.int ((p5 &&& (255 : Int32)).toUInt32.toUInt16.toUInt32.toInt32)), .val (.ref b238), .unset, .unset, .unset] [(.int (p0 &&& (3 : Int32)))])) (fun t k => ?_) ?_
  · show Steps p.tables e below (T238.setTop (mkF m 62 #[.val (.int p0), .val (.int p1), .val (.int p2), .val (.int p3), .val (.int p4), .val (.int p5), .val (.int (p0 &&& (3 : Int32))), .val (.int ((p4 &&& (255 : Int32)).toUInt32.toUInt16.toUInt32.toInt32)), .val (.int ((((p4.toUInt32 >>> ((8 : Int32) &&& 31).toUInt32).toInt32) &&& (255 : Int32)).toUInt32.toUInt16.toUInt32.toInt32)), .val (.int ((((p4.toUInt32 >>> ((16 : Int32) &&& 31).toUInt32).toInt32) &&& (255 : Int32)).toUInt32.toUInt16.toUInt32.toInt32)), .val (.int ((((p4.toUInt32 >>> ((24 : Int32) &&& 31).toUInt32).toInt32) &&& (255 : Int32)).toUInt32.toUInt16.toUInt32.toInt32)), .val (.int ((p5 &&& (255 : Int32)).toUInt32.toUInt16.toUInt32.toInt32)), .unset, .unset, .unset, .unset] [(.ref b238)])) t
    refine XS.astore X238.here hx rfl (hb hby at_62) rfl rfl (l' := #[.val (.int p0), .val (.int p1), .val (.int p2), .val (.int p3), .val (.int p4), .val (.int p5), .val (.int (p0 &&& (3 : Int32))), .val (.int ((p4 &&& (255 : Int32)).toUInt32.toUInt16.toUInt32.toInt32)), .val (.int ((((p4.toUInt32 >>> ((8 : Int32) &&& 31).toUInt32).toInt32) &&& (255 : Int32)).toUInt32.toUInt16.toUInt32.toInt32)), .val (.int ((((p4.toUInt32 >>> ((16 : Int32) &&& 31).toUInt32).toInt32) &&& (255 : Int32)).toUInt32.toUInt16.toUInt32.toInt32)), .val (.int ((((p4.toUInt32 >>> ((24 : Int32) &&& 31).toUInt32).toInt32) &&& (255 : Int32)).toUInt32.toUInt16.toUInt32.toInt32)), .val (.int ((p5 &&& (255 : Int32)).toUInt32.toUInt16.toUInt32.toInt32)), .val (.ref b238), .unset, .unset, .unset]) rfl ?_
    refine XS.iload X238.here hx rfl (hb hby at_64) rfl ?_
    exact k
  by_cases hc245 : (p0 &&& (3 : Int32)) = (0 : Int32)
  · refine OwnGo.of (A := T238.setTop (mkF m 66 #[.val (.int p0), .val (.int p1), .val (.int p2), .val (.int p3), .val (.int p4), .val (.int p5), .val (.int (p0 &&& (3 : Int32))), .val (.int ((p4 &&& (255 : Int32)).toUInt32.toUInt16.toUInt32.toInt32)), .val (.int ((((p4.toUInt32 >>> ((8 : Int32) &&& 31).toUInt32).toInt32) &&& (255 : Int32)).toUInt32.toUInt16.toUInt32.toInt32)), .val (.int ((((p4.toUInt32 >>> ((16 : Int32) &&& 31).toUInt32).toInt32) &&& (255 : Int32)).toUInt32.toUInt16.toUInt32.toInt32)), .val (.int ((((p4.toUInt32 >>> ((24 : Int32) &&& 31).toUInt32).toInt32) &&& (255 : Int32)).toUInt32.toUInt16.toUInt32.toInt32)), .val (.int ((p5 &&& (255 : Int32)).toUInt32.toUInt16.toUInt32.toInt32)), .val (.ref b238), .unset, .unset, .unset] [(.int (p0 &&& (3 : Int32)))])) (B := T238.setTop (mkF m 74 #[.val (.int p0), .val (.int p1), .val (.int p2), .val (.int p3), .val (.int p4), .val (.int p5), .val (.int (p0 &&& (3 : Int32))), .val (.int ((p4 &&& (255 : Int32)).toUInt32.toUInt16.toUInt32.toInt32)), .val (.int ((((p4.toUInt32 >>> ((8 : Int32) &&& 31).toUInt32).toInt32) &&& (255 : Int32)).toUInt32.toUInt16.toUInt32.toInt32)), .val (.int ((((p4.toUInt32 >>> ((16 : Int32) &&& 31).toUInt32).toInt32) &&& (255 : Int32)).toUInt32.toUInt16.toUInt32.toInt32)), .val (.int ((((p4.toUInt32 >>> ((24 : Int32) &&& 31).toUInt32).toInt32) &&& (255 : Int32)).toUInt32.toUInt16.toUInt32.toInt32)), .val (.int ((p5 &&& (255 : Int32)).toUInt32.toUInt16.toUInt32.toInt32)), .val (.ref b238), .unset, .unset, .unset] [(.int (116 : Int32)), (.int (0 : Int32)), (.ref b238)])) (fun t k => ?_) ?_
    · show Steps p.tables e below (T238.setTop (mkF m 66 #[.val (.int p0), .val (.int p1), .val (.int p2), .val (.int p3), .val (.int p4), .val (.int p5), .val (.int (p0 &&& (3 : Int32))), .val (.int ((p4 &&& (255 : Int32)).toUInt32.toUInt16.toUInt32.toInt32)), .val (.int ((((p4.toUInt32 >>> ((8 : Int32) &&& 31).toUInt32).toInt32) &&& (255 : Int32)).toUInt32.toUInt16.toUInt32.toInt32)), .val (.int ((((p4.toUInt32 >>> ((16 : Int32) &&& 31).toUInt32).toInt32) &&& (255 : Int32)).toUInt32.toUInt16.toUInt32.toInt32)), .val (.int ((((p4.toUInt32 >>> ((24 : Int32) &&& 31).toUInt32).toInt32) &&& (255 : Int32)).toUInt32.toUInt16.toUInt32.toInt32)), .val (.int ((p5 &&& (255 : Int32)).toUInt32.toUInt16.toUInt32.toInt32)), .val (.ref b238), .unset, .unset, .unset] [(.int (p0 &&& (3 : Int32)))])) t
      refine XS.ifNo X238.here hx rfl (hb hby at_66) rfl ((if0 _ _).trans (teq hc245).2) ?_
      refine XS.aload X238.here hx rfl (hb hby at_69) rfl rfl ?_
      refine XS.iconst X238.here hx rfl (hb hby at_71) ?_
      refine XS.bipush X238.here hx rfl (hb hby at_72) ?_
      exact k
    have cq246 := f244
    obtain ⟨clq246, Arq246, qq246, Sq246, Nq246, Hq246, Gq246⟩ := cq246
    obtain ⟨T247, h247, X247, e247, W247, st247⟩ := stC X238 hx hZ e238 Arq246 (j := (0 : Int32)) (inb_of Sq246 ⟨by decide, by decide⟩) (g := (mkF m 74 #[.val (.int p0), .val (.int p1), .val (.int p2), .val (.int p3), .val (.int p4), .val (.int p5), .val (.int (p0 &&& (3 : Int32))), .val (.int ((p4 &&& (255 : Int32)).toUInt32.toUInt16.toUInt32.toInt32)), .val (.int ((((p4.toUInt32 >>> ((8 : Int32) &&& 31).toUInt32).toInt32) &&& (255 : Int32)).toUInt32.toUInt16.toUInt32.toInt32)), .val (.int ((((p4.toUInt32 >>> ((16 : Int32) &&& 31).toUInt32).toInt32) &&& (255 : Int32)).toUInt32.toUInt16.toUInt32.toInt32)), .val (.int ((((p4.toUInt32 >>> ((24 : Int32) &&& 31).toUInt32).toInt32) &&& (255 : Int32)).toUInt32.toUInt16.toUInt32.toInt32)), .val (.int ((p5 &&& (255 : Int32)).toUInt32.toUInt16.toUInt32.toInt32)), .val (.ref b238), .unset, .unset, .unset] [(.int (116 : Int32)), (.int (0 : Int32)), (.ref b238)])) rfl rfl (hb hby at_74)
    refine OwnGo.of st247 ?_
    have N247 := Fr.snoc X247 N0 g_b238
    have cs248 := CHr.wr W247 gn_b238 f242.1
    have f249 : n0 ≤ h247.size := Nat.le_trans f240 (Keep.of_wr W247).1
    have f250 : OwnB s s h247 := f241.wr W247
    have f251 : CHr Z consts_1 s.vm h0 s.vm h247 := f242.trans cs248
    have f252 : Keep h0 h247 [] := f243.wr W247 (Or.inr sz_b238)
    have f253 : Safe Z consts_1 s.vm h247 b238 := cs248.safe f244.lt gn_b238
    have f254 : Arv Z h247 b238 k238 .char (5 : Int32) [(.int ((116 : Int32)).toUInt32.toUInt16.toUInt32.toInt32), (.int (0 : Int32)), (.int (0 : Int32)), (.int (0 : Int32)), (.int (0 : Int32))] (.int (0 : Int32)) := Arv.set Arq246 qq246 Sq246 Nq246 Hq246 Gq246 (fits_nar_char _) W247 0 rfl (Nat.le_of_ble_eq_true rfl)
    show OwnGo p.tables e below _ (T247.setTop (mkF m 75 #[.val (.int p0), .val (.int p1), .val (.int p2), .val (.int p3), .val (.int p4), .val (.int p5), .val (.int (p0 &&& (3 : Int32))), .val (.int ((p4 &&& (255 : Int32)).toUInt32.toUInt16.toUInt32.toInt32)), .val (.int ((((p4.toUInt32 >>> ((8 : Int32) &&& 31).toUInt32).toInt32) &&& (255 : Int32)).toUInt32.toUInt16.toUInt32.toInt32)), .val (.int ((((p4.toUInt32 >>> ((16 : Int32) &&& 31).toUInt32).toInt32) &&& (255 : Int32)).toUInt32.toUInt16.toUInt32.toInt32)), .val (.int ((((p4.toUInt32 >>> ((24 : Int32) &&& 31).toUInt32).toInt32) &&& (255 : Int32)).toUInt32.toUInt16.toUInt32.toInt32)), .val (.int ((p5 &&& (255 : Int32)).toUInt32.toUInt16.toUInt32.toInt32)), .val (.ref b238), .unset, .unset, .unset] []))
    refine OwnGo.of (A := T247.setTop (mkF m 75 #[.val (.int p0), .val (.int p1), .val (.int p2), .val (.int p3), .val (.int p4), .val (.int p5), .val (.int (p0 &&& (3 : Int32))), .val (.int ((p4 &&& (255 : Int32)).toUInt32.toUInt16.toUInt32.toInt32)), .val (.int ((((p4.toUInt32 >>> ((8 : Int32) &&& 31).toUInt32).toInt32) &&& (255 : Int32)).toUInt32.toUInt16.toUInt32.toInt32)), .val (.int ((((p4.toUInt32 >>> ((16 : Int32) &&& 31).toUInt32).toInt32) &&& (255 : Int32)).toUInt32.toUInt16.toUInt32.toInt32)), .val (.int ((((p4.toUInt32 >>> ((24 : Int32) &&& 31).toUInt32).toInt32) &&& (255 : Int32)).toUInt32.toUInt16.toUInt32.toInt32)), .val (.int ((p5 &&& (255 : Int32)).toUInt32.toUInt16.toUInt32.toInt32)), .val (.ref b238), .unset, .unset, .unset] [])) (B := T247.setTop (mkF m 80 #[.val (.int p0), .val (.int p1), .val (.int p2), .val (.int p3), .val (.int p4), .val (.int p5), .val (.int (p0 &&& (3 : Int32))), .val (.int ((p4 &&& (255 : Int32)).toUInt32.toUInt16.toUInt32.toInt32)), .val (.int ((((p4.toUInt32 >>> ((8 : Int32) &&& 31).toUInt32).toInt32) &&& (255 : Int32)).toUInt32.toUInt16.toUInt32.toInt32)), .val (.int ((((p4.toUInt32 >>> ((16 : Int32) &&& 31).toUInt32).toInt32) &&& (255 : Int32)).toUInt32.toUInt16.toUInt32.toInt32)), .val (.int ((((p4.toUInt32 >>> ((24 : Int32) &&& 31).toUInt32).toInt32) &&& (255 : Int32)).toUInt32.toUInt16.toUInt32.toInt32)), .val (.int ((p5 &&& (255 : Int32)).toUInt32.toUInt16.toUInt32.toInt32)), .val (.ref b238), .unset, .unset, .unset] [(.int (101 : Int32)), (.int (1 : Int32)), (.ref b238)])) (fun t k => ?_) ?_
    · show Steps p.tables e below (T247.setTop (mkF m 75 #[.val (.int p0), .val (.int p1), .val (.int p2), .val (.int p3), .val (.int p4), .val (.int p5), .val (.int (p0 &&& (3 : Int32))), .val (.int ((p4 &&& (255 : Int32)).toUInt32.toUInt16.toUInt32.toInt32)), .val (.int ((((p4.toUInt32 >>> ((8 : Int32) &&& 31).toUInt32).toInt32) &&& (255 : Int32)).toUInt32.toUInt16.toUInt32.toInt32)), .val (.int ((((p4.toUInt32 >>> ((16 : Int32) &&& 31).toUInt32).toInt32) &&& (255 : Int32)).toUInt32.toUInt16.toUInt32.toInt32)), .val (.int ((((p4.toUInt32 >>> ((24 : Int32) &&& 31).toUInt32).toInt32) &&& (255 : Int32)).toUInt32.toUInt16.toUInt32.toInt32)), .val (.int ((p5 &&& (255 : Int32)).toUInt32.toUInt16.toUInt32.toInt32)), .val (.ref b238), .unset, .unset, .unset] [])) t
      refine XS.aload X247.here hx rfl (hb hby at_75) rfl rfl ?_
      refine XS.iconst X247.here hx rfl (hb hby at_77) ?_
      refine XS.bipush X247.here hx rfl (hb hby at_78) ?_
      exact k
    have cq255 := f254
    obtain ⟨clq255, Arq255, qq255, Sq255, Nq255, Hq255, Gq255⟩ := cq255
    obtain ⟨T256, h256, X256, e256, W256, st256⟩ := stC X247 hx hZ e247 Arq255 (j := (1 : Int32)) (inb_of Sq255 ⟨by decide, by decide⟩) (g := (mkF m 80 #[.val (.int p0), .val (.int p1), .val (.int p2), .val (.int p3), .val (.int p4), .val (.int p5), .val (.int (p0 &&& (3 : Int32))), .val (.int ((p4 &&& (255 : Int32)).toUInt32.toUInt16.toUInt32.toInt32)), .val (.int ((((p4.toUInt32 >>> ((8 : Int32) &&& 31).toUInt32).toInt32) &&& (255 : Int32)).toUInt32.toUInt16.toUInt32.toInt32)), .val (.int ((((p4.toUInt32 >>> ((16 : Int32) &&& 31).toUInt32).toInt32) &&& (255 : Int32)).toUInt32.toUInt16.toUInt32.toInt32)), .val (.int ((((p4.toUInt32 >>> ((24 : Int32) &&& 31).toUInt32).toInt32) &&& (255 : Int32)).toUInt32.toUInt16.toUInt32.toInt32)), .val (.int ((p5 &&& (255 : Int32)).toUInt32.toUInt16.toUInt32.toInt32)), .val (.ref b238), .unset, .unset, .unset] [(.int (101 : Int32)), (.int (1 : Int32)), (.ref b238)])) rfl rfl (hb hby at_80)
    refine OwnGo.of st256 ?_
    have N256 := Fr.snoc X256 N247 g_b238
    have cs257 := CHr.wr W256 f253 f251.1
    have f258 : n0 ≤ h256.size := Nat.le_trans f249 (Keep.of_wr W256).1
    have f259 : OwnB s s h256 := f250.wr W256
    have f260 : CHr Z consts_1 s.vm h0 s.vm h256 := f251.trans cs257
    have f261 : Keep h0 h256 [] := f252.wr W256 (Or.inr sz_b238)
    have f262 : Safe Z consts_1 s.vm h256 b238 := cs257.safe f254.lt f253
    have f263 : Arv Z h256 b238 k238 .char (5 : Int32) [(.int ((116 : Int32)).toUInt32.toUInt16.toUInt32.toInt32), (.int ((101 : Int32)).toUInt32.toUInt16.toUInt32.toInt32), (.int (0 : Int32)), (.int (0 : Int32)), (.int (0 : Int32))] (.int (0 : Int32)) := Arv.set Arq255 qq255 Sq255 Nq255 Hq255 Gq255 (fits_nar_char _) W256 1 rfl (Nat.le_of_ble_eq_true rfl)
    show OwnGo p.tables e below _ (T256.setTop (mkF m 81 #[.val (.int p0), .val (.int p1), .val (.int p2), .val (.int p3), .val (.int p4), .val (.int p5), .val (.int (p0 &&& (3 : Int32))), .val (.int ((p4 &&& (255 : Int32)).toUInt32.toUInt16.toUInt32.toInt32)), .val (.int ((((p4.toUInt32 >>> ((8 : Int32) &&& 31).toUInt32).toInt32) &&& (255 : Int32)).toUInt32.toUInt16.toUInt32.toInt32)), .val (.int ((((p4.toUInt32 >>> ((16 : Int32) &&& 31).toUInt32).toInt32) &&& (255 : Int32)).toUInt32.toUInt16.toUInt32.toInt32)), .val (.int ((((p4.toUInt32 >>> ((24 : Int32) &&& 31).toUInt32).toInt32) &&& (255 : Int32)).toUInt32.toUInt16.toUInt32.toInt32)), .val (.int ((p5 &&& (255 : Int32)).toUInt32.toUInt16.toUInt32.toInt32)), .val (.ref b238), .unset, .unset, .unset] []))
    refine OwnGo.of (A := T256.setTop (mkF m 81 #[.val (.int p0), .val (.int p1), .val (.int p2), .val (.int p3), .val (.int p4), .val (.int p5), .val (.int (p0 &&& (3 : Int32))), .val (.int ((p4 &&& (255 : Int32)).toUInt32.toUInt16.toUInt32.toInt32)), .val (.int ((((p4.toUInt32 >>> ((8 : Int32) &&& 31).toUInt32).toInt32) &&& (255 : Int32)).toUInt32.toUInt16.toUInt32.toInt32)), .val (.int ((((p4.toUInt32 >>> ((16 : Int32) &&& 31).toUInt32).toInt32) &&& (255 : Int32)).toUInt32.toUInt16.toUInt32.toInt32)), .val (.int ((((p4.toUInt32 >>> ((24 : Int32) &&& 31).toUInt32).toInt32) &&& (255 : Int32)).toUInt32.toUInt16.toUInt32.toInt32)), .val (.int ((p5 &&& (255 : Int32)).toUInt32.toUInt16.toUInt32.toInt32)), .val (.ref b238), .unset, .unset, .unset] [])) (B := T256.setTop (mkF m 86 #[.val (.int p0), .val (.int p1), .val (.int p2), .val (.int p3), .val (.int p4), .val (.int p5), .val (.int (p0 &&& (3 : Int32))), .val (.int ((p4 &&& (255 : Int32)).toUInt32.toUInt16.toUInt32.toInt32)), .val (.int ((((p4.toUInt32 >>> ((8 : Int32) &&& 31).toUInt32).toInt32) &&& (255 : Int32)).toUInt32.toUInt16.toUInt32.toInt32)), .val (.int ((((p4.toUInt32 >>> ((16 : Int32) &&& 31).toUInt32).toInt32) &&& (255 : Int32)).toUInt32.toUInt16.toUInt32.toInt32)), .val (.int ((((p4.toUInt32 >>> ((24 : Int32) &&& 31).toUInt32).toInt32) &&& (255 : Int32)).toUInt32.toUInt16.toUInt32.toInt32)), .val (.int ((p5 &&& (255 : Int32)).toUInt32.toUInt16.toUInt32.toInt32)), .val (.ref b238), .unset, .unset, .unset] [(.int (105 : Int32)), (.int (2 : Int32)), (.ref b238)])) (fun t k => ?_) ?_
    · show Steps p.tables e below (T256.setTop (mkF m 81 #[.val (.int p0), .val (.int p1), .val (.int p2), .val (.int p3), .val (.int p4), .val (.int p5), .val (.int (p0 &&& (3 : Int32))), .val (.int ((p4 &&& (255 : Int32)).toUInt32.toUInt16.toUInt32.toInt32)), .val (.int ((((p4.toUInt32 >>> ((8 : Int32) &&& 31).toUInt32).toInt32) &&& (255 : Int32)).toUInt32.toUInt16.toUInt32.toInt32)), .val (.int ((((p4.toUInt32 >>> ((16 : Int32) &&& 31).toUInt32).toInt32) &&& (255 : Int32)).toUInt32.toUInt16.toUInt32.toInt32)), .val (.int ((((p4.toUInt32 >>> ((24 : Int32) &&& 31).toUInt32).toInt32) &&& (255 : Int32)).toUInt32.toUInt16.toUInt32.toInt32)), .val (.int ((p5 &&& (255 : Int32)).toUInt32.toUInt16.toUInt32.toInt32)), .val (.ref b238), .unset, .unset, .unset] [])) t
      refine XS.aload X256.here hx rfl (hb hby at_81) rfl rfl ?_
      refine XS.iconst X256.here hx rfl (hb hby at_83) ?_
      refine XS.bipush X256.here hx rfl (hb hby at_84) ?_
      exact k
    have cq264 := f263
    obtain ⟨clq264, Arq264, qq264, Sq264, Nq264, Hq264, Gq264⟩ := cq264
    obtain ⟨T265, h265, X265, e265, W265, st265⟩ := stC X256 hx hZ e256 Arq264 (j := (2 : Int32)) (inb_of Sq264 ⟨by decide, by decide⟩) (g := (mkF m 86 #[.val (.int p0), .val (.int p1), .val (.int p2), .val (.int p3), .val (.int p4), .val (.int p5), .val (.int (p0 &&& (3 : Int32))), .val (.int ((p4 &&& (255 : Int32)).toUInt32.toUInt16.toUInt32.toInt32)), .val (.int ((((p4.toUInt32 >>> ((8 : Int32) &&& 31).toUInt32).toInt32) &&& (255 : Int32)).toUInt32.toUInt16.toUInt32.toInt32)), .val (.int ((((p4.toUInt32 >>> ((16 : Int32) &&& 31).toUInt32).toInt32) &&& (255 : Int32)).toUInt32.toUInt16.toUInt32.toInt32)), .val (.int ((((p4.toUInt32 >>> ((24 : Int32) &&& 31).toUInt32).toInt32) &&& (255 : Int32)).toUInt32.toUInt16.toUInt32.toInt32)), .val (.int ((p5 &&& (255 : Int32)).toUInt32.toUInt16.toUInt32.toInt32)), .val (.ref b238), .unset, .unset, .unset] [(.int (105 : Int32)), (.int (2 : Int32)), (.ref b238)])) rfl rfl (hb hby at_86)
    refine OwnGo.of st265 ?_
    have N265 := Fr.snoc X265 N256 g_b238
    have cs266 := CHr.wr W265 f262 f260.1
    have f267 : n0 ≤ h265.size := Nat.le_trans f258 (Keep.of_wr W265).1
    have f268 : OwnB s s h265 := f259.wr W265
    have f269 : CHr Z consts_1 s.vm h0 s.vm h265 := f260.trans cs266
    have f270 : Keep h0 h265 [] := f261.wr W265 (Or.inr sz_b238)
    have f271 : Safe Z consts_1 s.vm h265 b238 := cs266.safe f263.lt f262
    have f272 : Arv Z h265 b238 k238 .char (5 : Int32) [(.int ((116 : Int32)).toUInt32.toUInt16.toUInt32.toInt32), (.int ((101 : Int32)).toUInt32.toUInt16.toUInt32.toInt32), (.int ((105 : Int32)).toUInt32.toUInt16.toUInt32.toInt32), (.int (0 : Int32)), (.int (0 : Int32))] (.int (0 : Int32)) := Arv.set Arq264 qq264 Sq264 Nq264 Hq264 Gq264 (fits_nar_char _) W265 2 rfl (Nat.le_of_ble_eq_true rfl)
    show OwnGo p.tables e below _ (T265.setTop (mkF m 87 #[.val (.int p0), .val (.int p1), .val (.int p2), .val (.int p3), .val (.int p4), .val (.int p5), .val (.int (p0 &&& (3 : Int32))), .val (.int ((p4 &&& (255 : Int32)).toUInt32.toUInt16.toUInt32.toInt32)), .val (.int ((((p4.toUInt32 >>> ((8 : Int32) &&& 31).toUInt32).toInt32) &&& (255 : Int32)).toUInt32.toUInt16.toUInt32.toInt32)), .val (.int ((((p4.toUInt32 >>> ((16 : Int32) &&& 31).toUInt32).toInt32) &&& (255 : Int32)).toUInt32.toUInt16.toUInt32.toInt32)), .val (.int ((((p4.toUInt32 >>> ((24 : Int32) &&& 31).toUInt32).toInt32) &&& (255 : Int32)).toUInt32.toUInt16.toUInt32.toInt32)), .val (.int ((p5 &&& (255 : Int32)).toUInt32.toUInt16.toUInt32.toInt32)), .val (.ref b238), .unset, .unset, .unset] []))
    refine OwnGo.of (A := T265.setTop (mkF m 87 #[.val (.int p0), .val (.int p1), .val (.int p2), .val (.int p3), .val (.int p4), .val (.int p5), .val (.int (p0 &&& (3 : Int32))), .val (.int ((p4 &&& (255 : Int32)).toUInt32.toUInt16.toUInt32.toInt32)), .val (.int ((((p4.toUInt32 >>> ((8 : Int32) &&& 31).toUInt32).toInt32) &&& (255 : Int32)).toUInt32.toUInt16.toUInt32.toInt32)), .val (.int ((((p4.toUInt32 >>> ((16 : Int32) &&& 31).toUInt32).toInt32) &&& (255 : Int32)).toUInt32.toUInt16.toUInt32.toInt32)), .val (.int ((((p4.toUInt32 >>> ((24 : Int32) &&& 31).toUInt32).toInt32) &&& (255 : Int32)).toUInt32.toUInt16.toUInt32.toInt32)), .val (.int ((p5 &&& (255 : Int32)).toUInt32.toUInt16.toUInt32.toInt32)), .val (.ref b238), .unset, .unset, .unset] [])) (B := T265.setTop (mkF m 92 #[.val (.int p0), .val (.int p1), .val (.int p2), .val (.int p3), .val (.int p4), .val (.int p5), .val (.int (p0 &&& (3 : Int32))), .val (.int ((p4 &&& (255 : Int32)).toUInt32.toUInt16.toUInt32.toInt32)), .val (.int ((((p4.toUInt32 >>> ((8 : Int32) &&& 31).toUInt32).toInt32) &&& (255 : Int32)).toUInt32.toUInt16.toUInt32.toInt32)), .val (.int ((((p4.toUInt32 >>> ((16 : Int32) &&& 31).toUInt32).toInt32) &&& (255 : Int32)).toUInt32.toUInt16.toUInt32.toInt32)), .val (.int ((((p4.toUInt32 >>> ((24 : Int32) &&& 31).toUInt32).toInt32) &&& (255 : Int32)).toUInt32.toUInt16.toUInt32.toInt32)), .val (.int ((p5 &&& (255 : Int32)).toUInt32.toUInt16.toUInt32.toInt32)), .val (.ref b238), .unset, .unset, .unset] [(.int ((((p4.toUInt32 >>> ((24 : Int32) &&& 31).toUInt32).toInt32) &&& (255 : Int32)).toUInt32.toUInt16.toUInt32.toInt32)), (.int (3 : Int32)), (.ref b238)])) (fun t k => ?_) ?_
    · show Steps p.tables e below (T265.setTop (mkF m 87 #[.val (.int p0), .val (.int p1), .val (.int p2), .val (.int p3), .val (.int p4), .val (.int p5), .val (.int (p0 &&& (3 : Int32))), .val (.int ((p4 &&& (255 : Int32)).toUInt32.toUInt16.toUInt32.toInt32)), .val (.int ((((p4.toUInt32 >>> ((8 : Int32) &&& 31).toUInt32).toInt32) &&& (255 : Int32)).toUInt32.toUInt16.toUInt32.toInt32)), .val (.int ((((p4.toUInt32 >>> ((16 : Int32) &&& 31).toUInt32).toInt32) &&& (255 : Int32)).toUInt32.toUInt16.toUInt32.toInt32)), .val (.int ((((p4.toUInt32 >>> ((24 : Int32) &&& 31).toUInt32).toInt32) &&& (255 : Int32)).toUInt32.toUInt16.toUInt32.toInt32)), .val (.int ((p5 &&& (255 : Int32)).toUInt32.toUInt16.toUInt32.toInt32)), .val (.ref b238), .unset, .unset, .unset] [])) t
      refine XS.aload X265.here hx rfl (hb hby at_87) rfl rfl ?_
      refine XS.iconst X265.here hx rfl (hb hby at_89) ?_
      refine XS.iload X265.here hx rfl (hb hby at_90) rfl ?_
      exact k
    have cq273 := f272
    obtain ⟨clq273, Arq273, qq273, Sq273, Nq273, Hq273, Gq273⟩ := cq273
    obtain ⟨T274, h274, X274, e274, W274, st274⟩ := stC X265 hx hZ e265 Arq273 (j := (3 : Int32)) (inb_of Sq273 ⟨by decide, by decide⟩) (g := (mkF m 92 #[.val (.int p0), .val (.int p1), .val (.int p2), .val (.int p3), .val (.int p4), .val (.int p5), .val (.int (p0 &&& (3 : Int32))), .val (.int ((p4 &&& (255 : Int32)).toUInt32.toUInt16.toUInt32.toInt32)), .val (.int ((((p4.toUInt32 >>> ((8 : Int32) &&& 31).toUInt32).toInt32) &&& (255 : Int32)).toUInt32.toUInt16.toUInt32.toInt32)), .val (.int ((((p4.toUInt32 >>> ((16 : Int32) &&& 31).toUInt32).toInt32) &&& (255 : Int32)).toUInt32.toUInt16.toUInt32.toInt32)), .val (.int ((((p4.toUInt32 >>> ((24 : Int32) &&& 31).toUInt32).toInt32) &&& (255 : Int32)).toUInt32.toUInt16.toUInt32.toInt32)), .val (.int ((p5 &&& (255 : Int32)).toUInt32.toUInt16.toUInt32.toInt32)), .val (.ref b238), .unset, .unset, .unset] [(.int ((((p4.toUInt32 >>> ((24 : Int32) &&& 31).toUInt32).toInt32) &&& (255 : Int32)).toUInt32.toUInt16.toUInt32.toInt32)), (.int (3 : Int32)), (.ref b238)])) rfl rfl (hb hby at_92)
    refine OwnGo.of st274 ?_
    have N274 := Fr.snoc X274 N265 g_b238
    have cs275 := CHr.wr W274 f271 f269.1
    have f276 : n0 ≤ h274.size := Nat.le_trans f267 (Keep.of_wr W274).1
    have f277 : OwnB s s h274 := f268.wr W274
    have f278 : CHr Z consts_1 s.vm h0 s.vm h274 := f269.trans cs275
    have f279 : Keep h0 h274 [] := f270.wr W274 (Or.inr sz_b238)
    have f280 : Safe Z consts_1 s.vm h274 b238 := cs275.safe f272.lt f271
    have f281 : Arv Z h274 b238 k238 .char (5 : Int32) [(.int ((116 : Int32)).toUInt32.toUInt16.toUInt32.toInt32), (.int ((101 : Int32)).toUInt32.toUInt16.toUInt32.toInt32), (.int ((105 : Int32)).toUInt32.toUInt16.toUInt32.toInt32), (.int (((((p4.toUInt32 >>> ((24 : Int32) &&& 31).toUInt32).toInt32) &&& (255 : Int32)).toUInt32.toUInt16.toUInt32.toInt32)).toUInt32.toUInt16.toUInt32.toInt32), (.int (0 : Int32))] (.int (0 : Int32)) := Arv.set Arq273 qq273 Sq273 Nq273 Hq273 Gq273 (fits_nar_char _) W274 3 rfl (Nat.le_of_ble_eq_true rfl)
    show OwnGo p.tables e below _ (T274.setTop (mkF m 93 #[.val (.int p0), .val (.int p1), .val (.int p2), .val (.int p3), .val (.int p4), .val (.int p5), .val (.int (p0 &&& (3 : Int32))), .val (.int ((p4 &&& (255 : Int32)).toUInt32.toUInt16.toUInt32.toInt32)), .val (.int ((((p4.toUInt32 >>> ((8 : Int32) &&& 31).toUInt32).toInt32) &&& (255 : Int32)).toUInt32.toUInt16.toUInt32.toInt32)), .val (.int ((((p4.toUInt32 >>> ((16 : Int32) &&& 31).toUInt32).toInt32) &&& (255 : Int32)).toUInt32.toUInt16.toUInt32.toInt32)), .val (.int ((((p4.toUInt32 >>> ((24 : Int32) &&& 31).toUInt32).toInt32) &&& (255 : Int32)).toUInt32.toUInt16.toUInt32.toInt32)), .val (.int ((p5 &&& (255 : Int32)).toUInt32.toUInt16.toUInt32.toInt32)), .val (.ref b238), .unset, .unset, .unset] []))
    refine OwnGo.of (A := T274.setTop (mkF m 93 #[.val (.int p0), .val (.int p1), .val (.int p2), .val (.int p3), .val (.int p4), .val (.int p5), .val (.int (p0 &&& (3 : Int32))), .val (.int ((p4 &&& (255 : Int32)).toUInt32.toUInt16.toUInt32.toInt32)), .val (.int ((((p4.toUInt32 >>> ((8 : Int32) &&& 31).toUInt32).toInt32) &&& (255 : Int32)).toUInt32.toUInt16.toUInt32.toInt32)), .val (.int ((((p4.toUInt32 >>> ((16 : Int32) &&& 31).toUInt32).toInt32) &&& (255 : Int32)).toUInt32.toUInt16.toUInt32.toInt32)), .val (.int ((((p4.toUInt32 >>> ((24 : Int32) &&& 31).toUInt32).toInt32) &&& (255 : Int32)).toUInt32.toUInt16.toUInt32.toInt32)), .val (.int ((p5 &&& (255 : Int32)).toUInt32.toUInt16.toUInt32.toInt32)), .val (.ref b238), .unset, .unset, .unset] [])) (B := T274.setTop (mkF m 98 #[.val (.int p0), .val (.int p1), .val (.int p2), .val (.int p3), .val (.int p4), .val (.int p5), .val (.int (p0 &&& (3 : Int32))), .val (.int ((p4 &&& (255 : Int32)).toUInt32.toUInt16.toUInt32.toInt32)), .val (.int ((((p4.toUInt32 >>> ((8 : Int32) &&& 31).toUInt32).toInt32) &&& (255 : Int32)).toUInt32.toUInt16.toUInt32.toInt32)), .val (.int ((((p4.toUInt32 >>> ((16 : Int32) &&& 31).toUInt32).toInt32) &&& (255 : Int32)).toUInt32.toUInt16.toUInt32.toInt32)), .val (.int ((((p4.toUInt32 >>> ((24 : Int32) &&& 31).toUInt32).toInt32) &&& (255 : Int32)).toUInt32.toUInt16.toUInt32.toInt32)), .val (.int ((p5 &&& (255 : Int32)).toUInt32.toUInt16.toUInt32.toInt32)), .val (.ref b238), .unset, .unset, .unset] [(.int ((p5 &&& (255 : Int32)).toUInt32.toUInt16.toUInt32.toInt32)), (.int (4 : Int32)), (.ref b238)])) (fun t k => ?_) ?_
    · show Steps p.tables e below (T274.setTop (mkF m 93 #[.val (.int p0), .val (.int p1), .val (.int p2), .val (.int p3), .val (.int p4), .val (.int p5), .val (.int (p0 &&& (3 : Int32))), .val (.int ((p4 &&& (255 : Int32)).toUInt32.toUInt16.toUInt32.toInt32)), .val (.int ((((p4.toUInt32 >>> ((8 : Int32) &&& 31).toUInt32).toInt32) &&& (255 : Int32)).toUInt32.toUInt16.toUInt32.toInt32)), .val (.int ((((p4.toUInt32 >>> ((16 : Int32) &&& 31).toUInt32).toInt32) &&& (255 : Int32)).toUInt32.toUInt16.toUInt32.toInt32)), .val (.int ((((p4.toUInt32 >>> ((24 : Int32) &&& 31).toUInt32).toInt32) &&& (255 : Int32)).toUInt32.toUInt16.toUInt32.toInt32)), .val (.int ((p5 &&& (255 : Int32)).toUInt32.toUInt16.toUInt32.toInt32)), .val (.ref b238), .unset, .unset, .unset] [])) t
      refine XS.aload X274.here hx rfl (hb hby at_93) rfl rfl ?_
      refine XS.iconst X274.here hx rfl (hb hby at_95) ?_
      refine XS.iload X274.here hx rfl (hb hby at_96) rfl ?_
      exact k
    have cq282 := f281
    obtain ⟨clq282, Arq282, qq282, Sq282, Nq282, Hq282, Gq282⟩ := cq282
    obtain ⟨T283, h283, X283, e283, W283, st283⟩ := stC X274 hx hZ e274 Arq282 (j := (4 : Int32)) (inb_of Sq282 ⟨by decide, by decide⟩) (g := (mkF m 98 #[.val (.int p0), .val (.int p1), .val (.int p2), .val (.int p3), .val (.int p4), .val (.int p5), .val (.int (p0 &&& (3 : Int32))), .val (.int ((p4 &&& (255 : Int32)).toUInt32.toUInt16.toUInt32.toInt32)), .val (.int ((((p4.toUInt32 >>> ((8 : Int32) &&& 31).toUInt32).toInt32) &&& (255 : Int32)).toUInt32.toUInt16.toUInt32.toInt32)), .val (.int ((((p4.toUInt32 >>> ((16 : Int32) &&& 31).toUInt32).toInt32) &&& (255 : Int32)).toUInt32.toUInt16.toUInt32.toInt32)), .val (.int ((((p4.toUInt32 >>> ((24 : Int32) &&& 31).toUInt32).toInt32) &&& (255 : Int32)).toUInt32.toUInt16.toUInt32.toInt32)), .val (.int ((p5 &&& (255 : Int32)).toUInt32.toUInt16.toUInt32.toInt32)), .val (.ref b238), .unset, .unset, .unset] [(.int ((p5 &&& (255 : Int32)).toUInt32.toUInt16.toUInt32.toInt32)), (.int (4 : Int32)), (.ref b238)])) rfl rfl (hb hby at_98)
    refine OwnGo.of st283 ?_
    have N283 := Fr.snoc X283 N274 g_b238
    have cs284 := CHr.wr W283 f280 f278.1
    have f285 : n0 ≤ h283.size := Nat.le_trans f276 (Keep.of_wr W283).1
    have f286 : OwnB s s h283 := f277.wr W283
    have f287 : CHr Z consts_1 s.vm h0 s.vm h283 := f278.trans cs284
    have f288 : Keep h0 h283 [] := f279.wr W283 (Or.inr sz_b238)
    have f289 : Safe Z consts_1 s.vm h283 b238 := cs284.safe f281.lt f280
    have f290 : Arv Z h283 b238 k238 .char (5 : Int32) [(.int ((116 : Int32)).toUInt32.toUInt16.toUInt32.toInt32), (.int ((101 : Int32)).toUInt32.toUInt16.toUInt32.toInt32), (.int ((105 : Int32)).toUInt32.toUInt16.toUInt32.toInt32), (.int (((((p4.toUInt32 >>> ((24 : Int32) &&& 31).toUInt32).toInt32) &&& (255 : Int32)).toUInt32.toUInt16.toUInt32.toInt32)).toUInt32.toUInt16.toUInt32.toInt32), (.int (((p5 &&& (255 : Int32)).toUInt32.toUInt16.toUInt32.toInt32)).toUInt32.toUInt16.toUInt32.toInt32)] (.int (0 : Int32)) := Arv.set Arq282 qq282 Sq282 Nq282 Hq282 Gq282 (fits_nar_char _) W283 4 rfl (Nat.le_of_ble_eq_true rfl)
    show OwnGo p.tables e below _ (T283.setTop (mkF m 99 #[.val (.int p0), .val (.int p1), .val (.int p2), .val (.int p3), .val (.int p4), .val (.int p5), .val (.int (p0 &&& (3 : Int32))), .val (.int ((p4 &&& (255 : Int32)).toUInt32.toUInt16.toUInt32.toInt32)), .val (.int ((((p4.toUInt32 >>> ((8 : Int32) &&& 31).toUInt32).toInt32) &&& (255 : Int32)).toUInt32.toUInt16.toUInt32.toInt32)), .val (.int ((((p4.toUInt32 >>> ((16 : Int32) &&& 31).toUInt32).toInt32) &&& (255 : Int32)).toUInt32.toUInt16.toUInt32.toInt32)), .val (.int ((((p4.toUInt32 >>> ((24 : Int32) &&& 31).toUInt32).toInt32) &&& (255 : Int32)).toUInt32.toUInt16.toUInt32.toInt32)), .val (.int ((p5 &&& (255 : Int32)).toUInt32.toUInt16.toUInt32.toInt32)), .val (.ref b238), .unset, .unset, .unset] []))
    refine OwnGo.of (A := T283.setTop (mkF m 99 #[.val (.int p0), .val (.int p1), .val (.int p2), .val (.int p3), .val (.int p4), .val (.int p5), .val (.int (p0 &&& (3 : Int32))), .val (.int ((p4 &&& (255 : Int32)).toUInt32.toUInt16.toUInt32.toInt32)), .val (.int ((((p4.toUInt32 >>> ((8 : Int32) &&& 31).toUInt32).toInt32) &&& (255 : Int32)).toUInt32.toUInt16.toUInt32.toInt32)), .val (.int ((((p4.toUInt32 >>> ((16 : Int32) &&& 31).toUInt32).toInt32) &&& (255 : Int32)).toUInt32.toUInt16.toUInt32.toInt32)), .val (.int ((((p4.toUInt32 >>> ((24 : Int32) &&& 31).toUInt32).toInt32) &&& (255 : Int32)).toUInt32.toUInt16.toUInt32.toInt32)), .val (.int ((p5 &&& (255 : Int32)).toUInt32.toUInt16.toUInt32.toInt32)), .val (.ref b238), .unset, .unset, .unset] [])) (B := T283.setTop (mkF m 232 #[.val (.int p0), .val (.int p1), .val (.int p2), .val (.int p3), .val (.int p4), .val (.int p5), .val (.int (p0 &&& (3 : Int32))), .val (.int ((p4 &&& (255 : Int32)).toUInt32.toUInt16.toUInt32.toInt32)), .val (.int ((((p4.toUInt32 >>> ((8 : Int32) &&& 31).toUInt32).toInt32) &&& (255 : Int32)).toUInt32.toUInt16.toUInt32.toInt32)), .val (.int ((((p4.toUInt32 >>> ((16 : Int32) &&& 31).toUInt32).toInt32) &&& (255 : Int32)).toUInt32.toUInt16.toUInt32.toInt32)), .val (.int ((((p4.toUInt32 >>> ((24 : Int32) &&& 31).toUInt32).toInt32) &&& (255 : Int32)).toUInt32.toUInt16.toUInt32.toInt32)), .val (.int ((p5 &&& (255 : Int32)).toUInt32.toUInt16.toUInt32.toInt32)), .val (.ref b238), .val (.int (3 : Int32)), .unset, .unset] [])) (fun t k => ?_) ?_
    · show Steps p.tables e below (T283.setTop (mkF m 99 #[.val (.int p0), .val (.int p1), .val (.int p2), .val (.int p3), .val (.int p4), .val (.int p5), .val (.int (p0 &&& (3 : Int32))), .val (.int ((p4 &&& (255 : Int32)).toUInt32.toUInt16.toUInt32.toInt32)), .val (.int ((((p4.toUInt32 >>> ((8 : Int32) &&& 31).toUInt32).toInt32) &&& (255 : Int32)).toUInt32.toUInt16.toUInt32.toInt32)), .val (.int ((((p4.toUInt32 >>> ((16 : Int32) &&& 31).toUInt32).toInt32) &&& (255 : Int32)).toUInt32.toUInt16.toUInt32.toInt32)), .val (.int ((((p4.toUInt32 >>> ((24 : Int32) &&& 31).toUInt32).toInt32) &&& (255 : Int32)).toUInt32.toUInt16.toUInt32.toInt32)), .val (.int ((p5 &&& (255 : Int32)).toUInt32.toUInt16.toUInt32.toInt32)), .val (.ref b238), .unset, .unset, .unset] [])) t
      refine XS.iconst X283.here hx rfl (hb hby at_99) ?_
      refine XS.istore X283.here hx rfl (hb hby at_100) rfl (l' := #[.val (.int p0), .val (.int p1), .val (.int p2), .val (.int p3), .val (.int p4), .val (.int p5), .val (.int (p0 &&& (3 : Int32))), .val (.int ((p4 &&& (255 : Int32)).toUInt32.toUInt16.toUInt32.toInt32)), .val (.int ((((p4.toUInt32 >>> ((8 : Int32) &&& 31).toUInt32).toInt32) &&& (255 : Int32)).toUInt32.toUInt16.toUInt32.toInt32)), .val (.int ((((p4.toUInt32 >>> ((16 : Int32) &&& 31).toUInt32).toInt32) &&& (255 : Int32)).toUInt32.toUInt16.toUInt32.toInt32)), .val (.int ((((p4.toUInt32 >>> ((24 : Int32) &&& 31).toUInt32).toInt32) &&& (255 : Int32)).toUInt32.toUInt16.toUInt32.toInt32)), .val (.int ((p5 &&& (255 : Int32)).toUInt32.toUInt16.toUInt32.toInt32)), .val (.ref b238), .val (.int (3 : Int32)), .unset, .unset]) rfl ?_
      refine XS.goto X283.here hx rfl (pc0 := 102) (pc' := 232) rfl (hb hby at_102) (by decide) (by decide) ?_
      exact k
    exact J232 T283 _ _ (.val (.int (p0 &&& (3 : Int32)))) (.val (.int ((p4 &&& (255 : Int32)).toUInt32.toUInt16.toUInt32.toInt32))) (.val (.int ((((p4.toUInt32 >>> ((8 : Int32) &&& 31).toUInt32).toInt32) &&& (255 : Int32)).toUInt32.toUInt16.toUInt32.toInt32))) (.val (.int ((((p4.toUInt32 >>> ((16 : Int32) &&& 31).toUInt32).toInt32) &&& (255 : Int32)).toUInt32.toUInt16.toUInt32.toInt32))) (.val (.int ((((p4.toUInt32 >>> ((24 : Int32) &&& 31).toUInt32).toInt32) &&& (255 : Int32)).toUInt32.toUInt16.toUInt32.toInt32))) (.val (.int ((p5 &&& (255 : Int32)).toUInt32.toUInt16.toUInt32.toInt32))) b238 k238 (((116 : Int32)).toUInt32.toUInt16.toUInt32.toInt32) (((101 : Int32)).toUInt32.toUInt16.toUInt32.toInt32) (((105 : Int32)).toUInt32.toUInt16.toUInt32.toInt32) ((((((p4.toUInt32 >>> ((24 : Int32) &&& 31).toUInt32).toInt32) &&& (255 : Int32)).toUInt32.toUInt16.toUInt32.toInt32)).toUInt32.toUInt16.toUInt32.toInt32) ((((p5 &&& (255 : Int32)).toUInt32.toUInt16.toUInt32.toInt32)).toUInt32.toUInt16.toUInt32.toInt32) (3 : Int32) X283 e283 N283 f285 f288 f286 f287 f290 (own_ch ⟨by decide, by decide⟩) (own_ch ⟨by decide, by decide⟩) (own_ch ⟨by decide, by decide⟩) (own_ch (own_ch (own_msk _))) (own_ch (own_ch (own_msk _))) g_b238 sz_b238 f289
  · refine OwnGo.of (A := T238.setTop (mkF m 66 #[.val (.int p0), .val (.int p1), .val (.int p2), .val (.int p3), .val (.int p4), .val (.int p5), .val (.int (p0 &&& (3 : Int32))), .val (.int ((p4 &&& (255 : Int32)).toUInt32.toUInt16.toUInt32.toInt32)), .val (.int ((((p4.toUInt32 >>> ((8 : Int32) &&& 31).toUInt32).toInt32) &&& (255 : Int32)).toUInt32.toUInt16.toUInt32.toInt32)), .val (.int ((((p4.toUInt32 >>> ((16 : Int32) &&& 31).toUInt32).toInt32) &&& (255 : Int32)).toUInt32.toUInt16.toUInt32.toInt32)), .val (.int ((((p4.toUInt32 >>> ((24 : Int32) &&& 31).toUInt32).toInt32) &&& (255 : Int32)).toUInt32.toUInt16.toUInt32.toInt32)), .val (.int ((p5 &&& (255 : Int32)).toUInt32.toUInt16.toUInt32.toInt32)), .val (.ref b238), .unset, .unset, .unset] [(.int (p0 &&& (3 : Int32)))])) (B := T238.setTop (mkF m 108 #[.val (.int p0), .val (.int p1), .val (.int p2), .val (.int p3), .val (.int p4), .val (.int p5), .val (.int (p0 &&& (3 : Int32))), .val (.int ((p4 &&& (255 : Int32)).toUInt32.toUInt16.toUInt32.toInt32)), .val (.int ((((p4.toUInt32 >>> ((8 : Int32) &&& 31).toUInt32).toInt32) &&& (255 : Int32)).toUInt32.toUInt16.toUInt32.toInt32)), .val (.int ((((p4.toUInt32 >>> ((16 : Int32) &&& 31).toUInt32).toInt32) &&& (255 : Int32)).toUInt32.toUInt16.toUInt32.toInt32)), .val (.int ((((p4.toUInt32 >>> ((24 : Int32) &&& 31).toUInt32).toInt32) &&& (255 : Int32)).toUInt32.toUInt16.toUInt32.toInt32)), .val (.int ((p5 &&& (255 : Int32)).toUInt32.toUInt16.toUInt32.toInt32)), .val (.ref b238), .unset, .unset, .unset] [(.int (1 : Int32)), (.int (p0 &&& (3 : Int32)))])) (fun t k => ?_) ?_
    · show Steps p.tables e below (T238.setTop (mkF m 66 #[.val (.int p0), .val (.int p1), .val (.int p2), .val (.int p3), .val (.int p4), .val (.int p5), .val (.int (p0 &&& (3 : Int32))), .val (.int ((p4 &&& (255 : Int32)).toUInt32.toUInt16.toUInt32.toInt32)), .val (.int ((((p4.toUInt32 >>> ((8 : Int32) &&& 31).toUInt32).toInt32) &&& (255 : Int32)).toUInt32.toUInt16.toUInt32.toInt32)), .val (.int ((((p4.toUInt32 >>> ((16 : Int32) &&& 31).toUInt32).toInt32) &&& (255 : Int32)).toUInt32.toUInt16.toUInt32.toInt32)), .val (.int ((((p4.toUInt32 >>> ((24 : Int32) &&& 31).toUInt32).toInt32) &&& (255 : Int32)).toUInt32.toUInt16.toUInt32.toInt32)), .val (.int ((p5 &&& (255 : Int32)).toUInt32.toUInt16.toUInt32.toInt32)), .val (.ref b238), .unset, .unset, .unset] [(.int (p0 &&& (3 : Int32)))])) t
      refine XS.ifYes X238.here hx rfl (pc0 := 66) (pc' := 105) rfl (hb hby at_66) rfl ((if0 _ _).trans (feq hc245).2) (by decide) (by decide) ?_
      refine XS.iload X238.here hx rfl (hb hby at_105) rfl ?_
      refine XS.iconst X238.here hx rfl (hb hby at_107) ?_
      exact k
    by_cases hc291 : (p0 &&& (3 : Int32)) = (1 : Int32)
    · refine OwnGo.of (A := T238.setTop (mkF m 108 #[.val (.int p0), .val (.int p1), .val (.int p2), .val (.int p3), .val (.int p4), .val (.int p5), .val (.int (p0 &&& (3 : Int32))), .val (.int ((p4 &&& (255 : Int32)).toUInt32.toUInt16.toUInt32.toInt32)), .val (.int ((((p4.toUInt32 >>> ((8 : Int32) &&& 31).toUInt32).toInt32) &&& (255 : Int32)).toUInt32.toUInt16.toUInt32.toInt32)), .val (.int ((((p4.toUInt32 >>> ((16 : Int32) &&& 31).toUInt32).toInt32) &&& (255 : Int32)).toUInt32.toUInt16.toUInt32.toInt32)), .val (.int ((((p4.toUInt32 >>> ((24 : Int32) &&& 31).toUInt32).toInt32) &&& (255 : Int32)).toUInt32.toUInt16.toUInt32.toInt32)), .val (.int ((p5 &&& (255 : Int32)).toUInt32.toUInt16.toUInt32.toInt32)), .val (.ref b238), .unset, .unset, .unset] [(.int (1 : Int32)), (.int (p0 &&& (3 : Int32)))])) (B := T238.setTop (mkF m 116 #[.val (.int p0), .val (.int p1), .val (.int p2), .val (.int p3), .val (.int p4), .val (.int p5), .val (.int (p0 &&& (3 : Int32))), .val (.int ((p4 &&& (255 : Int32)).toUInt32.toUInt16.toUInt32.toInt32)), .val (.int ((((p4.toUInt32 >>> ((8 : Int32) &&& 31).toUInt32).toInt32) &&& (255 : Int32)).toUInt32.toUInt16.toUInt32.toInt32)), .val (.int ((((p4.toUInt32 >>> ((16 : Int32) &&& 31).toUInt32).toInt32) &&& (255 : Int32)).toUInt32.toUInt16.toUInt32.toInt32)), .val (.int ((((p4.toUInt32 >>> ((24 : Int32) &&& 31).toUInt32).toInt32) &&& (255 : Int32)).toUInt32.toUInt16.toUInt32.toInt32)), .val (.int ((p5 &&& (255 : Int32)).toUInt32.toUInt16.toUInt32.toInt32)), .val (.ref b238), .unset, .unset, .unset] [(.int (106 : Int32)), (.int (0 : Int32)), (.ref b238)])) (fun t k => ?_) ?_
      · show Steps p.tables e below (T238.setTop (mkF m 108 #[.val (.int p0), .val (.int p1), .val (.int p2), .val (.int p3), .val (.int p4), .val (.int p5), .val (.int (p0 &&& (3 : Int32))), .val (.int ((p4 &&& (255 : Int32)).toUInt32.toUInt16.toUInt32.toInt32)), .val (.int ((((p4.toUInt32 >>> ((8 : Int32) &&& 31).toUInt32).toInt32) &&& (255 : Int32)).toUInt32.toUInt16.toUInt32.toInt32)), .val (.int ((((p4.toUInt32 >>> ((16 : Int32) &&& 31).toUInt32).toInt32) &&& (255 : Int32)).toUInt32.toUInt16.toUInt32.toInt32)), .val (.int ((((p4.toUInt32 >>> ((24 : Int32) &&& 31).toUInt32).toInt32) &&& (255 : Int32)).toUInt32.toUInt16.toUInt32.toInt32)), .val (.int ((p5 &&& (255 : Int32)).toUInt32.toUInt16.toUInt32.toInt32)), .val (.ref b238), .unset, .unset, .unset] [(.int (1 : Int32)), (.int (p0 &&& (3 : Int32)))])) t
        refine XS.icmpNo X238.here hx rfl (hb hby at_108) rfl (teq hc291).2 ?_
        refine XS.aload X238.here hx rfl (hb hby at_111) rfl rfl ?_
        refine XS.iconst X238.here hx rfl (hb hby at_113) ?_
        refine XS.bipush X238.here hx rfl (hb hby at_114) ?_
        exact k
      have cq292 := f244
      obtain ⟨clq292, Arq292, qq292, Sq292, Nq292, Hq292, Gq292⟩ := cq292
      obtain ⟨T293, h293, X293, e293, W293, st293⟩ := stC X238 hx hZ e238 Arq292 (j := (0 : Int32)) (inb_of Sq292 ⟨by decide, by decide⟩) (g := (mkF m 116 #[.val (.int p0), .val (.int p1), .val (.int p2), .val (.int p3), .val (.int p4), .val (.int p5), .val (.int (p0 &&& (3 : Int32))), .val (.int ((p4 &&& (255 : Int32)).toUInt32.toUInt16.toUInt32.toInt32)), .val (.int ((((p4.toUInt32 >>> ((8 : Int32) &&& 31).toUInt32).toInt32) &&& (255 : Int32)).toUInt32.toUInt16.toUInt32.toInt32)), .val (.int ((((p4.toUInt32 >>> ((16 : Int32) &&& 31).toUInt32).toInt32) &&& (255 : Int32)).toUInt32.toUInt16.toUInt32.toInt32)), .val (.int ((((p4.toUInt32 >>> ((24 : Int32) &&& 31).toUInt32).toInt32) &&& (255 : Int32)).toUInt32.toUInt16.toUInt32.toInt32)), .val (.int ((p5 &&& (255 : Int32)).toUInt32.toUInt16.toUInt32.toInt32)), .val (.ref b238), .unset, .unset, .unset] [(.int (106 : Int32)), (.int (0 : Int32)), (.ref b238)])) rfl rfl (hb hby at_116)
      refine OwnGo.of st293 ?_
      have N293 := Fr.snoc X293 N0 g_b238
      have cs294 := CHr.wr W293 gn_b238 f242.1
      have f295 : n0 ≤ h293.size := Nat.le_trans f240 (Keep.of_wr W293).1
      have f296 : OwnB s s h293 := f241.wr W293
      have f297 : CHr Z consts_1 s.vm h0 s.vm h293 := f242.trans cs294
      have f298 : Keep h0 h293 [] := f243.wr W293 (Or.inr sz_b238)
      have f299 : Safe Z consts_1 s.vm h293 b238 := cs294.safe f244.lt gn_b238
      have f300 : Arv Z h293 b238 k238 .char (5 : Int32) [(.int ((106 : Int32)).toUInt32.toUInt16.toUInt32.toInt32), (.int (0 : Int32)), (.int (0 : Int32)), (.int (0 : Int32)), (.int (0 : Int32))] (.int (0 : Int32)) := Arv.set Arq292 qq292 Sq292 Nq292 Hq292 Gq292 (fits_nar_char _) W293 0 rfl (Nat.le_of_ble_eq_true rfl)
      show OwnGo p.tables e below _ (T293.setTop (mkF m 117 #[.val (.int p0), .val (.int p1), .val (.int p2), .val (.int p3), .val (.int p4), .val (.int p5), .val (.int (p0 &&& (3 : Int32))), .val (.int ((p4 &&& (255 : Int32)).toUInt32.toUInt16.toUInt32.toInt32)), .val (.int ((((p4.toUInt32 >>> ((8 : Int32) &&& 31).toUInt32).toInt32) &&& (255 : Int32)).toUInt32.toUInt16.toUInt32.toInt32)), .val (.int ((((p4.toUInt32 >>> ((16 : Int32) &&& 31).toUInt32).toInt32) &&& (255 : Int32)).toUInt32.toUInt16.toUInt32.toInt32)), .val (.int ((((p4.toUInt32 >>> ((24 : Int32) &&& 31).toUInt32).toInt32) &&& (255 : Int32)).toUInt32.toUInt16.toUInt32.toInt32)), .val (.int ((p5 &&& (255 : Int32)).toUInt32.toUInt16.toUInt32.toInt32)), .val (.ref b238), .unset, .unset, .unset] []))
      refine OwnGo.of (A := T293.setTop (mkF m 117 #[.val (.int p0), .val (.int p1), .val (.int p2), .val (.int p3), .val (.int p4), .val (.int p5), .val (.int (p0 &&& (3 : Int32))), .val (.int ((p4 &&& (255 : Int32)).toUInt32.toUInt16.toUInt32.toInt32)), .val (.int ((((p4.toUInt32 >>> ((8 : Int32) &&& 31).toUInt32).toInt32) &&& (255 : Int32)).toUInt32.toUInt16.toUInt32.toInt32)), .val (.int ((((p4.toUInt32 >>> ((16 : Int32) &&& 31).toUInt32).toInt32) &&& (255 : Int32)).toUInt32.toUInt16.toUInt32.toInt32)), .val (.int ((((p4.toUInt32 >>> ((24 : Int32) &&& 31).toUInt32).toInt32) &&& (255 : Int32)).toUInt32.toUInt16.toUInt32.toInt32)), .val (.int ((p5 &&& (255 : Int32)).toUInt32.toUInt16.toUInt32.toInt32)), .val (.ref b238), .unset, .unset, .unset] [])) (B := T293.setTop (mkF m 122 #[.val (.int p0), .val (.int p1), .val (.int p2), .val (.int p3), .val (.int p4), .val (.int p5), .val (.int (p0 &&& (3 : Int32))), .val (.int ((p4 &&& (255 : Int32)).toUInt32.toUInt16.toUInt32.toInt32)), .val (.int ((((p4.toUInt32 >>> ((8 : Int32) &&& 31).toUInt32).toInt32) &&& (255 : Int32)).toUInt32.toUInt16.toUInt32.toInt32)), .val (.int ((((p4.toUInt32 >>> ((16 : Int32) &&& 31).toUInt32).toInt32) &&& (255 : Int32)).toUInt32.toUInt16.toUInt32.toInt32)), .val (.int ((((p4.toUInt32 >>> ((24 : Int32) &&& 31).toUInt32).toInt32) &&& (255 : Int32)).toUInt32.toUInt16.toUInt32.toInt32)), .val (.int ((p5 &&& (255 : Int32)).toUInt32.toUInt16.toUInt32.toInt32)), .val (.ref b238), .unset, .unset, .unset] [(.int (97 : Int32)), (.int (1 : Int32)), (.ref b238)])) (fun t k => ?_) ?_
      · show Steps p.tables e below (T293.setTop (mkF m 117 #[.val (.int p0), .val (.int p1), .val (.int p2), .val (.int p3), .val (.int p4), .val (.int p5), .val (.int (p0 &&& (3 : Int32))), .val (.int ((p4 &&& (255 : Int32)).toUInt32.toUInt16.toUInt32.toInt32)), .val (.int ((((p4.toUInt32 >>> ((8 : Int32) &&& 31).toUInt32).toInt32) &&& (255 : Int32)).toUInt32.toUInt16.toUInt32.toInt32)), .val (.int ((((p4.toUInt32 >>> ((16 : Int32) &&& 31).toUInt32).toInt32) &&& (255 : Int32)).toUInt32.toUInt16.toUInt32.toInt32)), .val (.int ((((p4.toUInt32 >>> ((24 : Int32) &&& 31).toUInt32).toInt32) &&& (255 : Int32)).toUInt32.toUInt16.toUInt32.toInt32)), .val (.int ((p5 &&& (255 : Int32)).toUInt32.toUInt16.toUInt32.toInt32)), .val (.ref b238), .unset, .unset, .unset] [])) t
        refine XS.aload X293.here hx rfl (hb hby at_117) rfl rfl ?_
        refine XS.iconst X293.here hx rfl (hb hby at_119) ?_
        refine XS.bipush X293.here hx rfl (hb hby at_120) ?_
        exact k
      have cq301 := f300
      obtain ⟨clq301, Arq301, qq301, Sq301, Nq301, Hq301, Gq301⟩ := cq301
      obtain ⟨T302, h302, X302, e302, W302, st302⟩ := stC X293 hx hZ e293 Arq301 (j := (1 : Int32)) (inb_of Sq301 ⟨by decide, by decide⟩) (g := (mkF m 122 #[.val (.int p0), .val (.int p1), .val (.int p2), .val (.int p3), .val (.int p4), .val (.int p5), .val (.int (p0 &&& (3 : Int32))), .val (.int ((p4 &&& (255 : Int32)).toUInt32.toUInt16.toUInt32.toInt32)), .val (.int ((((p4.toUInt32 >>> ((8 : Int32) &&& 31).toUInt32).toInt32) &&& (255 : Int32)).toUInt32.toUInt16.toUInt32.toInt32)), .val (.int ((((p4.toUInt32 >>> ((16 : Int32) &&& 31).toUInt32).toInt32) &&& (255 : Int32)).toUInt32.toUInt16.toUInt32.toInt32)), .val (.int ((((p4.toUInt32 >>> ((24 : Int32) &&& 31).toUInt32).toInt32) &&& (255 : Int32)).toUInt32.toUInt16.toUInt32.toInt32)), .val (.int ((p5 &&& (255 : Int32)).toUInt32.toUInt16.toUInt32.toInt32)), .val (.ref b238), .unset, .unset, .unset] [(.int (97 : Int32)), (.int (1 : Int32)), (.ref b238)])) rfl rfl (hb hby at_122)
      refine OwnGo.of st302 ?_
      have N302 := Fr.snoc X302 N293 g_b238
      have cs303 := CHr.wr W302 f299 f297.1
      have f304 : n0 ≤ h302.size := Nat.le_trans f295 (Keep.of_wr W302).1
      have f305 : OwnB s s h302 := f296.wr W302
      have f306 : CHr Z consts_1 s.vm h0 s.vm h302 := f297.trans cs303
      have f307 : Keep h0 h302 [] := f298.wr W302 (Or.inr sz_b238)
      have f308 : Safe Z consts_1 s.vm h302 b238 := cs303.safe f300.lt f299
      have f309 : Arv Z h302 b238 k238 .char (5 : Int32) [(.int ((106 : Int32)).toUInt32.toUInt16.toUInt32.toInt32), (.int ((97 : Int32)).toUInt32.toUInt16.toUInt32.toInt32), (.int (0 : Int32)), (.int (0 : Int32)), (.int (0 : Int32))] (.int (0 : Int32)) := Arv.set Arq301 qq301 Sq301 Nq301 Hq301 Gq301 (fits_nar_char _) W302 1 rfl (Nat.le_of_ble_eq_true rfl)
      show OwnGo p.tables e below _ (T302.setTop (mkF m 123 #[.val (.int p0), .val (.int p1), .val (.int p2), .val (.int p3), .val (.int p4), .val (.int p5), .val (.int (p0 &&& (3 : Int32))), .val (.int ((p4 &&& (255 : Int32)).toUInt32.toUInt16.toUInt32.toInt32)), .val (.int ((((p4.toUInt32 >>> ((8 : Int32) &&& 31).toUInt32).toInt32) &&& (255 : Int32)).toUInt32.toUInt16.toUInt32.toInt32)), .val (.int ((((p4.toUInt32 >>> ((16 : Int32) &&& 31).toUInt32).toInt32) &&& (255 : Int32)).toUInt32.toUInt16.toUInt32.toInt32)), .val (.int ((((p4.toUInt32 >>> ((24 : Int32) &&& 31).toUInt32).toInt32) &&& (255 : Int32)).toUInt32.toUInt16.toUInt32.toInt32)), .val (.int ((p5 &&& (255 : Int32)).toUInt32.toUInt16.toUInt32.toInt32)), .val (.ref b238), .unset, .unset, .unset] []))
      refine OwnGo.of (A := T302.setTop (mkF m 123 #[.val (.int p0), .val (.int p1), .val (.int p2), .val (.int p3), .val (.int p4), .val (.int p5), .val (.int (p0 &&& (3 : Int32))), .val (.int ((p4 &&& (255 : Int32)).toUInt32.toUInt16.toUInt32.toInt32)), .val (.int ((((p4.toUInt32 >>> ((8 : Int32) &&& 31).toUInt32).toInt32) &&& (255 : Int32)).toUInt32.toUInt16.toUInt32.toInt32)), .val (.int ((((p4.toUInt32 >>> ((16 : Int32) &&& 31).toUInt32).toInt32) &&& (255 : Int32)).toUInt32.toUInt16.toUInt32.toInt32)), .val (.int ((((p4.toUInt32 >>> ((24 : Int32) &&& 31).toUInt32).toInt32) &&& (255 : Int32)).toUInt32.toUInt16.toUInt32.toInt32)), .val (.int ((p5 &&& (255 : Int32)).toUInt32.toUInt16.toUInt32.toInt32)), .val (.ref b238), .unset, .unset, .unset] [])) (B := T302.setTop (mkF m 128 #[.val (.int p0), .val (.int p1), .val (.int p2), .val (.int p3), .val (.int p4), .val (.int p5), .val (.int (p0 &&& (3 : Int32))), .val (.int ((p4 &&& (255 : Int32)).toUInt32.toUInt16.toUInt32.toInt32)), .val (.int ((((p4.toUInt32 >>> ((8 : Int32) &&& 31).toUInt32).toInt32) &&& (255 : Int32)).toUInt32.toUInt16.toUInt32.toInt32)), .val (.int ((((p4.toUInt32 >>> ((16 : Int32) &&& 31).toUInt32).toInt32) &&& (255 : Int32)).toUInt32.toUInt16.toUInt32.toInt32)), .val (.int ((((p4.toUInt32 >>> ((24 : Int32) &&& 31).toUInt32).toInt32) &&& (255 : Int32)).toUInt32.toUInt16.toUInt32.toInt32)), .val (.int ((p5 &&& (255 : Int32)).toUInt32.toUInt16.toUInt32.toInt32)), .val (.ref b238), .unset, .unset, .unset] [(.int (116 : Int32)), (.int (2 : Int32)), (.ref b238)])) (fun t k => ?_) ?_
      · show Steps p.tables e below (T302.setTop (mkF m 123 #[.val (.int p0), .val (.int p1), .val (.int p2), .val (.int p3), .val (.int p4), .val (.int p5), .val (.int (p0 &&& (3 : Int32))), .val (.int ((p4 &&& (255 : Int32)).toUInt32.toUInt16.toUInt32.toInt32)), .val (.int ((((p4.toUInt32 >>> ((8 : Int32) &&& 31).toUInt32).toInt32) &&& (255 : Int32)).toUInt32.toUInt16.toUInt32.toInt32)), .val (.int ((((p4.toUInt32 >>> ((16 : Int32) &&& 31).toUInt32).toInt32) &&& (255 : Int32)).toUInt32.toUInt16.toUInt32.toInt32)), .val (.int ((((p4.toUInt32 >>> ((24 : Int32) &&& 31).toUInt32).toInt32) &&& (255 : Int32)).toUInt32.toUInt16.toUInt32.toInt32)), .val (.int ((p5 &&& (255 : Int32)).toUInt32.toUInt16.toUInt32.toInt32)), .val (.ref b238), .unset, .unset, .unset] [])) t
        refine XS.aload X302.here hx rfl (hb hby at_123) rfl rfl ?_
        refine XS.iconst X302.here hx rfl (hb hby at_125) ?_
        refine XS.bipush X302.here hx rfl (hb hby at_126) ?_
        exact k
      have cq310 := f309
      obtain ⟨clq310, Arq310, qq310, Sq310, Nq310, Hq310, Gq310⟩ := cq310
      obtain ⟨T311, h311, X311, e311, W311, st311⟩ := stC X302 hx hZ e302 Arq310 (j := (2 : Int32)) (inb_of Sq310 ⟨by decide, by decide⟩) (g := (mkF m 128 #[.val (.int p0), .val (.int p1), .val (.int p2), .val (.int p3), .val (.int p4), .val (.int p5), .val (.int (p0 &&& (3 : Int32))), .val (.int ((p4 &&& (255 : Int32)).toUInt32.toUInt16.toUInt32.toInt32)), .val (.int ((((p4.toUInt32 >>> ((8 : Int32) &&& 31).toUInt32).toInt32) &&& (255 : Int32)).toUInt32.toUInt16.toUInt32.toInt32)), .val (.int ((((p4.toUInt32 >>> ((16 : Int32) &&& 31).toUInt32).toInt32) &&& (255 : Int32)).toUInt32.toUInt16.toUInt32.toInt32)), .val (.int ((((p4.toUInt32 >>> ((24 : Int32) &&& 31).toUInt32).toInt32) &&& (255 : Int32)).toUInt32.toUInt16.toUInt32.toInt32)), .val (.int ((p5 &&& (255 : Int32)).toUInt32.toUInt16.toUInt32.toInt32)), .val (.ref b238), .unset, .unset, .unset] [(.int (116 : Int32)), (.int (2 : Int32)), (.ref b238)])) rfl rfl (hb hby at_128)
      refine OwnGo.of st311 ?_
      have N311 := Fr.snoc X311 N302 g_b238
      have cs312 := CHr.wr W311 f308 f306.1
      have f313 : n0 ≤ h311.size := Nat.le_trans f304 (Keep.of_wr W311).1
      have f314 : OwnB s s h311 := f305.wr W311
      have f315 : CHr Z consts_1 s.vm h0 s.vm h311 := f306.trans cs312
      have f316 : Keep h0 h311 [] := f307.wr W311 (Or.inr sz_b238)
      have f317 : Safe Z consts_1 s.vm h311 b238 := cs312.safe f309.lt f308
      have f318 : Arv Z h311 b238 k238 .char (5 : Int32) [(.int ((106 : Int32)).toUInt32.toUInt16.toUInt32.toInt32), (.int ((97 : Int32)).toUInt32.toUInt16.toUInt32.toInt32), (.int ((116 : Int32)).toUInt32.toUInt16.toUInt32.toInt32), (.int (0 : Int32)), (.int (0 : Int32))] (.int (0 : Int32)) := Arv.set Arq310 qq310 Sq310 Nq310 Hq310 Gq310 (fits_nar_char _) W311 2 rfl (Nat.le_of_ble_eq_true rfl)
      show OwnGo p.tables e below _ (T311.setTop (mkF m 129 #[.val (.int p0), .val (.int p1), .val (.int p2), .val (.int p3), .val (.int p4), .val (.int p5), .val (.int (p0 &&& (3 : Int32))), .val (.int ((p4 &&& (255 : Int32)).toUInt32.toUInt16.toUInt32.toInt32)), .val (.int ((((p4.toUInt32 >>> ((8 : Int32) &&& 31).toUInt32).toInt32) &&& (255 : Int32)).toUInt32.toUInt16.toUInt32.toInt32)), .val (.int ((((p4.toUInt32 >>> ((16 : Int32) &&& 31).toUInt32).toInt32) &&& (255 : Int32)).toUInt32.toUInt16.toUInt32.toInt32)), .val (.int ((((p4.toUInt32 >>> ((24 : Int32) &&& 31).toUInt32).toInt32) &&& (255 : Int32)).toUInt32.toUInt16.toUInt32.toInt32)), .val (.int ((p5 &&& (255 : Int32)).toUInt32.toUInt16.toUInt32.toInt32)), .val (.ref b238), .unset, .unset, .unset] []))
      refine OwnGo.of (A := T311.setTop (mkF m 129 #[.val (.int p0), .val (.int p1), .val (.int p2), .val (.int p3), .val (.int p4), .val (.int p5), .val (.int (p0 &&& (3 : Int32))), .val (.int ((p4 &&& (255 : Int32)).toUInt32.toUInt16.toUInt32.toInt32)), .val (.int ((((p4.toUInt32 >>> ((8 : Int32) &&& 31).toUInt32).toInt32) &&& (255 : Int32)).toUInt32.toUInt16.toUInt32.toInt32)), .val (.int ((((p4.toUInt32 >>> ((16 : Int32) &&& 31).toUInt32).toInt32) &&& (255 : Int32)).toUInt32.toUInt16.toUInt32.toInt32)), .val (.int ((((p4.toUInt32 >>> ((24 : Int32) &&& 31).toUInt32).toInt32) &&& (255 : Int32)).toUInt32.toUInt16.toUInt32.toInt32)), .val (.int ((p5 &&& (255 : Int32)).toUInt32.toUInt16.toUInt32.toInt32)), .val (.ref b238), .unset, .unset, .unset] [])) (B := T311.setTop (mkF m 134 #[.val (.int p0), .val (.int p1), .val (.int p2), .val (.int p3), .val (.int p4), .val (.int p5), .val (.int (p0 &&& (3 : Int32))), .val (.int ((p4 &&& (255 : Int32)).toUInt32.toUInt16.toUInt32.toInt32)), .val (.int ((((p4.toUInt32 >>> ((8 : Int32) &&& 31).toUInt32).toInt32) &&& (255 : Int32)).toUInt32.toUInt16.toUInt32.toInt32)), .val (.int ((((p4.toUInt32 >>> ((16 : Int32) &&& 31).toUInt32).toInt32) &&& (255 : Int32)).toUInt32.toUInt16.toUInt32.toInt32)), .val (.int ((((p4.toUInt32 >>> ((24 : Int32) &&& 31).toUInt32).toInt32) &&& (255 : Int32)).toUInt32.toUInt16.toUInt32.toInt32)), .val (.int ((p5 &&& (255 : Int32)).toUInt32.toUInt16.toUInt32.toInt32)), .val (.ref b238), .unset, .unset, .unset] [(.int (115 : Int32)), (.int (3 : Int32)), (.ref b238)])) (fun t k => ?_) ?_
      · show Steps p.tables e below (T311.setTop (mkF m 129 #[.val (.int p0), .val (.int p1), .val (.int p2), .val (.int p3), .val (.int p4), .val (.int p5), .val (.int (p0 &&& (3 : Int32))), .val (.int ((p4 &&& (255 : Int32)).toUInt32.toUInt16.toUInt32.toInt32)), .val (.int ((((p4.toUInt32 >>> ((8 : Int32) &&& 31).toUInt32).toInt32) &&& (255 : Int32)).toUInt32.toUInt16.toUInt32.toInt32)), .val (.int ((((p4.toUInt32 >>> ((16 : Int32) &&& 31).toUInt32).toInt32) &&& (255 : Int32)).toUInt32.toUInt16.toUInt32.toInt32)), .val (.int ((((p4.toUInt32 >>> ((24 : Int32) &&& 31).toUInt32).toInt32) &&& (255 : Int32)).toUInt32.toUInt16.toUInt32.toInt32)), .val (.int ((p5 &&& (255 : Int32)).toUInt32.toUInt16.toUInt32.toInt32)), .val (.ref b238), .unset, .unset, .unset] [])) t
        refine XS.aload X311.here hx rfl (hb hby at_129) rfl rfl ?_
        refine XS.iconst X311.here hx rfl (hb hby at_131) ?_
        refine XS.bipush X311.here hx rfl (hb hby at_132) ?_
        exact k
      have cq319 := f318
      obtain ⟨clq319, Arq319, qq319, Sq319, Nq319, Hq319, Gq319⟩ := cq319
      obtain ⟨T320, h320, X320, e320, W320, st320⟩ := stC X311 hx hZ e311 Arq319 (j := (3 : Int32)) (inb_of Sq319 ⟨by decide, by decide⟩) (g := (mkF m 134 #[.val (.int p0), .val (.int p1), .val (.int p2), .val (.int p3), .val (.int p4), .val (.int p5), .val (.int (p0 &&& (3 : Int32))), .val (.int ((p4 &&& (255 : Int32)).toUInt32.toUInt16.toUInt32.toInt32)), .val (.int ((((p4.toUInt32 >>> ((8 : Int32) &&& 31).toUInt32).toInt32) &&& (255 : Int32)).toUInt32.toUInt16.toUInt32.toInt32)), .val (.int ((((p4.toUInt32 >>> ((16 : Int32) &&& 31).toUInt32).toInt32) &&& (255 : Int32)).toUInt32.toUInt16.toUInt32.toInt32)), .val (.int ((((p4.toUInt32 >>> ((24 : Int32) &&& 31).toUInt32).toInt32) &&& (255 : Int32)).toUInt32.toUInt16.toUInt32.toInt32)), .val (.int ((p5 &&& (255 : Int32)).toUInt32.toUInt16.toUInt32.toInt32)), .val (.ref b238), .unset, .unset, .unset] [(.int (115 : Int32)), (.int (3 : Int32)), (.ref b238)])) rfl rfl (hb hby at_134)
      refine OwnGo.of st320 ?_
      have N320 := Fr.snoc X320 N311 g_b238
      have cs321 := CHr.wr W320 f317 f315.1
      have f322 : n0 ≤ h320.size := Nat.le_trans f313 (Keep.of_wr W320).1
      have f323 : OwnB s s h320 := f314.wr W320
      have f324 : CHr Z consts_1 s.vm h0 s.vm h320 := f315.trans cs321
      have f325 : Keep h0 h320 [] := f316.wr W320 (Or.inr sz_b238)
      have f326 : Safe Z consts_1 s.vm h320 b238 := cs321.safe f318.lt f317
      have f327 : Arv Z h320 b238 k238 .char (5 : Int32) [(.int ((106 : Int32)).toUInt32.toUInt16.toUInt32.toInt32), (.int ((97 : Int32)).toUInt32.toUInt16.toUInt32.toInt32), (.int ((116 : Int32)).toUInt32.toUInt16.toUInt32.toInt32), (.int ((115 : Int32)).toUInt32.toUInt16.toUInt32.toInt32), (.int (0 : Int32))] (.int (0 : Int32)) := Arv.set Arq319 qq319 Sq319 Nq319 Hq319 Gq319 (fits_nar_char _) W320 3 rfl (Nat.le_of_ble_eq_true rfl)
      show OwnGo p.tables e below _ (T320.setTop (mkF m 135 #[.val (.int p0), .val (.int p1), .val (.int p2), .val (.int p3), .val (.int p4), .val (.int p5), .val (.int (p0 &&& (3 : Int32))), .val (.int ((p4 &&& (255 : Int32)).toUInt32.toUInt16.toUInt32.toInt32)), .val (.int ((((p4.toUInt32 >>> ((8 : Int32) &&& 31).toUInt32).toInt32) &&& (255 : Int32)).toUInt32.toUInt16.toUInt32.toInt32)), .val (.int ((((p4.toUInt32 >>> ((16 : Int32) &&& 31).toUInt32).toInt32) &&& (255 : Int32)).toUInt32.toUInt16.toUInt32.toInt32)), .val (.int ((((p4.toUInt32 >>> ((24 : Int32) &&& 31).toUInt32).toInt32) &&& (255 : Int32)).toUInt32.toUInt16.toUInt32.toInt32)), .val (.int ((p5 &&& (255 : Int32)).toUInt32.toUInt16.toUInt32.toInt32)), .val (.ref b238), .unset, .unset, .unset] []))
      refine OwnGo.of (A := T320.setTop (mkF m 135 #[.val (.int p0), .val (.int p1), .val (.int p2), .val (.int p3), .val (.int p4), .val (.int p5), .val (.int (p0 &&& (3 : Int32))), .val (.int ((p4 &&& (255 : Int32)).toUInt32.toUInt16.toUInt32.toInt32)), .val (.int ((((p4.toUInt32 >>> ((8 : Int32) &&& 31).toUInt32).toInt32) &&& (255 : Int32)).toUInt32.toUInt16.toUInt32.toInt32)), .val (.int ((((p4.toUInt32 >>> ((16 : Int32) &&& 31).toUInt32).toInt32) &&& (255 : Int32)).toUInt32.toUInt16.toUInt32.toInt32)), .val (.int ((((p4.toUInt32 >>> ((24 : Int32) &&& 31).toUInt32).toInt32) &&& (255 : Int32)).toUInt32.toUInt16.toUInt32.toInt32)), .val (.int ((p5 &&& (255 : Int32)).toUInt32.toUInt16.toUInt32.toInt32)), .val (.ref b238), .unset, .unset, .unset] [])) (B := T320.setTop (mkF m 140 #[.val (.int p0), .val (.int p1), .val (.int p2), .val (.int p3), .val (.int p4), .val (.int p5), .val (.int (p0 &&& (3 : Int32))), .val (.int ((p4 &&& (255 : Int32)).toUInt32.toUInt16.toUInt32.toInt32)), .val (.int ((((p4.toUInt32 >>> ((8 : Int32) &&& 31).toUInt32).toInt32) &&& (255 : Int32)).toUInt32.toUInt16.toUInt32.toInt32)), .val (.int ((((p4.toUInt32 >>> ((16 : Int32) &&& 31).toUInt32).toInt32) &&& (255 : Int32)).toUInt32.toUInt16.toUInt32.toInt32)), .val (.int ((((p4.toUInt32 >>> ((24 : Int32) &&& 31).toUInt32).toInt32) &&& (255 : Int32)).toUInt32.toUInt16.toUInt32.toInt32)), .val (.int ((p5 &&& (255 : Int32)).toUInt32.toUInt16.toUInt32.toInt32)), .val (.ref b238), .unset, .unset, .unset] [(.int ((p5 &&& (255 : Int32)).toUInt32.toUInt16.toUInt32.toInt32)), (.int (4 : Int32)), (.ref b238)])) (fun t k => ?_) ?_
      · show Steps p.tables e below (T320.setTop (mkF m 135 #[.val (.int p0), .val (.int p1), .val (.int p2), .val (.int p3), .val (.int p4), .val (.int p5), .val (.int (p0 &&& (3 : Int32))), .val (.int ((p4 &&& (255 : Int32)).toUInt32.toUInt16.toUInt32.toInt32)), .val (.int ((((p4.toUInt32 >>> ((8 : Int32) &&& 31).toUInt32).toInt32) &&& (255 : Int32)).toUInt32.toUInt16.toUInt32.toInt32)), .val (.int ((((p4.toUInt32 >>> ((16 : Int32) &&& 31).toUInt32).toInt32) &&& (255 : Int32)).toUInt32.toUInt16.toUInt32.toInt32)), .val (.int ((((p4.toUInt32 >>> ((24 : Int32) &&& 31).toUInt32).toInt32) &&& (255 : Int32)).toUInt32.toUInt16.toUInt32.toInt32)), .val (.int ((p5 &&& (255 : Int32)).toUInt32.toUInt16.toUInt32.toInt32)), .val (.ref b238), .unset, .unset, .unset] [])) t
        refine XS.aload X320.here hx rfl (hb hby at_135) rfl rfl ?_
        refine XS.iconst X320.here hx rfl (hb hby at_137) ?_
        refine XS.iload X320.here hx rfl (hb hby at_138) rfl ?_
        exact k
      have cq328 := f327
      obtain ⟨clq328, Arq328, qq328, Sq328, Nq328, Hq328, Gq328⟩ := cq328
      obtain ⟨T329, h329, X329, e329, W329, st329⟩ := stC X320 hx hZ e320 Arq328 (j := (4 : Int32)) (inb_of Sq328 ⟨by decide, by decide⟩) (g := (mkF m 140 #[.val (.int p0), .val (.int p1), .val (.int p2), .val (.int p3), .val (.int p4), .val (.int p5), .val (.int (p0 &&& (3 : Int32))), .val (.int ((p4 &&& (255 : Int32)).toUInt32.toUInt16.toUInt32.toInt32)), .val (.int ((((p4.toUInt32 >>> ((8 : Int32) &&& 31).toUInt32).toInt32) &&& (255 : Int32)).toUInt32.toUInt16.toUInt32.toInt32)), .val (.int ((((p4.toUInt32 >>> ((16 : Int32) &&& 31).toUInt32).toInt32) &&& (255 : Int32)).toUInt32.toUInt16.toUInt32.toInt32)), .val (.int ((((p4.toUInt32 >>> ((24 : Int32) &&& 31).toUInt32).toInt32) &&& (255 : Int32)).toUInt32.toUInt16.toUInt32.toInt32)), .val (.int ((p5 &&& (255 : Int32)).toUInt32.toUInt16.toUInt32.toInt32)), .val (.ref b238), .unset, .unset, .unset] [(.int ((p5 &&& (255 : Int32)).toUInt32.toUInt16.toUInt32.toInt32)), (.int (4 : Int32)), (.ref b238)])) rfl rfl (hb hby at_140)
      refine OwnGo.of st329 ?_
      have N329 := Fr.snoc X329 N320 g_b238
      have cs330 := CHr.wr W329 f326 f324.1
      have f331 : n0 ≤ h329.size := Nat.le_trans f322 (Keep.of_wr W329).1
      have f332 : OwnB s s h329 := f323.wr W329
      have f333 : CHr Z consts_1 s.vm h0 s.vm h329 := f324.trans cs330
      have f334 : Keep h0 h329 [] := f325.wr W329 (Or.inr sz_b238)
      have f335 : Safe Z consts_1 s.vm h329 b238 := cs330.safe f327.lt f326
      have f336 : Arv Z h329 b238 k238 .char (5 : Int32) [(.int ((106 : Int32)).toUInt32.toUInt16.toUInt32.toInt32), (.int ((97 : Int32)).toUInt32.toUInt16.toUInt32.toInt32), (.int ((116 : Int32)).toUInt32.toUInt16.toUInt32.toInt32), (.int ((115 : Int32)).toUInt32.toUInt16.toUInt32.toInt32), (.int (((p5 &&& (255 : Int32)).toUInt32.toUInt16.toUInt32.toInt32)).toUInt32.toUInt16.toUInt32.toInt32)] (.int (0 : Int32)) := Arv.set Arq328 qq328 Sq328 Nq328 Hq328 Gq328 (fits_nar_char _) W329 4 rfl (Nat.le_of_ble_eq_true rfl)
      show OwnGo p.tables e below _ (T329.setTop (mkF m 141 #[.val (.int p0), .val (.int p1), .val (.int p2), .val (.int p3), .val (.int p4), .val (.int p5), .val (.int (p0 &&& (3 : Int32))), .val (.int ((p4 &&& (255 : Int32)).toUInt32.toUInt16.toUInt32.toInt32)), .val (.int ((((p4.toUInt32 >>> ((8 : Int32) &&& 31).toUInt32).toInt32) &&& (255 : Int32)).toUInt32.toUInt16.toUInt32.toInt32)), .val (.int ((((p4.toUInt32 >>> ((16 : Int32) &&& 31).toUInt32).toInt32) &&& (255 : Int32)).toUInt32.toUInt16.toUInt32.toInt32)), .val (.int ((((p4.toUInt32 >>> ((24 : Int32) &&& 31).toUInt32).toInt32) &&& (255 : Int32)).toUInt32.toUInt16.toUInt32.toInt32)), .val (.int ((p5 &&& (255 : Int32)).toUInt32.toUInt16.toUInt32.toInt32)), .val (.ref b238), .unset, .unset, .unset] []))
      refine OwnGo.of (A := T329.setTop (mkF m 141 #[.val (.int p0), .val (.int p1), .val (.int p2), .val (.int p3), .val (.int p4), .val (.int p5), .val (.int (p0 &&& (3 : Int32))), .val (.int ((p4 &&& (255 : Int32)).toUInt32.toUInt16.toUInt32.toInt32)), .val (.int ((((p4.toUInt32 >>> ((8 : Int32) &&& 31).toUInt32).toInt32) &&& (255 : Int32)).toUInt32.toUInt16.toUInt32.toInt32)), .val (.int ((((p4.toUInt32 >>> ((16 : Int32) &&& 31).toUInt32).toInt32) &&& (255 : Int32)).toUInt32.toUInt16.toUInt32.toInt32)), .val (.int ((((p4.toUInt32 >>> ((24 : Int32) &&& 31).toUInt32).toInt32) &&& (255 : Int32)).toUInt32.toUInt16.toUInt32.toInt32)), .val (.int ((p5 &&& (255 : Int32)).toUInt32.toUInt16.toUInt32.toInt32)), .val (.ref b238), .unset, .unset, .unset] [])) (B := T329.setTop (mkF m 232 #[.val (.int p0), .val (.int p1), .val (.int p2), .val (.int p3), .val (.int p4), .val (.int p5), .val (.int (p0 &&& (3 : Int32))), .val (.int ((p4 &&& (255 : Int32)).toUInt32.toUInt16.toUInt32.toInt32)), .val (.int ((((p4.toUInt32 >>> ((8 : Int32) &&& 31).toUInt32).toInt32) &&& (255 : Int32)).toUInt32.toUInt16.toUInt32.toInt32)), .val (.int ((((p4.toUInt32 >>> ((16 : Int32) &&& 31).toUInt32).toInt32) &&& (255 : Int32)).toUInt32.toUInt16.toUInt32.toInt32)), .val (.int ((((p4.toUInt32 >>> ((24 : Int32) &&& 31).toUInt32).toInt32) &&& (255 : Int32)).toUInt32.toUInt16.toUInt32.toInt32)), .val (.int ((p5 &&& (255 : Int32)).toUInt32.toUInt16.toUInt32.toInt32)), .val (.ref b238), .val (.int (4 : Int32)), .unset, .unset] [])) (fun t k => ?_) ?_
      · show Steps p.tables e below (T329.setTop (mkF m 141 #[.val (.int p0), .val (.int p1), .val (.int p2), .val (.int p3), .val (.int p4), .val (.int p5), .val (.int (p0 &&& (3 : Int32))), .val (.int ((p4 &&& (255 : Int32)).toUInt32.toUInt16.toUInt32.toInt32)), .val (.int ((((p4.toUInt32 >>> ((8 : Int32) &&& 31).toUInt32).toInt32) &&& (255 : Int32)).toUInt32.toUInt16.toUInt32.toInt32)), .val (.int ((((p4.toUInt32 >>> ((16 : Int32) &&& 31).toUInt32).toInt32) &&& (255 : Int32)).toUInt32.toUInt16.toUInt32.toInt32)), .val (.int ((((p4.toUInt32 >>> ((24 : Int32) &&& 31).toUInt32).toInt32) &&& (255 : Int32)).toUInt32.toUInt16.toUInt32.toInt32)), .val (.int ((p5 &&& (255 : Int32)).toUInt32.toUInt16.toUInt32.toInt32)), .val (.ref b238), .unset, .unset, .unset] [])) t
        refine XS.iconst X329.here hx rfl (hb hby at_141) ?_
        refine XS.istore X329.here hx rfl (hb hby at_142) rfl (l' := #[.val (.int p0), .val (.int p1), .val (.int p2), .val (.int p3), .val (.int p4), .val (.int p5), .val (.int (p0 &&& (3 : Int32))), .val (.int ((p4 &&& (255 : Int32)).toUInt32.toUInt16.toUInt32.toInt32)), .val (.int ((((p4.toUInt32 >>> ((8 : Int32) &&& 31).toUInt32).toInt32) &&& (255 : Int32)).toUInt32.toUInt16.toUInt32.toInt32)), .val (.int ((((p4.toUInt32 >>> ((16 : Int32) &&& 31).toUInt32).toInt32) &&& (255 : Int32)).toUInt32.toUInt16.toUInt32.toInt32)), .val (.int ((((p4.toUInt32 >>> ((24 : Int32) &&& 31).toUInt32).toInt32) &&& (255 : Int32)).toUInt32.toUInt16.toUInt32.toInt32)), .val (.int ((p5 &&& (255 : Int32)).toUInt32.toUInt16.toUInt32.toInt32)), .val (.ref b238), .val (.int (4 : Int32)), .unset, .unset]) rfl ?_
        refine XS.goto X329.here hx rfl (pc0 := 144) (pc' := 232) rfl (hb hby at_144) (by decide) (by decide) ?_
        exact k
      exact J232 T329 _ _ (.val (.int (p0 &&& (3 : Int32)))) (.val (.int ((p4 &&& (255 : Int32)).toUInt32.toUInt16.toUInt32.toInt32))) (.val (.int ((((p4.toUInt32 >>> ((8 : Int32) &&& 31).toUInt32).toInt32) &&& (255 : Int32)).toUInt32.toUInt16.toUInt32.toInt32))) (.val (.int ((((p4.toUInt32 >>> ((16 : Int32) &&& 31).toUInt32).toInt32) &&& (255 : Int32)).toUInt32.toUInt16.toUInt32.toInt32))) (.val (.int ((((p4.toUInt32 >>> ((24 : Int32) &&& 31).toUInt32).toInt32) &&& (255 : Int32)).toUInt32.toUInt16.toUInt32.toInt32))) (.val (.int ((p5 &&& (255 : Int32)).toUInt32.toUInt16.toUInt32.toInt32))) b238 k238 (((106 : Int32)).toUInt32.toUInt16.toUInt32.toInt32) (((97 : Int32)).toUInt32.toUInt16.toUInt32.toInt32) (((116 : Int32)).toUInt32.toUInt16.toUInt32.toInt32) (((115 : Int32)).toUInt32.toUInt16.toUInt32.toInt32) ((((p5 &&& (255 : Int32)).toUInt32.toUInt16.toUInt32.toInt32)).toUInt32.toUInt16.toUInt32.toInt32) (4 : Int32) X329 e329 N329 f331 f334 f332 f333 f336 (own_ch ⟨by decide, by decide⟩) (own_ch ⟨by decide, by decide⟩) (own_ch ⟨by decide, by decide⟩) (own_ch ⟨by decide, by decide⟩) (own_ch (own_ch (own_msk _))) g_b238 sz_b238 f335
    · refine OwnGo.of (A := T238.setTop (mkF m 108 #[.val (.int p0), .val (.int p1), .val (.int p2), .val (.int p3), .val (.int p4), .val (.int p5), .val (.int (p0 &&& (3 : Int32))), .val (.int ((p4 &&& (255 : Int32)).toUInt32.toUInt16.toUInt32.toInt32)), .val (.int ((((p4.toUInt32 >>> ((8 : Int32) &&& 31).toUInt32).toInt32) &&& (255 : Int32)).toUInt32.toUInt16.toUInt32.toInt32)), .val (.int ((((p4.toUInt32 >>> ((16 : Int32) &&& 31).toUInt32).toInt32) &&& (255 : Int32)).toUInt32.toUInt16.toUInt32.toInt32)), .val (.int ((((p4.toUInt32 >>> ((24 : Int32) &&& 31).toUInt32).toInt32) &&& (255 : Int32)).toUInt32.toUInt16.toUInt32.toInt32)), .val (.int ((p5 &&& (255 : Int32)).toUInt32.toUInt16.toUInt32.toInt32)), .val (.ref b238), .unset, .unset, .unset] [(.int (1 : Int32)), (.int (p0 &&& (3 : Int32)))])) (B := T238.setTop (mkF m 150 #[.val (.int p0), .val (.int p1), .val (.int p2), .val (.int p3), .val (.int p4), .val (.int p5), .val (.int (p0 &&& (3 : Int32))), .val (.int ((p4 &&& (255 : Int32)).toUInt32.toUInt16.toUInt32.toInt32)), .val (.int ((((p4.toUInt32 >>> ((8 : Int32) &&& 31).toUInt32).toInt32) &&& (255 : Int32)).toUInt32.toUInt16.toUInt32.toInt32)), .val (.int ((((p4.toUInt32 >>> ((16 : Int32) &&& 31).toUInt32).toInt32) &&& (255 : Int32)).toUInt32.toUInt16.toUInt32.toInt32)), .val (.int ((((p4.toUInt32 >>> ((24 : Int32) &&& 31).toUInt32).toInt32) &&& (255 : Int32)).toUInt32.toUInt16.toUInt32.toInt32)), .val (.int ((p5 &&& (255 : Int32)).toUInt32.toUInt16.toUInt32.toInt32)), .val (.ref b238), .unset, .unset, .unset] [(.int (2 : Int32)), (.int (p0 &&& (3 : Int32)))])) (fun t k => ?_) ?_
      · show Steps p.tables e below (T238.setTop (mkF m 108 #[.val (.int p0), .val (.int p1), .val (.int p2), .val (.int p3), .val (.int p4), .val (.int p5), .val (.int (p0 &&& (3 : Int32))), .val (.int ((p4 &&& (255 : Int32)).toUInt32.toUInt16.toUInt32.toInt32)), .val (.int ((((p4.toUInt32 >>> ((8 : Int32) &&& 31).toUInt32).toInt32) &&& (255 : Int32)).toUInt32.toUInt16.toUInt32.toInt32)), .val (.int ((((p4.toUInt32 >>> ((16 : Int32) &&& 31).toUInt32).toInt32) &&& (255 : Int32)).toUInt32.toUInt16.toUInt32.toInt32)), .val (.int ((((p4.toUInt32 >>> ((24 : Int32) &&& 31).toUInt32).toInt32) &&& (255 : Int32)).toUInt32.toUInt16.toUInt32.toInt32)), .val (.int ((p5 &&& (255 : Int32)).toUInt32.toUInt16.toUInt32.toInt32)), .val (.ref b238), .unset, .unset, .unset] [(.int (1 : Int32)), (.int (p0 &&& (3 : Int32)))])) t
        refine XS.icmpYes X238.here hx rfl (pc0 := 108) (pc' := 147) rfl (hb hby at_108) rfl (feq hc291).2 (by decide) (by decide) ?_
        refine XS.iload X238.here hx rfl (hb hby at_147) rfl ?_
        refine XS.iconst X238.here hx rfl (hb hby at_149) ?_
        exact k
      by_cases hc337 : (p0 &&& (3 : Int32)) = (2 : Int32)
      · refine OwnGo.of (A := T238.setTop (mkF m 150 #[.val (.int p0), .val (.int p1), .val (.int p2), .val (.int p3), .val (.int p4), .val (.int p5), .val (.int (p0 &&& (3 : Int32))), .val (.int ((p4 &&& (255 : Int32)).toUInt32.toUInt16.toUInt32.toInt32)), .val (.int ((((p4.toUInt32 >>> ((8 : Int32) &&& 31).toUInt32).toInt32) &&& (255 : Int32)).toUInt32.toUInt16.toUInt32.toInt32)), .val (.int ((((p4.toUInt32 >>> ((16 : Int32) &&& 31).toUInt32).toInt32) &&& (255 : Int32)).toUInt32.toUInt16.toUInt32.toInt32)), .val (.int ((((p4.toUInt32 >>> ((24 : Int32) &&& 31).toUInt32).toInt32) &&& (255 : Int32)).toUInt32.toUInt16.toUInt32.toInt32)), .val (.int ((p5 &&& (255 : Int32)).toUInt32.toUInt16.toUInt32.toInt32)), .val (.ref b238), .unset, .unset, .unset] [(.int (2 : Int32)), (.int (p0 &&& (3 : Int32)))])) (B := T238.setTop (mkF m 158 #[.val (.int p0), .val (.int p1), .val (.int p2), .val (.int p3), .val (.int p4), .val (.int p5), .val (.int (p0 &&& (3 : Int32))), .val (.int ((p4 &&& (255 : Int32)).toUInt32.toUInt16.toUInt32.toInt32)), .val (.int ((((p4.toUInt32 >>> ((8 : Int32) &&& 31).toUInt32).toInt32) &&& (255 : Int32)).toUInt32.toUInt16.toUInt32.toInt32)), .val (.int ((((p4.toUInt32 >>> ((16 : Int32) &&& 31).toUInt32).toInt32) &&& (255 : Int32)).toUInt32.toUInt16.toUInt32.toInt32)), .val (.int ((((p4.toUInt32 >>> ((24 : Int32) &&& 31).toUInt32).toInt32) &&& (255 : Int32)).toUInt32.toUInt16.toUInt32.toInt32)), .val (.int ((p5 &&& (255 : Int32)).toUInt32.toUInt16.toUInt32.toInt32)), .val (.ref b238), .unset, .unset, .unset] [(.int (101 : Int32)), (.int (0 : Int32)), (.ref b238)])) (fun t k => ?_) ?_
        · show Steps p.tables e below (T238.setTop (mkF m 150 #[.val (.int p0), .val (.int p1), .val (.int p2), .val (.int p3), .val (.int p4), .val (.int p5), .val (.int (p0 &&& (3 : Int32))), .val (.int ((p4 &&& (255 : Int32)).toUInt32.toUInt16.toUInt32.toInt32)), .val (.int ((((p4.toUInt32 >>> ((8 : Int32) &&& 31).toUInt32).toInt32) &&& (255 : Int32)).toUInt32.toUInt16.toUInt32.toInt32)), .val (.int ((((p4.toUInt32 >>> ((16 : Int32) &&& 31).toUInt32).toInt32) &&& (255 : Int32)).toUInt32.toUInt16.toUInt32.toInt32)), .val (.int ((((p4.toUInt32 >>> ((24 : Int32) &&& 31).toUInt32).toInt32) &&& (255 : Int32)).toUInt32.toUInt16.toUInt32.toInt32)), .val (.int ((p5 &&& (255 : Int32)).toUInt32.toUInt16.toUInt32.toInt32)), .val (.ref b238), .unset, .unset, .unset] [(.int (2 : Int32)), (.int (p0 &&& (3 : Int32)))])) t
          refine XS.icmpNo X238.here hx rfl (hb hby at_150) rfl (teq hc337).2 ?_
          refine XS.aload X238.here hx rfl (hb hby at_153) rfl rfl ?_
          refine XS.iconst X238.here hx rfl (hb hby at_155) ?_
          refine XS.bipush X238.here hx rfl (hb hby at_156) ?_
          exact k
        have cq338 := f244
        obtain ⟨clq338, Arq338, qq338, Sq338, Nq338, Hq338, Gq338⟩ := cq338
        obtain ⟨T339, h339, X339, e339, W339, st339⟩ := stC X238 hx hZ e238 Arq338 (j := (0 : Int32)) (inb_of Sq338 ⟨by decide, by decide⟩) (g := (mkF m 158 #[.val (.int p0), .val (.int p1), .val (.int p2), .val (.int p3), .val (.int p4), .val (.int p5), .val (.int (p0 &&& (3 : Int32))), .val (.int ((p4 &&& (255 : Int32)).toUInt32.toUInt16.toUInt32.toInt32)), .val (.int ((((p4.toUInt32 >>> ((8 : Int32) &&& 31).toUInt32).toInt32) &&& (255 : Int32)).toUInt32.toUInt16.toUInt32.toInt32)), .val (.int ((((p4.toUInt32 >>> ((16 : Int32) &&& 31).toUInt32).toInt32) &&& (255 : Int32)).toUInt32.toUInt16.toUInt32.toInt32)), .val (.int ((((p4.toUInt32 >>> ((24 : Int32) &&& 31).toUInt32).toInt32) &&& (255 : Int32)).toUInt32.toUInt16.toUInt32.toInt32)), .val (.int ((p5 &&& (255 : Int32)).toUInt32.toUInt16.toUInt32.toInt32)), .val (.ref b238), .unset, .unset, .unset] [(.int (101 : Int32)), (.int (0 : Int32)), (.ref b238)])) rfl rfl (hb hby at_158)
        refine OwnGo.of st339 ?_
        have N339 := Fr.snoc X339 N0 g_b238
        have cs340 := CHr.wr W339 gn_b238 f242.1
        have f341 : n0 ≤ h339.size := Nat.le_trans f240 (Keep.of_wr W339).1
        have f342 : OwnB s s h339 := f241.wr W339
        have f343 : CHr Z consts_1 s.vm h0 s.vm h339 := f242.trans cs340
        have f344 : Keep h0 h339 [] := f243.wr W339 (Or.inr sz_b238)
        have f345 : Safe Z consts_1 s.vm h339 b238 := cs340.safe f244.lt gn_b238
        have f346 : Arv Z h339 b238 k238 .char (5 : Int32) [(.int ((101 : Int32)).toUInt32.toUInt16.toUInt32.toInt32), (.int (0 : Int32)), (.int (0 : Int32)), (.int (0 : Int32)), (.int (0 : Int32))] (.int (0 : Int32)) := Arv.set Arq338 qq338 Sq338 Nq338 Hq338 Gq338 (fits_nar_char _) W339 0 rfl (Nat.le_of_ble_eq_true rfl)
        show OwnGo p.tables e below _ (T339.setTop (mkF m 159 #[.val (.int p0), .val (.int p1), .val (.int p2), .val (.int p3), .val (.int p4), .val (.int p5), .val (.int (p0 &&& (3 : Int32))), .val (.int ((p4 &&& (255 : Int32)).toUInt32.toUInt16.toUInt32.toInt32)), .val (.int ((((p4.toUInt32 >>> ((8 : Int32) &&& 31).toUInt32).toInt32) &&& (255 : Int32)).toUInt32.toUInt16.toUInt32.toInt32)), .val (.int ((((p4.toUInt32 >>> ((16 : Int32) &&& 31).toUInt32).toInt32) &&& (255 : Int32)).toUInt32.toUInt16.toUInt32.toInt32)), .val (.int ((((p4.toUInt32 >>> ((24 : Int32) &&& 31).toUInt32).toInt32) &&& (255 : Int32)).toUInt32.toUInt16.toUInt32.toInt32)), .val (.int ((p5 &&& (255 : Int32)).toUInt32.toUInt16.toUInt32.toInt32)), .val (.ref b238), .unset, .unset, .unset] []))
        refine OwnGo.of (A := T339.setTop (mkF m 159 #[.val (.int p0), .val (.int p1), .val (.int p2), .val (.int p3), .val (.int p4), .val (.int p5), .val (.int (p0 &&& (3 : Int32))), .val (.int ((p4 &&& (255 : Int32)).toUInt32.toUInt16.toUInt32.toInt32)), .val (.int ((((p4.toUInt32 >>> ((8 : Int32) &&& 31).toUInt32).toInt32) &&& (255 : Int32)).toUInt32.toUInt16.toUInt32.toInt32)), .val (.int ((((p4.toUInt32 >>> ((16 : Int32) &&& 31).toUInt32).toInt32) &&& (255 : Int32)).toUInt32.toUInt16.toUInt32.toInt32)), .val (.int ((((p4.toUInt32 >>> ((24 : Int32) &&& 31).toUInt32).toInt32) &&& (255 : Int32)).toUInt32.toUInt16.toUInt32.toInt32)), .val (.int ((p5 &&& (255 : Int32)).toUInt32.toUInt16.toUInt32.toInt32)), .val (.ref b238), .unset, .unset, .unset] [])) (B := T339.setTop (mkF m 164 #[.val (.int p0), .val (.int p1), .val (.int p2), .val (.int p3), .val (.int p4), .val (.int p5), .val (.int (p0 &&& (3 : Int32))), .val (.int ((p4 &&& (255 : Int32)).toUInt32.toUInt16.toUInt32.toInt32)), .val (.int ((((p4.toUInt32 >>> ((8 : Int32) &&& 31).toUInt32).toInt32) &&& (255 : Int32)).toUInt32.toUInt16.toUInt32.toInt32)), .val (.int ((((p4.toUInt32 >>> ((16 : Int32) &&& 31).toUInt32).toInt32) &&& (255 : Int32)).toUInt32.toUInt16.toUInt32.toInt32)), .val (.int ((((p4.toUInt32 >>> ((24 : Int32) &&& 31).toUInt32).toInt32) &&& (255 : Int32)).toUInt32.toUInt16.toUInt32.toInt32)), .val (.int ((p5 &&& (255 : Int32)).toUInt32.toUInt16.toUInt32.toInt32)), .val (.ref b238), .unset, .unset, .unset] [(.int (97 : Int32)), (.int (1 : Int32)), (.ref b238)])) (fun t k => ?_) ?_
        · show Steps p.tables e below (T339.setTop (mkF m 159 #[.val (.int p0), .val (.int p1), .val (.int p2), .val (.int p3), .val (.int p4), .val (.int p5), .val (.int (p0 &&& (3 : Int32))), .val (.int ((p4 &&& (255 : Int32)).toUInt32.toUInt16.toUInt32.toInt32)), .val (.int ((((p4.toUInt32 >>> ((8 : Int32) &&& 31).toUInt32).toInt32) &&& (255 : Int32)).toUInt32.toUInt16.toUInt32.toInt32)), .val (.int ((((p4.toUInt32 >>> ((16 : Int32) &&& 31).toUInt32).toInt32) &&& (255 : Int32)).toUInt32.toUInt16.toUInt32.toInt32)), .val (.int ((((p4.toUInt32 >>> ((24 : Int32) &&& 31).toUInt32).toInt32) &&& (255 : Int32)).toUInt32.toUInt16.toUInt32.toInt32)), .val (.int ((p5 &&& (255 : Int32)).toUInt32.toUInt16.toUInt32.toInt32)), .val (.ref b238), .unset, .unset, .unset] [])) t
          refine XS.aload X339.here hx rfl (hb hby at_159) rfl rfl ?_
          refine XS.iconst X339.here hx rfl (hb hby at_161) ?_
          refine XS.bipush X339.here hx rfl (hb hby at_162) ?_
          exact k
        have cq347 := f346
        obtain ⟨clq347, Arq347, qq347, Sq347, Nq347, Hq347, Gq347⟩ := cq347
        obtain ⟨T348, h348, X348, e348, W348, st348⟩ := stC X339 hx hZ e339 Arq347 (j := (1 : Int32)) (inb_of Sq347 ⟨by decide, by decide⟩) (g := (mkF m 164 #[.val (.int p0), .val (.int p1), .val (.int p2), .val (.int p3), .val (.int p4), .val (.int p5), .val (.int (p0 &&& (3 : Int32))), .val (.int ((p4 &&& (255 : Int32)).toUInt32.toUInt16.toUInt32.toInt32)), .val (.int ((((p4.toUInt32 >>> ((8 : Int32) &&& 31).toUInt32).toInt32) &&& (255 : Int32)).toUInt32.toUInt16.toUInt32.toInt32)), .val (.int ((((p4.toUInt32 >>> ((16 : Int32) &&& 31).toUInt32).toInt32) &&& (255 : Int32)).toUInt32.toUInt16.toUInt32.toInt32)), .val (.int ((((p4.toUInt32 >>> ((24 : Int32) &&& 31).toUInt32).toInt32) &&& (255 : Int32)).toUInt32.toUInt16.toUInt32.toInt32)), .val (.int ((p5 &&& (255 : Int32)).toUInt32.toUInt16.toUInt32.toInt32)), .val (.ref b238), .unset, .unset, .unset] [(.int (97 : Int32)), (.int (1 : Int32)), (.ref b238)])) rfl rfl (hb hby at_164)
        refine OwnGo.of st348 ?_
        have N348 := Fr.snoc X348 N339 g_b238
        have cs349 := CHr.wr W348 f345 f343.1
        have f350 : n0 ≤ h348.size := Nat.le_trans f341 (Keep.of_wr W348).1
        have f351 : OwnB s s h348 := f342.wr W348
        have f352 : CHr Z consts_1 s.vm h0 s.vm h348 := f343.trans cs349
        have f353 : Keep h0 h348 [] := f344.wr W348 (Or.inr sz_b238)
        have f354 : Safe Z consts_1 s.vm h348 b238 := cs349.safe f346.lt f345
        have f355 : Arv Z h348 b238 k238 .char (5 : Int32) [(.int ((101 : Int32)).toUInt32.toUInt16.toUInt32.toInt32), (.int ((97 : Int32)).toUInt32.toUInt16.toUInt32.toInt32), (.int (0 : Int32)), (.int (0 : Int32)), (.int (0 : Int32))] (.int (0 : Int32)) := Arv.set Arq347 qq347 Sq347 Nq347 Hq347 Gq347 (fits_nar_char _) W348 1 rfl (Nat.le_of_ble_eq_true rfl)
        show OwnGo p.tables e below _ (T348.setTop (mkF m 165 #[.val (.int p0), .val (.int p1), .val (.int p2), .val (.int p3), .val (.int p4), .val (.int p5), .val (.int (p0 &&& (3 : Int32))), .val (.int ((p4 &&& (255 : Int32)).toUInt32.toUInt16.toUInt32.toInt32)), .val (.int ((((p4.toUInt32 >>> ((8 : Int32) &&& 31).toUInt32).toInt32) &&& (255 : Int32)).toUInt32.toUInt16.toUInt32.toInt32)), .val (.int ((((p4.toUInt32 >>> ((16 : Int32) &&& 31).toUInt32).toInt32) &&& (255 : Int32)).toUInt32.toUInt16.toUInt32.toInt32)), .val (.int ((((p4.toUInt32 >>> ((24 : Int32) &&& 31).toUInt32).toInt32) &&& (255 : Int32)).toUInt32.toUInt16.toUInt32.toInt32)), .val (.int ((p5 &&& (255 : Int32)).toUInt32.toUInt16.toUInt32.toInt32)), .val (.ref b238), .unset, .unset, .unset] []))
        refine OwnGo.of (A := T348.setTop (mkF m 165 #[.val (.int p0), .val (.int p1), .val (.int p2), .val (.int p3), .val (.int p4), .val (.int p5), .val (.int (p0 &&& (3 : Int32))), .val (.int ((p4 &&& (255 : Int32)).toUInt32.toUInt16.toUInt32.toInt32)), .val (.int ((((p4.toUInt32 >>> ((8 : Int32) &&& 31).toUInt32).toInt32) &&& (255 : Int32)).toUInt32.toUInt16.toUInt32.toInt32)), .val (.int ((((p4.toUInt32 >>> ((16 : Int32) &&& 31).toUInt32).toInt32) &&& (255 : Int32)).toUInt32.toUInt16.toUInt32.toInt32)), .val (.int ((((p4.toUInt32 >>> ((24 : Int32) &&& 31).toUInt32).toInt32) &&& (255 : Int32)).toUInt32.toUInt16.toUInt32.toInt32)), .val (.int ((p5 &&& (255 : Int32)).toUInt32.toUInt16.toUInt32.toInt32)), .val (.ref b238), .unset, .unset, .unset] [])) (B := T348.setTop (mkF m 170 #[.val (.int p0), .val (.int p1), .val (.int p2), .val (.int p3), .val (.int p4), .val (.int p5), .val (.int (p0 &&& (3 : Int32))), .val (.int ((p4 &&& (255 : Int32)).toUInt32.toUInt16.toUInt32.toInt32)), .val (.int ((((p4.toUInt32 >>> ((8 : Int32) &&& 31).toUInt32).toInt32) &&& (255 : Int32)).toUInt32.toUInt16.toUInt32.toInt32)), .val (.int ((((p4.toUInt32 >>> ((16 : Int32) &&& 31).toUInt32).toInt32) &&& (255 : Int32)).toUInt32.toUInt16.toUInt32.toInt32)), .val (.int ((((p4.toUInt32 >>> ((24 : Int32) &&& 31).toUInt32).toInt32) &&& (255 : Int32)).toUInt32.toUInt16.toUInt32.toInt32)), .val (.int ((p5 &&& (255 : Int32)).toUInt32.toUInt16.toUInt32.toInt32)), .val (.ref b238), .unset, .unset, .unset] [(.int (100 : Int32)), (.int (2 : Int32)), (.ref b238)])) (fun t k => ?_) ?_
        · show Steps p.tables e below (T348.setTop (mkF m 165 #[.val (.int p0), .val (.int p1), .val (.int p2), .val (.int p3), .val (.int p4), .val (.int p5), .val (.int (p0 &&& (3 : Int32))), .val (.int ((p4 &&& (255 : Int32)).toUInt32.toUInt16.toUInt32.toInt32)), .val (.int ((((p4.toUInt32 >>> ((8 : Int32) &&& 31).toUInt32).toInt32) &&& (255 : Int32)).toUInt32.toUInt16.toUInt32.toInt32)), .val (.int ((((p4.toUInt32 >>> ((16 : Int32) &&& 31).toUInt32).toInt32) &&& (255 : Int32)).toUInt32.toUInt16.toUInt32.toInt32)), .val (.int ((((p4.toUInt32 >>> ((24 : Int32) &&& 31).toUInt32).toInt32) &&& (255 : Int32)).toUInt32.toUInt16.toUInt32.toInt32)), .val (.int ((p5 &&& (255 : Int32)).toUInt32.toUInt16.toUInt32.toInt32)), .val (.ref b238), .unset, .unset, .unset] [])) t
          refine XS.aload X348.here hx rfl (hb hby at_165) rfl rfl ?_
          refine XS.iconst X348.here hx rfl (hb hby at_167) ?_
          refine XS.bipush X348.here hx rfl (hb hby at_168) ?_
          exact k
        have cq356 := f355
        obtain ⟨clq356, Arq356, qq356, Sq356, Nq356, Hq356, Gq356⟩ := cq356
        obtain ⟨T357, h357, X357, e357, W357, st357⟩ := stC X348 hx hZ e348 Arq356 (j := (2 : Int32)) (inb_of Sq356 ⟨by decide, by decide⟩) (g := (mkF m 170 #[.val (.int p0), .val (.int p1), .val (.int p2), .val (.int p3), .val (.int p4), .val (.int p5), .val (.int (p0 &&& (3 : Int32))), .val (.int ((p4 &&& (255 : Int32)).toUInt32.toUInt16.toUInt32.toInt32)), .val (.int ((((p4.toUInt32 >>> ((8 : Int32) &&& 31).toUInt32).toInt32) &&& (255 : Int32)).toUInt32.toUInt16.toUInt32.toInt32)), .val (.int ((((p4.toUInt32 >>> ((16 : Int32) &&& 31).toUInt32).toInt32) &&& (255 : Int32)).toUInt32.toUInt16.toUInt32.toInt32)), .val (.int ((((p4.toUInt32 >>> ((24 : Int32) &&& 31).toUInt32).toInt32) &&& (255 : Int32)).toUInt32.toUInt16.toUInt32.toInt32)), .val (.int ((p5 &&& (255 : Int32)).toUInt32.toUInt16.toUInt32.toInt32)), .val (.ref b238), .unset, .unset, .unset] [(.int (100 : Int32)), (.int (2 : Int32)), (.ref b238)])) rfl rfl (hb hby at_170)
        refine OwnGo.of st357 ?_
        have N357 := Fr.snoc X357 N348 g_b238
        have cs358 := CHr.wr W357 f354 f352.1
        have f359 : n0 ≤ h357.size := Nat.le_trans f350 (Keep.of_wr W357).1
        have f360 : OwnB s s h357 := f351.wr W357
        have f361 : CHr Z consts_1 s.vm h0 s.vm h357 := f352.trans cs358
        have f362 : Keep h0 h357 [] := f353.wr W357 (Or.inr sz_b238)
        have f363 : Safe Z consts_1 s.vm h357 b238 := cs358.safe f355.lt f354
        have f364 : Arv Z h357 b238 k238 .char (5 : Int32) [(.int ((101 : Int32)).toUInt32.toUInt16.toUInt32.toInt32), (.int ((97 : Int32)).toUInt32.toUInt16.toUInt32.toInt32), (.int ((100 : Int32)).toUInt32.toUInt16.toUInt32.toInt32), (.int (0 : Int32)), (.int (0 : Int32))] (.int (0 : Int32)) := Arv.set Arq356 qq356 Sq356 Nq356 Hq356 Gq356 (fits_nar_char _) W357 2 rfl (Nat.le_of_ble_eq_true rfl)
        show OwnGo p.tables e below _ (T357.setTop (mkF m 171 #[.val (.int p0), .val (.int p1), .val (.int p2), .val (.int p3), .val (.int p4), .val (.int p5), .val (.int (p0 &&& (3 : Int32))), .val (.int ((p4 &&& (255 : Int32)).toUInt32.toUInt16.toUInt32.toInt32)), .val (.int ((((p4.toUInt32 >>> ((8 : Int32) &&& 31).toUInt32).toInt32) &&& (255 : Int32)).toUInt32.toUInt16.toUInt32.toInt32)), .val (.int ((((p4.toUInt32 >>> ((16 : Int32) &&& 31).toUInt32).toInt32) &&& (255 : Int32)).toUInt32.toUInt16.toUInt32.toInt32)), .val (.int ((((p4.toUInt32 >>> ((24 : Int32) &&& 31).toUInt32).toInt32) &&& (255 : Int32)).toUInt32.toUInt16.toUInt32.toInt32)), .val (.int ((p5 &&& (255 : Int32)).toUInt32.toUInt16.toUInt32.toInt32)), .val (.ref b238), .unset, .unset, .unset] []))
        refine OwnGo.of (A := T357.setTop (mkF m 171 #[.val (.int p0), .val (.int p1), .val (.int p2), .val (.int p3), .val (.int p4), .val (.int p5), .val (.int (p0 &&& (3 : Int32))), .val (.int ((p4 &&& (255 : Int32)).toUInt32.toUInt16.toUInt32.toInt32)), .val (.int ((((p4.toUInt32 >>> ((8 : Int32) &&& 31).toUInt32).toInt32) &&& (255 : Int32)).toUInt32.toUInt16.toUInt32.toInt32)), .val (.int ((((p4.toUInt32 >>> ((16 : Int32) &&& 31).toUInt32).toInt32) &&& (255 : Int32)).toUInt32.toUInt16.toUInt32.toInt32)), .val (.int ((((p4.toUInt32 >>> ((24 : Int32) &&& 31).toUInt32).toInt32) &&& (255 : Int32)).toUInt32.toUInt16.toUInt32.toInt32)), .val (.int ((p5 &&& (255 : Int32)).toUInt32.toUInt16.toUInt32.toInt32)), .val (.ref b238), .unset, .unset, .unset] [])) (B := T357.setTop (mkF m 176 #[.val (.int p0), .val (.int p1), .val (.int p2), .val (.int p3), .val (.int p4), .val (.int p5), .val (.int (p0 &&& (3 : Int32))), .val (.int ((p4 &&& (255 : Int32)).toUInt32.toUInt16.toUInt32.toInt32)), .val (.int ((((p4.toUInt32 >>> ((8 : Int32) &&& 31).toUInt32).toInt32) &&& (255 : Int32)).toUInt32.toUInt16.toUInt32.toInt32)), .val (.int ((((p4.toUInt32 >>> ((16 : Int32) &&& 31).toUInt32).toInt32) &&& (255 : Int32)).toUInt32.toUInt16.toUInt32.toInt32)), .val (.int ((((p4.toUInt32 >>> ((24 : Int32) &&& 31).toUInt32).toInt32) &&& (255 : Int32)).toUInt32.toUInt16.toUInt32.toInt32)), .val (.int ((p5 &&& (255 : Int32)).toUInt32.toUInt16.toUInt32.toInt32)), .val (.ref b238), .unset, .unset, .unset] [(.int (51 : Int32)), (.int (3 : Int32)), (.ref b238)])) (fun t k => ?_) ?_
        · show Steps p.tables e below (T357.setTop (mkF m 171 #[.val (.int p0), .val (.int p1), .val (.int p2), .val (.int p3), .val (.int p4), .val (.int p5), .val (.int (p0 &&& (3 : Int32))), .val (.int ((p4 &&& (255 : Int32)).toUInt32.toUInt16.toUInt32.toInt32)), .val (.int ((((p4.toUInt32 >>> ((8 : Int32) &&& 31).toUInt32).toInt32) &&& (255 : Int32)).toUInt32.toUInt16.toUInt32.toInt32)), .val (.int ((((p4.toUInt32 >>> ((16 : Int32) &&& 31).toUInt32).toInt32) &&& (255 : Int32)).toUInt32.toUInt16.toUInt32.toInt32)), .val (.int ((((p4.toUInt32 >>> ((24 : Int32) &&& 31).toUInt32).toInt32) &&& (255 : Int32)).toUInt32.toUInt16.toUInt32.toInt32)), .val (.int ((p5 &&& (255 : Int32)).toUInt32.toUInt16.toUInt32.toInt32)), .val (.ref b238), .unset, .unset, .unset] [])) t
          refine XS.aload X357.here hx rfl (hb hby at_171) rfl rfl ?_
          refine XS.iconst X357.here hx rfl (hb hby at_173) ?_
          refine XS.bipush X357.here hx rfl (hb hby at_174) ?_
          exact k
        have cq365 := f364
        obtain ⟨clq365, Arq365, qq365, Sq365, Nq365, Hq365, Gq365⟩ := cq365
        obtain ⟨T366, h366, X366, e366, W366, st366⟩ := stC X357 hx hZ e357 Arq365 (j := (3 : Int32)) (inb_of Sq365 ⟨by decide, by decide⟩) (g := (mkF m 176 #[.val (.int p0), .val (.int p1), .val (.int p2), .val (.int p3), .val (.int p4), .val (.int p5), .val (.int (p0 &&& (3 : Int32))), .val (.int ((p4 &&& (255 : Int32)).toUInt32.toUInt16.toUInt32.toInt32)), .val (.int ((((p4.toUInt32 >>> ((8 : Int32) &&& 31).toUInt32).toInt32) &&& (255 : Int32)).toUInt32.toUInt16.toUInt32.toInt32)), .val (.int ((((p4.toUInt32 >>> ((16 : Int32) &&& 31).toUInt32).toInt32) &&& (255 : Int32)).toUInt32.toUInt16.toUInt32.toInt32)), .val (.int ((((p4.toUInt32 >>> ((24 : Int32) &&& 31).toUInt32).toInt32) &&& (255 : Int32)).toUInt32.toUInt16.toUInt32.toInt32)), .val (.int ((p5 &&& (255 : Int32)).toUInt32.toUInt16.toUInt32.toInt32)), .val (.ref b238), .unset, .unset, .unset] [(.int (51 : Int32)), (.int (3 : Int32)), (.ref b238)])) rfl rfl (hb hby at_176)
        refine OwnGo.of st366 ?_
        have N366 := Fr.snoc X366 N357 g_b238
        have cs367 := CHr.wr W366 f363 f361.1
        have f368 : n0 ≤ h366.size := Nat.le_trans f359 (Keep.of_wr W366).1
        have f369 : OwnB s s h366 := f360.wr W366
        have f370 : CHr Z consts_1 s.vm h0 s.vm h366 := f361.trans cs367
        have f371 : Keep h0 h366 [] := f362.wr W366 (Or.inr sz_b238)
        have f372 : Safe Z consts_1 s.vm h366 b238 := cs367.safe f364.lt f363
        have f373 : Arv Z h366 b238 k238 .char (5 : Int32) [(.int ((101 : Int32)).toUInt32.toUInt16.toUInt32.toInt32), (.int ((97 : Int32)).toUInt32.toUInt16.toUInt32.toInt32), (.int ((100 : Int32)).toUInt32.toUInt16.toUInt32.toInt32), (.int ((51 : Int32)).toUInt32.toUInt16.toUInt32.toInt32), (.int (0 : Int32))] (.int (0 : Int32)) := Arv.set Arq365 qq365 Sq365 Nq365 Hq365 Gq365 (fits_nar_char _) W366 3 rfl (Nat.le_of_ble_eq_true rfl)
        show OwnGo p.tables e below _ (T366.setTop (mkF m 177 #[.val (.int p0), .val (.int p1), .val (.int p2), .val (.int p3), .val (.int p4), .val (.int p5), .val (.int (p0 &&& (3 : Int32))), .val (.int ((p4 &&& (255 : Int32)).toUInt32.toUInt16.toUInt32.toInt32)), .val (.int ((((p4.toUInt32 >>> ((8 : Int32) &&& 31).toUInt32).toInt32) &&& (255 : Int32)).toUInt32.toUInt16.toUInt32.toInt32)), .val (.int ((((p4.toUInt32 >>> ((16 : Int32) &&& 31).toUInt32).toInt32) &&& (255 : Int32)).toUInt32.toUInt16.toUInt32.toInt32)), .val (.int ((((p4.toUInt32 >>> ((24 : Int32) &&& 31).toUInt32).toInt32) &&& (255 : Int32)).toUInt32.toUInt16.toUInt32.toInt32)), .val (.int ((p5 &&& (255 : Int32)).toUInt32.toUInt16.toUInt32.toInt32)), .val (.ref b238), .unset, .unset, .unset] []))
        refine OwnGo.of (A := T366.setTop (mkF m 177 #[.val (.int p0), .val (.int p1), .val (.int p2), .val (.int p3), .val (.int p4), .val (.int p5), .val (.int (p0 &&& (3 : Int32))), .val (.int ((p4 &&& (255 : Int32)).toUInt32.toUInt16.toUInt32.toInt32)), .val (.int ((((p4.toUInt32 >>> ((8 : Int32) &&& 31).toUInt32).toInt32) &&& (255 : Int32)).toUInt32.toUInt16.toUInt32.toInt32)), .val (.int ((((p4.toUInt32 >>> ((16 : Int32) &&& 31).toUInt32).toInt32) &&& (255 : Int32)).toUInt32.toUInt16.toUInt32.toInt32)), .val (.int ((((p4.toUInt32 >>> ((24 : Int32) &&& 31).toUInt32).toInt32) &&& (255 : Int32)).toUInt32.toUInt16.toUInt32.toInt32)), .val (.int ((p5 &&& (255 : Int32)).toUInt32.toUInt16.toUInt32.toInt32)), .val (.ref b238), .unset, .unset, .unset] [])) (B := T366.setTop (mkF m 182 #[.val (.int p0), .val (.int p1), .val (.int p2), .val (.int p3), .val (.int p4), .val (.int p5), .val (.int (p0 &&& (3 : Int32))), .val (.int ((p4 &&& (255 : Int32)).toUInt32.toUInt16.toUInt32.toInt32)), .val (.int ((((p4.toUInt32 >>> ((8 : Int32) &&& 31).toUInt32).toInt32) &&& (255 : Int32)).toUInt32.toUInt16.toUInt32.toInt32)), .val (.int ((((p4.toUInt32 >>> ((16 : Int32) &&& 31).toUInt32).toInt32) &&& (255 : Int32)).toUInt32.toUInt16.toUInt32.toInt32)), .val (.int ((((p4.toUInt32 >>> ((24 : Int32) &&& 31).toUInt32).toInt32) &&& (255 : Int32)).toUInt32.toUInt16.toUInt32.toInt32)), .val (.int ((p5 &&& (255 : Int32)).toUInt32.toUInt16.toUInt32.toInt32)), .val (.ref b238), .unset, .unset, .unset] [(.int ((p5 &&& (255 : Int32)).toUInt32.toUInt16.toUInt32.toInt32)), (.int (4 : Int32)), (.ref b238)])) (fun t k => ?_) ?_
        · show Steps p.tables e below (T366.setTop (mkF m 177 #[.val (.int p0), .val (.int p1), .val (.int p2), .val (.int p3), .val (.int p4), .val (.int p5), .val (.int (p0 &&& (3 : Int32))), .val (.int ((p4 &&& (255 : Int32)).toUInt32.toUInt16.toUInt32.toInt32)), .val (.int ((((p4.toUInt32 >>> ((8 : Int32) &&& 31).toUInt32).toInt32) &&& (255 : Int32)).toUInt32.toUInt16.toUInt32.toInt32)), .val (.int ((((p4.toUInt32 >>> ((16 : Int32) &&& 31).toUInt32).toInt32) &&& (255 : Int32)).toUInt32.toUInt16.toUInt32.toInt32)), .val (.int ((((p4.toUInt32 >>> ((24 : Int32) &&& 31).toUInt32).toInt32) &&& (255 : Int32)).toUInt32.toUInt16.toUInt32.toInt32)), .val (.int ((p5 &&& (255 : Int32)).toUInt32.toUInt16.toUInt32.toInt32)), .val (.ref b238), .unset, .unset, .unset] [])) t
          refine XS.aload X366.here hx rfl (hb hby at_177) rfl rfl ?_
          refine XS.iconst X366.here hx rfl (hb hby at_179) ?_
          refine XS.iload X366.here hx rfl (hb hby at_180) rfl ?_
          exact k
        have cq374 := f373
        obtain ⟨clq374, Arq374, qq374, Sq374, Nq374, Hq374, Gq374⟩ := cq374
        obtain ⟨T375, h375, X375, e375, W375, st375⟩ := stC X366 hx hZ e366 Arq374 (j := (4 : Int32)) (inb_of Sq374 ⟨by decide, by decide⟩) (g := (mkF m 182 #[.val (.int p0), .val (.int p1), .val (.int p2), .val (.int p3), .val (.int p4), .val (.int p5), .val (.int (p0 &&& (3 : Int32))), .val (.int ((p4 &&& (255 : Int32)).toUInt32.toUInt16.toUInt32.toInt32)), .val (.int ((((p4.toUInt32 >>> ((8 : Int32) &&& 31).toUInt32).toInt32) &&& (255 : Int32)).toUInt32.toUInt16.toUInt32.toInt32)), .val (.int ((((p4.toUInt32 >>> ((16 : Int32) &&& 31).toUInt32).toInt32) &&& (255 : Int32)).toUInt32.toUInt16.toUInt32.toInt32)), .val (.int ((((p4.toUInt32 >>> ((24 : Int32) &&& 31).toUInt32).toInt32) &&& (255 : Int32)).toUInt32.toUInt16.toUInt32.toInt32)), .val (.int ((p5 &&& (255 : Int32)).toUInt32.toUInt16.toUInt32.toInt32)), .val (.ref b238), .unset, .unset, .unset] [(.int ((p5 &&& (255 : Int32)).toUInt32.toUInt16.toUInt32.toInt32)), (.int (4 : Int32)), (.ref b238)])) rfl rfl (hb hby at_182)
        refine OwnGo.of st375 ?_
        have N375 := Fr.snoc X375 N366 g_b238
        have cs376 := CHr.wr W375 f372 f370.1
        have f377 : n0 ≤ h375.size := Nat.le_trans f368 (Keep.of_wr W375).1
        have f378 : OwnB s s h375 := f369.wr W375
        have f379 : CHr Z consts_1 s.vm h0 s.vm h375 := f370.trans cs376
        have f380 : Keep h0 h375 [] := f371.wr W375 (Or.inr sz_b238)
        have f381 : Safe Z consts_1 s.vm h375 b238 := cs376.safe f373.lt f372
        have f382 : Arv Z h375 b238 k238 .char (5 : Int32) [(.int ((101 : Int32)).toUInt32.toUInt16.toUInt32.toInt32), (.int ((97 : Int32)).toUInt32.toUInt16.toUInt32.toInt32), (.int ((100 : Int32)).toUInt32.toUInt16.toUInt32.toInt32), (.int ((51 : Int32)).toUInt32.toUInt16.toUInt32.toInt32), (.int (((p5 &&& (255 : Int32)).toUInt32.toUInt16.toUInt32.toInt32)).toUInt32.toUInt16.toUInt32.toInt32)] (.int (0 : Int32)) := Arv.set Arq374 qq374 Sq374 Nq374 Hq374 Gq374 (fits_nar_char _) W375 4 rfl (Nat.le_of_ble_eq_true rfl)
        show OwnGo p.tables e below _ (T375.setTop (mkF m 183 #[.val (.int p0), .val (.int p1), .val (.int p2), .val (.int p3), .val (.int p4), .val (.int p5), .val (.int (p0 &&& (3 : Int32))), .val (.int ((p4 &&& (255 : Int32)).toUInt32.toUInt16.toUInt32.toInt32)), .val (.int ((((p4.toUInt32 >>> ((8 : Int32) &&& 31).toUInt32).toInt32) &&& (255 : Int32)).toUInt32.toUInt16.toUInt32.toInt32)), .val (.int ((((p4.toUInt32 >>> ((16 : Int32) &&& 31).toUInt32).toInt32) &&& (255 : Int32)).toUInt32.toUInt16.toUInt32.toInt32)), .val (.int ((((p4.toUInt32 >>> ((24 : Int32) &&& 31).toUInt32).toInt32) &&& (255 : Int32)).toUInt32.toUInt16.toUInt32.toInt32)), .val (.int ((p5 &&& (255 : Int32)).toUInt32.toUInt16.toUInt32.toInt32)), .val (.ref b238), .unset, .unset, .unset] []))
        refine OwnGo.of (A := T375.setTop (mkF m 183 #[.val (.int p0), .val (.int p1), .val (.int p2), .val (.int p3), .val (.int p4), .val (.int p5), .val (.int (p0 &&& (3 : Int32))), .val (.int ((p4 &&& (255 : Int32)).toUInt32.toUInt16.toUInt32.toInt32)), .val (.int ((((p4.toUInt32 >>> ((8 : Int32) &&& 31).toUInt32).toInt32) &&& (255 : Int32)).toUInt32.toUInt16.toUInt32.toInt32)), .val (.int ((((p4.toUInt32 >>> ((16 : Int32) &&& 31).toUInt32).toInt32) &&& (255 : Int32)).toUInt32.toUInt16.toUInt32.toInt32)), .val (.int ((((p4.toUInt32 >>> ((24 : Int32) &&& 31).toUInt32).toInt32) &&& (255 : Int32)).toUInt32.toUInt16.toUInt32.toInt32)), .val (.int ((p5 &&& (255 : Int32)).toUInt32.toUInt16.toUInt32.toInt32)), .val (.ref b238), .unset, .unset, .unset] [])) (B := T375.setTop (mkF m 232 #[.val (.int p0), .val (.int p1), .val (.int p2), .val (.int p3), .val (.int p4), .val (.int p5), .val (.int (p0 &&& (3 : Int32))), .val (.int ((p4 &&& (255 : Int32)).toUInt32.toUInt16.toUInt32.toInt32)), .val (.int ((((p4.toUInt32 >>> ((8 : Int32) &&& 31).toUInt32).toInt32) &&& (255 : Int32)).toUInt32.toUInt16.toUInt32.toInt32)), .val (.int ((((p4.toUInt32 >>> ((16 : Int32) &&& 31).toUInt32).toInt32) &&& (255 : Int32)).toUInt32.toUInt16.toUInt32.toInt32)), .val (.int ((((p4.toUInt32 >>> ((24 : Int32) &&& 31).toUInt32).toInt32) &&& (255 : Int32)).toUInt32.toUInt16.toUInt32.toInt32)), .val (.int ((p5 &&& (255 : Int32)).toUInt32.toUInt16.toUInt32.toInt32)), .val (.ref b238), .val (.int (4 : Int32)), .unset, .unset] [])) (fun t k => ?_) ?_
        · show Steps p.tables e below (T375.setTop (mkF m 183 #[.val (.int p0), .val (.int p1), .val (.int p2), .val (.int p3), .val (.int p4), .val (.int p5), .val (.int (p0 &&& (3 : Int32))), .val (.int ((p4 &&& (255 : Int32)).toUInt32.toUInt16.toUInt32.toInt32)), .val (.int ((((p4.toUInt32 >>> ((8 : Int32) &&& 31).toUInt32).toInt32) &&& (255 : Int32)).toUInt32.toUInt16.toUInt32.toInt32)), .val (.int ((((p4.toUInt32 >>> ((16 : Int32) &&& 31).toUInt32).toInt32) &&& (255 : Int32)).toUInt32.toUInt16.toUInt32.toInt32)), .val (.int ((((p4.toUInt32 >>> ((24 : Int32) &&& 31).toUInt32).toInt32) &&& (255 : Int32)).toUInt32.toUInt16.toUInt32.toInt32)), .val (.int ((p5 &&& (255 : Int32)).toUInt32.toUInt16.toUInt32.toInt32)), .val (.ref b238), .unset, .unset, .unset] [])) t
          refine XS.iconst X375.here hx rfl (hb hby at_183) ?_
          refine XS.istore X375.here hx rfl (hb hby at_184) rfl (l' := #[.val (.int p0), .val (.int p1), .val (.int p2), .val (.int p3), .val (.int p4), .val (.int p5), .val (.int (p0 &&& (3 : Int32))), .val (.int ((p4 &&& (255 : Int32)).toUInt32.toUInt16.toUInt32.toInt32)), .val (.int ((((p4.toUInt32 >>> ((8 : Int32) &&& 31).toUInt32).toInt32) &&& (255 : Int32)).toUInt32.toUInt16.toUInt32.toInt32)), .val (.int ((((p4.toUInt32 >>> ((16 : Int32) &&& 31).toUInt32).toInt32) &&& (255 : Int32)).toUInt32.toUInt16.toUInt32.toInt32)), .val (.int ((((p4.toUInt32 >>> ((24 : Int32) &&& 31).toUInt32).toInt32) &&& (255 : Int32)).toUInt32.toUInt16.toUInt32.toInt32)), .val (.int ((p5 &&& (255 : Int32)).toUInt32.toUInt16.toUInt32.toInt32)), .val (.ref b238), .val (.int (4 : Int32)), .unset, .unset]) rfl ?_
          refine XS.goto X375.here hx rfl (pc0 := 186) (pc' := 232) rfl (hb hby at_186) (by decide) (by decide) ?_
          exact k
        exact J232 T375 _ _ (.val (.int (p0 &&& (3 : Int32)))) (.val (.int ((p4 &&& (255 : Int32)).toUInt32.toUInt16.toUInt32.toInt32))) (.val (.int ((((p4.toUInt32 >>> ((8 : Int32) &&& 31).toUInt32).toInt32) &&& (255 : Int32)).toUInt32.toUInt16.toUInt32.toInt32))) (.val (.int ((((p4.toUInt32 >>> ((16 : Int32) &&& 31).toUInt32).toInt32) &&& (255 : Int32)).toUInt32.toUInt16.toUInt32.toInt32))) (.val (.int ((((p4.toUInt32 >>> ((24 : Int32) &&& 31).toUInt32).toInt32) &&& (255 : Int32)).toUInt32.toUInt16.toUInt32.toInt32))) (.val (.int ((p5 &&& (255 : Int32)).toUInt32.toUInt16.toUInt32.toInt32))) b238 k238 (((101 : Int32)).toUInt32.toUInt16.toUInt32.toInt32) (((97 : Int32)).toUInt32.toUInt16.toUInt32.toInt32) (((100 : Int32)).toUInt32.toUInt16.toUInt32.toInt32) (((51 : Int32)).toUInt32.toUInt16.toUInt32.toInt32) ((((p5 &&& (255 : Int32)).toUInt32.toUInt16.toUInt32.toInt32)).toUInt32.toUInt16.toUInt32.toInt32) (4 : Int32) X375 e375 N375 f377 f380 f378 f379 f382 (own_ch ⟨by decide, by decide⟩) (own_ch ⟨by decide, by decide⟩) (own_ch ⟨by decide, by decide⟩) (own_ch ⟨by decide, by decide⟩) (own_ch (own_ch (own_msk _))) g_b238 sz_b238 f381
      · refine OwnGo.of (A := T238.setTop (mkF m 150 #[.val (.int p0), .val (.int p1), .val (.int p2), .val (.int p3), .val (.int p4), .val (.int p5), .val (.int (p0 &&& (3 : Int32))), .val (.int ((p4 &&& (255 : Int32)).toUInt32.toUInt16.toUInt32.toInt32)), .val (.int ((((p4.toUInt32 >>> ((8 : Int32) &&& 31).toUInt32).toInt32) &&& (255 : Int32)).toUInt32.toUInt16.toUInt32.toInt32)), .val (.int ((((p4.toUInt32 >>> ((16 : Int32) &&& 31).toUInt32).toInt32) &&& (255 : Int32)).toUInt32.toUInt16.toUInt32.toInt32)), .val (.int ((((p4.toUInt32 >>> ((24 : Int32) &&& 31).toUInt32).toInt32) &&& (255 : Int32)).toUInt32.toUInt16.toUInt32.toInt32)), .val (.int ((p5 &&& (255 : Int32)).toUInt32.toUInt16.toUInt32.toInt32)), .val (.ref b238), .unset, .unset, .unset] [(.int (2 : Int32)), (.int (p0 &&& (3 : Int32)))])) (B := T238.setTop (mkF m 194 #[.val (.int p0), .val (.int p1), .val (.int p2), .val (.int p3), .val (.int p4), .val (.int p5), .val (.int (p0 &&& (3 : Int32))), .val (.int ((p4 &&& (255 : Int32)).toUInt32.toUInt16.toUInt32.toInt32)), .val (.int ((((p4.toUInt32 >>> ((8 : Int32) &&& 31).toUInt32).toInt32) &&& (255 : Int32)).toUInt32.toUInt16.toUInt32.toInt32)), .val (.int ((((p4.toUInt32 >>> ((16 : Int32) &&& 31).toUInt32).toInt32) &&& (255 : Int32)).toUInt32.toUInt16.toUInt32.toInt32)), .val (.int ((((p4.toUInt32 >>> ((24 : Int32) &&& 31).toUInt32).toInt32) &&& (255 : Int32)).toUInt32.toUInt16.toUInt32.toInt32)), .val (.int ((p5 &&& (255 : Int32)).toUInt32.toUInt16.toUInt32.toInt32)), .val (.ref b238), .unset, .unset, .unset] [(.int ((p4 &&& (255 : Int32)).toUInt32.toUInt16.toUInt32.toInt32)), (.int (0 : Int32)), (.ref b238)])) (fun t k => ?_) ?_
        · show Steps p.tables e below (T238.setTop (mkF m 150 #[.val (.int p0), .val (.int p1), .val (.int p2), .val (.int p3), .val (.int p4), .val (.int p5), .val (.int (p0 &&& (3 : Int32))), .val (.int ((p4 &&& (255 : Int32)).toUInt32.toUInt16.toUInt32.toInt32)), .val (.int ((((p4.toUInt32 >>> ((8 : Int32) &&& 31).toUInt32).toInt32) &&& (255 : Int32)).toUInt32.toUInt16.toUInt32.toInt32)), .val (.int ((((p4.toUInt32 >>> ((16 : Int32) &&& 31).toUInt32).toInt32) &&& (255 : Int32)).toUInt32.toUInt16.toUInt32.toInt32)), .val (.int ((((p4.toUInt32 >>> ((24 : Int32) &&& 31).toUInt32).toInt32) &&& (255 : Int32)).toUInt32.toUInt16.toUInt32.toInt32)), .val (.int ((p5 &&& (255 : Int32)).toUInt32.toUInt16.toUInt32.toInt32)), .val (.ref b238), .unset, .unset, .unset] [(.int (2 : Int32)), (.int (p0 &&& (3 : Int32)))])) t
          refine XS.icmpYes X238.here hx rfl (pc0 := 150) (pc' := 189) rfl (hb hby at_150) rfl (feq hc337).2 (by decide) (by decide) ?_
          refine XS.aload X238.here hx rfl (hb hby at_189) rfl rfl ?_
          refine XS.iconst X238.here hx rfl (hb hby at_191) ?_
          refine XS.iload X238.here hx rfl (hb hby at_192) rfl ?_
          exact k
        have cq383 := f244
        obtain ⟨clq383, Arq383, qq383, Sq383, Nq383, Hq383, Gq383⟩ := cq383
        obtain ⟨T384, h384, X384, e384, W384, st384⟩ := stC X238 hx hZ e238 Arq383 (j := (0 : Int32)) (inb_of Sq383 ⟨by decide, by decide⟩) (g := (mkF m 194 #[.val (.int p0), .val (.int p1), .val (.int p2), .val (.int p3), .val (.int p4), .val (.int p5), .val (.int (p0 &&& (3 : Int32))), .val (.int ((p4 &&& (255 : Int32)).toUInt32.toUInt16.toUInt32.toInt32)), .val (.int ((((p4.toUInt32 >>> ((8 : Int32) &&& 31).toUInt32).toInt32) &&& (255 : Int32)).toUInt32.toUInt16.toUInt32.toInt32)), .val (.int ((((p4.toUInt32 >>> ((16 : Int32) &&& 31).toUInt32).toInt32) &&& (255 : Int32)).toUInt32.toUInt16.toUInt32.toInt32)), .val (.int ((((p4.toUInt32 >>> ((24 : Int32) &&& 31).toUInt32).toInt32) &&& (255 : Int32)).toUInt32.toUInt16.toUInt32.toInt32)), .val (.int ((p5 &&& (255 : Int32)).toUInt32.toUInt16.toUInt32.toInt32)), .val (.ref b238), .unset, .unset, .unset] [(.int ((p4 &&& (255 : Int32)).toUInt32.toUInt16.toUInt32.toInt32)), (.int (0 : Int32)), (.ref b238)])) rfl rfl (hb hby at_194)
        refine OwnGo.of st384 ?_
        have N384 := Fr.snoc X384 N0 g_b238
        have cs385 := CHr.wr W384 gn_b238 f242.1
        have f386 : n0 ≤ h384.size := Nat.le_trans f240 (Keep.of_wr W384).1
        have f387 : OwnB s s h384 := f241.wr W384
        have f388 : CHr Z consts_1 s.vm h0 s.vm h384 := f242.trans cs385
        have f389 : Keep h0 h384 [] := f243.wr W384 (Or.inr sz_b238)
        have f390 : Safe Z consts_1 s.vm h384 b238 := cs385.safe f244.lt gn_b238
        have f391 : Arv Z h384 b238 k238 .char (5 : Int32) [(.int (((p4 &&& (255 : Int32)).toUInt32.toUInt16.toUInt32.toInt32)).toUInt32.toUInt16.toUInt32.toInt32), (.int (0 : Int32)), (.int (0 : Int32)), (.int (0 : Int32)), (.int (0 : Int32))] (.int (0 : Int32)) := Arv.set Arq383 qq383 Sq383 Nq383 Hq383 Gq383 (fits_nar_char _) W384 0 rfl (Nat.le_of_ble_eq_true rfl)
        show OwnGo p.tables e below _ (T384.setTop (mkF m 195 #[.val (.int p0), .val (.int p1), .val (.int p2), .val (.int p3), .val (.int p4), .val (.int p5), .val (.int (p0 &&& (3 : Int32))), .val (.int ((p4 &&& (255 : Int32)).toUInt32.toUInt16.toUInt32.toInt32)), .val (.int ((((p4.toUInt32 >>> ((8 : Int32) &&& 31).toUInt32).toInt32) &&& (255 : Int32)).toUInt32.toUInt16.toUInt32.toInt32)), .val (.int ((((p4.toUInt32 >>> ((16 : Int32) &&& 31).toUInt32).toInt32) &&& (255 : Int32)).toUInt32.toUInt16.toUInt32.toInt32)), .val (.int ((((p4.toUInt32 >>> ((24 : Int32) &&& 31).toUInt32).toInt32) &&& (255 : Int32)).toUInt32.toUInt16.toUInt32.toInt32)), .val (.int ((p5 &&& (255 : Int32)).toUInt32.toUInt16.toUInt32.toInt32)), .val (.ref b238), .unset, .unset, .unset] []))
        refine OwnGo.of (A := T384.setTop (mkF m 195 #[.val (.int p0), .val (.int p1), .val (.int p2), .val (.int p3), .val (.int p4), .val (.int p5), .val (.int (p0 &&& (3 : Int32))), .val (.int ((p4 &&& (255 : Int32)).toUInt32.toUInt16.toUInt32.toInt32)), .val (.int ((((p4.toUInt32 >>> ((8 : Int32) &&& 31).toUInt32).toInt32) &&& (255 : Int32)).toUInt32.toUInt16.toUInt32.toInt32)), .val (.int ((((p4.toUInt32 >>> ((16 : Int32) &&& 31).toUInt32).toInt32) &&& (255 : Int32)).toUInt32.toUInt16.toUInt32.toInt32)), .val (.int ((((p4.toUInt32 >>> ((24 : Int32) &&& 31).toUInt32).toInt32) &&& (255 : Int32)).toUInt32.toUInt16.toUInt32.toInt32)), .val (.int ((p5 &&& (255 : Int32)).toUInt32.toUInt16.toUInt32.toInt32)), .val (.ref b238), .unset, .unset, .unset] [])) (B := T384.setTop (mkF m 200 #[.val (.int p0), .val (.int p1), .val (.int p2), .val (.int p3), .val (.int p4), .val (.int p5), .val (.int (p0 &&& (3 : Int32))), .val (.int ((p4 &&& (255 : Int32)).toUInt32.toUInt16.toUInt32.toInt32)), .val (.int ((((p4.toUInt32 >>> ((8 : Int32) &&& 31).toUInt32).toInt32) &&& (255 : Int32)).toUInt32.toUInt16.toUInt32.toInt32)), .val (.int ((((p4.toUInt32 >>> ((16 : Int32) &&& 31).toUInt32).toInt32) &&& (255 : Int32)).toUInt32.toUInt16.toUInt32.toInt32)), .val (.int ((((p4.toUInt32 >>> ((24 : Int32) &&& 31).toUInt32).toInt32) &&& (255 : Int32)).toUInt32.toUInt16.toUInt32.toInt32)), .val (.int ((p5 &&& (255 : Int32)).toUInt32.toUInt16.toUInt32.toInt32)), .val (.ref b238), .unset, .unset, .unset] [(.int ((((p4.toUInt32 >>> ((8 : Int32) &&& 31).toUInt32).toInt32) &&& (255 : Int32)).toUInt32.toUInt16.toUInt32.toInt32)), (.int (1 : Int32)), (.ref b238)])) (fun t k => ?_) ?_
        · show Steps p.tables e below (T384.setTop (mkF m 195 #[.val (.int p0), .val (.int p1), .val (.int p2), .val (.int p3), .val (.int p4), .val (.int p5), .val (.int (p0 &&& (3 : Int32))), .val (.int ((p4 &&& (255 : Int32)).toUInt32.toUInt16.toUInt32.toInt32)), .val (.int ((((p4.toUInt32 >>> ((8 : Int32) &&& 31).toUInt32).toInt32) &&& (255 : Int32)).toUInt32.toUInt16.toUInt32.toInt32)), .val (.int ((((p4.toUInt32 >>> ((16 : Int32) &&& 31).toUInt32).toInt32) &&& (255 : Int32)).toUInt32.toUInt16.toUInt32.toInt32)), .val (.int ((((p4.toUInt32 >>> ((24 : Int32) &&& 31).toUInt32).toInt32) &&& (255 : Int32)).toUInt32.toUInt16.toUInt32.toInt32)), .val (.int ((p5 &&& (255 : Int32)).toUInt32.toUInt16.toUInt32.toInt32)), .val (.ref b238), .unset, .unset, .unset] [])) t
          refine XS.aload X384.here hx rfl (hb hby at_195) rfl rfl ?_
          refine XS.iconst X384.here hx rfl (hb hby at_197) ?_
          refine XS.iload X384.here hx rfl (hb hby at_198) rfl ?_
          exact k
        have cq392 := f391
        obtain ⟨clq392, Arq392, qq392, Sq392, Nq392, Hq392, Gq392⟩ := cq392
        obtain ⟨T393, h393, X393, e393, W393, st393⟩ := stC X384 hx hZ e384 Arq392 (j := (1 : Int32)) (inb_of Sq392 ⟨by decide, by decide⟩) (g := (mkF m 200 #[.val (.int p0), .val (.int p1), .val (.int p2), .val (.int p3), .val (.int p4), .val (.int p5), .val (.int (p0 &&& (3 : Int32))), .val (.int ((p4 &&& (255 : Int32)).toUInt32.toUInt16.toUInt32.toInt32)), .val (.int ((((p4.toUInt32 >>> ((8 : Int32) &&& 31).toUInt32).toInt32) &&& (255 : Int32)).toUInt32.toUInt16.toUInt32.toInt32)), .val (.int ((((p4.toUInt32 >>> ((16 : Int32) &&& 31).toUInt32).toInt32) &&& (255 : Int32)).toUInt32.toUInt16.toUInt32.toInt32)), .val (.int ((((p4.toUInt32 >>> ((24 : Int32) &&& 31).toUInt32).toInt32) &&& (255 : Int32)).toUInt32.toUInt16.toUInt32.toInt32)), .val (.int ((p5 &&& (255 : Int32)).toUInt32.toUInt16.toUInt32.toInt32)), .val (.ref b238), .unset, .unset, .unset] [(.int ((((p4.toUInt32 >>> ((8 : Int32) &&& 31).toUInt32).toInt32) &&& (255 : Int32)).toUInt32.toUInt16.toUInt32.toInt32)), (.int (1 : Int32)), (.ref b238)])) rfl rfl (hb hby at_200)
        refine OwnGo.of st393 ?_
        have N393 := Fr.snoc X393 N384 g_b238
        have cs394 := CHr.wr W393 f390 f388.1
        have f395 : n0 ≤ h393.size := Nat.le_trans f386 (Keep.of_wr W393).1
        have f396 : OwnB s s h393 := f387.wr W393
        have f397 : CHr Z consts_1 s.vm h0 s.vm h393 := f388.trans cs394
        have f398 : Keep h0 h393 [] := f389.wr W393 (Or.inr sz_b238)
        have f399 : Safe Z consts_1 s.vm h393 b238 := cs394.safe f391.lt f390
        have f400 : Arv Z h393 b238 k238 .char (5 : Int32) [(.int (((p4 &&& (255 : Int32)).toUInt32.toUInt16.toUInt32.toInt32)).toUInt32.toUInt16.toUInt32.toInt32), (.int (((((p4.toUInt32 >>> ((8 : Int32) &&& 31).toUInt32).toInt32) &&& (255 : Int32)).toUInt32.toUInt16.toUInt32.toInt32)).toUInt32.toUInt16.toUInt32.toInt32), (.int (0 : Int32)), (.int (0 : Int32)), (.int (0 : Int32))] (.int (0 : Int32)) := Arv.set Arq392 qq392 Sq392 Nq392 Hq392 Gq392 (fits_nar_char _) W393 1 rfl (Nat.le_of_ble_eq_true rfl)
        show OwnGo p.tables e below _ (T393.setTop (mkF m 201 #[.val (.int p0), .val (.int p1), .val (.int p2), .val (.int p3), .val (.int p4), .val (.int p5), .val (.int (p0 &&& (3 : Int32))), .val (.int ((p4 &&& (255 : Int32)).toUInt32.toUInt16.toUInt32.toInt32)), .val (.int ((((p4.toUInt32 >>> ((8 : Int32) &&& 31).toUInt32).toInt32) &&& (255 : Int32)).toUInt32.toUInt16.toUInt32.toInt32)), .val (.int ((((p4.toUInt32 >>> ((16 : Int32) &&& 31).toUInt32).toInt32) &&& (255 : Int32)).toUInt32.toUInt16.toUInt32.toInt32)), .val (.int ((((p4.toUInt32 >>> ((24 : Int32) &&& 31).toUInt32).toInt32) &&& (255 : Int32)).toUInt32.toUInt16.toUInt32.toInt32)), .val (.int ((p5 &&& (255 : Int32)).toUInt32.toUInt16.toUInt32.toInt32)), .val (.ref b238), .unset, .unset, .unset] []))
        refine OwnGo.of (A := T393.setTop (mkF m 201 #[.val (.int p0), .val (.int p1), .val (.int p2), .val (.int p3), .val (.int p4), .val (.int p5), .val (.int (p0 &&& (3 : Int32))), .val (.int ((p4 &&& (255 : Int32)).toUInt32.toUInt16.toUInt32.toInt32)), .val (.int ((((p4.toUInt32 >>> ((8 : Int32) &&& 31).toUInt32).toInt32) &&& (255 : Int32)).toUInt32.toUInt16.toUInt32.toInt32)), .val (.int ((((p4.toUInt32 >>> ((16 : Int32) &&& 31).toUInt32).toInt32) &&& (255 : Int32)).toUInt32.toUInt16.toUInt32.toInt32)), .val (.int ((((p4.toUInt32 >>> ((24 : Int32) &&& 31).toUInt32).toInt32) &&& (255 : Int32)).toUInt32.toUInt16.toUInt32.toInt32)), .val (.int ((p5 &&& (255 : Int32)).toUInt32.toUInt16.toUInt32.toInt32)), .val (.ref b238), .unset, .unset, .unset] [])) (B := T393.setTop (mkF m 206 #[.val (.int p0), .val (.int p1), .val (.int p2), .val (.int p3), .val (.int p4), .val (.int p5), .val (.int (p0 &&& (3 : Int32))), .val (.int ((p4 &&& (255 : Int32)).toUInt32.toUInt16.toUInt32.toInt32)), .val (.int ((((p4.toUInt32 >>> ((8 : Int32) &&& 31).toUInt32).toInt32) &&& (255 : Int32)).toUInt32.toUInt16.toUInt32.toInt32)), .val (.int ((((p4.toUInt32 >>> ((16 : Int32) &&& 31).toUInt32).toInt32) &&& (255 : Int32)).toUInt32.toUInt16.toUInt32.toInt32)), .val (.int ((((p4.toUInt32 >>> ((24 : Int32) &&& 31).toUInt32).toInt32) &&& (255 : Int32)).toUInt32.toUInt16.toUInt32.toInt32)), .val (.int ((p5 &&& (255 : Int32)).toUInt32.toUInt16.toUInt32.toInt32)), .val (.ref b238), .unset, .unset, .unset] [(.int ((((p4.toUInt32 >>> ((16 : Int32) &&& 31).toUInt32).toInt32) &&& (255 : Int32)).toUInt32.toUInt16.toUInt32.toInt32)), (.int (2 : Int32)), (.ref b238)])) (fun t k => ?_) ?_
        · show Steps p.tables e below (T393.setTop (mkF m 201 #[.val (.int p0), .val (.int p1), .val (.int p2), .val (.int p3), .val (.int p4), .val (.int p5), .val (.int (p0 &&& (3 : Int32))), .val (.int ((p4 &&& (255 : Int32)).toUInt32.toUInt16.toUInt32.toInt32)), .val (.int ((((p4.toUInt32 >>> ((8 : Int32) &&& 31).toUInt32).toInt32) &&& (255 : Int32)).toUInt32.toUInt16.toUInt32.toInt32)), .val (.int ((((p4.toUInt32 >>> ((16 : Int32) &&& 31).toUInt32).toInt32) &&& (255 : Int32)).toUInt32.toUInt16.toUInt32.toInt32)), .val (.int ((((p4.toUInt32 >>> ((24 : Int32) &&& 31).toUInt32).toInt32) &&& (255 : Int32)).toUInt32.toUInt16.toUInt32.toInt32)), .val (.int ((p5 &&& (255 : Int32)).toUInt32.toUInt16.toUInt32.toInt32)), .val (.ref b238), .unset, .unset, .unset] [])) t
          refine XS.aload X393.here hx rfl (hb hby at_201) rfl rfl ?_
          refine XS.iconst X393.here hx rfl (hb hby at_203) ?_
          refine XS.iload X393.here hx rfl (hb hby at_204) rfl ?_
          exact k
        have cq401 := f400
        obtain ⟨clq401, Arq401, qq401, Sq401, Nq401, Hq401, Gq401⟩ := cq401
        obtain ⟨T402, h402, X402, e402, W402, st402⟩ := stC X393 hx hZ e393 Arq401 (j := (2 : Int32)) (inb_of Sq401 ⟨by decide, by decide⟩) (g := (mkF m 206 #[.val (.int p0), .val (.int p1), .val (.int p2), .val (.int p3), .val (.int p4), .val (.int p5), .val (.int (p0 &&& (3 : Int32))), .val (.int ((p4 &&& (255 : Int32)).toUInt32.toUInt16.toUInt32.toInt32)), .val (.int ((((p4.toUInt32 >>> ((8 : Int32) &&& 31).toUInt32).toInt32) &&& (255 : Int32)).toUInt32.toUInt16.toUInt32.toInt32)), .val (.int ((((p4.toUInt32 >>> ((16 : Int32) &&& 31).toUInt32).toInt32) &&& (255 : Int32)).toUInt32.toUInt16.toUInt32.toInt32)), .val (.int ((((p4.toUInt32 >>> ((24 : Int32) &&& 31).toUInt32).toInt32) &&& (255 : Int32)).toUInt32.toUInt16.toUInt32.toInt32)), .val (.int ((p5 &&& (255 : Int32)).toUInt32.toUInt16.toUInt32.toInt32)), .val (.ref b238), .unset, .unset, .unset] [(.int ((((p4.toUInt32 >>> ((16 : Int32) &&& 31).toUInt32).toInt32) &&& (255 : Int32)).toUInt32.toUInt16.toUInt32.toInt32)), (.int (2 : Int32)), (.ref b238)])) rfl rfl (hb hby at_206)
        refine OwnGo.of st402 ?_
        have N402 := Fr.snoc X402 N393 g_b238
        have cs403 := CHr.wr W402 f399 f397.1
        have f404 : n0 ≤ h402.size := Nat.le_trans f395 (Keep.of_wr W402).1
        have f405 : OwnB s s h402 := f396.wr W402
        have f406 : CHr Z consts_1 s.vm h0 s.vm h402 := f397.trans cs403
        have f407 : Keep h0 h402 [] := f398.wr W402 (Or.inr sz_b238)
        have f408 : Safe Z consts_1 s.vm h402 b238 := cs403.safe f400.lt f399
        have f409 : Arv Z h402 b238 k238 .char (5 : Int32) [(.int (((p4 &&& (255 : Int32)).toUInt32.toUInt16.toUInt32.toInt32)).toUInt32.toUInt16.toUInt32.toInt32), (.int (((((p4.toUInt32 >>> ((8 : Int32) &&& 31).toUInt32).toInt32) &&& (255 : Int32)).toUInt32.toUInt16.toUInt32.toInt32)).toUInt32.toUInt16.toUInt32.toInt32), (.int (((((p4.toUInt32 >>> ((16 : Int32) &&& 31).toUInt32).toInt32) &&& (255 : Int32)).toUInt32.toUInt16.toUInt32.toInt32)).toUInt32.toUInt16.toUInt32.toInt32), (.int (0 : Int32)), (.int (0 : Int32))] (.int (0 : Int32)) := Arv.set Arq401 qq401 Sq401 Nq401 Hq401 Gq401 (fits_nar_char _) W402 2 rfl (Nat.le_of_ble_eq_true rfl)
        show OwnGo p.tables e below _ (T402.setTop (mkF m 207 #[.val (.int p0), .val (.int p1), .val (.int p2), .val (.int p3), .val (.int p4), .val (.int p5), .val (.int (p0 &&& (3 : Int32))), .val (.int ((p4 &&& (255 : Int32)).toUInt32.toUInt16.toUInt32.toInt32)), .val (.int ((((p4.toUInt32 >>> ((8 : Int32) &&& 31).toUInt32).toInt32) &&& (255 : Int32)).toUInt32.toUInt16.toUInt32.toInt32)), .val (.int ((((p4.toUInt32 >>> ((16 : Int32) &&& 31).toUInt32).toInt32) &&& (255 : Int32)).toUInt32.toUInt16.toUInt32.toInt32)), .val (.int ((((p4.toUInt32 >>> ((24 : Int32) &&& 31).toUInt32).toInt32) &&& (255 : Int32)).toUInt32.toUInt16.toUInt32.toInt32)), .val (.int ((p5 &&& (255 : Int32)).toUInt32.toUInt16.toUInt32.toInt32)), .val (.ref b238), .unset, .unset, .unset] []))
        refine OwnGo.of (A := T402.setTop (mkF m 207 #[.val (.int p0), .val (.int p1), .val (.int p2), .val (.int p3), .val (.int p4), .val (.int p5), .val (.int (p0 &&& (3 : Int32))), .val (.int ((p4 &&& (255 : Int32)).toUInt32.toUInt16.toUInt32.toInt32)), .val (.int ((((p4.toUInt32 >>> ((8 : Int32) &&& 31).toUInt32).toInt32) &&& (255 : Int32)).toUInt32.toUInt16.toUInt32.toInt32)), .val (.int ((((p4.toUInt32 >>> ((16 : Int32) &&& 31).toUInt32).toInt32) &&& (255 : Int32)).toUInt32.toUInt16.toUInt32.toInt32)), .val (.int ((((p4.toUInt32 >>> ((24 : Int32) &&& 31).toUInt32).toInt32) &&& (255 : Int32)).toUInt32.toUInt16.toUInt32.toInt32)), .val (.int ((p5 &&& (255 : Int32)).toUInt32.toUInt16.toUInt32.toInt32)), .val (.ref b238), .unset, .unset, .unset] [])) (B := T402.setTop (mkF m 212 #[.val (.int p0), .val (.int p1), .val (.int p2), .val (.int p3), .val (.int p4), .val (.int p5), .val (.int (p0 &&& (3 : Int32))), .val (.int ((p4 &&& (255 : Int32)).toUInt32.toUInt16.toUInt32.toInt32)), .val (.int ((((p4.toUInt32 >>> ((8 : Int32) &&& 31).toUInt32).toInt32) &&& (255 : Int32)).toUInt32.toUInt16.toUInt32.toInt32)), .val (.int ((((p4.toUInt32 >>> ((16 : Int32) &&& 31).toUInt32).toInt32) &&& (255 : Int32)).toUInt32.toUInt16.toUInt32.toInt32)), .val (.int ((((p4.toUInt32 >>> ((24 : Int32) &&& 31).toUInt32).toInt32) &&& (255 : Int32)).toUInt32.toUInt16.toUInt32.toInt32)), .val (.int ((p5 &&& (255 : Int32)).toUInt32.toUInt16.toUInt32.toInt32)), .val (.ref b238), .unset, .unset, .unset] [(.int ((((p4.toUInt32 >>> ((24 : Int32) &&& 31).toUInt32).toInt32) &&& (255 : Int32)).toUInt32.toUInt16.toUInt32.toInt32)), (.int (3 : Int32)), (.ref b238)])) (fun t k => ?_) ?_
        · show Steps p.tables e below (T402.setTop (mkF m 207 #[.val (.int p0), .val (.int p1), .val (.int p2), .val (.int p3), .val (.int p4), .val (.int p5), .val (.int (p0 &&& (3 : Int32))), .val (.int ((p4 &&& (255 : Int32)).toUInt32.toUInt16.toUInt32.toInt32)), .val (.int ((((p4.toUInt32 >>> ((8 : Int32) &&& 31).toUInt32).toInt32) &&& (255 : Int32)).toUInt32.toUInt16.toUInt32.toInt32)), .val (.int ((((p4.toUInt32 >>> ((16 : Int32) &&& 31).toUInt32).toInt32) &&& (255 : Int32)).toUInt32.toUInt16.toUInt32.toInt32)), .val (.int ((((p4.toUInt32 >>> ((24 : Int32) &&& 31).toUInt32).toInt32) &&& (255 : Int32)).toUInt32.toUInt16.toUInt32.toInt32)), .val (.int ((p5 &&& (255 : Int32)).toUInt32.toUInt16.toUInt32.toInt32)), .val (.ref b238), .unset, .unset, .unset] [])) t
          refine XS.aload X402.here hx rfl (hb hby at_207) rfl rfl ?_
          refine XS.iconst X402.here hx rfl (hb hby at_209) ?_
          refine XS.iload X402.here hx rfl (hb hby at_210) rfl ?_
          exact k
        have cq410 := f409
        obtain ⟨clq410, Arq410, qq410, Sq410, Nq410, Hq410, Gq410⟩ := cq410
        obtain ⟨T411, h411, X411, e411, W411, st411⟩ := stC X402 hx hZ e402 Arq410 (j := (3 : Int32)) (inb_of Sq410 ⟨by decide, by decide⟩) (g := (mkF m 212 #[.val (.int p0), .val (.int p1), .val (.int p2), .val (.int p3), .val (.int p4), .val (.int p5), .val (.int (p0 &&& (3 : Int32))), .val (.int ((p4 &&& (255 : Int32)).toUInt32.toUInt16.toUInt32.toInt32)), .val (.int ((((p4.toUInt32 >>> ((8 : Int32) &&& 31).toUInt32).toInt32) &&& (255 : Int32)).toUInt32.toUInt16.toUInt32.toInt32)), .val (.int ((((p4.toUInt32 >>> ((16 : Int32) &&& 31).toUInt32).toInt32) &&& (255 : Int32)).toUInt32.toUInt16.toUInt32.toInt32)), .val (.int ((((p4.toUInt32 >>> ((24 : Int32) &&& 31).toUInt32).toInt32) &&& (255 : Int32)).toUInt32.toUInt16.toUInt32.toInt32)), .val (.int ((p5 &&& (255 : Int32)).toUInt32.toUInt16.toUInt32.toInt32)), .val (.ref b238), .unset, .unset, .unset] [(.int ((((p4.toUInt32 >>> ((24 : Int32) &&& 31).toUInt32).toInt32) &&& (255 : Int32)).toUInt32.toUInt16.toUInt32.toInt32)), (.int (3 : Int32)), (.ref b238)])) rfl rfl (hb hby at_212)
        refine OwnGo.of st411 ?_
        have N411 := Fr.snoc X411 N402 g_b238
        have cs412 := CHr.wr W411 f408 f406.1
        have f413 : n0 ≤ h411.size := Nat.le_trans f404 (Keep.of_wr W411).1
        have f414 : OwnB s s h411 := f405.wr W411
        have f415 : CHr Z consts_1 s.vm h0 s.vm h411 := f406.trans cs412
        have f416 : Keep h0 h411 [] := f407.wr W411 (Or.inr sz_b238)
        have f417 : Safe Z consts_1 s.vm h411 b238 := cs412.safe f409.lt f408
        have f418 : Arv Z h411 b238 k238 .char (5 : Int32) [(.int (((p4 &&& (255 : Int32)).toUInt32.toUInt16.toUInt32.toInt32)).toUInt32.toUInt16.toUInt32.toInt32), (.int (((((p4.toUInt32 >>> ((8 : Int32) &&& 31).toUInt32).toInt32) &&& (255 : Int32)).toUInt32.toUInt16.toUInt32.toInt32)).toUInt32.toUInt16.toUInt32.toInt32), (.int (((((p4.toUInt32 >>> ((16 : Int32) &&& 31).toUInt32).toInt32) &&& (255 : Int32)).toUInt32.toUInt16.toUInt32.toInt32)).toUInt32.toUInt16.toUInt32.toInt32), (.int (((((p4.toUInt32 >>> ((24 : Int32) &&& 31).toUInt32).toInt32) &&& (255 : Int32)).toUInt32.toUInt16.toUInt32.toInt32)).toUInt32.toUInt16.toUInt32.toInt32), (.int (0 : Int32))] (.int (0 : Int32)) := Arv.set Arq410 qq410 Sq410 Nq410 Hq410 Gq410 (fits_nar_char _) W411 3 rfl (Nat.le_of_ble_eq_true rfl)
        show OwnGo p.tables e below _ (T411.setTop (mkF m 213 #[.val (.int p0), .val (.int p1), .val (.int p2), .val (.int p3), .val (.int p4), .val (.int p5), .val (.int (p0 &&& (3 : Int32))), .val (.int ((p4 &&& (255 : Int32)).toUInt32.toUInt16.toUInt32.toInt32)), .val (.int ((((p4.toUInt32 >>> ((8 : Int32) &&& 31).toUInt32).toInt32) &&& (255 : Int32)).toUInt32.toUInt16.toUInt32.toInt32)), .val (.int ((((p4.toUInt32 >>> ((16 : Int32) &&& 31).toUInt32).toInt32) &&& (255 : Int32)).toUInt32.toUInt16.toUInt32.toInt32)), .val (.int ((((p4.toUInt32 >>> ((24 : Int32) &&& 31).toUInt32).toInt32) &&& (255 : Int32)).toUInt32.toUInt16.toUInt32.toInt32)), .val (.int ((p5 &&& (255 : Int32)).toUInt32.toUInt16.toUInt32.toInt32)), .val (.ref b238), .unset, .unset, .unset] []))
        refine OwnGo.of (A := T411.setTop (mkF m 213 #[.val (.int p0), .val (.int p1), .val (.int p2), .val (.int p3), .val (.int p4), .val (.int p5), .val (.int (p0 &&& (3 : Int32))), .val (.int ((p4 &&& (255 : Int32)).toUInt32.toUInt16.toUInt32.toInt32)), .val (.int ((((p4.toUInt32 >>> ((8 : Int32) &&& 31).toUInt32).toInt32) &&& (255 : Int32)).toUInt32.toUInt16.toUInt32.toInt32)), .val (.int ((((p4.toUInt32 >>> ((16 : Int32) &&& 31).toUInt32).toInt32) &&& (255 : Int32)).toUInt32.toUInt16.toUInt32.toInt32)), .val (.int ((((p4.toUInt32 >>> ((24 : Int32) &&& 31).toUInt32).toInt32) &&& (255 : Int32)).toUInt32.toUInt16.toUInt32.toInt32)), .val (.int ((p5 &&& (255 : Int32)).toUInt32.toUInt16.toUInt32.toInt32)), .val (.ref b238), .unset, .unset, .unset] [])) (B := T411.setTop (mkF m 218 #[.val (.int p0), .val (.int p1), .val (.int p2), .val (.int p3), .val (.int p4), .val (.int p5), .val (.int (p0 &&& (3 : Int32))), .val (.int ((p4 &&& (255 : Int32)).toUInt32.toUInt16.toUInt32.toInt32)), .val (.int ((((p4.toUInt32 >>> ((8 : Int32) &&& 31).toUInt32).toInt32) &&& (255 : Int32)).toUInt32.toUInt16.toUInt32.toInt32)), .val (.int ((((p4.toUInt32 >>> ((16 : Int32) &&& 31).toUInt32).toInt32) &&& (255 : Int32)).toUInt32.toUInt16.toUInt32.toInt32)), .val (.int ((((p4.toUInt32 >>> ((24 : Int32) &&& 31).toUInt32).toInt32) &&& (255 : Int32)).toUInt32.toUInt16.toUInt32.toInt32)), .val (.int ((p5 &&& (255 : Int32)).toUInt32.toUInt16.toUInt32.toInt32)), .val (.ref b238), .unset, .unset, .unset] [(.int ((p5 &&& (255 : Int32)).toUInt32.toUInt16.toUInt32.toInt32)), (.int (4 : Int32)), (.ref b238)])) (fun t k => ?_) ?_
        · show Steps p.tables e below (T411.setTop (mkF m 213 #[.val (.int p0), .val (.int p1), .val (.int p2), .val (.int p3), .val (.int p4), .val (.int p5), .val (.int (p0 &&& (3 : Int32))), .val (.int ((p4 &&& (255 : Int32)).toUInt32.toUInt16.toUInt32.toInt32)), .val (.int ((((p4.toUInt32 >>> ((8 : Int32) &&& 31).toUInt32).toInt32) &&& (255 : Int32)).toUInt32.toUInt16.toUInt32.toInt32)), .val (.int ((((p4.toUInt32 >>> ((16 : Int32) &&& 31).toUInt32).toInt32) &&& (255 : Int32)).toUInt32.toUInt16.toUInt32.toInt32)), .val (.int ((((p4.toUInt32 >>> ((24 : Int32) &&& 31).toUInt32).toInt32) &&& (255 : Int32)).toUInt32.toUInt16.toUInt32.toInt32)), .val (.int ((p5 &&& (255 : Int32)).toUInt32.toUInt16.toUInt32.toInt32)), .val (.ref b238), .unset, .unset, .unset] [])) t
          refine XS.aload X411.here hx rfl (hb hby at_213) rfl rfl ?_
          refine XS.iconst X411.here hx rfl (hb hby at_215) ?_
          refine XS.iload X411.here hx rfl (hb hby at_216) rfl ?_
          exact k
        have cq419 := f418
        obtain ⟨clq419, Arq419, qq419, Sq419, Nq419, Hq419, Gq419⟩ := cq419
        obtain ⟨T420, h420, X420, e420, W420, st420⟩ := stC X411 hx hZ e411 Arq419 (j := (4 : Int32)) (inb_of Sq419 ⟨by decide, by decide⟩) (g := (mkF m 218 #[.val (.int p0), .val (.int p1), .val (.int p2), .val (.int p3), .val (.int p4), .val (.int p5), .val (.int (p0 &&& (3 : Int32))), .val (.int ((p4 &&& (255 : Int32)).toUInt32.toUInt16.toUInt32.toInt32)), .val (.int ((((p4.toUInt32 >>> ((8 : Int32) &&& 31).toUInt32).toInt32) &&& (255 : Int32)).toUInt32.toUInt16.toUInt32.toInt32)), .val (.int ((((p4.toUInt32 >>> ((16 : Int32) &&& 31).toUInt32).toInt32) &&& (255 : Int32)).toUInt32.toUInt16.toUInt32.toInt32)), .val (.int ((((p4.toUInt32 >>> ((24 : Int32) &&& 31).toUInt32).toInt32) &&& (255 : Int32)).toUInt32.toUInt16.toUInt32.toInt32)), .val (.int ((p5 &&& (255 : Int32)).toUInt32.toUInt16.toUInt32.toInt32)), .val (.ref b238), .unset, .unset, .unset] [(.int ((p5 &&& (255 : Int32)).toUInt32.toUInt16.toUInt32.toInt32)), (.int (4 : Int32)), (.ref b238)])) rfl rfl (hb hby at_218)
        refine OwnGo.of st420 ?_
        have N420 := Fr.snoc X420 N411 g_b238
        have cs421 := CHr.wr W420 f417 f415.1
        have f422 : n0 ≤ h420.size := Nat.le_trans f413 (Keep.of_wr W420).1
        have f423 : OwnB s s h420 := f414.wr W420
        have f424 : CHr Z consts_1 s.vm h0 s.vm h420 := f415.trans cs421
        have f425 : Keep h0 h420 [] := f416.wr W420 (Or.inr sz_b238)
        have f426 : Safe Z consts_1 s.vm h420 b238 := cs421.safe f418.lt f417
        have f427 : Arv Z h420 b238 k238 .char (5 : Int32) [(.int (((p4 &&& (255 : Int32)).toUInt32.toUInt16.toUInt32.toInt32)).toUInt32.toUInt16.toUInt32.toInt32), (.int (((((p4.toUInt32 >>> ((8 : Int32) &&& 31).toUInt32).toInt32) &&& (255 : Int32)).toUInt32.toUInt16.toUInt32.toInt32)).toUInt32.toUInt16.toUInt32.toInt32), (.int (((((p4.toUInt32 >>> ((16 : Int32) &&& 31).toUInt32).toInt32) &&& (255 : Int32)).toUInt32.toUInt16.toUInt32.toInt32)).toUInt32.toUInt16.toUInt32.toInt32), (.int (((((p4.toUInt32 >>> ((24 : Int32) &&& 31).toUInt32).toInt32) &&& (255 : Int32)).toUInt32.toUInt16.toUInt32.toInt32)).toUInt32.toUInt16.toUInt32.toInt32), (.int (((p5 &&& (255 : Int32)).toUInt32.toUInt16.toUInt32.toInt32)).toUInt32.toUInt16.toUInt32.toInt32)] (.int (0 : Int32)) := Arv.set Arq419 qq419 Sq419 Nq419 Hq419 Gq419 (fits_nar_char _) W420 4 rfl (Nat.le_of_ble_eq_true rfl)
        show OwnGo p.tables e below _ (T420.setTop (mkF m 219 #[.val (.int p0), .val (.int p1), .val (.int p2), .val (.int p3), .val (.int p4), .val (.int p5), .val (.int (p0 &&& (3 : Int32))), .val (.int ((p4 &&& (255 : Int32)).toUInt32.toUInt16.toUInt32.toInt32)), .val (.int ((((p4.toUInt32 >>> ((8 : Int32) &&& 31).toUInt32).toInt32) &&& (255 : Int32)).toUInt32.toUInt16.toUInt32.toInt32)), .val (.int ((((p4.toUInt32 >>> ((16 : Int32) &&& 31).toUInt32).toInt32) &&& (255 : Int32)).toUInt32.toUInt16.toUInt32.toInt32)), .val (.int ((((p4.toUInt32 >>> ((24 : Int32) &&& 31).toUInt32).toInt32) &&& (255 : Int32)).toUInt32.toUInt16.toUInt32.toInt32)), .val (.int ((p5 &&& (255 : Int32)).toUInt32.toUInt16.toUInt32.toInt32)), .val (.ref b238), .unset, .unset, .unset] []))
        refine OwnGo.of (A := T420.setTop (mkF m 219 #[.val (.int p0), .val (.int p1), .val (.int p2), .val (.int p3), .val (.int p4), .val (.int p5), .val (.int (p0 &&& (3 : Int32))), .val (.int ((p4 &&& (255 : Int32)).toUInt32.toUInt16.toUInt32.toInt32)), .val (.int ((((p4.toUInt32 >>> ((8 : Int32) &&& 31).toUInt32).toInt32) &&& (255 : Int32)).toUInt32.toUInt16.toUInt32.toInt32)), .val (.int ((((p4.toUInt32 >>> ((16 : Int32) &&& 31).toUInt32).toInt32) &&& (255 : Int32)).toUInt32.toUInt16.toUInt32.toInt32)), .val (.int ((((p4.toUInt32 >>> ((24 : Int32) &&& 31).toUInt32).toInt32) &&& (255 : Int32)).toUInt32.toUInt16.toUInt32.toInt32)), .val (.int ((p5 &&& (255 : Int32)).toUInt32.toUInt16.toUInt32.toInt32)), .val (.ref b238), .unset, .unset, .unset] [])) (B := T420.setTop (mkF m 232 #[.val (.int p0), .val (.int p1), .val (.int p2), .val (.int p3), .val (.int p4), .val (.int p5), .val (.int (p0 &&& (3 : Int32))), .val (.int ((p4 &&& (255 : Int32)).toUInt32.toUInt16.toUInt32.toInt32)), .val (.int ((((p4.toUInt32 >>> ((8 : Int32) &&& 31).toUInt32).toInt32) &&& (255 : Int32)).toUInt32.toUInt16.toUInt32.toInt32)), .val (.int ((((p4.toUInt32 >>> ((16 : Int32) &&& 31).toUInt32).toInt32) &&& (255 : Int32)).toUInt32.toUInt16.toUInt32.toInt32)), .val (.int ((((p4.toUInt32 >>> ((24 : Int32) &&& 31).toUInt32).toInt32) &&& (255 : Int32)).toUInt32.toUInt16.toUInt32.toInt32)), .val (.int ((p5 &&& (255 : Int32)).toUInt32.toUInt16.toUInt32.toInt32)), .val (.ref b238), .val (.int ((((p5.toUInt32 >>> ((8 : Int32) &&& 31).toUInt32).toInt32) &&& (7 : Int32)) % (6 : Int32))), .unset, .unset] [])) (fun t k => ?_) ?_
        · show Steps p.tables e below (T420.setTop (mkF m 219 #[.val (.int p0), .val (.int p1), .val (.int p2), .val (.int p3), .val (.int p4), .val (.int p5), .val (.int (p0 &&& (3 : Int32))), .val (.int ((p4 &&& (255 : Int32)).toUInt32.toUInt16.toUInt32.toInt32)), .val (.int ((((p4.toUInt32 >>> ((8 : Int32) &&& 31).toUInt32).toInt32) &&& (255 : Int32)).toUInt32.toUInt16.toUInt32.toInt32)), .val (.int ((((p4.toUInt32 >>> ((16 : Int32) &&& 31).toUInt32).toInt32) &&& (255 : Int32)).toUInt32.toUInt16.toUInt32.toInt32)), .val (.int ((((p4.toUInt32 >>> ((24 : Int32) &&& 31).toUInt32).toInt32) &&& (255 : Int32)).toUInt32.toUInt16.toUInt32.toInt32)), .val (.int ((p5 &&& (255 : Int32)).toUInt32.toUInt16.toUInt32.toInt32)), .val (.ref b238), .unset, .unset, .unset] [])) t
          refine XS.iload X420.here hx rfl (hb hby at_219) rfl ?_
          refine XS.bipush X420.here hx rfl (hb hby at_221) ?_
          refine XS.iushr X420.here hx rfl (hb hby at_223) rfl ?_
          refine XS.bipush X420.here hx rfl (hb hby at_224) ?_
          refine XS.iand X420.here hx rfl (hb hby at_226) rfl ?_
          refine XS.bipush X420.here hx rfl (hb hby at_227) ?_
          refine iremM X420 hx rfl (hb hby at_229) rfl (by decide) ?_
          refine XS.istore X420.here hx rfl (hb hby at_230) rfl (l' := #[.val (.int p0), .val (.int p1), .val (.int p2), .val (.int p3), .val (.int p4), .val (.int p5), .val (.int (p0 &&& (3 : Int32))), .val (.int ((p4 &&& (255 : Int32)).toUInt32.toUInt16.toUInt32.toInt32)), .val (.int ((((p4.toUInt32 >>> ((8 : Int32) &&& 31).toUInt32).toInt32) &&& (255 : Int32)).toUInt32.toUInt16.toUInt32.toInt32)), .val (.int ((((p4.toUInt32 >>> ((16 : Int32) &&& 31).toUInt32).toInt32) &&& (255 : Int32)).toUInt32.toUInt16.toUInt32.toInt32)), .val (.int ((((p4.toUInt32 >>> ((24 : Int32) &&& 31).toUInt32).toInt32) &&& (255 : Int32)).toUInt32.toUInt16.toUInt32.toInt32)), .val (.int ((p5 &&& (255 : Int32)).toUInt32.toUInt16.toUInt32.toInt32)), .val (.ref b238), .val (.int ((((p5.toUInt32 >>> ((8 : Int32) &&& 31).toUInt32).toInt32) &&& (7 : Int32)) % (6 : Int32))), .unset, .unset]) rfl ?_
          exact k
        exact J232 T420 _ _ (.val (.int (p0 &&& (3 : Int32)))) (.val (.int ((p4 &&& (255 : Int32)).toUInt32.toUInt16.toUInt32.toInt32))) (.val (.int ((((p4.toUInt32 >>> ((8 : Int32) &&& 31).toUInt32).toInt32) &&& (255 : Int32)).toUInt32.toUInt16.toUInt32.toInt32))) (.val (.int ((((p4.toUInt32 >>> ((16 : Int32) &&& 31).toUInt32).toInt32) &&& (255 : Int32)).toUInt32.toUInt16.toUInt32.toInt32))) (.val (.int ((((p4.toUInt32 >>> ((24 : Int32) &&& 31).toUInt32).toInt32) &&& (255 : Int32)).toUInt32.toUInt16.toUInt32.toInt32))) (.val (.int ((p5 &&& (255 : Int32)).toUInt32.toUInt16.toUInt32.toInt32))) b238 k238 ((((p4 &&& (255 : Int32)).toUInt32.toUInt16.toUInt32.toInt32)).toUInt32.toUInt16.toUInt32.toInt32) ((((((p4.toUInt32 >>> ((8 : Int32) &&& 31).toUInt32).toInt32) &&& (255 : Int32)).toUInt32.toUInt16.toUInt32.toInt32)).toUInt32.toUInt16.toUInt32.toInt32) ((((((p4.toUInt32 >>> ((16 : Int32) &&& 31).toUInt32).toInt32) &&& (255 : Int32)).toUInt32.toUInt16.toUInt32.toInt32)).toUInt32.toUInt16.toUInt32.toInt32) ((((((p4.toUInt32 >>> ((24 : Int32) &&& 31).toUInt32).toInt32) &&& (255 : Int32)).toUInt32.toUInt16.toUInt32.toInt32)).toUInt32.toUInt16.toUInt32.toInt32) ((((p5 &&& (255 : Int32)).toUInt32.toUInt16.toUInt32.toInt32)).toUInt32.toUInt16.toUInt32.toInt32) ((((p5.toUInt32 >>> ((8 : Int32) &&& 31).toUInt32).toInt32) &&& (7 : Int32)) % (6 : Int32)) X420 e420 N420 f422 f425 f423 f424 f427 (own_ch (own_ch (own_msk _))) (own_ch (own_ch (own_msk _))) (own_ch (own_ch (own_msk _))) (own_ch (own_ch (own_msk _))) (own_ch (own_ch (own_msk _))) g_b238 sz_b238 f426

theorem own_fldI {s : State} {args : Array Value} {t : Term} {a : Addr} {C n d : String} {k : Int32} (ev : t.eval args s none [] s = some (.ref a)) (h : (Jvm.Cond.eq (.field t C n d) (.int k)).value args s none s [] = some true) : Fld s s.heap a C n d (.int k) := by
  have hb : (Term.int k).eval args s none [] s = some (.int k) := rfl
  cases ha : (Term.field t C n d).eval args s none [] s with
  | none => simp [Cond.value, ha] at h
  | some x =>
    cases x <;> simp [Cond.value, ha, hb] at h
    subst h
    rw [fld_at ev] at ha; exact Fld.start ha
theorem own_fldL {s : State} {args : Array Value} {t : Term} {a : Addr} {C n d : String} {k : Int64} (ev : t.eval args s none [] s = some (.ref a)) (h : (Jvm.Cond.eq (.field t C n d) (.long k)).value args s none s [] = some true) : Fld s s.heap a C n d (.long k) := by
  have hb : (Term.long k).eval args s none [] s = some (.long k) := rfl
  cases ha : (Term.field t C n d).eval args s none [] s with
  | none => simp [Cond.value, ha] at h
  | some x =>
    cases x <;> simp [Cond.value, ha, hb] at h
    subst h
    rw [fld_at ev] at ha; exact Fld.start ha

theorem own_elemL {s : State} {args : Array Value} {t : Term} {a : Addr} {cl : Cell} {j : Int32} {k : Int64} (ev : t.eval args s none [] s = some (.ref a)) (hc : s.heap[a]? = some cl) (h : (Jvm.Cond.eq (.elem t (.int j)) (.long k)).value args s none s [] = some true) : cl.slots[j.toNatClampNeg]? = some (.long k) := by
  have hb : (Term.long k).eval args s none [] s = some (.long k) := rfl
  cases ha : (Term.elem t (.int j)).eval args s none [] s with
  | none => simp [Cond.value, ha] at h
  | some x =>
    have q := (elem_in ha ev rfl hc).2
    cases x <;> simp [Cond.value, ha, hb] at h
    subst h; exact q
theorem own_lenI {s : State} {args : Array Value} {t : Term} {a : Addr} {cl : Cell} {ty : FieldType} {k : Int32} (ev : t.eval args s none [] s = some (.ref a)) (A : Arr s s.heap a cl ty) (h : (Jvm.Cond.eq (.length t) (.int k)).value args s none s [] = some true) : cl.slots.size < 2 ^ 31 ∧ cl.slots.size.toInt32 = k := by
  have hb : (Term.int k).eval args s none [] s = some (.int k) := rfl
  have hA : s.arrayAt? a = some cl := A.fin (Vm.Alike.refl _)
  by_cases hl : cl.slots.size < 2 ^ 31
  · have hf := len_f (o := none) (first := s) (idx := []) ev hA hl
    simp [Cond.value, hf, hb] at h
    exact ⟨hl, h⟩
  · simp [Cond.value, Term.eval, ev, hA, hl] at h

theorem own_elemI {s : State} {args : Array Value} {t : Term} {a : Addr} {cl : Cell} {j : Int32} {k : Int32} (ev : t.eval args s none [] s = some (.ref a)) (hc : s.heap[a]? = some cl) (h : (Jvm.Cond.eq (.elem t (.int j)) (.int k)).value args s none s [] = some true) : cl.slots[j.toNatClampNeg]? = some (.int k) := by
  have hb : (Term.int k).eval args s none [] s = some (.int k) := rfl
  cases ha : (Term.elem t (.int j)).eval args s none [] s with
  | none => simp [Cond.value, ha] at h
  | some x =>
    have q := (elem_in ha ev rfl hc).2
    cases x <;> simp [Cond.value, ha, hb] at h
    subst h; exact q

theorem own_elemR {s : State} {args : Array Value} {t u : Term} {a x : Addr} {cl : Cell} {j : Int32} (ev : t.eval args s none [] s = some (.ref a)) (hc : s.heap[a]? = some cl) (hb : u.eval args s none [] s = some (.ref x)) (h : (Jvm.Cond.eq (.elem t (.int j)) u).value args s none s [] = some true) : cl.slots[j.toNatClampNeg]? = some (.ref x) := by
  cases ha : (Term.elem t (.int j)).eval args s none [] s with
  | none => simp [Cond.value, ha] at h
  | some y =>
    have q := (elem_in ha ev rfl hc).2
    cases y <;> simp [Cond.value, ha, hb] at h
    subst h; exact q

set_option maxRecDepth 65536 in
set_option maxHeartbeats 40000000 in
theorem comes_1 {Post : Tables → Env → Array Value → State → Outcome → State → Prop} (hpost : ∀ tb e args s v u, (limb_1_1.after args s (.returned v) u = true ∧ limb_1_2.after args s (.returned v) u = true ∧ True) → Jvm.D.FramedW s (.returned v) u (Jvm.fieldLocs frame_1_writes args s ++ Jvm.arrayLocs frame_1_arrays args s ++ Jvm.staticLocs frame_1_statics s) 32 4224 → Post tb e args s (.returned v) u) :
    ArmFor flags0 classFile x code maxLocals ret World_1 tables_1 room_1 Calls_1 rest_1 Pre_1 Post := by
  intro l hfl _ _ p e ha hc hk s m args below hf hA hF happ hP
  obtain ⟨hcalls, hrest, hpre⟩ := hP
  obtain ⟨-, -, -, hnamed, -, -, -, hat⟩ := (Spec.applies_iff hf).mp happ
  obtain ⟨hg, hn⟩ := and_e (Cond.before_iff.mp (show (Jvm.Cond.and given_1 narrow_1).before args s = true from hpre))
  obtain ⟨gg1, gg2⟩ := and_e hg
  obtain ⟨gg3, gg4⟩ := and_e gg2
  obtain ⟨gg5, gg6⟩ := and_e gg4
  obtain ⟨gg7, gg8⟩ := and_e gg6
  obtain ⟨gg9, gg10⟩ := and_e gg8
  obtain ⟨gg11, gg12⟩ := and_e gg10
  obtain ⟨w0, w1, w2, w3, w4, w5, rfl⟩ : ∃ w0 w1 w2 w3 w4 w5 : Value, args = #[w0, w1, w2, w3, w4, w5] := by
    have hs : args.size = 6 := by simpa [Cond.value, given_1] using gg1
    obtain ⟨L⟩ := args
    match L, hs with
    | [w0, w1, w2, w3, w4, w5], _ => exact ⟨w0, w1, w2, w3, w4, w5, rfl⟩
  have hw := fun d (hd : d ∈ tables_1) => atoms_spec (ws := Jvm.Cond.code x code maxLocals ret :: tables_1) hat d (List.mem_cons_of_mem _ hd)
  have hfit : Fit s := fun {y c} hc i hi => by
    obtain ⟨ha, rfl⟩ := Array.getElem?_eq_some_iff.mp hc
    have q := List.all_eq_true.mp ((Array.all_eq_true_iff_forall_mem.mp hF) _ (Array.getElem_mem ha)) i (List.mem_range.mpr hi)
    simpa [Array.getElem?_eq_getElem hi] using q
  obtain ⟨hsets, hown0⟩ := atoms_of _ (rest_1_c_eq ▸ (show rest_1_c.before _ s = true from hrest))
  have hr0 := Cond.before_iff.mp hown0
  obtain ⟨i0, ei0⟩ := is_v gg3
  obtain rfl : w0 = (.int i0) := Option.some.inj ei0
  obtain ⟨i1, ei1⟩ := is_v gg5
  obtain rfl : w1 = (.int i1) := Option.some.inj ei1
  obtain ⟨i2, ei2⟩ := is_v gg7
  obtain rfl : w2 = (.int i2) := Option.some.inj ei2
  obtain ⟨i3, ei3⟩ := is_v gg9
  obtain rfl : w3 = (.int i3) := Option.some.inj ei3
  obtain ⟨i4, ei4⟩ := is_v gg11
  obtain rfl : w4 = (.int i4) := Option.some.inj ei4
  obtain ⟨i5, ei5⟩ := is_v gg12
  obtain rfl : w5 = (.int i5) := Option.some.inj ei5
  obtain ⟨nn1, nn2⟩ := and_e hn
  obtain ⟨nn3, nn4⟩ := and_e nn2
  obtain ⟨nn5, nn6⟩ := and_e nn4
  obtain ⟨nn7, nn8⟩ := and_e nn6
  obtain ⟨nn9, nn10⟩ := and_e nn8
  obtain ⟨nn11, nn12⟩ := and_e nn10
  obtain ⟨nn13, nn14⟩ := and_e nn12
  obtain ⟨nn15, nn16⟩ := and_e nn14
  obtain ⟨nn17, nn18⟩ := and_e nn16
  obtain ⟨nn19, nn20⟩ := and_e nn18
  obtain ⟨nn21, nn22⟩ := and_e nn20
  obtain ⟨nn23, nn24⟩ := and_e nn22
  obtain ⟨nn25, nn26⟩ := and_e nn24
  obtain ⟨nn27, nn28⟩ := and_e nn26
  obtain ⟨nn29, nn30⟩ := and_e nn28
  obtain ⟨nn31, nn32⟩ := and_e nn30
  obtain ⟨nn33, nn34⟩ := and_e nn32
  obtain ⟨nn35, nn36⟩ := and_e nn34
  obtain ⟨nn37, nn38⟩ := and_e nn36
  obtain ⟨nn39, nn40⟩ := and_e nn38
  obtain ⟨nn41, nn42⟩ := and_e nn40
  obtain ⟨nn43, nn44⟩ := and_e nn42
  obtain ⟨nn45, nn46⟩ := and_e nn44
  obtain ⟨nn47, nn48⟩ := and_e nn46
  obtain ⟨nn49, nn50⟩ := and_e nn48
  obtain ⟨nn51, nn52⟩ := and_e nn50
  obtain ⟨nn53, nn54⟩ := and_e nn52
  obtain ⟨nn55, nn56⟩ := and_e nn54
  obtain ⟨nn57, nn58⟩ := and_e nn56
  obtain ⟨nn59, nn60⟩ := and_e nn58
  obtain ⟨nn61, nn62⟩ := and_e nn60
  obtain ⟨wV, evV⟩ := arr_v nn1
  obtain ⟨clV, ArV⟩ := Arr.start evV nn1
  obtain ⟨lV1, lV2⟩ := own_lenI evV ArV nn5
  have S_V : Sta s s.heap "org/postline/Vocabulary" "$VALUES" "[Lorg/postline/Vocabulary;" (.ref wV) := Sta.start evV (Or.inr ⟨(hw _ (List.mem_of_getElem? (i := 28) rfl)), (hw _ (List.mem_of_getElem? (i := 34) rfl))⟩)
  have E_V := Exa.start evV nn3
  obtain ⟨aT, evaT⟩ := exa_v nn7
  have S_aT : Sta s s.heap "org/postline/Vocabulary" "TEI" "Lorg/postline/Vocabulary;" (.ref aT) := Sta.start evaT (Or.inr ⟨(hw _ (List.mem_of_getElem? (i := 28) rfl)), (hw _ (List.mem_of_getElem? (i := 42) rfl))⟩)
  obtain ⟨lT, evlT⟩ := exa_v nn19
  have F_aT : Fld s s.heap aT "org/postline/Vocabulary" "label" "Ljava/lang/String;" (.ref lT) := Fld.start (by rw [← fld_at evaT]; exact evlT)
  have E_lT := Exa.start evlT nn19
  have C_lT := own_fldI evlT nn21
  obtain ⟨vlT, ewlT⟩ := arr_v nn23
  have W_lT : Fld s s.heap lT "java/lang/String" "value" "[B" (.ref vlT) := Fld.start (by rw [← fld_at evlT]; exact ewlT)
  obtain ⟨cllT, ArlT⟩ := Arr.start ewlT nn23
  obtain ⟨l1lT, l2lT⟩ := own_lenI ewlT ArlT nn25
  have K_lT : Arv s s.heap vlT cllT.cls .byte (3 : Int32) [(.int (116 : Int32)), (.int (101 : Int32)), (.int (105 : Int32))] (.int (0 : Int32)) := Arv.start hfit ArlT l1lT l2lT (by decide) rfl ⟨own_elemI ewlT ArlT.1 nn43, own_elemI ewlT ArlT.1 nn45, own_elemI ewlT ArlT.1 nn47, trivial⟩
  have Q_lT : OwnStr s s.heap lT own_tei := ⟨_, _, _, _, _, E_lT, W_lT, C_lT, K_lT, own_tei_cod, own_tei_up, by decide⟩
  obtain ⟨aJ, evaJ⟩ := exa_v nn11
  have S_aJ : Sta s s.heap "org/postline/Vocabulary" "JATS" "Lorg/postline/Vocabulary;" (.ref aJ) := Sta.start evaJ (Or.inr ⟨(hw _ (List.mem_of_getElem? (i := 28) rfl)), (hw _ (List.mem_of_getElem? (i := 43) rfl))⟩)
  obtain ⟨lJ, evlJ⟩ := exa_v nn27
  have F_aJ : Fld s s.heap aJ "org/postline/Vocabulary" "label" "Ljava/lang/String;" (.ref lJ) := Fld.start (by rw [← fld_at evaJ]; exact evlJ)
  have E_lJ := Exa.start evlJ nn27
  have C_lJ := own_fldI evlJ nn29
  obtain ⟨vlJ, ewlJ⟩ := arr_v nn31
  have W_lJ : Fld s s.heap lJ "java/lang/String" "value" "[B" (.ref vlJ) := Fld.start (by rw [← fld_at evlJ]; exact ewlJ)
  obtain ⟨cllJ, ArlJ⟩ := Arr.start ewlJ nn31
  obtain ⟨l1lJ, l2lJ⟩ := own_lenI ewlJ ArlJ nn33
  have K_lJ : Arv s s.heap vlJ cllJ.cls .byte (4 : Int32) [(.int (106 : Int32)), (.int (97 : Int32)), (.int (116 : Int32)), (.int (115 : Int32))] (.int (0 : Int32)) := Arv.start hfit ArlJ l1lJ l2lJ (by decide) rfl ⟨own_elemI ewlJ ArlJ.1 nn49, own_elemI ewlJ ArlJ.1 nn59, own_elemI ewlJ ArlJ.1 nn61, own_elemI ewlJ ArlJ.1 nn62, trivial⟩
  have Q_lJ : OwnStr s s.heap lJ own_jats := ⟨_, _, _, _, _, E_lJ, W_lJ, C_lJ, K_lJ, own_jats_cod, own_jats_up, by decide⟩
  obtain ⟨aE, evaE⟩ := exa_v nn15
  have S_aE : Sta s s.heap "org/postline/Vocabulary" "EAD3" "Lorg/postline/Vocabulary;" (.ref aE) := Sta.start evaE (Or.inr ⟨(hw _ (List.mem_of_getElem? (i := 28) rfl)), (hw _ (List.mem_of_getElem? (i := 44) rfl))⟩)
  obtain ⟨lE, evlE⟩ := exa_v nn35
  have F_aE : Fld s s.heap aE "org/postline/Vocabulary" "label" "Ljava/lang/String;" (.ref lE) := Fld.start (by rw [← fld_at evaE]; exact evlE)
  have E_lE := Exa.start evlE nn35
  have C_lE := own_fldI evlE nn37
  obtain ⟨vlE, ewlE⟩ := arr_v nn39
  have W_lE : Fld s s.heap lE "java/lang/String" "value" "[B" (.ref vlE) := Fld.start (by rw [← fld_at evlE]; exact ewlE)
  obtain ⟨cllE, ArlE⟩ := Arr.start ewlE nn39
  obtain ⟨l1lE, l2lE⟩ := own_lenI ewlE ArlE nn41
  have K_lE : Arv s s.heap vlE cllE.cls .byte (4 : Int32) [(.int (101 : Int32)), (.int (97 : Int32)), (.int (100 : Int32)), (.int (51 : Int32))] (.int (0 : Int32)) := Arv.start hfit ArlE l1lE l2lE (by decide) rfl ⟨own_elemI ewlE ArlE.1 nn51, own_elemI ewlE ArlE.1 nn53, own_elemI ewlE ArlE.1 nn55, own_elemI ewlE ArlE.1 nn57, trivial⟩
  have Q_lE : OwnStr s s.heap lE own_ead3 := ⟨_, _, _, _, _, E_lE, W_lE, C_lE, K_lE, own_ead3_cod, own_ead3_up, by decide⟩
  have V_V : Arv s s.heap wV clV.cls (.object "org/postline/Vocabulary") (3 : Int32) [(.ref aT), (.ref aJ), (.ref aE)] .null := Arv.start hfit ArV lV1 lV2 (by decide) rfl ⟨own_elemR evV ArV.1 evaT nn9, own_elemR evV ArV.1 evaJ nn13, own_elemR evV ArV.1 evaE nn17, trivial⟩
  obtain ⟨zc, evz⟩ := is_v (Cond.before_iff.mp (hsets _ (List.mem_of_getElem? (i := 1) rfl)))
  have S_C : Sta s s.heap "java/lang/String" "COMPACT_STRINGS" "Z" (.int zc) := Sta.start evz (Or.inl (hsets _ (List.mem_of_getElem? (i := 0) rfl)))
  have hzc : ¬ (zc = (0 : Int32)) := gotF (Cond.eq_ints evz (Term.int_eval (0))) (not_v (Cond.before_iff.mp (hsets _ (List.mem_of_getElem? (i := 2) rfl))))
  have hC0 : CHv s consts_1 s.vm s.heap := CHv.start (own_EW hw) (fun p hp => hcalls.1 p hp) (hsets _ (List.mem_of_getElem? (i := 2) rfl)) (hw _ (List.mem_of_getElem? (i := 19) rfl)) (hw _ (List.mem_of_getElem? (i := 6) rfl))
  obtain ⟨n, o, h1, h2, h3, _, L, rfl, ⟨rfl, N⟩, -, hq⟩ := rm0 l s _ hw tables_1 i0 i1 i2 i3 i4 i5 wV clV.cls aT aJ aE lT lJ lE zc s.heap s.heap.size (Nat.le_refl _) S_V V_V E_V S_aT S_aJ S_aE F_aT Q_lT F_aJ Q_lJ F_aE Q_lE S_C hzc p e ha hc hk s m _ below hf ((Spec.applies_iff_loose hf).mp happ).1 ⟨rfl, State.Warmed39.refl s, rfl, hC0, fun x hx => nomatch hx⟩ trivial
  refine ⟨n, _, h1, h2, h3, hpost _ _ _ _ _ _ ⟨Cond.after_iff.mpr rfl, Cond.after_iff.mpr (eq_i res_at (Term.int_eval (1)) rfl), trivial⟩ ⟨hq.1, hq.2.1, hq.2.2.1, (hq.2.2.2.sift fun y hy => Or.inr (N y hy)).mono (by decide) (by decide)⟩⟩
theorem main_1_1 : Claimed_1_1 := comes_1 fun _ _ _ _ _ _ h hF => ⟨h.1, hF⟩
theorem main_1_2 : Claimed_1_2 := comes_1 fun _ _ _ _ _ _ h hF => ⟨h.2.1, hF⟩
end Jvm.Pilot.@@N@@
namespace Jvm.Pilot.@@N@@
open Jvm Jvm.ClassFile Sem Op Lib Jvm.Free Jvm.Stand Jvm.Pilot.@@N@@.Jvm.D
/-! MADE BY PROGRAM (witnessworld.py) out of the Statement's table words and the real class files: 22 classes; the members and pool entries that the words name. The judged class is class 1, her method 1. -/
namespace start1
open Jvm.ClassFile
def u (s : String) : CpInfo := .utf8 (stringToUtf16 s)
/-- a pool by its gaps: so many unusable entries, then the entry; so many at the end -/
def gap : Nat → List CpInfo → List CpInfo
  | 0, r => r
  | n + 1, r => .unusable :: gap n r
def poolList (es : List (Nat × CpInfo)) (last : Nat) : List CpInfo := es.foldr (fun e r => gap e.1 (e.2 :: r)) (gap last [])
def pool (es : List (Nat × CpInfo)) (last : Nat) : Array CpInfo := ⟨poolList es last⟩
def fileOf (pool : Array CpInfo) (this : Nat) (attrs : Array Attribute := #[]) (ms : Array MethodInfo := #[]) (fl : Nat := 33) (sup : Nat := 0) (ifs : Array Nat := #[]) (fds : Array FieldInfo := #[]) : ClassFile where
  minorVersion := 0
  majorVersion := 65
  constantPool := pool
  accessFlags := fl
  thisClass := this
  superClass := sup
  interfaces := ifs
  fields := fds
  methods := ms
  attributes := attrs
def plain (name : String) (sup : Option ClassId) : Class where
  name := name
  kind := .ordinary
  loader := none
  accessFlags := 33
  super := sup
  interfaces := #[]
  cf := none
  fields := #[]
  methods := #[]
  instanceTypes := #[]
  staticTypes := #[]
  resolved := #[]
  callSites := []
  init := .initialized
  statics := none
  mirror := none

def pool0 : Array CpInfo := pool [(5, u "<init>"), (0, u "()V"), (1, .class_ 10), (1, u "java/lang/Object"), (85, u "clone"), (0, u "()Ljava/lang/Object;")] 26

def k0c0 : Code := { maxStack := 0, maxLocals := 1, code := object_method_1_code, exceptionTable := #[], attributes := #[] }
def k0m0 : Method := { name := "<init>", desc := "()V", sig := { parameters := [], returnType := none }, accessFlags := 1, code := some k0c0 }
def k0m1 : Method := { name := "clone", desc := "()Ljava/lang/Object;", sig := { parameters := [], returnType := some (.object "java/lang/Object") }, accessFlags := 260, code := none }
/-- java/lang/Object -/
def k0 : Class := { plain "java/lang/Object" none with
  accessFlags := 33
  interfaces := #[]
  cf := some (fileOf pool0 8 #[] #[{ accessFlags := 1, nameIndex := 5, descriptorIndex := 6, attributes := #[] }, { accessFlags := 260, nameIndex := 96, descriptorIndex := 97, attributes := #[] }] 33 0 #[] #[])
  fields := #[]
  methods := #[k0m0, k0m1]
  instanceTypes := #[]
  staticTypes := #[]
  resolved := Array.replicate 124 none
  statics := none }

def pool1 : Array CpInfo := pool [(2, .class_ 4), (1, u "java/lang/Object"), (0, u "<init>"), (0, u "()V"), (0, .methodref 8 9), (0, .class_ 10), (0, .nameAndType 11 12), (0, u "org/postline/VocabularyWritingPinLaw"), (0, u "make"), (0, u "([CI)Ljava/lang/String;"), (0, .methodref 14 15), (0, .class_ 16), (0, .nameAndType 17 18), (0, u "org/postline/Vocabulary"), (0, u "writing"), (0, u "(Ljava/lang/String;)Lorg/postline/Vocabulary;"), (0, .methodref 8 20), (0, .nameAndType 21 18), (0, u "expected"), (0, .class_ 23), (0, u "java/lang/String"), (0, .methodref 22 25), (0, .nameAndType 5 26), (0, u "([C)V"), (0, .string 28), (0, u "tei"), (0, .methodref 22 30), (0, .nameAndType 31 32), (0, u "equals"), (0, u "(Ljava/lang/Object;)Z"), (0, .fieldref 14 34), (0, .nameAndType 35 36), (0, u "TEI"), (0, u "Lorg/postline/Vocabulary;"), (0, .string 38), (0, u "jats"), (0, .fieldref 14 40), (0, .nameAndType 41 36), (0, u "JATS"), (0, .string 43), (0, u "ead3"), (0, .fieldref 14 45), (0, .nameAndType 46 36), (0, u "EAD3"), (2, u "law"), (0, u "(IIIIII)Z")] 5

def k1m0 : Method := { name := "<init>", desc := "()V", sig := { parameters := [], returnType := none }, accessFlags := 1, code := none }
def k1c1 : Code := { maxStack := 4, maxLocals := 16, code := code, exceptionTable := #[], attributes := #[] }
def k1m1 : Method := { name := "law", desc := "(IIIIII)Z", sig := { parameters := [.int, .int, .int, .int, .int, .int], returnType := some .boolean }, accessFlags := 9, code := some k1c1 }
def k1c2 : Code := { maxStack := 7, maxLocals := 2, code := method_3_code, exceptionTable := #[], attributes := #[] }
def k1m2 : Method := { name := "make", desc := "([CI)Ljava/lang/String;", sig := { parameters := [(.array .char), .int], returnType := some (.object "java/lang/String") }, accessFlags := 10, code := some k1c2 }
def k1c3 : Code := { maxStack := 2, maxLocals := 1, code := method_4_code, exceptionTable := #[], attributes := #[] }
def k1m3 : Method := { name := "expected", desc := "(Ljava/lang/String;)Lorg/postline/Vocabulary;", sig := { parameters := [(.object "java/lang/String")], returnType := some (.object "org/postline/Vocabulary") }, accessFlags := 10, code := some k1c3 }
/-- org/postline/VocabularyWritingPinLaw -/
def k1 : Class := { plain "org/postline/VocabularyWritingPinLaw" (some 0) with
  accessFlags := 49
  interfaces := #[]
  cf := some (fileOf pool1 8 #[] #[{ accessFlags := 1, nameIndex := 5, descriptorIndex := 6, attributes := #[] }, { accessFlags := 9, nameIndex := 49, descriptorIndex := 50, attributes := #[] }, { accessFlags := 10, nameIndex := 11, descriptorIndex := 12, attributes := #[] }, { accessFlags := 10, nameIndex := 21, descriptorIndex := 18, attributes := #[] }] 49 2 #[] #[])
  fields := #[]
  methods := #[k1m0, k1m1, k1m2, k1m3]
  instanceTypes := #[]
  staticTypes := #[]
  resolved := Array.replicate 56 none
  statics := none }

def pool2 : Array CpInfo := pool [(1, .class_ 2), (0, u "java/io/Serializable"), (0, .class_ 4), (0, u "java/lang/Object")] 2

/-- java/io/Serializable -/
def k2 : Class := { plain "java/io/Serializable" (some 0) with
  accessFlags := 1537
  interfaces := #[]
  cf := some (fileOf pool2 1 #[] #[] 1537 3 #[] #[])
  fields := #[]
  methods := #[]
  instanceTypes := #[]
  staticTypes := #[]
  resolved := Array.replicate 7 none
  statics := none }

def pool3 : Array CpInfo := pool [(1, .class_ 2), (0, u "java/lang/Comparable"), (0, .class_ 4), (0, u "java/lang/Object")] 7

/-- java/lang/Comparable -/
def k3 : Class := { plain "java/lang/Comparable" (some 0) with
  accessFlags := 1537
  interfaces := #[]
  cf := some (fileOf pool3 1 #[] #[] 1537 3 #[] #[])
  fields := #[]
  methods := #[]
  instanceTypes := #[]
  staticTypes := #[]
  resolved := Array.replicate 12 none
  statics := none }

def pool4 : Array CpInfo := pool [(2, .class_ 4), (1, u "java/lang/CharSequence"), (42, .class_ 48), (0, u "java/lang/CharSequence$1CodePointIterator"), (10, .class_ 60), (0, u "java/lang/CharSequence$1CharIterator"), (5, .class_ 67), (0, u "java/lang/Object")] 63

/-- java/lang/CharSequence -/
def k4 : Class := { plain "java/lang/CharSequence" (some 0) with
  accessFlags := 1537
  interfaces := #[]
  cf := some (fileOf pool4 2 #[.nestMembers #[47, 59]] #[] 1537 66 #[] #[])
  fields := #[]
  methods := #[]
  instanceTypes := #[]
  staticTypes := #[]
  resolved := Array.replicate 131 none
  statics := none }

def pool5 : Array CpInfo := pool [(1, .class_ 2), (0, u "java/lang/constant/Constable"), (0, .class_ 4), (0, u "java/lang/Object")] 6

/-- java/lang/constant/Constable -/
def k5 : Class := { plain "java/lang/constant/Constable" (some 0) with
  accessFlags := 1537
  interfaces := #[]
  cf := some (fileOf pool5 1 #[] #[] 1537 3 #[] #[])
  fields := #[]
  methods := #[]
  instanceTypes := #[]
  staticTypes := #[]
  resolved := Array.replicate 11 none
  statics := none }

def pool6 : Array CpInfo := pool [(1, .class_ 2), (0, u "java/lang/constant/ConstantDesc"), (0, .class_ 4), (0, u "java/lang/Object")] 32

/-- java/lang/constant/ConstantDesc -/
def k6 : Class := { plain "java/lang/constant/ConstantDesc" (some 0) with
  accessFlags := 1537
  interfaces := #[]
  cf := some (fileOf pool6 1 #[] #[] 1537 3 #[] #[])
  fields := #[]
  methods := #[]
  instanceTypes := #[]
  staticTypes := #[]
  resolved := Array.replicate 37 none
  statics := none }

def pool7 : Array CpInfo := pool [(1, .methodref 2 3), (0, .class_ 4), (0, .nameAndType 5 6), (0, u "java/lang/Object"), (0, u "<init>"), (0, u "()V"), (0, .string 8), (0, u ""), (0, .fieldref 10 11), (0, .class_ 12), (0, .nameAndType 13 14), (0, u "java/lang/String"), (0, u "value"), (0, u "[B"), (0, .fieldref 10 16), (0, .nameAndType 17 18), (0, u "coder"), (0, u "B"), (2, u "hash"), (0, u "I"), (2, u "hashIsZero"), (0, u "Z"), (0, .methodref 10 28), (0, .nameAndType 5 29), (0, u "([CIILjava/lang/Void;)V"), (8, .fieldref 10 39), (0, .nameAndType 40 26), (0, u "COMPACT_STRINGS"), (1, .class_ 44), (1, u "java/lang/StringUTF16"), (0, u "compress"), (1, .methodref 42 48), (0, .nameAndType 49 50), (0, u "coderFromArrayLen"), (0, u "([BI)B"), (56, .class_ 109), (1, u "java/lang/StringLatin1"), (67, .methodref 42 178), (0, .nameAndType 45 179), (0, u "([CII)[B"), (361, .methodref 107 542), (0, .nameAndType 543 544), (0, u "equals"), (0, u "([B[B)Z"), (28, u "(Ljava/lang/Object;)Z"), (1, .class_ 576), (0, u "java/lang/CharSequence"), (22, u "CASE_INSENSITIVE_ORDER"), (0, u "Ljava/util/Comparator;"), (409, u "([C)V"), (90, u "serialPersistentFields"), (0, u "[Ljava/io/ObjectStreamField;"), (0, .class_ 1104), (0, u "java/lang/String$CaseInsensitiveComparator"), (1, .class_ 1107), (0, u "java/io/Serializable"), (0, .class_ 1109), (0, u "java/lang/Comparable"), (0, .class_ 1111), (0, u "java/lang/constant/Constable"), (0, .class_ 1113), (0, u "java/lang/constant/ConstantDesc"), (2, u "serialVersionUID"), (0, u "J"), (3, u "REPL"), (0, u "C"), (2, u "LATIN1"), (1, u "UTF16")] 323

def k7m0 : Method := { name := "<init>", desc := "()V", sig := { parameters := [], returnType := none }, accessFlags := 1, code := none }
def k7c1 : Code := { maxStack := 5, maxLocals := 2, code := jdk_42_method_3_code, exceptionTable := #[], attributes := #[] }
def k7m1 : Method := { name := "<init>", desc := "([C)V", sig := { parameters := [(.array .char)], returnType := none }, accessFlags := 1, code := some k7c1 }
def k7c2 : Code := { maxStack := 2, maxLocals := 3, code := jdk_42_method_66_code, exceptionTable := #[], attributes := #[] }
def k7m2 : Method := { name := "equals", desc := "(Ljava/lang/Object;)Z", sig := { parameters := [(.object "java/lang/Object")], returnType := some .boolean }, accessFlags := 1, code := some k7c2 }
def k7c3 : Code := { maxStack := 4, maxLocals := 6, code := jdk_42_method_149_code, exceptionTable := #[], attributes := #[] }
def k7m3 : Method := { name := "<init>", desc := "([CIILjava/lang/Void;)V", sig := { parameters := [(.array .char), .int, .int, (.object "java/lang/Void")], returnType := none }, accessFlags := 2, code := some k7c3 }
/-- java/lang/String -/
def k7 : Class := { plain "java/lang/String" (some 0) with
  accessFlags := 49
  interfaces := #[2, 3, 4, 5, 6]
  cf := some (fileOf pool7 10 #[.nestMembers #[1103]] #[{ accessFlags := 1, nameIndex := 5, descriptorIndex := 6, attributes := #[] }, { accessFlags := 1, nameIndex := 5, descriptorIndex := 1010, attributes := #[] }, { accessFlags := 1, nameIndex := 543, descriptorIndex := 573, attributes := #[] }, { accessFlags := 2, nameIndex := 5, descriptorIndex := 29, attributes := #[] }] 49 2 #[1106, 1108, 575, 1110, 1112] #[{ accessFlags := 18, nameIndex := 13, descriptorIndex := 14, attributes := #[] }, { accessFlags := 18, nameIndex := 17, descriptorIndex := 18, attributes := #[] }, { accessFlags := 2, nameIndex := 21, descriptorIndex := 22, attributes := #[] }, { accessFlags := 2, nameIndex := 25, descriptorIndex := 26, attributes := #[] }, { accessFlags := 26, nameIndex := 1116, descriptorIndex := 1117, attributes := #[] }, { accessFlags := 24, nameIndex := 40, descriptorIndex := 26, attributes := #[] }, { accessFlags := 26, nameIndex := 1101, descriptorIndex := 1102, attributes := #[] }, { accessFlags := 26, nameIndex := 1121, descriptorIndex := 1122, attributes := #[] }, { accessFlags := 25, nameIndex := 599, descriptorIndex := 600, attributes := #[] }, { accessFlags := 24, nameIndex := 1125, descriptorIndex := 18, attributes := #[] }, { accessFlags := 24, nameIndex := 1127, descriptorIndex := 18, attributes := #[] }])
  fields := #[{ name := "value", type := (.array .byte), accessFlags := 18, slot := 0, constantValue := 0 }, { name := "coder", type := .byte, accessFlags := 18, slot := 1, constantValue := 0 }, { name := "hash", type := .int, accessFlags := 2, slot := 2, constantValue := 0 }, { name := "hashIsZero", type := .boolean, accessFlags := 2, slot := 3, constantValue := 0 }, { name := "serialVersionUID", type := .long, accessFlags := 26, slot := 0, constantValue := 0 }, { name := "COMPACT_STRINGS", type := .boolean, accessFlags := 24, slot := 1, constantValue := 0 }, { name := "serialPersistentFields", type := (.array (.object "java/io/ObjectStreamField")), accessFlags := 26, slot := 2, constantValue := 0 }, { name := "REPL", type := .char, accessFlags := 26, slot := 3, constantValue := 0 }, { name := "CASE_INSENSITIVE_ORDER", type := (.object "java/util/Comparator"), accessFlags := 25, slot := 4, constantValue := 0 }, { name := "LATIN1", type := .byte, accessFlags := 24, slot := 5, constantValue := 0 }, { name := "UTF16", type := .byte, accessFlags := 24, slot := 6, constantValue := 0 }]
  methods := #[k7m0, k7m1, k7m2, k7m3]
  instanceTypes := #[(.array .byte), .byte, .int, .boolean]
  staticTypes := #[.long, .boolean, (.array (.object "java/io/ObjectStreamField")), .char, (.object "java/util/Comparator"), .byte, .byte]
  resolved := Array.replicate 1451 none
  statics := some 0 }

def pool8 : Array CpInfo := pool [(2, .class_ 4), (1, u "java/lang/Enum"), (0, u "name"), (0, u "Ljava/lang/String;"), (2, u "ordinal"), (0, u "I"), (1, .class_ 14), (1, u "java/lang/Object"), (4, u "hash"), (86, .class_ 108), (1, u "java/lang/Enum$EnumDesc"), (2, .class_ 112), (0, u "java/lang/constant/Constable"), (0, .class_ 114), (0, u "java/lang/Comparable"), (0, .class_ 116), (0, u "java/io/Serializable")] 87

/-- java/lang/Enum -/
def k8 : Class := { plain "java/lang/Enum" (some 0) with
  accessFlags := 1057
  interfaces := #[5, 3, 2]
  cf := some (fileOf pool8 2 #[.nestMembers #[106]] #[] 1057 12 #[111, 113, 115] #[{ accessFlags := 18, nameIndex := 5, descriptorIndex := 6, attributes := #[] }, { accessFlags := 18, nameIndex := 9, descriptorIndex := 10, attributes := #[] }, { accessFlags := 2, nameIndex := 19, descriptorIndex := 10, attributes := #[] }])
  fields := #[{ name := "name", type := (.object "java/lang/String"), accessFlags := 18, slot := 0, constantValue := 0 }, { name := "ordinal", type := .int, accessFlags := 18, slot := 1, constantValue := 0 }, { name := "hash", type := .int, accessFlags := 2, slot := 2, constantValue := 0 }]
  methods := #[]
  instanceTypes := #[(.object "java/lang/String"), .int, .int]
  staticTypes := #[]
  resolved := Array.replicate 204 none
  statics := none }

def pool9 : Array CpInfo := pool [(1, .class_ 2), (0, u "org/postline/Vocabulary"), (2, u "TEI"), (0, u "Lorg/postline/Vocabulary;"), (2, u "JATS"), (2, u "EAD3"), (0, .fieldref 1 14), (0, .nameAndType 15 16), (0, u "$VALUES"), (0, u "[Lorg/postline/Vocabulary;"), (0, .methodref 18 19), (0, .class_ 16), (0, .nameAndType 20 21), (0, u "clone"), (0, u "()Ljava/lang/Object;"), (1, .class_ 25), (1, u "java/lang/Enum"), (17, .class_ 45), (1, u "java/lang/String"), (2, .fieldref 1 49), (0, .nameAndType 50 51), (0, u "label"), (0, u "Ljava/lang/String;"), (2, u "namespaces"), (0, u "Ljava/util/Set;"), (2, u "carriers"), (2, u "reader"), (0, u "Lorg/postline/Vocabulary$CarrierReader;"), (2, u "writer"), (0, u "Lorg/postline/Vocabulary$AddressWriter;"), (0, .methodref 1 68), (0, .nameAndType 69 70), (0, u "values"), (0, u "()[Lorg/postline/Vocabulary;"), (0, .methodref 43 72), (0, .nameAndType 73 74), (0, u "equals"), (0, u "(Ljava/lang/Object;)Z"), (16, u "CARRIERS"), (0, u "Ljava/util/Map;"), (20, .class_ 115), (1, u "org/postline/Vocabulary$CarrierReader"), (3, .class_ 121), (1, u "org/postline/Vocabulary$AddressWriter"), (75, u "(Ljava/lang/String;)Lorg/postline/Vocabulary;"), (2, u "writing")] 63

def k9c0 : Code := { maxStack := 1, maxLocals := 0, code := prog_43_method_1_code, exceptionTable := #[], attributes := #[] }
def k9m0 : Method := { name := "values", desc := "()[Lorg/postline/Vocabulary;", sig := { parameters := [], returnType := some (.array (.object "org/postline/Vocabulary")) }, accessFlags := 9, code := some k9c0 }
def k9c1 : Code := { maxStack := 2, maxLocals := 5, code := prog_43_method_5_code, exceptionTable := #[], attributes := #[] }
def k9m1 : Method := { name := "writing", desc := "(Ljava/lang/String;)Lorg/postline/Vocabulary;", sig := { parameters := [(.object "java/lang/String")], returnType := some (.object "org/postline/Vocabulary") }, accessFlags := 8, code := some k9c1 }
/-- org/postline/Vocabulary -/
def k9 : Class := { plain "org/postline/Vocabulary" (some 8) with
  accessFlags := 16432
  interfaces := #[]
  cf := some (fileOf pool9 1 #[.nestMembers #[119, 113]] #[{ accessFlags := 9, nameIndex := 69, descriptorIndex := 70, attributes := #[] }, { accessFlags := 8, nameIndex := 200, descriptorIndex := 197, attributes := #[] }] 16432 23 #[] #[{ accessFlags := 16409, nameIndex := 5, descriptorIndex := 6, attributes := #[] }, { accessFlags := 16409, nameIndex := 9, descriptorIndex := 6, attributes := #[] }, { accessFlags := 16409, nameIndex := 12, descriptorIndex := 6, attributes := #[] }, { accessFlags := 26, nameIndex := 91, descriptorIndex := 92, attributes := #[] }, { accessFlags := 18, nameIndex := 50, descriptorIndex := 51, attributes := #[] }, { accessFlags := 18, nameIndex := 54, descriptorIndex := 55, attributes := #[] }, { accessFlags := 18, nameIndex := 58, descriptorIndex := 55, attributes := #[] }, { accessFlags := 18, nameIndex := 61, descriptorIndex := 62, attributes := #[] }, { accessFlags := 18, nameIndex := 65, descriptorIndex := 66, attributes := #[] }, { accessFlags := 4122, nameIndex := 15, descriptorIndex := 16, attributes := #[] }])
  fields := #[{ name := "TEI", type := (.object "org/postline/Vocabulary"), accessFlags := 16409, slot := 0, constantValue := 0 }, { name := "JATS", type := (.object "org/postline/Vocabulary"), accessFlags := 16409, slot := 1, constantValue := 0 }, { name := "EAD3", type := (.object "org/postline/Vocabulary"), accessFlags := 16409, slot := 2, constantValue := 0 }, { name := "CARRIERS", type := (.object "java/util/Map"), accessFlags := 26, slot := 3, constantValue := 0 }, { name := "label", type := (.object "java/lang/String"), accessFlags := 18, slot := 3, constantValue := 0 }, { name := "namespaces", type := (.object "java/util/Set"), accessFlags := 18, slot := 4, constantValue := 0 }, { name := "carriers", type := (.object "java/util/Set"), accessFlags := 18, slot := 5, constantValue := 0 }, { name := "reader", type := (.object "org/postline/Vocabulary$CarrierReader"), accessFlags := 18, slot := 6, constantValue := 0 }, { name := "writer", type := (.object "org/postline/Vocabulary$AddressWriter"), accessFlags := 18, slot := 7, constantValue := 0 }, { name := "$VALUES", type := (.array (.object "org/postline/Vocabulary")), accessFlags := 4122, slot := 4, constantValue := 0 }]
  methods := #[k9m0, k9m1]
  instanceTypes := #[(.object "java/lang/String"), .int, .int, (.object "java/lang/String"), (.object "java/util/Set"), (.object "java/util/Set"), (.object "org/postline/Vocabulary$CarrierReader"), (.object "org/postline/Vocabulary$AddressWriter")]
  staticTypes := #[(.object "org/postline/Vocabulary"), (.object "org/postline/Vocabulary"), (.object "org/postline/Vocabulary"), (.object "java/util/Map"), (.array (.object "org/postline/Vocabulary"))]
  resolved := Array.replicate 264 none
  statics := some 1 }

def pool10 : Array CpInfo := pool [(1, .class_ 2), (0, u "java/lang/Cloneable"), (0, .class_ 4), (0, u "java/lang/Object")] 2

/-- java/lang/Cloneable -/
def k10 : Class := { plain "java/lang/Cloneable" (some 0) with
  accessFlags := 1537
  interfaces := #[]
  cf := some (fileOf pool10 1 #[] #[] 1537 3 #[] #[])
  fields := #[]
  methods := #[]
  instanceTypes := #[]
  staticTypes := #[]
  resolved := Array.replicate 7 none
  statics := none }

def pool11 : Array CpInfo := pool [(4, .class_ 6), (1, u "java/lang/Object"), (0, u "<init>"), (0, u "()V"), (5, .class_ 16), (1, u "java/lang/StringLatin1"), (104, u "$assertionsDisabled"), (0, u "Z"), (98, .class_ 223), (1, u "java/lang/StringLatin1$LinesSpliterator"), (57, u "equals"), (0, u "([B[B)Z"), (107, .class_ 391), (0, u "java/lang/StringLatin1$CharsSpliterator")] 3

def k11m0 : Method := { name := "<init>", desc := "()V", sig := { parameters := [], returnType := none }, accessFlags := 0, code := none }
def k11c1 : Code := { maxStack := 3, maxLocals := 3, code := jdk_43_method_13_code, exceptionTable := #[], attributes := #[] }
def k11m1 : Method := { name := "equals", desc := "([B[B)Z", sig := { parameters := [(.array .byte), (.array .byte)], returnType := some .boolean }, accessFlags := 9, code := some k11c1 }
/-- java/lang/StringLatin1 -/
def k11 : Class := { plain "java/lang/StringLatin1" (some 0) with
  accessFlags := 48
  interfaces := #[]
  cf := some (fileOf pool11 14 #[.nestMembers #[390, 221]] #[{ accessFlags := 0, nameIndex := 7, descriptorIndex := 8, attributes := #[] }, { accessFlags := 9, nameIndex := 281, descriptorIndex := 282, attributes := #[] }] 48 4 #[] #[{ accessFlags := 4120, nameIndex := 121, descriptorIndex := 122, attributes := #[] }])
  fields := #[{ name := "$assertionsDisabled", type := .boolean, accessFlags := 4120, slot := 0, constantValue := 0 }]
  methods := #[k11m0, k11m1]
  instanceTypes := #[]
  staticTypes := #[.boolean]
  resolved := Array.replicate 395 none
  statics := none }

def pool12 : Array CpInfo := pool [(6, .class_ 8), (1, u "java/lang/Object"), (0, u "<init>"), (0, u "()V"), (1, .class_ 14), (1, u "java/lang/StringUTF16"), (31, u "$assertionsDisabled"), (0, u "Z"), (13, u "HI_BYTE_SHIFT"), (0, u "I"), (2, u "LO_BYTE_SHIFT"), (49, .methodref 12 116), (0, .nameAndType 117 118), (0, u "compress"), (0, u "([CI[BII)I"), (3, u "([CII)[B"), (138, u "coderFromArrayLen"), (0, u "([BI)B"), (106, .class_ 371), (1, u "java/lang/StringUTF16$LinesSpliterator"), (58, u "MAX_LENGTH"), (196, .class_ 628), (0, u "java/lang/StringUTF16$CodePointsSpliterator"), (0, .class_ 630), (0, u "java/lang/StringUTF16$CharsSpliterator")] 4

def k12m0 : Method := { name := "<init>", desc := "()V", sig := { parameters := [], returnType := none }, accessFlags := 0, code := none }
def k12c1 : Code := { maxStack := 2, maxLocals := 2, code := jdk_52_method_15_code, exceptionTable := #[], attributes := #[] }
def k12m1 : Method := { name := "coderFromArrayLen", desc := "([BI)B", sig := { parameters := [(.array .byte), .int], returnType := some .byte }, accessFlags := 8, code := some k12c1 }
def k12c2 : Code := { maxStack := 5, maxLocals := 6, code := jdk_52_method_16_code, exceptionTable := #[], attributes := #[] }
def k12m2 : Method := { name := "compress", desc := "([CII)[B", sig := { parameters := [(.array .char), .int, .int], returnType := some (.array .byte) }, accessFlags := 9, code := some k12c2 }
def k12c3 : Code := { maxStack := 3, maxLocals := 7, code := jdk_52_method_21_code, exceptionTable := #[], attributes := #[] }
def k12m3 : Method := { name := "compress", desc := "([CI[BII)I", sig := { parameters := [(.array .char), .int, (.array .byte), .int, .int], returnType := some .int }, accessFlags := 9, code := some k12c3 }
/-- java/lang/StringUTF16 -/
def k12 : Class := { plain "java/lang/StringUTF16" (some 0) with
  accessFlags := 48
  interfaces := #[]
  cf := some (fileOf pool12 12 #[.nestMembers #[627, 629, 369]] #[{ accessFlags := 0, nameIndex := 9, descriptorIndex := 10, attributes := #[] }, { accessFlags := 8, nameIndex := 261, descriptorIndex := 262, attributes := #[] }, { accessFlags := 9, nameIndex := 117, descriptorIndex := 122, attributes := #[] }, { accessFlags := 9, nameIndex := 117, descriptorIndex := 118, attributes := #[] }] 48 6 #[] #[{ accessFlags := 26, nameIndex := 61, descriptorIndex := 62, attributes := #[] }, { accessFlags := 26, nameIndex := 65, descriptorIndex := 62, attributes := #[] }, { accessFlags := 24, nameIndex := 430, descriptorIndex := 62, attributes := #[] }, { accessFlags := 4120, nameIndex := 46, descriptorIndex := 47, attributes := #[] }])
  fields := #[{ name := "HI_BYTE_SHIFT", type := .int, accessFlags := 26, slot := 0, constantValue := 0 }, { name := "LO_BYTE_SHIFT", type := .int, accessFlags := 26, slot := 1, constantValue := 0 }, { name := "MAX_LENGTH", type := .int, accessFlags := 24, slot := 2, constantValue := 0 }, { name := "$assertionsDisabled", type := .boolean, accessFlags := 4120, slot := 3, constantValue := 0 }]
  methods := #[k12m0, k12m1, k12m2, k12m3]
  instanceTypes := #[]
  staticTypes := #[.int, .int, .int, .boolean]
  resolved := Array.replicate 635 none
  statics := none }

def pool13 : Array CpInfo := pool [(2, .class_ 4), (1, u "java/lang/Object"), (0, u "<init>"), (0, u "()V"), (17, .class_ 26), (1, u "jdk/internal/util/Preconditions"), (28, .class_ 56), (0, u "jdk/internal/util/Preconditions$4"), (57, .class_ 115), (0, u "jdk/internal/util/Preconditions$1"), (7, u "SIOOBE_FORMATTER"), (0, u "Ljava/util/function/BiFunction;"), (0, .class_ 126), (0, u "jdk/internal/util/Preconditions$2"), (3, u "AIOOBE_FORMATTER"), (0, .class_ 132), (0, u "jdk/internal/util/Preconditions$3"), (3, u "IOOBE_FORMATTER")] 57

def k13m0 : Method := { name := "<init>", desc := "()V", sig := { parameters := [], returnType := none }, accessFlags := 1, code := none }
/-- jdk/internal/util/Preconditions -/
def k13 : Class := { plain "jdk/internal/util/Preconditions" (some 0) with
  accessFlags := 33
  interfaces := #[]
  cf := some (fileOf pool13 24 #[.nestMembers #[55, 131, 125, 114]] #[{ accessFlags := 1, nameIndex := 5, descriptorIndex := 6, attributes := #[] }] 33 2 #[] #[{ accessFlags := 25, nameIndex := 123, descriptorIndex := 124, attributes := #[] }, { accessFlags := 25, nameIndex := 130, descriptorIndex := 124, attributes := #[] }, { accessFlags := 25, nameIndex := 136, descriptorIndex := 124, attributes := #[] }])
  fields := #[{ name := "SIOOBE_FORMATTER", type := (.object "java/util/function/BiFunction"), accessFlags := 25, slot := 0, constantValue := 0 }, { name := "AIOOBE_FORMATTER", type := (.object "java/util/function/BiFunction"), accessFlags := 25, slot := 1, constantValue := 0 }, { name := "IOOBE_FORMATTER", type := (.object "java/util/function/BiFunction"), accessFlags := 25, slot := 2, constantValue := 0 }]
  methods := #[k13m0]
  instanceTypes := #[]
  staticTypes := #[(.object "java/util/function/BiFunction"), (.object "java/util/function/BiFunction"), (.object "java/util/function/BiFunction")]
  resolved := Array.replicate 194 none
  statics := some 2 }

def pool14 : Array CpInfo := pool [(9, u "<init>"), (6, .class_ 18), (1, u "java/lang/Object"), (0, u "()V"), (1, .class_ 23), (1, u "jdk/internal/util/ArraysSupport"), (0, u "LOG2_ARRAY_LONG_INDEX_SCALE"), (0, u "I"), (2, u "U"), (0, u "Ljdk/internal/misc/Unsafe;"), (8, u "BIG_ENDIAN"), (0, u "Z"), (8, u "LOG2_BYTE_BIT_SIZE"), (4, u "LOG2_ARRAY_INT_INDEX_SCALE"), (54, u "JLA"), (0, u "Ljdk/internal/access/JavaLangAccess;"), (11, u "LOG2_ARRAY_BOOLEAN_INDEX_SCALE"), (9, u "LOG2_ARRAY_BYTE_INDEX_SCALE"), (5, u "LOG2_ARRAY_CHAR_INDEX_SCALE"), (5, u "LOG2_ARRAY_SHORT_INDEX_SCALE"), (18, u "LOG2_ARRAY_FLOAT_INDEX_SCALE"), (24, u "LOG2_ARRAY_DOUBLE_INDEX_SCALE"), (89, u "T_BOOLEAN"), (2, u "T_CHAR"), (1, u "T_FLOAT"), (1, u "T_DOUBLE"), (1, u "T_BYTE"), (1, u "T_SHORT"), (1, u "T_INT"), (1, u "T_LONG"), (1, u "SOFT_MAX_ARRAY_LENGTH")] 83

def k14m0 : Method := { name := "<init>", desc := "()V", sig := { parameters := [], returnType := none }, accessFlags := 2, code := none }
/-- jdk/internal/util/ArraysSupport -/
def k14 : Class := { plain "jdk/internal/util/ArraysSupport" (some 0) with
  accessFlags := 33
  interfaces := #[]
  cf := some (fileOf pool14 21 #[] #[{ accessFlags := 2, nameIndex := 9, descriptorIndex := 19, attributes := #[] }] 33 16 #[] #[{ accessFlags := 24, nameIndex := 28, descriptorIndex := 29, attributes := #[] }, { accessFlags := 26, nameIndex := 38, descriptorIndex := 39, attributes := #[] }, { accessFlags := 25, nameIndex := 121, descriptorIndex := 25, attributes := #[] }, { accessFlags := 25, nameIndex := 131, descriptorIndex := 25, attributes := #[] }, { accessFlags := 25, nameIndex := 137, descriptorIndex := 25, attributes := #[] }, { accessFlags := 25, nameIndex := 143, descriptorIndex := 25, attributes := #[] }, { accessFlags := 25, nameIndex := 53, descriptorIndex := 25, attributes := #[] }, { accessFlags := 25, nameIndex := 24, descriptorIndex := 25, attributes := #[] }, { accessFlags := 25, nameIndex := 162, descriptorIndex := 25, attributes := #[] }, { accessFlags := 25, nameIndex := 187, descriptorIndex := 25, attributes := #[] }, { accessFlags := 26, nameIndex := 48, descriptorIndex := 25, attributes := #[] }, { accessFlags := 25, nameIndex := 277, descriptorIndex := 25, attributes := #[] }, { accessFlags := 25, nameIndex := 280, descriptorIndex := 25, attributes := #[] }, { accessFlags := 25, nameIndex := 282, descriptorIndex := 25, attributes := #[] }, { accessFlags := 25, nameIndex := 284, descriptorIndex := 25, attributes := #[] }, { accessFlags := 25, nameIndex := 286, descriptorIndex := 25, attributes := #[] }, { accessFlags := 25, nameIndex := 288, descriptorIndex := 25, attributes := #[] }, { accessFlags := 25, nameIndex := 290, descriptorIndex := 25, attributes := #[] }, { accessFlags := 25, nameIndex := 292, descriptorIndex := 25, attributes := #[] }, { accessFlags := 26, nameIndex := 108, descriptorIndex := 109, attributes := #[] }, { accessFlags := 25, nameIndex := 294, descriptorIndex := 25, attributes := #[] }])
  fields := #[{ name := "U", type := (.object "jdk/internal/misc/Unsafe"), accessFlags := 24, slot := 0, constantValue := 0 }, { name := "BIG_ENDIAN", type := .boolean, accessFlags := 26, slot := 1, constantValue := 0 }, { name := "LOG2_ARRAY_BOOLEAN_INDEX_SCALE", type := .int, accessFlags := 25, slot := 2, constantValue := 0 }, { name := "LOG2_ARRAY_BYTE_INDEX_SCALE", type := .int, accessFlags := 25, slot := 3, constantValue := 0 }, { name := "LOG2_ARRAY_CHAR_INDEX_SCALE", type := .int, accessFlags := 25, slot := 4, constantValue := 0 }, { name := "LOG2_ARRAY_SHORT_INDEX_SCALE", type := .int, accessFlags := 25, slot := 5, constantValue := 0 }, { name := "LOG2_ARRAY_INT_INDEX_SCALE", type := .int, accessFlags := 25, slot := 6, constantValue := 0 }, { name := "LOG2_ARRAY_LONG_INDEX_SCALE", type := .int, accessFlags := 25, slot := 7, constantValue := 0 }, { name := "LOG2_ARRAY_FLOAT_INDEX_SCALE", type := .int, accessFlags := 25, slot := 8, constantValue := 0 }, { name := "LOG2_ARRAY_DOUBLE_INDEX_SCALE", type := .int, accessFlags := 25, slot := 9, constantValue := 0 }, { name := "LOG2_BYTE_BIT_SIZE", type := .int, accessFlags := 26, slot := 10, constantValue := 0 }, { name := "T_BOOLEAN", type := .int, accessFlags := 25, slot := 11, constantValue := 0 }, { name := "T_CHAR", type := .int, accessFlags := 25, slot := 12, constantValue := 0 }, { name := "T_FLOAT", type := .int, accessFlags := 25, slot := 13, constantValue := 0 }, { name := "T_DOUBLE", type := .int, accessFlags := 25, slot := 14, constantValue := 0 }, { name := "T_BYTE", type := .int, accessFlags := 25, slot := 15, constantValue := 0 }, { name := "T_SHORT", type := .int, accessFlags := 25, slot := 16, constantValue := 0 }, { name := "T_INT", type := .int, accessFlags := 25, slot := 17, constantValue := 0 }, { name := "T_LONG", type := .int, accessFlags := 25, slot := 18, constantValue := 0 }, { name := "JLA", type := (.object "jdk/internal/access/JavaLangAccess"), accessFlags := 26, slot := 19, constantValue := 0 }, { name := "SOFT_MAX_ARRAY_LENGTH", type := .int, accessFlags := 25, slot := 20, constantValue := 0 }]
  methods := #[k14m0]
  instanceTypes := #[]
  staticTypes := #[(.object "jdk/internal/misc/Unsafe"), .boolean, .int, .int, .int, .int, .int, .int, .int, .int, .int, .int, .int, .int, .int, .int, .int, .int, .int, (.object "jdk/internal/access/JavaLangAccess"), .int]
  resolved := Array.replicate 378 none
  statics := none }

/-- the primitive byte -/
def k15 : Class := { plain "byte" none with kind := .primitive 'B', accessFlags := 0x411 }
/-- [B -/
def k16 : Class := { plain "[B" (some 0) with kind := .array 15 .byte, interfaces := #[10, 2], accessFlags := 1041 }

/-- the primitive char -/
def k17 : Class := { plain "char" none with kind := .primitive 'C', accessFlags := 0x411 }
/-- [C -/
def k18 : Class := { plain "[C" (some 0) with kind := .array 17 .char, interfaces := #[10, 2], accessFlags := 1041 }

/-- the primitive int -/
def k19 : Class := { plain "int" none with kind := .primitive 'I', accessFlags := 0x411 }
/-- [I -/
def k20 : Class := { plain "[I" (some 0) with kind := .array 19 .int, interfaces := #[10, 2], accessFlags := 1041 }

/-- [Lorg/postline/Vocabulary; -/
def k21 : Class := { plain "[Lorg/postline/Vocabulary;" (some 0) with kind := .array 9 (.object "org/postline/Vocabulary"), interfaces := #[10, 2], accessFlags := 1041 }

def heap : Heap := #[{ cls := 7, slots := #[.long 0, .int 1, .null, .int 0, .null, .int 0, .int 0], vm := .statics 7 },
  { cls := 9, slots := #[.ref 5, .ref 8, .ref 11, .null, .ref 12], vm := .statics 9 },
  { cls := 13, slots := #[.null, .null, .null], vm := .statics 13 },
  { cls := 16, slots := #[.int 116, .int 101, .int 105], vm := .none },
  { cls := 7, slots := #[.ref 3, .int 0, .int 0, .int 0], vm := .none },
  { cls := 9, slots := #[.null, .int 0, .int 0, .ref 4, .null, .null, .null, .null], vm := .none },
  { cls := 16, slots := #[.int 106, .int 97, .int 116, .int 115], vm := .none },
  { cls := 7, slots := #[.ref 6, .int 0, .int 0, .int 0], vm := .none },
  { cls := 9, slots := #[.null, .int 1, .int 1, .ref 7, .null, .null, .null, .null], vm := .none },
  { cls := 16, slots := #[.int 101, .int 97, .int 100, .int 51], vm := .none },
  { cls := 7, slots := #[.ref 9, .int 0, .int 0, .int 0], vm := .none },
  { cls := 9, slots := #[.null, .int 2, .int 2, .ref 10, .null, .null, .null, .null], vm := .none },
  { cls := 21, slots := #[.ref 5, .ref 8, .ref 11], vm := .none }]
def classes : Array Class := #[k0, k1, k2, k3, k4, k5, k6, k7, k8, k9, k10, k11, k12, k13, k14, k15, k16, k17, k18, k19, k20, k21]
def interned : List (Array UInt16 × Addr) := []
def slotsUsed : Nat := 65
def theMethod : MethodId := ⟨1, 1⟩
def args0 : Array Value := #[.int 0, .int 0, .int 0, .int 0, .int 0, .int 0]
def aboutOver (below : List Frame) : State where
  vm := { classes := classes, interned := interned.toArray }
  heap := heap
  slotsUsed := slotsUsed
  threads := #[{ frames := .invoking theMethod args0 :: below }]
def below0 : List Frame := [.native { method := ⟨0, 0⟩, args := #[] }]
def about1 : State := aboutOver below0
def p0 : Program := .bare "" "" ""
def e0 : Env := launch0.env 0 0 0
theorem w_frames : about1.frames = Frame.invoking theMethod args0 :: below0 := rfl
set_option maxRecDepth 65536 in
theorem w_args : argsFit about1.vm theMethod args0 = true := by decide +kernel
set_option maxRecDepth 65536 in
theorem w_heap : heapFits about1 = true := by decide +kernel
set_option maxRecDepth 65536 in
theorem w_runnable : about1.curStatus? = some .runnable := by decide +kernel
set_option maxRecDepth 65536 in
theorem w_alone : about1.alone = true := by decide +kernel
set_option maxRecDepth 65536 in
theorem w_named : about1.methodNamed? x = some theMethod := by decide +kernel
set_option maxRecDepth 65536 in
theorem w_hears : about1.hears theMethod below0 = true := by decide +kernel
set_option maxRecDepth 65536 in
theorem w_ripe : about1.ripe theMethod args0 below0 = true := by decide +kernel
theorem w_running : about1.status = .running := rfl
set_option maxRecDepth 65536 in
theorem w_room : about1.hasRoom e0.platform room_1 = true :=
  launch0.hasRoom_least _ room_1 (by decide +kernel) (by decide +kernel) (by decide +kernel) (by decide +kernel) (by decide +kernel) (by decide +kernel)
theorem allAtoms_all (ts : List Jvm.Cond) (a : Array Jvm.Value) (st : Jvm.State) : (allAtoms ts).before a st = ts.all (fun c => c.before a st) := by
  induction ts with
  | nil => rfl
  | cons c t ih =>
    show (Jvm.Cond.and c (allAtoms t)).before a st = _
    rw [Jvm.Cond.before_and, ih, List.all_cons]
def words1 : List Jvm.Cond := Jvm.Cond.code x code maxLocals ret :: tables_1
/-- a 'code' word, met by the world's own term for the bytes: nothing is compared byte by byte -/
theorem code_word {y : MethodName} {bytes : ByteArray} {mx : Nat} {rt : Option FieldType} {a : Array Value} {s : State} {m : MethodId} {meth : Method} {c : Code} (h1 : s.methodNamed? y = some m) (h2 : s.vm.method? m = some meth) (h3 : meth.code = some c) (h4 : c.code = bytes)
    (h5 : (c.maxLocals == mx && c.exceptionTable.isEmpty && decide (c.maxStack ≤ mostOperands) && decide (meth.sig.returnType = rt) && !meth.locks && decide (parseMethodDescriptor y.desc = some meth.sig)) = true) : (Jvm.Cond.code y bytes mx rt).before a s = true := by
  simp only [Bool.and_eq_true, beq_iff_eq, Bool.not_eq_true', decide_eq_true_eq] at h5
  obtain ⟨⟨⟨⟨⟨g1, g2⟩, g3⟩, g4⟩, g5⟩, g6⟩ := h5
  simp [Cond.before, Cond.holds, Cond.value, h1, h2, h3, h4, g1, g2, g3, g4, g5, g6]
def isCode : Jvm.Cond → Bool
  | .code _ _ _ _ => true
  | _ => false
theorem all_split {L : List Jvm.Cond} {P : Jvm.Cond → Bool} (h1 : L.all (fun c => isCode c || P c) = true) (h2 : ∀ c ∈ L.filter isCode, P c = true) : L.all P = true := by
  refine List.all_eq_true.mpr fun c hc => ?_
  have h := List.all_eq_true.mp h1 c hc
  rcases Bool.eq_false_or_eq_true (isCode c) with hi | hi
  · exact h2 c (List.mem_filter.mpr ⟨hc, hi⟩)
  · simpa [hi] using h
set_option maxRecDepth 65536 in
theorem w_c0 : (Jvm.Cond.code x code maxLocals ret).before args0 about1 = true := code_word (m := ⟨1, 1⟩) (meth := k1m1) (c := k1c1) (by decide +kernel) rfl rfl rfl (by decide +kernel)
set_option maxRecDepth 65536 in
theorem w_c1 : (Jvm.Cond.code ({ cls := "org/postline/VocabularyWritingPinLaw", name := "make", desc := "([CI)Ljava/lang/String;" } : Jvm.MethodName) method_3_code (2 : Nat) (Option.some (Jvm.ClassFile.FieldType.object "java/lang/String"))).before args0 about1 = true := code_word (m := ⟨1, 2⟩) (meth := k1m2) (c := k1c2) (by decide +kernel) rfl rfl rfl (by decide +kernel)
set_option maxRecDepth 65536 in
theorem w_c2 : (Jvm.Cond.code ({ cls := "java/lang/String", name := "<init>", desc := "([C)V" } : Jvm.MethodName) jdk_42_method_3_code (2 : Nat) (Option.none : Option Jvm.ClassFile.FieldType)).before args0 about1 = true := code_word (m := ⟨7, 1⟩) (meth := k7m1) (c := k7c1) (by decide +kernel) rfl rfl rfl (by decide +kernel)
set_option maxRecDepth 65536 in
theorem w_c3 : (Jvm.Cond.code ({ cls := "java/lang/String", name := "<init>", desc := "([CIILjava/lang/Void;)V" } : Jvm.MethodName) jdk_42_method_149_code (6 : Nat) (Option.none : Option Jvm.ClassFile.FieldType)).before args0 about1 = true := code_word (m := ⟨7, 3⟩) (meth := k7m3) (c := k7c3) (by decide +kernel) rfl rfl rfl (by decide +kernel)
set_option maxRecDepth 65536 in
theorem w_c4 : (Jvm.Cond.code ({ cls := "java/lang/Object", name := "<init>", desc := "()V" } : Jvm.MethodName) object_method_1_code (1 : Nat) (Option.none : Option Jvm.ClassFile.FieldType)).before args0 about1 = true := code_word (m := ⟨0, 0⟩) (meth := k0m0) (c := k0c0) (by decide +kernel) rfl rfl rfl (by decide +kernel)
set_option maxRecDepth 65536 in
theorem w_c5 : (Jvm.Cond.code ({ cls := "org/postline/Vocabulary", name := "writing", desc := "(Ljava/lang/String;)Lorg/postline/Vocabulary;" } : Jvm.MethodName) prog_43_method_5_code (5 : Nat) (Option.some (Jvm.ClassFile.FieldType.object "org/postline/Vocabulary"))).before args0 about1 = true := code_word (m := ⟨9, 1⟩) (meth := k9m1) (c := k9c1) (by decide +kernel) rfl rfl rfl (by decide +kernel)
set_option maxRecDepth 65536 in
theorem w_c6 : (Jvm.Cond.code ({ cls := "org/postline/Vocabulary", name := "values", desc := "()[Lorg/postline/Vocabulary;" } : Jvm.MethodName) prog_43_method_1_code (0 : Nat) (Option.some (Jvm.ClassFile.FieldType.array (Jvm.ClassFile.FieldType.object "org/postline/Vocabulary")))).before args0 about1 = true := code_word (m := ⟨9, 0⟩) (meth := k9m0) (c := k9c0) (by decide +kernel) rfl rfl rfl (by decide +kernel)
set_option maxRecDepth 65536 in
theorem w_c7 : (Jvm.Cond.code ({ cls := "java/lang/String", name := "equals", desc := "(Ljava/lang/Object;)Z" } : Jvm.MethodName) jdk_42_method_66_code (3 : Nat) (Option.some Jvm.ClassFile.FieldType.boolean)).before args0 about1 = true := code_word (m := ⟨7, 2⟩) (meth := k7m2) (c := k7c2) (by decide +kernel) rfl rfl rfl (by decide +kernel)
set_option maxRecDepth 65536 in
theorem w_c8 : (Jvm.Cond.code ({ cls := "java/lang/StringLatin1", name := "equals", desc := "([B[B)Z" } : Jvm.MethodName) jdk_43_method_13_code (3 : Nat) (Option.some Jvm.ClassFile.FieldType.boolean)).before args0 about1 = true := code_word (m := ⟨11, 1⟩) (meth := k11m1) (c := k11c1) (by decide +kernel) rfl rfl rfl (by decide +kernel)
set_option maxRecDepth 65536 in
theorem w_c9 : (Jvm.Cond.code ({ cls := "org/postline/VocabularyWritingPinLaw", name := "expected", desc := "(Ljava/lang/String;)Lorg/postline/Vocabulary;" } : Jvm.MethodName) method_4_code (1 : Nat) (Option.some (Jvm.ClassFile.FieldType.object "org/postline/Vocabulary"))).before args0 about1 = true := code_word (m := ⟨1, 3⟩) (meth := k1m3) (c := k1c3) (by decide +kernel) rfl rfl rfl (by decide +kernel)
set_option maxRecDepth 65536 in
theorem w_c10 : (Jvm.Cond.code ({ cls := "java/lang/StringUTF16", name := "compress", desc := "([CII)[B" } : Jvm.MethodName) jdk_52_method_16_code (6 : Nat) (Option.some (Jvm.ClassFile.FieldType.array Jvm.ClassFile.FieldType.byte))).before args0 about1 = true := code_word (m := ⟨12, 2⟩) (meth := k12m2) (c := k12c2) (by decide +kernel) rfl rfl rfl (by decide +kernel)
set_option maxRecDepth 65536 in
theorem w_c11 : (Jvm.Cond.code ({ cls := "java/lang/StringUTF16", name := "compress", desc := "([CI[BII)I" } : Jvm.MethodName) jdk_52_method_21_code (7 : Nat) (Option.some Jvm.ClassFile.FieldType.int)).before args0 about1 = true := code_word (m := ⟨12, 3⟩) (meth := k12m3) (c := k12c3) (by decide +kernel) rfl rfl rfl (by decide +kernel)
set_option maxRecDepth 65536 in
theorem w_c12 : (Jvm.Cond.code ({ cls := "java/lang/StringUTF16", name := "coderFromArrayLen", desc := "([BI)B" } : Jvm.MethodName) jdk_52_method_15_code (2 : Nat) (Option.some Jvm.ClassFile.FieldType.byte)).before args0 about1 = true := code_word (m := ⟨12, 1⟩) (meth := k12m1) (c := k12c1) (by decide +kernel) rfl rfl rfl (by decide +kernel)
def codes1 : List Jvm.Cond := [Jvm.Cond.code x code maxLocals ret, Jvm.Cond.code ({ cls := "org/postline/VocabularyWritingPinLaw", name := "make", desc := "([CI)Ljava/lang/String;" } : Jvm.MethodName) method_3_code (2 : Nat) (Option.some (Jvm.ClassFile.FieldType.object "java/lang/String")), Jvm.Cond.code ({ cls := "java/lang/String", name := "<init>", desc := "([C)V" } : Jvm.MethodName) jdk_42_method_3_code (2 : Nat) (Option.none : Option Jvm.ClassFile.FieldType), Jvm.Cond.code ({ cls := "java/lang/String", name := "<init>", desc := "([CIILjava/lang/Void;)V" } : Jvm.MethodName) jdk_42_method_149_code (6 : Nat) (Option.none : Option Jvm.ClassFile.FieldType), Jvm.Cond.code ({ cls := "java/lang/Object", name := "<init>", desc := "()V" } : Jvm.MethodName) object_method_1_code (1 : Nat) (Option.none : Option Jvm.ClassFile.FieldType), Jvm.Cond.code ({ cls := "org/postline/Vocabulary", name := "writing", desc := "(Ljava/lang/String;)Lorg/postline/Vocabulary;" } : Jvm.MethodName) prog_43_method_5_code (5 : Nat) (Option.some (Jvm.ClassFile.FieldType.object "org/postline/Vocabulary")), Jvm.Cond.code ({ cls := "org/postline/Vocabulary", name := "values", desc := "()[Lorg/postline/Vocabulary;" } : Jvm.MethodName) prog_43_method_1_code (0 : Nat) (Option.some (Jvm.ClassFile.FieldType.array (Jvm.ClassFile.FieldType.object "org/postline/Vocabulary"))), Jvm.Cond.code ({ cls := "java/lang/String", name := "equals", desc := "(Ljava/lang/Object;)Z" } : Jvm.MethodName) jdk_42_method_66_code (3 : Nat) (Option.some Jvm.ClassFile.FieldType.boolean), Jvm.Cond.code ({ cls := "java/lang/StringLatin1", name := "equals", desc := "([B[B)Z" } : Jvm.MethodName) jdk_43_method_13_code (3 : Nat) (Option.some Jvm.ClassFile.FieldType.boolean), Jvm.Cond.code ({ cls := "org/postline/VocabularyWritingPinLaw", name := "expected", desc := "(Ljava/lang/String;)Lorg/postline/Vocabulary;" } : Jvm.MethodName) method_4_code (1 : Nat) (Option.some (Jvm.ClassFile.FieldType.object "org/postline/Vocabulary")), Jvm.Cond.code ({ cls := "java/lang/StringUTF16", name := "compress", desc := "([CII)[B" } : Jvm.MethodName) jdk_52_method_16_code (6 : Nat) (Option.some (Jvm.ClassFile.FieldType.array Jvm.ClassFile.FieldType.byte)), Jvm.Cond.code ({ cls := "java/lang/StringUTF16", name := "compress", desc := "([CI[BII)I" } : Jvm.MethodName) jdk_52_method_21_code (7 : Nat) (Option.some Jvm.ClassFile.FieldType.int), Jvm.Cond.code ({ cls := "java/lang/StringUTF16", name := "coderFromArrayLen", desc := "([BI)B" } : Jvm.MethodName) jdk_52_method_15_code (2 : Nat) (Option.some Jvm.ClassFile.FieldType.byte)]
set_option maxRecDepth 65536 in
theorem codes_eq : words1.filter isCode = codes1 := rfl
theorem w_codes : ∀ c ∈ words1.filter isCode, c.before args0 about1 = true := by
  rw [codes_eq]
  intro c hc
  simp only [codes1, List.mem_cons, List.not_mem_nil, or_false] at hc
  rcases hc with rfl | rfl | rfl | rfl | rfl | rfl | rfl | rfl | rfl | rfl | rfl | rfl | rfl
  · exact w_c0
  · exact w_c1
  · exact w_c2
  · exact w_c3
  · exact w_c4
  · exact w_c5
  · exact w_c6
  · exact w_c7
  · exact w_c8
  · exact w_c9
  · exact w_c10
  · exact w_c11
  · exact w_c12
set_option maxRecDepth 65536 in
theorem w_t1 : (words1.take 24).all (fun c => isCode c || c.before args0 about1) = true := by decide +kernel
set_option maxRecDepth 65536 in
theorem w_t2 : ((words1.drop 24).take 24).all (fun c => isCode c || c.before args0 about1) = true := by decide +kernel
set_option maxRecDepth 65536 in
theorem w_t3 : (((words1.drop 24).drop 24).take 24).all (fun c => isCode c || c.before args0 about1) = true := by decide +kernel
set_option maxRecDepth 65536 in
theorem w_t4 : (((words1.drop 24).drop 24).drop 24).all (fun c => isCode c || c.before args0 about1) = true := by decide +kernel
theorem w_tables : (allAtoms (Jvm.Cond.code x code maxLocals ret :: tables_1)).before args0 about1 = true := by
  rw [allAtoms_all]
  show words1.all (fun c => c.before args0 about1) = true
  refine all_split ?_ w_codes
  rw [← List.take_append_drop 24 words1, List.all_append, w_t1, ← List.take_append_drop 24 (words1.drop 24), List.all_append, w_t2, ← List.take_append_drop 24 ((words1.drop 24).drop 24), List.all_append, w_t3, w_t4]
  rfl
set_option maxRecDepth 65536 in
theorem w_rest : rest_1_c.before args0 about1 = true := by decide +kernel
set_option maxRecDepth 65536 in
theorem w_case : (Jvm.Cond.and given_1 narrow_1).before args0 about1 = true := by decide +kernel
set_option maxRecDepth 65536 in
theorem w_consts : constsHeld consts_1 about1 := Jvm.Lit.constsHeldB_iff.mp (by decide +kernel)
theorem w_applies : (headSpec (Jvm.Cond.code x code maxLocals ret :: tables_1) room_1).applies x e0.platform about1 = true :=
  (Spec.applies_iff w_frames).mpr ⟨w_running, w_runnable, w_alone, w_named, w_hears, w_ripe, w_room, w_tables⟩
theorem atStart : AtStart classFile x code maxLocals ret World_1 tables_1 room_1 Calls_1 rest_1 Pre_1 launch0 p0 e0 about1 theMethod args0 below0 :=
  ⟨lists_1, trivial, launch0.admits_env _ _ _, launch0.least_env, fairChoices_fair.cas, fairChoices_fair.clock, w_frames, w_args, w_heap, w_applies, ⟨w_consts, trivial⟩, w_rest, w_case⟩
end start1
theorem witness_1 : WitnessClaimed_1 := ⟨start1.p0, start1.e0, start1.about1, start1.theMethod, start1.args0, start1.below0, start1.atStart⟩
end Jvm.Pilot.@@N@@
