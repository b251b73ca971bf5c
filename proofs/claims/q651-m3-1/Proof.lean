import JvmDerived
import JvmDerived.Pilot.@@N@@Statement
import JvmDerived.Pilot.@@N@@Code
set_option linter.unusedVariables false
set_option linter.unusedSimpArgs false
namespace Jvm.Pilot.@@N@@
open Jvm Jvm.ClassFile Sem Op Lib Jvm.Free Jvm.Stand Jvm.LawKit Jvm.RoadKit Bundle Jvm.Pilot.@@N@@.Jvm.D
section OwnKit
variable {p : Program} {l : Launch} {e : Env} {R : Room} {s : State} {m : MethodId} {args : Array Value} {below : List Frame} {meth : Method} {c : Code} {T : State} {locs : List Loc} {cells slots : Nat}
theorem own_retI (X : Stand p l e R s m args below meth c T locs cells slots) (hx : p.tables.exec = Jvm.exec) {pc : Nat} {Ls : Array Slot} {z : Int32} {rest : List Value} (hret : meth.sig.returnType = some .int) (hd : decode c.code pc = .ok (.ireturn, 1)) {fs : List Frame}
    (hl : ∀ (f : JFrame) (acts : List Action), f.method = m → f.locked = none → f.entered = [] → (doReturn e (T.setTop f) acts (some (.int z))).1 = T.setFrames fs) : Steps p.tables e below (T.setTop (mkF m pc Ls (.int z :: rest))) (T.setFrames fs) :=
  retOut X hx hret rfl (Or.inl ⟨rfl, Or.inl rfl, z, rfl⟩) hd hl
theorem own_retL (X : Stand p l e R s m args below meth c T locs cells slots) (hx : p.tables.exec = Jvm.exec) {pc : Nat} {Ls : Array Slot} {z : Int64} {rest : List Value} (hret : meth.sig.returnType = some .long) (hd : decode c.code pc = .ok (.lreturn, 1)) {fs : List Frame}
    (hl : ∀ (f : JFrame) (acts : List Action), f.method = m → f.locked = none → f.entered = [] → (doReturn e (T.setTop f) acts (some (.long z))).1 = T.setFrames fs) : Steps p.tables e below (T.setTop (mkF m pc Ls (.long z :: rest))) (T.setFrames fs) :=
  retOut X hx hret rfl (Or.inr (Or.inl ⟨rfl, rfl, z, rfl⟩)) hd hl
theorem own_retA (X : Stand p l e R s m args below meth c T locs cells slots) (hx : p.tables.exec = Jvm.exec) {pc : Nat} {Ls : Array Slot} {t : FieldType} {v : Value} {rest : List Value} (hret : meth.sig.returnType = some t) (ht : t.isReference = true) (hv : v.isRef = true) (hn : narrow t v = v) (hd : decode c.code pc = .ok (.areturn, 1)) {fs : List Frame}
    (hl : ∀ (f : JFrame) (acts : List Action), f.method = m → f.locked = none → f.entered = [] → (doReturn e (T.setTop f) acts (some v)).1 = T.setFrames fs) : Steps p.tables e below (T.setTop (mkF m pc Ls (v :: rest))) (T.setFrames fs) :=
  retOut X hx hret hn (Or.inr (Or.inr (Or.inr (Or.inr ⟨rfl, ht, hv⟩)))) hd hl
theorem own_ns_exa {Z : State} {h : Heap} {a : Addr} {C : String} (F : Exa Z h a C) : ∃ c : Cell, h[a]? = some c ∧ c.vm.isStatics = false := by
  obtain ⟨c, _, h1, -, -, h4, -⟩ := F; exact ⟨c, h1, h4⟩
theorem own_ns_arv {Z : State} {h : Heap} {a : Addr} {k : ClassId} {ty : FieldType} {z : Int32} {vs : List Value} {dv : Value} (F : Arv Z h a k ty z vs dv) : ∃ c : Cell, h[a]? = some c ∧ c.vm.isStatics = false := by
  obtain ⟨c, A, -⟩ := F; exact ⟨c, A.1, A.plain⟩
theorem own_sta_keep {Z : State} {h h' : Heap} {C n d : String} {v : Value} {ws : List Addr} (F : Sta Z h C n d v) (K : Keep h h' ws) (q : ∀ x ∈ ws, ∃ c : Cell, h[x]? = some c ∧ c.vm.isStatics = false) : Sta Z h' C n d v := by
  obtain ⟨cf, i, k, f, st, cell, h1, h2, h3, h4, h5, h6, h7⟩ := F
  refine ⟨cf, i, k, f, st, cell, h1, h2, h3, h4, K.2.1 st cell h5 (fun m => ?_), h6, h7⟩
  obtain ⟨c, e1, e2⟩ := q st m; cases h5.symm.trans e1; rw [e2] at h6; cases h6
/-- from A the run ends, and then P -/
def OwnGo (tb : Tables) (e : Env) (below : List Frame) (P : Outcome → State → Prop) (A : State) : Prop := ∃ s₂ o, Steps tb e below A s₂ ∧ s₂.status = .running ∧ Ended s₂ below o ∧ P o s₂
theorem OwnGo.of {tb : Tables} {P : Outcome → State → Prop} {A B : State} (k : ∀ t, Steps tb e below B t → Steps tb e below A t) (g : OwnGo tb e below P B) : OwnGo tb e below P A := by
  obtain ⟨s2, o, h1, h2⟩ := g; exact ⟨s2, o, k _ h1, h2⟩
end OwnKit

theorem own_elemL {s : State} {args : Array Value} {t : Term} {a : Addr} {cl : Cell} {j : Int32} {k : Int64} (ev : t.eval args s none [] s = some (.ref a)) (hc : s.heap[a]? = some cl) (h : (Jvm.Cond.eq (.elem t (.int j)) (.long k)).value args s none s [] = some true) : cl.slots[j.toNatClampNeg]? = some (.long k) := by
  have hb : (Term.long k).eval args s none [] s = some (.long k) := rfl
  cases ha : (Term.elem t (.int j)).eval args s none [] s with
  | none => simp [Cond.value, ha] at h
  | some x =>
    have q := (elem_in ha ev rfl hc).2
    cases x <;> simp [Cond.value, ha, hb] at h
    subst h; exact q
theorem own_lenI {s : State} {args : Array Value} {t : Term} {a : Addr} {cl : Cell} {ty : FieldType} {k : Int32} (ev : t.eval args s none [] s = some (.ref a)) (A : Arr s s.heap a cl ty) (h : (Jvm.Cond.eq (.length t) (.int k)).value args s none s [] = some true) : cl.slots.size < 2 ^ 31 ∧ cl.slots.size.toInt32 = k := by
  have hb : (Term.int k).eval args s none [] s = some (.int k) := rfl
  have hA : s.arrayAt? a = some cl := A.fin (Vm.Alike.refl _)
  by_cases hl : cl.slots.size < 2 ^ 31
  · have hf := len_f (o := none) (first := s) (idx := []) ev hA hl
    simp [Cond.value, hf, hb] at h
    exact ⟨hl, h⟩
  · simp [Cond.value, Term.eval, ev, hA, hl] at h

def own_f1 (q0 : Int64) (wT : Addr) (ka : ClassId) : Int32 := (if (lcmpW (q0 &&& (-9187201950435737472 : Int64)) (-9187201950435737600 : Int64)) = (0 : Int32) then (1 : Int32) else (0 : Int32))
theorem pn_0 : plainName "com/example/sevenfold/sevenfold/Natural" = true := by first | (simp [plainName, overriddenIn]; done) | decide +kernel
theorem d1_0 : decode prog_5_method_14_code 0 = .ok (.lload_n 0, 1) := by decide +kernel
theorem d1_1 : decode prog_5_method_14_code 1 = .ok (.ldc2_w 195, 3) := by decide +kernel
theorem d1_4 : decode prog_5_method_14_code 4 = .ok (.land, 1) := by decide +kernel
theorem d1_5 : decode prog_5_method_14_code 5 = .ok (.getstatic 44, 3) := by decide +kernel
theorem d1_8 : decode prog_5_method_14_code 8 = .ok (.bipush 8, 2) := by decide +kernel
theorem d1_10 : decode prog_5_method_14_code 10 = .ok (.laload, 1) := by decide +kernel
theorem d1_11 : decode prog_5_method_14_code 11 = .ok (.lcmp, 1) := by decide +kernel
theorem d1_12 : decode prog_5_method_14_code 12 = .ok (.ifCond .ne 7, 3) := by decide +kernel
theorem d1_15 : decode prog_5_method_14_code 15 = .ok (.iconst 1, 1) := by decide +kernel
theorem d1_16 : decode prog_5_method_14_code 16 = .ok (.goto 4, 3) := by decide +kernel
theorem d1_19 : decode prog_5_method_14_code 19 = .ok (.iconst 0, 1) := by decide +kernel
theorem d1_20 : decode prog_5_method_14_code 20 = .ok (.ireturn, 1) := by decide +kernel
theorem ef_rm1 (m : MethodId) (q0 : Int64) : entryFrame m #[(.long q0)] 2 = mkF m 0 #[.val (.long q0), .second] [] := by first | (simp [entryFrame, mkF, argsToLocals, Value.category]; done) | rfl
def Qrm1 (Z : State) (q0 : Int64) (wT : Addr) (ka : ClassId) (h0 : Heap) (n0 : Nat) (v : Option Value) (h : Heap) (L : List Loc) : Prop := v = some (.int (own_f1 q0 wT ka)) ∧ Fr n0 L ∧ h = h0
set_option maxRecDepth 65536 in
set_option maxHeartbeats 40000000 in
theorem rm1 (l : Launch) (Z : State) (aw : Array Value) (hw : ∀ d ∈ tables_1, d.before aw Z = true) (ws : List Jvm.Cond) (q0 : Int64) (wT : Addr) (ka : ClassId) (h0 : Heap) (n0 : Nat) (Z0 : n0 ≤ h0.size) (S_TOP_BITS : Sta Z h0 "com/example/sevenfold/sevenfold/Natural" "TOP_BITS" "[J" (.ref wT)) (V_T : Arv Z h0 wT ka .long (9 : Int32) [(.long (0 : Int64)), (.long (0 : Int64)), (.long (-9223372036854775808 : Int64)), (.long (-9187343239835811840 : Int64)), (.long (-9187202502347456512 : Int64)), (.long (-9187201952591642624 : Int64)), (.long (-9187201950444158976 : Int64)), (.long (-9187201950435770368 : Int64)), (.long (-9187201950435737600 : Int64))] (.long (0 : Int64))) :
    MetFree l (⟨"com/example/sevenfold/sevenfold/Natural", "isEight", "(J)Z"⟩ : MethodName) (head1 (Jvm.Cond.code (⟨"com/example/sevenfold/sevenfold/Natural", "isEight", "(J)Z"⟩ : MethodName) prog_5_method_14_code 2 (some .boolean) :: ws) ({ frames := 0, cells := 0, slots := 0, locals := 0 } : Room)) (fun a U => a = #[(.long q0)] ∧ Z.Warmed39 U.vm ∧ U.heap = h0) (fun _ _ _ _ _ => True) (fun _ U o U' => ∃ v L, o = .returned v ∧ Qrm1 Z q0 wT ka h0 n0 v U'.heap L ∧ FrameEnd U o U' L ({ frames := 0, cells := 0, slots := 0, locals := 0 } : Room).cells ({ frames := 0, cells := 0, slots := 0, locals := 0 } : Room).slots) := by
  refine MetFree.of_bodySF (plainFor_of_name pn_0) hisR ?_
  intro p e s m args below meth c s₁ Bd hml0 hP hK
  obtain ⟨rfl, hZ, hh⟩ := hP
  have hx := Bd.exec
  have hby := Bd.bytes
  have hml : c.maxLocals = 2 := hml0
  have hown : s.vm.findClass "com/example/sevenfold/sevenfold/Natural" = some m.cls := findClass_of_methodNamed Bd.named
  have hnm := (name_of_methodNamed Bd.named Bd.method).1
  have X0 : Stand p l e ({ frames := 0, cells := 0, slots := 0, locals := 0 } : Room) s m #[(.long q0)] below meth c s₁ [] 0 0 := Stand.of_body Bd
  have e0 : s₁.heap = h0 := by rw [← hh, Bd.state]; rfl
  have N0 := Fr.nil n0
  have hlk := Bd.notSynchronized
  show OwnGo p.tables e below _ (s₁.setTop (entryFrame m #[(.long q0)] 2))
  rw [ef_rm1 m q0]
  show OwnGo p.tables e below _ (s₁.setTop (mkF m 0 #[.val (.long q0), .second] []))
  refine OwnGo.of (A := s₁.setTop (mkF m 0 #[.val (.long q0), .second] [])) (B := s₁.setTop (mkF m 5 #[.val (.long q0), .second] [(.long (q0 &&& (-9187201950435737472 : Int64)))])) (fun t k => ?_) ?_
  · show Steps p.tables e below (s₁.setTop (mkF m 0 #[.val (.long q0), .second] [])) t
    refine XS.lloadN X0.here hx rfl (hb hby d1_0) rfl ?_
    show Steps p.tables e below (s₁.setTop (mkF m 1 #[.val (.long q0), .second] [(.long q0)])) t
    refine X0.ldc2Long hx hown (mvT hZ (hw _ (List.mem_of_getElem? (i := 6) rfl))) (g := (mkF m 1 #[.val (.long q0), .second] [(.long q0)])) rfl (hb hby d1_1) _ ?_
    show Steps p.tables e below (s₁.setTop (mkF m 4 #[.val (.long q0), .second] [(.long (-9187201950435737472 : Int64)), (.long q0)])) t
    refine XS.land X0.here hx rfl (hb hby d1_4) rfl ?_
    exact k
  obtain ⟨T1, X1, e1, st1⟩ := getS2 X0 hx hZ hown (host := "") (Or.inl (hw _ (List.mem_of_getElem? (i := 7) rfl))) Via.refl e0 S_TOP_BITS (g := (mkF m 5 #[.val (.long q0), .second] [(.long (q0 &&& (-9187201950435737472 : Int64)))])) rfl (hb hby d1_5)
  refine OwnGo.of st1 ?_
  show OwnGo p.tables e below _ (T1.setTop (mkF m 8 #[.val (.long q0), .second] [(.ref wT), (.long (q0 &&& (-9187201950435737472 : Int64)))]))
  refine OwnGo.of (A := T1.setTop (mkF m 8 #[.val (.long q0), .second] [(.ref wT), (.long (q0 &&& (-9187201950435737472 : Int64)))])) (B := T1.setTop (mkF m 10 #[.val (.long q0), .second] [(.int (8 : Int32)), (.ref wT), (.long (q0 &&& (-9187201950435737472 : Int64)))])) (fun t k => ?_) ?_
  · show Steps p.tables e below (T1.setTop (mkF m 8 #[.val (.long q0), .second] [(.ref wT), (.long (q0 &&& (-9187201950435737472 : Int64)))])) t
    refine XS.bipush X1.here hx rfl (hb hby d1_8) ?_
    exact k
  obtain ⟨clq2, Arq2, qq2, Sq2, Nq2, Hq2, Gq2⟩ := V_T
  have hinq2 := inb_of (j := (8 : Int32)) Sq2 ⟨by decide, by decide⟩
  refine OwnGo.of (X1.laload hx (j := (8 : Int32)) (v := (.long (-9187201950435737600 : Int64))) (by rw [e1]; exact Arq2.1) (State.isArrayOf_alike hZ.alike Arq2.2.1) Arq2.2.2 hinq2 (Hq2.at hinq2 rfl) (g := (mkF m 10 #[.val (.long q0), .second] [(.int (8 : Int32)), (.ref wT), (.long (q0 &&& (-9187201950435737472 : Int64)))])) rfl rfl (hb hby d1_10)) ?_
  show OwnGo p.tables e below _ (T1.setTop (mkF m 11 #[.val (.long q0), .second] [(.long (-9187201950435737600 : Int64)), (.long (q0 &&& (-9187201950435737472 : Int64)))]))
  refine OwnGo.of (A := T1.setTop (mkF m 11 #[.val (.long q0), .second] [(.long (-9187201950435737600 : Int64)), (.long (q0 &&& (-9187201950435737472 : Int64)))])) (B := T1.setTop (mkF m 12 #[.val (.long q0), .second] [(.int (lcmpW (q0 &&& (-9187201950435737472 : Int64)) (-9187201950435737600 : Int64)))])) (fun t k => ?_) ?_
  · show Steps p.tables e below (T1.setTop (mkF m 11 #[.val (.long q0), .second] [(.long (-9187201950435737600 : Int64)), (.long (q0 &&& (-9187201950435737472 : Int64)))])) t
    refine XS.lcmp X1.here hx rfl (hb hby d1_11) rfl ?_
    exact k
  by_cases hc3 : (lcmpW (q0 &&& (-9187201950435737472 : Int64)) (-9187201950435737600 : Int64)) = (0 : Int32)
  · refine OwnGo.of (A := T1.setTop (mkF m 12 #[.val (.long q0), .second] [(.int (lcmpW (q0 &&& (-9187201950435737472 : Int64)) (-9187201950435737600 : Int64)))])) (B := T1.setTop (mkF m 20 #[.val (.long q0), .second] [(.int (1 : Int32))])) (fun t k => ?_) ?_
    · show Steps p.tables e below (T1.setTop (mkF m 12 #[.val (.long q0), .second] [(.int (lcmpW (q0 &&& (-9187201950435737472 : Int64)) (-9187201950435737600 : Int64)))])) t
      refine XS.ifNo X1.here hx rfl (hb hby d1_12) rfl ((if0 _ _).trans (teq hc3).2) ?_
      show Steps p.tables e below (T1.setTop (mkF m 15 #[.val (.long q0), .second] [])) t
      refine XS.iconst X1.here hx rfl (hb hby d1_15) ?_
      show Steps p.tables e below (T1.setTop (mkF m 16 #[.val (.long q0), .second] [(.int (1 : Int32))])) t
      refine XS.goto X1.here hx rfl (pc0 := 16) (pc' := 20) rfl (hb hby d1_16) (by decide) (by decide) ?_
      exact k
    obtain ⟨fs, hr, hrun, hended, hW, hsame⟩ := X1.leave (v := some (.int (nar .boolean (1 : Int32)))) (fun h => by rw [Bd.returns] at h; cases h) hlk
    refine ⟨_, _, ?_, hrun, hended, _, _, rfl, ?_, ⟨_, rfl⟩, hW, hsame.mono (by decide) (by decide)⟩
    · show Steps p.tables e below (T1.setTop (mkF m 20 #[.val (.long q0), .second] [(.int (1 : Int32))])) _
      exact retN X1 hx (t := .boolean) Bd.returns (by simp) (hb hby d1_20) hr
    · show Qrm1 Z q0 wT ka h0 n0 _ (T1.setFrames fs).heap _
      rw [show (T1.setFrames fs).heap = h0 from e1]
      exact ⟨congrArg (fun z => some (Value.int z)) (by rw [own_f1, if_pos hc3]; try rfl), N0, rfl⟩
  · refine OwnGo.of (A := T1.setTop (mkF m 12 #[.val (.long q0), .second] [(.int (lcmpW (q0 &&& (-9187201950435737472 : Int64)) (-9187201950435737600 : Int64)))])) (B := T1.setTop (mkF m 20 #[.val (.long q0), .second] [(.int (0 : Int32))])) (fun t k => ?_) ?_
    · show Steps p.tables e below (T1.setTop (mkF m 12 #[.val (.long q0), .second] [(.int (lcmpW (q0 &&& (-9187201950435737472 : Int64)) (-9187201950435737600 : Int64)))])) t
      refine XS.ifYes X1.here hx rfl (pc0 := 12) (pc' := 19) rfl (hb hby d1_12) rfl ((if0 _ _).trans (feq hc3).2) (by decide) (by decide) ?_
      show Steps p.tables e below (T1.setTop (mkF m 19 #[.val (.long q0), .second] [])) t
      refine XS.iconst X1.here hx rfl (hb hby d1_19) ?_
      exact k
    obtain ⟨fs, hr, hrun, hended, hW, hsame⟩ := X1.leave (v := some (.int (nar .boolean (0 : Int32)))) (fun h => by rw [Bd.returns] at h; cases h) hlk
    refine ⟨_, _, ?_, hrun, hended, _, _, rfl, ?_, ⟨_, rfl⟩, hW, hsame.mono (by decide) (by decide)⟩
    · show Steps p.tables e below (T1.setTop (mkF m 20 #[.val (.long q0), .second] [(.int (0 : Int32))])) _
      exact retN X1 hx (t := .boolean) Bd.returns (by simp) (hb hby d1_20) hr
    · show Qrm1 Z q0 wT ka h0 n0 _ (T1.setFrames fs).heap _
      rw [show (T1.setFrames fs).heap = h0 from e1]
      exact ⟨congrArg (fun z => some (Value.int z)) (by rw [own_f1, if_neg hc3]; try rfl), N0, rfl⟩

theorem own_nat (e : Int64) : e.toInt % 18446744073709551616 = (e.toBitVec.toNat : Int) := by
  rw [← Int64.toInt_toBitVec, BitVec.toInt_eq_toNat_cond]
  have := e.toBitVec.isLt
  split <;> omega
theorem own_bit (e : Int64) (n : Nat) : e.toBitVec.getLsbD n = true ↔ e.toBitVec.toNat / 2 ^ n % 2 = 1 := by
  rw [BitVec.getLsbD, Nat.testBit_eq_decide_div_mod_eq, decide_eq_true_iff]
theorem own_mask (x : BitVec 64) : x &&& 0x8080808080808080#64 = 0x8080808080808000#64 ↔ (x.getLsbD 63 = true ∧ x.getLsbD 55 = true ∧ x.getLsbD 47 = true ∧ x.getLsbD 39 = true ∧ x.getLsbD 31 = true ∧ x.getLsbD 23 = true ∧ x.getLsbD 15 = true ∧ ¬ x.getLsbD 7 = true) := by
  constructor
  · intro h
    have g : ∀ i, (x &&& 0x8080808080808080#64).getLsbD i = (0x8080808080808000#64).getLsbD i := fun i => by rw [h]
    simp only [BitVec.getLsbD_and] at g
    refine ⟨?_, ?_, ?_, ?_, ?_, ?_, ?_, ?_⟩
    · have q := g 63
      rw [show (0x8080808080808080#64).getLsbD 63 = true from by decide, show (0x8080808080808000#64).getLsbD 63 = true from by decide, Bool.and_true] at q
      exact q
    · have q := g 55
      rw [show (0x8080808080808080#64).getLsbD 55 = true from by decide, show (0x8080808080808000#64).getLsbD 55 = true from by decide, Bool.and_true] at q
      exact q
    · have q := g 47
      rw [show (0x8080808080808080#64).getLsbD 47 = true from by decide, show (0x8080808080808000#64).getLsbD 47 = true from by decide, Bool.and_true] at q
      exact q
    · have q := g 39
      rw [show (0x8080808080808080#64).getLsbD 39 = true from by decide, show (0x8080808080808000#64).getLsbD 39 = true from by decide, Bool.and_true] at q
      exact q
    · have q := g 31
      rw [show (0x8080808080808080#64).getLsbD 31 = true from by decide, show (0x8080808080808000#64).getLsbD 31 = true from by decide, Bool.and_true] at q
      exact q
    · have q := g 23
      rw [show (0x8080808080808080#64).getLsbD 23 = true from by decide, show (0x8080808080808000#64).getLsbD 23 = true from by decide, Bool.and_true] at q
      exact q
    · have q := g 15
      rw [show (0x8080808080808080#64).getLsbD 15 = true from by decide, show (0x8080808080808000#64).getLsbD 15 = true from by decide, Bool.and_true] at q
      exact q
    · have q := g 7
      rw [show (0x8080808080808080#64).getLsbD 7 = true from by decide, show (0x8080808080808000#64).getLsbD 7 = false from by decide, Bool.and_true] at q
      rw [q]; decide
  · rintro ⟨h63, h55, h47, h39, h31, h23, h15, h7⟩
    apply BitVec.eq_of_getLsbD_eq
    intro i hi
    rw [BitVec.getLsbD_and]
    have key : ∀ i : Fin 64, ((0x8080808080808080#64).getLsbD i.1 = false ∧ (0x8080808080808000#64).getLsbD i.1 = false) ∨ i.1 = 63 ∨ i.1 = 55 ∨ i.1 = 47 ∨ i.1 = 39 ∨ i.1 = 31 ∨ i.1 = 23 ∨ i.1 = 15 ∨ i.1 = 7 := by decide
    have h7' : x.getLsbD 7 = false := by simpa using h7
    rcases key ⟨i, hi⟩ with ⟨a, b⟩ | e | e | e | e | e | e | e | e
    · dsimp only at a b; rw [a, b, Bool.and_false]
    all_goals (dsimp only at e; subst e; first | (rw [h63]; decide) | (rw [h55]; decide) | (rw [h47]; decide) | (rw [h39]; decide) | (rw [h31]; decide) | (rw [h23]; decide) | (rw [h15]; decide) | (rw [h7']; decide))

theorem own_by56 (e : Int64) : (((e.toUInt64 >>> ((56 : Int32) &&& 0x3f).toInt64.toUInt64).toInt64).toInt32).toInt8.toInt32 < (0 : Int32) ↔ e.toBitVec.getLsbD 63 = true := by
  rw [own_bit, Int32.lt_iff_toInt_lt, show (0 : Int32).toInt = 0 from by decide]
  have h0 := own_nat e
  have h1 := c_lushr e 56 56 (by decide) (by decide)
  rw [h0] at h1
  have h2 := c_l2i ((e.toUInt64 >>> ((56 : Int32) &&& 0x3f).toInt64.toUInt64).toInt64)
  have h3 := c_i2b (((e.toUInt64 >>> ((56 : Int32) &&& 0x3f).toInt64.toUInt64).toInt64).toInt32)
  generalize e.toBitVec.toNat = n at *
  simp only [Nat.reducePow] at *
  omega
theorem own_by48 (e : Int64) : (((e.toUInt64 >>> ((48 : Int32) &&& 0x3f).toInt64.toUInt64).toInt64).toInt32).toInt8.toInt32 < (0 : Int32) ↔ e.toBitVec.getLsbD 55 = true := by
  rw [own_bit, Int32.lt_iff_toInt_lt, show (0 : Int32).toInt = 0 from by decide]
  have h0 := own_nat e
  have h1 := c_lushr e 48 48 (by decide) (by decide)
  rw [h0] at h1
  have h2 := c_l2i ((e.toUInt64 >>> ((48 : Int32) &&& 0x3f).toInt64.toUInt64).toInt64)
  have h3 := c_i2b (((e.toUInt64 >>> ((48 : Int32) &&& 0x3f).toInt64.toUInt64).toInt64).toInt32)
  generalize e.toBitVec.toNat = n at *
  simp only [Nat.reducePow] at *
  omega
theorem own_by40 (e : Int64) : (((e.toUInt64 >>> ((40 : Int32) &&& 0x3f).toInt64.toUInt64).toInt64).toInt32).toInt8.toInt32 < (0 : Int32) ↔ e.toBitVec.getLsbD 47 = true := by
  rw [own_bit, Int32.lt_iff_toInt_lt, show (0 : Int32).toInt = 0 from by decide]
  have h0 := own_nat e
  have h1 := c_lushr e 40 40 (by decide) (by decide)
  rw [h0] at h1
  have h2 := c_l2i ((e.toUInt64 >>> ((40 : Int32) &&& 0x3f).toInt64.toUInt64).toInt64)
  have h3 := c_i2b (((e.toUInt64 >>> ((40 : Int32) &&& 0x3f).toInt64.toUInt64).toInt64).toInt32)
  generalize e.toBitVec.toNat = n at *
  simp only [Nat.reducePow] at *
  omega
theorem own_by32 (e : Int64) : (((e.toUInt64 >>> ((32 : Int32) &&& 0x3f).toInt64.toUInt64).toInt64).toInt32).toInt8.toInt32 < (0 : Int32) ↔ e.toBitVec.getLsbD 39 = true := by
  rw [own_bit, Int32.lt_iff_toInt_lt, show (0 : Int32).toInt = 0 from by decide]
  have h0 := own_nat e
  have h1 := c_lushr e 32 32 (by decide) (by decide)
  rw [h0] at h1
  have h2 := c_l2i ((e.toUInt64 >>> ((32 : Int32) &&& 0x3f).toInt64.toUInt64).toInt64)
  have h3 := c_i2b (((e.toUInt64 >>> ((32 : Int32) &&& 0x3f).toInt64.toUInt64).toInt64).toInt32)
  generalize e.toBitVec.toNat = n at *
  simp only [Nat.reducePow] at *
  omega
theorem own_by24 (e : Int64) : (((e.toUInt64 >>> ((24 : Int32) &&& 0x3f).toInt64.toUInt64).toInt64).toInt32).toInt8.toInt32 < (0 : Int32) ↔ e.toBitVec.getLsbD 31 = true := by
  rw [own_bit, Int32.lt_iff_toInt_lt, show (0 : Int32).toInt = 0 from by decide]
  have h0 := own_nat e
  have h1 := c_lushr e 24 24 (by decide) (by decide)
  rw [h0] at h1
  have h2 := c_l2i ((e.toUInt64 >>> ((24 : Int32) &&& 0x3f).toInt64.toUInt64).toInt64)
  have h3 := c_i2b (((e.toUInt64 >>> ((24 : Int32) &&& 0x3f).toInt64.toUInt64).toInt64).toInt32)
  generalize e.toBitVec.toNat = n at *
  simp only [Nat.reducePow] at *
  omega
theorem own_by16 (e : Int64) : (((e.toUInt64 >>> ((16 : Int32) &&& 0x3f).toInt64.toUInt64).toInt64).toInt32).toInt8.toInt32 < (0 : Int32) ↔ e.toBitVec.getLsbD 23 = true := by
  rw [own_bit, Int32.lt_iff_toInt_lt, show (0 : Int32).toInt = 0 from by decide]
  have h0 := own_nat e
  have h1 := c_lushr e 16 16 (by decide) (by decide)
  rw [h0] at h1
  have h2 := c_l2i ((e.toUInt64 >>> ((16 : Int32) &&& 0x3f).toInt64.toUInt64).toInt64)
  have h3 := c_i2b (((e.toUInt64 >>> ((16 : Int32) &&& 0x3f).toInt64.toUInt64).toInt64).toInt32)
  generalize e.toBitVec.toNat = n at *
  simp only [Nat.reducePow] at *
  omega
theorem own_by8 (e : Int64) : (((e.toUInt64 >>> ((8 : Int32) &&& 0x3f).toInt64.toUInt64).toInt64).toInt32).toInt8.toInt32 < (0 : Int32) ↔ e.toBitVec.getLsbD 15 = true := by
  rw [own_bit, Int32.lt_iff_toInt_lt, show (0 : Int32).toInt = 0 from by decide]
  have h0 := own_nat e
  have h1 := c_lushr e 8 8 (by decide) (by decide)
  rw [h0] at h1
  have h2 := c_l2i ((e.toUInt64 >>> ((8 : Int32) &&& 0x3f).toInt64.toUInt64).toInt64)
  have h3 := c_i2b (((e.toUInt64 >>> ((8 : Int32) &&& 0x3f).toInt64.toUInt64).toInt64).toInt32)
  generalize e.toBitVec.toNat = n at *
  simp only [Nat.reducePow] at *
  omega
theorem own_by0 (e : Int64) : (e.toInt32).toInt8.toInt32 < (0 : Int32) ↔ e.toBitVec.getLsbD 7 = true := by
  rw [own_bit, Int32.lt_iff_toInt_lt, show (0 : Int32).toInt = 0 from by decide]
  have h0 := own_nat e
  have h2 := c_l2i e
  have h3 := c_i2b (e.toInt32)
  generalize e.toBitVec.toNat = n at *
  simp only [Nat.reducePow] at *
  omega
theorem own_f1_eq (e : Int64) (w : Addr) (ka : ClassId) : own_f1 e w ka = if ((((e.toUInt64 >>> ((56 : Int32) &&& 0x3f).toInt64.toUInt64).toInt64).toInt32).toInt8.toInt32 < (0 : Int32) ∧ (((e.toUInt64 >>> ((48 : Int32) &&& 0x3f).toInt64.toUInt64).toInt64).toInt32).toInt8.toInt32 < (0 : Int32) ∧ (((e.toUInt64 >>> ((40 : Int32) &&& 0x3f).toInt64.toUInt64).toInt64).toInt32).toInt8.toInt32 < (0 : Int32) ∧ (((e.toUInt64 >>> ((32 : Int32) &&& 0x3f).toInt64.toUInt64).toInt64).toInt32).toInt8.toInt32 < (0 : Int32) ∧ (((e.toUInt64 >>> ((24 : Int32) &&& 0x3f).toInt64.toUInt64).toInt64).toInt32).toInt8.toInt32 < (0 : Int32) ∧ (((e.toUInt64 >>> ((16 : Int32) &&& 0x3f).toInt64.toUInt64).toInt64).toInt32).toInt8.toInt32 < (0 : Int32) ∧ (((e.toUInt64 >>> ((8 : Int32) &&& 0x3f).toInt64.toUInt64).toInt64).toInt32).toInt8.toInt32 < (0 : Int32) ∧ ¬ (e.toInt32).toInt8.toInt32 < (0 : Int32)) then 1 else 0 := by
  have k1 : lcmpW (e &&& (-9187201950435737472 : Int64)) (-9187201950435737600 : Int64) = 0 ↔ (e.toBitVec.getLsbD 63 = true ∧ e.toBitVec.getLsbD 55 = true ∧ e.toBitVec.getLsbD 47 = true ∧ e.toBitVec.getLsbD 39 = true ∧ e.toBitVec.getLsbD 31 = true ∧ e.toBitVec.getLsbD 23 = true ∧ e.toBitVec.getLsbD 15 = true ∧ ¬ e.toBitVec.getLsbD 7 = true) := by
    rw [lw_eq, ← own_mask, ← Int64.toBitVec_inj, Int64.toBitVec_and]
    exact Iff.rfl
  unfold own_f1
  simp only [k1, own_by56, own_by48, own_by40, own_by32, own_by24, own_by16, own_by8]
  simp only [own_by0 e]
theorem pd_1 : parseMethodDescriptor "(J)Z" = some ⟨[.long], some .boolean⟩ := by decide +kernel
theorem pn_2 : plainName "com/example/sevenfold/sevenfold/NaturalIsEightPinLaw" = true := by first | (simp [plainName, overriddenIn]; done) | decide +kernel
theorem ef_rm0 (m : MethodId) (q0 : Int64) (p1 : Int32) : entryFrame m #[(.long q0), (.int p1)] maxLocals = mkF m 0 #[.val (.long q0), .second, .val (.int p1), .unset, .unset, .unset, .unset, .unset, .unset, .unset, .unset, .unset, .unset, .unset, .unset, .unset] [] := by first | (simp [entryFrame, mkF, argsToLocals, Value.category, maxLocals]; done) | rfl
def Qrm0 (Z : State) (q0 : Int64) (p1 : Int32) (wT : Addr) (ka : ClassId) (h0 : Heap) (n0 : Nat) (v : Option Value) (h : Heap) (L : List Loc) : Prop := v = some (.int 1) ∧ Fr n0 L
set_option maxRecDepth 65536 in
set_option maxHeartbeats 40000000 in
theorem rm0 (l : Launch) (Z : State) (aw : Array Value) (hw : ∀ d ∈ tables_1, d.before aw Z = true) (ws : List Jvm.Cond) (q0 : Int64) (p1 : Int32) (wT : Addr) (ka : ClassId) (h0 : Heap) (n0 : Nat) (Z0 : n0 ≤ h0.size) (S_TOP_BITS : Sta Z h0 "com/example/sevenfold/sevenfold/Natural" "TOP_BITS" "[J" (.ref wT)) (V_T : Arv Z h0 wT ka .long (9 : Int32) [(.long (0 : Int64)), (.long (0 : Int64)), (.long (-9223372036854775808 : Int64)), (.long (-9187343239835811840 : Int64)), (.long (-9187202502347456512 : Int64)), (.long (-9187201952591642624 : Int64)), (.long (-9187201950444158976 : Int64)), (.long (-9187201950435770368 : Int64)), (.long (-9187201950435737600 : Int64))] (.long (0 : Int64))) :
    MetFree l x (head1 (Jvm.Cond.code x code maxLocals ret :: ws) room_1) (fun a U => a = #[(.long q0), (.int p1)] ∧ Z.Warmed39 U.vm ∧ U.heap = h0) (fun _ _ _ _ _ => True) (fun _ U o U' => ∃ v L, o = .returned v ∧ Qrm0 Z q0 p1 wT ka h0 n0 v U'.heap L ∧ FrameEnd U o U' L room_1.cells room_1.slots) := by
  refine MetFree.of_bodySF (plainFor_of_name pn_2) hisR ?_
  intro p e s m args below meth c s₁ Bd hml0 hP hK
  obtain ⟨rfl, hZ, hh⟩ := hP
  have hx := Bd.exec
  have hby := Bd.bytes
  have hml : c.maxLocals = 16 := hml0
  have hown : s.vm.findClass "com/example/sevenfold/sevenfold/NaturalIsEightPinLaw" = some m.cls := findClass_of_methodNamed Bd.named
  have hnm := (name_of_methodNamed Bd.named Bd.method).1
  have X0 : Stand p l e room_1 s m #[(.long q0), (.int p1)] below meth c s₁ [] 0 0 := Stand.of_body Bd
  have e0 : s₁.heap = h0 := by rw [← hh, Bd.state]; rfl
  have N0 := Fr.nil n0
  have hlk := Bd.notSynchronized
  show OwnGo p.tables e below _ (s₁.setTop (entryFrame m #[(.long q0), (.int p1)] maxLocals))
  rw [ef_rm0 m q0 p1]
  have J63 : ∀ (e1 : Int64) (m1 : Int32) (sl : Slot) (hsl : One sl), OwnGo p.tables e below (fun o U' => ∃ v L, o = .returned v ∧ Qrm0 Z q0 p1 wT ka h0 n0 v U'.heap L ∧ FrameEnd s o U' L room_1.cells room_1.slots) (s₁.setTop (mkF m 63 #[.val (.long q0), .second, .val (.int p1), .val (.long e1), .second, .val (.int m1), sl, .unset, .unset, .unset, .unset, .unset, .unset, .unset, .unset, .unset] [])) := by
    intro e1 m1 sl hsl
    show OwnGo p.tables e below _ (s₁.setTop (mkF m 63 #[.val (.long q0), .second, .val (.int p1), .val (.long e1), .second, .val (.int m1), sl, .unset, .unset, .unset, .unset, .unset, .unset, .unset, .unset, .unset] []))
    refine OwnGo.of (A := s₁.setTop (mkF m 63 #[.val (.long q0), .second, .val (.int p1), .val (.long e1), .second, .val (.int m1), sl, .unset, .unset, .unset, .unset, .unset, .unset, .unset, .unset, .unset] [])) (B := s₁.setTop (mkF m 71 #[.val (.long q0), .second, .val (.int p1), .val (.long e1), .second, .val (.int m1), .val (.int ((((e1.toUInt64 >>> ((56 : Int32) &&& 0x3f).toInt64.toUInt64).toInt64).toInt32).toInt8.toInt32)), .unset, .unset, .unset, .unset, .unset, .unset, .unset, .unset, .unset] [])) (fun t k => ?_) ?_
    · show Steps p.tables e below (s₁.setTop (mkF m 63 #[.val (.long q0), .second, .val (.int p1), .val (.long e1), .second, .val (.int m1), sl, .unset, .unset, .unset, .unset, .unset, .unset, .unset, .unset, .unset] [])) t
      refine XS.lloadN X0.here hx rfl (hb hby at_63) rfl ?_
      show Steps p.tables e below (s₁.setTop (mkF m 64 #[.val (.long q0), .second, .val (.int p1), .val (.long e1), .second, .val (.int m1), sl, .unset, .unset, .unset, .unset, .unset, .unset, .unset, .unset, .unset] [(.long e1)])) t
      refine XS.bipush X0.here hx rfl (hb hby at_64) ?_
      show Steps p.tables e below (s₁.setTop (mkF m 66 #[.val (.long q0), .second, .val (.int p1), .val (.long e1), .second, .val (.int m1), sl, .unset, .unset, .unset, .unset, .unset, .unset, .unset, .unset, .unset] [(.int (56 : Int32)), (.long e1)])) t
      refine XS.lushr X0.here hx rfl (hb hby at_66) rfl ?_
      show Steps p.tables e below (s₁.setTop (mkF m 67 #[.val (.long q0), .second, .val (.int p1), .val (.long e1), .second, .val (.int m1), sl, .unset, .unset, .unset, .unset, .unset, .unset, .unset, .unset, .unset] [(.long ((e1.toUInt64 >>> ((56 : Int32) &&& 0x3f).toInt64.toUInt64).toInt64))])) t
      refine XS.l2i X0.here hx rfl (hb hby at_67) rfl ?_
      show Steps p.tables e below (s₁.setTop (mkF m 68 #[.val (.long q0), .second, .val (.int p1), .val (.long e1), .second, .val (.int m1), sl, .unset, .unset, .unset, .unset, .unset, .unset, .unset, .unset, .unset] [(.int (((e1.toUInt64 >>> ((56 : Int32) &&& 0x3f).toInt64.toUInt64).toInt64).toInt32))])) t
      refine XS.i2b X0.here hx rfl (hb hby at_68) rfl ?_
      show Steps p.tables e below (s₁.setTop (mkF m 69 #[.val (.long q0), .second, .val (.int p1), .val (.long e1), .second, .val (.int m1), sl, .unset, .unset, .unset, .unset, .unset, .unset, .unset, .unset, .unset] [(.int ((((e1.toUInt64 >>> ((56 : Int32) &&& 0x3f).toInt64.toUInt64).toInt64).toInt32).toInt8.toInt32))])) t
      refine XS.istoreS X0.here hx rfl (hb hby at_69) rfl rfl hsl ?_
      exact k
    generalize hb0 : ((((e1.toUInt64 >>> ((56 : Int32) &&& 0x3f).toInt64.toUInt64).toInt64).toInt32).toInt8.toInt32) = b0
    show OwnGo p.tables e below _ (s₁.setTop (mkF m 71 #[.val (.long q0), .second, .val (.int p1), .val (.long e1), .second, .val (.int m1), .val (.int b0), .unset, .unset, .unset, .unset, .unset, .unset, .unset, .unset, .unset] []))
    refine OwnGo.of (A := s₁.setTop (mkF m 71 #[.val (.long q0), .second, .val (.int p1), .val (.long e1), .second, .val (.int m1), .val (.int b0), .unset, .unset, .unset, .unset, .unset, .unset, .unset, .unset, .unset] [])) (B := s₁.setTop (mkF m 79 #[.val (.long q0), .second, .val (.int p1), .val (.long e1), .second, .val (.int m1), .val (.int b0), .val (.int ((((e1.toUInt64 >>> ((48 : Int32) &&& 0x3f).toInt64.toUInt64).toInt64).toInt32).toInt8.toInt32)), .unset, .unset, .unset, .unset, .unset, .unset, .unset, .unset] [])) (fun t k => ?_) ?_
    · show Steps p.tables e below (s₁.setTop (mkF m 71 #[.val (.long q0), .second, .val (.int p1), .val (.long e1), .second, .val (.int m1), .val (.int b0), .unset, .unset, .unset, .unset, .unset, .unset, .unset, .unset, .unset] [])) t
      refine XS.lloadN X0.here hx rfl (hb hby at_71) rfl ?_
      show Steps p.tables e below (s₁.setTop (mkF m 72 #[.val (.long q0), .second, .val (.int p1), .val (.long e1), .second, .val (.int m1), .val (.int b0), .unset, .unset, .unset, .unset, .unset, .unset, .unset, .unset, .unset] [(.long e1)])) t
      refine XS.bipush X0.here hx rfl (hb hby at_72) ?_
      show Steps p.tables e below (s₁.setTop (mkF m 74 #[.val (.long q0), .second, .val (.int p1), .val (.long e1), .second, .val (.int m1), .val (.int b0), .unset, .unset, .unset, .unset, .unset, .unset, .unset, .unset, .unset] [(.int (48 : Int32)), (.long e1)])) t
      refine XS.lushr X0.here hx rfl (hb hby at_74) rfl ?_
      show Steps p.tables e below (s₁.setTop (mkF m 75 #[.val (.long q0), .second, .val (.int p1), .val (.long e1), .second, .val (.int m1), .val (.int b0), .unset, .unset, .unset, .unset, .unset, .unset, .unset, .unset, .unset] [(.long ((e1.toUInt64 >>> ((48 : Int32) &&& 0x3f).toInt64.toUInt64).toInt64))])) t
      refine XS.l2i X0.here hx rfl (hb hby at_75) rfl ?_
      show Steps p.tables e below (s₁.setTop (mkF m 76 #[.val (.long q0), .second, .val (.int p1), .val (.long e1), .second, .val (.int m1), .val (.int b0), .unset, .unset, .unset, .unset, .unset, .unset, .unset, .unset, .unset] [(.int (((e1.toUInt64 >>> ((48 : Int32) &&& 0x3f).toInt64.toUInt64).toInt64).toInt32))])) t
      refine XS.i2b X0.here hx rfl (hb hby at_76) rfl ?_
      show Steps p.tables e below (s₁.setTop (mkF m 77 #[.val (.long q0), .second, .val (.int p1), .val (.long e1), .second, .val (.int m1), .val (.int b0), .unset, .unset, .unset, .unset, .unset, .unset, .unset, .unset, .unset] [(.int ((((e1.toUInt64 >>> ((48 : Int32) &&& 0x3f).toInt64.toUInt64).toInt64).toInt32).toInt8.toInt32))])) t
      refine XS.istore X0.here hx rfl (hb hby at_77) rfl (l' := #[.val (.long q0), .second, .val (.int p1), .val (.long e1), .second, .val (.int m1), .val (.int b0), .val (.int ((((e1.toUInt64 >>> ((48 : Int32) &&& 0x3f).toInt64.toUInt64).toInt64).toInt32).toInt8.toInt32)), .unset, .unset, .unset, .unset, .unset, .unset, .unset, .unset]) rfl ?_
      exact k
    generalize hb1 : ((((e1.toUInt64 >>> ((48 : Int32) &&& 0x3f).toInt64.toUInt64).toInt64).toInt32).toInt8.toInt32) = b1
    show OwnGo p.tables e below _ (s₁.setTop (mkF m 79 #[.val (.long q0), .second, .val (.int p1), .val (.long e1), .second, .val (.int m1), .val (.int b0), .val (.int b1), .unset, .unset, .unset, .unset, .unset, .unset, .unset, .unset] []))
    refine OwnGo.of (A := s₁.setTop (mkF m 79 #[.val (.long q0), .second, .val (.int p1), .val (.long e1), .second, .val (.int m1), .val (.int b0), .val (.int b1), .unset, .unset, .unset, .unset, .unset, .unset, .unset, .unset] [])) (B := s₁.setTop (mkF m 87 #[.val (.long q0), .second, .val (.int p1), .val (.long e1), .second, .val (.int m1), .val (.int b0), .val (.int b1), .val (.int ((((e1.toUInt64 >>> ((40 : Int32) &&& 0x3f).toInt64.toUInt64).toInt64).toInt32).toInt8.toInt32)), .unset, .unset, .unset, .unset, .unset, .unset, .unset] [])) (fun t k => ?_) ?_
    · show Steps p.tables e below (s₁.setTop (mkF m 79 #[.val (.long q0), .second, .val (.int p1), .val (.long e1), .second, .val (.int m1), .val (.int b0), .val (.int b1), .unset, .unset, .unset, .unset, .unset, .unset, .unset, .unset] [])) t
      refine XS.lloadN X0.here hx rfl (hb hby at_79) rfl ?_
      show Steps p.tables e below (s₁.setTop (mkF m 80 #[.val (.long q0), .second, .val (.int p1), .val (.long e1), .second, .val (.int m1), .val (.int b0), .val (.int b1), .unset, .unset, .unset, .unset, .unset, .unset, .unset, .unset] [(.long e1)])) t
      refine XS.bipush X0.here hx rfl (hb hby at_80) ?_
      show Steps p.tables e below (s₁.setTop (mkF m 82 #[.val (.long q0), .second, .val (.int p1), .val (.long e1), .second, .val (.int m1), .val (.int b0), .val (.int b1), .unset, .unset, .unset, .unset, .unset, .unset, .unset, .unset] [(.int (40 : Int32)), (.long e1)])) t
      refine XS.lushr X0.here hx rfl (hb hby at_82) rfl ?_
      show Steps p.tables e below (s₁.setTop (mkF m 83 #[.val (.long q0), .second, .val (.int p1), .val (.long e1), .second, .val (.int m1), .val (.int b0), .val (.int b1), .unset, .unset, .unset, .unset, .unset, .unset, .unset, .unset] [(.long ((e1.toUInt64 >>> ((40 : Int32) &&& 0x3f).toInt64.toUInt64).toInt64))])) t
      refine XS.l2i X0.here hx rfl (hb hby at_83) rfl ?_
      show Steps p.tables e below (s₁.setTop (mkF m 84 #[.val (.long q0), .second, .val (.int p1), .val (.long e1), .second, .val (.int m1), .val (.int b0), .val (.int b1), .unset, .unset, .unset, .unset, .unset, .unset, .unset, .unset] [(.int (((e1.toUInt64 >>> ((40 : Int32) &&& 0x3f).toInt64.toUInt64).toInt64).toInt32))])) t
      refine XS.i2b X0.here hx rfl (hb hby at_84) rfl ?_
      show Steps p.tables e below (s₁.setTop (mkF m 85 #[.val (.long q0), .second, .val (.int p1), .val (.long e1), .second, .val (.int m1), .val (.int b0), .val (.int b1), .unset, .unset, .unset, .unset, .unset, .unset, .unset, .unset] [(.int ((((e1.toUInt64 >>> ((40 : Int32) &&& 0x3f).toInt64.toUInt64).toInt64).toInt32).toInt8.toInt32))])) t
      refine XS.istore X0.here hx rfl (hb hby at_85) rfl (l' := #[.val (.long q0), .second, .val (.int p1), .val (.long e1), .second, .val (.int m1), .val (.int b0), .val (.int b1), .val (.int ((((e1.toUInt64 >>> ((40 : Int32) &&& 0x3f).toInt64.toUInt64).toInt64).toInt32).toInt8.toInt32)), .unset, .unset, .unset, .unset, .unset, .unset, .unset]) rfl ?_
      exact k
    generalize hb2 : ((((e1.toUInt64 >>> ((40 : Int32) &&& 0x3f).toInt64.toUInt64).toInt64).toInt32).toInt8.toInt32) = b2
    show OwnGo p.tables e below _ (s₁.setTop (mkF m 87 #[.val (.long q0), .second, .val (.int p1), .val (.long e1), .second, .val (.int m1), .val (.int b0), .val (.int b1), .val (.int b2), .unset, .unset, .unset, .unset, .unset, .unset, .unset] []))
    refine OwnGo.of (A := s₁.setTop (mkF m 87 #[.val (.long q0), .second, .val (.int p1), .val (.long e1), .second, .val (.int m1), .val (.int b0), .val (.int b1), .val (.int b2), .unset, .unset, .unset, .unset, .unset, .unset, .unset] [])) (B := s₁.setTop (mkF m 95 #[.val (.long q0), .second, .val (.int p1), .val (.long e1), .second, .val (.int m1), .val (.int b0), .val (.int b1), .val (.int b2), .val (.int ((((e1.toUInt64 >>> ((32 : Int32) &&& 0x3f).toInt64.toUInt64).toInt64).toInt32).toInt8.toInt32)), .unset, .unset, .unset, .unset, .unset, .unset] [])) (fun t k => ?_) ?_
    · show Steps p.tables e below (s₁.setTop (mkF m 87 #[.val (.long q0), .second, .val (.int p1), .val (.long e1), .second, .val (.int m1), .val (.int b0), .val (.int b1), .val (.int b2), .unset, .unset, .unset, .unset, .unset, .unset, .unset] [])) t
      refine XS.lloadN X0.here hx rfl (hb hby at_87) rfl ?_
      show Steps p.tables e below (s₁.setTop (mkF m 88 #[.val (.long q0), .second, .val (.int p1), .val (.long e1), .second, .val (.int m1), .val (.int b0), .val (.int b1), .val (.int b2), .unset, .unset, .unset, .unset, .unset, .unset, .unset] [(.long e1)])) t
      refine XS.bipush X0.here hx rfl (hb hby at_88) ?_
      show Steps p.tables e below (s₁.setTop (mkF m 90 #[.val (.long q0), .second, .val (.int p1), .val (.long e1), .second, .val (.int m1), .val (.int b0), .val (.int b1), .val (.int b2), .unset, .unset, .unset, .unset, .unset, .unset, .unset] [(.int (32 : Int32)), (.long e1)])) t
      refine XS.lushr X0.here hx rfl (hb hby at_90) rfl ?_
      show Steps p.tables e below (s₁.setTop (mkF m 91 #[.val (.long q0), .second, .val (.int p1), .val (.long e1), .second, .val (.int m1), .val (.int b0), .val (.int b1), .val (.int b2), .unset, .unset, .unset, .unset, .unset, .unset, .unset] [(.long ((e1.toUInt64 >>> ((32 : Int32) &&& 0x3f).toInt64.toUInt64).toInt64))])) t
      refine XS.l2i X0.here hx rfl (hb hby at_91) rfl ?_
      show Steps p.tables e below (s₁.setTop (mkF m 92 #[.val (.long q0), .second, .val (.int p1), .val (.long e1), .second, .val (.int m1), .val (.int b0), .val (.int b1), .val (.int b2), .unset, .unset, .unset, .unset, .unset, .unset, .unset] [(.int (((e1.toUInt64 >>> ((32 : Int32) &&& 0x3f).toInt64.toUInt64).toInt64).toInt32))])) t
      refine XS.i2b X0.here hx rfl (hb hby at_92) rfl ?_
      show Steps p.tables e below (s₁.setTop (mkF m 93 #[.val (.long q0), .second, .val (.int p1), .val (.long e1), .second, .val (.int m1), .val (.int b0), .val (.int b1), .val (.int b2), .unset, .unset, .unset, .unset, .unset, .unset, .unset] [(.int ((((e1.toUInt64 >>> ((32 : Int32) &&& 0x3f).toInt64.toUInt64).toInt64).toInt32).toInt8.toInt32))])) t
      refine XS.istore X0.here hx rfl (hb hby at_93) rfl (l' := #[.val (.long q0), .second, .val (.int p1), .val (.long e1), .second, .val (.int m1), .val (.int b0), .val (.int b1), .val (.int b2), .val (.int ((((e1.toUInt64 >>> ((32 : Int32) &&& 0x3f).toInt64.toUInt64).toInt64).toInt32).toInt8.toInt32)), .unset, .unset, .unset, .unset, .unset, .unset]) rfl ?_
      exact k
    generalize hb3 : ((((e1.toUInt64 >>> ((32 : Int32) &&& 0x3f).toInt64.toUInt64).toInt64).toInt32).toInt8.toInt32) = b3
    show OwnGo p.tables e below _ (s₁.setTop (mkF m 95 #[.val (.long q0), .second, .val (.int p1), .val (.long e1), .second, .val (.int m1), .val (.int b0), .val (.int b1), .val (.int b2), .val (.int b3), .unset, .unset, .unset, .unset, .unset, .unset] []))
    refine OwnGo.of (A := s₁.setTop (mkF m 95 #[.val (.long q0), .second, .val (.int p1), .val (.long e1), .second, .val (.int m1), .val (.int b0), .val (.int b1), .val (.int b2), .val (.int b3), .unset, .unset, .unset, .unset, .unset, .unset] [])) (B := s₁.setTop (mkF m 103 #[.val (.long q0), .second, .val (.int p1), .val (.long e1), .second, .val (.int m1), .val (.int b0), .val (.int b1), .val (.int b2), .val (.int b3), .val (.int ((((e1.toUInt64 >>> ((24 : Int32) &&& 0x3f).toInt64.toUInt64).toInt64).toInt32).toInt8.toInt32)), .unset, .unset, .unset, .unset, .unset] [])) (fun t k => ?_) ?_
    · show Steps p.tables e below (s₁.setTop (mkF m 95 #[.val (.long q0), .second, .val (.int p1), .val (.long e1), .second, .val (.int m1), .val (.int b0), .val (.int b1), .val (.int b2), .val (.int b3), .unset, .unset, .unset, .unset, .unset, .unset] [])) t
      refine XS.lloadN X0.here hx rfl (hb hby at_95) rfl ?_
      show Steps p.tables e below (s₁.setTop (mkF m 96 #[.val (.long q0), .second, .val (.int p1), .val (.long e1), .second, .val (.int m1), .val (.int b0), .val (.int b1), .val (.int b2), .val (.int b3), .unset, .unset, .unset, .unset, .unset, .unset] [(.long e1)])) t
      refine XS.bipush X0.here hx rfl (hb hby at_96) ?_
      show Steps p.tables e below (s₁.setTop (mkF m 98 #[.val (.long q0), .second, .val (.int p1), .val (.long e1), .second, .val (.int m1), .val (.int b0), .val (.int b1), .val (.int b2), .val (.int b3), .unset, .unset, .unset, .unset, .unset, .unset] [(.int (24 : Int32)), (.long e1)])) t
      refine XS.lushr X0.here hx rfl (hb hby at_98) rfl ?_
      show Steps p.tables e below (s₁.setTop (mkF m 99 #[.val (.long q0), .second, .val (.int p1), .val (.long e1), .second, .val (.int m1), .val (.int b0), .val (.int b1), .val (.int b2), .val (.int b3), .unset, .unset, .unset, .unset, .unset, .unset] [(.long ((e1.toUInt64 >>> ((24 : Int32) &&& 0x3f).toInt64.toUInt64).toInt64))])) t
      refine XS.l2i X0.here hx rfl (hb hby at_99) rfl ?_
      show Steps p.tables e below (s₁.setTop (mkF m 100 #[.val (.long q0), .second, .val (.int p1), .val (.long e1), .second, .val (.int m1), .val (.int b0), .val (.int b1), .val (.int b2), .val (.int b3), .unset, .unset, .unset, .unset, .unset, .unset] [(.int (((e1.toUInt64 >>> ((24 : Int32) &&& 0x3f).toInt64.toUInt64).toInt64).toInt32))])) t
      refine XS.i2b X0.here hx rfl (hb hby at_100) rfl ?_
      show Steps p.tables e below (s₁.setTop (mkF m 101 #[.val (.long q0), .second, .val (.int p1), .val (.long e1), .second, .val (.int m1), .val (.int b0), .val (.int b1), .val (.int b2), .val (.int b3), .unset, .unset, .unset, .unset, .unset, .unset] [(.int ((((e1.toUInt64 >>> ((24 : Int32) &&& 0x3f).toInt64.toUInt64).toInt64).toInt32).toInt8.toInt32))])) t
      refine XS.istore X0.here hx rfl (hb hby at_101) rfl (l' := #[.val (.long q0), .second, .val (.int p1), .val (.long e1), .second, .val (.int m1), .val (.int b0), .val (.int b1), .val (.int b2), .val (.int b3), .val (.int ((((e1.toUInt64 >>> ((24 : Int32) &&& 0x3f).toInt64.toUInt64).toInt64).toInt32).toInt8.toInt32)), .unset, .unset, .unset, .unset, .unset]) rfl ?_
      exact k
    generalize hb4 : ((((e1.toUInt64 >>> ((24 : Int32) &&& 0x3f).toInt64.toUInt64).toInt64).toInt32).toInt8.toInt32) = b4
    show OwnGo p.tables e below _ (s₁.setTop (mkF m 103 #[.val (.long q0), .second, .val (.int p1), .val (.long e1), .second, .val (.int m1), .val (.int b0), .val (.int b1), .val (.int b2), .val (.int b3), .val (.int b4), .unset, .unset, .unset, .unset, .unset] []))
    refine OwnGo.of (A := s₁.setTop (mkF m 103 #[.val (.long q0), .second, .val (.int p1), .val (.long e1), .second, .val (.int m1), .val (.int b0), .val (.int b1), .val (.int b2), .val (.int b3), .val (.int b4), .unset, .unset, .unset, .unset, .unset] [])) (B := s₁.setTop (mkF m 111 #[.val (.long q0), .second, .val (.int p1), .val (.long e1), .second, .val (.int m1), .val (.int b0), .val (.int b1), .val (.int b2), .val (.int b3), .val (.int b4), .val (.int ((((e1.toUInt64 >>> ((16 : Int32) &&& 0x3f).toInt64.toUInt64).toInt64).toInt32).toInt8.toInt32)), .unset, .unset, .unset, .unset] [])) (fun t k => ?_) ?_
    · show Steps p.tables e below (s₁.setTop (mkF m 103 #[.val (.long q0), .second, .val (.int p1), .val (.long e1), .second, .val (.int m1), .val (.int b0), .val (.int b1), .val (.int b2), .val (.int b3), .val (.int b4), .unset, .unset, .unset, .unset, .unset] [])) t
      refine XS.lloadN X0.here hx rfl (hb hby at_103) rfl ?_
      show Steps p.tables e below (s₁.setTop (mkF m 104 #[.val (.long q0), .second, .val (.int p1), .val (.long e1), .second, .val (.int m1), .val (.int b0), .val (.int b1), .val (.int b2), .val (.int b3), .val (.int b4), .unset, .unset, .unset, .unset, .unset] [(.long e1)])) t
      refine XS.bipush X0.here hx rfl (hb hby at_104) ?_
      show Steps p.tables e below (s₁.setTop (mkF m 106 #[.val (.long q0), .second, .val (.int p1), .val (.long e1), .second, .val (.int m1), .val (.int b0), .val (.int b1), .val (.int b2), .val (.int b3), .val (.int b4), .unset, .unset, .unset, .unset, .unset] [(.int (16 : Int32)), (.long e1)])) t
      refine XS.lushr X0.here hx rfl (hb hby at_106) rfl ?_
      show Steps p.tables e below (s₁.setTop (mkF m 107 #[.val (.long q0), .second, .val (.int p1), .val (.long e1), .second, .val (.int m1), .val (.int b0), .val (.int b1), .val (.int b2), .val (.int b3), .val (.int b4), .unset, .unset, .unset, .unset, .unset] [(.long ((e1.toUInt64 >>> ((16 : Int32) &&& 0x3f).toInt64.toUInt64).toInt64))])) t
      refine XS.l2i X0.here hx rfl (hb hby at_107) rfl ?_
      show Steps p.tables e below (s₁.setTop (mkF m 108 #[.val (.long q0), .second, .val (.int p1), .val (.long e1), .second, .val (.int m1), .val (.int b0), .val (.int b1), .val (.int b2), .val (.int b3), .val (.int b4), .unset, .unset, .unset, .unset, .unset] [(.int (((e1.toUInt64 >>> ((16 : Int32) &&& 0x3f).toInt64.toUInt64).toInt64).toInt32))])) t
      refine XS.i2b X0.here hx rfl (hb hby at_108) rfl ?_
      show Steps p.tables e below (s₁.setTop (mkF m 109 #[.val (.long q0), .second, .val (.int p1), .val (.long e1), .second, .val (.int m1), .val (.int b0), .val (.int b1), .val (.int b2), .val (.int b3), .val (.int b4), .unset, .unset, .unset, .unset, .unset] [(.int ((((e1.toUInt64 >>> ((16 : Int32) &&& 0x3f).toInt64.toUInt64).toInt64).toInt32).toInt8.toInt32))])) t
      refine XS.istore X0.here hx rfl (hb hby at_109) rfl (l' := #[.val (.long q0), .second, .val (.int p1), .val (.long e1), .second, .val (.int m1), .val (.int b0), .val (.int b1), .val (.int b2), .val (.int b3), .val (.int b4), .val (.int ((((e1.toUInt64 >>> ((16 : Int32) &&& 0x3f).toInt64.toUInt64).toInt64).toInt32).toInt8.toInt32)), .unset, .unset, .unset, .unset]) rfl ?_
      exact k
    generalize hb5 : ((((e1.toUInt64 >>> ((16 : Int32) &&& 0x3f).toInt64.toUInt64).toInt64).toInt32).toInt8.toInt32) = b5
    show OwnGo p.tables e below _ (s₁.setTop (mkF m 111 #[.val (.long q0), .second, .val (.int p1), .val (.long e1), .second, .val (.int m1), .val (.int b0), .val (.int b1), .val (.int b2), .val (.int b3), .val (.int b4), .val (.int b5), .unset, .unset, .unset, .unset] []))
    refine OwnGo.of (A := s₁.setTop (mkF m 111 #[.val (.long q0), .second, .val (.int p1), .val (.long e1), .second, .val (.int m1), .val (.int b0), .val (.int b1), .val (.int b2), .val (.int b3), .val (.int b4), .val (.int b5), .unset, .unset, .unset, .unset] [])) (B := s₁.setTop (mkF m 119 #[.val (.long q0), .second, .val (.int p1), .val (.long e1), .second, .val (.int m1), .val (.int b0), .val (.int b1), .val (.int b2), .val (.int b3), .val (.int b4), .val (.int b5), .val (.int ((((e1.toUInt64 >>> ((8 : Int32) &&& 0x3f).toInt64.toUInt64).toInt64).toInt32).toInt8.toInt32)), .unset, .unset, .unset] [])) (fun t k => ?_) ?_
    · show Steps p.tables e below (s₁.setTop (mkF m 111 #[.val (.long q0), .second, .val (.int p1), .val (.long e1), .second, .val (.int m1), .val (.int b0), .val (.int b1), .val (.int b2), .val (.int b3), .val (.int b4), .val (.int b5), .unset, .unset, .unset, .unset] [])) t
      refine XS.lloadN X0.here hx rfl (hb hby at_111) rfl ?_
      show Steps p.tables e below (s₁.setTop (mkF m 112 #[.val (.long q0), .second, .val (.int p1), .val (.long e1), .second, .val (.int m1), .val (.int b0), .val (.int b1), .val (.int b2), .val (.int b3), .val (.int b4), .val (.int b5), .unset, .unset, .unset, .unset] [(.long e1)])) t
      refine XS.bipush X0.here hx rfl (hb hby at_112) ?_
      show Steps p.tables e below (s₁.setTop (mkF m 114 #[.val (.long q0), .second, .val (.int p1), .val (.long e1), .second, .val (.int m1), .val (.int b0), .val (.int b1), .val (.int b2), .val (.int b3), .val (.int b4), .val (.int b5), .unset, .unset, .unset, .unset] [(.int (8 : Int32)), (.long e1)])) t
      refine XS.lushr X0.here hx rfl (hb hby at_114) rfl ?_
      show Steps p.tables e below (s₁.setTop (mkF m 115 #[.val (.long q0), .second, .val (.int p1), .val (.long e1), .second, .val (.int m1), .val (.int b0), .val (.int b1), .val (.int b2), .val (.int b3), .val (.int b4), .val (.int b5), .unset, .unset, .unset, .unset] [(.long ((e1.toUInt64 >>> ((8 : Int32) &&& 0x3f).toInt64.toUInt64).toInt64))])) t
      refine XS.l2i X0.here hx rfl (hb hby at_115) rfl ?_
      show Steps p.tables e below (s₁.setTop (mkF m 116 #[.val (.long q0), .second, .val (.int p1), .val (.long e1), .second, .val (.int m1), .val (.int b0), .val (.int b1), .val (.int b2), .val (.int b3), .val (.int b4), .val (.int b5), .unset, .unset, .unset, .unset] [(.int (((e1.toUInt64 >>> ((8 : Int32) &&& 0x3f).toInt64.toUInt64).toInt64).toInt32))])) t
      refine XS.i2b X0.here hx rfl (hb hby at_116) rfl ?_
      show Steps p.tables e below (s₁.setTop (mkF m 117 #[.val (.long q0), .second, .val (.int p1), .val (.long e1), .second, .val (.int m1), .val (.int b0), .val (.int b1), .val (.int b2), .val (.int b3), .val (.int b4), .val (.int b5), .unset, .unset, .unset, .unset] [(.int ((((e1.toUInt64 >>> ((8 : Int32) &&& 0x3f).toInt64.toUInt64).toInt64).toInt32).toInt8.toInt32))])) t
      refine XS.istore X0.here hx rfl (hb hby at_117) rfl (l' := #[.val (.long q0), .second, .val (.int p1), .val (.long e1), .second, .val (.int m1), .val (.int b0), .val (.int b1), .val (.int b2), .val (.int b3), .val (.int b4), .val (.int b5), .val (.int ((((e1.toUInt64 >>> ((8 : Int32) &&& 0x3f).toInt64.toUInt64).toInt64).toInt32).toInt8.toInt32)), .unset, .unset, .unset]) rfl ?_
      exact k
    generalize hb6 : ((((e1.toUInt64 >>> ((8 : Int32) &&& 0x3f).toInt64.toUInt64).toInt64).toInt32).toInt8.toInt32) = b6
    show OwnGo p.tables e below _ (s₁.setTop (mkF m 119 #[.val (.long q0), .second, .val (.int p1), .val (.long e1), .second, .val (.int m1), .val (.int b0), .val (.int b1), .val (.int b2), .val (.int b3), .val (.int b4), .val (.int b5), .val (.int b6), .unset, .unset, .unset] []))
    refine OwnGo.of (A := s₁.setTop (mkF m 119 #[.val (.long q0), .second, .val (.int p1), .val (.long e1), .second, .val (.int m1), .val (.int b0), .val (.int b1), .val (.int b2), .val (.int b3), .val (.int b4), .val (.int b5), .val (.int b6), .unset, .unset, .unset] [])) (B := s₁.setTop (mkF m 124 #[.val (.long q0), .second, .val (.int p1), .val (.long e1), .second, .val (.int m1), .val (.int b0), .val (.int b1), .val (.int b2), .val (.int b3), .val (.int b4), .val (.int b5), .val (.int b6), .val (.int ((e1.toInt32).toInt8.toInt32)), .unset, .unset] [])) (fun t k => ?_) ?_
    · show Steps p.tables e below (s₁.setTop (mkF m 119 #[.val (.long q0), .second, .val (.int p1), .val (.long e1), .second, .val (.int m1), .val (.int b0), .val (.int b1), .val (.int b2), .val (.int b3), .val (.int b4), .val (.int b5), .val (.int b6), .unset, .unset, .unset] [])) t
      refine XS.lloadN X0.here hx rfl (hb hby at_119) rfl ?_
      show Steps p.tables e below (s₁.setTop (mkF m 120 #[.val (.long q0), .second, .val (.int p1), .val (.long e1), .second, .val (.int m1), .val (.int b0), .val (.int b1), .val (.int b2), .val (.int b3), .val (.int b4), .val (.int b5), .val (.int b6), .unset, .unset, .unset] [(.long e1)])) t
      refine XS.l2i X0.here hx rfl (hb hby at_120) rfl ?_
      show Steps p.tables e below (s₁.setTop (mkF m 121 #[.val (.long q0), .second, .val (.int p1), .val (.long e1), .second, .val (.int m1), .val (.int b0), .val (.int b1), .val (.int b2), .val (.int b3), .val (.int b4), .val (.int b5), .val (.int b6), .unset, .unset, .unset] [(.int (e1.toInt32))])) t
      refine XS.i2b X0.here hx rfl (hb hby at_121) rfl ?_
      show Steps p.tables e below (s₁.setTop (mkF m 122 #[.val (.long q0), .second, .val (.int p1), .val (.long e1), .second, .val (.int m1), .val (.int b0), .val (.int b1), .val (.int b2), .val (.int b3), .val (.int b4), .val (.int b5), .val (.int b6), .unset, .unset, .unset] [(.int ((e1.toInt32).toInt8.toInt32))])) t
      refine XS.istore X0.here hx rfl (hb hby at_122) rfl (l' := #[.val (.long q0), .second, .val (.int p1), .val (.long e1), .second, .val (.int m1), .val (.int b0), .val (.int b1), .val (.int b2), .val (.int b3), .val (.int b4), .val (.int b5), .val (.int b6), .val (.int ((e1.toInt32).toInt8.toInt32)), .unset, .unset]) rfl ?_
      exact k
    generalize hb7 : ((e1.toInt32).toInt8.toInt32) = b7
    show OwnGo p.tables e below _ (s₁.setTop (mkF m 124 #[.val (.long q0), .second, .val (.int p1), .val (.long e1), .second, .val (.int m1), .val (.int b0), .val (.int b1), .val (.int b2), .val (.int b3), .val (.int b4), .val (.int b5), .val (.int b6), .val (.int b7), .unset, .unset] []))
    refine OwnGo.of (A := s₁.setTop (mkF m 124 #[.val (.long q0), .second, .val (.int p1), .val (.long e1), .second, .val (.int m1), .val (.int b0), .val (.int b1), .val (.int b2), .val (.int b3), .val (.int b4), .val (.int b5), .val (.int b6), .val (.int b7), .unset, .unset] [])) (B := s₁.setTop (mkF m 126 #[.val (.long q0), .second, .val (.int p1), .val (.long e1), .second, .val (.int m1), .val (.int b0), .val (.int b1), .val (.int b2), .val (.int b3), .val (.int b4), .val (.int b5), .val (.int b6), .val (.int b7), .unset, .unset] [(.int b0)])) (fun t k => ?_) ?_
    · show Steps p.tables e below (s₁.setTop (mkF m 124 #[.val (.long q0), .second, .val (.int p1), .val (.long e1), .second, .val (.int m1), .val (.int b0), .val (.int b1), .val (.int b2), .val (.int b3), .val (.int b4), .val (.int b5), .val (.int b6), .val (.int b7), .unset, .unset] [])) t
      refine XS.iload X0.here hx rfl (hb hby at_124) rfl ?_
      exact k
    by_cases hc1 : b0 < (0 : Int32)
    · refine OwnGo.of (A := s₁.setTop (mkF m 126 #[.val (.long q0), .second, .val (.int p1), .val (.long e1), .second, .val (.int m1), .val (.int b0), .val (.int b1), .val (.int b2), .val (.int b3), .val (.int b4), .val (.int b5), .val (.int b6), .val (.int b7), .unset, .unset] [(.int b0)])) (B := s₁.setTop (mkF m 131 #[.val (.long q0), .second, .val (.int p1), .val (.long e1), .second, .val (.int m1), .val (.int b0), .val (.int b1), .val (.int b2), .val (.int b3), .val (.int b4), .val (.int b5), .val (.int b6), .val (.int b7), .unset, .unset] [(.int b1)])) (fun t k => ?_) ?_
      · show Steps p.tables e below (s₁.setTop (mkF m 126 #[.val (.long q0), .second, .val (.int p1), .val (.long e1), .second, .val (.int m1), .val (.int b0), .val (.int b1), .val (.int b2), .val (.int b3), .val (.int b4), .val (.int b5), .val (.int b6), .val (.int b7), .unset, .unset] [(.int b0)])) t
        refine XS.ifNo X0.here hx rfl (hb hby at_126) rfl ((if0 _ _).trans (tlt hc1).2.1) ?_
        show Steps p.tables e below (s₁.setTop (mkF m 129 #[.val (.long q0), .second, .val (.int p1), .val (.long e1), .second, .val (.int m1), .val (.int b0), .val (.int b1), .val (.int b2), .val (.int b3), .val (.int b4), .val (.int b5), .val (.int b6), .val (.int b7), .unset, .unset] [])) t
        refine XS.iload X0.here hx rfl (hb hby at_129) rfl ?_
        exact k
      by_cases hc2 : b1 < (0 : Int32)
      · refine OwnGo.of (A := s₁.setTop (mkF m 131 #[.val (.long q0), .second, .val (.int p1), .val (.long e1), .second, .val (.int m1), .val (.int b0), .val (.int b1), .val (.int b2), .val (.int b3), .val (.int b4), .val (.int b5), .val (.int b6), .val (.int b7), .unset, .unset] [(.int b1)])) (B := s₁.setTop (mkF m 136 #[.val (.long q0), .second, .val (.int p1), .val (.long e1), .second, .val (.int m1), .val (.int b0), .val (.int b1), .val (.int b2), .val (.int b3), .val (.int b4), .val (.int b5), .val (.int b6), .val (.int b7), .unset, .unset] [(.int b2)])) (fun t k => ?_) ?_
        · show Steps p.tables e below (s₁.setTop (mkF m 131 #[.val (.long q0), .second, .val (.int p1), .val (.long e1), .second, .val (.int m1), .val (.int b0), .val (.int b1), .val (.int b2), .val (.int b3), .val (.int b4), .val (.int b5), .val (.int b6), .val (.int b7), .unset, .unset] [(.int b1)])) t
          refine XS.ifNo X0.here hx rfl (hb hby at_131) rfl ((if0 _ _).trans (tlt hc2).2.1) ?_
          show Steps p.tables e below (s₁.setTop (mkF m 134 #[.val (.long q0), .second, .val (.int p1), .val (.long e1), .second, .val (.int m1), .val (.int b0), .val (.int b1), .val (.int b2), .val (.int b3), .val (.int b4), .val (.int b5), .val (.int b6), .val (.int b7), .unset, .unset] [])) t
          refine XS.iload X0.here hx rfl (hb hby at_134) rfl ?_
          exact k
        by_cases hc3 : b2 < (0 : Int32)
        · refine OwnGo.of (A := s₁.setTop (mkF m 136 #[.val (.long q0), .second, .val (.int p1), .val (.long e1), .second, .val (.int m1), .val (.int b0), .val (.int b1), .val (.int b2), .val (.int b3), .val (.int b4), .val (.int b5), .val (.int b6), .val (.int b7), .unset, .unset] [(.int b2)])) (B := s₁.setTop (mkF m 141 #[.val (.long q0), .second, .val (.int p1), .val (.long e1), .second, .val (.int m1), .val (.int b0), .val (.int b1), .val (.int b2), .val (.int b3), .val (.int b4), .val (.int b5), .val (.int b6), .val (.int b7), .unset, .unset] [(.int b3)])) (fun t k => ?_) ?_
          · show Steps p.tables e below (s₁.setTop (mkF m 136 #[.val (.long q0), .second, .val (.int p1), .val (.long e1), .second, .val (.int m1), .val (.int b0), .val (.int b1), .val (.int b2), .val (.int b3), .val (.int b4), .val (.int b5), .val (.int b6), .val (.int b7), .unset, .unset] [(.int b2)])) t
            refine XS.ifNo X0.here hx rfl (hb hby at_136) rfl ((if0 _ _).trans (tlt hc3).2.1) ?_
            show Steps p.tables e below (s₁.setTop (mkF m 139 #[.val (.long q0), .second, .val (.int p1), .val (.long e1), .second, .val (.int m1), .val (.int b0), .val (.int b1), .val (.int b2), .val (.int b3), .val (.int b4), .val (.int b5), .val (.int b6), .val (.int b7), .unset, .unset] [])) t
            refine XS.iload X0.here hx rfl (hb hby at_139) rfl ?_
            exact k
          by_cases hc4 : b3 < (0 : Int32)
          · refine OwnGo.of (A := s₁.setTop (mkF m 141 #[.val (.long q0), .second, .val (.int p1), .val (.long e1), .second, .val (.int m1), .val (.int b0), .val (.int b1), .val (.int b2), .val (.int b3), .val (.int b4), .val (.int b5), .val (.int b6), .val (.int b7), .unset, .unset] [(.int b3)])) (B := s₁.setTop (mkF m 146 #[.val (.long q0), .second, .val (.int p1), .val (.long e1), .second, .val (.int m1), .val (.int b0), .val (.int b1), .val (.int b2), .val (.int b3), .val (.int b4), .val (.int b5), .val (.int b6), .val (.int b7), .unset, .unset] [(.int b4)])) (fun t k => ?_) ?_
            · show Steps p.tables e below (s₁.setTop (mkF m 141 #[.val (.long q0), .second, .val (.int p1), .val (.long e1), .second, .val (.int m1), .val (.int b0), .val (.int b1), .val (.int b2), .val (.int b3), .val (.int b4), .val (.int b5), .val (.int b6), .val (.int b7), .unset, .unset] [(.int b3)])) t
              refine XS.ifNo X0.here hx rfl (hb hby at_141) rfl ((if0 _ _).trans (tlt hc4).2.1) ?_
              show Steps p.tables e below (s₁.setTop (mkF m 144 #[.val (.long q0), .second, .val (.int p1), .val (.long e1), .second, .val (.int m1), .val (.int b0), .val (.int b1), .val (.int b2), .val (.int b3), .val (.int b4), .val (.int b5), .val (.int b6), .val (.int b7), .unset, .unset] [])) t
              refine XS.iload X0.here hx rfl (hb hby at_144) rfl ?_
              exact k
            by_cases hc5 : b4 < (0 : Int32)
            · refine OwnGo.of (A := s₁.setTop (mkF m 146 #[.val (.long q0), .second, .val (.int p1), .val (.long e1), .second, .val (.int m1), .val (.int b0), .val (.int b1), .val (.int b2), .val (.int b3), .val (.int b4), .val (.int b5), .val (.int b6), .val (.int b7), .unset, .unset] [(.int b4)])) (B := s₁.setTop (mkF m 151 #[.val (.long q0), .second, .val (.int p1), .val (.long e1), .second, .val (.int m1), .val (.int b0), .val (.int b1), .val (.int b2), .val (.int b3), .val (.int b4), .val (.int b5), .val (.int b6), .val (.int b7), .unset, .unset] [(.int b5)])) (fun t k => ?_) ?_
              · show Steps p.tables e below (s₁.setTop (mkF m 146 #[.val (.long q0), .second, .val (.int p1), .val (.long e1), .second, .val (.int m1), .val (.int b0), .val (.int b1), .val (.int b2), .val (.int b3), .val (.int b4), .val (.int b5), .val (.int b6), .val (.int b7), .unset, .unset] [(.int b4)])) t
                refine XS.ifNo X0.here hx rfl (hb hby at_146) rfl ((if0 _ _).trans (tlt hc5).2.1) ?_
                show Steps p.tables e below (s₁.setTop (mkF m 149 #[.val (.long q0), .second, .val (.int p1), .val (.long e1), .second, .val (.int m1), .val (.int b0), .val (.int b1), .val (.int b2), .val (.int b3), .val (.int b4), .val (.int b5), .val (.int b6), .val (.int b7), .unset, .unset] [])) t
                refine XS.iload X0.here hx rfl (hb hby at_149) rfl ?_
                exact k
              by_cases hc6 : b5 < (0 : Int32)
              · refine OwnGo.of (A := s₁.setTop (mkF m 151 #[.val (.long q0), .second, .val (.int p1), .val (.long e1), .second, .val (.int m1), .val (.int b0), .val (.int b1), .val (.int b2), .val (.int b3), .val (.int b4), .val (.int b5), .val (.int b6), .val (.int b7), .unset, .unset] [(.int b5)])) (B := s₁.setTop (mkF m 156 #[.val (.long q0), .second, .val (.int p1), .val (.long e1), .second, .val (.int m1), .val (.int b0), .val (.int b1), .val (.int b2), .val (.int b3), .val (.int b4), .val (.int b5), .val (.int b6), .val (.int b7), .unset, .unset] [(.int b6)])) (fun t k => ?_) ?_
                · show Steps p.tables e below (s₁.setTop (mkF m 151 #[.val (.long q0), .second, .val (.int p1), .val (.long e1), .second, .val (.int m1), .val (.int b0), .val (.int b1), .val (.int b2), .val (.int b3), .val (.int b4), .val (.int b5), .val (.int b6), .val (.int b7), .unset, .unset] [(.int b5)])) t
                  refine XS.ifNo X0.here hx rfl (hb hby at_151) rfl ((if0 _ _).trans (tlt hc6).2.1) ?_
                  show Steps p.tables e below (s₁.setTop (mkF m 154 #[.val (.long q0), .second, .val (.int p1), .val (.long e1), .second, .val (.int m1), .val (.int b0), .val (.int b1), .val (.int b2), .val (.int b3), .val (.int b4), .val (.int b5), .val (.int b6), .val (.int b7), .unset, .unset] [])) t
                  refine XS.iload X0.here hx rfl (hb hby at_154) rfl ?_
                  exact k
                by_cases hc7 : b6 < (0 : Int32)
                · refine OwnGo.of (A := s₁.setTop (mkF m 156 #[.val (.long q0), .second, .val (.int p1), .val (.long e1), .second, .val (.int m1), .val (.int b0), .val (.int b1), .val (.int b2), .val (.int b3), .val (.int b4), .val (.int b5), .val (.int b6), .val (.int b7), .unset, .unset] [(.int b6)])) (B := s₁.setTop (mkF m 161 #[.val (.long q0), .second, .val (.int p1), .val (.long e1), .second, .val (.int m1), .val (.int b0), .val (.int b1), .val (.int b2), .val (.int b3), .val (.int b4), .val (.int b5), .val (.int b6), .val (.int b7), .unset, .unset] [(.int b7)])) (fun t k => ?_) ?_
                  · show Steps p.tables e below (s₁.setTop (mkF m 156 #[.val (.long q0), .second, .val (.int p1), .val (.long e1), .second, .val (.int m1), .val (.int b0), .val (.int b1), .val (.int b2), .val (.int b3), .val (.int b4), .val (.int b5), .val (.int b6), .val (.int b7), .unset, .unset] [(.int b6)])) t
                    refine XS.ifNo X0.here hx rfl (hb hby at_156) rfl ((if0 _ _).trans (tlt hc7).2.1) ?_
                    show Steps p.tables e below (s₁.setTop (mkF m 159 #[.val (.long q0), .second, .val (.int p1), .val (.long e1), .second, .val (.int m1), .val (.int b0), .val (.int b1), .val (.int b2), .val (.int b3), .val (.int b4), .val (.int b5), .val (.int b6), .val (.int b7), .unset, .unset] [])) t
                    refine XS.iload X0.here hx rfl (hb hby at_159) rfl ?_
                    exact k
                  by_cases hc8 : b7 < (0 : Int32)
                  · refine OwnGo.of (A := s₁.setTop (mkF m 161 #[.val (.long q0), .second, .val (.int p1), .val (.long e1), .second, .val (.int m1), .val (.int b0), .val (.int b1), .val (.int b2), .val (.int b3), .val (.int b4), .val (.int b5), .val (.int b6), .val (.int b7), .unset, .unset] [(.int b7)])) (B := s₁.setTop (mkF m 172 #[.val (.long q0), .second, .val (.int p1), .val (.long e1), .second, .val (.int m1), .val (.int b0), .val (.int b1), .val (.int b2), .val (.int b3), .val (.int b4), .val (.int b5), .val (.int b6), .val (.int b7), .val (.int (0 : Int32)), .unset] [(.long e1)])) (fun t k => ?_) ?_
                    · show Steps p.tables e below (s₁.setTop (mkF m 161 #[.val (.long q0), .second, .val (.int p1), .val (.long e1), .second, .val (.int m1), .val (.int b0), .val (.int b1), .val (.int b2), .val (.int b3), .val (.int b4), .val (.int b5), .val (.int b6), .val (.int b7), .unset, .unset] [(.int b7)])) t
                      refine XS.ifYes X0.here hx rfl (pc0 := 161) (pc' := 168) rfl (hb hby at_161) rfl ((if0 _ _).trans (tlt hc8).1) (by decide) (by decide) ?_
                      show Steps p.tables e below (s₁.setTop (mkF m 168 #[.val (.long q0), .second, .val (.int p1), .val (.long e1), .second, .val (.int m1), .val (.int b0), .val (.int b1), .val (.int b2), .val (.int b3), .val (.int b4), .val (.int b5), .val (.int b6), .val (.int b7), .unset, .unset] [])) t
                      refine XS.iconst X0.here hx rfl (hb hby at_168) ?_
                      show Steps p.tables e below (s₁.setTop (mkF m 169 #[.val (.long q0), .second, .val (.int p1), .val (.long e1), .second, .val (.int m1), .val (.int b0), .val (.int b1), .val (.int b2), .val (.int b3), .val (.int b4), .val (.int b5), .val (.int b6), .val (.int b7), .unset, .unset] [(.int (0 : Int32))])) t
                      refine XS.istore X0.here hx rfl (hb hby at_169) rfl (l' := #[.val (.long q0), .second, .val (.int p1), .val (.long e1), .second, .val (.int m1), .val (.int b0), .val (.int b1), .val (.int b2), .val (.int b3), .val (.int b4), .val (.int b5), .val (.int b6), .val (.int b7), .val (.int (0 : Int32)), .unset]) rfl ?_
                      show Steps p.tables e below (s₁.setTop (mkF m 171 #[.val (.long q0), .second, .val (.int p1), .val (.long e1), .second, .val (.int m1), .val (.int b0), .val (.int b1), .val (.int b2), .val (.int b3), .val (.int b4), .val (.int b5), .val (.int b6), .val (.int b7), .val (.int (0 : Int32)), .unset] [])) t
                      refine XS.lloadN X0.here hx rfl (hb hby at_171) rfl ?_
                      exact k
                    obtain ⟨_, _, ⟨T9, L9, k9, n9⟩, -, X9, ⟨Lc9, hQ9, l9, y9, z9⟩, st9⟩ := Jvm.LawKit.callS X0 hx (y := (⟨"com/example/sevenfold/sevenfold/Natural", "isEight", "(J)Z"⟩ : MethodName)) hown (mvT hZ (hw _ (List.mem_of_getElem? (i := 2) rfl))) (mvT hZ (hw _ (List.mem_of_getElem? (i := 3) rfl))) (mvT hZ (hw _ (List.mem_of_getElem? (i := 4) rfl))) (mvT hZ (hw _ (List.mem_of_getElem? (i := 5) rfl))) (by decide) (backOf (W := 0) (rm1 l Z aw hw [] e1 wT ka h0 n0 Z0 S_TOP_BITS V_T) hZ (hw _ (List.mem_of_getElem? (i := 5) rfl)) (hw _ (List.mem_of_getElem? (i := 4) rfl)) (by decide) (by decide)) (g := (mkF m 172 #[.val (.long q0), .second, .val (.int p1), .val (.long e1), .second, .val (.int m1), .val (.int b0), .val (.int b1), .val (.int b2), .val (.int b3), .val (.int b4), .val (.int b5), .val (.int b6), .val (.int b7), .val (.int (0 : Int32)), .unset] [(.long e1)])) rfl (by rw [hml]; rfl) (argsL := [(.long e1)]) (rest := []) (lenOf pd_1 rfl) rfl (by show 2 * 0 + _ ≤ _; exact Nat.le_of_eq rfl) (hb hby at_172) (fun _ _ => ⟨rfl, e0, (by decide : 0 + 0 ≤ _), (by decide : 0 + 0 ≤ _)⟩)
                    dsimp only [Pt.U, Pt.locs, Pt.cells, Pt.slots] at X9 l9 y9 z9 st9 hQ9
                    subst l9 y9 z9
                    obtain ⟨rfl, N9q, eq9⟩ := hQ9
                    have N9 := Fr.app N0 N9q
                    refine OwnGo.of st9 ?_
                    show OwnGo p.tables e below _ (T9.setTop (mkF m 175 #[.val (.long q0), .second, .val (.int p1), .val (.long e1), .second, .val (.int m1), .val (.int b0), .val (.int b1), .val (.int b2), .val (.int b3), .val (.int b4), .val (.int b5), .val (.int b6), .val (.int b7), .val (.int (0 : Int32)), .unset] [(.int (own_f1 e1 wT ka))]))
                    refine OwnGo.of (A := T9.setTop (mkF m 175 #[.val (.long q0), .second, .val (.int p1), .val (.long e1), .second, .val (.int m1), .val (.int b0), .val (.int b1), .val (.int b2), .val (.int b3), .val (.int b4), .val (.int b5), .val (.int b6), .val (.int b7), .val (.int (0 : Int32)), .unset] [(.int (own_f1 e1 wT ka))])) (B := T9.setTop (mkF m 181 #[.val (.long q0), .second, .val (.int p1), .val (.long e1), .second, .val (.int m1), .val (.int b0), .val (.int b1), .val (.int b2), .val (.int b3), .val (.int b4), .val (.int b5), .val (.int b6), .val (.int b7), .val (.int (0 : Int32)), .val (.int (own_f1 e1 wT ka))] [(.int (0 : Int32)), (.int (own_f1 e1 wT ka))])) (fun t k => ?_) ?_
                    · show Steps p.tables e below (T9.setTop (mkF m 175 #[.val (.long q0), .second, .val (.int p1), .val (.long e1), .second, .val (.int m1), .val (.int b0), .val (.int b1), .val (.int b2), .val (.int b3), .val (.int b4), .val (.int b5), .val (.int b6), .val (.int b7), .val (.int (0 : Int32)), .unset] [(.int (own_f1 e1 wT ka))])) t
                      refine XS.istore X9.here hx rfl (hb hby at_175) rfl (l' := #[.val (.long q0), .second, .val (.int p1), .val (.long e1), .second, .val (.int m1), .val (.int b0), .val (.int b1), .val (.int b2), .val (.int b3), .val (.int b4), .val (.int b5), .val (.int b6), .val (.int b7), .val (.int (0 : Int32)), .val (.int (own_f1 e1 wT ka))]) rfl ?_
                      show Steps p.tables e below (T9.setTop (mkF m 177 #[.val (.long q0), .second, .val (.int p1), .val (.long e1), .second, .val (.int m1), .val (.int b0), .val (.int b1), .val (.int b2), .val (.int b3), .val (.int b4), .val (.int b5), .val (.int b6), .val (.int b7), .val (.int (0 : Int32)), .val (.int (own_f1 e1 wT ka))] [])) t
                      refine XS.iload X9.here hx rfl (hb hby at_177) rfl ?_
                      show Steps p.tables e below (T9.setTop (mkF m 179 #[.val (.long q0), .second, .val (.int p1), .val (.long e1), .second, .val (.int m1), .val (.int b0), .val (.int b1), .val (.int b2), .val (.int b3), .val (.int b4), .val (.int b5), .val (.int b6), .val (.int b7), .val (.int (0 : Int32)), .val (.int (own_f1 e1 wT ka))] [(.int (own_f1 e1 wT ka))])) t
                      refine XS.iload X9.here hx rfl (hb hby at_179) rfl ?_
                      exact k
                    have hc10 : (own_f1 e1 wT ka) = (0 : Int32) := by subst hb0 hb1 hb2 hb3 hb4 hb5 hb6 hb7; rw [own_f1_eq, if_neg (fun q => (q.2.2.2.2.2.2.2) hc8)]
                    refine OwnGo.of (A := T9.setTop (mkF m 181 #[.val (.long q0), .second, .val (.int p1), .val (.long e1), .second, .val (.int m1), .val (.int b0), .val (.int b1), .val (.int b2), .val (.int b3), .val (.int b4), .val (.int b5), .val (.int b6), .val (.int b7), .val (.int (0 : Int32)), .val (.int (own_f1 e1 wT ka))] [(.int (0 : Int32)), (.int (own_f1 e1 wT ka))])) (B := T9.setTop (mkF m 189 #[.val (.long q0), .second, .val (.int p1), .val (.long e1), .second, .val (.int m1), .val (.int b0), .val (.int b1), .val (.int b2), .val (.int b3), .val (.int b4), .val (.int b5), .val (.int b6), .val (.int b7), .val (.int (0 : Int32)), .val (.int (own_f1 e1 wT ka))] [(.int (1 : Int32))])) (fun t k => ?_) ?_
                    · show Steps p.tables e below (T9.setTop (mkF m 181 #[.val (.long q0), .second, .val (.int p1), .val (.long e1), .second, .val (.int m1), .val (.int b0), .val (.int b1), .val (.int b2), .val (.int b3), .val (.int b4), .val (.int b5), .val (.int b6), .val (.int b7), .val (.int (0 : Int32)), .val (.int (own_f1 e1 wT ka))] [(.int (0 : Int32)), (.int (own_f1 e1 wT ka))])) t
                      refine XS.icmpNo X9.here hx rfl (hb hby at_181) rfl (teq hc10).2 ?_
                      show Steps p.tables e below (T9.setTop (mkF m 184 #[.val (.long q0), .second, .val (.int p1), .val (.long e1), .second, .val (.int m1), .val (.int b0), .val (.int b1), .val (.int b2), .val (.int b3), .val (.int b4), .val (.int b5), .val (.int b6), .val (.int b7), .val (.int (0 : Int32)), .val (.int (own_f1 e1 wT ka))] [])) t
                      refine XS.iconst X9.here hx rfl (hb hby at_184) ?_
                      show Steps p.tables e below (T9.setTop (mkF m 185 #[.val (.long q0), .second, .val (.int p1), .val (.long e1), .second, .val (.int m1), .val (.int b0), .val (.int b1), .val (.int b2), .val (.int b3), .val (.int b4), .val (.int b5), .val (.int b6), .val (.int b7), .val (.int (0 : Int32)), .val (.int (own_f1 e1 wT ka))] [(.int (1 : Int32))])) t
                      refine XS.goto X9.here hx rfl (pc0 := 185) (pc' := 189) rfl (hb hby at_185) (by decide) (by decide) ?_
                      exact k
                    obtain ⟨fs, hr, hrun, hended, hW, hsame⟩ := X9.leave (v := some (.int (nar .boolean (1 : Int32)))) (fun h => by rw [Bd.returns] at h; cases h) hlk
                    refine ⟨_, _, ?_, hrun, hended, _, _, rfl, ?_, ⟨_, rfl⟩, hW, hsame.mono (by decide) (by decide)⟩
                    · show Steps p.tables e below (T9.setTop (mkF m 189 #[.val (.long q0), .second, .val (.int p1), .val (.long e1), .second, .val (.int m1), .val (.int b0), .val (.int b1), .val (.int b2), .val (.int b3), .val (.int b4), .val (.int b5), .val (.int b6), .val (.int b7), .val (.int (0 : Int32)), .val (.int (own_f1 e1 wT ka))] [(.int (1 : Int32))])) _
                      exact retN X9 hx (t := .boolean) Bd.returns (by simp) (hb hby at_189) hr
                    · show Qrm0 Z q0 p1 wT ka h0 n0 _ (T9.setFrames fs).heap _
                      rw [show (T9.setFrames fs).heap = h0 from eq9]
                      exact ⟨rfl, N9⟩
                  · refine OwnGo.of (A := s₁.setTop (mkF m 161 #[.val (.long q0), .second, .val (.int p1), .val (.long e1), .second, .val (.int m1), .val (.int b0), .val (.int b1), .val (.int b2), .val (.int b3), .val (.int b4), .val (.int b5), .val (.int b6), .val (.int b7), .unset, .unset] [(.int b7)])) (B := s₁.setTop (mkF m 172 #[.val (.long q0), .second, .val (.int p1), .val (.long e1), .second, .val (.int m1), .val (.int b0), .val (.int b1), .val (.int b2), .val (.int b3), .val (.int b4), .val (.int b5), .val (.int b6), .val (.int b7), .val (.int (1 : Int32)), .unset] [(.long e1)])) (fun t k => ?_) ?_
                    · show Steps p.tables e below (s₁.setTop (mkF m 161 #[.val (.long q0), .second, .val (.int p1), .val (.long e1), .second, .val (.int m1), .val (.int b0), .val (.int b1), .val (.int b2), .val (.int b3), .val (.int b4), .val (.int b5), .val (.int b6), .val (.int b7), .unset, .unset] [(.int b7)])) t
                      refine XS.ifNo X0.here hx rfl (hb hby at_161) rfl ((if0 _ _).trans (flt hc8).1) ?_
                      show Steps p.tables e below (s₁.setTop (mkF m 164 #[.val (.long q0), .second, .val (.int p1), .val (.long e1), .second, .val (.int m1), .val (.int b0), .val (.int b1), .val (.int b2), .val (.int b3), .val (.int b4), .val (.int b5), .val (.int b6), .val (.int b7), .unset, .unset] [])) t
                      refine XS.iconst X0.here hx rfl (hb hby at_164) ?_
                      show Steps p.tables e below (s₁.setTop (mkF m 165 #[.val (.long q0), .second, .val (.int p1), .val (.long e1), .second, .val (.int m1), .val (.int b0), .val (.int b1), .val (.int b2), .val (.int b3), .val (.int b4), .val (.int b5), .val (.int b6), .val (.int b7), .unset, .unset] [(.int (1 : Int32))])) t
                      refine XS.goto X0.here hx rfl (pc0 := 165) (pc' := 169) rfl (hb hby at_165) (by decide) (by decide) ?_
                      show Steps p.tables e below (s₁.setTop (mkF m 169 #[.val (.long q0), .second, .val (.int p1), .val (.long e1), .second, .val (.int m1), .val (.int b0), .val (.int b1), .val (.int b2), .val (.int b3), .val (.int b4), .val (.int b5), .val (.int b6), .val (.int b7), .unset, .unset] [(.int (1 : Int32))])) t
                      refine XS.istore X0.here hx rfl (hb hby at_169) rfl (l' := #[.val (.long q0), .second, .val (.int p1), .val (.long e1), .second, .val (.int m1), .val (.int b0), .val (.int b1), .val (.int b2), .val (.int b3), .val (.int b4), .val (.int b5), .val (.int b6), .val (.int b7), .val (.int (1 : Int32)), .unset]) rfl ?_
                      show Steps p.tables e below (s₁.setTop (mkF m 171 #[.val (.long q0), .second, .val (.int p1), .val (.long e1), .second, .val (.int m1), .val (.int b0), .val (.int b1), .val (.int b2), .val (.int b3), .val (.int b4), .val (.int b5), .val (.int b6), .val (.int b7), .val (.int (1 : Int32)), .unset] [])) t
                      refine XS.lloadN X0.here hx rfl (hb hby at_171) rfl ?_
                      exact k
                    obtain ⟨_, _, ⟨T12, L12, k12, n12⟩, -, X12, ⟨Lc12, hQ12, l12, y12, z12⟩, st12⟩ := Jvm.LawKit.callS X0 hx (y := (⟨"com/example/sevenfold/sevenfold/Natural", "isEight", "(J)Z"⟩ : MethodName)) hown (mvT hZ (hw _ (List.mem_of_getElem? (i := 2) rfl))) (mvT hZ (hw _ (List.mem_of_getElem? (i := 3) rfl))) (mvT hZ (hw _ (List.mem_of_getElem? (i := 4) rfl))) (mvT hZ (hw _ (List.mem_of_getElem? (i := 5) rfl))) (by decide) (backOf (W := 0) (rm1 l Z aw hw [] e1 wT ka h0 n0 Z0 S_TOP_BITS V_T) hZ (hw _ (List.mem_of_getElem? (i := 5) rfl)) (hw _ (List.mem_of_getElem? (i := 4) rfl)) (by decide) (by decide)) (g := (mkF m 172 #[.val (.long q0), .second, .val (.int p1), .val (.long e1), .second, .val (.int m1), .val (.int b0), .val (.int b1), .val (.int b2), .val (.int b3), .val (.int b4), .val (.int b5), .val (.int b6), .val (.int b7), .val (.int (1 : Int32)), .unset] [(.long e1)])) rfl (by rw [hml]; rfl) (argsL := [(.long e1)]) (rest := []) (lenOf pd_1 rfl) rfl (by show 2 * 0 + _ ≤ _; exact Nat.le_of_eq rfl) (hb hby at_172) (fun _ _ => ⟨rfl, e0, (by decide : 0 + 0 ≤ _), (by decide : 0 + 0 ≤ _)⟩)
                    dsimp only [Pt.U, Pt.locs, Pt.cells, Pt.slots] at X12 l12 y12 z12 st12 hQ12
                    subst l12 y12 z12
                    obtain ⟨rfl, N12q, eq12⟩ := hQ12
                    have N12 := Fr.app N0 N12q
                    refine OwnGo.of st12 ?_
                    show OwnGo p.tables e below _ (T12.setTop (mkF m 175 #[.val (.long q0), .second, .val (.int p1), .val (.long e1), .second, .val (.int m1), .val (.int b0), .val (.int b1), .val (.int b2), .val (.int b3), .val (.int b4), .val (.int b5), .val (.int b6), .val (.int b7), .val (.int (1 : Int32)), .unset] [(.int (own_f1 e1 wT ka))]))
                    refine OwnGo.of (A := T12.setTop (mkF m 175 #[.val (.long q0), .second, .val (.int p1), .val (.long e1), .second, .val (.int m1), .val (.int b0), .val (.int b1), .val (.int b2), .val (.int b3), .val (.int b4), .val (.int b5), .val (.int b6), .val (.int b7), .val (.int (1 : Int32)), .unset] [(.int (own_f1 e1 wT ka))])) (B := T12.setTop (mkF m 181 #[.val (.long q0), .second, .val (.int p1), .val (.long e1), .second, .val (.int m1), .val (.int b0), .val (.int b1), .val (.int b2), .val (.int b3), .val (.int b4), .val (.int b5), .val (.int b6), .val (.int b7), .val (.int (1 : Int32)), .val (.int (own_f1 e1 wT ka))] [(.int (1 : Int32)), (.int (own_f1 e1 wT ka))])) (fun t k => ?_) ?_
                    · show Steps p.tables e below (T12.setTop (mkF m 175 #[.val (.long q0), .second, .val (.int p1), .val (.long e1), .second, .val (.int m1), .val (.int b0), .val (.int b1), .val (.int b2), .val (.int b3), .val (.int b4), .val (.int b5), .val (.int b6), .val (.int b7), .val (.int (1 : Int32)), .unset] [(.int (own_f1 e1 wT ka))])) t
                      refine XS.istore X12.here hx rfl (hb hby at_175) rfl (l' := #[.val (.long q0), .second, .val (.int p1), .val (.long e1), .second, .val (.int m1), .val (.int b0), .val (.int b1), .val (.int b2), .val (.int b3), .val (.int b4), .val (.int b5), .val (.int b6), .val (.int b7), .val (.int (1 : Int32)), .val (.int (own_f1 e1 wT ka))]) rfl ?_
                      show Steps p.tables e below (T12.setTop (mkF m 177 #[.val (.long q0), .second, .val (.int p1), .val (.long e1), .second, .val (.int m1), .val (.int b0), .val (.int b1), .val (.int b2), .val (.int b3), .val (.int b4), .val (.int b5), .val (.int b6), .val (.int b7), .val (.int (1 : Int32)), .val (.int (own_f1 e1 wT ka))] [])) t
                      refine XS.iload X12.here hx rfl (hb hby at_177) rfl ?_
                      show Steps p.tables e below (T12.setTop (mkF m 179 #[.val (.long q0), .second, .val (.int p1), .val (.long e1), .second, .val (.int m1), .val (.int b0), .val (.int b1), .val (.int b2), .val (.int b3), .val (.int b4), .val (.int b5), .val (.int b6), .val (.int b7), .val (.int (1 : Int32)), .val (.int (own_f1 e1 wT ka))] [(.int (own_f1 e1 wT ka))])) t
                      refine XS.iload X12.here hx rfl (hb hby at_179) rfl ?_
                      exact k
                    have hc13 : (own_f1 e1 wT ka) = (1 : Int32) := by subst hb0 hb1 hb2 hb3 hb4 hb5 hb6 hb7; rw [own_f1_eq, if_pos ⟨hc1, hc2, hc3, hc4, hc5, hc6, hc7, hc8⟩]
                    refine OwnGo.of (A := T12.setTop (mkF m 181 #[.val (.long q0), .second, .val (.int p1), .val (.long e1), .second, .val (.int m1), .val (.int b0), .val (.int b1), .val (.int b2), .val (.int b3), .val (.int b4), .val (.int b5), .val (.int b6), .val (.int b7), .val (.int (1 : Int32)), .val (.int (own_f1 e1 wT ka))] [(.int (1 : Int32)), (.int (own_f1 e1 wT ka))])) (B := T12.setTop (mkF m 189 #[.val (.long q0), .second, .val (.int p1), .val (.long e1), .second, .val (.int m1), .val (.int b0), .val (.int b1), .val (.int b2), .val (.int b3), .val (.int b4), .val (.int b5), .val (.int b6), .val (.int b7), .val (.int (1 : Int32)), .val (.int (own_f1 e1 wT ka))] [(.int (1 : Int32))])) (fun t k => ?_) ?_
                    · show Steps p.tables e below (T12.setTop (mkF m 181 #[.val (.long q0), .second, .val (.int p1), .val (.long e1), .second, .val (.int m1), .val (.int b0), .val (.int b1), .val (.int b2), .val (.int b3), .val (.int b4), .val (.int b5), .val (.int b6), .val (.int b7), .val (.int (1 : Int32)), .val (.int (own_f1 e1 wT ka))] [(.int (1 : Int32)), (.int (own_f1 e1 wT ka))])) t
                      refine XS.icmpNo X12.here hx rfl (hb hby at_181) rfl (teq hc13).2 ?_
                      show Steps p.tables e below (T12.setTop (mkF m 184 #[.val (.long q0), .second, .val (.int p1), .val (.long e1), .second, .val (.int m1), .val (.int b0), .val (.int b1), .val (.int b2), .val (.int b3), .val (.int b4), .val (.int b5), .val (.int b6), .val (.int b7), .val (.int (1 : Int32)), .val (.int (own_f1 e1 wT ka))] [])) t
                      refine XS.iconst X12.here hx rfl (hb hby at_184) ?_
                      show Steps p.tables e below (T12.setTop (mkF m 185 #[.val (.long q0), .second, .val (.int p1), .val (.long e1), .second, .val (.int m1), .val (.int b0), .val (.int b1), .val (.int b2), .val (.int b3), .val (.int b4), .val (.int b5), .val (.int b6), .val (.int b7), .val (.int (1 : Int32)), .val (.int (own_f1 e1 wT ka))] [(.int (1 : Int32))])) t
                      refine XS.goto X12.here hx rfl (pc0 := 185) (pc' := 189) rfl (hb hby at_185) (by decide) (by decide) ?_
                      exact k
                    obtain ⟨fs, hr, hrun, hended, hW, hsame⟩ := X12.leave (v := some (.int (nar .boolean (1 : Int32)))) (fun h => by rw [Bd.returns] at h; cases h) hlk
                    refine ⟨_, _, ?_, hrun, hended, _, _, rfl, ?_, ⟨_, rfl⟩, hW, hsame.mono (by decide) (by decide)⟩
                    · show Steps p.tables e below (T12.setTop (mkF m 189 #[.val (.long q0), .second, .val (.int p1), .val (.long e1), .second, .val (.int m1), .val (.int b0), .val (.int b1), .val (.int b2), .val (.int b3), .val (.int b4), .val (.int b5), .val (.int b6), .val (.int b7), .val (.int (1 : Int32)), .val (.int (own_f1 e1 wT ka))] [(.int (1 : Int32))])) _
                      exact retN X12 hx (t := .boolean) Bd.returns (by simp) (hb hby at_189) hr
                    · show Qrm0 Z q0 p1 wT ka h0 n0 _ (T12.setFrames fs).heap _
                      rw [show (T12.setFrames fs).heap = h0 from eq12]
                      exact ⟨rfl, N12⟩
                · refine OwnGo.of (A := s₁.setTop (mkF m 156 #[.val (.long q0), .second, .val (.int p1), .val (.long e1), .second, .val (.int m1), .val (.int b0), .val (.int b1), .val (.int b2), .val (.int b3), .val (.int b4), .val (.int b5), .val (.int b6), .val (.int b7), .unset, .unset] [(.int b6)])) (B := s₁.setTop (mkF m 172 #[.val (.long q0), .second, .val (.int p1), .val (.long e1), .second, .val (.int m1), .val (.int b0), .val (.int b1), .val (.int b2), .val (.int b3), .val (.int b4), .val (.int b5), .val (.int b6), .val (.int b7), .val (.int (0 : Int32)), .unset] [(.long e1)])) (fun t k => ?_) ?_
                  · show Steps p.tables e below (s₁.setTop (mkF m 156 #[.val (.long q0), .second, .val (.int p1), .val (.long e1), .second, .val (.int m1), .val (.int b0), .val (.int b1), .val (.int b2), .val (.int b3), .val (.int b4), .val (.int b5), .val (.int b6), .val (.int b7), .unset, .unset] [(.int b6)])) t
                    refine XS.ifYes X0.here hx rfl (pc0 := 156) (pc' := 168) rfl (hb hby at_156) rfl ((if0 _ _).trans (flt hc7).2.1) (by decide) (by decide) ?_
                    show Steps p.tables e below (s₁.setTop (mkF m 168 #[.val (.long q0), .second, .val (.int p1), .val (.long e1), .second, .val (.int m1), .val (.int b0), .val (.int b1), .val (.int b2), .val (.int b3), .val (.int b4), .val (.int b5), .val (.int b6), .val (.int b7), .unset, .unset] [])) t
                    refine XS.iconst X0.here hx rfl (hb hby at_168) ?_
                    show Steps p.tables e below (s₁.setTop (mkF m 169 #[.val (.long q0), .second, .val (.int p1), .val (.long e1), .second, .val (.int m1), .val (.int b0), .val (.int b1), .val (.int b2), .val (.int b3), .val (.int b4), .val (.int b5), .val (.int b6), .val (.int b7), .unset, .unset] [(.int (0 : Int32))])) t
                    refine XS.istore X0.here hx rfl (hb hby at_169) rfl (l' := #[.val (.long q0), .second, .val (.int p1), .val (.long e1), .second, .val (.int m1), .val (.int b0), .val (.int b1), .val (.int b2), .val (.int b3), .val (.int b4), .val (.int b5), .val (.int b6), .val (.int b7), .val (.int (0 : Int32)), .unset]) rfl ?_
                    show Steps p.tables e below (s₁.setTop (mkF m 171 #[.val (.long q0), .second, .val (.int p1), .val (.long e1), .second, .val (.int m1), .val (.int b0), .val (.int b1), .val (.int b2), .val (.int b3), .val (.int b4), .val (.int b5), .val (.int b6), .val (.int b7), .val (.int (0 : Int32)), .unset] [])) t
                    refine XS.lloadN X0.here hx rfl (hb hby at_171) rfl ?_
                    exact k
                  obtain ⟨_, _, ⟨T15, L15, k15, n15⟩, -, X15, ⟨Lc15, hQ15, l15, y15, z15⟩, st15⟩ := Jvm.LawKit.callS X0 hx (y := (⟨"com/example/sevenfold/sevenfold/Natural", "isEight", "(J)Z"⟩ : MethodName)) hown (mvT hZ (hw _ (List.mem_of_getElem? (i := 2) rfl))) (mvT hZ (hw _ (List.mem_of_getElem? (i := 3) rfl))) (mvT hZ (hw _ (List.mem_of_getElem? (i := 4) rfl))) (mvT hZ (hw _ (List.mem_of_getElem? (i := 5) rfl))) (by decide) (backOf (W := 0) (rm1 l Z aw hw [] e1 wT ka h0 n0 Z0 S_TOP_BITS V_T) hZ (hw _ (List.mem_of_getElem? (i := 5) rfl)) (hw _ (List.mem_of_getElem? (i := 4) rfl)) (by decide) (by decide)) (g := (mkF m 172 #[.val (.long q0), .second, .val (.int p1), .val (.long e1), .second, .val (.int m1), .val (.int b0), .val (.int b1), .val (.int b2), .val (.int b3), .val (.int b4), .val (.int b5), .val (.int b6), .val (.int b7), .val (.int (0 : Int32)), .unset] [(.long e1)])) rfl (by rw [hml]; rfl) (argsL := [(.long e1)]) (rest := []) (lenOf pd_1 rfl) rfl (by show 2 * 0 + _ ≤ _; exact Nat.le_of_eq rfl) (hb hby at_172) (fun _ _ => ⟨rfl, e0, (by decide : 0 + 0 ≤ _), (by decide : 0 + 0 ≤ _)⟩)
                  dsimp only [Pt.U, Pt.locs, Pt.cells, Pt.slots] at X15 l15 y15 z15 st15 hQ15
                  subst l15 y15 z15
                  obtain ⟨rfl, N15q, eq15⟩ := hQ15
                  have N15 := Fr.app N0 N15q
                  refine OwnGo.of st15 ?_
                  show OwnGo p.tables e below _ (T15.setTop (mkF m 175 #[.val (.long q0), .second, .val (.int p1), .val (.long e1), .second, .val (.int m1), .val (.int b0), .val (.int b1), .val (.int b2), .val (.int b3), .val (.int b4), .val (.int b5), .val (.int b6), .val (.int b7), .val (.int (0 : Int32)), .unset] [(.int (own_f1 e1 wT ka))]))
                  refine OwnGo.of (A := T15.setTop (mkF m 175 #[.val (.long q0), .second, .val (.int p1), .val (.long e1), .second, .val (.int m1), .val (.int b0), .val (.int b1), .val (.int b2), .val (.int b3), .val (.int b4), .val (.int b5), .val (.int b6), .val (.int b7), .val (.int (0 : Int32)), .unset] [(.int (own_f1 e1 wT ka))])) (B := T15.setTop (mkF m 181 #[.val (.long q0), .second, .val (.int p1), .val (.long e1), .second, .val (.int m1), .val (.int b0), .val (.int b1), .val (.int b2), .val (.int b3), .val (.int b4), .val (.int b5), .val (.int b6), .val (.int b7), .val (.int (0 : Int32)), .val (.int (own_f1 e1 wT ka))] [(.int (0 : Int32)), (.int (own_f1 e1 wT ka))])) (fun t k => ?_) ?_
                  · show Steps p.tables e below (T15.setTop (mkF m 175 #[.val (.long q0), .second, .val (.int p1), .val (.long e1), .second, .val (.int m1), .val (.int b0), .val (.int b1), .val (.int b2), .val (.int b3), .val (.int b4), .val (.int b5), .val (.int b6), .val (.int b7), .val (.int (0 : Int32)), .unset] [(.int (own_f1 e1 wT ka))])) t
                    refine XS.istore X15.here hx rfl (hb hby at_175) rfl (l' := #[.val (.long q0), .second, .val (.int p1), .val (.long e1), .second, .val (.int m1), .val (.int b0), .val (.int b1), .val (.int b2), .val (.int b3), .val (.int b4), .val (.int b5), .val (.int b6), .val (.int b7), .val (.int (0 : Int32)), .val (.int (own_f1 e1 wT ka))]) rfl ?_
                    show Steps p.tables e below (T15.setTop (mkF m 177 #[.val (.long q0), .second, .val (.int p1), .val (.long e1), .second, .val (.int m1), .val (.int b0), .val (.int b1), .val (.int b2), .val (.int b3), .val (.int b4), .val (.int b5), .val (.int b6), .val (.int b7), .val (.int (0 : Int32)), .val (.int (own_f1 e1 wT ka))] [])) t
                    refine XS.iload X15.here hx rfl (hb hby at_177) rfl ?_
                    show Steps p.tables e below (T15.setTop (mkF m 179 #[.val (.long q0), .second, .val (.int p1), .val (.long e1), .second, .val (.int m1), .val (.int b0), .val (.int b1), .val (.int b2), .val (.int b3), .val (.int b4), .val (.int b5), .val (.int b6), .val (.int b7), .val (.int (0 : Int32)), .val (.int (own_f1 e1 wT ka))] [(.int (own_f1 e1 wT ka))])) t
                    refine XS.iload X15.here hx rfl (hb hby at_179) rfl ?_
                    exact k
                  have hc16 : (own_f1 e1 wT ka) = (0 : Int32) := by subst hb0 hb1 hb2 hb3 hb4 hb5 hb6 hb7; rw [own_f1_eq, if_neg (fun q => hc7 (q.2.2.2.2.2.2.1))]
                  refine OwnGo.of (A := T15.setTop (mkF m 181 #[.val (.long q0), .second, .val (.int p1), .val (.long e1), .second, .val (.int m1), .val (.int b0), .val (.int b1), .val (.int b2), .val (.int b3), .val (.int b4), .val (.int b5), .val (.int b6), .val (.int b7), .val (.int (0 : Int32)), .val (.int (own_f1 e1 wT ka))] [(.int (0 : Int32)), (.int (own_f1 e1 wT ka))])) (B := T15.setTop (mkF m 189 #[.val (.long q0), .second, .val (.int p1), .val (.long e1), .second, .val (.int m1), .val (.int b0), .val (.int b1), .val (.int b2), .val (.int b3), .val (.int b4), .val (.int b5), .val (.int b6), .val (.int b7), .val (.int (0 : Int32)), .val (.int (own_f1 e1 wT ka))] [(.int (1 : Int32))])) (fun t k => ?_) ?_
                  · show Steps p.tables e below (T15.setTop (mkF m 181 #[.val (.long q0), .second, .val (.int p1), .val (.long e1), .second, .val (.int m1), .val (.int b0), .val (.int b1), .val (.int b2), .val (.int b3), .val (.int b4), .val (.int b5), .val (.int b6), .val (.int b7), .val (.int (0 : Int32)), .val (.int (own_f1 e1 wT ka))] [(.int (0 : Int32)), (.int (own_f1 e1 wT ka))])) t
                    refine XS.icmpNo X15.here hx rfl (hb hby at_181) rfl (teq hc16).2 ?_
                    show Steps p.tables e below (T15.setTop (mkF m 184 #[.val (.long q0), .second, .val (.int p1), .val (.long e1), .second, .val (.int m1), .val (.int b0), .val (.int b1), .val (.int b2), .val (.int b3), .val (.int b4), .val (.int b5), .val (.int b6), .val (.int b7), .val (.int (0 : Int32)), .val (.int (own_f1 e1 wT ka))] [])) t
                    refine XS.iconst X15.here hx rfl (hb hby at_184) ?_
                    show Steps p.tables e below (T15.setTop (mkF m 185 #[.val (.long q0), .second, .val (.int p1), .val (.long e1), .second, .val (.int m1), .val (.int b0), .val (.int b1), .val (.int b2), .val (.int b3), .val (.int b4), .val (.int b5), .val (.int b6), .val (.int b7), .val (.int (0 : Int32)), .val (.int (own_f1 e1 wT ka))] [(.int (1 : Int32))])) t
                    refine XS.goto X15.here hx rfl (pc0 := 185) (pc' := 189) rfl (hb hby at_185) (by decide) (by decide) ?_
                    exact k
                  obtain ⟨fs, hr, hrun, hended, hW, hsame⟩ := X15.leave (v := some (.int (nar .boolean (1 : Int32)))) (fun h => by rw [Bd.returns] at h; cases h) hlk
                  refine ⟨_, _, ?_, hrun, hended, _, _, rfl, ?_, ⟨_, rfl⟩, hW, hsame.mono (by decide) (by decide)⟩
                  · show Steps p.tables e below (T15.setTop (mkF m 189 #[.val (.long q0), .second, .val (.int p1), .val (.long e1), .second, .val (.int m1), .val (.int b0), .val (.int b1), .val (.int b2), .val (.int b3), .val (.int b4), .val (.int b5), .val (.int b6), .val (.int b7), .val (.int (0 : Int32)), .val (.int (own_f1 e1 wT ka))] [(.int (1 : Int32))])) _
                    exact retN X15 hx (t := .boolean) Bd.returns (by simp) (hb hby at_189) hr
                  · show Qrm0 Z q0 p1 wT ka h0 n0 _ (T15.setFrames fs).heap _
                    rw [show (T15.setFrames fs).heap = h0 from eq15]
                    exact ⟨rfl, N15⟩
              · refine OwnGo.of (A := s₁.setTop (mkF m 151 #[.val (.long q0), .second, .val (.int p1), .val (.long e1), .second, .val (.int m1), .val (.int b0), .val (.int b1), .val (.int b2), .val (.int b3), .val (.int b4), .val (.int b5), .val (.int b6), .val (.int b7), .unset, .unset] [(.int b5)])) (B := s₁.setTop (mkF m 172 #[.val (.long q0), .second, .val (.int p1), .val (.long e1), .second, .val (.int m1), .val (.int b0), .val (.int b1), .val (.int b2), .val (.int b3), .val (.int b4), .val (.int b5), .val (.int b6), .val (.int b7), .val (.int (0 : Int32)), .unset] [(.long e1)])) (fun t k => ?_) ?_
                · show Steps p.tables e below (s₁.setTop (mkF m 151 #[.val (.long q0), .second, .val (.int p1), .val (.long e1), .second, .val (.int m1), .val (.int b0), .val (.int b1), .val (.int b2), .val (.int b3), .val (.int b4), .val (.int b5), .val (.int b6), .val (.int b7), .unset, .unset] [(.int b5)])) t
                  refine XS.ifYes X0.here hx rfl (pc0 := 151) (pc' := 168) rfl (hb hby at_151) rfl ((if0 _ _).trans (flt hc6).2.1) (by decide) (by decide) ?_
                  show Steps p.tables e below (s₁.setTop (mkF m 168 #[.val (.long q0), .second, .val (.int p1), .val (.long e1), .second, .val (.int m1), .val (.int b0), .val (.int b1), .val (.int b2), .val (.int b3), .val (.int b4), .val (.int b5), .val (.int b6), .val (.int b7), .unset, .unset] [])) t
                  refine XS.iconst X0.here hx rfl (hb hby at_168) ?_
                  show Steps p.tables e below (s₁.setTop (mkF m 169 #[.val (.long q0), .second, .val (.int p1), .val (.long e1), .second, .val (.int m1), .val (.int b0), .val (.int b1), .val (.int b2), .val (.int b3), .val (.int b4), .val (.int b5), .val (.int b6), .val (.int b7), .unset, .unset] [(.int (0 : Int32))])) t
                  refine XS.istore X0.here hx rfl (hb hby at_169) rfl (l' := #[.val (.long q0), .second, .val (.int p1), .val (.long e1), .second, .val (.int m1), .val (.int b0), .val (.int b1), .val (.int b2), .val (.int b3), .val (.int b4), .val (.int b5), .val (.int b6), .val (.int b7), .val (.int (0 : Int32)), .unset]) rfl ?_
                  show Steps p.tables e below (s₁.setTop (mkF m 171 #[.val (.long q0), .second, .val (.int p1), .val (.long e1), .second, .val (.int m1), .val (.int b0), .val (.int b1), .val (.int b2), .val (.int b3), .val (.int b4), .val (.int b5), .val (.int b6), .val (.int b7), .val (.int (0 : Int32)), .unset] [])) t
                  refine XS.lloadN X0.here hx rfl (hb hby at_171) rfl ?_
                  exact k
                obtain ⟨_, _, ⟨T18, L18, k18, n18⟩, -, X18, ⟨Lc18, hQ18, l18, y18, z18⟩, st18⟩ := Jvm.LawKit.callS X0 hx (y := (⟨"com/example/sevenfold/sevenfold/Natural", "isEight", "(J)Z"⟩ : MethodName)) hown (mvT hZ (hw _ (List.mem_of_getElem? (i := 2) rfl))) (mvT hZ (hw _ (List.mem_of_getElem? (i := 3) rfl))) (mvT hZ (hw _ (List.mem_of_getElem? (i := 4) rfl))) (mvT hZ (hw _ (List.mem_of_getElem? (i := 5) rfl))) (by decide) (backOf (W := 0) (rm1 l Z aw hw [] e1 wT ka h0 n0 Z0 S_TOP_BITS V_T) hZ (hw _ (List.mem_of_getElem? (i := 5) rfl)) (hw _ (List.mem_of_getElem? (i := 4) rfl)) (by decide) (by decide)) (g := (mkF m 172 #[.val (.long q0), .second, .val (.int p1), .val (.long e1), .second, .val (.int m1), .val (.int b0), .val (.int b1), .val (.int b2), .val (.int b3), .val (.int b4), .val (.int b5), .val (.int b6), .val (.int b7), .val (.int (0 : Int32)), .unset] [(.long e1)])) rfl (by rw [hml]; rfl) (argsL := [(.long e1)]) (rest := []) (lenOf pd_1 rfl) rfl (by show 2 * 0 + _ ≤ _; exact Nat.le_of_eq rfl) (hb hby at_172) (fun _ _ => ⟨rfl, e0, (by decide : 0 + 0 ≤ _), (by decide : 0 + 0 ≤ _)⟩)
                dsimp only [Pt.U, Pt.locs, Pt.cells, Pt.slots] at X18 l18 y18 z18 st18 hQ18
                subst l18 y18 z18
                obtain ⟨rfl, N18q, eq18⟩ := hQ18
                have N18 := Fr.app N0 N18q
                refine OwnGo.of st18 ?_
                show OwnGo p.tables e below _ (T18.setTop (mkF m 175 #[.val (.long q0), .second, .val (.int p1), .val (.long e1), .second, .val (.int m1), .val (.int b0), .val (.int b1), .val (.int b2), .val (.int b3), .val (.int b4), .val (.int b5), .val (.int b6), .val (.int b7), .val (.int (0 : Int32)), .unset] [(.int (own_f1 e1 wT ka))]))
                refine OwnGo.of (A := T18.setTop (mkF m 175 #[.val (.long q0), .second, .val (.int p1), .val (.long e1), .second, .val (.int m1), .val (.int b0), .val (.int b1), .val (.int b2), .val (.int b3), .val (.int b4), .val (.int b5), .val (.int b6), .val (.int b7), .val (.int (0 : Int32)), .unset] [(.int (own_f1 e1 wT ka))])) (B := T18.setTop (mkF m 181 #[.val (.long q0), .second, .val (.int p1), .val (.long e1), .second, .val (.int m1), .val (.int b0), .val (.int b1), .val (.int b2), .val (.int b3), .val (.int b4), .val (.int b5), .val (.int b6), .val (.int b7), .val (.int (0 : Int32)), .val (.int (own_f1 e1 wT ka))] [(.int (0 : Int32)), (.int (own_f1 e1 wT ka))])) (fun t k => ?_) ?_
                · show Steps p.tables e below (T18.setTop (mkF m 175 #[.val (.long q0), .second, .val (.int p1), .val (.long e1), .second, .val (.int m1), .val (.int b0), .val (.int b1), .val (.int b2), .val (.int b3), .val (.int b4), .val (.int b5), .val (.int b6), .val (.int b7), .val (.int (0 : Int32)), .unset] [(.int (own_f1 e1 wT ka))])) t
                  refine XS.istore X18.here hx rfl (hb hby at_175) rfl (l' := #[.val (.long q0), .second, .val (.int p1), .val (.long e1), .second, .val (.int m1), .val (.int b0), .val (.int b1), .val (.int b2), .val (.int b3), .val (.int b4), .val (.int b5), .val (.int b6), .val (.int b7), .val (.int (0 : Int32)), .val (.int (own_f1 e1 wT ka))]) rfl ?_
                  show Steps p.tables e below (T18.setTop (mkF m 177 #[.val (.long q0), .second, .val (.int p1), .val (.long e1), .second, .val (.int m1), .val (.int b0), .val (.int b1), .val (.int b2), .val (.int b3), .val (.int b4), .val (.int b5), .val (.int b6), .val (.int b7), .val (.int (0 : Int32)), .val (.int (own_f1 e1 wT ka))] [])) t
                  refine XS.iload X18.here hx rfl (hb hby at_177) rfl ?_
                  show Steps p.tables e below (T18.setTop (mkF m 179 #[.val (.long q0), .second, .val (.int p1), .val (.long e1), .second, .val (.int m1), .val (.int b0), .val (.int b1), .val (.int b2), .val (.int b3), .val (.int b4), .val (.int b5), .val (.int b6), .val (.int b7), .val (.int (0 : Int32)), .val (.int (own_f1 e1 wT ka))] [(.int (own_f1 e1 wT ka))])) t
                  refine XS.iload X18.here hx rfl (hb hby at_179) rfl ?_
                  exact k
                have hc19 : (own_f1 e1 wT ka) = (0 : Int32) := by subst hb0 hb1 hb2 hb3 hb4 hb5 hb6 hb7; rw [own_f1_eq, if_neg (fun q => hc6 (q.2.2.2.2.2.1))]
                refine OwnGo.of (A := T18.setTop (mkF m 181 #[.val (.long q0), .second, .val (.int p1), .val (.long e1), .second, .val (.int m1), .val (.int b0), .val (.int b1), .val (.int b2), .val (.int b3), .val (.int b4), .val (.int b5), .val (.int b6), .val (.int b7), .val (.int (0 : Int32)), .val (.int (own_f1 e1 wT ka))] [(.int (0 : Int32)), (.int (own_f1 e1 wT ka))])) (B := T18.setTop (mkF m 189 #[.val (.long q0), .second, .val (.int p1), .val (.long e1), .second, .val (.int m1), .val (.int b0), .val (.int b1), .val (.int b2), .val (.int b3), .val (.int b4), .val (.int b5), .val (.int b6), .val (.int b7), .val (.int (0 : Int32)), .val (.int (own_f1 e1 wT ka))] [(.int (1 : Int32))])) (fun t k => ?_) ?_
                · show Steps p.tables e below (T18.setTop (mkF m 181 #[.val (.long q0), .second, .val (.int p1), .val (.long e1), .second, .val (.int m1), .val (.int b0), .val (.int b1), .val (.int b2), .val (.int b3), .val (.int b4), .val (.int b5), .val (.int b6), .val (.int b7), .val (.int (0 : Int32)), .val (.int (own_f1 e1 wT ka))] [(.int (0 : Int32)), (.int (own_f1 e1 wT ka))])) t
                  refine XS.icmpNo X18.here hx rfl (hb hby at_181) rfl (teq hc19).2 ?_
                  show Steps p.tables e below (T18.setTop (mkF m 184 #[.val (.long q0), .second, .val (.int p1), .val (.long e1), .second, .val (.int m1), .val (.int b0), .val (.int b1), .val (.int b2), .val (.int b3), .val (.int b4), .val (.int b5), .val (.int b6), .val (.int b7), .val (.int (0 : Int32)), .val (.int (own_f1 e1 wT ka))] [])) t
                  refine XS.iconst X18.here hx rfl (hb hby at_184) ?_
                  show Steps p.tables e below (T18.setTop (mkF m 185 #[.val (.long q0), .second, .val (.int p1), .val (.long e1), .second, .val (.int m1), .val (.int b0), .val (.int b1), .val (.int b2), .val (.int b3), .val (.int b4), .val (.int b5), .val (.int b6), .val (.int b7), .val (.int (0 : Int32)), .val (.int (own_f1 e1 wT ka))] [(.int (1 : Int32))])) t
                  refine XS.goto X18.here hx rfl (pc0 := 185) (pc' := 189) rfl (hb hby at_185) (by decide) (by decide) ?_
                  exact k
                obtain ⟨fs, hr, hrun, hended, hW, hsame⟩ := X18.leave (v := some (.int (nar .boolean (1 : Int32)))) (fun h => by rw [Bd.returns] at h; cases h) hlk
                refine ⟨_, _, ?_, hrun, hended, _, _, rfl, ?_, ⟨_, rfl⟩, hW, hsame.mono (by decide) (by decide)⟩
                · show Steps p.tables e below (T18.setTop (mkF m 189 #[.val (.long q0), .second, .val (.int p1), .val (.long e1), .second, .val (.int m1), .val (.int b0), .val (.int b1), .val (.int b2), .val (.int b3), .val (.int b4), .val (.int b5), .val (.int b6), .val (.int b7), .val (.int (0 : Int32)), .val (.int (own_f1 e1 wT ka))] [(.int (1 : Int32))])) _
                  exact retN X18 hx (t := .boolean) Bd.returns (by simp) (hb hby at_189) hr
                · show Qrm0 Z q0 p1 wT ka h0 n0 _ (T18.setFrames fs).heap _
                  rw [show (T18.setFrames fs).heap = h0 from eq18]
                  exact ⟨rfl, N18⟩
            · refine OwnGo.of (A := s₁.setTop (mkF m 146 #[.val (.long q0), .second, .val (.int p1), .val (.long e1), .second, .val (.int m1), .val (.int b0), .val (.int b1), .val (.int b2), .val (.int b3), .val (.int b4), .val (.int b5), .val (.int b6), .val (.int b7), .unset, .unset] [(.int b4)])) (B := s₁.setTop (mkF m 172 #[.val (.long q0), .second, .val (.int p1), .val (.long e1), .second, .val (.int m1), .val (.int b0), .val (.int b1), .val (.int b2), .val (.int b3), .val (.int b4), .val (.int b5), .val (.int b6), .val (.int b7), .val (.int (0 : Int32)), .unset] [(.long e1)])) (fun t k => ?_) ?_
              · show Steps p.tables e below (s₁.setTop (mkF m 146 #[.val (.long q0), .second, .val (.int p1), .val (.long e1), .second, .val (.int m1), .val (.int b0), .val (.int b1), .val (.int b2), .val (.int b3), .val (.int b4), .val (.int b5), .val (.int b6), .val (.int b7), .unset, .unset] [(.int b4)])) t
                refine XS.ifYes X0.here hx rfl (pc0 := 146) (pc' := 168) rfl (hb hby at_146) rfl ((if0 _ _).trans (flt hc5).2.1) (by decide) (by decide) ?_
                show Steps p.tables e below (s₁.setTop (mkF m 168 #[.val (.long q0), .second, .val (.int p1), .val (.long e1), .second, .val (.int m1), .val (.int b0), .val (.int b1), .val (.int b2), .val (.int b3), .val (.int b4), .val (.int b5), .val (.int b6), .val (.int b7), .unset, .unset] [])) t
                refine XS.iconst X0.here hx rfl (hb hby at_168) ?_
                show Steps p.tables e below (s₁.setTop (mkF m 169 #[.val (.long q0), .second, .val (.int p1), .val (.long e1), .second, .val (.int m1), .val (.int b0), .val (.int b1), .val (.int b2), .val (.int b3), .val (.int b4), .val (.int b5), .val (.int b6), .val (.int b7), .unset, .unset] [(.int (0 : Int32))])) t
                refine XS.istore X0.here hx rfl (hb hby at_169) rfl (l' := #[.val (.long q0), .second, .val (.int p1), .val (.long e1), .second, .val (.int m1), .val (.int b0), .val (.int b1), .val (.int b2), .val (.int b3), .val (.int b4), .val (.int b5), .val (.int b6), .val (.int b7), .val (.int (0 : Int32)), .unset]) rfl ?_
                show Steps p.tables e below (s₁.setTop (mkF m 171 #[.val (.long q0), .second, .val (.int p1), .val (.long e1), .second, .val (.int m1), .val (.int b0), .val (.int b1), .val (.int b2), .val (.int b3), .val (.int b4), .val (.int b5), .val (.int b6), .val (.int b7), .val (.int (0 : Int32)), .unset] [])) t
                refine XS.lloadN X0.here hx rfl (hb hby at_171) rfl ?_
                exact k
              obtain ⟨_, _, ⟨T21, L21, k21, n21⟩, -, X21, ⟨Lc21, hQ21, l21, y21, z21⟩, st21⟩ := Jvm.LawKit.callS X0 hx (y := (⟨"com/example/sevenfold/sevenfold/Natural", "isEight", "(J)Z"⟩ : MethodName)) hown (mvT hZ (hw _ (List.mem_of_getElem? (i := 2) rfl))) (mvT hZ (hw _ (List.mem_of_getElem? (i := 3) rfl))) (mvT hZ (hw _ (List.mem_of_getElem? (i := 4) rfl))) (mvT hZ (hw _ (List.mem_of_getElem? (i := 5) rfl))) (by decide) (backOf (W := 0) (rm1 l Z aw hw [] e1 wT ka h0 n0 Z0 S_TOP_BITS V_T) hZ (hw _ (List.mem_of_getElem? (i := 5) rfl)) (hw _ (List.mem_of_getElem? (i := 4) rfl)) (by decide) (by decide)) (g := (mkF m 172 #[.val (.long q0), .second, .val (.int p1), .val (.long e1), .second, .val (.int m1), .val (.int b0), .val (.int b1), .val (.int b2), .val (.int b3), .val (.int b4), .val (.int b5), .val (.int b6), .val (.int b7), .val (.int (0 : Int32)), .unset] [(.long e1)])) rfl (by rw [hml]; rfl) (argsL := [(.long e1)]) (rest := []) (lenOf pd_1 rfl) rfl (by show 2 * 0 + _ ≤ _; exact Nat.le_of_eq rfl) (hb hby at_172) (fun _ _ => ⟨rfl, e0, (by decide : 0 + 0 ≤ _), (by decide : 0 + 0 ≤ _)⟩)
              dsimp only [Pt.U, Pt.locs, Pt.cells, Pt.slots] at X21 l21 y21 z21 st21 hQ21
              subst l21 y21 z21
              obtain ⟨rfl, N21q, eq21⟩ := hQ21
              have N21 := Fr.app N0 N21q
              refine OwnGo.of st21 ?_
              show OwnGo p.tables e below _ (T21.setTop (mkF m 175 #[.val (.long q0), .second, .val (.int p1), .val (.long e1), .second, .val (.int m1), .val (.int b0), .val (.int b1), .val (.int b2), .val (.int b3), .val (.int b4), .val (.int b5), .val (.int b6), .val (.int b7), .val (.int (0 : Int32)), .unset] [(.int (own_f1 e1 wT ka))]))
              refine OwnGo.of (A := T21.setTop (mkF m 175 #[.val (.long q0), .second, .val (.int p1), .val (.long e1), .second, .val (.int m1), .val (.int b0), .val (.int b1), .val (.int b2), .val (.int b3), .val (.int b4), .val (.int b5), .val (.int b6), .val (.int b7), .val (.int (0 : Int32)), .unset] [(.int (own_f1 e1 wT ka))])) (B := T21.setTop (mkF m 181 #[.val (.long q0), .second, .val (.int p1), .val (.long e1), .second, .val (.int m1), .val (.int b0), .val (.int b1), .val (.int b2), .val (.int b3), .val (.int b4), .val (.int b5), .val (.int b6), .val (.int b7), .val (.int (0 : Int32)), .val (.int (own_f1 e1 wT ka))] [(.int (0 : Int32)), (.int (own_f1 e1 wT ka))])) (fun t k => ?_) ?_
              · show Steps p.tables e below (T21.setTop (mkF m 175 #[.val (.long q0), .second, .val (.int p1), .val (.long e1), .second, .val (.int m1), .val (.int b0), .val (.int b1), .val (.int b2), .val (.int b3), .val (.int b4), .val (.int b5), .val (.int b6), .val (.int b7), .val (.int (0 : Int32)), .unset] [(.int (own_f1 e1 wT ka))])) t
                refine XS.istore X21.here hx rfl (hb hby at_175) rfl (l' := #[.val (.long q0), .second, .val (.int p1), .val (.long e1), .second, .val (.int m1), .val (.int b0), .val (.int b1), .val (.int b2), .val (.int b3), .val (.int b4), .val (.int b5), .val (.int b6), .val (.int b7), .val (.int (0 : Int32)), .val (.int (own_f1 e1 wT ka))]) rfl ?_
                show Steps p.tables e below (T21.setTop (mkF m 177 #[.val (.long q0), .second, .val (.int p1), .val (.long e1), .second, .val (.int m1), .val (.int b0), .val (.int b1), .val (.int b2), .val (.int b3), .val (.int b4), .val (.int b5), .val (.int b6), .val (.int b7), .val (.int (0 : Int32)), .val (.int (own_f1 e1 wT ka))] [])) t
                refine XS.iload X21.here hx rfl (hb hby at_177) rfl ?_
                show Steps p.tables e below (T21.setTop (mkF m 179 #[.val (.long q0), .second, .val (.int p1), .val (.long e1), .second, .val (.int m1), .val (.int b0), .val (.int b1), .val (.int b2), .val (.int b3), .val (.int b4), .val (.int b5), .val (.int b6), .val (.int b7), .val (.int (0 : Int32)), .val (.int (own_f1 e1 wT ka))] [(.int (own_f1 e1 wT ka))])) t
                refine XS.iload X21.here hx rfl (hb hby at_179) rfl ?_
                exact k
              have hc22 : (own_f1 e1 wT ka) = (0 : Int32) := by subst hb0 hb1 hb2 hb3 hb4 hb5 hb6 hb7; rw [own_f1_eq, if_neg (fun q => hc5 (q.2.2.2.2.1))]
              refine OwnGo.of (A := T21.setTop (mkF m 181 #[.val (.long q0), .second, .val (.int p1), .val (.long e1), .second, .val (.int m1), .val (.int b0), .val (.int b1), .val (.int b2), .val (.int b3), .val (.int b4), .val (.int b5), .val (.int b6), .val (.int b7), .val (.int (0 : Int32)), .val (.int (own_f1 e1 wT ka))] [(.int (0 : Int32)), (.int (own_f1 e1 wT ka))])) (B := T21.setTop (mkF m 189 #[.val (.long q0), .second, .val (.int p1), .val (.long e1), .second, .val (.int m1), .val (.int b0), .val (.int b1), .val (.int b2), .val (.int b3), .val (.int b4), .val (.int b5), .val (.int b6), .val (.int b7), .val (.int (0 : Int32)), .val (.int (own_f1 e1 wT ka))] [(.int (1 : Int32))])) (fun t k => ?_) ?_
              · show Steps p.tables e below (T21.setTop (mkF m 181 #[.val (.long q0), .second, .val (.int p1), .val (.long e1), .second, .val (.int m1), .val (.int b0), .val (.int b1), .val (.int b2), .val (.int b3), .val (.int b4), .val (.int b5), .val (.int b6), .val (.int b7), .val (.int (0 : Int32)), .val (.int (own_f1 e1 wT ka))] [(.int (0 : Int32)), (.int (own_f1 e1 wT ka))])) t
                refine XS.icmpNo X21.here hx rfl (hb hby at_181) rfl (teq hc22).2 ?_
                show Steps p.tables e below (T21.setTop (mkF m 184 #[.val (.long q0), .second, .val (.int p1), .val (.long e1), .second, .val (.int m1), .val (.int b0), .val (.int b1), .val (.int b2), .val (.int b3), .val (.int b4), .val (.int b5), .val (.int b6), .val (.int b7), .val (.int (0 : Int32)), .val (.int (own_f1 e1 wT ka))] [])) t
                refine XS.iconst X21.here hx rfl (hb hby at_184) ?_
                show Steps p.tables e below (T21.setTop (mkF m 185 #[.val (.long q0), .second, .val (.int p1), .val (.long e1), .second, .val (.int m1), .val (.int b0), .val (.int b1), .val (.int b2), .val (.int b3), .val (.int b4), .val (.int b5), .val (.int b6), .val (.int b7), .val (.int (0 : Int32)), .val (.int (own_f1 e1 wT ka))] [(.int (1 : Int32))])) t
                refine XS.goto X21.here hx rfl (pc0 := 185) (pc' := 189) rfl (hb hby at_185) (by decide) (by decide) ?_
                exact k
              obtain ⟨fs, hr, hrun, hended, hW, hsame⟩ := X21.leave (v := some (.int (nar .boolean (1 : Int32)))) (fun h => by rw [Bd.returns] at h; cases h) hlk
              refine ⟨_, _, ?_, hrun, hended, _, _, rfl, ?_, ⟨_, rfl⟩, hW, hsame.mono (by decide) (by decide)⟩
              · show Steps p.tables e below (T21.setTop (mkF m 189 #[.val (.long q0), .second, .val (.int p1), .val (.long e1), .second, .val (.int m1), .val (.int b0), .val (.int b1), .val (.int b2), .val (.int b3), .val (.int b4), .val (.int b5), .val (.int b6), .val (.int b7), .val (.int (0 : Int32)), .val (.int (own_f1 e1 wT ka))] [(.int (1 : Int32))])) _
                exact retN X21 hx (t := .boolean) Bd.returns (by simp) (hb hby at_189) hr
              · show Qrm0 Z q0 p1 wT ka h0 n0 _ (T21.setFrames fs).heap _
                rw [show (T21.setFrames fs).heap = h0 from eq21]
                exact ⟨rfl, N21⟩
          · refine OwnGo.of (A := s₁.setTop (mkF m 141 #[.val (.long q0), .second, .val (.int p1), .val (.long e1), .second, .val (.int m1), .val (.int b0), .val (.int b1), .val (.int b2), .val (.int b3), .val (.int b4), .val (.int b5), .val (.int b6), .val (.int b7), .unset, .unset] [(.int b3)])) (B := s₁.setTop (mkF m 172 #[.val (.long q0), .second, .val (.int p1), .val (.long e1), .second, .val (.int m1), .val (.int b0), .val (.int b1), .val (.int b2), .val (.int b3), .val (.int b4), .val (.int b5), .val (.int b6), .val (.int b7), .val (.int (0 : Int32)), .unset] [(.long e1)])) (fun t k => ?_) ?_
            · show Steps p.tables e below (s₁.setTop (mkF m 141 #[.val (.long q0), .second, .val (.int p1), .val (.long e1), .second, .val (.int m1), .val (.int b0), .val (.int b1), .val (.int b2), .val (.int b3), .val (.int b4), .val (.int b5), .val (.int b6), .val (.int b7), .unset, .unset] [(.int b3)])) t
              refine XS.ifYes X0.here hx rfl (pc0 := 141) (pc' := 168) rfl (hb hby at_141) rfl ((if0 _ _).trans (flt hc4).2.1) (by decide) (by decide) ?_
              show Steps p.tables e below (s₁.setTop (mkF m 168 #[.val (.long q0), .second, .val (.int p1), .val (.long e1), .second, .val (.int m1), .val (.int b0), .val (.int b1), .val (.int b2), .val (.int b3), .val (.int b4), .val (.int b5), .val (.int b6), .val (.int b7), .unset, .unset] [])) t
              refine XS.iconst X0.here hx rfl (hb hby at_168) ?_
              show Steps p.tables e below (s₁.setTop (mkF m 169 #[.val (.long q0), .second, .val (.int p1), .val (.long e1), .second, .val (.int m1), .val (.int b0), .val (.int b1), .val (.int b2), .val (.int b3), .val (.int b4), .val (.int b5), .val (.int b6), .val (.int b7), .unset, .unset] [(.int (0 : Int32))])) t
              refine XS.istore X0.here hx rfl (hb hby at_169) rfl (l' := #[.val (.long q0), .second, .val (.int p1), .val (.long e1), .second, .val (.int m1), .val (.int b0), .val (.int b1), .val (.int b2), .val (.int b3), .val (.int b4), .val (.int b5), .val (.int b6), .val (.int b7), .val (.int (0 : Int32)), .unset]) rfl ?_
              show Steps p.tables e below (s₁.setTop (mkF m 171 #[.val (.long q0), .second, .val (.int p1), .val (.long e1), .second, .val (.int m1), .val (.int b0), .val (.int b1), .val (.int b2), .val (.int b3), .val (.int b4), .val (.int b5), .val (.int b6), .val (.int b7), .val (.int (0 : Int32)), .unset] [])) t
              refine XS.lloadN X0.here hx rfl (hb hby at_171) rfl ?_
              exact k
            obtain ⟨_, _, ⟨T24, L24, k24, n24⟩, -, X24, ⟨Lc24, hQ24, l24, y24, z24⟩, st24⟩ := Jvm.LawKit.callS X0 hx (y := (⟨"com/example/sevenfold/sevenfold/Natural", "isEight", "(J)Z"⟩ : MethodName)) hown (mvT hZ (hw _ (List.mem_of_getElem? (i := 2) rfl))) (mvT hZ (hw _ (List.mem_of_getElem? (i := 3) rfl))) (mvT hZ (hw _ (List.mem_of_getElem? (i := 4) rfl))) (mvT hZ (hw _ (List.mem_of_getElem? (i := 5) rfl))) (by decide) (backOf (W := 0) (rm1 l Z aw hw [] e1 wT ka h0 n0 Z0 S_TOP_BITS V_T) hZ (hw _ (List.mem_of_getElem? (i := 5) rfl)) (hw _ (List.mem_of_getElem? (i := 4) rfl)) (by decide) (by decide)) (g := (mkF m 172 #[.val (.long q0), .second, .val (.int p1), .val (.long e1), .second, .val (.int m1), .val (.int b0), .val (.int b1), .val (.int b2), .val (.int b3), .val (.int b4), .val (.int b5), .val (.int b6), .val (.int b7), .val (.int (0 : Int32)), .unset] [(.long e1)])) rfl (by rw [hml]; rfl) (argsL := [(.long e1)]) (rest := []) (lenOf pd_1 rfl) rfl (by show 2 * 0 + _ ≤ _; exact Nat.le_of_eq rfl) (hb hby at_172) (fun _ _ => ⟨rfl, e0, (by decide : 0 + 0 ≤ _), (by decide : 0 + 0 ≤ _)⟩)
            dsimp only [Pt.U, Pt.locs, Pt.cells, Pt.slots] at X24 l24 y24 z24 st24 hQ24
            subst l24 y24 z24
            obtain ⟨rfl, N24q, eq24⟩ := hQ24
            have N24 := Fr.app N0 N24q
            refine OwnGo.of st24 ?_
            show OwnGo p.tables e below _ (T24.setTop (mkF m 175 #[.val (.long q0), .second, .val (.int p1), .val (.long e1), .second, .val (.int m1), .val (.int b0), .val (.int b1), .val (.int b2), .val (.int b3), .val (.int b4), .val (.int b5), .val (.int b6), .val (.int b7), .val (.int (0 : Int32)), .unset] [(.int (own_f1 e1 wT ka))]))
            refine OwnGo.of (A := T24.setTop (mkF m 175 #[.val (.long q0), .second, .val (.int p1), .val (.long e1), .second, .val (.int m1), .val (.int b0), .val (.int b1), .val (.int b2), .val (.int b3), .val (.int b4), .val (.int b5), .val (.int b6), .val (.int b7), .val (.int (0 : Int32)), .unset] [(.int (own_f1 e1 wT ka))])) (B := T24.setTop (mkF m 181 #[.val (.long q0), .second, .val (.int p1), .val (.long e1), .second, .val (.int m1), .val (.int b0), .val (.int b1), .val (.int b2), .val (.int b3), .val (.int b4), .val (.int b5), .val (.int b6), .val (.int b7), .val (.int (0 : Int32)), .val (.int (own_f1 e1 wT ka))] [(.int (0 : Int32)), (.int (own_f1 e1 wT ka))])) (fun t k => ?_) ?_
            · show Steps p.tables e below (T24.setTop (mkF m 175 #[.val (.long q0), .second, .val (.int p1), .val (.long e1), .second, .val (.int m1), .val (.int b0), .val (.int b1), .val (.int b2), .val (.int b3), .val (.int b4), .val (.int b5), .val (.int b6), .val (.int b7), .val (.int (0 : Int32)), .unset] [(.int (own_f1 e1 wT ka))])) t
              refine XS.istore X24.here hx rfl (hb hby at_175) rfl (l' := #[.val (.long q0), .second, .val (.int p1), .val (.long e1), .second, .val (.int m1), .val (.int b0), .val (.int b1), .val (.int b2), .val (.int b3), .val (.int b4), .val (.int b5), .val (.int b6), .val (.int b7), .val (.int (0 : Int32)), .val (.int (own_f1 e1 wT ka))]) rfl ?_
              show Steps p.tables e below (T24.setTop (mkF m 177 #[.val (.long q0), .second, .val (.int p1), .val (.long e1), .second, .val (.int m1), .val (.int b0), .val (.int b1), .val (.int b2), .val (.int b3), .val (.int b4), .val (.int b5), .val (.int b6), .val (.int b7), .val (.int (0 : Int32)), .val (.int (own_f1 e1 wT ka))] [])) t
              refine XS.iload X24.here hx rfl (hb hby at_177) rfl ?_
              show Steps p.tables e below (T24.setTop (mkF m 179 #[.val (.long q0), .second, .val (.int p1), .val (.long e1), .second, .val (.int m1), .val (.int b0), .val (.int b1), .val (.int b2), .val (.int b3), .val (.int b4), .val (.int b5), .val (.int b6), .val (.int b7), .val (.int (0 : Int32)), .val (.int (own_f1 e1 wT ka))] [(.int (own_f1 e1 wT ka))])) t
              refine XS.iload X24.here hx rfl (hb hby at_179) rfl ?_
              exact k
            have hc25 : (own_f1 e1 wT ka) = (0 : Int32) := by subst hb0 hb1 hb2 hb3 hb4 hb5 hb6 hb7; rw [own_f1_eq, if_neg (fun q => hc4 (q.2.2.2.1))]
            refine OwnGo.of (A := T24.setTop (mkF m 181 #[.val (.long q0), .second, .val (.int p1), .val (.long e1), .second, .val (.int m1), .val (.int b0), .val (.int b1), .val (.int b2), .val (.int b3), .val (.int b4), .val (.int b5), .val (.int b6), .val (.int b7), .val (.int (0 : Int32)), .val (.int (own_f1 e1 wT ka))] [(.int (0 : Int32)), (.int (own_f1 e1 wT ka))])) (B := T24.setTop (mkF m 189 #[.val (.long q0), .second, .val (.int p1), .val (.long e1), .second, .val (.int m1), .val (.int b0), .val (.int b1), .val (.int b2), .val (.int b3), .val (.int b4), .val (.int b5), .val (.int b6), .val (.int b7), .val (.int (0 : Int32)), .val (.int (own_f1 e1 wT ka))] [(.int (1 : Int32))])) (fun t k => ?_) ?_
            · show Steps p.tables e below (T24.setTop (mkF m 181 #[.val (.long q0), .second, .val (.int p1), .val (.long e1), .second, .val (.int m1), .val (.int b0), .val (.int b1), .val (.int b2), .val (.int b3), .val (.int b4), .val (.int b5), .val (.int b6), .val (.int b7), .val (.int (0 : Int32)), .val (.int (own_f1 e1 wT ka))] [(.int (0 : Int32)), (.int (own_f1 e1 wT ka))])) t
              refine XS.icmpNo X24.here hx rfl (hb hby at_181) rfl (teq hc25).2 ?_
              show Steps p.tables e below (T24.setTop (mkF m 184 #[.val (.long q0), .second, .val (.int p1), .val (.long e1), .second, .val (.int m1), .val (.int b0), .val (.int b1), .val (.int b2), .val (.int b3), .val (.int b4), .val (.int b5), .val (.int b6), .val (.int b7), .val (.int (0 : Int32)), .val (.int (own_f1 e1 wT ka))] [])) t
              refine XS.iconst X24.here hx rfl (hb hby at_184) ?_
              show Steps p.tables e below (T24.setTop (mkF m 185 #[.val (.long q0), .second, .val (.int p1), .val (.long e1), .second, .val (.int m1), .val (.int b0), .val (.int b1), .val (.int b2), .val (.int b3), .val (.int b4), .val (.int b5), .val (.int b6), .val (.int b7), .val (.int (0 : Int32)), .val (.int (own_f1 e1 wT ka))] [(.int (1 : Int32))])) t
              refine XS.goto X24.here hx rfl (pc0 := 185) (pc' := 189) rfl (hb hby at_185) (by decide) (by decide) ?_
              exact k
            obtain ⟨fs, hr, hrun, hended, hW, hsame⟩ := X24.leave (v := some (.int (nar .boolean (1 : Int32)))) (fun h => by rw [Bd.returns] at h; cases h) hlk
            refine ⟨_, _, ?_, hrun, hended, _, _, rfl, ?_, ⟨_, rfl⟩, hW, hsame.mono (by decide) (by decide)⟩
            · show Steps p.tables e below (T24.setTop (mkF m 189 #[.val (.long q0), .second, .val (.int p1), .val (.long e1), .second, .val (.int m1), .val (.int b0), .val (.int b1), .val (.int b2), .val (.int b3), .val (.int b4), .val (.int b5), .val (.int b6), .val (.int b7), .val (.int (0 : Int32)), .val (.int (own_f1 e1 wT ka))] [(.int (1 : Int32))])) _
              exact retN X24 hx (t := .boolean) Bd.returns (by simp) (hb hby at_189) hr
            · show Qrm0 Z q0 p1 wT ka h0 n0 _ (T24.setFrames fs).heap _
              rw [show (T24.setFrames fs).heap = h0 from eq24]
              exact ⟨rfl, N24⟩
        · refine OwnGo.of (A := s₁.setTop (mkF m 136 #[.val (.long q0), .second, .val (.int p1), .val (.long e1), .second, .val (.int m1), .val (.int b0), .val (.int b1), .val (.int b2), .val (.int b3), .val (.int b4), .val (.int b5), .val (.int b6), .val (.int b7), .unset, .unset] [(.int b2)])) (B := s₁.setTop (mkF m 172 #[.val (.long q0), .second, .val (.int p1), .val (.long e1), .second, .val (.int m1), .val (.int b0), .val (.int b1), .val (.int b2), .val (.int b3), .val (.int b4), .val (.int b5), .val (.int b6), .val (.int b7), .val (.int (0 : Int32)), .unset] [(.long e1)])) (fun t k => ?_) ?_
          · show Steps p.tables e below (s₁.setTop (mkF m 136 #[.val (.long q0), .second, .val (.int p1), .val (.long e1), .second, .val (.int m1), .val (.int b0), .val (.int b1), .val (.int b2), .val (.int b3), .val (.int b4), .val (.int b5), .val (.int b6), .val (.int b7), .unset, .unset] [(.int b2)])) t
            refine XS.ifYes X0.here hx rfl (pc0 := 136) (pc' := 168) rfl (hb hby at_136) rfl ((if0 _ _).trans (flt hc3).2.1) (by decide) (by decide) ?_
            show Steps p.tables e below (s₁.setTop (mkF m 168 #[.val (.long q0), .second, .val (.int p1), .val (.long e1), .second, .val (.int m1), .val (.int b0), .val (.int b1), .val (.int b2), .val (.int b3), .val (.int b4), .val (.int b5), .val (.int b6), .val (.int b7), .unset, .unset] [])) t
            refine XS.iconst X0.here hx rfl (hb hby at_168) ?_
            show Steps p.tables e below (s₁.setTop (mkF m 169 #[.val (.long q0), .second, .val (.int p1), .val (.long e1), .second, .val (.int m1), .val (.int b0), .val (.int b1), .val (.int b2), .val (.int b3), .val (.int b4), .val (.int b5), .val (.int b6), .val (.int b7), .unset, .unset] [(.int (0 : Int32))])) t
            refine XS.istore X0.here hx rfl (hb hby at_169) rfl (l' := #[.val (.long q0), .second, .val (.int p1), .val (.long e1), .second, .val (.int m1), .val (.int b0), .val (.int b1), .val (.int b2), .val (.int b3), .val (.int b4), .val (.int b5), .val (.int b6), .val (.int b7), .val (.int (0 : Int32)), .unset]) rfl ?_
            show Steps p.tables e below (s₁.setTop (mkF m 171 #[.val (.long q0), .second, .val (.int p1), .val (.long e1), .second, .val (.int m1), .val (.int b0), .val (.int b1), .val (.int b2), .val (.int b3), .val (.int b4), .val (.int b5), .val (.int b6), .val (.int b7), .val (.int (0 : Int32)), .unset] [])) t
            refine XS.lloadN X0.here hx rfl (hb hby at_171) rfl ?_
            exact k
          obtain ⟨_, _, ⟨T27, L27, k27, n27⟩, -, X27, ⟨Lc27, hQ27, l27, y27, z27⟩, st27⟩ := Jvm.LawKit.callS X0 hx (y := (⟨"com/example/sevenfold/sevenfold/Natural", "isEight", "(J)Z"⟩ : MethodName)) hown (mvT hZ (hw _ (List.mem_of_getElem? (i := 2) rfl))) (mvT hZ (hw _ (List.mem_of_getElem? (i := 3) rfl))) (mvT hZ (hw _ (List.mem_of_getElem? (i := 4) rfl))) (mvT hZ (hw _ (List.mem_of_getElem? (i := 5) rfl))) (by decide) (backOf (W := 0) (rm1 l Z aw hw [] e1 wT ka h0 n0 Z0 S_TOP_BITS V_T) hZ (hw _ (List.mem_of_getElem? (i := 5) rfl)) (hw _ (List.mem_of_getElem? (i := 4) rfl)) (by decide) (by decide)) (g := (mkF m 172 #[.val (.long q0), .second, .val (.int p1), .val (.long e1), .second, .val (.int m1), .val (.int b0), .val (.int b1), .val (.int b2), .val (.int b3), .val (.int b4), .val (.int b5), .val (.int b6), .val (.int b7), .val (.int (0 : Int32)), .unset] [(.long e1)])) rfl (by rw [hml]; rfl) (argsL := [(.long e1)]) (rest := []) (lenOf pd_1 rfl) rfl (by show 2 * 0 + _ ≤ _; exact Nat.le_of_eq rfl) (hb hby at_172) (fun _ _ => ⟨rfl, e0, (by decide : 0 + 0 ≤ _), (by decide : 0 + 0 ≤ _)⟩)
          dsimp only [Pt.U, Pt.locs, Pt.cells, Pt.slots] at X27 l27 y27 z27 st27 hQ27
          subst l27 y27 z27
          obtain ⟨rfl, N27q, eq27⟩ := hQ27
          have N27 := Fr.app N0 N27q
          refine OwnGo.of st27 ?_
          show OwnGo p.tables e below _ (T27.setTop (mkF m 175 #[.val (.long q0), .second, .val (.int p1), .val (.long e1), .second, .val (.int m1), .val (.int b0), .val (.int b1), .val (.int b2), .val (.int b3), .val (.int b4), .val (.int b5), .val (.int b6), .val (.int b7), .val (.int (0 : Int32)), .unset] [(.int (own_f1 e1 wT ka))]))
          refine OwnGo.of (A := T27.setTop (mkF m 175 #[.val (.long q0), .second, .val (.int p1), .val (.long e1), .second, .val (.int m1), .val (.int b0), .val (.int b1), .val (.int b2), .val (.int b3), .val (.int b4), .val (.int b5), .val (.int b6), .val (.int b7), .val (.int (0 : Int32)), .unset] [(.int (own_f1 e1 wT ka))])) (B := T27.setTop (mkF m 181 #[.val (.long q0), .second, .val (.int p1), .val (.long e1), .second, .val (.int m1), .val (.int b0), .val (.int b1), .val (.int b2), .val (.int b3), .val (.int b4), .val (.int b5), .val (.int b6), .val (.int b7), .val (.int (0 : Int32)), .val (.int (own_f1 e1 wT ka))] [(.int (0 : Int32)), (.int (own_f1 e1 wT ka))])) (fun t k => ?_) ?_
          · show Steps p.tables e below (T27.setTop (mkF m 175 #[.val (.long q0), .second, .val (.int p1), .val (.long e1), .second, .val (.int m1), .val (.int b0), .val (.int b1), .val (.int b2), .val (.int b3), .val (.int b4), .val (.int b5), .val (.int b6), .val (.int b7), .val (.int (0 : Int32)), .unset] [(.int (own_f1 e1 wT ka))])) t
            refine XS.istore X27.here hx rfl (hb hby at_175) rfl (l' := #[.val (.long q0), .second, .val (.int p1), .val (.long e1), .second, .val (.int m1), .val (.int b0), .val (.int b1), .val (.int b2), .val (.int b3), .val (.int b4), .val (.int b5), .val (.int b6), .val (.int b7), .val (.int (0 : Int32)), .val (.int (own_f1 e1 wT ka))]) rfl ?_
            show Steps p.tables e below (T27.setTop (mkF m 177 #[.val (.long q0), .second, .val (.int p1), .val (.long e1), .second, .val (.int m1), .val (.int b0), .val (.int b1), .val (.int b2), .val (.int b3), .val (.int b4), .val (.int b5), .val (.int b6), .val (.int b7), .val (.int (0 : Int32)), .val (.int (own_f1 e1 wT ka))] [])) t
            refine XS.iload X27.here hx rfl (hb hby at_177) rfl ?_
            show Steps p.tables e below (T27.setTop (mkF m 179 #[.val (.long q0), .second, .val (.int p1), .val (.long e1), .second, .val (.int m1), .val (.int b0), .val (.int b1), .val (.int b2), .val (.int b3), .val (.int b4), .val (.int b5), .val (.int b6), .val (.int b7), .val (.int (0 : Int32)), .val (.int (own_f1 e1 wT ka))] [(.int (own_f1 e1 wT ka))])) t
            refine XS.iload X27.here hx rfl (hb hby at_179) rfl ?_
            exact k
          have hc28 : (own_f1 e1 wT ka) = (0 : Int32) := by subst hb0 hb1 hb2 hb3 hb4 hb5 hb6 hb7; rw [own_f1_eq, if_neg (fun q => hc3 (q.2.2.1))]
          refine OwnGo.of (A := T27.setTop (mkF m 181 #[.val (.long q0), .second, .val (.int p1), .val (.long e1), .second, .val (.int m1), .val (.int b0), .val (.int b1), .val (.int b2), .val (.int b3), .val (.int b4), .val (.int b5), .val (.int b6), .val (.int b7), .val (.int (0 : Int32)), .val (.int (own_f1 e1 wT ka))] [(.int (0 : Int32)), (.int (own_f1 e1 wT ka))])) (B := T27.setTop (mkF m 189 #[.val (.long q0), .second, .val (.int p1), .val (.long e1), .second, .val (.int m1), .val (.int b0), .val (.int b1), .val (.int b2), .val (.int b3), .val (.int b4), .val (.int b5), .val (.int b6), .val (.int b7), .val (.int (0 : Int32)), .val (.int (own_f1 e1 wT ka))] [(.int (1 : Int32))])) (fun t k => ?_) ?_
          · show Steps p.tables e below (T27.setTop (mkF m 181 #[.val (.long q0), .second, .val (.int p1), .val (.long e1), .second, .val (.int m1), .val (.int b0), .val (.int b1), .val (.int b2), .val (.int b3), .val (.int b4), .val (.int b5), .val (.int b6), .val (.int b7), .val (.int (0 : Int32)), .val (.int (own_f1 e1 wT ka))] [(.int (0 : Int32)), (.int (own_f1 e1 wT ka))])) t
            refine XS.icmpNo X27.here hx rfl (hb hby at_181) rfl (teq hc28).2 ?_
            show Steps p.tables e below (T27.setTop (mkF m 184 #[.val (.long q0), .second, .val (.int p1), .val (.long e1), .second, .val (.int m1), .val (.int b0), .val (.int b1), .val (.int b2), .val (.int b3), .val (.int b4), .val (.int b5), .val (.int b6), .val (.int b7), .val (.int (0 : Int32)), .val (.int (own_f1 e1 wT ka))] [])) t
            refine XS.iconst X27.here hx rfl (hb hby at_184) ?_
            show Steps p.tables e below (T27.setTop (mkF m 185 #[.val (.long q0), .second, .val (.int p1), .val (.long e1), .second, .val (.int m1), .val (.int b0), .val (.int b1), .val (.int b2), .val (.int b3), .val (.int b4), .val (.int b5), .val (.int b6), .val (.int b7), .val (.int (0 : Int32)), .val (.int (own_f1 e1 wT ka))] [(.int (1 : Int32))])) t
            refine XS.goto X27.here hx rfl (pc0 := 185) (pc' := 189) rfl (hb hby at_185) (by decide) (by decide) ?_
            exact k
          obtain ⟨fs, hr, hrun, hended, hW, hsame⟩ := X27.leave (v := some (.int (nar .boolean (1 : Int32)))) (fun h => by rw [Bd.returns] at h; cases h) hlk
          refine ⟨_, _, ?_, hrun, hended, _, _, rfl, ?_, ⟨_, rfl⟩, hW, hsame.mono (by decide) (by decide)⟩
          · show Steps p.tables e below (T27.setTop (mkF m 189 #[.val (.long q0), .second, .val (.int p1), .val (.long e1), .second, .val (.int m1), .val (.int b0), .val (.int b1), .val (.int b2), .val (.int b3), .val (.int b4), .val (.int b5), .val (.int b6), .val (.int b7), .val (.int (0 : Int32)), .val (.int (own_f1 e1 wT ka))] [(.int (1 : Int32))])) _
            exact retN X27 hx (t := .boolean) Bd.returns (by simp) (hb hby at_189) hr
          · show Qrm0 Z q0 p1 wT ka h0 n0 _ (T27.setFrames fs).heap _
            rw [show (T27.setFrames fs).heap = h0 from eq27]
            exact ⟨rfl, N27⟩
      · refine OwnGo.of (A := s₁.setTop (mkF m 131 #[.val (.long q0), .second, .val (.int p1), .val (.long e1), .second, .val (.int m1), .val (.int b0), .val (.int b1), .val (.int b2), .val (.int b3), .val (.int b4), .val (.int b5), .val (.int b6), .val (.int b7), .unset, .unset] [(.int b1)])) (B := s₁.setTop (mkF m 172 #[.val (.long q0), .second, .val (.int p1), .val (.long e1), .second, .val (.int m1), .val (.int b0), .val (.int b1), .val (.int b2), .val (.int b3), .val (.int b4), .val (.int b5), .val (.int b6), .val (.int b7), .val (.int (0 : Int32)), .unset] [(.long e1)])) (fun t k => ?_) ?_
        · show Steps p.tables e below (s₁.setTop (mkF m 131 #[.val (.long q0), .second, .val (.int p1), .val (.long e1), .second, .val (.int m1), .val (.int b0), .val (.int b1), .val (.int b2), .val (.int b3), .val (.int b4), .val (.int b5), .val (.int b6), .val (.int b7), .unset, .unset] [(.int b1)])) t
          refine XS.ifYes X0.here hx rfl (pc0 := 131) (pc' := 168) rfl (hb hby at_131) rfl ((if0 _ _).trans (flt hc2).2.1) (by decide) (by decide) ?_
          show Steps p.tables e below (s₁.setTop (mkF m 168 #[.val (.long q0), .second, .val (.int p1), .val (.long e1), .second, .val (.int m1), .val (.int b0), .val (.int b1), .val (.int b2), .val (.int b3), .val (.int b4), .val (.int b5), .val (.int b6), .val (.int b7), .unset, .unset] [])) t
          refine XS.iconst X0.here hx rfl (hb hby at_168) ?_
          show Steps p.tables e below (s₁.setTop (mkF m 169 #[.val (.long q0), .second, .val (.int p1), .val (.long e1), .second, .val (.int m1), .val (.int b0), .val (.int b1), .val (.int b2), .val (.int b3), .val (.int b4), .val (.int b5), .val (.int b6), .val (.int b7), .unset, .unset] [(.int (0 : Int32))])) t
          refine XS.istore X0.here hx rfl (hb hby at_169) rfl (l' := #[.val (.long q0), .second, .val (.int p1), .val (.long e1), .second, .val (.int m1), .val (.int b0), .val (.int b1), .val (.int b2), .val (.int b3), .val (.int b4), .val (.int b5), .val (.int b6), .val (.int b7), .val (.int (0 : Int32)), .unset]) rfl ?_
          show Steps p.tables e below (s₁.setTop (mkF m 171 #[.val (.long q0), .second, .val (.int p1), .val (.long e1), .second, .val (.int m1), .val (.int b0), .val (.int b1), .val (.int b2), .val (.int b3), .val (.int b4), .val (.int b5), .val (.int b6), .val (.int b7), .val (.int (0 : Int32)), .unset] [])) t
          refine XS.lloadN X0.here hx rfl (hb hby at_171) rfl ?_
          exact k
        obtain ⟨_, _, ⟨T30, L30, k30, n30⟩, -, X30, ⟨Lc30, hQ30, l30, y30, z30⟩, st30⟩ := Jvm.LawKit.callS X0 hx (y := (⟨"com/example/sevenfold/sevenfold/Natural", "isEight", "(J)Z"⟩ : MethodName)) hown (mvT hZ (hw _ (List.mem_of_getElem? (i := 2) rfl))) (mvT hZ (hw _ (List.mem_of_getElem? (i := 3) rfl))) (mvT hZ (hw _ (List.mem_of_getElem? (i := 4) rfl))) (mvT hZ (hw _ (List.mem_of_getElem? (i := 5) rfl))) (by decide) (backOf (W := 0) (rm1 l Z aw hw [] e1 wT ka h0 n0 Z0 S_TOP_BITS V_T) hZ (hw _ (List.mem_of_getElem? (i := 5) rfl)) (hw _ (List.mem_of_getElem? (i := 4) rfl)) (by decide) (by decide)) (g := (mkF m 172 #[.val (.long q0), .second, .val (.int p1), .val (.long e1), .second, .val (.int m1), .val (.int b0), .val (.int b1), .val (.int b2), .val (.int b3), .val (.int b4), .val (.int b5), .val (.int b6), .val (.int b7), .val (.int (0 : Int32)), .unset] [(.long e1)])) rfl (by rw [hml]; rfl) (argsL := [(.long e1)]) (rest := []) (lenOf pd_1 rfl) rfl (by show 2 * 0 + _ ≤ _; exact Nat.le_of_eq rfl) (hb hby at_172) (fun _ _ => ⟨rfl, e0, (by decide : 0 + 0 ≤ _), (by decide : 0 + 0 ≤ _)⟩)
        dsimp only [Pt.U, Pt.locs, Pt.cells, Pt.slots] at X30 l30 y30 z30 st30 hQ30
        subst l30 y30 z30
        obtain ⟨rfl, N30q, eq30⟩ := hQ30
        have N30 := Fr.app N0 N30q
        refine OwnGo.of st30 ?_
        show OwnGo p.tables e below _ (T30.setTop (mkF m 175 #[.val (.long q0), .second, .val (.int p1), .val (.long e1), .second, .val (.int m1), .val (.int b0), .val (.int b1), .val (.int b2), .val (.int b3), .val (.int b4), .val (.int b5), .val (.int b6), .val (.int b7), .val (.int (0 : Int32)), .unset] [(.int (own_f1 e1 wT ka))]))
        refine OwnGo.of (A := T30.setTop (mkF m 175 #[.val (.long q0), .second, .val (.int p1), .val (.long e1), .second, .val (.int m1), .val (.int b0), .val (.int b1), .val (.int b2), .val (.int b3), .val (.int b4), .val (.int b5), .val (.int b6), .val (.int b7), .val (.int (0 : Int32)), .unset] [(.int (own_f1 e1 wT ka))])) (B := T30.setTop (mkF m 181 #[.val (.long q0), .second, .val (.int p1), .val (.long e1), .second, .val (.int m1), .val (.int b0), .val (.int b1), .val (.int b2), .val (.int b3), .val (.int b4), .val (.int b5), .val (.int b6), .val (.int b7), .val (.int (0 : Int32)), .val (.int (own_f1 e1 wT ka))] [(.int (0 : Int32)), (.int (own_f1 e1 wT ka))])) (fun t k => ?_) ?_
        · show Steps p.tables e below (T30.setTop (mkF m 175 #[.val (.long q0), .second, .val (.int p1), .val (.long e1), .second, .val (.int m1), .val (.int b0), .val (.int b1), .val (.int b2), .val (.int b3), .val (.int b4), .val (.int b5), .val (.int b6), .val (.int b7), .val (.int (0 : Int32)), .unset] [(.int (own_f1 e1 wT ka))])) t
          refine XS.istore X30.here hx rfl (hb hby at_175) rfl (l' := #[.val (.long q0), .second, .val (.int p1), .val (.long e1), .second, .val (.int m1), .val (.int b0), .val (.int b1), .val (.int b2), .val (.int b3), .val (.int b4), .val (.int b5), .val (.int b6), .val (.int b7), .val (.int (0 : Int32)), .val (.int (own_f1 e1 wT ka))]) rfl ?_
          show Steps p.tables e below (T30.setTop (mkF m 177 #[.val (.long q0), .second, .val (.int p1), .val (.long e1), .second, .val (.int m1), .val (.int b0), .val (.int b1), .val (.int b2), .val (.int b3), .val (.int b4), .val (.int b5), .val (.int b6), .val (.int b7), .val (.int (0 : Int32)), .val (.int (own_f1 e1 wT ka))] [])) t
          refine XS.iload X30.here hx rfl (hb hby at_177) rfl ?_
          show Steps p.tables e below (T30.setTop (mkF m 179 #[.val (.long q0), .second, .val (.int p1), .val (.long e1), .second, .val (.int m1), .val (.int b0), .val (.int b1), .val (.int b2), .val (.int b3), .val (.int b4), .val (.int b5), .val (.int b6), .val (.int b7), .val (.int (0 : Int32)), .val (.int (own_f1 e1 wT ka))] [(.int (own_f1 e1 wT ka))])) t
          refine XS.iload X30.here hx rfl (hb hby at_179) rfl ?_
          exact k
        have hc31 : (own_f1 e1 wT ka) = (0 : Int32) := by subst hb0 hb1 hb2 hb3 hb4 hb5 hb6 hb7; rw [own_f1_eq, if_neg (fun q => hc2 (q.2.1))]
        refine OwnGo.of (A := T30.setTop (mkF m 181 #[.val (.long q0), .second, .val (.int p1), .val (.long e1), .second, .val (.int m1), .val (.int b0), .val (.int b1), .val (.int b2), .val (.int b3), .val (.int b4), .val (.int b5), .val (.int b6), .val (.int b7), .val (.int (0 : Int32)), .val (.int (own_f1 e1 wT ka))] [(.int (0 : Int32)), (.int (own_f1 e1 wT ka))])) (B := T30.setTop (mkF m 189 #[.val (.long q0), .second, .val (.int p1), .val (.long e1), .second, .val (.int m1), .val (.int b0), .val (.int b1), .val (.int b2), .val (.int b3), .val (.int b4), .val (.int b5), .val (.int b6), .val (.int b7), .val (.int (0 : Int32)), .val (.int (own_f1 e1 wT ka))] [(.int (1 : Int32))])) (fun t k => ?_) ?_
        · show Steps p.tables e below (T30.setTop (mkF m 181 #[.val (.long q0), .second, .val (.int p1), .val (.long e1), .second, .val (.int m1), .val (.int b0), .val (.int b1), .val (.int b2), .val (.int b3), .val (.int b4), .val (.int b5), .val (.int b6), .val (.int b7), .val (.int (0 : Int32)), .val (.int (own_f1 e1 wT ka))] [(.int (0 : Int32)), (.int (own_f1 e1 wT ka))])) t
          refine XS.icmpNo X30.here hx rfl (hb hby at_181) rfl (teq hc31).2 ?_
          show Steps p.tables e below (T30.setTop (mkF m 184 #[.val (.long q0), .second, .val (.int p1), .val (.long e1), .second, .val (.int m1), .val (.int b0), .val (.int b1), .val (.int b2), .val (.int b3), .val (.int b4), .val (.int b5), .val (.int b6), .val (.int b7), .val (.int (0 : Int32)), .val (.int (own_f1 e1 wT ka))] [])) t
          refine XS.iconst X30.here hx rfl (hb hby at_184) ?_
          show Steps p.tables e below (T30.setTop (mkF m 185 #[.val (.long q0), .second, .val (.int p1), .val (.long e1), .second, .val (.int m1), .val (.int b0), .val (.int b1), .val (.int b2), .val (.int b3), .val (.int b4), .val (.int b5), .val (.int b6), .val (.int b7), .val (.int (0 : Int32)), .val (.int (own_f1 e1 wT ka))] [(.int (1 : Int32))])) t
          refine XS.goto X30.here hx rfl (pc0 := 185) (pc' := 189) rfl (hb hby at_185) (by decide) (by decide) ?_
          exact k
        obtain ⟨fs, hr, hrun, hended, hW, hsame⟩ := X30.leave (v := some (.int (nar .boolean (1 : Int32)))) (fun h => by rw [Bd.returns] at h; cases h) hlk
        refine ⟨_, _, ?_, hrun, hended, _, _, rfl, ?_, ⟨_, rfl⟩, hW, hsame.mono (by decide) (by decide)⟩
        · show Steps p.tables e below (T30.setTop (mkF m 189 #[.val (.long q0), .second, .val (.int p1), .val (.long e1), .second, .val (.int m1), .val (.int b0), .val (.int b1), .val (.int b2), .val (.int b3), .val (.int b4), .val (.int b5), .val (.int b6), .val (.int b7), .val (.int (0 : Int32)), .val (.int (own_f1 e1 wT ka))] [(.int (1 : Int32))])) _
          exact retN X30 hx (t := .boolean) Bd.returns (by simp) (hb hby at_189) hr
        · show Qrm0 Z q0 p1 wT ka h0 n0 _ (T30.setFrames fs).heap _
          rw [show (T30.setFrames fs).heap = h0 from eq30]
          exact ⟨rfl, N30⟩
    · refine OwnGo.of (A := s₁.setTop (mkF m 126 #[.val (.long q0), .second, .val (.int p1), .val (.long e1), .second, .val (.int m1), .val (.int b0), .val (.int b1), .val (.int b2), .val (.int b3), .val (.int b4), .val (.int b5), .val (.int b6), .val (.int b7), .unset, .unset] [(.int b0)])) (B := s₁.setTop (mkF m 172 #[.val (.long q0), .second, .val (.int p1), .val (.long e1), .second, .val (.int m1), .val (.int b0), .val (.int b1), .val (.int b2), .val (.int b3), .val (.int b4), .val (.int b5), .val (.int b6), .val (.int b7), .val (.int (0 : Int32)), .unset] [(.long e1)])) (fun t k => ?_) ?_
      · show Steps p.tables e below (s₁.setTop (mkF m 126 #[.val (.long q0), .second, .val (.int p1), .val (.long e1), .second, .val (.int m1), .val (.int b0), .val (.int b1), .val (.int b2), .val (.int b3), .val (.int b4), .val (.int b5), .val (.int b6), .val (.int b7), .unset, .unset] [(.int b0)])) t
        refine XS.ifYes X0.here hx rfl (pc0 := 126) (pc' := 168) rfl (hb hby at_126) rfl ((if0 _ _).trans (flt hc1).2.1) (by decide) (by decide) ?_
        show Steps p.tables e below (s₁.setTop (mkF m 168 #[.val (.long q0), .second, .val (.int p1), .val (.long e1), .second, .val (.int m1), .val (.int b0), .val (.int b1), .val (.int b2), .val (.int b3), .val (.int b4), .val (.int b5), .val (.int b6), .val (.int b7), .unset, .unset] [])) t
        refine XS.iconst X0.here hx rfl (hb hby at_168) ?_
        show Steps p.tables e below (s₁.setTop (mkF m 169 #[.val (.long q0), .second, .val (.int p1), .val (.long e1), .second, .val (.int m1), .val (.int b0), .val (.int b1), .val (.int b2), .val (.int b3), .val (.int b4), .val (.int b5), .val (.int b6), .val (.int b7), .unset, .unset] [(.int (0 : Int32))])) t
        refine XS.istore X0.here hx rfl (hb hby at_169) rfl (l' := #[.val (.long q0), .second, .val (.int p1), .val (.long e1), .second, .val (.int m1), .val (.int b0), .val (.int b1), .val (.int b2), .val (.int b3), .val (.int b4), .val (.int b5), .val (.int b6), .val (.int b7), .val (.int (0 : Int32)), .unset]) rfl ?_
        show Steps p.tables e below (s₁.setTop (mkF m 171 #[.val (.long q0), .second, .val (.int p1), .val (.long e1), .second, .val (.int m1), .val (.int b0), .val (.int b1), .val (.int b2), .val (.int b3), .val (.int b4), .val (.int b5), .val (.int b6), .val (.int b7), .val (.int (0 : Int32)), .unset] [])) t
        refine XS.lloadN X0.here hx rfl (hb hby at_171) rfl ?_
        exact k
      obtain ⟨_, _, ⟨T33, L33, k33, n33⟩, -, X33, ⟨Lc33, hQ33, l33, y33, z33⟩, st33⟩ := Jvm.LawKit.callS X0 hx (y := (⟨"com/example/sevenfold/sevenfold/Natural", "isEight", "(J)Z"⟩ : MethodName)) hown (mvT hZ (hw _ (List.mem_of_getElem? (i := 2) rfl))) (mvT hZ (hw _ (List.mem_of_getElem? (i := 3) rfl))) (mvT hZ (hw _ (List.mem_of_getElem? (i := 4) rfl))) (mvT hZ (hw _ (List.mem_of_getElem? (i := 5) rfl))) (by decide) (backOf (W := 0) (rm1 l Z aw hw [] e1 wT ka h0 n0 Z0 S_TOP_BITS V_T) hZ (hw _ (List.mem_of_getElem? (i := 5) rfl)) (hw _ (List.mem_of_getElem? (i := 4) rfl)) (by decide) (by decide)) (g := (mkF m 172 #[.val (.long q0), .second, .val (.int p1), .val (.long e1), .second, .val (.int m1), .val (.int b0), .val (.int b1), .val (.int b2), .val (.int b3), .val (.int b4), .val (.int b5), .val (.int b6), .val (.int b7), .val (.int (0 : Int32)), .unset] [(.long e1)])) rfl (by rw [hml]; rfl) (argsL := [(.long e1)]) (rest := []) (lenOf pd_1 rfl) rfl (by show 2 * 0 + _ ≤ _; exact Nat.le_of_eq rfl) (hb hby at_172) (fun _ _ => ⟨rfl, e0, (by decide : 0 + 0 ≤ _), (by decide : 0 + 0 ≤ _)⟩)
      dsimp only [Pt.U, Pt.locs, Pt.cells, Pt.slots] at X33 l33 y33 z33 st33 hQ33
      subst l33 y33 z33
      obtain ⟨rfl, N33q, eq33⟩ := hQ33
      have N33 := Fr.app N0 N33q
      refine OwnGo.of st33 ?_
      show OwnGo p.tables e below _ (T33.setTop (mkF m 175 #[.val (.long q0), .second, .val (.int p1), .val (.long e1), .second, .val (.int m1), .val (.int b0), .val (.int b1), .val (.int b2), .val (.int b3), .val (.int b4), .val (.int b5), .val (.int b6), .val (.int b7), .val (.int (0 : Int32)), .unset] [(.int (own_f1 e1 wT ka))]))
      refine OwnGo.of (A := T33.setTop (mkF m 175 #[.val (.long q0), .second, .val (.int p1), .val (.long e1), .second, .val (.int m1), .val (.int b0), .val (.int b1), .val (.int b2), .val (.int b3), .val (.int b4), .val (.int b5), .val (.int b6), .val (.int b7), .val (.int (0 : Int32)), .unset] [(.int (own_f1 e1 wT ka))])) (B := T33.setTop (mkF m 181 #[.val (.long q0), .second, .val (.int p1), .val (.long e1), .second, .val (.int m1), .val (.int b0), .val (.int b1), .val (.int b2), .val (.int b3), .val (.int b4), .val (.int b5), .val (.int b6), .val (.int b7), .val (.int (0 : Int32)), .val (.int (own_f1 e1 wT ka))] [(.int (0 : Int32)), (.int (own_f1 e1 wT ka))])) (fun t k => ?_) ?_
      · show Steps p.tables e below (T33.setTop (mkF m 175 #[.val (.long q0), .second, .val (.int p1), .val (.long e1), .second, .val (.int m1), .val (.int b0), .val (.int b1), .val (.int b2), .val (.int b3), .val (.int b4), .val (.int b5), .val (.int b6), .val (.int b7), .val (.int (0 : Int32)), .unset] [(.int (own_f1 e1 wT ka))])) t
        refine XS.istore X33.here hx rfl (hb hby at_175) rfl (l' := #[.val (.long q0), .second, .val (.int p1), .val (.long e1), .second, .val (.int m1), .val (.int b0), .val (.int b1), .val (.int b2), .val (.int b3), .val (.int b4), .val (.int b5), .val (.int b6), .val (.int b7), .val (.int (0 : Int32)), .val (.int (own_f1 e1 wT ka))]) rfl ?_
        show Steps p.tables e below (T33.setTop (mkF m 177 #[.val (.long q0), .second, .val (.int p1), .val (.long e1), .second, .val (.int m1), .val (.int b0), .val (.int b1), .val (.int b2), .val (.int b3), .val (.int b4), .val (.int b5), .val (.int b6), .val (.int b7), .val (.int (0 : Int32)), .val (.int (own_f1 e1 wT ka))] [])) t
        refine XS.iload X33.here hx rfl (hb hby at_177) rfl ?_
        show Steps p.tables e below (T33.setTop (mkF m 179 #[.val (.long q0), .second, .val (.int p1), .val (.long e1), .second, .val (.int m1), .val (.int b0), .val (.int b1), .val (.int b2), .val (.int b3), .val (.int b4), .val (.int b5), .val (.int b6), .val (.int b7), .val (.int (0 : Int32)), .val (.int (own_f1 e1 wT ka))] [(.int (own_f1 e1 wT ka))])) t
        refine XS.iload X33.here hx rfl (hb hby at_179) rfl ?_
        exact k
      have hc34 : (own_f1 e1 wT ka) = (0 : Int32) := by subst hb0 hb1 hb2 hb3 hb4 hb5 hb6 hb7; rw [own_f1_eq, if_neg (fun q => hc1 (q.1))]
      refine OwnGo.of (A := T33.setTop (mkF m 181 #[.val (.long q0), .second, .val (.int p1), .val (.long e1), .second, .val (.int m1), .val (.int b0), .val (.int b1), .val (.int b2), .val (.int b3), .val (.int b4), .val (.int b5), .val (.int b6), .val (.int b7), .val (.int (0 : Int32)), .val (.int (own_f1 e1 wT ka))] [(.int (0 : Int32)), (.int (own_f1 e1 wT ka))])) (B := T33.setTop (mkF m 189 #[.val (.long q0), .second, .val (.int p1), .val (.long e1), .second, .val (.int m1), .val (.int b0), .val (.int b1), .val (.int b2), .val (.int b3), .val (.int b4), .val (.int b5), .val (.int b6), .val (.int b7), .val (.int (0 : Int32)), .val (.int (own_f1 e1 wT ka))] [(.int (1 : Int32))])) (fun t k => ?_) ?_
      · show Steps p.tables e below (T33.setTop (mkF m 181 #[.val (.long q0), .second, .val (.int p1), .val (.long e1), .second, .val (.int m1), .val (.int b0), .val (.int b1), .val (.int b2), .val (.int b3), .val (.int b4), .val (.int b5), .val (.int b6), .val (.int b7), .val (.int (0 : Int32)), .val (.int (own_f1 e1 wT ka))] [(.int (0 : Int32)), (.int (own_f1 e1 wT ka))])) t
        refine XS.icmpNo X33.here hx rfl (hb hby at_181) rfl (teq hc34).2 ?_
        show Steps p.tables e below (T33.setTop (mkF m 184 #[.val (.long q0), .second, .val (.int p1), .val (.long e1), .second, .val (.int m1), .val (.int b0), .val (.int b1), .val (.int b2), .val (.int b3), .val (.int b4), .val (.int b5), .val (.int b6), .val (.int b7), .val (.int (0 : Int32)), .val (.int (own_f1 e1 wT ka))] [])) t
        refine XS.iconst X33.here hx rfl (hb hby at_184) ?_
        show Steps p.tables e below (T33.setTop (mkF m 185 #[.val (.long q0), .second, .val (.int p1), .val (.long e1), .second, .val (.int m1), .val (.int b0), .val (.int b1), .val (.int b2), .val (.int b3), .val (.int b4), .val (.int b5), .val (.int b6), .val (.int b7), .val (.int (0 : Int32)), .val (.int (own_f1 e1 wT ka))] [(.int (1 : Int32))])) t
        refine XS.goto X33.here hx rfl (pc0 := 185) (pc' := 189) rfl (hb hby at_185) (by decide) (by decide) ?_
        exact k
      obtain ⟨fs, hr, hrun, hended, hW, hsame⟩ := X33.leave (v := some (.int (nar .boolean (1 : Int32)))) (fun h => by rw [Bd.returns] at h; cases h) hlk
      refine ⟨_, _, ?_, hrun, hended, _, _, rfl, ?_, ⟨_, rfl⟩, hW, hsame.mono (by decide) (by decide)⟩
      · show Steps p.tables e below (T33.setTop (mkF m 189 #[.val (.long q0), .second, .val (.int p1), .val (.long e1), .second, .val (.int m1), .val (.int b0), .val (.int b1), .val (.int b2), .val (.int b3), .val (.int b4), .val (.int b5), .val (.int b6), .val (.int b7), .val (.int (0 : Int32)), .val (.int (own_f1 e1 wT ka))] [(.int (1 : Int32))])) _
        exact retN X33 hx (t := .boolean) Bd.returns (by simp) (hb hby at_189) hr
      · show Qrm0 Z q0 p1 wT ka h0 n0 _ (T33.setFrames fs).heap _
        rw [show (T33.setFrames fs).heap = h0 from eq33]
        exact ⟨rfl, N33⟩
  show OwnGo p.tables e below _ (s₁.setTop (mkF m 0 #[.val (.long q0), .second, .val (.int p1), .unset, .unset, .unset, .unset, .unset, .unset, .unset, .unset, .unset, .unset, .unset, .unset, .unset] []))
  refine OwnGo.of (A := s₁.setTop (mkF m 0 #[.val (.long q0), .second, .val (.int p1), .unset, .unset, .unset, .unset, .unset, .unset, .unset, .unset, .unset, .unset, .unset, .unset, .unset] [])) (B := s₁.setTop (mkF m 10 #[.val (.long q0), .second, .val (.int p1), .val (.long q0), .second, .val (.int (p1 &&& (3 : Int32))), .unset, .unset, .unset, .unset, .unset, .unset, .unset, .unset, .unset, .unset] [(.int (1 : Int32)), (.int (p1 &&& (3 : Int32)))])) (fun t k => ?_) ?_
  · show Steps p.tables e below (s₁.setTop (mkF m 0 #[.val (.long q0), .second, .val (.int p1), .unset, .unset, .unset, .unset, .unset, .unset, .unset, .unset, .unset, .unset, .unset, .unset, .unset] [])) t
    refine XS.lloadN X0.here hx rfl (hb hby at_0) rfl ?_
    show Steps p.tables e below (s₁.setTop (mkF m 1 #[.val (.long q0), .second, .val (.int p1), .unset, .unset, .unset, .unset, .unset, .unset, .unset, .unset, .unset, .unset, .unset, .unset, .unset] [(.long q0)])) t
    refine XS.lstoreN X0.here hx rfl (hb hby at_1) rfl (l' := #[.val (.long q0), .second, .val (.int p1), .val (.long q0), .second, .unset, .unset, .unset, .unset, .unset, .unset, .unset, .unset, .unset, .unset, .unset]) rfl ?_
    show Steps p.tables e below (s₁.setTop (mkF m 2 #[.val (.long q0), .second, .val (.int p1), .val (.long q0), .second, .unset, .unset, .unset, .unset, .unset, .unset, .unset, .unset, .unset, .unset, .unset] [])) t
    refine XS.iloadN X0.here hx rfl (hb hby at_2) rfl ?_
    show Steps p.tables e below (s₁.setTop (mkF m 3 #[.val (.long q0), .second, .val (.int p1), .val (.long q0), .second, .unset, .unset, .unset, .unset, .unset, .unset, .unset, .unset, .unset, .unset, .unset] [(.int p1)])) t
    refine XS.iconst X0.here hx rfl (hb hby at_3) ?_
    show Steps p.tables e below (s₁.setTop (mkF m 4 #[.val (.long q0), .second, .val (.int p1), .val (.long q0), .second, .unset, .unset, .unset, .unset, .unset, .unset, .unset, .unset, .unset, .unset, .unset] [(.int (3 : Int32)), (.int p1)])) t
    refine XS.iand X0.here hx rfl (hb hby at_4) rfl ?_
    show Steps p.tables e below (s₁.setTop (mkF m 5 #[.val (.long q0), .second, .val (.int p1), .val (.long q0), .second, .unset, .unset, .unset, .unset, .unset, .unset, .unset, .unset, .unset, .unset, .unset] [(.int (p1 &&& (3 : Int32)))])) t
    refine XS.istore X0.here hx rfl (hb hby at_5) rfl (l' := #[.val (.long q0), .second, .val (.int p1), .val (.long q0), .second, .val (.int (p1 &&& (3 : Int32))), .unset, .unset, .unset, .unset, .unset, .unset, .unset, .unset, .unset, .unset]) rfl ?_
    show Steps p.tables e below (s₁.setTop (mkF m 7 #[.val (.long q0), .second, .val (.int p1), .val (.long q0), .second, .val (.int (p1 &&& (3 : Int32))), .unset, .unset, .unset, .unset, .unset, .unset, .unset, .unset, .unset, .unset] [])) t
    refine XS.iload X0.here hx rfl (hb hby at_7) rfl ?_
    show Steps p.tables e below (s₁.setTop (mkF m 9 #[.val (.long q0), .second, .val (.int p1), .val (.long q0), .second, .val (.int (p1 &&& (3 : Int32))), .unset, .unset, .unset, .unset, .unset, .unset, .unset, .unset, .unset, .unset] [(.int (p1 &&& (3 : Int32)))])) t
    refine XS.iconst X0.here hx rfl (hb hby at_9) ?_
    exact k
  by_cases hc36 : (p1 &&& (3 : Int32)) = (1 : Int32)
  · refine OwnGo.of (A := s₁.setTop (mkF m 10 #[.val (.long q0), .second, .val (.int p1), .val (.long q0), .second, .val (.int (p1 &&& (3 : Int32))), .unset, .unset, .unset, .unset, .unset, .unset, .unset, .unset, .unset, .unset] [(.int (1 : Int32)), (.int (p1 &&& (3 : Int32)))])) (B := s₁.setTop (mkF m 63 #[.val (.long q0), .second, .val (.int p1), .val (.long ((q0 ||| (-9187201950435737600 : Int64)) &&& (-129 : Int64))), .second, .val (.int (p1 &&& (3 : Int32))), .unset, .unset, .unset, .unset, .unset, .unset, .unset, .unset, .unset, .unset] [])) (fun t k => ?_) ?_
    · show Steps p.tables e below (s₁.setTop (mkF m 10 #[.val (.long q0), .second, .val (.int p1), .val (.long q0), .second, .val (.int (p1 &&& (3 : Int32))), .unset, .unset, .unset, .unset, .unset, .unset, .unset, .unset, .unset, .unset] [(.int (1 : Int32)), (.int (p1 &&& (3 : Int32)))])) t
      refine XS.icmpNo X0.here hx rfl (hb hby at_10) rfl (teq hc36).2 ?_
      show Steps p.tables e below (s₁.setTop (mkF m 13 #[.val (.long q0), .second, .val (.int p1), .val (.long q0), .second, .val (.int (p1 &&& (3 : Int32))), .unset, .unset, .unset, .unset, .unset, .unset, .unset, .unset, .unset, .unset] [])) t
      refine XS.lloadN X0.here hx rfl (hb hby at_13) rfl ?_
      show Steps p.tables e below (s₁.setTop (mkF m 14 #[.val (.long q0), .second, .val (.int p1), .val (.long q0), .second, .val (.int (p1 &&& (3 : Int32))), .unset, .unset, .unset, .unset, .unset, .unset, .unset, .unset, .unset, .unset] [(.long q0)])) t
      refine X0.ldc2Long hx hown (mvT hZ (hw _ (List.mem_of_getElem? (i := 0) rfl))) (g := (mkF m 14 #[.val (.long q0), .second, .val (.int p1), .val (.long q0), .second, .val (.int (p1 &&& (3 : Int32))), .unset, .unset, .unset, .unset, .unset, .unset, .unset, .unset, .unset, .unset] [(.long q0)])) rfl (hb hby at_14) _ ?_
      show Steps p.tables e below (s₁.setTop (mkF m 17 #[.val (.long q0), .second, .val (.int p1), .val (.long q0), .second, .val (.int (p1 &&& (3 : Int32))), .unset, .unset, .unset, .unset, .unset, .unset, .unset, .unset, .unset, .unset] [(.long (-9187201950435737600 : Int64)), (.long q0)])) t
      refine XS.lor X0.here hx rfl (hb hby at_17) rfl ?_
      show Steps p.tables e below (s₁.setTop (mkF m 18 #[.val (.long q0), .second, .val (.int p1), .val (.long q0), .second, .val (.int (p1 &&& (3 : Int32))), .unset, .unset, .unset, .unset, .unset, .unset, .unset, .unset, .unset, .unset] [(.long (q0 ||| (-9187201950435737600 : Int64)))])) t
      refine X0.ldc2Long hx hown (mvT hZ (hw _ (List.mem_of_getElem? (i := 1) rfl))) (g := (mkF m 18 #[.val (.long q0), .second, .val (.int p1), .val (.long q0), .second, .val (.int (p1 &&& (3 : Int32))), .unset, .unset, .unset, .unset, .unset, .unset, .unset, .unset, .unset, .unset] [(.long (q0 ||| (-9187201950435737600 : Int64)))])) rfl (hb hby at_18) _ ?_
      show Steps p.tables e below (s₁.setTop (mkF m 21 #[.val (.long q0), .second, .val (.int p1), .val (.long q0), .second, .val (.int (p1 &&& (3 : Int32))), .unset, .unset, .unset, .unset, .unset, .unset, .unset, .unset, .unset, .unset] [(.long (-129 : Int64)), (.long (q0 ||| (-9187201950435737600 : Int64)))])) t
      refine XS.land X0.here hx rfl (hb hby at_21) rfl ?_
      show Steps p.tables e below (s₁.setTop (mkF m 22 #[.val (.long q0), .second, .val (.int p1), .val (.long q0), .second, .val (.int (p1 &&& (3 : Int32))), .unset, .unset, .unset, .unset, .unset, .unset, .unset, .unset, .unset, .unset] [(.long ((q0 ||| (-9187201950435737600 : Int64)) &&& (-129 : Int64)))])) t
      refine XS.lstoreN X0.here hx rfl (hb hby at_22) rfl (l' := #[.val (.long q0), .second, .val (.int p1), .val (.long ((q0 ||| (-9187201950435737600 : Int64)) &&& (-129 : Int64))), .second, .val (.int (p1 &&& (3 : Int32))), .unset, .unset, .unset, .unset, .unset, .unset, .unset, .unset, .unset, .unset]) rfl ?_
      show Steps p.tables e below (s₁.setTop (mkF m 23 #[.val (.long q0), .second, .val (.int p1), .val (.long ((q0 ||| (-9187201950435737600 : Int64)) &&& (-129 : Int64))), .second, .val (.int (p1 &&& (3 : Int32))), .unset, .unset, .unset, .unset, .unset, .unset, .unset, .unset, .unset, .unset] [])) t
      refine XS.goto X0.here hx rfl (pc0 := 23) (pc' := 63) rfl (hb hby at_23) (by decide) (by decide) ?_
      exact k
    exact J63 ((q0 ||| (-9187201950435737600 : Int64)) &&& (-129 : Int64)) (p1 &&& (3 : Int32)) (.unset) One.u
  · refine OwnGo.of (A := s₁.setTop (mkF m 10 #[.val (.long q0), .second, .val (.int p1), .val (.long q0), .second, .val (.int (p1 &&& (3 : Int32))), .unset, .unset, .unset, .unset, .unset, .unset, .unset, .unset, .unset, .unset] [(.int (1 : Int32)), (.int (p1 &&& (3 : Int32)))])) (B := s₁.setTop (mkF m 29 #[.val (.long q0), .second, .val (.int p1), .val (.long q0), .second, .val (.int (p1 &&& (3 : Int32))), .unset, .unset, .unset, .unset, .unset, .unset, .unset, .unset, .unset, .unset] [(.int (2 : Int32)), (.int (p1 &&& (3 : Int32)))])) (fun t k => ?_) ?_
    · show Steps p.tables e below (s₁.setTop (mkF m 10 #[.val (.long q0), .second, .val (.int p1), .val (.long q0), .second, .val (.int (p1 &&& (3 : Int32))), .unset, .unset, .unset, .unset, .unset, .unset, .unset, .unset, .unset, .unset] [(.int (1 : Int32)), (.int (p1 &&& (3 : Int32)))])) t
      refine XS.icmpYes X0.here hx rfl (pc0 := 10) (pc' := 26) rfl (hb hby at_10) rfl (feq hc36).2 (by decide) (by decide) ?_
      show Steps p.tables e below (s₁.setTop (mkF m 26 #[.val (.long q0), .second, .val (.int p1), .val (.long q0), .second, .val (.int (p1 &&& (3 : Int32))), .unset, .unset, .unset, .unset, .unset, .unset, .unset, .unset, .unset, .unset] [])) t
      refine XS.iload X0.here hx rfl (hb hby at_26) rfl ?_
      show Steps p.tables e below (s₁.setTop (mkF m 28 #[.val (.long q0), .second, .val (.int p1), .val (.long q0), .second, .val (.int (p1 &&& (3 : Int32))), .unset, .unset, .unset, .unset, .unset, .unset, .unset, .unset, .unset, .unset] [(.int (p1 &&& (3 : Int32)))])) t
      refine XS.iconst X0.here hx rfl (hb hby at_28) ?_
      exact k
    by_cases hc37 : (p1 &&& (3 : Int32)) = (2 : Int32)
    · refine OwnGo.of (A := s₁.setTop (mkF m 29 #[.val (.long q0), .second, .val (.int p1), .val (.long q0), .second, .val (.int (p1 &&& (3 : Int32))), .unset, .unset, .unset, .unset, .unset, .unset, .unset, .unset, .unset, .unset] [(.int (2 : Int32)), (.int (p1 &&& (3 : Int32)))])) (B := s₁.setTop (mkF m 63 #[.val (.long q0), .second, .val (.int p1), .val (.long (((q0 ||| (-9187201950435737600 : Int64)) &&& (-129 : Int64)) ^^^ ((1 : Int64) <<< ((((8 : Int32) * (((p1.toUInt32 >>> ((2 : Int32) &&& 31).toUInt32).toInt32) &&& (7 : Int32))) + (7 : Int32)) &&& 0x3f).toInt64))), .second, .val (.int (p1 &&& (3 : Int32))), .val (.int (((p1.toUInt32 >>> ((2 : Int32) &&& 31).toUInt32).toInt32) &&& (7 : Int32))), .unset, .unset, .unset, .unset, .unset, .unset, .unset, .unset, .unset] [])) (fun t k => ?_) ?_
      · show Steps p.tables e below (s₁.setTop (mkF m 29 #[.val (.long q0), .second, .val (.int p1), .val (.long q0), .second, .val (.int (p1 &&& (3 : Int32))), .unset, .unset, .unset, .unset, .unset, .unset, .unset, .unset, .unset, .unset] [(.int (2 : Int32)), (.int (p1 &&& (3 : Int32)))])) t
        refine XS.icmpNo X0.here hx rfl (hb hby at_29) rfl (teq hc37).2 ?_
        show Steps p.tables e below (s₁.setTop (mkF m 32 #[.val (.long q0), .second, .val (.int p1), .val (.long q0), .second, .val (.int (p1 &&& (3 : Int32))), .unset, .unset, .unset, .unset, .unset, .unset, .unset, .unset, .unset, .unset] [])) t
        refine XS.lloadN X0.here hx rfl (hb hby at_32) rfl ?_
        show Steps p.tables e below (s₁.setTop (mkF m 33 #[.val (.long q0), .second, .val (.int p1), .val (.long q0), .second, .val (.int (p1 &&& (3 : Int32))), .unset, .unset, .unset, .unset, .unset, .unset, .unset, .unset, .unset, .unset] [(.long q0)])) t
        refine X0.ldc2Long hx hown (mvT hZ (hw _ (List.mem_of_getElem? (i := 0) rfl))) (g := (mkF m 33 #[.val (.long q0), .second, .val (.int p1), .val (.long q0), .second, .val (.int (p1 &&& (3 : Int32))), .unset, .unset, .unset, .unset, .unset, .unset, .unset, .unset, .unset, .unset] [(.long q0)])) rfl (hb hby at_33) _ ?_
        show Steps p.tables e below (s₁.setTop (mkF m 36 #[.val (.long q0), .second, .val (.int p1), .val (.long q0), .second, .val (.int (p1 &&& (3 : Int32))), .unset, .unset, .unset, .unset, .unset, .unset, .unset, .unset, .unset, .unset] [(.long (-9187201950435737600 : Int64)), (.long q0)])) t
        refine XS.lor X0.here hx rfl (hb hby at_36) rfl ?_
        show Steps p.tables e below (s₁.setTop (mkF m 37 #[.val (.long q0), .second, .val (.int p1), .val (.long q0), .second, .val (.int (p1 &&& (3 : Int32))), .unset, .unset, .unset, .unset, .unset, .unset, .unset, .unset, .unset, .unset] [(.long (q0 ||| (-9187201950435737600 : Int64)))])) t
        refine X0.ldc2Long hx hown (mvT hZ (hw _ (List.mem_of_getElem? (i := 1) rfl))) (g := (mkF m 37 #[.val (.long q0), .second, .val (.int p1), .val (.long q0), .second, .val (.int (p1 &&& (3 : Int32))), .unset, .unset, .unset, .unset, .unset, .unset, .unset, .unset, .unset, .unset] [(.long (q0 ||| (-9187201950435737600 : Int64)))])) rfl (hb hby at_37) _ ?_
        show Steps p.tables e below (s₁.setTop (mkF m 40 #[.val (.long q0), .second, .val (.int p1), .val (.long q0), .second, .val (.int (p1 &&& (3 : Int32))), .unset, .unset, .unset, .unset, .unset, .unset, .unset, .unset, .unset, .unset] [(.long (-129 : Int64)), (.long (q0 ||| (-9187201950435737600 : Int64)))])) t
        refine XS.land X0.here hx rfl (hb hby at_40) rfl ?_
        show Steps p.tables e below (s₁.setTop (mkF m 41 #[.val (.long q0), .second, .val (.int p1), .val (.long q0), .second, .val (.int (p1 &&& (3 : Int32))), .unset, .unset, .unset, .unset, .unset, .unset, .unset, .unset, .unset, .unset] [(.long ((q0 ||| (-9187201950435737600 : Int64)) &&& (-129 : Int64)))])) t
        refine XS.lstoreN X0.here hx rfl (hb hby at_41) rfl (l' := #[.val (.long q0), .second, .val (.int p1), .val (.long ((q0 ||| (-9187201950435737600 : Int64)) &&& (-129 : Int64))), .second, .val (.int (p1 &&& (3 : Int32))), .unset, .unset, .unset, .unset, .unset, .unset, .unset, .unset, .unset, .unset]) rfl ?_
        show Steps p.tables e below (s₁.setTop (mkF m 42 #[.val (.long q0), .second, .val (.int p1), .val (.long ((q0 ||| (-9187201950435737600 : Int64)) &&& (-129 : Int64))), .second, .val (.int (p1 &&& (3 : Int32))), .unset, .unset, .unset, .unset, .unset, .unset, .unset, .unset, .unset, .unset] [])) t
        refine XS.iloadN X0.here hx rfl (hb hby at_42) rfl ?_
        show Steps p.tables e below (s₁.setTop (mkF m 43 #[.val (.long q0), .second, .val (.int p1), .val (.long ((q0 ||| (-9187201950435737600 : Int64)) &&& (-129 : Int64))), .second, .val (.int (p1 &&& (3 : Int32))), .unset, .unset, .unset, .unset, .unset, .unset, .unset, .unset, .unset, .unset] [(.int p1)])) t
        refine XS.iconst X0.here hx rfl (hb hby at_43) ?_
        show Steps p.tables e below (s₁.setTop (mkF m 44 #[.val (.long q0), .second, .val (.int p1), .val (.long ((q0 ||| (-9187201950435737600 : Int64)) &&& (-129 : Int64))), .second, .val (.int (p1 &&& (3 : Int32))), .unset, .unset, .unset, .unset, .unset, .unset, .unset, .unset, .unset, .unset] [(.int (2 : Int32)), (.int p1)])) t
        refine XS.iushr X0.here hx rfl (hb hby at_44) rfl ?_
        show Steps p.tables e below (s₁.setTop (mkF m 45 #[.val (.long q0), .second, .val (.int p1), .val (.long ((q0 ||| (-9187201950435737600 : Int64)) &&& (-129 : Int64))), .second, .val (.int (p1 &&& (3 : Int32))), .unset, .unset, .unset, .unset, .unset, .unset, .unset, .unset, .unset, .unset] [(.int ((p1.toUInt32 >>> ((2 : Int32) &&& 31).toUInt32).toInt32))])) t
        refine XS.bipush X0.here hx rfl (hb hby at_45) ?_
        show Steps p.tables e below (s₁.setTop (mkF m 47 #[.val (.long q0), .second, .val (.int p1), .val (.long ((q0 ||| (-9187201950435737600 : Int64)) &&& (-129 : Int64))), .second, .val (.int (p1 &&& (3 : Int32))), .unset, .unset, .unset, .unset, .unset, .unset, .unset, .unset, .unset, .unset] [(.int (7 : Int32)), (.int ((p1.toUInt32 >>> ((2 : Int32) &&& 31).toUInt32).toInt32))])) t
        refine XS.iand X0.here hx rfl (hb hby at_47) rfl ?_
        show Steps p.tables e below (s₁.setTop (mkF m 48 #[.val (.long q0), .second, .val (.int p1), .val (.long ((q0 ||| (-9187201950435737600 : Int64)) &&& (-129 : Int64))), .second, .val (.int (p1 &&& (3 : Int32))), .unset, .unset, .unset, .unset, .unset, .unset, .unset, .unset, .unset, .unset] [(.int (((p1.toUInt32 >>> ((2 : Int32) &&& 31).toUInt32).toInt32) &&& (7 : Int32)))])) t
        refine XS.istore X0.here hx rfl (hb hby at_48) rfl (l' := #[.val (.long q0), .second, .val (.int p1), .val (.long ((q0 ||| (-9187201950435737600 : Int64)) &&& (-129 : Int64))), .second, .val (.int (p1 &&& (3 : Int32))), .val (.int (((p1.toUInt32 >>> ((2 : Int32) &&& 31).toUInt32).toInt32) &&& (7 : Int32))), .unset, .unset, .unset, .unset, .unset, .unset, .unset, .unset, .unset]) rfl ?_
        show Steps p.tables e below (s₁.setTop (mkF m 50 #[.val (.long q0), .second, .val (.int p1), .val (.long ((q0 ||| (-9187201950435737600 : Int64)) &&& (-129 : Int64))), .second, .val (.int (p1 &&& (3 : Int32))), .val (.int (((p1.toUInt32 >>> ((2 : Int32) &&& 31).toUInt32).toInt32) &&& (7 : Int32))), .unset, .unset, .unset, .unset, .unset, .unset, .unset, .unset, .unset] [])) t
        refine XS.lloadN X0.here hx rfl (hb hby at_50) rfl ?_
        show Steps p.tables e below (s₁.setTop (mkF m 51 #[.val (.long q0), .second, .val (.int p1), .val (.long ((q0 ||| (-9187201950435737600 : Int64)) &&& (-129 : Int64))), .second, .val (.int (p1 &&& (3 : Int32))), .val (.int (((p1.toUInt32 >>> ((2 : Int32) &&& 31).toUInt32).toInt32) &&& (7 : Int32))), .unset, .unset, .unset, .unset, .unset, .unset, .unset, .unset, .unset] [(.long ((q0 ||| (-9187201950435737600 : Int64)) &&& (-129 : Int64)))])) t
        refine XS.lconst X0.here hx rfl (hb hby at_51) ?_
        show Steps p.tables e below (s₁.setTop (mkF m 52 #[.val (.long q0), .second, .val (.int p1), .val (.long ((q0 ||| (-9187201950435737600 : Int64)) &&& (-129 : Int64))), .second, .val (.int (p1 &&& (3 : Int32))), .val (.int (((p1.toUInt32 >>> ((2 : Int32) &&& 31).toUInt32).toInt32) &&& (7 : Int32))), .unset, .unset, .unset, .unset, .unset, .unset, .unset, .unset, .unset] [(.long (1 : Int64)), (.long ((q0 ||| (-9187201950435737600 : Int64)) &&& (-129 : Int64)))])) t
        refine XS.bipush X0.here hx rfl (hb hby at_52) ?_
        show Steps p.tables e below (s₁.setTop (mkF m 54 #[.val (.long q0), .second, .val (.int p1), .val (.long ((q0 ||| (-9187201950435737600 : Int64)) &&& (-129 : Int64))), .second, .val (.int (p1 &&& (3 : Int32))), .val (.int (((p1.toUInt32 >>> ((2 : Int32) &&& 31).toUInt32).toInt32) &&& (7 : Int32))), .unset, .unset, .unset, .unset, .unset, .unset, .unset, .unset, .unset] [(.int (8 : Int32)), (.long (1 : Int64)), (.long ((q0 ||| (-9187201950435737600 : Int64)) &&& (-129 : Int64)))])) t
        refine XS.iload X0.here hx rfl (hb hby at_54) rfl ?_
        show Steps p.tables e below (s₁.setTop (mkF m 56 #[.val (.long q0), .second, .val (.int p1), .val (.long ((q0 ||| (-9187201950435737600 : Int64)) &&& (-129 : Int64))), .second, .val (.int (p1 &&& (3 : Int32))), .val (.int (((p1.toUInt32 >>> ((2 : Int32) &&& 31).toUInt32).toInt32) &&& (7 : Int32))), .unset, .unset, .unset, .unset, .unset, .unset, .unset, .unset, .unset] [(.int (((p1.toUInt32 >>> ((2 : Int32) &&& 31).toUInt32).toInt32) &&& (7 : Int32))), (.int (8 : Int32)), (.long (1 : Int64)), (.long ((q0 ||| (-9187201950435737600 : Int64)) &&& (-129 : Int64)))])) t
        refine XS.imul X0.here hx rfl (hb hby at_56) rfl ?_
        show Steps p.tables e below (s₁.setTop (mkF m 57 #[.val (.long q0), .second, .val (.int p1), .val (.long ((q0 ||| (-9187201950435737600 : Int64)) &&& (-129 : Int64))), .second, .val (.int (p1 &&& (3 : Int32))), .val (.int (((p1.toUInt32 >>> ((2 : Int32) &&& 31).toUInt32).toInt32) &&& (7 : Int32))), .unset, .unset, .unset, .unset, .unset, .unset, .unset, .unset, .unset] [(.int ((8 : Int32) * (((p1.toUInt32 >>> ((2 : Int32) &&& 31).toUInt32).toInt32) &&& (7 : Int32)))), (.long (1 : Int64)), (.long ((q0 ||| (-9187201950435737600 : Int64)) &&& (-129 : Int64)))])) t
        refine XS.bipush X0.here hx rfl (hb hby at_57) ?_
        show Steps p.tables e below (s₁.setTop (mkF m 59 #[.val (.long q0), .second, .val (.int p1), .val (.long ((q0 ||| (-9187201950435737600 : Int64)) &&& (-129 : Int64))), .second, .val (.int (p1 &&& (3 : Int32))), .val (.int (((p1.toUInt32 >>> ((2 : Int32) &&& 31).toUInt32).toInt32) &&& (7 : Int32))), .unset, .unset, .unset, .unset, .unset, .unset, .unset, .unset, .unset] [(.int (7 : Int32)), (.int ((8 : Int32) * (((p1.toUInt32 >>> ((2 : Int32) &&& 31).toUInt32).toInt32) &&& (7 : Int32)))), (.long (1 : Int64)), (.long ((q0 ||| (-9187201950435737600 : Int64)) &&& (-129 : Int64)))])) t
        refine XS.iadd X0.here hx rfl (hb hby at_59) rfl ?_
        show Steps p.tables e below (s₁.setTop (mkF m 60 #[.val (.long q0), .second, .val (.int p1), .val (.long ((q0 ||| (-9187201950435737600 : Int64)) &&& (-129 : Int64))), .second, .val (.int (p1 &&& (3 : Int32))), .val (.int (((p1.toUInt32 >>> ((2 : Int32) &&& 31).toUInt32).toInt32) &&& (7 : Int32))), .unset, .unset, .unset, .unset, .unset, .unset, .unset, .unset, .unset] [(.int (((8 : Int32) * (((p1.toUInt32 >>> ((2 : Int32) &&& 31).toUInt32).toInt32) &&& (7 : Int32))) + (7 : Int32))), (.long (1 : Int64)), (.long ((q0 ||| (-9187201950435737600 : Int64)) &&& (-129 : Int64)))])) t
        refine XS.lshl X0.here hx rfl (hb hby at_60) rfl ?_
        show Steps p.tables e below (s₁.setTop (mkF m 61 #[.val (.long q0), .second, .val (.int p1), .val (.long ((q0 ||| (-9187201950435737600 : Int64)) &&& (-129 : Int64))), .second, .val (.int (p1 &&& (3 : Int32))), .val (.int (((p1.toUInt32 >>> ((2 : Int32) &&& 31).toUInt32).toInt32) &&& (7 : Int32))), .unset, .unset, .unset, .unset, .unset, .unset, .unset, .unset, .unset] [(.long ((1 : Int64) <<< ((((8 : Int32) * (((p1.toUInt32 >>> ((2 : Int32) &&& 31).toUInt32).toInt32) &&& (7 : Int32))) + (7 : Int32)) &&& 0x3f).toInt64)), (.long ((q0 ||| (-9187201950435737600 : Int64)) &&& (-129 : Int64)))])) t
        refine XS.lxor X0.here hx rfl (hb hby at_61) rfl ?_
        show Steps p.tables e below (s₁.setTop (mkF m 62 #[.val (.long q0), .second, .val (.int p1), .val (.long ((q0 ||| (-9187201950435737600 : Int64)) &&& (-129 : Int64))), .second, .val (.int (p1 &&& (3 : Int32))), .val (.int (((p1.toUInt32 >>> ((2 : Int32) &&& 31).toUInt32).toInt32) &&& (7 : Int32))), .unset, .unset, .unset, .unset, .unset, .unset, .unset, .unset, .unset] [(.long (((q0 ||| (-9187201950435737600 : Int64)) &&& (-129 : Int64)) ^^^ ((1 : Int64) <<< ((((8 : Int32) * (((p1.toUInt32 >>> ((2 : Int32) &&& 31).toUInt32).toInt32) &&& (7 : Int32))) + (7 : Int32)) &&& 0x3f).toInt64)))])) t
        refine XS.lstoreN X0.here hx rfl (hb hby at_62) rfl (l' := #[.val (.long q0), .second, .val (.int p1), .val (.long (((q0 ||| (-9187201950435737600 : Int64)) &&& (-129 : Int64)) ^^^ ((1 : Int64) <<< ((((8 : Int32) * (((p1.toUInt32 >>> ((2 : Int32) &&& 31).toUInt32).toInt32) &&& (7 : Int32))) + (7 : Int32)) &&& 0x3f).toInt64))), .second, .val (.int (p1 &&& (3 : Int32))), .val (.int (((p1.toUInt32 >>> ((2 : Int32) &&& 31).toUInt32).toInt32) &&& (7 : Int32))), .unset, .unset, .unset, .unset, .unset, .unset, .unset, .unset, .unset]) rfl ?_
        exact k
      exact J63 (((q0 ||| (-9187201950435737600 : Int64)) &&& (-129 : Int64)) ^^^ ((1 : Int64) <<< ((((8 : Int32) * (((p1.toUInt32 >>> ((2 : Int32) &&& 31).toUInt32).toInt32) &&& (7 : Int32))) + (7 : Int32)) &&& 0x3f).toInt64)) (p1 &&& (3 : Int32)) (.val (.int (((p1.toUInt32 >>> ((2 : Int32) &&& 31).toUInt32).toInt32) &&& (7 : Int32)))) (One.val rfl)
    · refine OwnGo.of (A := s₁.setTop (mkF m 29 #[.val (.long q0), .second, .val (.int p1), .val (.long q0), .second, .val (.int (p1 &&& (3 : Int32))), .unset, .unset, .unset, .unset, .unset, .unset, .unset, .unset, .unset, .unset] [(.int (2 : Int32)), (.int (p1 &&& (3 : Int32)))])) (B := s₁.setTop (mkF m 63 #[.val (.long q0), .second, .val (.int p1), .val (.long q0), .second, .val (.int (p1 &&& (3 : Int32))), .unset, .unset, .unset, .unset, .unset, .unset, .unset, .unset, .unset, .unset] [])) (fun t k => ?_) ?_
      · show Steps p.tables e below (s₁.setTop (mkF m 29 #[.val (.long q0), .second, .val (.int p1), .val (.long q0), .second, .val (.int (p1 &&& (3 : Int32))), .unset, .unset, .unset, .unset, .unset, .unset, .unset, .unset, .unset, .unset] [(.int (2 : Int32)), (.int (p1 &&& (3 : Int32)))])) t
        refine XS.icmpYes X0.here hx rfl (pc0 := 29) (pc' := 63) rfl (hb hby at_29) rfl (feq hc37).2 (by decide) (by decide) ?_
        exact k
      exact J63 q0 (p1 &&& (3 : Int32)) (.unset) One.u
set_option maxRecDepth 65536 in
set_option maxHeartbeats 40000000 in
theorem comes_1 {Post : Tables → Env → Array Value → State → Outcome → State → Prop} (hpost : ∀ tb e args s v u, (limb_1_1.after args s (.returned v) u = true ∧ limb_1_2.after args s (.returned v) u = true ∧ True) → FrameEnd s (.returned v) u (Jvm.fieldLocs frame_1_writes args s ++ Jvm.arrayLocs frame_1_arrays args s ++ Jvm.staticLocs frame_1_statics s) 0 0 → Post tb e args s (.returned v) u) :
    ArmFor flags0 classFile x code maxLocals ret World_1 tables_1 room_1 Calls_1 rest_1 Pre_1 Post := by
  intro l hfl _ _ p e ha hc hk s m args below hf hA hF happ hP
  obtain ⟨hcalls, hrest, hpre⟩ := hP
  obtain ⟨-, -, -, hnamed, -, -, -, hat⟩ := (Spec.applies_iff hf).mp happ
  obtain ⟨hg, hn⟩ := and_e (Cond.before_iff.mp (show (Jvm.Cond.and given_1 narrow_1).before args s = true from hpre))
  obtain ⟨gg1, gg2⟩ := and_e hg
  obtain ⟨gg3, gg4⟩ := and_e gg2
  obtain ⟨w0, w1, rfl⟩ : ∃ w0 w1 : Value, args = #[w0, w1] := by
    have hs : args.size = 2 := by simpa [Cond.value, given_1] using gg1
    obtain ⟨L⟩ := args
    match L, hs with
    | [w0, w1], _ => exact ⟨w0, w1, rfl⟩
  have hw := fun d (hd : d ∈ tables_1) => atoms_spec (ws := Jvm.Cond.code x code maxLocals ret :: tables_1) hat d (List.mem_cons_of_mem _ hd)
  have hfit : Fit s := fun {y c} hc i hi => by
    obtain ⟨ha, rfl⟩ := Array.getElem?_eq_some_iff.mp hc
    have q := List.all_eq_true.mp ((Array.all_eq_true_iff_forall_mem.mp hF) _ (Array.getElem_mem ha)) i (List.mem_range.mpr hi)
    simpa [Array.getElem?_eq_getElem hi] using q
  obtain ⟨i0, ei0⟩ := isL_v gg3
  obtain rfl : w0 = (.long i0) := Option.some.inj ei0
  obtain ⟨i1, ei1⟩ := is_v gg4
  obtain rfl : w1 = (.int i1) := Option.some.inj ei1
  obtain ⟨nn1, nn2⟩ := and_e hn
  obtain ⟨nn3, nn4⟩ := and_e nn2
  obtain ⟨nn5, nn6⟩ := and_e nn4
  obtain ⟨nn7, nn8⟩ := and_e nn6
  obtain ⟨nn9, nn10⟩ := and_e nn8
  obtain ⟨nn11, nn12⟩ := and_e nn10
  obtain ⟨nn13, nn14⟩ := and_e nn12
  obtain ⟨nn15, nn16⟩ := and_e nn14
  obtain ⟨nn17, nn18⟩ := and_e nn16
  obtain ⟨nn19, nn20⟩ := and_e nn18
  obtain ⟨wT, evT⟩ := arr_v nn1
  obtain ⟨clT, ArT⟩ := Arr.start evT nn1
  obtain ⟨lT1, lT2⟩ := own_lenI evT ArT nn3
  have S_T : Sta s s.heap "com/example/sevenfold/sevenfold/Natural" "TOP_BITS" "[J" (.ref wT) := Sta.start evT (Or.inr ⟨(hw _ (List.mem_of_getElem? (i := 4) rfl)), (hw _ (List.mem_of_getElem? (i := 8) rfl))⟩)
  have V_T : Arv s s.heap wT clT.cls .long (9 : Int32) [(.long (0 : Int64)), (.long (0 : Int64)), (.long (-9223372036854775808 : Int64)), (.long (-9187343239835811840 : Int64)), (.long (-9187202502347456512 : Int64)), (.long (-9187201952591642624 : Int64)), (.long (-9187201950444158976 : Int64)), (.long (-9187201950435770368 : Int64)), (.long (-9187201950435737600 : Int64))] (.long (0 : Int64)) := Arv.start hfit ArT lT1 lT2 (by decide) rfl ⟨own_elemL evT ArT.1 nn5, own_elemL evT ArT.1 nn7, own_elemL evT ArT.1 nn9, own_elemL evT ArT.1 nn11, own_elemL evT ArT.1 nn13, own_elemL evT ArT.1 nn15, own_elemL evT ArT.1 nn17, own_elemL evT ArT.1 nn19, own_elemL evT ArT.1 nn20, trivial⟩
  obtain ⟨n, o, h1, h2, h3, _, L, rfl, ⟨rfl, N⟩, hq⟩ := rm0 l s _ hw tables_1 i0 i1 wT clT.cls s.heap s.heap.size (Nat.le_refl _) S_T V_T p e ha hc hk s m _ below hf ((Spec.applies_iff_loose hf).mp happ).1 ⟨rfl, State.Warmed39.refl s, rfl⟩ trivial
  refine ⟨n, _, h1, h2, h3, hpost _ _ _ _ _ _ ⟨Cond.after_iff.mpr rfl, Cond.after_iff.mpr (eq_i res_at (Term.int_eval (1)) rfl), trivial⟩ ⟨hq.1, hq.2.1, (hq.2.2.sift fun y hy => Or.inr (N y hy)).mono (by decide) (by decide)⟩⟩
theorem main_1_1 : Claimed_1_1 := comes_1 fun _ _ _ _ _ _ h hF => ⟨h.1, hF⟩
theorem main_1_2 : Claimed_1_2 := comes_1 fun _ _ _ _ _ _ h hF => ⟨h.2.1, hF⟩
end Jvm.Pilot.@@N@@
namespace Jvm.Pilot.@@N@@
open Jvm Jvm.ClassFile Sem Op Lib Jvm.Free Jvm.Stand Jvm.Pilot.@@N@@.Jvm.D
/-! MADE BY PROGRAM (witnessworld.py) out of the Statement's table words and the real class files: 11 classes; the members and pool entries that the words name. The judged class is class 1, her method 1. -/
namespace start1
open Jvm.ClassFile
def u (s : String) : CpInfo := .utf8 (stringToUtf16 s)
/-- a pool by its gaps: so many unusable entries, then the entry; so many at the end -/
def gap : Nat → List CpInfo → List CpInfo
  | 0, r => r
  | n + 1, r => .unusable :: gap n r
def poolList (es : List (Nat × CpInfo)) (last : Nat) : List CpInfo := es.foldr (fun e r => gap e.1 (e.2 :: r)) (gap last [])
def pool (es : List (Nat × CpInfo)) (last : Nat) : Array CpInfo := ⟨poolList es last⟩
def fileOf (pool : Array CpInfo) (this : Nat) (attrs : Array Attribute := #[]) (ms : Array MethodInfo := #[]) (fl : Nat := 33) (sup : Nat := 0) (ifs : Array Nat := #[]) (fds : Array FieldInfo := #[]) : ClassFile where
  minorVersion := 0
  majorVersion := 65
  constantPool := pool
  accessFlags := fl
  thisClass := this
  superClass := sup
  interfaces := ifs
  fields := fds
  methods := ms
  attributes := attrs
def plain (name : String) (sup : Option ClassId) : Class where
  name := name
  kind := .ordinary
  loader := none
  accessFlags := 33
  super := sup
  interfaces := #[]
  cf := none
  fields := #[]
  methods := #[]
  instanceTypes := #[]
  staticTypes := #[]
  resolved := #[]
  callSites := []
  init := .initialized
  statics := none
  mirror := none

def pool0 : Array CpInfo := pool [(5, u "<init>"), (0, u "()V"), (1, .class_ 10), (1, u "java/lang/Object")] 113

def k0m0 : Method := { name := "<init>", desc := "()V", sig := { parameters := [], returnType := none }, accessFlags := 1, code := none }
/-- java/lang/Object -/
def k0 : Class := { plain "java/lang/Object" none with
  accessFlags := 33
  interfaces := #[]
  cf := some (fileOf pool0 8 #[] #[{ accessFlags := 1, nameIndex := 5, descriptorIndex := 6, attributes := #[] }] 33 0 #[] #[])
  fields := #[]
  methods := #[k0m0]
  instanceTypes := #[]
  staticTypes := #[]
  resolved := Array.replicate 124 none
  statics := none }

def pool1 : Array CpInfo := pool [(2, .class_ 4), (1, u "java/lang/Object"), (0, u "<init>"), (0, u "()V"), (0, .long 9259542123273814016), (1, .long 18446744073709551487), (1, .methodref 12 13), (0, .class_ 14), (0, .nameAndType 15 16), (0, u "com/example/sevenfold/sevenfold/Natural"), (0, u "isEight"), (0, u "(J)Z"), (0, .class_ 18), (0, u "com/example/sevenfold/sevenfold/NaturalIsEightPinLaw"), (2, u "law"), (0, u "(JI)Z")] 3

def k1m0 : Method := { name := "<init>", desc := "()V", sig := { parameters := [], returnType := none }, accessFlags := 2, code := none }
def k1c1 : Code := { maxStack := 6, maxLocals := 16, code := code, exceptionTable := #[], attributes := #[] }
def k1m1 : Method := { name := "law", desc := "(JI)Z", sig := { parameters := [.long, .int], returnType := some .boolean }, accessFlags := 9, code := some k1c1 }
/-- com/example/sevenfold/sevenfold/NaturalIsEightPinLaw -/
def k1 : Class := { plain "com/example/sevenfold/sevenfold/NaturalIsEightPinLaw" (some 0) with
  accessFlags := 49
  interfaces := #[]
  cf := some (fileOf pool1 17 #[] #[{ accessFlags := 2, nameIndex := 5, descriptorIndex := 6, attributes := #[] }, { accessFlags := 9, nameIndex := 21, descriptorIndex := 22, attributes := #[] }] 49 2 #[] #[])
  fields := #[]
  methods := #[k1m0, k1m1]
  instanceTypes := #[]
  staticTypes := #[]
  resolved := Array.replicate 26 none
  statics := none }

def pool2 : Array CpInfo := pool [(3, .class_ 4), (0, u "com/example/sevenfold/sevenfold/Natural"), (1, .class_ 8), (1, u "java/lang/Object"), (0, u "<init>"), (0, u "()V"), (14, u "(J)Z"), (8, u "FIRST_OF_EIGHT"), (0, u "J"), (2, u "BIG_ENDIAN_LONG"), (0, u "Ljava/lang/invoke/VarHandle;"), (4, .fieldref 3 45), (0, .nameAndType 46 47), (0, u "TOP_BITS"), (0, u "[J"), (12, u "FIRST_OF_LENGTH"), (39, u "LENGTH_OF_BITS"), (0, u "[B"), (93, .long 9259542123273814144), (54, u "LONG_LENGTH"), (0, u "I"), (2, u "LONG_GROWTH_LIMIT"), (0, u "GROUP_MASK"), (1, u "MORE"), (1, u "NEGATIVE"), (0, u "Ljava/lang/String;"), (2, u "EVERY_TOP_BIT"), (0, u "LOW_SEVEN_BITS"), (11, u "isEight")] 22

def k2m0 : Method := { name := "<init>", desc := "()V", sig := { parameters := [], returnType := none }, accessFlags := 2, code := none }
def k2c1 : Code := { maxStack := 4, maxLocals := 2, code := prog_5_method_14_code, exceptionTable := #[], attributes := #[] }
def k2m1 : Method := { name := "isEight", desc := "(J)Z", sig := { parameters := [.long], returnType := some .boolean }, accessFlags := 8, code := some k2c1 }
/-- com/example/sevenfold/sevenfold/Natural -/
def k2 : Class := { plain "com/example/sevenfold/sevenfold/Natural" (some 0) with
  accessFlags := 49
  interfaces := #[]
  cf := some (fileOf pool2 3 #[] #[{ accessFlags := 2, nameIndex := 9, descriptorIndex := 10, attributes := #[] }, { accessFlags := 8, nameIndex := 276, descriptorIndex := 25, attributes := #[] }] 49 6 #[] #[{ accessFlags := 24, nameIndex := 250, descriptorIndex := 251, attributes := #[] }, { accessFlags := 26, nameIndex := 254, descriptorIndex := 35, attributes := #[] }, { accessFlags := 26, nameIndex := 255, descriptorIndex := 251, attributes := #[] }, { accessFlags := 26, nameIndex := 257, descriptorIndex := 251, attributes := #[] }, { accessFlags := 26, nameIndex := 60, descriptorIndex := 47, attributes := #[] }, { accessFlags := 26, nameIndex := 46, descriptorIndex := 47, attributes := #[] }, { accessFlags := 26, nameIndex := 100, descriptorIndex := 101, attributes := #[] }, { accessFlags := 26, nameIndex := 34, descriptorIndex := 35, attributes := #[] }, { accessFlags := 26, nameIndex := 259, descriptorIndex := 260, attributes := #[] }, { accessFlags := 26, nameIndex := 263, descriptorIndex := 35, attributes := #[] }, { accessFlags := 26, nameIndex := 264, descriptorIndex := 35, attributes := #[] }, { accessFlags := 26, nameIndex := 38, descriptorIndex := 39, attributes := #[] }])
  fields := #[{ name := "LONG_LENGTH", type := .int, accessFlags := 24, slot := 0, constantValue := 0 }, { name := "LONG_GROWTH_LIMIT", type := .long, accessFlags := 26, slot := 1, constantValue := 0 }, { name := "GROUP_MASK", type := .int, accessFlags := 26, slot := 2, constantValue := 0 }, { name := "MORE", type := .int, accessFlags := 26, slot := 3, constantValue := 0 }, { name := "FIRST_OF_LENGTH", type := (.array .long), accessFlags := 26, slot := 4, constantValue := 0 }, { name := "TOP_BITS", type := (.array .long), accessFlags := 26, slot := 5, constantValue := 0 }, { name := "LENGTH_OF_BITS", type := (.array .byte), accessFlags := 26, slot := 6, constantValue := 0 }, { name := "FIRST_OF_EIGHT", type := .long, accessFlags := 26, slot := 7, constantValue := 0 }, { name := "NEGATIVE", type := (.object "java/lang/String"), accessFlags := 26, slot := 8, constantValue := 0 }, { name := "EVERY_TOP_BIT", type := .long, accessFlags := 26, slot := 9, constantValue := 0 }, { name := "LOW_SEVEN_BITS", type := .long, accessFlags := 26, slot := 10, constantValue := 0 }, { name := "BIG_ENDIAN_LONG", type := (.object "java/lang/invoke/VarHandle"), accessFlags := 26, slot := 11, constantValue := 0 }]
  methods := #[k2m0, k2m1]
  instanceTypes := #[]
  staticTypes := #[.int, .long, .int, .int, (.array .long), (.array .long), (.array .byte), .long, (.object "java/lang/String"), .long, .long, (.object "java/lang/invoke/VarHandle")]
  resolved := Array.replicate 299 none
  statics := some 0 }

def pool3 : Array CpInfo := pool [(1, u "java/lang/Cloneable"), (0, .class_ 1), (0, u "java/lang/Object"), (0, .class_ 3)] 3

/-- java/lang/Cloneable -/
def k3 : Class := { plain "java/lang/Cloneable" (some 0) with
  accessFlags := 1537
  interfaces := #[]
  cf := some (fileOf pool3 2 #[] #[] 1537 4 #[] #[])
  fields := #[]
  methods := #[]
  instanceTypes := #[]
  staticTypes := #[]
  resolved := Array.replicate 8 none
  statics := none }

def pool4 : Array CpInfo := pool [(1, u "java/io/Serializable"), (0, .class_ 1), (0, u "java/lang/Object"), (0, .class_ 3)] 3

/-- java/io/Serializable -/
def k4 : Class := { plain "java/io/Serializable" (some 0) with
  accessFlags := 1537
  interfaces := #[]
  cf := some (fileOf pool4 2 #[] #[] 1537 4 #[] #[])
  fields := #[]
  methods := #[]
  instanceTypes := #[]
  staticTypes := #[]
  resolved := Array.replicate 8 none
  statics := none }

/-- the primitive byte -/
def k5 : Class := { plain "byte" none with kind := .primitive 'B', accessFlags := 0x411 }
/-- [B -/
def k6 : Class := { plain "[B" (some 0) with kind := .array 5 .byte, interfaces := #[3, 4], accessFlags := 1041 }

/-- the primitive int -/
def k7 : Class := { plain "int" none with kind := .primitive 'I', accessFlags := 0x411 }
/-- [I -/
def k8 : Class := { plain "[I" (some 0) with kind := .array 7 .int, interfaces := #[3, 4], accessFlags := 1041 }

/-- the primitive long -/
def k9 : Class := { plain "long" none with kind := .primitive 'J', accessFlags := 0x411 }
/-- [J -/
def k10 : Class := { plain "[J" (some 0) with kind := .array 9 .long, interfaces := #[3, 4], accessFlags := 1041 }

def heap : Heap := #[{ cls := 2, slots := #[.int 0, .long 0, .int 0, .int 0, .null, .ref 1, .null, .long 0, .null, .long 0, .long 0, .null], vm := .statics 2 },
  { cls := 10, slots := #[.long 0, .long 0, .long (-9223372036854775808), .long (-9187343239835811840), .long (-9187202502347456512), .long (-9187201952591642624), .long (-9187201950444158976), .long (-9187201950435770368), .long (-9187201950435737600)], vm := .none }]
def classes : Array Class := #[k0, k1, k2, k3, k4, k5, k6, k7, k8, k9, k10]
def interned : List (Array UInt16 × Addr) := []
def slotsUsed : Nat := 21
def theMethod : MethodId := ⟨1, 1⟩
def args0 : Array Value := #[.long 3, .int 4]
def aboutOver (below : List Frame) : State where
  vm := { classes := classes, interned := interned.toArray }
  heap := heap
  slotsUsed := slotsUsed
  threads := #[{ frames := .invoking theMethod args0 :: below }]
def below0 : List Frame := [.native { method := ⟨0, 0⟩, args := #[] }]
def about1 : State := aboutOver below0
def p0 : Program := .bare "" "" ""
def e0 : Env := launch0.env 0 0 0
theorem w_frames : about1.frames = Frame.invoking theMethod args0 :: below0 := rfl
set_option maxRecDepth 65536 in
theorem w_args : argsFit about1.vm theMethod args0 = true := by decide +kernel
set_option maxRecDepth 65536 in
theorem w_heap : heapFits about1 = true := by decide +kernel
set_option maxRecDepth 65536 in
theorem w_runnable : about1.curStatus? = some .runnable := by decide +kernel
set_option maxRecDepth 65536 in
theorem w_alone : about1.alone = true := by decide +kernel
set_option maxRecDepth 65536 in
theorem w_named : about1.methodNamed? x = some theMethod := by decide +kernel
set_option maxRecDepth 65536 in
theorem w_hears : about1.hears theMethod below0 = true := by decide +kernel
set_option maxRecDepth 65536 in
theorem w_ripe : about1.ripe theMethod args0 below0 = true := by decide +kernel
theorem w_running : about1.status = .running := rfl
set_option maxRecDepth 65536 in
theorem w_room : about1.hasRoom e0.platform room_1 = true :=
  launch0.hasRoom_least _ room_1 (by decide +kernel) (by decide +kernel) (by decide +kernel) (by decide +kernel) (by decide +kernel) (by decide +kernel)
theorem allAtoms_all (ts : List Jvm.Cond) (a : Array Jvm.Value) (st : Jvm.State) : (allAtoms ts).before a st = ts.all (fun c => c.before a st) := by
  induction ts with
  | nil => rfl
  | cons c t ih =>
    show (Jvm.Cond.and c (allAtoms t)).before a st = _
    rw [Jvm.Cond.before_and, ih, List.all_cons]
def words1 : List Jvm.Cond := Jvm.Cond.code x code maxLocals ret :: tables_1
/-- a 'code' word, met by the world's own term for the bytes: nothing is compared byte by byte -/
theorem code_word {y : MethodName} {bytes : ByteArray} {mx : Nat} {rt : Option FieldType} {a : Array Value} {s : State} {m : MethodId} {meth : Method} {c : Code} (h1 : s.methodNamed? y = some m) (h2 : s.vm.method? m = some meth) (h3 : meth.code = some c) (h4 : c.code = bytes)
    (h5 : (c.maxLocals == mx && c.exceptionTable.isEmpty && decide (c.maxStack ≤ mostOperands) && decide (meth.sig.returnType = rt) && !meth.locks && decide (parseMethodDescriptor y.desc = some meth.sig)) = true) : (Jvm.Cond.code y bytes mx rt).before a s = true := by
  simp only [Bool.and_eq_true, beq_iff_eq, Bool.not_eq_true', decide_eq_true_eq] at h5
  obtain ⟨⟨⟨⟨⟨g1, g2⟩, g3⟩, g4⟩, g5⟩, g6⟩ := h5
  simp [Cond.before, Cond.holds, Cond.value, h1, h2, h3, h4, g1, g2, g3, g4, g5, g6]
def isCode : Jvm.Cond → Bool
  | .code _ _ _ _ => true
  | _ => false
theorem all_split {L : List Jvm.Cond} {P : Jvm.Cond → Bool} (h1 : L.all (fun c => isCode c || P c) = true) (h2 : ∀ c ∈ L.filter isCode, P c = true) : L.all P = true := by
  refine List.all_eq_true.mpr fun c hc => ?_
  have h := List.all_eq_true.mp h1 c hc
  rcases Bool.eq_false_or_eq_true (isCode c) with hi | hi
  · exact h2 c (List.mem_filter.mpr ⟨hc, hi⟩)
  · simpa [hi] using h
set_option maxRecDepth 65536 in
theorem w_c0 : (Jvm.Cond.code x code maxLocals ret).before args0 about1 = true := code_word (m := ⟨1, 1⟩) (meth := k1m1) (c := k1c1) (by decide +kernel) rfl rfl rfl (by decide +kernel)
set_option maxRecDepth 65536 in
theorem w_c1 : (Jvm.Cond.code ({ cls := "com/example/sevenfold/sevenfold/Natural", name := "isEight", desc := "(J)Z" } : Jvm.MethodName) prog_5_method_14_code (2 : Nat) (Option.some Jvm.ClassFile.FieldType.boolean)).before args0 about1 = true := code_word (m := ⟨2, 1⟩) (meth := k2m1) (c := k2c1) (by decide +kernel) rfl rfl rfl (by decide +kernel)
def codes1 : List Jvm.Cond := [Jvm.Cond.code x code maxLocals ret, Jvm.Cond.code ({ cls := "com/example/sevenfold/sevenfold/Natural", name := "isEight", desc := "(J)Z" } : Jvm.MethodName) prog_5_method_14_code (2 : Nat) (Option.some Jvm.ClassFile.FieldType.boolean)]
set_option maxRecDepth 65536 in
theorem codes_eq : words1.filter isCode = codes1 := rfl
theorem w_codes : ∀ c ∈ words1.filter isCode, c.before args0 about1 = true := by
  rw [codes_eq]
  intro c hc
  simp only [codes1, List.mem_cons, List.not_mem_nil, or_false] at hc
  rcases hc with rfl | rfl
  · exact w_c0
  · exact w_c1
set_option maxRecDepth 65536 in
theorem w_t1 : words1.all (fun c => isCode c || c.before args0 about1) = true := by decide +kernel
theorem w_tables : (allAtoms (Jvm.Cond.code x code maxLocals ret :: tables_1)).before args0 about1 = true := by
  rw [allAtoms_all]
  show words1.all (fun c => c.before args0 about1) = true
  refine all_split ?_ w_codes
  rw [w_t1]
set_option maxRecDepth 65536 in
theorem w_case : (Jvm.Cond.and given_1 narrow_1).before args0 about1 = true := by decide +kernel
theorem w_applies : (headSpec (Jvm.Cond.code x code maxLocals ret :: tables_1) room_1).applies x e0.platform about1 = true :=
  (Spec.applies_iff w_frames).mpr ⟨w_running, w_runnable, w_alone, w_named, w_hears, w_ripe, w_room, w_tables⟩
theorem atStart : AtStart classFile x code maxLocals ret World_1 tables_1 room_1 Calls_1 rest_1 Pre_1 launch0 p0 e0 about1 theMethod args0 below0 :=
  ⟨lists_1, trivial, launch0.admits_env _ _ _, launch0.least_env, fairChoices_fair.cas, fairChoices_fair.clock, w_frames, w_args, w_heap, w_applies, trivial, trivial, w_case⟩
end start1
theorem witness_1 : WitnessClaimed_1 := ⟨start1.p0, start1.e0, start1.about1, start1.theMethod, start1.args0, start1.below0, start1.atStart⟩
end Jvm.Pilot.@@N@@
