import JvmDerived
import JvmDerived.Pilot.@@N@@Statement
import JvmDerived.Pilot.@@N@@Code
set_option linter.unusedVariables false
set_option linter.unusedSimpArgs false
namespace Jvm.Pilot.@@N@@
open Jvm Jvm.ClassFile Sem Op Lib Jvm.Free Jvm.Stand Jvm.LawKit Jvm.RoadKit Bundle Jvm.Pilot.@@N@@.Jvm.D
section OwnKit
variable {p : Program} {l : Launch} {e : Env} {R : Room} {s : State} {m : MethodId} {args : Array Value} {below : List Frame} {meth : Method} {c : Code} {T : State} {locs : List Loc} {cells slots : Nat}
theorem own_retI (X : Stand p l e R s m args below meth c T locs cells slots) (hx : p.tables.exec = Jvm.exec) {pc : Nat} {Ls : Array Slot} {z : Int32} {rest : List Value} (hret : meth.sig.returnType = some .int) (hd : decode c.code pc = .ok (.ireturn, 1)) {fs : List Frame}
    (hl : ∀ (f : JFrame) (acts : List Action), f.method = m → f.locked = none → f.entered = [] → (doReturn e (T.setTop f) acts (some (.int z))).1 = T.setFrames fs) : Steps p.tables e below (T.setTop (mkF m pc Ls (.int z :: rest))) (T.setFrames fs) :=
  retOut X hx hret rfl (Or.inl ⟨rfl, Or.inl rfl, z, rfl⟩) hd hl
theorem own_retL (X : Stand p l e R s m args below meth c T locs cells slots) (hx : p.tables.exec = Jvm.exec) {pc : Nat} {Ls : Array Slot} {z : Int64} {rest : List Value} (hret : meth.sig.returnType = some .long) (hd : decode c.code pc = .ok (.lreturn, 1)) {fs : List Frame}
    (hl : ∀ (f : JFrame) (acts : List Action), f.method = m → f.locked = none → f.entered = [] → (doReturn e (T.setTop f) acts (some (.long z))).1 = T.setFrames fs) : Steps p.tables e below (T.setTop (mkF m pc Ls (.long z :: rest))) (T.setFrames fs) :=
  retOut X hx hret rfl (Or.inr (Or.inl ⟨rfl, rfl, z, rfl⟩)) hd hl
theorem own_retA (X : Stand p l e R s m args below meth c T locs cells slots) (hx : p.tables.exec = Jvm.exec) {pc : Nat} {Ls : Array Slot} {t : FieldType} {v : Value} {rest : List Value} (hret : meth.sig.returnType = some t) (ht : t.isReference = true) (hv : v.isRef = true) (hn : narrow t v = v) (hd : decode c.code pc = .ok (.areturn, 1)) {fs : List Frame}
    (hl : ∀ (f : JFrame) (acts : List Action), f.method = m → f.locked = none → f.entered = [] → (doReturn e (T.setTop f) acts (some v)).1 = T.setFrames fs) : Steps p.tables e below (T.setTop (mkF m pc Ls (v :: rest))) (T.setFrames fs) :=
  retOut X hx hret hn (Or.inr (Or.inr (Or.inr (Or.inr ⟨rfl, ht, hv⟩)))) hd hl
theorem own_ns_exa {Z : State} {h : Heap} {a : Addr} {C : String} (F : Exa Z h a C) : ∃ c : Cell, h[a]? = some c ∧ c.vm.isStatics = false := by
  obtain ⟨c, _, h1, -, -, h4, -⟩ := F; exact ⟨c, h1, h4⟩
theorem own_ns_arv {Z : State} {h : Heap} {a : Addr} {k : ClassId} {ty : FieldType} {z : Int32} {vs : List Value} {dv : Value} (F : Arv Z h a k ty z vs dv) : ∃ c : Cell, h[a]? = some c ∧ c.vm.isStatics = false := by
  obtain ⟨c, A, -⟩ := F; exact ⟨c, A.1, A.plain⟩
theorem own_sta_keep {Z : State} {h h' : Heap} {C n d : String} {v : Value} {ws : List Addr} (F : Sta Z h C n d v) (K : Keep h h' ws) (q : ∀ x ∈ ws, ∃ c : Cell, h[x]? = some c ∧ c.vm.isStatics = false) : Sta Z h' C n d v := by
  obtain ⟨cf, i, k, f, st, cell, h1, h2, h3, h4, h5, h6, h7⟩ := F
  refine ⟨cf, i, k, f, st, cell, h1, h2, h3, h4, K.2.1 st cell h5 (fun m => ?_), h6, h7⟩
  obtain ⟨c, e1, e2⟩ := q st m; cases h5.symm.trans e1; rw [e2] at h6; cases h6
/-- from A the run ends, and then P -/
def OwnGo (tb : Tables) (e : Env) (below : List Frame) (P : Outcome → State → Prop) (A : State) : Prop := ∃ s₂ o, Steps tb e below A s₂ ∧ s₂.status = .running ∧ Ended s₂ below o ∧ P o s₂
theorem OwnGo.of {tb : Tables} {P : Outcome → State → Prop} {A B : State} (k : ∀ t, Steps tb e below B t → Steps tb e below A t) (g : OwnGo tb e below P B) : OwnGo tb e below P A := by
  obtain ⟨s2, o, h1, h2⟩ := g; exact ⟨s2, o, k _ h1, h2⟩
end OwnKit

theorem own_fldI {s : State} {args : Array Value} {t : Term} {a : Addr} {C n d : String} {k : Int32} (ev : t.eval args s none [] s = some (.ref a)) (h : (Jvm.Cond.eq (.field t C n d) (.int k)).value args s none s [] = some true) : Fld s s.heap a C n d (.int k) := by
  have hb : (Term.int k).eval args s none [] s = some (.int k) := rfl
  cases ha : (Term.field t C n d).eval args s none [] s with
  | none => simp [Cond.value, ha] at h
  | some x =>
    cases x <;> simp [Cond.value, ha, hb] at h
    subst h
    rw [fld_at ev] at ha; exact Fld.start ha
theorem own_fldL {s : State} {args : Array Value} {t : Term} {a : Addr} {C n d : String} {k : Int64} (ev : t.eval args s none [] s = some (.ref a)) (h : (Jvm.Cond.eq (.field t C n d) (.long k)).value args s none s [] = some true) : Fld s s.heap a C n d (.long k) := by
  have hb : (Term.long k).eval args s none [] s = some (.long k) := rfl
  cases ha : (Term.field t C n d).eval args s none [] s with
  | none => simp [Cond.value, ha] at h
  | some x =>
    cases x <;> simp [Cond.value, ha, hb] at h
    subst h
    rw [fld_at ev] at ha; exact Fld.start ha

def own_f1 (p0 : Int32) (wMUL : Addr) (wUMULH : Addr) (wSMULH : Addr) (wADDSHIFT : Addr) (wSUB : Addr) (wXOR : Addr) (wADDCONST : Addr) (wXORCONST : Addr) (wROTATE : Addr) (wTARGET : Addr) (wBRANCH : Addr) : Addr := (if p0 = (0 : Int32) then wMUL else (if p0 = (1 : Int32) then wUMULH else (if p0 = (2 : Int32) then wSMULH else (if p0 = (3 : Int32) then wADDSHIFT else (if p0 = (4 : Int32) then wSUB else (if p0 = (5 : Int32) then wXOR else (if p0 = (6 : Int32) then wADDCONST else (if p0 = (7 : Int32) then wXORCONST else (if p0 = (8 : Int32) then wROTATE else (if p0 = (9 : Int32) then wTARGET else wBRANCH))))))))))
theorem pn_0 : plainName "com/example/fend/fend/puzzle/hashx/OpcodeIsMultiplyPinLaw" = true := by first | (simp [plainName, overriddenIn]; done) | decide +kernel
theorem d1_0 : decode method_2_code 0 = .ok (.iload_n 0, 1) := by decide +kernel
theorem d1_1 : decode method_2_code 1 = .ok (.ifCond .ne 7, 3) := by decide +kernel
theorem d1_4 : decode method_2_code 4 = .ok (.getstatic 7, 3) := by decide +kernel
theorem d1_7 : decode method_2_code 7 = .ok (.areturn, 1) := by decide +kernel
theorem d1_8 : decode method_2_code 8 = .ok (.iload_n 0, 1) := by decide +kernel
theorem d1_9 : decode method_2_code 9 = .ok (.iconst 1, 1) := by decide +kernel
theorem d1_10 : decode method_2_code 10 = .ok (.if_icmp .ne 7, 3) := by decide +kernel
theorem d1_13 : decode method_2_code 13 = .ok (.getstatic 13, 3) := by decide +kernel
theorem d1_16 : decode method_2_code 16 = .ok (.areturn, 1) := by decide +kernel
theorem d1_17 : decode method_2_code 17 = .ok (.iload_n 0, 1) := by decide +kernel
theorem d1_18 : decode method_2_code 18 = .ok (.iconst 2, 1) := by decide +kernel
theorem d1_19 : decode method_2_code 19 = .ok (.if_icmp .ne 7, 3) := by decide +kernel
theorem d1_22 : decode method_2_code 22 = .ok (.getstatic 16, 3) := by decide +kernel
theorem d1_25 : decode method_2_code 25 = .ok (.areturn, 1) := by decide +kernel
theorem d1_26 : decode method_2_code 26 = .ok (.iload_n 0, 1) := by decide +kernel
theorem d1_27 : decode method_2_code 27 = .ok (.iconst 3, 1) := by decide +kernel
theorem d1_28 : decode method_2_code 28 = .ok (.if_icmp .ne 7, 3) := by decide +kernel
theorem d1_31 : decode method_2_code 31 = .ok (.getstatic 19, 3) := by decide +kernel
theorem d1_34 : decode method_2_code 34 = .ok (.areturn, 1) := by decide +kernel
theorem d1_35 : decode method_2_code 35 = .ok (.iload_n 0, 1) := by decide +kernel
theorem d1_36 : decode method_2_code 36 = .ok (.iconst 4, 1) := by decide +kernel
theorem d1_37 : decode method_2_code 37 = .ok (.if_icmp .ne 7, 3) := by decide +kernel
theorem d1_40 : decode method_2_code 40 = .ok (.getstatic 22, 3) := by decide +kernel
theorem d1_43 : decode method_2_code 43 = .ok (.areturn, 1) := by decide +kernel
theorem d1_44 : decode method_2_code 44 = .ok (.iload_n 0, 1) := by decide +kernel
theorem d1_45 : decode method_2_code 45 = .ok (.iconst 5, 1) := by decide +kernel
theorem d1_46 : decode method_2_code 46 = .ok (.if_icmp .ne 7, 3) := by decide +kernel
theorem d1_49 : decode method_2_code 49 = .ok (.getstatic 25, 3) := by decide +kernel
theorem d1_52 : decode method_2_code 52 = .ok (.areturn, 1) := by decide +kernel
theorem d1_53 : decode method_2_code 53 = .ok (.iload_n 0, 1) := by decide +kernel
theorem d1_54 : decode method_2_code 54 = .ok (.bipush 6, 2) := by decide +kernel
theorem d1_56 : decode method_2_code 56 = .ok (.if_icmp .ne 7, 3) := by decide +kernel
theorem d1_59 : decode method_2_code 59 = .ok (.getstatic 28, 3) := by decide +kernel
theorem d1_62 : decode method_2_code 62 = .ok (.areturn, 1) := by decide +kernel
theorem d1_63 : decode method_2_code 63 = .ok (.iload_n 0, 1) := by decide +kernel
theorem d1_64 : decode method_2_code 64 = .ok (.bipush 7, 2) := by decide +kernel
theorem d1_66 : decode method_2_code 66 = .ok (.if_icmp .ne 7, 3) := by decide +kernel
theorem d1_69 : decode method_2_code 69 = .ok (.getstatic 31, 3) := by decide +kernel
theorem d1_72 : decode method_2_code 72 = .ok (.areturn, 1) := by decide +kernel
theorem d1_73 : decode method_2_code 73 = .ok (.iload_n 0, 1) := by decide +kernel
theorem d1_74 : decode method_2_code 74 = .ok (.bipush 8, 2) := by decide +kernel
theorem d1_76 : decode method_2_code 76 = .ok (.if_icmp .ne 7, 3) := by decide +kernel
theorem d1_79 : decode method_2_code 79 = .ok (.getstatic 34, 3) := by decide +kernel
theorem d1_82 : decode method_2_code 82 = .ok (.areturn, 1) := by decide +kernel
theorem d1_83 : decode method_2_code 83 = .ok (.iload_n 0, 1) := by decide +kernel
theorem d1_84 : decode method_2_code 84 = .ok (.bipush 9, 2) := by decide +kernel
theorem d1_86 : decode method_2_code 86 = .ok (.if_icmp .ne 7, 3) := by decide +kernel
theorem d1_89 : decode method_2_code 89 = .ok (.getstatic 37, 3) := by decide +kernel
theorem d1_92 : decode method_2_code 92 = .ok (.areturn, 1) := by decide +kernel
theorem d1_93 : decode method_2_code 93 = .ok (.getstatic 40, 3) := by decide +kernel
theorem d1_96 : decode method_2_code 96 = .ok (.areturn, 1) := by decide +kernel
theorem ef_rm1 (m : MethodId) (p0 : Int32) : entryFrame m #[(.int p0)] 1 = mkF m 0 #[.val (.int p0)] [] := by first | (simp [entryFrame, mkF, argsToLocals, Value.category]; done) | rfl
def Qrm1 (Z : State) (p0 : Int32) (wMUL : Addr) (wUMULH : Addr) (wSMULH : Addr) (wADDSHIFT : Addr) (wSUB : Addr) (wXOR : Addr) (wADDCONST : Addr) (wXORCONST : Addr) (wROTATE : Addr) (wTARGET : Addr) (wBRANCH : Addr) (h0 : Heap) (n0 : Nat) (v : Option Value) (h : Heap) (L : List Loc) : Prop := v = some (.ref (own_f1 p0 wMUL wUMULH wSMULH wADDSHIFT wSUB wXOR wADDCONST wXORCONST wROTATE wTARGET wBRANCH)) ∧ Fr n0 L ∧ h = h0
set_option maxRecDepth 65536 in
set_option maxHeartbeats 40000000 in
theorem rm1 (l : Launch) (Z : State) (aw : Array Value) (hw : ∀ d ∈ tables_1, d.before aw Z = true) (ws : List Jvm.Cond) (p0 : Int32) (wMUL : Addr) (wUMULH : Addr) (wSMULH : Addr) (wADDSHIFT : Addr) (wSUB : Addr) (wXOR : Addr) (wADDCONST : Addr) (wXORCONST : Addr) (wROTATE : Addr) (wTARGET : Addr) (wBRANCH : Addr) (h0 : Heap) (n0 : Nat) (Z0 : n0 ≤ h0.size) (S_MUL : Sta Z h0 "com/example/fend/fend/puzzle/hashx/Opcode" "MUL" "Lcom/example/fend/fend/puzzle/hashx/Opcode;" (.ref wMUL)) (S_UMULH : Sta Z h0 "com/example/fend/fend/puzzle/hashx/Opcode" "UMULH" "Lcom/example/fend/fend/puzzle/hashx/Opcode;" (.ref wUMULH)) (S_SMULH : Sta Z h0 "com/example/fend/fend/puzzle/hashx/Opcode" "SMULH" "Lcom/example/fend/fend/puzzle/hashx/Opcode;" (.ref wSMULH)) (S_ADDSHIFT : Sta Z h0 "com/example/fend/fend/puzzle/hashx/Opcode" "ADDSHIFT" "Lcom/example/fend/fend/puzzle/hashx/Opcode;" (.ref wADDSHIFT)) (S_SUB : Sta Z h0 "com/example/fend/fend/puzzle/hashx/Opcode" "SUB" "Lcom/example/fend/fend/puzzle/hashx/Opcode;" (.ref wSUB)) (S_XOR : Sta Z h0 "com/example/fend/fend/puzzle/hashx/Opcode" "XOR" "Lcom/example/fend/fend/puzzle/hashx/Opcode;" (.ref wXOR)) (S_ADDCONST : Sta Z h0 "com/example/fend/fend/puzzle/hashx/Opcode" "ADDCONST" "Lcom/example/fend/fend/puzzle/hashx/Opcode;" (.ref wADDCONST)) (S_XORCONST : Sta Z h0 "com/example/fend/fend/puzzle/hashx/Opcode" "XORCONST" "Lcom/example/fend/fend/puzzle/hashx/Opcode;" (.ref wXORCONST)) (S_ROTATE : Sta Z h0 "com/example/fend/fend/puzzle/hashx/Opcode" "ROTATE" "Lcom/example/fend/fend/puzzle/hashx/Opcode;" (.ref wROTATE)) (S_TARGET : Sta Z h0 "com/example/fend/fend/puzzle/hashx/Opcode" "TARGET" "Lcom/example/fend/fend/puzzle/hashx/Opcode;" (.ref wTARGET)) (S_BRANCH : Sta Z h0 "com/example/fend/fend/puzzle/hashx/Opcode" "BRANCH" "Lcom/example/fend/fend/puzzle/hashx/Opcode;" (.ref wBRANCH)) :
    MetFree l (⟨"com/example/fend/fend/puzzle/hashx/OpcodeIsMultiplyPinLaw", "pick", "(I)Lcom/example/fend/fend/puzzle/hashx/Opcode;"⟩ : MethodName) (head1 (Jvm.Cond.code (⟨"com/example/fend/fend/puzzle/hashx/OpcodeIsMultiplyPinLaw", "pick", "(I)Lcom/example/fend/fend/puzzle/hashx/Opcode;"⟩ : MethodName) method_2_code 1 (some (.object "com/example/fend/fend/puzzle/hashx/Opcode")) :: ws) ({ frames := 0, cells := 0, slots := 0, locals := 0 } : Room)) (fun a U => a = #[(.int p0)] ∧ Z.Warmed39 U.vm ∧ U.heap = h0) (fun _ _ _ _ _ => True) (fun _ U o U' => ∃ v L, o = .returned v ∧ Qrm1 Z p0 wMUL wUMULH wSMULH wADDSHIFT wSUB wXOR wADDCONST wXORCONST wROTATE wTARGET wBRANCH h0 n0 v U'.heap L ∧ FrameEnd U o U' L ({ frames := 0, cells := 0, slots := 0, locals := 0 } : Room).cells ({ frames := 0, cells := 0, slots := 0, locals := 0 } : Room).slots) := by
  refine MetFree.of_bodySF (plainFor_of_name pn_0) hisR ?_
  intro p e s m args below meth c s₁ Bd hml0 hP hK
  obtain ⟨rfl, hZ, hh⟩ := hP
  have hx := Bd.exec
  have hby := Bd.bytes
  have hml : c.maxLocals = 1 := hml0
  have hown : s.vm.findClass "com/example/fend/fend/puzzle/hashx/OpcodeIsMultiplyPinLaw" = some m.cls := findClass_of_methodNamed Bd.named
  have hnm := (name_of_methodNamed Bd.named Bd.method).1
  have X0 : Stand p l e ({ frames := 0, cells := 0, slots := 0, locals := 0 } : Room) s m #[(.int p0)] below meth c s₁ [] 0 0 := Stand.of_body Bd
  have e0 : s₁.heap = h0 := by rw [← hh, Bd.state]; rfl
  have N0 := Fr.nil n0
  have hlk := Bd.notSynchronized
  show OwnGo p.tables e below _ (s₁.setTop (entryFrame m #[(.int p0)] 1))
  rw [ef_rm1 m p0]
  show OwnGo p.tables e below _ (s₁.setTop (mkF m 0 #[.val (.int p0)] []))
  refine OwnGo.of (A := s₁.setTop (mkF m 0 #[.val (.int p0)] [])) (B := s₁.setTop (mkF m 1 #[.val (.int p0)] [(.int p0)])) (fun t k => ?_) ?_
  · show Steps p.tables e below (s₁.setTop (mkF m 0 #[.val (.int p0)] [])) t
    refine XS.iloadN X0.here hx rfl (hb hby d1_0) rfl ?_
    exact k
  by_cases hc1 : p0 = (0 : Int32)
  · refine OwnGo.of (A := s₁.setTop (mkF m 1 #[.val (.int p0)] [(.int p0)])) (B := s₁.setTop (mkF m 4 #[.val (.int p0)] [])) (fun t k => ?_) ?_
    · show Steps p.tables e below (s₁.setTop (mkF m 1 #[.val (.int p0)] [(.int p0)])) t
      refine XS.ifNo X0.here hx rfl (hb hby d1_1) rfl ((if0 _ _).trans (teq hc1).2) ?_
      exact k
    obtain ⟨T2, X2, e2, st2⟩ := getS2 X0 hx hZ hown (host := "") (Or.inl (hw _ (List.mem_of_getElem? (i := 5) rfl))) Via.refl e0 S_MUL (g := (mkF m 4 #[.val (.int p0)] [])) rfl (hb hby d1_4)
    refine OwnGo.of st2 ?_
    show OwnGo p.tables e below _ (T2.setTop (mkF m 7 #[.val (.int p0)] [(.ref wMUL)]))
    obtain ⟨fs, hr, hrun, hended, hW, hsame⟩ := X2.leave (v := some (.ref wMUL)) (fun h => by rw [Bd.returns] at h; cases h) hlk
    refine ⟨_, _, ?_, hrun, hended, _, _, rfl, ?_, ⟨_, rfl⟩, hW, hsame.mono (by decide) (by decide)⟩
    · show Steps p.tables e below (T2.setTop (mkF m 7 #[.val (.int p0)] [(.ref wMUL)])) _
      exact own_retA X2 hx Bd.returns rfl rfl rfl (hb hby d1_7) hr
    · show Qrm1 Z p0 wMUL wUMULH wSMULH wADDSHIFT wSUB wXOR wADDCONST wXORCONST wROTATE wTARGET wBRANCH h0 n0 _ (T2.setFrames fs).heap _
      rw [show (T2.setFrames fs).heap = h0 from e2]
      exact ⟨congrArg (fun z => some (Value.ref z)) (by rw [own_f1, if_pos hc1]; try rfl), N0, rfl⟩
  · refine OwnGo.of (A := s₁.setTop (mkF m 1 #[.val (.int p0)] [(.int p0)])) (B := s₁.setTop (mkF m 10 #[.val (.int p0)] [(.int (1 : Int32)), (.int p0)])) (fun t k => ?_) ?_
    · show Steps p.tables e below (s₁.setTop (mkF m 1 #[.val (.int p0)] [(.int p0)])) t
      refine XS.ifYes X0.here hx rfl (pc0 := 1) (pc' := 8) rfl (hb hby d1_1) rfl ((if0 _ _).trans (feq hc1).2) (by decide) (by decide) ?_
      show Steps p.tables e below (s₁.setTop (mkF m 8 #[.val (.int p0)] [])) t
      refine XS.iloadN X0.here hx rfl (hb hby d1_8) rfl ?_
      show Steps p.tables e below (s₁.setTop (mkF m 9 #[.val (.int p0)] [(.int p0)])) t
      refine XS.iconst X0.here hx rfl (hb hby d1_9) ?_
      exact k
    by_cases hc4 : p0 = (1 : Int32)
    · refine OwnGo.of (A := s₁.setTop (mkF m 10 #[.val (.int p0)] [(.int (1 : Int32)), (.int p0)])) (B := s₁.setTop (mkF m 13 #[.val (.int p0)] [])) (fun t k => ?_) ?_
      · show Steps p.tables e below (s₁.setTop (mkF m 10 #[.val (.int p0)] [(.int (1 : Int32)), (.int p0)])) t
        refine XS.icmpNo X0.here hx rfl (hb hby d1_10) rfl (teq hc4).2 ?_
        exact k
      obtain ⟨T5, X5, e5, st5⟩ := getS2 X0 hx hZ hown (host := "") (Or.inl (hw _ (List.mem_of_getElem? (i := 27) rfl))) Via.refl e0 S_UMULH (g := (mkF m 13 #[.val (.int p0)] [])) rfl (hb hby d1_13)
      refine OwnGo.of st5 ?_
      show OwnGo p.tables e below _ (T5.setTop (mkF m 16 #[.val (.int p0)] [(.ref wUMULH)]))
      obtain ⟨fs, hr, hrun, hended, hW, hsame⟩ := X5.leave (v := some (.ref wUMULH)) (fun h => by rw [Bd.returns] at h; cases h) hlk
      refine ⟨_, _, ?_, hrun, hended, _, _, rfl, ?_, ⟨_, rfl⟩, hW, hsame.mono (by decide) (by decide)⟩
      · show Steps p.tables e below (T5.setTop (mkF m 16 #[.val (.int p0)] [(.ref wUMULH)])) _
        exact own_retA X5 hx Bd.returns rfl rfl rfl (hb hby d1_16) hr
      · show Qrm1 Z p0 wMUL wUMULH wSMULH wADDSHIFT wSUB wXOR wADDCONST wXORCONST wROTATE wTARGET wBRANCH h0 n0 _ (T5.setFrames fs).heap _
        rw [show (T5.setFrames fs).heap = h0 from e5]
        exact ⟨congrArg (fun z => some (Value.ref z)) (by rw [own_f1, if_neg hc1, if_pos hc4]; try rfl), N0, rfl⟩
    · refine OwnGo.of (A := s₁.setTop (mkF m 10 #[.val (.int p0)] [(.int (1 : Int32)), (.int p0)])) (B := s₁.setTop (mkF m 19 #[.val (.int p0)] [(.int (2 : Int32)), (.int p0)])) (fun t k => ?_) ?_
      · show Steps p.tables e below (s₁.setTop (mkF m 10 #[.val (.int p0)] [(.int (1 : Int32)), (.int p0)])) t
        refine XS.icmpYes X0.here hx rfl (pc0 := 10) (pc' := 17) rfl (hb hby d1_10) rfl (feq hc4).2 (by decide) (by decide) ?_
        show Steps p.tables e below (s₁.setTop (mkF m 17 #[.val (.int p0)] [])) t
        refine XS.iloadN X0.here hx rfl (hb hby d1_17) rfl ?_
        show Steps p.tables e below (s₁.setTop (mkF m 18 #[.val (.int p0)] [(.int p0)])) t
        refine XS.iconst X0.here hx rfl (hb hby d1_18) ?_
        exact k
      by_cases hc7 : p0 = (2 : Int32)
      · refine OwnGo.of (A := s₁.setTop (mkF m 19 #[.val (.int p0)] [(.int (2 : Int32)), (.int p0)])) (B := s₁.setTop (mkF m 22 #[.val (.int p0)] [])) (fun t k => ?_) ?_
        · show Steps p.tables e below (s₁.setTop (mkF m 19 #[.val (.int p0)] [(.int (2 : Int32)), (.int p0)])) t
          refine XS.icmpNo X0.here hx rfl (hb hby d1_19) rfl (teq hc7).2 ?_
          exact k
        obtain ⟨T8, X8, e8, st8⟩ := getS2 X0 hx hZ hown (host := "") (Or.inl (hw _ (List.mem_of_getElem? (i := 24) rfl))) Via.refl e0 S_SMULH (g := (mkF m 22 #[.val (.int p0)] [])) rfl (hb hby d1_22)
        refine OwnGo.of st8 ?_
        show OwnGo p.tables e below _ (T8.setTop (mkF m 25 #[.val (.int p0)] [(.ref wSMULH)]))
        obtain ⟨fs, hr, hrun, hended, hW, hsame⟩ := X8.leave (v := some (.ref wSMULH)) (fun h => by rw [Bd.returns] at h; cases h) hlk
        refine ⟨_, _, ?_, hrun, hended, _, _, rfl, ?_, ⟨_, rfl⟩, hW, hsame.mono (by decide) (by decide)⟩
        · show Steps p.tables e below (T8.setTop (mkF m 25 #[.val (.int p0)] [(.ref wSMULH)])) _
          exact own_retA X8 hx Bd.returns rfl rfl rfl (hb hby d1_25) hr
        · show Qrm1 Z p0 wMUL wUMULH wSMULH wADDSHIFT wSUB wXOR wADDCONST wXORCONST wROTATE wTARGET wBRANCH h0 n0 _ (T8.setFrames fs).heap _
          rw [show (T8.setFrames fs).heap = h0 from e8]
          exact ⟨congrArg (fun z => some (Value.ref z)) (by rw [own_f1, if_neg hc1, if_neg hc4, if_pos hc7]; try rfl), N0, rfl⟩
      · refine OwnGo.of (A := s₁.setTop (mkF m 19 #[.val (.int p0)] [(.int (2 : Int32)), (.int p0)])) (B := s₁.setTop (mkF m 28 #[.val (.int p0)] [(.int (3 : Int32)), (.int p0)])) (fun t k => ?_) ?_
        · show Steps p.tables e below (s₁.setTop (mkF m 19 #[.val (.int p0)] [(.int (2 : Int32)), (.int p0)])) t
          refine XS.icmpYes X0.here hx rfl (pc0 := 19) (pc' := 26) rfl (hb hby d1_19) rfl (feq hc7).2 (by decide) (by decide) ?_
          show Steps p.tables e below (s₁.setTop (mkF m 26 #[.val (.int p0)] [])) t
          refine XS.iloadN X0.here hx rfl (hb hby d1_26) rfl ?_
          show Steps p.tables e below (s₁.setTop (mkF m 27 #[.val (.int p0)] [(.int p0)])) t
          refine XS.iconst X0.here hx rfl (hb hby d1_27) ?_
          exact k
        by_cases hc10 : p0 = (3 : Int32)
        · refine OwnGo.of (A := s₁.setTop (mkF m 28 #[.val (.int p0)] [(.int (3 : Int32)), (.int p0)])) (B := s₁.setTop (mkF m 31 #[.val (.int p0)] [])) (fun t k => ?_) ?_
          · show Steps p.tables e below (s₁.setTop (mkF m 28 #[.val (.int p0)] [(.int (3 : Int32)), (.int p0)])) t
            refine XS.icmpNo X0.here hx rfl (hb hby d1_28) rfl (teq hc10).2 ?_
            exact k
          obtain ⟨T11, X11, e11, st11⟩ := getS2 X0 hx hZ hown (host := "") (Or.inl (hw _ (List.mem_of_getElem? (i := 14) rfl))) Via.refl e0 S_ADDSHIFT (g := (mkF m 31 #[.val (.int p0)] [])) rfl (hb hby d1_31)
          refine OwnGo.of st11 ?_
          show OwnGo p.tables e below _ (T11.setTop (mkF m 34 #[.val (.int p0)] [(.ref wADDSHIFT)]))
          obtain ⟨fs, hr, hrun, hended, hW, hsame⟩ := X11.leave (v := some (.ref wADDSHIFT)) (fun h => by rw [Bd.returns] at h; cases h) hlk
          refine ⟨_, _, ?_, hrun, hended, _, _, rfl, ?_, ⟨_, rfl⟩, hW, hsame.mono (by decide) (by decide)⟩
          · show Steps p.tables e below (T11.setTop (mkF m 34 #[.val (.int p0)] [(.ref wADDSHIFT)])) _
            exact own_retA X11 hx Bd.returns rfl rfl rfl (hb hby d1_34) hr
          · show Qrm1 Z p0 wMUL wUMULH wSMULH wADDSHIFT wSUB wXOR wADDCONST wXORCONST wROTATE wTARGET wBRANCH h0 n0 _ (T11.setFrames fs).heap _
            rw [show (T11.setFrames fs).heap = h0 from e11]
            exact ⟨congrArg (fun z => some (Value.ref z)) (by rw [own_f1, if_neg hc1, if_neg hc4, if_neg hc7, if_pos hc10]; try rfl), N0, rfl⟩
        · refine OwnGo.of (A := s₁.setTop (mkF m 28 #[.val (.int p0)] [(.int (3 : Int32)), (.int p0)])) (B := s₁.setTop (mkF m 37 #[.val (.int p0)] [(.int (4 : Int32)), (.int p0)])) (fun t k => ?_) ?_
          · show Steps p.tables e below (s₁.setTop (mkF m 28 #[.val (.int p0)] [(.int (3 : Int32)), (.int p0)])) t
            refine XS.icmpYes X0.here hx rfl (pc0 := 28) (pc' := 35) rfl (hb hby d1_28) rfl (feq hc10).2 (by decide) (by decide) ?_
            show Steps p.tables e below (s₁.setTop (mkF m 35 #[.val (.int p0)] [])) t
            refine XS.iloadN X0.here hx rfl (hb hby d1_35) rfl ?_
            show Steps p.tables e below (s₁.setTop (mkF m 36 #[.val (.int p0)] [(.int p0)])) t
            refine XS.iconst X0.here hx rfl (hb hby d1_36) ?_
            exact k
          by_cases hc13 : p0 = (4 : Int32)
          · refine OwnGo.of (A := s₁.setTop (mkF m 37 #[.val (.int p0)] [(.int (4 : Int32)), (.int p0)])) (B := s₁.setTop (mkF m 40 #[.val (.int p0)] [])) (fun t k => ?_) ?_
            · show Steps p.tables e below (s₁.setTop (mkF m 37 #[.val (.int p0)] [(.int (4 : Int32)), (.int p0)])) t
              refine XS.icmpNo X0.here hx rfl (hb hby d1_37) rfl (teq hc13).2 ?_
              exact k
            obtain ⟨T14, X14, e14, st14⟩ := getS2 X0 hx hZ hown (host := "") (Or.inl (hw _ (List.mem_of_getElem? (i := 34) rfl))) Via.refl e0 S_SUB (g := (mkF m 40 #[.val (.int p0)] [])) rfl (hb hby d1_40)
            refine OwnGo.of st14 ?_
            show OwnGo p.tables e below _ (T14.setTop (mkF m 43 #[.val (.int p0)] [(.ref wSUB)]))
            obtain ⟨fs, hr, hrun, hended, hW, hsame⟩ := X14.leave (v := some (.ref wSUB)) (fun h => by rw [Bd.returns] at h; cases h) hlk
            refine ⟨_, _, ?_, hrun, hended, _, _, rfl, ?_, ⟨_, rfl⟩, hW, hsame.mono (by decide) (by decide)⟩
            · show Steps p.tables e below (T14.setTop (mkF m 43 #[.val (.int p0)] [(.ref wSUB)])) _
              exact own_retA X14 hx Bd.returns rfl rfl rfl (hb hby d1_43) hr
            · show Qrm1 Z p0 wMUL wUMULH wSMULH wADDSHIFT wSUB wXOR wADDCONST wXORCONST wROTATE wTARGET wBRANCH h0 n0 _ (T14.setFrames fs).heap _
              rw [show (T14.setFrames fs).heap = h0 from e14]
              exact ⟨congrArg (fun z => some (Value.ref z)) (by rw [own_f1, if_neg hc1, if_neg hc4, if_neg hc7, if_neg hc10, if_pos hc13]; try rfl), N0, rfl⟩
          · refine OwnGo.of (A := s₁.setTop (mkF m 37 #[.val (.int p0)] [(.int (4 : Int32)), (.int p0)])) (B := s₁.setTop (mkF m 46 #[.val (.int p0)] [(.int (5 : Int32)), (.int p0)])) (fun t k => ?_) ?_
            · show Steps p.tables e below (s₁.setTop (mkF m 37 #[.val (.int p0)] [(.int (4 : Int32)), (.int p0)])) t
              refine XS.icmpYes X0.here hx rfl (pc0 := 37) (pc' := 44) rfl (hb hby d1_37) rfl (feq hc13).2 (by decide) (by decide) ?_
              show Steps p.tables e below (s₁.setTop (mkF m 44 #[.val (.int p0)] [])) t
              refine XS.iloadN X0.here hx rfl (hb hby d1_44) rfl ?_
              show Steps p.tables e below (s₁.setTop (mkF m 45 #[.val (.int p0)] [(.int p0)])) t
              refine XS.iconst X0.here hx rfl (hb hby d1_45) ?_
              exact k
            by_cases hc16 : p0 = (5 : Int32)
            · refine OwnGo.of (A := s₁.setTop (mkF m 46 #[.val (.int p0)] [(.int (5 : Int32)), (.int p0)])) (B := s₁.setTop (mkF m 49 #[.val (.int p0)] [])) (fun t k => ?_) ?_
              · show Steps p.tables e below (s₁.setTop (mkF m 46 #[.val (.int p0)] [(.int (5 : Int32)), (.int p0)])) t
                refine XS.icmpNo X0.here hx rfl (hb hby d1_46) rfl (teq hc16).2 ?_
                exact k
              obtain ⟨T17, X17, e17, st17⟩ := getS2 X0 hx hZ hown (host := "") (Or.inl (hw _ (List.mem_of_getElem? (i := 30) rfl))) Via.refl e0 S_XOR (g := (mkF m 49 #[.val (.int p0)] [])) rfl (hb hby d1_49)
              refine OwnGo.of st17 ?_
              show OwnGo p.tables e below _ (T17.setTop (mkF m 52 #[.val (.int p0)] [(.ref wXOR)]))
              obtain ⟨fs, hr, hrun, hended, hW, hsame⟩ := X17.leave (v := some (.ref wXOR)) (fun h => by rw [Bd.returns] at h; cases h) hlk
              refine ⟨_, _, ?_, hrun, hended, _, _, rfl, ?_, ⟨_, rfl⟩, hW, hsame.mono (by decide) (by decide)⟩
              · show Steps p.tables e below (T17.setTop (mkF m 52 #[.val (.int p0)] [(.ref wXOR)])) _
                exact own_retA X17 hx Bd.returns rfl rfl rfl (hb hby d1_52) hr
              · show Qrm1 Z p0 wMUL wUMULH wSMULH wADDSHIFT wSUB wXOR wADDCONST wXORCONST wROTATE wTARGET wBRANCH h0 n0 _ (T17.setFrames fs).heap _
                rw [show (T17.setFrames fs).heap = h0 from e17]
                exact ⟨congrArg (fun z => some (Value.ref z)) (by rw [own_f1, if_neg hc1, if_neg hc4, if_neg hc7, if_neg hc10, if_neg hc13, if_pos hc16]; try rfl), N0, rfl⟩
            · refine OwnGo.of (A := s₁.setTop (mkF m 46 #[.val (.int p0)] [(.int (5 : Int32)), (.int p0)])) (B := s₁.setTop (mkF m 56 #[.val (.int p0)] [(.int (6 : Int32)), (.int p0)])) (fun t k => ?_) ?_
              · show Steps p.tables e below (s₁.setTop (mkF m 46 #[.val (.int p0)] [(.int (5 : Int32)), (.int p0)])) t
                refine XS.icmpYes X0.here hx rfl (pc0 := 46) (pc' := 53) rfl (hb hby d1_46) rfl (feq hc16).2 (by decide) (by decide) ?_
                show Steps p.tables e below (s₁.setTop (mkF m 53 #[.val (.int p0)] [])) t
                refine XS.iloadN X0.here hx rfl (hb hby d1_53) rfl ?_
                show Steps p.tables e below (s₁.setTop (mkF m 54 #[.val (.int p0)] [(.int p0)])) t
                refine XS.bipush X0.here hx rfl (hb hby d1_54) ?_
                exact k
              by_cases hc19 : p0 = (6 : Int32)
              · refine OwnGo.of (A := s₁.setTop (mkF m 56 #[.val (.int p0)] [(.int (6 : Int32)), (.int p0)])) (B := s₁.setTop (mkF m 59 #[.val (.int p0)] [])) (fun t k => ?_) ?_
                · show Steps p.tables e below (s₁.setTop (mkF m 56 #[.val (.int p0)] [(.int (6 : Int32)), (.int p0)])) t
                  refine XS.icmpNo X0.here hx rfl (hb hby d1_56) rfl (teq hc19).2 ?_
                  exact k
                obtain ⟨T20, X20, e20, st20⟩ := getS2 X0 hx hZ hown (host := "") (Or.inl (hw _ (List.mem_of_getElem? (i := 32) rfl))) Via.refl e0 S_ADDCONST (g := (mkF m 59 #[.val (.int p0)] [])) rfl (hb hby d1_59)
                refine OwnGo.of st20 ?_
                show OwnGo p.tables e below _ (T20.setTop (mkF m 62 #[.val (.int p0)] [(.ref wADDCONST)]))
                obtain ⟨fs, hr, hrun, hended, hW, hsame⟩ := X20.leave (v := some (.ref wADDCONST)) (fun h => by rw [Bd.returns] at h; cases h) hlk
                refine ⟨_, _, ?_, hrun, hended, _, _, rfl, ?_, ⟨_, rfl⟩, hW, hsame.mono (by decide) (by decide)⟩
                · show Steps p.tables e below (T20.setTop (mkF m 62 #[.val (.int p0)] [(.ref wADDCONST)])) _
                  exact own_retA X20 hx Bd.returns rfl rfl rfl (hb hby d1_62) hr
                · show Qrm1 Z p0 wMUL wUMULH wSMULH wADDSHIFT wSUB wXOR wADDCONST wXORCONST wROTATE wTARGET wBRANCH h0 n0 _ (T20.setFrames fs).heap _
                  rw [show (T20.setFrames fs).heap = h0 from e20]
                  exact ⟨congrArg (fun z => some (Value.ref z)) (by rw [own_f1, if_neg hc1, if_neg hc4, if_neg hc7, if_neg hc10, if_neg hc13, if_neg hc16, if_pos hc19]; try rfl), N0, rfl⟩
              · refine OwnGo.of (A := s₁.setTop (mkF m 56 #[.val (.int p0)] [(.int (6 : Int32)), (.int p0)])) (B := s₁.setTop (mkF m 66 #[.val (.int p0)] [(.int (7 : Int32)), (.int p0)])) (fun t k => ?_) ?_
                · show Steps p.tables e below (s₁.setTop (mkF m 56 #[.val (.int p0)] [(.int (6 : Int32)), (.int p0)])) t
                  refine XS.icmpYes X0.here hx rfl (pc0 := 56) (pc' := 63) rfl (hb hby d1_56) rfl (feq hc19).2 (by decide) (by decide) ?_
                  show Steps p.tables e below (s₁.setTop (mkF m 63 #[.val (.int p0)] [])) t
                  refine XS.iloadN X0.here hx rfl (hb hby d1_63) rfl ?_
                  show Steps p.tables e below (s₁.setTop (mkF m 64 #[.val (.int p0)] [(.int p0)])) t
                  refine XS.bipush X0.here hx rfl (hb hby d1_64) ?_
                  exact k
                by_cases hc22 : p0 = (7 : Int32)
                · refine OwnGo.of (A := s₁.setTop (mkF m 66 #[.val (.int p0)] [(.int (7 : Int32)), (.int p0)])) (B := s₁.setTop (mkF m 69 #[.val (.int p0)] [])) (fun t k => ?_) ?_
                  · show Steps p.tables e below (s₁.setTop (mkF m 66 #[.val (.int p0)] [(.int (7 : Int32)), (.int p0)])) t
                    refine XS.icmpNo X0.here hx rfl (hb hby d1_66) rfl (teq hc22).2 ?_
                    exact k
                  obtain ⟨T23, X23, e23, st23⟩ := getS2 X0 hx hZ hown (host := "") (Or.inl (hw _ (List.mem_of_getElem? (i := 20) rfl))) Via.refl e0 S_XORCONST (g := (mkF m 69 #[.val (.int p0)] [])) rfl (hb hby d1_69)
                  refine OwnGo.of st23 ?_
                  show OwnGo p.tables e below _ (T23.setTop (mkF m 72 #[.val (.int p0)] [(.ref wXORCONST)]))
                  obtain ⟨fs, hr, hrun, hended, hW, hsame⟩ := X23.leave (v := some (.ref wXORCONST)) (fun h => by rw [Bd.returns] at h; cases h) hlk
                  refine ⟨_, _, ?_, hrun, hended, _, _, rfl, ?_, ⟨_, rfl⟩, hW, hsame.mono (by decide) (by decide)⟩
                  · show Steps p.tables e below (T23.setTop (mkF m 72 #[.val (.int p0)] [(.ref wXORCONST)])) _
                    exact own_retA X23 hx Bd.returns rfl rfl rfl (hb hby d1_72) hr
                  · show Qrm1 Z p0 wMUL wUMULH wSMULH wADDSHIFT wSUB wXOR wADDCONST wXORCONST wROTATE wTARGET wBRANCH h0 n0 _ (T23.setFrames fs).heap _
                    rw [show (T23.setFrames fs).heap = h0 from e23]
                    exact ⟨congrArg (fun z => some (Value.ref z)) (by rw [own_f1, if_neg hc1, if_neg hc4, if_neg hc7, if_neg hc10, if_neg hc13, if_neg hc16, if_neg hc19, if_pos hc22]; try rfl), N0, rfl⟩
                · refine OwnGo.of (A := s₁.setTop (mkF m 66 #[.val (.int p0)] [(.int (7 : Int32)), (.int p0)])) (B := s₁.setTop (mkF m 76 #[.val (.int p0)] [(.int (8 : Int32)), (.int p0)])) (fun t k => ?_) ?_
                  · show Steps p.tables e below (s₁.setTop (mkF m 66 #[.val (.int p0)] [(.int (7 : Int32)), (.int p0)])) t
                    refine XS.icmpYes X0.here hx rfl (pc0 := 66) (pc' := 73) rfl (hb hby d1_66) rfl (feq hc22).2 (by decide) (by decide) ?_
                    show Steps p.tables e below (s₁.setTop (mkF m 73 #[.val (.int p0)] [])) t
                    refine XS.iloadN X0.here hx rfl (hb hby d1_73) rfl ?_
                    show Steps p.tables e below (s₁.setTop (mkF m 74 #[.val (.int p0)] [(.int p0)])) t
                    refine XS.bipush X0.here hx rfl (hb hby d1_74) ?_
                    exact k
                  by_cases hc25 : p0 = (8 : Int32)
                  · refine OwnGo.of (A := s₁.setTop (mkF m 76 #[.val (.int p0)] [(.int (8 : Int32)), (.int p0)])) (B := s₁.setTop (mkF m 79 #[.val (.int p0)] [])) (fun t k => ?_) ?_
                    · show Steps p.tables e below (s₁.setTop (mkF m 76 #[.val (.int p0)] [(.int (8 : Int32)), (.int p0)])) t
                      refine XS.icmpNo X0.here hx rfl (hb hby d1_76) rfl (teq hc25).2 ?_
                      exact k
                    obtain ⟨T26, X26, e26, st26⟩ := getS2 X0 hx hZ hown (host := "") (Or.inl (hw _ (List.mem_of_getElem? (i := 22) rfl))) Via.refl e0 S_ROTATE (g := (mkF m 79 #[.val (.int p0)] [])) rfl (hb hby d1_79)
                    refine OwnGo.of st26 ?_
                    show OwnGo p.tables e below _ (T26.setTop (mkF m 82 #[.val (.int p0)] [(.ref wROTATE)]))
                    obtain ⟨fs, hr, hrun, hended, hW, hsame⟩ := X26.leave (v := some (.ref wROTATE)) (fun h => by rw [Bd.returns] at h; cases h) hlk
                    refine ⟨_, _, ?_, hrun, hended, _, _, rfl, ?_, ⟨_, rfl⟩, hW, hsame.mono (by decide) (by decide)⟩
                    · show Steps p.tables e below (T26.setTop (mkF m 82 #[.val (.int p0)] [(.ref wROTATE)])) _
                      exact own_retA X26 hx Bd.returns rfl rfl rfl (hb hby d1_82) hr
                    · show Qrm1 Z p0 wMUL wUMULH wSMULH wADDSHIFT wSUB wXOR wADDCONST wXORCONST wROTATE wTARGET wBRANCH h0 n0 _ (T26.setFrames fs).heap _
                      rw [show (T26.setFrames fs).heap = h0 from e26]
                      exact ⟨congrArg (fun z => some (Value.ref z)) (by rw [own_f1, if_neg hc1, if_neg hc4, if_neg hc7, if_neg hc10, if_neg hc13, if_neg hc16, if_neg hc19, if_neg hc22, if_pos hc25]; try rfl), N0, rfl⟩
                  · refine OwnGo.of (A := s₁.setTop (mkF m 76 #[.val (.int p0)] [(.int (8 : Int32)), (.int p0)])) (B := s₁.setTop (mkF m 86 #[.val (.int p0)] [(.int (9 : Int32)), (.int p0)])) (fun t k => ?_) ?_
                    · show Steps p.tables e below (s₁.setTop (mkF m 76 #[.val (.int p0)] [(.int (8 : Int32)), (.int p0)])) t
                      refine XS.icmpYes X0.here hx rfl (pc0 := 76) (pc' := 83) rfl (hb hby d1_76) rfl (feq hc25).2 (by decide) (by decide) ?_
                      show Steps p.tables e below (s₁.setTop (mkF m 83 #[.val (.int p0)] [])) t
                      refine XS.iloadN X0.here hx rfl (hb hby d1_83) rfl ?_
                      show Steps p.tables e below (s₁.setTop (mkF m 84 #[.val (.int p0)] [(.int p0)])) t
                      refine XS.bipush X0.here hx rfl (hb hby d1_84) ?_
                      exact k
                    by_cases hc28 : p0 = (9 : Int32)
                    · refine OwnGo.of (A := s₁.setTop (mkF m 86 #[.val (.int p0)] [(.int (9 : Int32)), (.int p0)])) (B := s₁.setTop (mkF m 89 #[.val (.int p0)] [])) (fun t k => ?_) ?_
                      · show Steps p.tables e below (s₁.setTop (mkF m 86 #[.val (.int p0)] [(.int (9 : Int32)), (.int p0)])) t
                        refine XS.icmpNo X0.here hx rfl (hb hby d1_86) rfl (teq hc28).2 ?_
                        exact k
                      obtain ⟨T29, X29, e29, st29⟩ := getS2 X0 hx hZ hown (host := "") (Or.inl (hw _ (List.mem_of_getElem? (i := 28) rfl))) Via.refl e0 S_TARGET (g := (mkF m 89 #[.val (.int p0)] [])) rfl (hb hby d1_89)
                      refine OwnGo.of st29 ?_
                      show OwnGo p.tables e below _ (T29.setTop (mkF m 92 #[.val (.int p0)] [(.ref wTARGET)]))
                      obtain ⟨fs, hr, hrun, hended, hW, hsame⟩ := X29.leave (v := some (.ref wTARGET)) (fun h => by rw [Bd.returns] at h; cases h) hlk
                      refine ⟨_, _, ?_, hrun, hended, _, _, rfl, ?_, ⟨_, rfl⟩, hW, hsame.mono (by decide) (by decide)⟩
                      · show Steps p.tables e below (T29.setTop (mkF m 92 #[.val (.int p0)] [(.ref wTARGET)])) _
                        exact own_retA X29 hx Bd.returns rfl rfl rfl (hb hby d1_92) hr
                      · show Qrm1 Z p0 wMUL wUMULH wSMULH wADDSHIFT wSUB wXOR wADDCONST wXORCONST wROTATE wTARGET wBRANCH h0 n0 _ (T29.setFrames fs).heap _
                        rw [show (T29.setFrames fs).heap = h0 from e29]
                        exact ⟨congrArg (fun z => some (Value.ref z)) (by rw [own_f1, if_neg hc1, if_neg hc4, if_neg hc7, if_neg hc10, if_neg hc13, if_neg hc16, if_neg hc19, if_neg hc22, if_neg hc25, if_pos hc28]; try rfl), N0, rfl⟩
                    · refine OwnGo.of (A := s₁.setTop (mkF m 86 #[.val (.int p0)] [(.int (9 : Int32)), (.int p0)])) (B := s₁.setTop (mkF m 93 #[.val (.int p0)] [])) (fun t k => ?_) ?_
                      · show Steps p.tables e below (s₁.setTop (mkF m 86 #[.val (.int p0)] [(.int (9 : Int32)), (.int p0)])) t
                        refine XS.icmpYes X0.here hx rfl (pc0 := 86) (pc' := 93) rfl (hb hby d1_86) rfl (feq hc28).2 (by decide) (by decide) ?_
                        exact k
                      obtain ⟨T31, X31, e31, st31⟩ := getS2 X0 hx hZ hown (host := "") (Or.inl (hw _ (List.mem_of_getElem? (i := 25) rfl))) Via.refl e0 S_BRANCH (g := (mkF m 93 #[.val (.int p0)] [])) rfl (hb hby d1_93)
                      refine OwnGo.of st31 ?_
                      show OwnGo p.tables e below _ (T31.setTop (mkF m 96 #[.val (.int p0)] [(.ref wBRANCH)]))
                      obtain ⟨fs, hr, hrun, hended, hW, hsame⟩ := X31.leave (v := some (.ref wBRANCH)) (fun h => by rw [Bd.returns] at h; cases h) hlk
                      refine ⟨_, _, ?_, hrun, hended, _, _, rfl, ?_, ⟨_, rfl⟩, hW, hsame.mono (by decide) (by decide)⟩
                      · show Steps p.tables e below (T31.setTop (mkF m 96 #[.val (.int p0)] [(.ref wBRANCH)])) _
                        exact own_retA X31 hx Bd.returns rfl rfl rfl (hb hby d1_96) hr
                      · show Qrm1 Z p0 wMUL wUMULH wSMULH wADDSHIFT wSUB wXOR wADDCONST wXORCONST wROTATE wTARGET wBRANCH h0 n0 _ (T31.setFrames fs).heap _
                        rw [show (T31.setFrames fs).heap = h0 from e31]
                        exact ⟨congrArg (fun z => some (Value.ref z)) (by rw [own_f1, if_neg hc1, if_neg hc4, if_neg hc7, if_neg hc10, if_neg hc13, if_neg hc16, if_neg hc19, if_neg hc22, if_neg hc25, if_neg hc28]; try rfl), N0, rfl⟩
def own_f2 (a0 : Addr) (wMUL : Addr) (wUMULH : Addr) (wSMULH : Addr) : Int32 := (if a0 = wMUL then (1 : Int32) else (if a0 = wUMULH then (1 : Int32) else (if a0 = wSMULH then (1 : Int32) else (0 : Int32))))
theorem pn_1 : plainName "com/example/fend/fend/puzzle/hashx/Opcode" = true := by first | (simp [plainName, overriddenIn]; done) | decide +kernel
theorem d2_0 : decode prog_30_method_9_code 0 = .ok (.aload_n 0, 1) := by decide +kernel
theorem d2_1 : decode prog_30_method_9_code 1 = .ok (.getstatic 3, 3) := by decide +kernel
theorem d2_4 : decode prog_30_method_9_code 4 = .ok (.if_acmp .eq 17, 3) := by decide +kernel
theorem d2_7 : decode prog_30_method_9_code 7 = .ok (.aload_n 0, 1) := by decide +kernel
theorem d2_8 : decode prog_30_method_9_code 8 = .ok (.getstatic 7, 3) := by decide +kernel
theorem d2_11 : decode prog_30_method_9_code 11 = .ok (.if_acmp .eq 10, 3) := by decide +kernel
theorem d2_14 : decode prog_30_method_9_code 14 = .ok (.aload_n 0, 1) := by decide +kernel
theorem d2_15 : decode prog_30_method_9_code 15 = .ok (.getstatic 10, 3) := by decide +kernel
theorem d2_18 : decode prog_30_method_9_code 18 = .ok (.if_acmp .ne 7, 3) := by decide +kernel
theorem d2_21 : decode prog_30_method_9_code 21 = .ok (.iconst 1, 1) := by decide +kernel
theorem d2_22 : decode prog_30_method_9_code 22 = .ok (.goto 4, 3) := by decide +kernel
theorem d2_25 : decode prog_30_method_9_code 25 = .ok (.iconst 0, 1) := by decide +kernel
theorem d2_26 : decode prog_30_method_9_code 26 = .ok (.ireturn, 1) := by decide +kernel
theorem ef_rm2 (m : MethodId) (a0 : Addr) : entryFrame m #[(.ref a0)] 1 = mkF m 0 #[.val (.ref a0)] [] := by first | (simp [entryFrame, mkF, argsToLocals, Value.category]; done) | rfl
def Qrm2 (Z : State) (a0 : Addr) (wMUL : Addr) (wUMULH : Addr) (wSMULH : Addr) (h0 : Heap) (n0 : Nat) (v : Option Value) (h : Heap) (L : List Loc) : Prop := v = some (.int (own_f2 a0 wMUL wUMULH wSMULH)) ∧ Fr n0 L ∧ h = h0
set_option maxRecDepth 65536 in
set_option maxHeartbeats 40000000 in
theorem rm2 (l : Launch) (Z : State) (aw : Array Value) (hw : ∀ d ∈ tables_1, d.before aw Z = true) (ws : List Jvm.Cond) (a0 : Addr) (wMUL : Addr) (wUMULH : Addr) (wSMULH : Addr) (h0 : Heap) (n0 : Nat) (Z0 : n0 ≤ h0.size) (S_MUL : Sta Z h0 "com/example/fend/fend/puzzle/hashx/Opcode" "MUL" "Lcom/example/fend/fend/puzzle/hashx/Opcode;" (.ref wMUL)) (S_UMULH : Sta Z h0 "com/example/fend/fend/puzzle/hashx/Opcode" "UMULH" "Lcom/example/fend/fend/puzzle/hashx/Opcode;" (.ref wUMULH)) (S_SMULH : Sta Z h0 "com/example/fend/fend/puzzle/hashx/Opcode" "SMULH" "Lcom/example/fend/fend/puzzle/hashx/Opcode;" (.ref wSMULH)) :
    MetFree l (⟨"com/example/fend/fend/puzzle/hashx/Opcode", "isMultiply", "()Z"⟩ : MethodName) (head1 (Jvm.Cond.code (⟨"com/example/fend/fend/puzzle/hashx/Opcode", "isMultiply", "()Z"⟩ : MethodName) prog_30_method_9_code 1 (some .boolean) :: ws) ({ frames := 0, cells := 0, slots := 0, locals := 0 } : Room)) (fun a U => a = #[(.ref a0)] ∧ Z.Warmed39 U.vm ∧ U.heap = h0) (fun _ _ _ _ _ => True) (fun _ U o U' => ∃ v L, o = .returned v ∧ Qrm2 Z a0 wMUL wUMULH wSMULH h0 n0 v U'.heap L ∧ FrameEnd U o U' L ({ frames := 0, cells := 0, slots := 0, locals := 0 } : Room).cells ({ frames := 0, cells := 0, slots := 0, locals := 0 } : Room).slots) := by
  refine MetFree.of_bodySF (plainFor_of_name pn_1) hisR ?_
  intro p e s m args below meth c s₁ Bd hml0 hP hK
  obtain ⟨rfl, hZ, hh⟩ := hP
  have hx := Bd.exec
  have hby := Bd.bytes
  have hml : c.maxLocals = 1 := hml0
  have hown : s.vm.findClass "com/example/fend/fend/puzzle/hashx/Opcode" = some m.cls := findClass_of_methodNamed Bd.named
  have hnm := (name_of_methodNamed Bd.named Bd.method).1
  have X0 : Stand p l e ({ frames := 0, cells := 0, slots := 0, locals := 0 } : Room) s m #[(.ref a0)] below meth c s₁ [] 0 0 := Stand.of_body Bd
  have e0 : s₁.heap = h0 := by rw [← hh, Bd.state]; rfl
  have N0 := Fr.nil n0
  have hlk := Bd.notSynchronized
  show OwnGo p.tables e below _ (s₁.setTop (entryFrame m #[(.ref a0)] 1))
  rw [ef_rm2 m a0]
  show OwnGo p.tables e below _ (s₁.setTop (mkF m 0 #[.val (.ref a0)] []))
  refine OwnGo.of (A := s₁.setTop (mkF m 0 #[.val (.ref a0)] [])) (B := s₁.setTop (mkF m 1 #[.val (.ref a0)] [(.ref a0)])) (fun t k => ?_) ?_
  · show Steps p.tables e below (s₁.setTop (mkF m 0 #[.val (.ref a0)] [])) t
    refine XS.aloadN X0.here hx rfl (hb hby d2_0) rfl rfl ?_
    exact k
  obtain ⟨T1, X1, e1, st1⟩ := getS2 X0 hx hZ hown (host := "") (Or.inl (hw _ (List.mem_of_getElem? (i := 13) rfl))) Via.refl e0 S_MUL (g := (mkF m 1 #[.val (.ref a0)] [(.ref a0)])) rfl (hb hby d2_1)
  refine OwnGo.of st1 ?_
  show OwnGo p.tables e below _ (T1.setTop (mkF m 4 #[.val (.ref a0)] [(.ref wMUL), (.ref a0)]))
  by_cases hc2 : a0 = wMUL
  · refine OwnGo.of (A := T1.setTop (mkF m 4 #[.val (.ref a0)] [(.ref wMUL), (.ref a0)])) (B := T1.setTop (mkF m 26 #[.val (.ref a0)] [(.int (1 : Int32))])) (fun t k => ?_) ?_
    · show Steps p.tables e below (T1.setTop (mkF m 4 #[.val (.ref a0)] [(.ref wMUL), (.ref a0)])) t
      refine Jvm.RoadKit.acmp (g := (mkF m 4 #[.val (.ref a0)] [(.ref wMUL), (.ref a0)])) X1 hx rfl rfl rfl (pc0 := 4) (pc' := 21) (same := true) rfl (hb hby d2_4) rfl (decide_eq_true (congrArg Value.ref hc2)) (by decide) (by decide) ?_
      show Steps p.tables e below (T1.setTop (mkF m 21 #[.val (.ref a0)] [])) t
      refine XS.iconst X1.here hx rfl (hb hby d2_21) ?_
      show Steps p.tables e below (T1.setTop (mkF m 22 #[.val (.ref a0)] [(.int (1 : Int32))])) t
      refine XS.goto X1.here hx rfl (pc0 := 22) (pc' := 26) rfl (hb hby d2_22) (by decide) (by decide) ?_
      exact k
    obtain ⟨fs, hr, hrun, hended, hW, hsame⟩ := X1.leave (v := some (.int (nar .boolean (1 : Int32)))) (fun h => by rw [Bd.returns] at h; cases h) hlk
    refine ⟨_, _, ?_, hrun, hended, _, _, rfl, ?_, ⟨_, rfl⟩, hW, hsame.mono (by decide) (by decide)⟩
    · show Steps p.tables e below (T1.setTop (mkF m 26 #[.val (.ref a0)] [(.int (1 : Int32))])) _
      exact retN X1 hx (t := .boolean) Bd.returns (by simp) (hb hby d2_26) hr
    · show Qrm2 Z a0 wMUL wUMULH wSMULH h0 n0 _ (T1.setFrames fs).heap _
      rw [show (T1.setFrames fs).heap = h0 from e1]
      exact ⟨congrArg (fun z => some (Value.int z)) (by rw [own_f2, if_pos hc2]; try rfl), N0, rfl⟩
  · refine OwnGo.of (A := T1.setTop (mkF m 4 #[.val (.ref a0)] [(.ref wMUL), (.ref a0)])) (B := T1.setTop (mkF m 8 #[.val (.ref a0)] [(.ref a0)])) (fun t k => ?_) ?_
    · show Steps p.tables e below (T1.setTop (mkF m 4 #[.val (.ref a0)] [(.ref wMUL), (.ref a0)])) t
      refine Jvm.RoadKit.acmp (g := (mkF m 4 #[.val (.ref a0)] [(.ref wMUL), (.ref a0)])) X1 hx rfl rfl rfl (pc0 := 4) (pc' := 7) (same := false) rfl (hb hby d2_4) rfl (decide_eq_false fun q => hc2 (Value.ref.inj q)) (by decide) (by decide) ?_
      show Steps p.tables e below (T1.setTop (mkF m 7 #[.val (.ref a0)] [])) t
      refine XS.aloadN X1.here hx rfl (hb hby d2_7) rfl rfl ?_
      exact k
    obtain ⟨T4, X4, e4, st4⟩ := getS2 X1 hx hZ hown (host := "") (Or.inl (hw _ (List.mem_of_getElem? (i := 16) rfl))) Via.refl e1 S_UMULH (g := (mkF m 8 #[.val (.ref a0)] [(.ref a0)])) rfl (hb hby d2_8)
    refine OwnGo.of st4 ?_
    show OwnGo p.tables e below _ (T4.setTop (mkF m 11 #[.val (.ref a0)] [(.ref wUMULH), (.ref a0)]))
    by_cases hc5 : a0 = wUMULH
    · refine OwnGo.of (A := T4.setTop (mkF m 11 #[.val (.ref a0)] [(.ref wUMULH), (.ref a0)])) (B := T4.setTop (mkF m 26 #[.val (.ref a0)] [(.int (1 : Int32))])) (fun t k => ?_) ?_
      · show Steps p.tables e below (T4.setTop (mkF m 11 #[.val (.ref a0)] [(.ref wUMULH), (.ref a0)])) t
        refine Jvm.RoadKit.acmp (g := (mkF m 11 #[.val (.ref a0)] [(.ref wUMULH), (.ref a0)])) X4 hx rfl rfl rfl (pc0 := 11) (pc' := 21) (same := true) rfl (hb hby d2_11) rfl (decide_eq_true (congrArg Value.ref hc5)) (by decide) (by decide) ?_
        show Steps p.tables e below (T4.setTop (mkF m 21 #[.val (.ref a0)] [])) t
        refine XS.iconst X4.here hx rfl (hb hby d2_21) ?_
        show Steps p.tables e below (T4.setTop (mkF m 22 #[.val (.ref a0)] [(.int (1 : Int32))])) t
        refine XS.goto X4.here hx rfl (pc0 := 22) (pc' := 26) rfl (hb hby d2_22) (by decide) (by decide) ?_
        exact k
      obtain ⟨fs, hr, hrun, hended, hW, hsame⟩ := X4.leave (v := some (.int (nar .boolean (1 : Int32)))) (fun h => by rw [Bd.returns] at h; cases h) hlk
      refine ⟨_, _, ?_, hrun, hended, _, _, rfl, ?_, ⟨_, rfl⟩, hW, hsame.mono (by decide) (by decide)⟩
      · show Steps p.tables e below (T4.setTop (mkF m 26 #[.val (.ref a0)] [(.int (1 : Int32))])) _
        exact retN X4 hx (t := .boolean) Bd.returns (by simp) (hb hby d2_26) hr
      · show Qrm2 Z a0 wMUL wUMULH wSMULH h0 n0 _ (T4.setFrames fs).heap _
        rw [show (T4.setFrames fs).heap = h0 from e4]
        exact ⟨congrArg (fun z => some (Value.int z)) (by rw [own_f2, if_neg hc2, if_pos hc5]; try rfl), N0, rfl⟩
    · refine OwnGo.of (A := T4.setTop (mkF m 11 #[.val (.ref a0)] [(.ref wUMULH), (.ref a0)])) (B := T4.setTop (mkF m 15 #[.val (.ref a0)] [(.ref a0)])) (fun t k => ?_) ?_
      · show Steps p.tables e below (T4.setTop (mkF m 11 #[.val (.ref a0)] [(.ref wUMULH), (.ref a0)])) t
        refine Jvm.RoadKit.acmp (g := (mkF m 11 #[.val (.ref a0)] [(.ref wUMULH), (.ref a0)])) X4 hx rfl rfl rfl (pc0 := 11) (pc' := 14) (same := false) rfl (hb hby d2_11) rfl (decide_eq_false fun q => hc5 (Value.ref.inj q)) (by decide) (by decide) ?_
        show Steps p.tables e below (T4.setTop (mkF m 14 #[.val (.ref a0)] [])) t
        refine XS.aloadN X4.here hx rfl (hb hby d2_14) rfl rfl ?_
        exact k
      obtain ⟨T7, X7, e7, st7⟩ := getS2 X4 hx hZ hown (host := "") (Or.inl (hw _ (List.mem_of_getElem? (i := 18) rfl))) Via.refl e4 S_SMULH (g := (mkF m 15 #[.val (.ref a0)] [(.ref a0)])) rfl (hb hby d2_15)
      refine OwnGo.of st7 ?_
      show OwnGo p.tables e below _ (T7.setTop (mkF m 18 #[.val (.ref a0)] [(.ref wSMULH), (.ref a0)]))
      by_cases hc8 : a0 = wSMULH
      · refine OwnGo.of (A := T7.setTop (mkF m 18 #[.val (.ref a0)] [(.ref wSMULH), (.ref a0)])) (B := T7.setTop (mkF m 26 #[.val (.ref a0)] [(.int (1 : Int32))])) (fun t k => ?_) ?_
        · show Steps p.tables e below (T7.setTop (mkF m 18 #[.val (.ref a0)] [(.ref wSMULH), (.ref a0)])) t
          refine Jvm.RoadKit.acmp (g := (mkF m 18 #[.val (.ref a0)] [(.ref wSMULH), (.ref a0)])) X7 hx rfl rfl rfl (pc0 := 18) (pc' := 21) (same := true) rfl (hb hby d2_18) rfl (decide_eq_true (congrArg Value.ref hc8)) (by decide) (by decide) ?_
          show Steps p.tables e below (T7.setTop (mkF m 21 #[.val (.ref a0)] [])) t
          refine XS.iconst X7.here hx rfl (hb hby d2_21) ?_
          show Steps p.tables e below (T7.setTop (mkF m 22 #[.val (.ref a0)] [(.int (1 : Int32))])) t
          refine XS.goto X7.here hx rfl (pc0 := 22) (pc' := 26) rfl (hb hby d2_22) (by decide) (by decide) ?_
          exact k
        obtain ⟨fs, hr, hrun, hended, hW, hsame⟩ := X7.leave (v := some (.int (nar .boolean (1 : Int32)))) (fun h => by rw [Bd.returns] at h; cases h) hlk
        refine ⟨_, _, ?_, hrun, hended, _, _, rfl, ?_, ⟨_, rfl⟩, hW, hsame.mono (by decide) (by decide)⟩
        · show Steps p.tables e below (T7.setTop (mkF m 26 #[.val (.ref a0)] [(.int (1 : Int32))])) _
          exact retN X7 hx (t := .boolean) Bd.returns (by simp) (hb hby d2_26) hr
        · show Qrm2 Z a0 wMUL wUMULH wSMULH h0 n0 _ (T7.setFrames fs).heap _
          rw [show (T7.setFrames fs).heap = h0 from e7]
          exact ⟨congrArg (fun z => some (Value.int z)) (by rw [own_f2, if_neg hc2, if_neg hc5, if_pos hc8]; try rfl), N0, rfl⟩
      · refine OwnGo.of (A := T7.setTop (mkF m 18 #[.val (.ref a0)] [(.ref wSMULH), (.ref a0)])) (B := T7.setTop (mkF m 26 #[.val (.ref a0)] [(.int (0 : Int32))])) (fun t k => ?_) ?_
        · show Steps p.tables e below (T7.setTop (mkF m 18 #[.val (.ref a0)] [(.ref wSMULH), (.ref a0)])) t
          refine Jvm.RoadKit.acmp (g := (mkF m 18 #[.val (.ref a0)] [(.ref wSMULH), (.ref a0)])) X7 hx rfl rfl rfl (pc0 := 18) (pc' := 25) (same := false) rfl (hb hby d2_18) rfl (decide_eq_false fun q => hc8 (Value.ref.inj q)) (by decide) (by decide) ?_
          show Steps p.tables e below (T7.setTop (mkF m 25 #[.val (.ref a0)] [])) t
          refine XS.iconst X7.here hx rfl (hb hby d2_25) ?_
          exact k
        obtain ⟨fs, hr, hrun, hended, hW, hsame⟩ := X7.leave (v := some (.int (nar .boolean (0 : Int32)))) (fun h => by rw [Bd.returns] at h; cases h) hlk
        refine ⟨_, _, ?_, hrun, hended, _, _, rfl, ?_, ⟨_, rfl⟩, hW, hsame.mono (by decide) (by decide)⟩
        · show Steps p.tables e below (T7.setTop (mkF m 26 #[.val (.ref a0)] [(.int (0 : Int32))])) _
          exact retN X7 hx (t := .boolean) Bd.returns (by simp) (hb hby d2_26) hr
        · show Qrm2 Z a0 wMUL wUMULH wSMULH h0 n0 _ (T7.setFrames fs).heap _
          rw [show (T7.setFrames fs).heap = h0 from e7]
          exact ⟨congrArg (fun z => some (Value.int z)) (by rw [own_f2, if_neg hc2, if_neg hc5, if_neg hc8]; try rfl), N0, rfl⟩
theorem own_pick {P : Addr → Prop} (i : Int32) (wMUL wUMULH wSMULH wADDSHIFT wSUB wXOR wADDCONST wXORCONST wROTATE wTARGET wBRANCH : Addr) (h0 : P wMUL) (h1 : P wUMULH) (h2 : P wSMULH) (h3 : P wADDSHIFT) (h4 : P wSUB) (h5 : P wXOR) (h6 : P wADDCONST) (h7 : P wXORCONST) (h8 : P wROTATE) (h9 : P wTARGET) (h10 : P wBRANCH) : P (own_f1 i wMUL wUMULH wSMULH wADDSHIFT wSUB wXOR wADDCONST wXORCONST wROTATE wTARGET wBRANCH) := by
  unfold own_f1; repeat' split
  all_goals assumption
theorem own_law (wMUL wUMULH wSMULH wADDSHIFT wSUB wXOR wADDCONST wXORCONST wROTATE wTARGET wBRANCH : Addr) (n3_0 : wADDSHIFT ≠ wMUL) (n3_1 : wADDSHIFT ≠ wUMULH) (n3_2 : wADDSHIFT ≠ wSMULH) (n4_0 : wSUB ≠ wMUL) (n4_1 : wSUB ≠ wUMULH) (n4_2 : wSUB ≠ wSMULH) (n5_0 : wXOR ≠ wMUL) (n5_1 : wXOR ≠ wUMULH) (n5_2 : wXOR ≠ wSMULH) (n6_0 : wADDCONST ≠ wMUL) (n6_1 : wADDCONST ≠ wUMULH) (n6_2 : wADDCONST ≠ wSMULH) (n7_0 : wXORCONST ≠ wMUL) (n7_1 : wXORCONST ≠ wUMULH) (n7_2 : wXORCONST ≠ wSMULH) (n8_0 : wROTATE ≠ wMUL) (n8_1 : wROTATE ≠ wUMULH) (n8_2 : wROTATE ≠ wSMULH) (n9_0 : wTARGET ≠ wMUL) (n9_1 : wTARGET ≠ wUMULH) (n9_2 : wTARGET ≠ wSMULH) (n10_0 : wBRANCH ≠ wMUL) (n10_1 : wBRANCH ≠ wUMULH) (n10_2 : wBRANCH ≠ wSMULH) (i : Int32) (h : 0 ≤ i.toInt) : own_f2 (own_f1 i wMUL wUMULH wSMULH wADDSHIFT wSUB wXOR wADDCONST wXORCONST wROTATE wTARGET wBRANCH) wMUL wUMULH wSMULH = if i < 3 then 1 else 0 := by
  by_cases e0 : i = 0
  · subst e0; simp [own_f1, own_f2]
  by_cases e1 : i = 1
  · subst e1; simp [own_f1, own_f2]
  by_cases e2 : i = 2
  · subst e2; simp [own_f1, own_f2]
  by_cases e3 : i = 3
  · subst e3; simp [own_f1, own_f2, n3_0, n3_1, n3_2]
  by_cases e4 : i = 4
  · subst e4; simp [own_f1, own_f2, n4_0, n4_1, n4_2]
  by_cases e5 : i = 5
  · subst e5; simp [own_f1, own_f2, n5_0, n5_1, n5_2]
  by_cases e6 : i = 6
  · subst e6; simp [own_f1, own_f2, n6_0, n6_1, n6_2]
  by_cases e7 : i = 7
  · subst e7; simp [own_f1, own_f2, n7_0, n7_1, n7_2]
  by_cases e8 : i = 8
  · subst e8; simp [own_f1, own_f2, n8_0, n8_1, n8_2]
  by_cases e9 : i = 9
  · subst e9; simp [own_f1, own_f2, n9_0, n9_1, n9_2]
  have q : ¬ i < 3 := by
    intro q
    rw [Int32.lt_iff_toInt_lt, show (3 : Int32).toInt = 3 from by decide] at q
    have b0 : i.toInt ≠ 0 := fun z => e0 (Int32.toInt_inj.mp (z.trans (by decide)))
    have b1 : i.toInt ≠ 1 := fun z => e1 (Int32.toInt_inj.mp (z.trans (by decide)))
    have b2 : i.toInt ≠ 2 := fun z => e2 (Int32.toInt_inj.mp (z.trans (by decide)))
    omega
  simp [own_f1, own_f2, e0, e1, e2, e3, e4, e5, e6, e7, e8, e9, q, n10_0, n10_1, n10_2]
theorem own_i (k : Int32) : 0 ≤ ((k &&& 2147483647) % 11).toInt := by
  have h1 := c_mask k 2147483647 31 (by decide) (by decide)
  have h2 := (c_irem (k &&& 2147483647) 11 11 (by decide)).1
  omega
theorem pd_2 : parseMethodDescriptor "(I)Lcom/example/fend/fend/puzzle/hashx/Opcode;" = some ⟨[.int], some (.object "com/example/fend/fend/puzzle/hashx/Opcode")⟩ := by decide +kernel
theorem pd_3 : parseMethodDescriptor "()Z" = some ⟨[], some .boolean⟩ := by decide +kernel
theorem ef_rm0 (m : MethodId) (p0 : Int32) : entryFrame m #[(.int p0)] maxLocals = mkF m 0 #[.val (.int p0), .unset, .unset, .unset] [] := by first | (simp [entryFrame, mkF, argsToLocals, Value.category, maxLocals]; done) | rfl
def Qrm0 (Z : State) (p0 : Int32) (wMUL : Addr) (wUMULH : Addr) (wSMULH : Addr) (wADDSHIFT : Addr) (wSUB : Addr) (wXOR : Addr) (wADDCONST : Addr) (wXORCONST : Addr) (wROTATE : Addr) (wTARGET : Addr) (wBRANCH : Addr) (h0 : Heap) (n0 : Nat) (v : Option Value) (h : Heap) (L : List Loc) : Prop := v = some (.int 1) ∧ Fr n0 L
set_option maxRecDepth 65536 in
set_option maxHeartbeats 40000000 in
theorem rm0 (l : Launch) (Z : State) (aw : Array Value) (hw : ∀ d ∈ tables_1, d.before aw Z = true) (ws : List Jvm.Cond) (p0 : Int32) (wMUL : Addr) (wUMULH : Addr) (wSMULH : Addr) (wADDSHIFT : Addr) (wSUB : Addr) (wXOR : Addr) (wADDCONST : Addr) (wXORCONST : Addr) (wROTATE : Addr) (wTARGET : Addr) (wBRANCH : Addr) (h0 : Heap) (n0 : Nat) (Z0 : n0 ≤ h0.size) (S_MUL : Sta Z h0 "com/example/fend/fend/puzzle/hashx/Opcode" "MUL" "Lcom/example/fend/fend/puzzle/hashx/Opcode;" (.ref wMUL)) (S_UMULH : Sta Z h0 "com/example/fend/fend/puzzle/hashx/Opcode" "UMULH" "Lcom/example/fend/fend/puzzle/hashx/Opcode;" (.ref wUMULH)) (S_SMULH : Sta Z h0 "com/example/fend/fend/puzzle/hashx/Opcode" "SMULH" "Lcom/example/fend/fend/puzzle/hashx/Opcode;" (.ref wSMULH)) (S_ADDSHIFT : Sta Z h0 "com/example/fend/fend/puzzle/hashx/Opcode" "ADDSHIFT" "Lcom/example/fend/fend/puzzle/hashx/Opcode;" (.ref wADDSHIFT)) (S_SUB : Sta Z h0 "com/example/fend/fend/puzzle/hashx/Opcode" "SUB" "Lcom/example/fend/fend/puzzle/hashx/Opcode;" (.ref wSUB)) (S_XOR : Sta Z h0 "com/example/fend/fend/puzzle/hashx/Opcode" "XOR" "Lcom/example/fend/fend/puzzle/hashx/Opcode;" (.ref wXOR)) (S_ADDCONST : Sta Z h0 "com/example/fend/fend/puzzle/hashx/Opcode" "ADDCONST" "Lcom/example/fend/fend/puzzle/hashx/Opcode;" (.ref wADDCONST)) (S_XORCONST : Sta Z h0 "com/example/fend/fend/puzzle/hashx/Opcode" "XORCONST" "Lcom/example/fend/fend/puzzle/hashx/Opcode;" (.ref wXORCONST)) (S_ROTATE : Sta Z h0 "com/example/fend/fend/puzzle/hashx/Opcode" "ROTATE" "Lcom/example/fend/fend/puzzle/hashx/Opcode;" (.ref wROTATE)) (S_TARGET : Sta Z h0 "com/example/fend/fend/puzzle/hashx/Opcode" "TARGET" "Lcom/example/fend/fend/puzzle/hashx/Opcode;" (.ref wTARGET)) (S_BRANCH : Sta Z h0 "com/example/fend/fend/puzzle/hashx/Opcode" "BRANCH" "Lcom/example/fend/fend/puzzle/hashx/Opcode;" (.ref wBRANCH)) (hE : ∀ i, Exa Z h0 (own_f1 i wMUL wUMULH wSMULH wADDSHIFT wSUB wXOR wADDCONST wXORCONST wROTATE wTARGET wBRANCH) "com/example/fend/fend/puzzle/hashx/Opcode") (hl : ∀ i : Int32, 0 ≤ i.toInt → own_f2 (own_f1 i wMUL wUMULH wSMULH wADDSHIFT wSUB wXOR wADDCONST wXORCONST wROTATE wTARGET wBRANCH) wMUL wUMULH wSMULH = if i < 3 then 1 else 0) :
    MetFree l x (head1 (Jvm.Cond.code x code maxLocals ret :: ws) room_1) (fun a U => a = #[(.int p0)] ∧ Z.Warmed39 U.vm ∧ U.heap = h0) (fun _ _ _ _ _ => True) (fun _ U o U' => ∃ v L, o = .returned v ∧ Qrm0 Z p0 wMUL wUMULH wSMULH wADDSHIFT wSUB wXOR wADDCONST wXORCONST wROTATE wTARGET wBRANCH h0 n0 v U'.heap L ∧ FrameEnd U o U' L room_1.cells room_1.slots) := by
  refine MetFree.of_bodySF (plainFor_of_name pn_0) hisR ?_
  intro p e s m args below meth c s₁ Bd hml0 hP hK
  obtain ⟨rfl, hZ, hh⟩ := hP
  have hx := Bd.exec
  have hby := Bd.bytes
  have hml : c.maxLocals = 4 := hml0
  have hown : s.vm.findClass "com/example/fend/fend/puzzle/hashx/OpcodeIsMultiplyPinLaw" = some m.cls := findClass_of_methodNamed Bd.named
  have hnm := (name_of_methodNamed Bd.named Bd.method).1
  have X0 : Stand p l e room_1 s m #[(.int p0)] below meth c s₁ [] 0 0 := Stand.of_body Bd
  have e0 : s₁.heap = h0 := by rw [← hh, Bd.state]; rfl
  have N0 := Fr.nil n0
  have hlk := Bd.notSynchronized
  show OwnGo p.tables e below _ (s₁.setTop (entryFrame m #[(.int p0)] maxLocals))
  rw [ef_rm0 m p0]
  show OwnGo p.tables e below _ (s₁.setTop (mkF m 0 #[.val (.int p0), .unset, .unset, .unset] []))
  refine OwnGo.of (A := s₁.setTop (mkF m 0 #[.val (.int p0), .unset, .unset, .unset] [])) (B := s₁.setTop (mkF m 9 #[.val (.int p0), .val (.int ((p0 &&& (2147483647 : Int32)) % (11 : Int32))), .unset, .unset] [(.int ((p0 &&& (2147483647 : Int32)) % (11 : Int32)))])) (fun t k => ?_) ?_
  · show Steps p.tables e below (s₁.setTop (mkF m 0 #[.val (.int p0), .unset, .unset, .unset] [])) t
    refine XS.iloadN X0.here hx rfl (hb hby at_0) rfl ?_
    show Steps p.tables e below (s₁.setTop (mkF m 1 #[.val (.int p0), .unset, .unset, .unset] [(.int p0)])) t
    refine X0.ldcInt hx hown (mvT hZ (hw _ (List.mem_of_getElem? (i := 0) rfl))) (g := (mkF m 1 #[.val (.int p0), .unset, .unset, .unset] [(.int p0)])) rfl (hb hby at_1) _ ?_
    show Steps p.tables e below (s₁.setTop (mkF m 3 #[.val (.int p0), .unset, .unset, .unset] [(.int (2147483647 : Int32)), (.int p0)])) t
    refine XS.iand X0.here hx rfl (hb hby at_3) rfl ?_
    show Steps p.tables e below (s₁.setTop (mkF m 4 #[.val (.int p0), .unset, .unset, .unset] [(.int (p0 &&& (2147483647 : Int32)))])) t
    refine XS.bipush X0.here hx rfl (hb hby at_4) ?_
    show Steps p.tables e below (s₁.setTop (mkF m 6 #[.val (.int p0), .unset, .unset, .unset] [(.int (11 : Int32)), (.int (p0 &&& (2147483647 : Int32)))])) t
    refine iremM X0 hx rfl (hb hby at_6) rfl (by decide) ?_
    show Steps p.tables e below (s₁.setTop (mkF m 7 #[.val (.int p0), .unset, .unset, .unset] [(.int ((p0 &&& (2147483647 : Int32)) % (11 : Int32)))])) t
    refine XS.istoreN X0.here hx rfl (hb hby at_7) rfl (l' := #[.val (.int p0), .val (.int ((p0 &&& (2147483647 : Int32)) % (11 : Int32))), .unset, .unset]) rfl ?_
    show Steps p.tables e below (s₁.setTop (mkF m 8 #[.val (.int p0), .val (.int ((p0 &&& (2147483647 : Int32)) % (11 : Int32))), .unset, .unset] [])) t
    refine XS.iloadN X0.here hx rfl (hb hby at_8) rfl ?_
    exact k
  obtain ⟨_, _, ⟨T1, L1, k1, n1⟩, -, X1, ⟨Lc1, hQ1, l1, y1, z1⟩, st1⟩ := Jvm.LawKit.callS X0 hx (y := (⟨"com/example/fend/fend/puzzle/hashx/OpcodeIsMultiplyPinLaw", "pick", "(I)Lcom/example/fend/fend/puzzle/hashx/Opcode;"⟩ : MethodName)) hown (mvT hZ (hw _ (List.mem_of_getElem? (i := 1) rfl))) (mvT hZ (hw _ (List.mem_of_getElem? (i := 2) rfl))) (mvT hZ (hw _ (List.mem_of_getElem? (i := 3) rfl))) (mvT hZ (hw _ (List.mem_of_getElem? (i := 4) rfl))) (by decide) (backOf (W := 0) (rm1 l Z aw hw [] ((p0 &&& (2147483647 : Int32)) % (11 : Int32)) wMUL wUMULH wSMULH wADDSHIFT wSUB wXOR wADDCONST wXORCONST wROTATE wTARGET wBRANCH h0 n0 Z0 S_MUL S_UMULH S_SMULH S_ADDSHIFT S_SUB S_XOR S_ADDCONST S_XORCONST S_ROTATE S_TARGET S_BRANCH) hZ (hw _ (List.mem_of_getElem? (i := 4) rfl)) (hw _ (List.mem_of_getElem? (i := 3) rfl)) (by decide) (by decide)) (g := (mkF m 9 #[.val (.int p0), .val (.int ((p0 &&& (2147483647 : Int32)) % (11 : Int32))), .unset, .unset] [(.int ((p0 &&& (2147483647 : Int32)) % (11 : Int32)))])) rfl (by rw [hml]; rfl) (argsL := [(.int ((p0 &&& (2147483647 : Int32)) % (11 : Int32)))]) (rest := []) (lenOf pd_2 rfl) rfl (by show 2 * 0 + _ ≤ _; exact Nat.le_of_eq rfl) (hb hby at_9) (fun _ _ => ⟨rfl, e0, (by decide : 0 + 0 ≤ _), (by decide : 0 + 0 ≤ _)⟩)
  dsimp only [Pt.U, Pt.locs, Pt.cells, Pt.slots] at X1 l1 y1 z1 st1 hQ1
  subst l1 y1 z1
  obtain ⟨rfl, N1q, eq1⟩ := hQ1
  have f2 : Exa Z h0 (own_f1 ((p0 &&& (2147483647 : Int32)) % (11 : Int32)) wMUL wUMULH wSMULH wADDSHIFT wSUB wXOR wADDCONST wXORCONST wROTATE wTARGET wBRANCH) "com/example/fend/fend/puzzle/hashx/Opcode" := hE _
  have N1 := Fr.app N0 N1q
  refine OwnGo.of st1 ?_
  show OwnGo p.tables e below _ (T1.setTop (mkF m 12 #[.val (.int p0), .val (.int ((p0 &&& (2147483647 : Int32)) % (11 : Int32))), .unset, .unset] [(.ref (own_f1 ((p0 &&& (2147483647 : Int32)) % (11 : Int32)) wMUL wUMULH wSMULH wADDSHIFT wSUB wXOR wADDCONST wXORCONST wROTATE wTARGET wBRANCH))]))
  refine OwnGo.of (A := T1.setTop (mkF m 12 #[.val (.int p0), .val (.int ((p0 &&& (2147483647 : Int32)) % (11 : Int32))), .unset, .unset] [(.ref (own_f1 ((p0 &&& (2147483647 : Int32)) % (11 : Int32)) wMUL wUMULH wSMULH wADDSHIFT wSUB wXOR wADDCONST wXORCONST wROTATE wTARGET wBRANCH))])) (B := T1.setTop (mkF m 15 #[.val (.int p0), .val (.int ((p0 &&& (2147483647 : Int32)) % (11 : Int32))), .val (.ref (own_f1 ((p0 &&& (2147483647 : Int32)) % (11 : Int32)) wMUL wUMULH wSMULH wADDSHIFT wSUB wXOR wADDCONST wXORCONST wROTATE wTARGET wBRANCH)), .unset] [(.int (3 : Int32)), (.int ((p0 &&& (2147483647 : Int32)) % (11 : Int32)))])) (fun t k => ?_) ?_
  · show Steps p.tables e below (T1.setTop (mkF m 12 #[.val (.int p0), .val (.int ((p0 &&& (2147483647 : Int32)) % (11 : Int32))), .unset, .unset] [(.ref (own_f1 ((p0 &&& (2147483647 : Int32)) % (11 : Int32)) wMUL wUMULH wSMULH wADDSHIFT wSUB wXOR wADDCONST wXORCONST wROTATE wTARGET wBRANCH))])) t
    refine XS.astoreN X1.here hx rfl (hb hby at_12) rfl rfl (l' := #[.val (.int p0), .val (.int ((p0 &&& (2147483647 : Int32)) % (11 : Int32))), .val (.ref (own_f1 ((p0 &&& (2147483647 : Int32)) % (11 : Int32)) wMUL wUMULH wSMULH wADDSHIFT wSUB wXOR wADDCONST wXORCONST wROTATE wTARGET wBRANCH)), .unset]) rfl ?_
    show Steps p.tables e below (T1.setTop (mkF m 13 #[.val (.int p0), .val (.int ((p0 &&& (2147483647 : Int32)) % (11 : Int32))), .val (.ref (own_f1 ((p0 &&& (2147483647 : Int32)) % (11 : Int32)) wMUL wUMULH wSMULH wADDSHIFT wSUB wXOR wADDCONST wXORCONST wROTATE wTARGET wBRANCH)), .unset] [])) t
    refine XS.iloadN X1.here hx rfl (hb hby at_13) rfl ?_
    show Steps p.tables e below (T1.setTop (mkF m 14 #[.val (.int p0), .val (.int ((p0 &&& (2147483647 : Int32)) % (11 : Int32))), .val (.ref (own_f1 ((p0 &&& (2147483647 : Int32)) % (11 : Int32)) wMUL wUMULH wSMULH wADDSHIFT wSUB wXOR wADDCONST wXORCONST wROTATE wTARGET wBRANCH)), .unset] [(.int ((p0 &&& (2147483647 : Int32)) % (11 : Int32)))])) t
    refine XS.iconst X1.here hx rfl (hb hby at_14) ?_
    exact k
  by_cases hc3 : ((p0 &&& (2147483647 : Int32)) % (11 : Int32)) < (3 : Int32)
  · refine OwnGo.of (A := T1.setTop (mkF m 15 #[.val (.int p0), .val (.int ((p0 &&& (2147483647 : Int32)) % (11 : Int32))), .val (.ref (own_f1 ((p0 &&& (2147483647 : Int32)) % (11 : Int32)) wMUL wUMULH wSMULH wADDSHIFT wSUB wXOR wADDCONST wXORCONST wROTATE wTARGET wBRANCH)), .unset] [(.int (3 : Int32)), (.int ((p0 &&& (2147483647 : Int32)) % (11 : Int32)))])) (B := T1.setTop (mkF m 25 #[.val (.int p0), .val (.int ((p0 &&& (2147483647 : Int32)) % (11 : Int32))), .val (.ref (own_f1 ((p0 &&& (2147483647 : Int32)) % (11 : Int32)) wMUL wUMULH wSMULH wADDSHIFT wSUB wXOR wADDCONST wXORCONST wROTATE wTARGET wBRANCH)), .val (.int (1 : Int32))] [(.ref (own_f1 ((p0 &&& (2147483647 : Int32)) % (11 : Int32)) wMUL wUMULH wSMULH wADDSHIFT wSUB wXOR wADDCONST wXORCONST wROTATE wTARGET wBRANCH))])) (fun t k => ?_) ?_
    · show Steps p.tables e below (T1.setTop (mkF m 15 #[.val (.int p0), .val (.int ((p0 &&& (2147483647 : Int32)) % (11 : Int32))), .val (.ref (own_f1 ((p0 &&& (2147483647 : Int32)) % (11 : Int32)) wMUL wUMULH wSMULH wADDSHIFT wSUB wXOR wADDCONST wXORCONST wROTATE wTARGET wBRANCH)), .unset] [(.int (3 : Int32)), (.int ((p0 &&& (2147483647 : Int32)) % (11 : Int32)))])) t
      refine XS.icmpNo X1.here hx rfl (hb hby at_15) rfl (tlt hc3).2.1 ?_
      show Steps p.tables e below (T1.setTop (mkF m 18 #[.val (.int p0), .val (.int ((p0 &&& (2147483647 : Int32)) % (11 : Int32))), .val (.ref (own_f1 ((p0 &&& (2147483647 : Int32)) % (11 : Int32)) wMUL wUMULH wSMULH wADDSHIFT wSUB wXOR wADDCONST wXORCONST wROTATE wTARGET wBRANCH)), .unset] [])) t
      refine XS.iconst X1.here hx rfl (hb hby at_18) ?_
      show Steps p.tables e below (T1.setTop (mkF m 19 #[.val (.int p0), .val (.int ((p0 &&& (2147483647 : Int32)) % (11 : Int32))), .val (.ref (own_f1 ((p0 &&& (2147483647 : Int32)) % (11 : Int32)) wMUL wUMULH wSMULH wADDSHIFT wSUB wXOR wADDCONST wXORCONST wROTATE wTARGET wBRANCH)), .unset] [(.int (1 : Int32))])) t
      refine XS.goto X1.here hx rfl (pc0 := 19) (pc' := 23) rfl (hb hby at_19) (by decide) (by decide) ?_
      show Steps p.tables e below (T1.setTop (mkF m 23 #[.val (.int p0), .val (.int ((p0 &&& (2147483647 : Int32)) % (11 : Int32))), .val (.ref (own_f1 ((p0 &&& (2147483647 : Int32)) % (11 : Int32)) wMUL wUMULH wSMULH wADDSHIFT wSUB wXOR wADDCONST wXORCONST wROTATE wTARGET wBRANCH)), .unset] [(.int (1 : Int32))])) t
      refine XS.istoreN X1.here hx rfl (hb hby at_23) rfl (l' := #[.val (.int p0), .val (.int ((p0 &&& (2147483647 : Int32)) % (11 : Int32))), .val (.ref (own_f1 ((p0 &&& (2147483647 : Int32)) % (11 : Int32)) wMUL wUMULH wSMULH wADDSHIFT wSUB wXOR wADDCONST wXORCONST wROTATE wTARGET wBRANCH)), .val (.int (1 : Int32))]) rfl ?_
      show Steps p.tables e below (T1.setTop (mkF m 24 #[.val (.int p0), .val (.int ((p0 &&& (2147483647 : Int32)) % (11 : Int32))), .val (.ref (own_f1 ((p0 &&& (2147483647 : Int32)) % (11 : Int32)) wMUL wUMULH wSMULH wADDSHIFT wSUB wXOR wADDCONST wXORCONST wROTATE wTARGET wBRANCH)), .val (.int (1 : Int32))] [])) t
      refine XS.aloadN X1.here hx rfl (hb hby at_24) rfl rfl ?_
      exact k
    obtain ⟨cq4, kq4, q4a, q4b, q4c⟩ := isOf hZ eq1 f2
    obtain ⟨_, _, ⟨T4, L4, k4, n4⟩, -, X4, ⟨Lc4, hQ4, l4, y4, z4⟩, st4⟩ := X1.virtualBack hx (y := (⟨"com/example/fend/fend/puzzle/hashx/Opcode", "isMultiply", "()Z"⟩ : MethodName)) (z := (⟨"com/example/fend/fend/puzzle/hashx/Opcode", "isMultiply", "()Z"⟩ : MethodName)) hown (mvT hZ (hw _ (List.mem_of_getElem? (i := 8) rfl))) (mvT hZ (hw _ (List.mem_of_getElem? (i := 9) rfl))) (notFace_of_selects (args := #[]) (mvT hZ (hw _ (List.mem_of_getElem? (i := 11) rfl)))) (mvT hZ (hw _ (List.mem_of_getElem? (i := 11) rfl))) (mvT hZ (hw _ (List.mem_of_getElem? (i := 10) rfl))) (by decide) (backOf (W := 0) (rm2 l Z aw hw [] (own_f1 ((p0 &&& (2147483647 : Int32)) % (11 : Int32)) wMUL wUMULH wSMULH wADDSHIFT wSUB wXOR wADDCONST wXORCONST wROTATE wTARGET wBRANCH) wMUL wUMULH wSMULH h0 n0 Z0 S_MUL S_UMULH S_SMULH) hZ (hw _ (List.mem_of_getElem? (i := 12) rfl)) (hw _ (List.mem_of_getElem? (i := 6) rfl)) (by decide) (by decide)) q4a q4c (g := (mkF m 25 #[.val (.int p0), .val (.int ((p0 &&& (2147483647 : Int32)) % (11 : Int32))), .val (.ref (own_f1 ((p0 &&& (2147483647 : Int32)) % (11 : Int32)) wMUL wUMULH wSMULH wADDSHIFT wSUB wXOR wADDCONST wXORCONST wROTATE wTARGET wBRANCH)), .val (.int (1 : Int32))] [(.ref (own_f1 ((p0 &&& (2147483647 : Int32)) % (11 : Int32)) wMUL wUMULH wSMULH wADDSHIFT wSUB wXOR wADDCONST wXORCONST wROTATE wTARGET wBRANCH))])) rfl (by rw [hml]; rfl) (Steps.refl _) (argsL := []) (rest := []) (lenOf pd_3 rfl) rfl (by show 2 * 0 + _ ≤ _; exact Nat.le_of_eq rfl) (hb hby at_25) (fun _ _ => ⟨rfl, eq1, (by decide : 0 + 0 ≤ _), (by decide : 0 + 0 ≤ _)⟩)
    dsimp only [Pt.U, Pt.locs, Pt.cells, Pt.slots] at X4 l4 y4 z4 st4 hQ4
    subst l4 y4 z4
    obtain ⟨rfl, N4q, eq4⟩ := hQ4
    have N4 := Fr.app N1 N4q
    refine OwnGo.of (fun t k => st4.trans k) ?_
    show OwnGo p.tables e below _ (T4.setTop (mkF m 28 #[.val (.int p0), .val (.int ((p0 &&& (2147483647 : Int32)) % (11 : Int32))), .val (.ref (own_f1 ((p0 &&& (2147483647 : Int32)) % (11 : Int32)) wMUL wUMULH wSMULH wADDSHIFT wSUB wXOR wADDCONST wXORCONST wROTATE wTARGET wBRANCH)), .val (.int (1 : Int32))] [(.int (own_f2 (own_f1 ((p0 &&& (2147483647 : Int32)) % (11 : Int32)) wMUL wUMULH wSMULH wADDSHIFT wSUB wXOR wADDCONST wXORCONST wROTATE wTARGET wBRANCH) wMUL wUMULH wSMULH))]))
    refine OwnGo.of (A := T4.setTop (mkF m 28 #[.val (.int p0), .val (.int ((p0 &&& (2147483647 : Int32)) % (11 : Int32))), .val (.ref (own_f1 ((p0 &&& (2147483647 : Int32)) % (11 : Int32)) wMUL wUMULH wSMULH wADDSHIFT wSUB wXOR wADDCONST wXORCONST wROTATE wTARGET wBRANCH)), .val (.int (1 : Int32))] [(.int (own_f2 (own_f1 ((p0 &&& (2147483647 : Int32)) % (11 : Int32)) wMUL wUMULH wSMULH wADDSHIFT wSUB wXOR wADDCONST wXORCONST wROTATE wTARGET wBRANCH) wMUL wUMULH wSMULH))])) (B := T4.setTop (mkF m 29 #[.val (.int p0), .val (.int ((p0 &&& (2147483647 : Int32)) % (11 : Int32))), .val (.ref (own_f1 ((p0 &&& (2147483647 : Int32)) % (11 : Int32)) wMUL wUMULH wSMULH wADDSHIFT wSUB wXOR wADDCONST wXORCONST wROTATE wTARGET wBRANCH)), .val (.int (1 : Int32))] [(.int (1 : Int32)), (.int (own_f2 (own_f1 ((p0 &&& (2147483647 : Int32)) % (11 : Int32)) wMUL wUMULH wSMULH wADDSHIFT wSUB wXOR wADDCONST wXORCONST wROTATE wTARGET wBRANCH) wMUL wUMULH wSMULH))])) (fun t k => ?_) ?_
    · show Steps p.tables e below (T4.setTop (mkF m 28 #[.val (.int p0), .val (.int ((p0 &&& (2147483647 : Int32)) % (11 : Int32))), .val (.ref (own_f1 ((p0 &&& (2147483647 : Int32)) % (11 : Int32)) wMUL wUMULH wSMULH wADDSHIFT wSUB wXOR wADDCONST wXORCONST wROTATE wTARGET wBRANCH)), .val (.int (1 : Int32))] [(.int (own_f2 (own_f1 ((p0 &&& (2147483647 : Int32)) % (11 : Int32)) wMUL wUMULH wSMULH wADDSHIFT wSUB wXOR wADDCONST wXORCONST wROTATE wTARGET wBRANCH) wMUL wUMULH wSMULH))])) t
      refine XS.iloadN X4.here hx rfl (hb hby at_28) rfl ?_
      exact k
    have hc5 : (own_f2 (own_f1 ((p0 &&& (2147483647 : Int32)) % (11 : Int32)) wMUL wUMULH wSMULH wADDSHIFT wSUB wXOR wADDCONST wXORCONST wROTATE wTARGET wBRANCH) wMUL wUMULH wSMULH) = (1 : Int32) := (hl _ (own_i p0)).trans (by rw [if_pos hc3])
    refine OwnGo.of (A := T4.setTop (mkF m 29 #[.val (.int p0), .val (.int ((p0 &&& (2147483647 : Int32)) % (11 : Int32))), .val (.ref (own_f1 ((p0 &&& (2147483647 : Int32)) % (11 : Int32)) wMUL wUMULH wSMULH wADDSHIFT wSUB wXOR wADDCONST wXORCONST wROTATE wTARGET wBRANCH)), .val (.int (1 : Int32))] [(.int (1 : Int32)), (.int (own_f2 (own_f1 ((p0 &&& (2147483647 : Int32)) % (11 : Int32)) wMUL wUMULH wSMULH wADDSHIFT wSUB wXOR wADDCONST wXORCONST wROTATE wTARGET wBRANCH) wMUL wUMULH wSMULH))])) (B := T4.setTop (mkF m 37 #[.val (.int p0), .val (.int ((p0 &&& (2147483647 : Int32)) % (11 : Int32))), .val (.ref (own_f1 ((p0 &&& (2147483647 : Int32)) % (11 : Int32)) wMUL wUMULH wSMULH wADDSHIFT wSUB wXOR wADDCONST wXORCONST wROTATE wTARGET wBRANCH)), .val (.int (1 : Int32))] [(.int (1 : Int32))])) (fun t k => ?_) ?_
    · show Steps p.tables e below (T4.setTop (mkF m 29 #[.val (.int p0), .val (.int ((p0 &&& (2147483647 : Int32)) % (11 : Int32))), .val (.ref (own_f1 ((p0 &&& (2147483647 : Int32)) % (11 : Int32)) wMUL wUMULH wSMULH wADDSHIFT wSUB wXOR wADDCONST wXORCONST wROTATE wTARGET wBRANCH)), .val (.int (1 : Int32))] [(.int (1 : Int32)), (.int (own_f2 (own_f1 ((p0 &&& (2147483647 : Int32)) % (11 : Int32)) wMUL wUMULH wSMULH wADDSHIFT wSUB wXOR wADDCONST wXORCONST wROTATE wTARGET wBRANCH) wMUL wUMULH wSMULH))])) t
      refine XS.icmpNo X4.here hx rfl (hb hby at_29) rfl (teq hc5).2 ?_
      show Steps p.tables e below (T4.setTop (mkF m 32 #[.val (.int p0), .val (.int ((p0 &&& (2147483647 : Int32)) % (11 : Int32))), .val (.ref (own_f1 ((p0 &&& (2147483647 : Int32)) % (11 : Int32)) wMUL wUMULH wSMULH wADDSHIFT wSUB wXOR wADDCONST wXORCONST wROTATE wTARGET wBRANCH)), .val (.int (1 : Int32))] [])) t
      refine XS.iconst X4.here hx rfl (hb hby at_32) ?_
      show Steps p.tables e below (T4.setTop (mkF m 33 #[.val (.int p0), .val (.int ((p0 &&& (2147483647 : Int32)) % (11 : Int32))), .val (.ref (own_f1 ((p0 &&& (2147483647 : Int32)) % (11 : Int32)) wMUL wUMULH wSMULH wADDSHIFT wSUB wXOR wADDCONST wXORCONST wROTATE wTARGET wBRANCH)), .val (.int (1 : Int32))] [(.int (1 : Int32))])) t
      refine XS.goto X4.here hx rfl (pc0 := 33) (pc' := 37) rfl (hb hby at_33) (by decide) (by decide) ?_
      exact k
    obtain ⟨fs, hr, hrun, hended, hW, hsame⟩ := X4.leave (v := some (.int (nar .boolean (1 : Int32)))) (fun h => by rw [Bd.returns] at h; cases h) hlk
    refine ⟨_, _, ?_, hrun, hended, _, _, rfl, ?_, ⟨_, rfl⟩, hW, hsame.mono (by decide) (by decide)⟩
    · show Steps p.tables e below (T4.setTop (mkF m 37 #[.val (.int p0), .val (.int ((p0 &&& (2147483647 : Int32)) % (11 : Int32))), .val (.ref (own_f1 ((p0 &&& (2147483647 : Int32)) % (11 : Int32)) wMUL wUMULH wSMULH wADDSHIFT wSUB wXOR wADDCONST wXORCONST wROTATE wTARGET wBRANCH)), .val (.int (1 : Int32))] [(.int (1 : Int32))])) _
      exact retN X4 hx (t := .boolean) Bd.returns (by simp) (hb hby at_37) hr
    · show Qrm0 Z p0 wMUL wUMULH wSMULH wADDSHIFT wSUB wXOR wADDCONST wXORCONST wROTATE wTARGET wBRANCH h0 n0 _ (T4.setFrames fs).heap _
      rw [show (T4.setFrames fs).heap = h0 from eq4]
      exact ⟨rfl, N4⟩
  · refine OwnGo.of (A := T1.setTop (mkF m 15 #[.val (.int p0), .val (.int ((p0 &&& (2147483647 : Int32)) % (11 : Int32))), .val (.ref (own_f1 ((p0 &&& (2147483647 : Int32)) % (11 : Int32)) wMUL wUMULH wSMULH wADDSHIFT wSUB wXOR wADDCONST wXORCONST wROTATE wTARGET wBRANCH)), .unset] [(.int (3 : Int32)), (.int ((p0 &&& (2147483647 : Int32)) % (11 : Int32)))])) (B := T1.setTop (mkF m 25 #[.val (.int p0), .val (.int ((p0 &&& (2147483647 : Int32)) % (11 : Int32))), .val (.ref (own_f1 ((p0 &&& (2147483647 : Int32)) % (11 : Int32)) wMUL wUMULH wSMULH wADDSHIFT wSUB wXOR wADDCONST wXORCONST wROTATE wTARGET wBRANCH)), .val (.int (0 : Int32))] [(.ref (own_f1 ((p0 &&& (2147483647 : Int32)) % (11 : Int32)) wMUL wUMULH wSMULH wADDSHIFT wSUB wXOR wADDCONST wXORCONST wROTATE wTARGET wBRANCH))])) (fun t k => ?_) ?_
    · show Steps p.tables e below (T1.setTop (mkF m 15 #[.val (.int p0), .val (.int ((p0 &&& (2147483647 : Int32)) % (11 : Int32))), .val (.ref (own_f1 ((p0 &&& (2147483647 : Int32)) % (11 : Int32)) wMUL wUMULH wSMULH wADDSHIFT wSUB wXOR wADDCONST wXORCONST wROTATE wTARGET wBRANCH)), .unset] [(.int (3 : Int32)), (.int ((p0 &&& (2147483647 : Int32)) % (11 : Int32)))])) t
      refine XS.icmpYes X1.here hx rfl (pc0 := 15) (pc' := 22) rfl (hb hby at_15) rfl (flt hc3).2.1 (by decide) (by decide) ?_
      show Steps p.tables e below (T1.setTop (mkF m 22 #[.val (.int p0), .val (.int ((p0 &&& (2147483647 : Int32)) % (11 : Int32))), .val (.ref (own_f1 ((p0 &&& (2147483647 : Int32)) % (11 : Int32)) wMUL wUMULH wSMULH wADDSHIFT wSUB wXOR wADDCONST wXORCONST wROTATE wTARGET wBRANCH)), .unset] [])) t
      refine XS.iconst X1.here hx rfl (hb hby at_22) ?_
      show Steps p.tables e below (T1.setTop (mkF m 23 #[.val (.int p0), .val (.int ((p0 &&& (2147483647 : Int32)) % (11 : Int32))), .val (.ref (own_f1 ((p0 &&& (2147483647 : Int32)) % (11 : Int32)) wMUL wUMULH wSMULH wADDSHIFT wSUB wXOR wADDCONST wXORCONST wROTATE wTARGET wBRANCH)), .unset] [(.int (0 : Int32))])) t
      refine XS.istoreN X1.here hx rfl (hb hby at_23) rfl (l' := #[.val (.int p0), .val (.int ((p0 &&& (2147483647 : Int32)) % (11 : Int32))), .val (.ref (own_f1 ((p0 &&& (2147483647 : Int32)) % (11 : Int32)) wMUL wUMULH wSMULH wADDSHIFT wSUB wXOR wADDCONST wXORCONST wROTATE wTARGET wBRANCH)), .val (.int (0 : Int32))]) rfl ?_
      show Steps p.tables e below (T1.setTop (mkF m 24 #[.val (.int p0), .val (.int ((p0 &&& (2147483647 : Int32)) % (11 : Int32))), .val (.ref (own_f1 ((p0 &&& (2147483647 : Int32)) % (11 : Int32)) wMUL wUMULH wSMULH wADDSHIFT wSUB wXOR wADDCONST wXORCONST wROTATE wTARGET wBRANCH)), .val (.int (0 : Int32))] [])) t
      refine XS.aloadN X1.here hx rfl (hb hby at_24) rfl rfl ?_
      exact k
    obtain ⟨cq7, kq7, q7a, q7b, q7c⟩ := isOf hZ eq1 f2
    obtain ⟨_, _, ⟨T7, L7, k7, n7⟩, -, X7, ⟨Lc7, hQ7, l7, y7, z7⟩, st7⟩ := X1.virtualBack hx (y := (⟨"com/example/fend/fend/puzzle/hashx/Opcode", "isMultiply", "()Z"⟩ : MethodName)) (z := (⟨"com/example/fend/fend/puzzle/hashx/Opcode", "isMultiply", "()Z"⟩ : MethodName)) hown (mvT hZ (hw _ (List.mem_of_getElem? (i := 8) rfl))) (mvT hZ (hw _ (List.mem_of_getElem? (i := 9) rfl))) (notFace_of_selects (args := #[]) (mvT hZ (hw _ (List.mem_of_getElem? (i := 11) rfl)))) (mvT hZ (hw _ (List.mem_of_getElem? (i := 11) rfl))) (mvT hZ (hw _ (List.mem_of_getElem? (i := 10) rfl))) (by decide) (backOf (W := 0) (rm2 l Z aw hw [] (own_f1 ((p0 &&& (2147483647 : Int32)) % (11 : Int32)) wMUL wUMULH wSMULH wADDSHIFT wSUB wXOR wADDCONST wXORCONST wROTATE wTARGET wBRANCH) wMUL wUMULH wSMULH h0 n0 Z0 S_MUL S_UMULH S_SMULH) hZ (hw _ (List.mem_of_getElem? (i := 12) rfl)) (hw _ (List.mem_of_getElem? (i := 6) rfl)) (by decide) (by decide)) q7a q7c (g := (mkF m 25 #[.val (.int p0), .val (.int ((p0 &&& (2147483647 : Int32)) % (11 : Int32))), .val (.ref (own_f1 ((p0 &&& (2147483647 : Int32)) % (11 : Int32)) wMUL wUMULH wSMULH wADDSHIFT wSUB wXOR wADDCONST wXORCONST wROTATE wTARGET wBRANCH)), .val (.int (0 : Int32))] [(.ref (own_f1 ((p0 &&& (2147483647 : Int32)) % (11 : Int32)) wMUL wUMULH wSMULH wADDSHIFT wSUB wXOR wADDCONST wXORCONST wROTATE wTARGET wBRANCH))])) rfl (by rw [hml]; rfl) (Steps.refl _) (argsL := []) (rest := []) (lenOf pd_3 rfl) rfl (by show 2 * 0 + _ ≤ _; exact Nat.le_of_eq rfl) (hb hby at_25) (fun _ _ => ⟨rfl, eq1, (by decide : 0 + 0 ≤ _), (by decide : 0 + 0 ≤ _)⟩)
    dsimp only [Pt.U, Pt.locs, Pt.cells, Pt.slots] at X7 l7 y7 z7 st7 hQ7
    subst l7 y7 z7
    obtain ⟨rfl, N7q, eq7⟩ := hQ7
    have N7 := Fr.app N1 N7q
    refine OwnGo.of (fun t k => st7.trans k) ?_
    show OwnGo p.tables e below _ (T7.setTop (mkF m 28 #[.val (.int p0), .val (.int ((p0 &&& (2147483647 : Int32)) % (11 : Int32))), .val (.ref (own_f1 ((p0 &&& (2147483647 : Int32)) % (11 : Int32)) wMUL wUMULH wSMULH wADDSHIFT wSUB wXOR wADDCONST wXORCONST wROTATE wTARGET wBRANCH)), .val (.int (0 : Int32))] [(.int (own_f2 (own_f1 ((p0 &&& (2147483647 : Int32)) % (11 : Int32)) wMUL wUMULH wSMULH wADDSHIFT wSUB wXOR wADDCONST wXORCONST wROTATE wTARGET wBRANCH) wMUL wUMULH wSMULH))]))
    refine OwnGo.of (A := T7.setTop (mkF m 28 #[.val (.int p0), .val (.int ((p0 &&& (2147483647 : Int32)) % (11 : Int32))), .val (.ref (own_f1 ((p0 &&& (2147483647 : Int32)) % (11 : Int32)) wMUL wUMULH wSMULH wADDSHIFT wSUB wXOR wADDCONST wXORCONST wROTATE wTARGET wBRANCH)), .val (.int (0 : Int32))] [(.int (own_f2 (own_f1 ((p0 &&& (2147483647 : Int32)) % (11 : Int32)) wMUL wUMULH wSMULH wADDSHIFT wSUB wXOR wADDCONST wXORCONST wROTATE wTARGET wBRANCH) wMUL wUMULH wSMULH))])) (B := T7.setTop (mkF m 29 #[.val (.int p0), .val (.int ((p0 &&& (2147483647 : Int32)) % (11 : Int32))), .val (.ref (own_f1 ((p0 &&& (2147483647 : Int32)) % (11 : Int32)) wMUL wUMULH wSMULH wADDSHIFT wSUB wXOR wADDCONST wXORCONST wROTATE wTARGET wBRANCH)), .val (.int (0 : Int32))] [(.int (0 : Int32)), (.int (own_f2 (own_f1 ((p0 &&& (2147483647 : Int32)) % (11 : Int32)) wMUL wUMULH wSMULH wADDSHIFT wSUB wXOR wADDCONST wXORCONST wROTATE wTARGET wBRANCH) wMUL wUMULH wSMULH))])) (fun t k => ?_) ?_
    · show Steps p.tables e below (T7.setTop (mkF m 28 #[.val (.int p0), .val (.int ((p0 &&& (2147483647 : Int32)) % (11 : Int32))), .val (.ref (own_f1 ((p0 &&& (2147483647 : Int32)) % (11 : Int32)) wMUL wUMULH wSMULH wADDSHIFT wSUB wXOR wADDCONST wXORCONST wROTATE wTARGET wBRANCH)), .val (.int (0 : Int32))] [(.int (own_f2 (own_f1 ((p0 &&& (2147483647 : Int32)) % (11 : Int32)) wMUL wUMULH wSMULH wADDSHIFT wSUB wXOR wADDCONST wXORCONST wROTATE wTARGET wBRANCH) wMUL wUMULH wSMULH))])) t
      refine XS.iloadN X7.here hx rfl (hb hby at_28) rfl ?_
      exact k
    have hc8 : (own_f2 (own_f1 ((p0 &&& (2147483647 : Int32)) % (11 : Int32)) wMUL wUMULH wSMULH wADDSHIFT wSUB wXOR wADDCONST wXORCONST wROTATE wTARGET wBRANCH) wMUL wUMULH wSMULH) = (0 : Int32) := (hl _ (own_i p0)).trans (by rw [if_neg hc3])
    refine OwnGo.of (A := T7.setTop (mkF m 29 #[.val (.int p0), .val (.int ((p0 &&& (2147483647 : Int32)) % (11 : Int32))), .val (.ref (own_f1 ((p0 &&& (2147483647 : Int32)) % (11 : Int32)) wMUL wUMULH wSMULH wADDSHIFT wSUB wXOR wADDCONST wXORCONST wROTATE wTARGET wBRANCH)), .val (.int (0 : Int32))] [(.int (0 : Int32)), (.int (own_f2 (own_f1 ((p0 &&& (2147483647 : Int32)) % (11 : Int32)) wMUL wUMULH wSMULH wADDSHIFT wSUB wXOR wADDCONST wXORCONST wROTATE wTARGET wBRANCH) wMUL wUMULH wSMULH))])) (B := T7.setTop (mkF m 37 #[.val (.int p0), .val (.int ((p0 &&& (2147483647 : Int32)) % (11 : Int32))), .val (.ref (own_f1 ((p0 &&& (2147483647 : Int32)) % (11 : Int32)) wMUL wUMULH wSMULH wADDSHIFT wSUB wXOR wADDCONST wXORCONST wROTATE wTARGET wBRANCH)), .val (.int (0 : Int32))] [(.int (1 : Int32))])) (fun t k => ?_) ?_
    · show Steps p.tables e below (T7.setTop (mkF m 29 #[.val (.int p0), .val (.int ((p0 &&& (2147483647 : Int32)) % (11 : Int32))), .val (.ref (own_f1 ((p0 &&& (2147483647 : Int32)) % (11 : Int32)) wMUL wUMULH wSMULH wADDSHIFT wSUB wXOR wADDCONST wXORCONST wROTATE wTARGET wBRANCH)), .val (.int (0 : Int32))] [(.int (0 : Int32)), (.int (own_f2 (own_f1 ((p0 &&& (2147483647 : Int32)) % (11 : Int32)) wMUL wUMULH wSMULH wADDSHIFT wSUB wXOR wADDCONST wXORCONST wROTATE wTARGET wBRANCH) wMUL wUMULH wSMULH))])) t
      refine XS.icmpNo X7.here hx rfl (hb hby at_29) rfl (teq hc8).2 ?_
      show Steps p.tables e below (T7.setTop (mkF m 32 #[.val (.int p0), .val (.int ((p0 &&& (2147483647 : Int32)) % (11 : Int32))), .val (.ref (own_f1 ((p0 &&& (2147483647 : Int32)) % (11 : Int32)) wMUL wUMULH wSMULH wADDSHIFT wSUB wXOR wADDCONST wXORCONST wROTATE wTARGET wBRANCH)), .val (.int (0 : Int32))] [])) t
      refine XS.iconst X7.here hx rfl (hb hby at_32) ?_
      show Steps p.tables e below (T7.setTop (mkF m 33 #[.val (.int p0), .val (.int ((p0 &&& (2147483647 : Int32)) % (11 : Int32))), .val (.ref (own_f1 ((p0 &&& (2147483647 : Int32)) % (11 : Int32)) wMUL wUMULH wSMULH wADDSHIFT wSUB wXOR wADDCONST wXORCONST wROTATE wTARGET wBRANCH)), .val (.int (0 : Int32))] [(.int (1 : Int32))])) t
      refine XS.goto X7.here hx rfl (pc0 := 33) (pc' := 37) rfl (hb hby at_33) (by decide) (by decide) ?_
      exact k
    obtain ⟨fs, hr, hrun, hended, hW, hsame⟩ := X7.leave (v := some (.int (nar .boolean (1 : Int32)))) (fun h => by rw [Bd.returns] at h; cases h) hlk
    refine ⟨_, _, ?_, hrun, hended, _, _, rfl, ?_, ⟨_, rfl⟩, hW, hsame.mono (by decide) (by decide)⟩
    · show Steps p.tables e below (T7.setTop (mkF m 37 #[.val (.int p0), .val (.int ((p0 &&& (2147483647 : Int32)) % (11 : Int32))), .val (.ref (own_f1 ((p0 &&& (2147483647 : Int32)) % (11 : Int32)) wMUL wUMULH wSMULH wADDSHIFT wSUB wXOR wADDCONST wXORCONST wROTATE wTARGET wBRANCH)), .val (.int (0 : Int32))] [(.int (1 : Int32))])) _
      exact retN X7 hx (t := .boolean) Bd.returns (by simp) (hb hby at_37) hr
    · show Qrm0 Z p0 wMUL wUMULH wSMULH wADDSHIFT wSUB wXOR wADDCONST wXORCONST wROTATE wTARGET wBRANCH h0 n0 _ (T7.setFrames fs).heap _
      rw [show (T7.setFrames fs).heap = h0 from eq7]
      exact ⟨rfl, N7⟩
set_option maxRecDepth 65536 in
set_option maxHeartbeats 40000000 in
theorem comes_1 {Post : Tables → Env → Array Value → State → Outcome → State → Prop} (hpost : ∀ tb e args s v u, (limb_1_1.after args s (.returned v) u = true ∧ limb_1_2.after args s (.returned v) u = true ∧ True) → FrameEnd s (.returned v) u (Jvm.fieldLocs frame_1_writes args s ++ Jvm.arrayLocs frame_1_arrays args s ++ Jvm.staticLocs frame_1_statics s) 0 0 → Post tb e args s (.returned v) u) :
    ArmFor flags0 classFile x code maxLocals ret World_1 tables_1 room_1 Calls_1 rest_1 Pre_1 Post := by
  intro l hfl _ _ p e ha hc hk s m args below hf hA hF happ hP
  obtain ⟨hcalls, hrest, hpre⟩ := hP
  obtain ⟨-, -, -, hnamed, -, -, -, hat⟩ := (Spec.applies_iff hf).mp happ
  obtain ⟨hg, hn⟩ := and_e (Cond.before_iff.mp (show (Jvm.Cond.and given_1 narrow_1).before args s = true from hpre))
  obtain ⟨gg1, gg2⟩ := and_e hg
  obtain ⟨w0, rfl⟩ : ∃ w0 : Value, args = #[w0] := by
    have hs : args.size = 1 := by simpa [Cond.value, given_1] using gg1
    obtain ⟨L⟩ := args
    match L, hs with
    | [w0], _ => exact ⟨w0, rfl⟩
  have hw := fun d (hd : d ∈ tables_1) => atoms_spec (ws := Jvm.Cond.code x code maxLocals ret :: tables_1) hat d (List.mem_cons_of_mem _ hd)
  have hfit : Fit s := fun {y c} hc i hi => by
    obtain ⟨ha, rfl⟩ := Array.getElem?_eq_some_iff.mp hc
    have q := List.all_eq_true.mp ((Array.all_eq_true_iff_forall_mem.mp hF) _ (Array.getElem_mem ha)) i (List.mem_range.mpr hi)
    simpa [Array.getElem?_eq_getElem hi] using q
  obtain ⟨i0, ei0⟩ := is_v gg2
  obtain rfl : w0 = (.int i0) := Option.some.inj ei0
  obtain ⟨nn1, nn2⟩ := and_e hn
  obtain ⟨nn3, nn4⟩ := and_e nn2
  obtain ⟨nn5, nn6⟩ := and_e nn4
  obtain ⟨nn7, nn8⟩ := and_e nn6
  obtain ⟨nn9, nn10⟩ := and_e nn8
  obtain ⟨nn11, nn12⟩ := and_e nn10
  obtain ⟨nn13, nn14⟩ := and_e nn12
  obtain ⟨nn15, nn16⟩ := and_e nn14
  obtain ⟨nn17, nn18⟩ := and_e nn16
  obtain ⟨nn19, nn20⟩ := and_e nn18
  obtain ⟨nn21, nn22⟩ := and_e nn20
  obtain ⟨nn23, nn24⟩ := and_e nn22
  obtain ⟨nn25, nn26⟩ := and_e nn24
  obtain ⟨nn27, nn28⟩ := and_e nn26
  obtain ⟨nn29, nn30⟩ := and_e nn28
  obtain ⟨nn31, nn32⟩ := and_e nn30
  obtain ⟨nn33, nn34⟩ := and_e nn32
  obtain ⟨nn35, nn36⟩ := and_e nn34
  obtain ⟨nn37, nn38⟩ := and_e nn36
  obtain ⟨nn39, nn40⟩ := and_e nn38
  obtain ⟨nn41, nn42⟩ := and_e nn40
  obtain ⟨wMUL, evMUL⟩ := exa_v nn1
  have S_MUL : Sta s s.heap "com/example/fend/fend/puzzle/hashx/Opcode" "MUL" "Lcom/example/fend/fend/puzzle/hashx/Opcode;" (.ref wMUL) := Sta.start evMUL (Or.inr ⟨(hw _ (List.mem_of_getElem? (i := 6) rfl)), (hw _ (List.mem_of_getElem? (i := 7) rfl))⟩)
  have F_MUL := own_fldI evMUL nn7
  have E_MUL := Exa.start evMUL nn1
  obtain ⟨wUMULH, evUMULH⟩ := exa_v nn9
  have S_UMULH : Sta s s.heap "com/example/fend/fend/puzzle/hashx/Opcode" "UMULH" "Lcom/example/fend/fend/puzzle/hashx/Opcode;" (.ref wUMULH) := Sta.start evUMULH (Or.inr ⟨(hw _ (List.mem_of_getElem? (i := 6) rfl)), (hw _ (List.mem_of_getElem? (i := 17) rfl))⟩)
  have F_UMULH := own_fldI evUMULH nn11
  have E_UMULH := Exa.start evUMULH nn9
  obtain ⟨wSMULH, evSMULH⟩ := exa_v nn13
  have S_SMULH : Sta s s.heap "com/example/fend/fend/puzzle/hashx/Opcode" "SMULH" "Lcom/example/fend/fend/puzzle/hashx/Opcode;" (.ref wSMULH) := Sta.start evSMULH (Or.inr ⟨(hw _ (List.mem_of_getElem? (i := 6) rfl)), (hw _ (List.mem_of_getElem? (i := 19) rfl))⟩)
  have F_SMULH := own_fldI evSMULH nn15
  have E_SMULH := Exa.start evSMULH nn13
  obtain ⟨wADDSHIFT, evADDSHIFT⟩ := exa_v nn3
  have S_ADDSHIFT : Sta s s.heap "com/example/fend/fend/puzzle/hashx/Opcode" "ADDSHIFT" "Lcom/example/fend/fend/puzzle/hashx/Opcode;" (.ref wADDSHIFT) := Sta.start evADDSHIFT (Or.inr ⟨(hw _ (List.mem_of_getElem? (i := 6) rfl)), (hw _ (List.mem_of_getElem? (i := 15) rfl))⟩)
  have F_ADDSHIFT := own_fldI evADDSHIFT nn5
  have E_ADDSHIFT := Exa.start evADDSHIFT nn3
  obtain ⟨wSUB, evSUB⟩ := exa_v nn41
  have S_SUB : Sta s s.heap "com/example/fend/fend/puzzle/hashx/Opcode" "SUB" "Lcom/example/fend/fend/puzzle/hashx/Opcode;" (.ref wSUB) := Sta.start evSUB (Or.inr ⟨(hw _ (List.mem_of_getElem? (i := 6) rfl)), (hw _ (List.mem_of_getElem? (i := 35) rfl))⟩)
  have F_SUB := own_fldI evSUB nn42
  have E_SUB := Exa.start evSUB nn41
  obtain ⟨wXOR, evXOR⟩ := exa_v nn33
  have S_XOR : Sta s s.heap "com/example/fend/fend/puzzle/hashx/Opcode" "XOR" "Lcom/example/fend/fend/puzzle/hashx/Opcode;" (.ref wXOR) := Sta.start evXOR (Or.inr ⟨(hw _ (List.mem_of_getElem? (i := 6) rfl)), (hw _ (List.mem_of_getElem? (i := 31) rfl))⟩)
  have F_XOR := own_fldI evXOR nn35
  have E_XOR := Exa.start evXOR nn33
  obtain ⟨wADDCONST, evADDCONST⟩ := exa_v nn37
  have S_ADDCONST : Sta s s.heap "com/example/fend/fend/puzzle/hashx/Opcode" "ADDCONST" "Lcom/example/fend/fend/puzzle/hashx/Opcode;" (.ref wADDCONST) := Sta.start evADDCONST (Or.inr ⟨(hw _ (List.mem_of_getElem? (i := 6) rfl)), (hw _ (List.mem_of_getElem? (i := 33) rfl))⟩)
  have F_ADDCONST := own_fldI evADDCONST nn39
  have E_ADDCONST := Exa.start evADDCONST nn37
  obtain ⟨wXORCONST, evXORCONST⟩ := exa_v nn17
  have S_XORCONST : Sta s s.heap "com/example/fend/fend/puzzle/hashx/Opcode" "XORCONST" "Lcom/example/fend/fend/puzzle/hashx/Opcode;" (.ref wXORCONST) := Sta.start evXORCONST (Or.inr ⟨(hw _ (List.mem_of_getElem? (i := 6) rfl)), (hw _ (List.mem_of_getElem? (i := 21) rfl))⟩)
  have F_XORCONST := own_fldI evXORCONST nn19
  have E_XORCONST := Exa.start evXORCONST nn17
  obtain ⟨wROTATE, evROTATE⟩ := exa_v nn21
  have S_ROTATE : Sta s s.heap "com/example/fend/fend/puzzle/hashx/Opcode" "ROTATE" "Lcom/example/fend/fend/puzzle/hashx/Opcode;" (.ref wROTATE) := Sta.start evROTATE (Or.inr ⟨(hw _ (List.mem_of_getElem? (i := 6) rfl)), (hw _ (List.mem_of_getElem? (i := 23) rfl))⟩)
  have F_ROTATE := own_fldI evROTATE nn23
  have E_ROTATE := Exa.start evROTATE nn21
  obtain ⟨wTARGET, evTARGET⟩ := exa_v nn29
  have S_TARGET : Sta s s.heap "com/example/fend/fend/puzzle/hashx/Opcode" "TARGET" "Lcom/example/fend/fend/puzzle/hashx/Opcode;" (.ref wTARGET) := Sta.start evTARGET (Or.inr ⟨(hw _ (List.mem_of_getElem? (i := 6) rfl)), (hw _ (List.mem_of_getElem? (i := 29) rfl))⟩)
  have F_TARGET := own_fldI evTARGET nn31
  have E_TARGET := Exa.start evTARGET nn29
  obtain ⟨wBRANCH, evBRANCH⟩ := exa_v nn25
  have S_BRANCH : Sta s s.heap "com/example/fend/fend/puzzle/hashx/Opcode" "BRANCH" "Lcom/example/fend/fend/puzzle/hashx/Opcode;" (.ref wBRANCH) := Sta.start evBRANCH (Or.inr ⟨(hw _ (List.mem_of_getElem? (i := 6) rfl)), (hw _ (List.mem_of_getElem? (i := 26) rfl))⟩)
  have F_BRANCH := own_fldI evBRANCH nn27
  have E_BRANCH := Exa.start evBRANCH nn25
  obtain ⟨n, o, h1, h2, h3, _, L, rfl, ⟨rfl, N⟩, hq⟩ := rm0 l s _ hw tables_1 i0 wMUL wUMULH wSMULH wADDSHIFT wSUB wXOR wADDCONST wXORCONST wROTATE wTARGET wBRANCH s.heap s.heap.size (Nat.le_refl _) S_MUL S_UMULH S_SMULH S_ADDSHIFT S_SUB S_XOR S_ADDCONST S_XORCONST S_ROTATE S_TARGET S_BRANCH (fun i => own_pick (P := fun z => Exa s s.heap z "com/example/fend/fend/puzzle/hashx/Opcode") i wMUL wUMULH wSMULH wADDSHIFT wSUB wXOR wADDCONST wXORCONST wROTATE wTARGET wBRANCH E_MUL E_UMULH E_SMULH E_ADDSHIFT E_SUB E_XOR E_ADDCONST E_XORCONST E_ROTATE E_TARGET E_BRANCH) (own_law wMUL wUMULH wSMULH wADDSHIFT wSUB wXOR wADDCONST wXORCONST wROTATE wTARGET wBRANCH (F_ADDSHIFT.ne F_MUL (by decide)) (F_ADDSHIFT.ne F_UMULH (by decide)) (F_ADDSHIFT.ne F_SMULH (by decide)) (F_SUB.ne F_MUL (by decide)) (F_SUB.ne F_UMULH (by decide)) (F_SUB.ne F_SMULH (by decide)) (F_XOR.ne F_MUL (by decide)) (F_XOR.ne F_UMULH (by decide)) (F_XOR.ne F_SMULH (by decide)) (F_ADDCONST.ne F_MUL (by decide)) (F_ADDCONST.ne F_UMULH (by decide)) (F_ADDCONST.ne F_SMULH (by decide)) (F_XORCONST.ne F_MUL (by decide)) (F_XORCONST.ne F_UMULH (by decide)) (F_XORCONST.ne F_SMULH (by decide)) (F_ROTATE.ne F_MUL (by decide)) (F_ROTATE.ne F_UMULH (by decide)) (F_ROTATE.ne F_SMULH (by decide)) (F_TARGET.ne F_MUL (by decide)) (F_TARGET.ne F_UMULH (by decide)) (F_TARGET.ne F_SMULH (by decide)) (F_BRANCH.ne F_MUL (by decide)) (F_BRANCH.ne F_UMULH (by decide)) (F_BRANCH.ne F_SMULH (by decide))) p e ha hc hk s m _ below hf ((Spec.applies_iff_loose hf).mp happ).1 ⟨rfl, State.Warmed39.refl s, rfl⟩ trivial
  refine ⟨n, _, h1, h2, h3, hpost _ _ _ _ _ _ ⟨Cond.after_iff.mpr rfl, Cond.after_iff.mpr (eq_i res_at (Term.int_eval (1)) rfl), trivial⟩ ⟨hq.1, hq.2.1, (hq.2.2.sift fun y hy => Or.inr (N y hy)).mono (by decide) (by decide)⟩⟩
theorem main_1_1 : Claimed_1_1 := comes_1 fun _ _ _ _ _ _ h hF => ⟨h.1, hF⟩
theorem main_1_2 : Claimed_1_2 := comes_1 fun _ _ _ _ _ _ h hF => ⟨h.2.1, hF⟩
end Jvm.Pilot.@@N@@
namespace Jvm.Pilot.@@N@@
open Jvm Jvm.ClassFile Sem Op Lib Jvm.Free Jvm.Stand Jvm.Pilot.@@N@@.Jvm.D
/-! MADE BY PROGRAM (witnessworld.py) out of the Statement's table words and the real class files: 12 classes; the members and pool entries that the words name. The judged class is class 1, her method 2. -/
namespace start1
open Jvm.ClassFile
def u (s : String) : CpInfo := .utf8 (stringToUtf16 s)
/-- a pool by its gaps: so many unusable entries, then the entry; so many at the end -/
def gap : Nat → List CpInfo → List CpInfo
  | 0, r => r
  | n + 1, r => .unusable :: gap n r
def poolList (es : List (Nat × CpInfo)) (last : Nat) : List CpInfo := es.foldr (fun e r => gap e.1 (e.2 :: r)) (gap last [])
def pool (es : List (Nat × CpInfo)) (last : Nat) : Array CpInfo := ⟨poolList es last⟩
def fileOf (pool : Array CpInfo) (this : Nat) (attrs : Array Attribute := #[]) (ms : Array MethodInfo := #[]) (fl : Nat := 33) (sup : Nat := 0) (ifs : Array Nat := #[]) (fds : Array FieldInfo := #[]) : ClassFile where
  minorVersion := 0
  majorVersion := 65
  constantPool := pool
  accessFlags := fl
  thisClass := this
  superClass := sup
  interfaces := ifs
  fields := fds
  methods := ms
  attributes := attrs
def plain (name : String) (sup : Option ClassId) : Class where
  name := name
  kind := .ordinary
  loader := none
  accessFlags := 33
  super := sup
  interfaces := #[]
  cf := none
  fields := #[]
  methods := #[]
  instanceTypes := #[]
  staticTypes := #[]
  resolved := #[]
  callSites := []
  init := .initialized
  statics := none
  mirror := none

def pool0 : Array CpInfo := pool [(5, u "<init>"), (0, u "()V"), (1, .class_ 10), (1, u "java/lang/Object")] 113

def k0m0 : Method := { name := "<init>", desc := "()V", sig := { parameters := [], returnType := none }, accessFlags := 1, code := none }
/-- java/lang/Object -/
def k0 : Class := { plain "java/lang/Object" none with
  accessFlags := 33
  interfaces := #[]
  cf := some (fileOf pool0 8 #[] #[{ accessFlags := 1, nameIndex := 5, descriptorIndex := 6, attributes := #[] }] 33 0 #[] #[])
  fields := #[]
  methods := #[k0m0]
  instanceTypes := #[]
  staticTypes := #[]
  resolved := Array.replicate 124 none
  statics := none }

def pool1 : Array CpInfo := pool [(2, .class_ 4), (1, u "java/lang/Object"), (0, u "<init>"), (0, u "()V"), (0, .fieldref 8 9), (0, .class_ 10), (0, .nameAndType 11 12), (0, u "com/example/fend/fend/puzzle/hashx/Opcode"), (0, u "MUL"), (0, u "Lcom/example/fend/fend/puzzle/hashx/Opcode;"), (0, .fieldref 8 14), (0, .nameAndType 15 12), (0, u "UMULH"), (0, .fieldref 8 17), (0, .nameAndType 18 12), (0, u "SMULH"), (0, .fieldref 8 20), (0, .nameAndType 21 12), (0, u "ADDSHIFT"), (0, .fieldref 8 23), (0, .nameAndType 24 12), (0, u "SUB"), (0, .fieldref 8 26), (0, .nameAndType 27 12), (0, u "XOR"), (0, .fieldref 8 29), (0, .nameAndType 30 12), (0, u "ADDCONST"), (0, .fieldref 8 32), (0, .nameAndType 33 12), (0, u "XORCONST"), (0, .fieldref 8 35), (0, .nameAndType 36 12), (0, u "ROTATE"), (0, .fieldref 8 38), (0, .nameAndType 39 12), (0, u "TARGET"), (0, .fieldref 8 41), (0, .nameAndType 42 12), (0, u "BRANCH"), (0, .integer 2147483647), (0, .methodref 45 46), (0, .class_ 47), (0, .nameAndType 48 49), (0, u "com/example/fend/fend/puzzle/hashx/OpcodeIsMultiplyPinLaw"), (0, u "pick"), (0, u "(I)Lcom/example/fend/fend/puzzle/hashx/Opcode;"), (0, .methodref 8 51), (0, .nameAndType 52 53), (0, u "isMultiply"), (0, u "()Z"), (3, u "law"), (0, u "(I)Z")] 2

def k1m0 : Method := { name := "<init>", desc := "()V", sig := { parameters := [], returnType := none }, accessFlags := 1, code := none }
def k1c1 : Code := { maxStack := 2, maxLocals := 1, code := method_2_code, exceptionTable := #[], attributes := #[] }
def k1m1 : Method := { name := "pick", desc := "(I)Lcom/example/fend/fend/puzzle/hashx/Opcode;", sig := { parameters := [.int], returnType := some (.object "com/example/fend/fend/puzzle/hashx/Opcode") }, accessFlags := 10, code := some k1c1 }
def k1c2 : Code := { maxStack := 2, maxLocals := 4, code := code, exceptionTable := #[], attributes := #[] }
def k1m2 : Method := { name := "law", desc := "(I)Z", sig := { parameters := [.int], returnType := some .boolean }, accessFlags := 9, code := some k1c2 }
/-- com/example/fend/fend/puzzle/hashx/OpcodeIsMultiplyPinLaw -/
def k1 : Class := { plain "com/example/fend/fend/puzzle/hashx/OpcodeIsMultiplyPinLaw" (some 0) with
  accessFlags := 49
  interfaces := #[]
  cf := some (fileOf pool1 45 #[] #[{ accessFlags := 1, nameIndex := 5, descriptorIndex := 6, attributes := #[] }, { accessFlags := 10, nameIndex := 48, descriptorIndex := 49, attributes := #[] }, { accessFlags := 9, nameIndex := 57, descriptorIndex := 58, attributes := #[] }] 49 2 #[] #[])
  fields := #[]
  methods := #[k1m0, k1m1, k1m2]
  instanceTypes := #[]
  staticTypes := #[]
  resolved := Array.replicate 61 none
  statics := none }

def pool2 : Array CpInfo := pool [(1, .class_ 2), (0, u "java/lang/constant/Constable"), (0, .class_ 4), (0, u "java/lang/Object")] 6

/-- java/lang/constant/Constable -/
def k2 : Class := { plain "java/lang/constant/Constable" (some 0) with
  accessFlags := 1537
  interfaces := #[]
  cf := some (fileOf pool2 1 #[] #[] 1537 3 #[] #[])
  fields := #[]
  methods := #[]
  instanceTypes := #[]
  staticTypes := #[]
  resolved := Array.replicate 11 none
  statics := none }

def pool3 : Array CpInfo := pool [(1, .class_ 2), (0, u "java/lang/Comparable"), (0, .class_ 4), (0, u "java/lang/Object")] 7

/-- java/lang/Comparable -/
def k3 : Class := { plain "java/lang/Comparable" (some 0) with
  accessFlags := 1537
  interfaces := #[]
  cf := some (fileOf pool3 1 #[] #[] 1537 3 #[] #[])
  fields := #[]
  methods := #[]
  instanceTypes := #[]
  staticTypes := #[]
  resolved := Array.replicate 12 none
  statics := none }

def pool4 : Array CpInfo := pool [(1, .class_ 2), (0, u "java/io/Serializable"), (0, .class_ 4), (0, u "java/lang/Object")] 2

/-- java/io/Serializable -/
def k4 : Class := { plain "java/io/Serializable" (some 0) with
  accessFlags := 1537
  interfaces := #[]
  cf := some (fileOf pool4 1 #[] #[] 1537 3 #[] #[])
  fields := #[]
  methods := #[]
  instanceTypes := #[]
  staticTypes := #[]
  resolved := Array.replicate 7 none
  statics := none }

def pool5 : Array CpInfo := pool [(2, .class_ 4), (1, u "java/lang/Enum"), (0, u "name"), (0, u "Ljava/lang/String;"), (2, u "ordinal"), (0, u "I"), (1, .class_ 14), (1, u "java/lang/Object"), (4, u "hash"), (86, .class_ 108), (1, u "java/lang/Enum$EnumDesc"), (2, .class_ 112), (0, u "java/lang/constant/Constable"), (0, .class_ 114), (0, u "java/lang/Comparable"), (0, .class_ 116), (0, u "java/io/Serializable")] 87

/-- java/lang/Enum -/
def k5 : Class := { plain "java/lang/Enum" (some 0) with
  accessFlags := 1057
  interfaces := #[2, 3, 4]
  cf := some (fileOf pool5 2 #[.nestMembers #[106]] #[] 1057 12 #[111, 113, 115] #[{ accessFlags := 18, nameIndex := 5, descriptorIndex := 6, attributes := #[] }, { accessFlags := 18, nameIndex := 9, descriptorIndex := 10, attributes := #[] }, { accessFlags := 2, nameIndex := 19, descriptorIndex := 10, attributes := #[] }])
  fields := #[{ name := "name", type := (.object "java/lang/String"), accessFlags := 18, slot := 0, constantValue := 0 }, { name := "ordinal", type := .int, accessFlags := 18, slot := 1, constantValue := 0 }, { name := "hash", type := .int, accessFlags := 2, slot := 2, constantValue := 0 }]
  methods := #[]
  instanceTypes := #[(.object "java/lang/String"), .int, .int]
  staticTypes := #[]
  resolved := Array.replicate 204 none
  statics := none }

def pool6 : Array CpInfo := pool [(1, .class_ 2), (0, u "com/example/fend/fend/puzzle/hashx/Opcode"), (0, .fieldref 1 4), (0, .nameAndType 5 6), (0, u "MUL"), (0, u "Lcom/example/fend/fend/puzzle/hashx/Opcode;"), (0, .fieldref 1 8), (0, .nameAndType 9 6), (0, u "UMULH"), (0, .fieldref 1 11), (0, .nameAndType 12 6), (0, u "SMULH"), (2, u "ADDSHIFT"), (2, u "SUB"), (2, u "XOR"), (2, u "ADDCONST"), (2, u "XORCONST"), (2, u "ROTATE"), (2, u "TARGET"), (2, u "BRANCH"), (2, u "$VALUES"), (0, u "[Lcom/example/fend/fend/puzzle/hashx/Opcode;"), (6, .class_ 49), (1, u "java/lang/Enum"), (8, u "latency"), (0, u "I"), (2, u "writerKind"), (2, u "microOps"), (1, .class_ 69), (1, u "com/example/fend/fend/puzzle/hashx/Opcode$Source"), (4, u "hasSource"), (0, u "Z"), (5, u "sourceBar"), (1, .class_ 85), (1, u "com/example/fend/fend/puzzle/hashx/Opcode$Operand"), (1, u "Lcom/example/fend/fend/puzzle/hashx/Opcode$Operand;"), (4, u "operandInTag"), (0, u "J"), (2, u "sourceInTag"), (2, u "operand"), (2, u "isMultiply"), (0, u "()Z")] 66

def k6c0 : Code := { maxStack := 2, maxLocals := 1, code := prog_30_method_9_code, exceptionTable := #[], attributes := #[] }
def k6m0 : Method := { name := "isMultiply", desc := "()Z", sig := { parameters := [], returnType := some .boolean }, accessFlags := 0, code := some k6c0 }
/-- com/example/fend/fend/puzzle/hashx/Opcode -/
def k6 : Class := { plain "com/example/fend/fend/puzzle/hashx/Opcode" (some 5) with
  accessFlags := 16432
  interfaces := #[]
  cf := some (fileOf pool6 1 #[.nestMembers #[83, 67]] #[{ accessFlags := 0, nameIndex := 102, descriptorIndex := 103, attributes := #[] }] 16432 47 #[] #[{ accessFlags := 16409, nameIndex := 5, descriptorIndex := 6, attributes := #[] }, { accessFlags := 16409, nameIndex := 9, descriptorIndex := 6, attributes := #[] }, { accessFlags := 16409, nameIndex := 12, descriptorIndex := 6, attributes := #[] }, { accessFlags := 16409, nameIndex := 15, descriptorIndex := 6, attributes := #[] }, { accessFlags := 16409, nameIndex := 18, descriptorIndex := 6, attributes := #[] }, { accessFlags := 16409, nameIndex := 21, descriptorIndex := 6, attributes := #[] }, { accessFlags := 16409, nameIndex := 24, descriptorIndex := 6, attributes := #[] }, { accessFlags := 16409, nameIndex := 27, descriptorIndex := 6, attributes := #[] }, { accessFlags := 16409, nameIndex := 30, descriptorIndex := 6, attributes := #[] }, { accessFlags := 16409, nameIndex := 33, descriptorIndex := 6, attributes := #[] }, { accessFlags := 16409, nameIndex := 36, descriptorIndex := 6, attributes := #[] }, { accessFlags := 18, nameIndex := 58, descriptorIndex := 59, attributes := #[] }, { accessFlags := 18, nameIndex := 62, descriptorIndex := 59, attributes := #[] }, { accessFlags := 18, nameIndex := 65, descriptorIndex := 59, attributes := #[] }, { accessFlags := 18, nameIndex := 74, descriptorIndex := 75, attributes := #[] }, { accessFlags := 18, nameIndex := 81, descriptorIndex := 59, attributes := #[] }, { accessFlags := 18, nameIndex := 92, descriptorIndex := 93, attributes := #[] }, { accessFlags := 18, nameIndex := 96, descriptorIndex := 59, attributes := #[] }, { accessFlags := 18, nameIndex := 99, descriptorIndex := 87, attributes := #[] }, { accessFlags := 4122, nameIndex := 39, descriptorIndex := 40, attributes := #[] }])
  fields := #[{ name := "MUL", type := (.object "com/example/fend/fend/puzzle/hashx/Opcode"), accessFlags := 16409, slot := 0, constantValue := 0 }, { name := "UMULH", type := (.object "com/example/fend/fend/puzzle/hashx/Opcode"), accessFlags := 16409, slot := 1, constantValue := 0 }, { name := "SMULH", type := (.object "com/example/fend/fend/puzzle/hashx/Opcode"), accessFlags := 16409, slot := 2, constantValue := 0 }, { name := "ADDSHIFT", type := (.object "com/example/fend/fend/puzzle/hashx/Opcode"), accessFlags := 16409, slot := 3, constantValue := 0 }, { name := "SUB", type := (.object "com/example/fend/fend/puzzle/hashx/Opcode"), accessFlags := 16409, slot := 4, constantValue := 0 }, { name := "XOR", type := (.object "com/example/fend/fend/puzzle/hashx/Opcode"), accessFlags := 16409, slot := 5, constantValue := 0 }, { name := "ADDCONST", type := (.object "com/example/fend/fend/puzzle/hashx/Opcode"), accessFlags := 16409, slot := 6, constantValue := 0 }, { name := "XORCONST", type := (.object "com/example/fend/fend/puzzle/hashx/Opcode"), accessFlags := 16409, slot := 7, constantValue := 0 }, { name := "ROTATE", type := (.object "com/example/fend/fend/puzzle/hashx/Opcode"), accessFlags := 16409, slot := 8, constantValue := 0 }, { name := "TARGET", type := (.object "com/example/fend/fend/puzzle/hashx/Opcode"), accessFlags := 16409, slot := 9, constantValue := 0 }, { name := "BRANCH", type := (.object "com/example/fend/fend/puzzle/hashx/Opcode"), accessFlags := 16409, slot := 10, constantValue := 0 }, { name := "latency", type := .int, accessFlags := 18, slot := 3, constantValue := 0 }, { name := "writerKind", type := .int, accessFlags := 18, slot := 4, constantValue := 0 }, { name := "microOps", type := .int, accessFlags := 18, slot := 5, constantValue := 0 }, { name := "hasSource", type := .boolean, accessFlags := 18, slot := 6, constantValue := 0 }, { name := "sourceBar", type := .int, accessFlags := 18, slot := 7, constantValue := 0 }, { name := "operandInTag", type := .long, accessFlags := 18, slot := 8, constantValue := 0 }, { name := "sourceInTag", type := .int, accessFlags := 18, slot := 9, constantValue := 0 }, { name := "operand", type := (.object "com/example/fend/fend/puzzle/hashx/Opcode$Operand"), accessFlags := 18, slot := 10, constantValue := 0 }, { name := "$VALUES", type := (.array (.object "com/example/fend/fend/puzzle/hashx/Opcode")), accessFlags := 4122, slot := 11, constantValue := 0 }]
  methods := #[k6m0]
  instanceTypes := #[(.object "java/lang/String"), .int, .int, .int, .int, .int, .boolean, .int, .long, .int, (.object "com/example/fend/fend/puzzle/hashx/Opcode$Operand")]
  staticTypes := #[(.object "com/example/fend/fend/puzzle/hashx/Opcode"), (.object "com/example/fend/fend/puzzle/hashx/Opcode"), (.object "com/example/fend/fend/puzzle/hashx/Opcode"), (.object "com/example/fend/fend/puzzle/hashx/Opcode"), (.object "com/example/fend/fend/puzzle/hashx/Opcode"), (.object "com/example/fend/fend/puzzle/hashx/Opcode"), (.object "com/example/fend/fend/puzzle/hashx/Opcode"), (.object "com/example/fend/fend/puzzle/hashx/Opcode"), (.object "com/example/fend/fend/puzzle/hashx/Opcode"), (.object "com/example/fend/fend/puzzle/hashx/Opcode"), (.object "com/example/fend/fend/puzzle/hashx/Opcode"), (.array (.object "com/example/fend/fend/puzzle/hashx/Opcode"))]
  resolved := Array.replicate 170 none
  statics := some 0 }

def pool7 : Array CpInfo := pool [(1, u "java/lang/Cloneable"), (0, .class_ 1), (0, u "java/lang/Object"), (0, .class_ 3)] 3

/-- java/lang/Cloneable -/
def k7 : Class := { plain "java/lang/Cloneable" (some 0) with
  accessFlags := 1537
  interfaces := #[]
  cf := some (fileOf pool7 2 #[] #[] 1537 4 #[] #[])
  fields := #[]
  methods := #[]
  instanceTypes := #[]
  staticTypes := #[]
  resolved := Array.replicate 8 none
  statics := none }

/-- the primitive byte -/
def k8 : Class := { plain "byte" none with kind := .primitive 'B', accessFlags := 0x411 }
/-- [B -/
def k9 : Class := { plain "[B" (some 0) with kind := .array 8 .byte, interfaces := #[7, 4], accessFlags := 1041 }

/-- the primitive int -/
def k10 : Class := { plain "int" none with kind := .primitive 'I', accessFlags := 0x411 }
/-- [I -/
def k11 : Class := { plain "[I" (some 0) with kind := .array 10 .int, interfaces := #[7, 4], accessFlags := 1041 }

def heap : Heap := #[{ cls := 6, slots := #[.ref 1, .ref 3, .ref 4, .ref 2, .ref 11, .ref 9, .ref 10, .ref 5, .ref 6, .ref 8, .ref 7, .null], vm := .statics 6 },
  { cls := 6, slots := #[.null, .int 0, .int 0, .int 0, .int 0, .int 0, .int 0, .int 0, .long 0, .int 0, .null], vm := .none },
  { cls := 6, slots := #[.null, .int 3, .int 0, .int 0, .int 0, .int 0, .int 0, .int 0, .long 0, .int 0, .null], vm := .none },
  { cls := 6, slots := #[.null, .int 1, .int 0, .int 0, .int 0, .int 0, .int 0, .int 0, .long 0, .int 0, .null], vm := .none },
  { cls := 6, slots := #[.null, .int 2, .int 0, .int 0, .int 0, .int 0, .int 0, .int 0, .long 0, .int 0, .null], vm := .none },
  { cls := 6, slots := #[.null, .int 7, .int 0, .int 0, .int 0, .int 0, .int 0, .int 0, .long 0, .int 0, .null], vm := .none },
  { cls := 6, slots := #[.null, .int 8, .int 0, .int 0, .int 0, .int 0, .int 0, .int 0, .long 0, .int 0, .null], vm := .none },
  { cls := 6, slots := #[.null, .int 10, .int 0, .int 0, .int 0, .int 0, .int 0, .int 0, .long 0, .int 0, .null], vm := .none },
  { cls := 6, slots := #[.null, .int 9, .int 0, .int 0, .int 0, .int 0, .int 0, .int 0, .long 0, .int 0, .null], vm := .none },
  { cls := 6, slots := #[.null, .int 5, .int 0, .int 0, .int 0, .int 0, .int 0, .int 0, .long 0, .int 0, .null], vm := .none },
  { cls := 6, slots := #[.null, .int 6, .int 0, .int 0, .int 0, .int 0, .int 0, .int 0, .long 0, .int 0, .null], vm := .none },
  { cls := 6, slots := #[.null, .int 4, .int 0, .int 0, .int 0, .int 0, .int 0, .int 0, .long 0, .int 0, .null], vm := .none }]
def classes : Array Class := #[k0, k1, k2, k3, k4, k5, k6, k7, k8, k9, k10, k11]
def interned : List (Array UInt16 × Addr) := []
def slotsUsed : Nat := 133
def theMethod : MethodId := ⟨1, 2⟩
def args0 : Array Value := #[.int 3]
def aboutOver (below : List Frame) : State where
  vm := { classes := classes, interned := interned.toArray }
  heap := heap
  slotsUsed := slotsUsed
  threads := #[{ frames := .invoking theMethod args0 :: below }]
def below0 : List Frame := [.native { method := ⟨0, 0⟩, args := #[] }]
def about1 : State := aboutOver below0
def p0 : Program := .bare "" "" ""
def e0 : Env := launch0.env 0 0 0
theorem w_frames : about1.frames = Frame.invoking theMethod args0 :: below0 := rfl
set_option maxRecDepth 65536 in
theorem w_args : argsFit about1.vm theMethod args0 = true := by decide +kernel
set_option maxRecDepth 65536 in
theorem w_heap : heapFits about1 = true := by decide +kernel
set_option maxRecDepth 65536 in
theorem w_runnable : about1.curStatus? = some .runnable := by decide +kernel
set_option maxRecDepth 65536 in
theorem w_alone : about1.alone = true := by decide +kernel
set_option maxRecDepth 65536 in
theorem w_named : about1.methodNamed? x = some theMethod := by decide +kernel
set_option maxRecDepth 65536 in
theorem w_hears : about1.hears theMethod below0 = true := by decide +kernel
set_option maxRecDepth 65536 in
theorem w_ripe : about1.ripe theMethod args0 below0 = true := by decide +kernel
theorem w_running : about1.status = .running := rfl
set_option maxRecDepth 65536 in
theorem w_room : about1.hasRoom e0.platform room_1 = true :=
  launch0.hasRoom_least _ room_1 (by decide +kernel) (by decide +kernel) (by decide +kernel) (by decide +kernel) (by decide +kernel) (by decide +kernel)
theorem allAtoms_all (ts : List Jvm.Cond) (a : Array Jvm.Value) (st : Jvm.State) : (allAtoms ts).before a st = ts.all (fun c => c.before a st) := by
  induction ts with
  | nil => rfl
  | cons c t ih =>
    show (Jvm.Cond.and c (allAtoms t)).before a st = _
    rw [Jvm.Cond.before_and, ih, List.all_cons]
def words1 : List Jvm.Cond := Jvm.Cond.code x code maxLocals ret :: tables_1
/-- a 'code' word, met by the world's own term for the bytes: nothing is compared byte by byte -/
theorem code_word {y : MethodName} {bytes : ByteArray} {mx : Nat} {rt : Option FieldType} {a : Array Value} {s : State} {m : MethodId} {meth : Method} {c : Code} (h1 : s.methodNamed? y = some m) (h2 : s.vm.method? m = some meth) (h3 : meth.code = some c) (h4 : c.code = bytes)
    (h5 : (c.maxLocals == mx && c.exceptionTable.isEmpty && decide (c.maxStack ≤ mostOperands) && decide (meth.sig.returnType = rt) && !meth.locks && decide (parseMethodDescriptor y.desc = some meth.sig)) = true) : (Jvm.Cond.code y bytes mx rt).before a s = true := by
  simp only [Bool.and_eq_true, beq_iff_eq, Bool.not_eq_true', decide_eq_true_eq] at h5
  obtain ⟨⟨⟨⟨⟨g1, g2⟩, g3⟩, g4⟩, g5⟩, g6⟩ := h5
  simp [Cond.before, Cond.holds, Cond.value, h1, h2, h3, h4, g1, g2, g3, g4, g5, g6]
def isCode : Jvm.Cond → Bool
  | .code _ _ _ _ => true
  | _ => false
theorem all_split {L : List Jvm.Cond} {P : Jvm.Cond → Bool} (h1 : L.all (fun c => isCode c || P c) = true) (h2 : ∀ c ∈ L.filter isCode, P c = true) : L.all P = true := by
  refine List.all_eq_true.mpr fun c hc => ?_
  have h := List.all_eq_true.mp h1 c hc
  rcases Bool.eq_false_or_eq_true (isCode c) with hi | hi
  · exact h2 c (List.mem_filter.mpr ⟨hc, hi⟩)
  · simpa [hi] using h
set_option maxRecDepth 65536 in
theorem w_c0 : (Jvm.Cond.code x code maxLocals ret).before args0 about1 = true := code_word (m := ⟨1, 2⟩) (meth := k1m2) (c := k1c2) (by decide +kernel) rfl rfl rfl (by decide +kernel)
set_option maxRecDepth 65536 in
theorem w_c1 : (Jvm.Cond.code ({ cls := "com/example/fend/fend/puzzle/hashx/OpcodeIsMultiplyPinLaw", name := "pick", desc := "(I)Lcom/example/fend/fend/puzzle/hashx/Opcode;" } : Jvm.MethodName) method_2_code (1 : Nat) (Option.some (Jvm.ClassFile.FieldType.object "com/example/fend/fend/puzzle/hashx/Opcode"))).before args0 about1 = true := code_word (m := ⟨1, 1⟩) (meth := k1m1) (c := k1c1) (by decide +kernel) rfl rfl rfl (by decide +kernel)
set_option maxRecDepth 65536 in
theorem w_c2 : (Jvm.Cond.code ({ cls := "com/example/fend/fend/puzzle/hashx/Opcode", name := "isMultiply", desc := "()Z" } : Jvm.MethodName) prog_30_method_9_code (1 : Nat) (Option.some Jvm.ClassFile.FieldType.boolean)).before args0 about1 = true := code_word (m := ⟨6, 0⟩) (meth := k6m0) (c := k6c0) (by decide +kernel) rfl rfl rfl (by decide +kernel)
def codes1 : List Jvm.Cond := [Jvm.Cond.code x code maxLocals ret, Jvm.Cond.code ({ cls := "com/example/fend/fend/puzzle/hashx/OpcodeIsMultiplyPinLaw", name := "pick", desc := "(I)Lcom/example/fend/fend/puzzle/hashx/Opcode;" } : Jvm.MethodName) method_2_code (1 : Nat) (Option.some (Jvm.ClassFile.FieldType.object "com/example/fend/fend/puzzle/hashx/Opcode")), Jvm.Cond.code ({ cls := "com/example/fend/fend/puzzle/hashx/Opcode", name := "isMultiply", desc := "()Z" } : Jvm.MethodName) prog_30_method_9_code (1 : Nat) (Option.some Jvm.ClassFile.FieldType.boolean)]
set_option maxRecDepth 65536 in
theorem codes_eq : words1.filter isCode = codes1 := rfl
theorem w_codes : ∀ c ∈ words1.filter isCode, c.before args0 about1 = true := by
  rw [codes_eq]
  intro c hc
  simp only [codes1, List.mem_cons, List.not_mem_nil, or_false] at hc
  rcases hc with rfl | rfl | rfl
  · exact w_c0
  · exact w_c1
  · exact w_c2
set_option maxRecDepth 65536 in
theorem w_t1 : (words1.take 24).all (fun c => isCode c || c.before args0 about1) = true := by decide +kernel
set_option maxRecDepth 65536 in
theorem w_t2 : (words1.drop 24).all (fun c => isCode c || c.before args0 about1) = true := by decide +kernel
theorem w_tables : (allAtoms (Jvm.Cond.code x code maxLocals ret :: tables_1)).before args0 about1 = true := by
  rw [allAtoms_all]
  show words1.all (fun c => c.before args0 about1) = true
  refine all_split ?_ w_codes
  rw [← List.take_append_drop 24 words1, List.all_append, w_t1, w_t2]
  rfl
set_option maxRecDepth 65536 in
theorem w_case : (Jvm.Cond.and given_1 narrow_1).before args0 about1 = true := by decide +kernel
theorem w_applies : (headSpec (Jvm.Cond.code x code maxLocals ret :: tables_1) room_1).applies x e0.platform about1 = true :=
  (Spec.applies_iff w_frames).mpr ⟨w_running, w_runnable, w_alone, w_named, w_hears, w_ripe, w_room, w_tables⟩
theorem atStart : AtStart classFile x code maxLocals ret World_1 tables_1 room_1 Calls_1 rest_1 Pre_1 launch0 p0 e0 about1 theMethod args0 below0 :=
  ⟨lists_1, trivial, launch0.admits_env _ _ _, launch0.least_env, fairChoices_fair.cas, fairChoices_fair.clock, w_frames, w_args, w_heap, w_applies, trivial, trivial, w_case⟩
end start1
theorem witness_1 : WitnessClaimed_1 := ⟨start1.p0, start1.e0, start1.about1, start1.theMethod, start1.args0, start1.below0, start1.atStart⟩
end Jvm.Pilot.@@N@@
