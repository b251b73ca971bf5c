import JvmDerived
import JvmDerived.Pilot.@@N@@Statement
import JvmDerived.Pilot.@@N@@Code
set_option linter.unusedVariables false
set_option linter.unusedSimpArgs false
namespace Jvm.Pilot.@@N@@
open Jvm Jvm.ClassFile Sem Op Lib Jvm.Free Jvm.Stand Jvm.LawKit Jvm.RoadKit Bundle Jvm.Pilot.@@N@@.Jvm.D
section OwnKit
variable {p : Program} {l : Launch} {e : Env} {R : Room} {s : State} {m : MethodId} {args : Array Value} {below : List Frame} {meth : Method} {c : Code} {T : State} {locs : List Loc} {cells slots : Nat}
theorem own_retI (X : Stand p l e R s m args below meth c T locs cells slots) (hx : p.tables.exec = Jvm.exec) {pc : Nat} {Ls : Array Slot} {z : Int32} {rest : List Value} (hret : meth.sig.returnType = some .int) (hd : decode c.code pc = .ok (.ireturn, 1)) {fs : List Frame}
    (hl : ∀ (f : JFrame) (acts : List Action), f.method = m → f.locked = none → f.entered = [] → (doReturn e (T.setTop f) acts (some (.int z))).1 = T.setFrames fs) : Steps p.tables e below (T.setTop (mkF m pc Ls (.int z :: rest))) (T.setFrames fs) :=
  retOut X hx hret rfl (Or.inl ⟨rfl, Or.inl rfl, z, rfl⟩) hd hl
theorem own_retL (X : Stand p l e R s m args below meth c T locs cells slots) (hx : p.tables.exec = Jvm.exec) {pc : Nat} {Ls : Array Slot} {z : Int64} {rest : List Value} (hret : meth.sig.returnType = some .long) (hd : decode c.code pc = .ok (.lreturn, 1)) {fs : List Frame}
    (hl : ∀ (f : JFrame) (acts : List Action), f.method = m → f.locked = none → f.entered = [] → (doReturn e (T.setTop f) acts (some (.long z))).1 = T.setFrames fs) : Steps p.tables e below (T.setTop (mkF m pc Ls (.long z :: rest))) (T.setFrames fs) :=
  retOut X hx hret rfl (Or.inr (Or.inl ⟨rfl, rfl, z, rfl⟩)) hd hl
theorem own_retA (X : Stand p l e R s m args below meth c T locs cells slots) (hx : p.tables.exec = Jvm.exec) {pc : Nat} {Ls : Array Slot} {t : FieldType} {v : Value} {rest : List Value} (hret : meth.sig.returnType = some t) (ht : t.isReference = true) (hv : v.isRef = true) (hn : narrow t v = v) (hd : decode c.code pc = .ok (.areturn, 1)) {fs : List Frame}
    (hl : ∀ (f : JFrame) (acts : List Action), f.method = m → f.locked = none → f.entered = [] → (doReturn e (T.setTop f) acts (some v)).1 = T.setFrames fs) : Steps p.tables e below (T.setTop (mkF m pc Ls (v :: rest))) (T.setFrames fs) :=
  retOut X hx hret hn (Or.inr (Or.inr (Or.inr (Or.inr ⟨rfl, ht, hv⟩)))) hd hl
theorem own_ns_exa {Z : State} {h : Heap} {a : Addr} {C : String} (F : Exa Z h a C) : ∃ c : Cell, h[a]? = some c ∧ c.vm.isStatics = false := by
  obtain ⟨c, _, h1, -, -, h4, -⟩ := F; exact ⟨c, h1, h4⟩
theorem own_ns_arv {Z : State} {h : Heap} {a : Addr} {k : ClassId} {ty : FieldType} {z : Int32} {vs : List Value} {dv : Value} (F : Arv Z h a k ty z vs dv) : ∃ c : Cell, h[a]? = some c ∧ c.vm.isStatics = false := by
  obtain ⟨c, A, -⟩ := F; exact ⟨c, A.1, A.plain⟩
theorem own_sta_keep {Z : State} {h h' : Heap} {C n d : String} {v : Value} {ws : List Addr} (F : Sta Z h C n d v) (K : Keep h h' ws) (q : ∀ x ∈ ws, ∃ c : Cell, h[x]? = some c ∧ c.vm.isStatics = false) : Sta Z h' C n d v := by
  obtain ⟨cf, i, k, f, st, cell, h1, h2, h3, h4, h5, h6, h7⟩ := F
  refine ⟨cf, i, k, f, st, cell, h1, h2, h3, h4, K.2.1 st cell h5 (fun m => ?_), h6, h7⟩
  obtain ⟨c, e1, e2⟩ := q st m; cases h5.symm.trans e1; rw [e2] at h6; cases h6
/-- from A the run ends, and then P -/
def OwnGo (tb : Tables) (e : Env) (below : List Frame) (P : Outcome → State → Prop) (A : State) : Prop := ∃ s₂ o, Steps tb e below A s₂ ∧ s₂.status = .running ∧ Ended s₂ below o ∧ P o s₂
theorem OwnGo.of {tb : Tables} {P : Outcome → State → Prop} {A B : State} (k : ∀ t, Steps tb e below B t → Steps tb e below A t) (g : OwnGo tb e below P B) : OwnGo tb e below P A := by
  obtain ⟨s2, o, h1, h2⟩ := g; exact ⟨s2, o, k _ h1, h2⟩
end OwnKit

theorem own_fldI {s : State} {args : Array Value} {t : Term} {a : Addr} {C n d : String} {k : Int32} (ev : t.eval args s none [] s = some (.ref a)) (h : (Jvm.Cond.eq (.field t C n d) (.int k)).value args s none s [] = some true) : Fld s s.heap a C n d (.int k) := by
  have hb : (Term.int k).eval args s none [] s = some (.int k) := rfl
  cases ha : (Term.field t C n d).eval args s none [] s with
  | none => simp [Cond.value, ha] at h
  | some x =>
    cases x <;> simp [Cond.value, ha, hb] at h
    subst h
    rw [fld_at ev] at ha; exact Fld.start ha
theorem own_fldL {s : State} {args : Array Value} {t : Term} {a : Addr} {C n d : String} {k : Int64} (ev : t.eval args s none [] s = some (.ref a)) (h : (Jvm.Cond.eq (.field t C n d) (.long k)).value args s none s [] = some true) : Fld s s.heap a C n d (.long k) := by
  have hb : (Term.long k).eval args s none [] s = some (.long k) := rfl
  cases ha : (Term.field t C n d).eval args s none [] s with
  | none => simp [Cond.value, ha] at h
  | some x =>
    cases x <;> simp [Cond.value, ha, hb] at h
    subst h
    rw [fld_at ev] at ha; exact Fld.start ha

def own_f1 (p0 : Int32) (p1 : Int32) (wNEW : Addr) (wIDLE : Addr) (wBUSY : Addr) : Addr := (if p0 = (0 : Int32) then (if p1 = (0 : Int32) then wNEW else wIDLE) else wBUSY)
theorem pn_0 : plainName "com/example/map_of_brokers/mapofbrokers/kafka/ListenerConnection$Stage" = true := by first | (simp [plainName, overriddenIn]; done) | decide +kernel
theorem d1_0 : decode prog_16_method_4_code 0 = .ok (.iload_n 0, 1) := by decide +kernel
theorem d1_1 : decode prog_16_method_4_code 1 = .ok (.ifCond .eq 10, 3) := by decide +kernel
theorem d1_4 : decode prog_16_method_4_code 4 = .ok (.getstatic 10, 3) := by decide +kernel
theorem d1_7 : decode prog_16_method_4_code 7 = .ok (.astore_n 2, 1) := by decide +kernel
theorem d1_8 : decode prog_16_method_4_code 8 = .ok (.goto 18, 3) := by decide +kernel
theorem d1_11 : decode prog_16_method_4_code 11 = .ok (.iload_n 1, 1) := by decide +kernel
theorem d1_12 : decode prog_16_method_4_code 12 = .ok (.ifCond .eq 10, 3) := by decide +kernel
theorem d1_15 : decode prog_16_method_4_code 15 = .ok (.getstatic 7, 3) := by decide +kernel
theorem d1_18 : decode prog_16_method_4_code 18 = .ok (.astore_n 2, 1) := by decide +kernel
theorem d1_19 : decode prog_16_method_4_code 19 = .ok (.goto 7, 3) := by decide +kernel
theorem d1_22 : decode prog_16_method_4_code 22 = .ok (.getstatic 3, 3) := by decide +kernel
theorem d1_25 : decode prog_16_method_4_code 25 = .ok (.astore_n 2, 1) := by decide +kernel
theorem d1_26 : decode prog_16_method_4_code 26 = .ok (.aload_n 2, 1) := by decide +kernel
theorem d1_27 : decode prog_16_method_4_code 27 = .ok (.areturn, 1) := by decide +kernel
theorem ef_rm1 (m : MethodId) (p0 : Int32) (p1 : Int32) : entryFrame m #[(.int p0), (.int p1)] 3 = mkF m 0 #[.val (.int p0), .val (.int p1), .unset] [] := by first | (simp [entryFrame, mkF, argsToLocals, Value.category]; done) | rfl
def Qrm1 (Z : State) (p0 : Int32) (p1 : Int32) (wNEW : Addr) (wIDLE : Addr) (wBUSY : Addr) (h0 : Heap) (n0 : Nat) (v : Option Value) (h : Heap) (L : List Loc) : Prop := v = some (.ref (own_f1 p0 p1 wNEW wIDLE wBUSY)) ∧ Fr n0 L ∧ h = h0
set_option maxRecDepth 65536 in
set_option maxHeartbeats 40000000 in
theorem rm1 (l : Launch) (Z : State) (aw : Array Value) (hw : ∀ d ∈ tables_1, d.before aw Z = true) (ws : List Jvm.Cond) (p0 : Int32) (p1 : Int32) (wNEW : Addr) (wIDLE : Addr) (wBUSY : Addr) (h0 : Heap) (n0 : Nat) (Z0 : n0 ≤ h0.size) (S_NEW : Sta Z h0 "com/example/map_of_brokers/mapofbrokers/kafka/ListenerConnection$Stage" "NEW" "Lcom/example/map_of_brokers/mapofbrokers/kafka/ListenerConnection$Stage;" (.ref wNEW)) (S_IDLE : Sta Z h0 "com/example/map_of_brokers/mapofbrokers/kafka/ListenerConnection$Stage" "IDLE" "Lcom/example/map_of_brokers/mapofbrokers/kafka/ListenerConnection$Stage;" (.ref wIDLE)) (S_BUSY : Sta Z h0 "com/example/map_of_brokers/mapofbrokers/kafka/ListenerConnection$Stage" "BUSY" "Lcom/example/map_of_brokers/mapofbrokers/kafka/ListenerConnection$Stage;" (.ref wBUSY)) :
    MetFree l (⟨"com/example/map_of_brokers/mapofbrokers/kafka/ListenerConnection$Stage", "of", "(ZZ)Lcom/example/map_of_brokers/mapofbrokers/kafka/ListenerConnection$Stage;"⟩ : MethodName) (head1 (Jvm.Cond.code (⟨"com/example/map_of_brokers/mapofbrokers/kafka/ListenerConnection$Stage", "of", "(ZZ)Lcom/example/map_of_brokers/mapofbrokers/kafka/ListenerConnection$Stage;"⟩ : MethodName) prog_16_method_4_code 3 (some (.object "com/example/map_of_brokers/mapofbrokers/kafka/ListenerConnection$Stage")) :: ws) ({ frames := 0, cells := 0, slots := 0, locals := 0 } : Room)) (fun a U => a = #[(.int p0), (.int p1)] ∧ Z.Warmed39 U.vm ∧ U.heap = h0) (fun _ _ _ _ _ => True) (fun _ U o U' => ∃ v L, o = .returned v ∧ Qrm1 Z p0 p1 wNEW wIDLE wBUSY h0 n0 v U'.heap L ∧ FrameEnd U o U' L ({ frames := 0, cells := 0, slots := 0, locals := 0 } : Room).cells ({ frames := 0, cells := 0, slots := 0, locals := 0 } : Room).slots) := by
  refine MetFree.of_bodySF (plainFor_of_name pn_0) hisR ?_
  intro p e s m args below meth c s₁ Bd hml0 hP hK
  obtain ⟨rfl, hZ, hh⟩ := hP
  have hx := Bd.exec
  have hby := Bd.bytes
  have hml : c.maxLocals = 3 := hml0
  have hown : s.vm.findClass "com/example/map_of_brokers/mapofbrokers/kafka/ListenerConnection$Stage" = some m.cls := findClass_of_methodNamed Bd.named
  have hnm := (name_of_methodNamed Bd.named Bd.method).1
  have X0 : Stand p l e ({ frames := 0, cells := 0, slots := 0, locals := 0 } : Room) s m #[(.int p0), (.int p1)] below meth c s₁ [] 0 0 := Stand.of_body Bd
  have e0 : s₁.heap = h0 := by rw [← hh, Bd.state]; rfl
  have N0 := Fr.nil n0
  have hlk := Bd.notSynchronized
  show OwnGo p.tables e below _ (s₁.setTop (entryFrame m #[(.int p0), (.int p1)] 3))
  rw [ef_rm1 m p0 p1]
  show OwnGo p.tables e below _ (s₁.setTop (mkF m 0 #[.val (.int p0), .val (.int p1), .unset] []))
  refine OwnGo.of (A := s₁.setTop (mkF m 0 #[.val (.int p0), .val (.int p1), .unset] [])) (B := s₁.setTop (mkF m 1 #[.val (.int p0), .val (.int p1), .unset] [(.int p0)])) (fun t k => ?_) ?_
  · show Steps p.tables e below (s₁.setTop (mkF m 0 #[.val (.int p0), .val (.int p1), .unset] [])) t
    refine XS.iloadN X0.here hx rfl (hb hby d1_0) rfl ?_
    exact k
  by_cases hc1 : p0 = (0 : Int32)
  · refine OwnGo.of (A := s₁.setTop (mkF m 1 #[.val (.int p0), .val (.int p1), .unset] [(.int p0)])) (B := s₁.setTop (mkF m 12 #[.val (.int p0), .val (.int p1), .unset] [(.int p1)])) (fun t k => ?_) ?_
    · show Steps p.tables e below (s₁.setTop (mkF m 1 #[.val (.int p0), .val (.int p1), .unset] [(.int p0)])) t
      refine XS.ifYes X0.here hx rfl (pc0 := 1) (pc' := 11) rfl (hb hby d1_1) rfl ((if0 _ _).trans (teq hc1).1) (by decide) (by decide) ?_
      show Steps p.tables e below (s₁.setTop (mkF m 11 #[.val (.int p0), .val (.int p1), .unset] [])) t
      refine XS.iloadN X0.here hx rfl (hb hby d1_11) rfl ?_
      exact k
    by_cases hc2 : p1 = (0 : Int32)
    · refine OwnGo.of (A := s₁.setTop (mkF m 12 #[.val (.int p0), .val (.int p1), .unset] [(.int p1)])) (B := s₁.setTop (mkF m 22 #[.val (.int p0), .val (.int p1), .unset] [])) (fun t k => ?_) ?_
      · show Steps p.tables e below (s₁.setTop (mkF m 12 #[.val (.int p0), .val (.int p1), .unset] [(.int p1)])) t
        refine XS.ifYes X0.here hx rfl (pc0 := 12) (pc' := 22) rfl (hb hby d1_12) rfl ((if0 _ _).trans (teq hc2).1) (by decide) (by decide) ?_
        exact k
      obtain ⟨T3, X3, e3, st3⟩ := getS2 X0 hx hZ hown (host := "") (Or.inl (hw _ (List.mem_of_getElem? (i := 4) rfl))) Via.refl e0 S_NEW (g := (mkF m 22 #[.val (.int p0), .val (.int p1), .unset] [])) rfl (hb hby d1_22)
      refine OwnGo.of st3 ?_
      show OwnGo p.tables e below _ (T3.setTop (mkF m 25 #[.val (.int p0), .val (.int p1), .unset] [(.ref wNEW)]))
      refine OwnGo.of (A := T3.setTop (mkF m 25 #[.val (.int p0), .val (.int p1), .unset] [(.ref wNEW)])) (B := T3.setTop (mkF m 27 #[.val (.int p0), .val (.int p1), .val (.ref wNEW)] [(.ref wNEW)])) (fun t k => ?_) ?_
      · show Steps p.tables e below (T3.setTop (mkF m 25 #[.val (.int p0), .val (.int p1), .unset] [(.ref wNEW)])) t
        refine XS.astoreN X3.here hx rfl (hb hby d1_25) rfl rfl (l' := #[.val (.int p0), .val (.int p1), .val (.ref wNEW)]) rfl ?_
        show Steps p.tables e below (T3.setTop (mkF m 26 #[.val (.int p0), .val (.int p1), .val (.ref wNEW)] [])) t
        refine XS.aloadN X3.here hx rfl (hb hby d1_26) rfl rfl ?_
        exact k
      obtain ⟨fs, hr, hrun, hended, hW, hsame⟩ := X3.leave (v := some (.ref wNEW)) (fun h => by rw [Bd.returns] at h; cases h) hlk
      refine ⟨_, _, ?_, hrun, hended, _, _, rfl, ?_, ⟨_, rfl⟩, hW, hsame.mono (by decide) (by decide)⟩
      · show Steps p.tables e below (T3.setTop (mkF m 27 #[.val (.int p0), .val (.int p1), .val (.ref wNEW)] [(.ref wNEW)])) _
        exact own_retA X3 hx Bd.returns rfl rfl rfl (hb hby d1_27) hr
      · show Qrm1 Z p0 p1 wNEW wIDLE wBUSY h0 n0 _ (T3.setFrames fs).heap _
        rw [show (T3.setFrames fs).heap = h0 from e3]
        exact ⟨congrArg (fun z => some (Value.ref z)) (by rw [own_f1, if_pos hc1, if_pos hc2]; try rfl), N0, rfl⟩
    · refine OwnGo.of (A := s₁.setTop (mkF m 12 #[.val (.int p0), .val (.int p1), .unset] [(.int p1)])) (B := s₁.setTop (mkF m 15 #[.val (.int p0), .val (.int p1), .unset] [])) (fun t k => ?_) ?_
      · show Steps p.tables e below (s₁.setTop (mkF m 12 #[.val (.int p0), .val (.int p1), .unset] [(.int p1)])) t
        refine XS.ifNo X0.here hx rfl (hb hby d1_12) rfl ((if0 _ _).trans (feq hc2).1) ?_
        exact k
      obtain ⟨T5, X5, e5, st5⟩ := getS2 X0 hx hZ hown (host := "") (Or.inl (hw _ (List.mem_of_getElem? (i := 12) rfl))) Via.refl e0 S_IDLE (g := (mkF m 15 #[.val (.int p0), .val (.int p1), .unset] [])) rfl (hb hby d1_15)
      refine OwnGo.of st5 ?_
      show OwnGo p.tables e below _ (T5.setTop (mkF m 18 #[.val (.int p0), .val (.int p1), .unset] [(.ref wIDLE)]))
      refine OwnGo.of (A := T5.setTop (mkF m 18 #[.val (.int p0), .val (.int p1), .unset] [(.ref wIDLE)])) (B := T5.setTop (mkF m 27 #[.val (.int p0), .val (.int p1), .val (.ref wIDLE)] [(.ref wIDLE)])) (fun t k => ?_) ?_
      · show Steps p.tables e below (T5.setTop (mkF m 18 #[.val (.int p0), .val (.int p1), .unset] [(.ref wIDLE)])) t
        refine XS.astoreN X5.here hx rfl (hb hby d1_18) rfl rfl (l' := #[.val (.int p0), .val (.int p1), .val (.ref wIDLE)]) rfl ?_
        show Steps p.tables e below (T5.setTop (mkF m 19 #[.val (.int p0), .val (.int p1), .val (.ref wIDLE)] [])) t
        refine XS.goto X5.here hx rfl (pc0 := 19) (pc' := 26) rfl (hb hby d1_19) (by decide) (by decide) ?_
        show Steps p.tables e below (T5.setTop (mkF m 26 #[.val (.int p0), .val (.int p1), .val (.ref wIDLE)] [])) t
        refine XS.aloadN X5.here hx rfl (hb hby d1_26) rfl rfl ?_
        exact k
      obtain ⟨fs, hr, hrun, hended, hW, hsame⟩ := X5.leave (v := some (.ref wIDLE)) (fun h => by rw [Bd.returns] at h; cases h) hlk
      refine ⟨_, _, ?_, hrun, hended, _, _, rfl, ?_, ⟨_, rfl⟩, hW, hsame.mono (by decide) (by decide)⟩
      · show Steps p.tables e below (T5.setTop (mkF m 27 #[.val (.int p0), .val (.int p1), .val (.ref wIDLE)] [(.ref wIDLE)])) _
        exact own_retA X5 hx Bd.returns rfl rfl rfl (hb hby d1_27) hr
      · show Qrm1 Z p0 p1 wNEW wIDLE wBUSY h0 n0 _ (T5.setFrames fs).heap _
        rw [show (T5.setFrames fs).heap = h0 from e5]
        exact ⟨congrArg (fun z => some (Value.ref z)) (by rw [own_f1, if_pos hc1, if_neg hc2]; try rfl), N0, rfl⟩
  · refine OwnGo.of (A := s₁.setTop (mkF m 1 #[.val (.int p0), .val (.int p1), .unset] [(.int p0)])) (B := s₁.setTop (mkF m 4 #[.val (.int p0), .val (.int p1), .unset] [])) (fun t k => ?_) ?_
    · show Steps p.tables e below (s₁.setTop (mkF m 1 #[.val (.int p0), .val (.int p1), .unset] [(.int p0)])) t
      refine XS.ifNo X0.here hx rfl (hb hby d1_1) rfl ((if0 _ _).trans (feq hc1).1) ?_
      exact k
    obtain ⟨T7, X7, e7, st7⟩ := getS2 X0 hx hZ hown (host := "") (Or.inl (hw _ (List.mem_of_getElem? (i := 11) rfl))) Via.refl e0 S_BUSY (g := (mkF m 4 #[.val (.int p0), .val (.int p1), .unset] [])) rfl (hb hby d1_4)
    refine OwnGo.of st7 ?_
    show OwnGo p.tables e below _ (T7.setTop (mkF m 7 #[.val (.int p0), .val (.int p1), .unset] [(.ref wBUSY)]))
    refine OwnGo.of (A := T7.setTop (mkF m 7 #[.val (.int p0), .val (.int p1), .unset] [(.ref wBUSY)])) (B := T7.setTop (mkF m 27 #[.val (.int p0), .val (.int p1), .val (.ref wBUSY)] [(.ref wBUSY)])) (fun t k => ?_) ?_
    · show Steps p.tables e below (T7.setTop (mkF m 7 #[.val (.int p0), .val (.int p1), .unset] [(.ref wBUSY)])) t
      refine XS.astoreN X7.here hx rfl (hb hby d1_7) rfl rfl (l' := #[.val (.int p0), .val (.int p1), .val (.ref wBUSY)]) rfl ?_
      show Steps p.tables e below (T7.setTop (mkF m 8 #[.val (.int p0), .val (.int p1), .val (.ref wBUSY)] [])) t
      refine XS.goto X7.here hx rfl (pc0 := 8) (pc' := 26) rfl (hb hby d1_8) (by decide) (by decide) ?_
      show Steps p.tables e below (T7.setTop (mkF m 26 #[.val (.int p0), .val (.int p1), .val (.ref wBUSY)] [])) t
      refine XS.aloadN X7.here hx rfl (hb hby d1_26) rfl rfl ?_
      exact k
    obtain ⟨fs, hr, hrun, hended, hW, hsame⟩ := X7.leave (v := some (.ref wBUSY)) (fun h => by rw [Bd.returns] at h; cases h) hlk
    refine ⟨_, _, ?_, hrun, hended, _, _, rfl, ?_, ⟨_, rfl⟩, hW, hsame.mono (by decide) (by decide)⟩
    · show Steps p.tables e below (T7.setTop (mkF m 27 #[.val (.int p0), .val (.int p1), .val (.ref wBUSY)] [(.ref wBUSY)])) _
      exact own_retA X7 hx Bd.returns rfl rfl rfl (hb hby d1_27) hr
    · show Qrm1 Z p0 p1 wNEW wIDLE wBUSY h0 n0 _ (T7.setFrames fs).heap _
      rw [show (T7.setFrames fs).heap = h0 from e7]
      exact ⟨congrArg (fun z => some (Value.ref z)) (by rw [own_f1, if_neg hc1]; try rfl), N0, rfl⟩
theorem pd_1 : parseMethodDescriptor "(ZZ)Lcom/example/map_of_brokers/mapofbrokers/kafka/ListenerConnection$Stage;" = some ⟨[.boolean, .boolean], some (.object "com/example/map_of_brokers/mapofbrokers/kafka/ListenerConnection$Stage")⟩ := by decide +kernel
theorem pn_2 : plainName "com/example/map_of_brokers/mapofbrokers/kafka/StageOfPinLaw" = true := by first | (simp [plainName, overriddenIn]; done) | decide +kernel
theorem ef_rm0 (m : MethodId) (p0 : Int32) : entryFrame m #[(.int p0)] maxLocals = mkF m 0 #[.val (.int p0), .unset, .unset, .unset, .unset, .unset, .unset] [] := by first | (simp [entryFrame, mkF, argsToLocals, Value.category, maxLocals]; done) | rfl
def Qrm0 (Z : State) (p0 : Int32) (wNEW : Addr) (wIDLE : Addr) (wBUSY : Addr) (h0 : Heap) (n0 : Nat) (v : Option Value) (h : Heap) (L : List Loc) : Prop := v = some (.int 1) ∧ Fr n0 L
set_option maxRecDepth 65536 in
set_option maxHeartbeats 40000000 in
theorem rm0 (l : Launch) (Z : State) (aw : Array Value) (hw : ∀ d ∈ tables_1, d.before aw Z = true) (ws : List Jvm.Cond) (p0 : Int32) (wNEW : Addr) (wIDLE : Addr) (wBUSY : Addr) (h0 : Heap) (n0 : Nat) (Z0 : n0 ≤ h0.size) (S_NEW : Sta Z h0 "com/example/map_of_brokers/mapofbrokers/kafka/ListenerConnection$Stage" "NEW" "Lcom/example/map_of_brokers/mapofbrokers/kafka/ListenerConnection$Stage;" (.ref wNEW)) (S_IDLE : Sta Z h0 "com/example/map_of_brokers/mapofbrokers/kafka/ListenerConnection$Stage" "IDLE" "Lcom/example/map_of_brokers/mapofbrokers/kafka/ListenerConnection$Stage;" (.ref wIDLE)) (S_BUSY : Sta Z h0 "com/example/map_of_brokers/mapofbrokers/kafka/ListenerConnection$Stage" "BUSY" "Lcom/example/map_of_brokers/mapofbrokers/kafka/ListenerConnection$Stage;" (.ref wBUSY)) (hne1 : wNEW ≠ wIDLE) (hne2 : wNEW ≠ wBUSY) (hne3 : wIDLE ≠ wBUSY) :
    MetFree l x (head1 (Jvm.Cond.code x code maxLocals ret :: ws) room_1) (fun a U => a = #[(.int p0)] ∧ Z.Warmed39 U.vm ∧ U.heap = h0) (fun _ _ _ _ _ => True) (fun _ U o U' => ∃ v L, o = .returned v ∧ Qrm0 Z p0 wNEW wIDLE wBUSY h0 n0 v U'.heap L ∧ FrameEnd U o U' L room_1.cells room_1.slots) := by
  refine MetFree.of_bodySF (plainFor_of_name pn_2) hisR ?_
  intro p e s m args below meth c s₁ Bd hml0 hP hK
  obtain ⟨rfl, hZ, hh⟩ := hP
  have hx := Bd.exec
  have hby := Bd.bytes
  have hml : c.maxLocals = 7 := hml0
  have hown : s.vm.findClass "com/example/map_of_brokers/mapofbrokers/kafka/StageOfPinLaw" = some m.cls := findClass_of_methodNamed Bd.named
  have hnm := (name_of_methodNamed Bd.named Bd.method).1
  have X0 : Stand p l e room_1 s m #[(.int p0)] below meth c s₁ [] 0 0 := Stand.of_body Bd
  have e0 : s₁.heap = h0 := by rw [← hh, Bd.state]; rfl
  have N0 := Fr.nil n0
  have hlk := Bd.notSynchronized
  show OwnGo p.tables e below _ (s₁.setTop (entryFrame m #[(.int p0)] maxLocals))
  rw [ef_rm0 m p0]
  show OwnGo p.tables e below _ (s₁.setTop (mkF m 0 #[.val (.int p0), .unset, .unset, .unset, .unset, .unset, .unset] []))
  refine OwnGo.of (A := s₁.setTop (mkF m 0 #[.val (.int p0), .unset, .unset, .unset, .unset, .unset, .unset] [])) (B := s₁.setTop (mkF m 3 #[.val (.int p0), .unset, .unset, .unset, .unset, .unset, .unset] [(.int (p0 &&& (1 : Int32)))])) (fun t k => ?_) ?_
  · show Steps p.tables e below (s₁.setTop (mkF m 0 #[.val (.int p0), .unset, .unset, .unset, .unset, .unset, .unset] [])) t
    refine XS.iloadN X0.here hx rfl (hb hby at_0) rfl ?_
    show Steps p.tables e below (s₁.setTop (mkF m 1 #[.val (.int p0), .unset, .unset, .unset, .unset, .unset, .unset] [(.int p0)])) t
    refine XS.iconst X0.here hx rfl (hb hby at_1) ?_
    show Steps p.tables e below (s₁.setTop (mkF m 2 #[.val (.int p0), .unset, .unset, .unset, .unset, .unset, .unset] [(.int (1 : Int32)), (.int p0)])) t
    refine XS.iand X0.here hx rfl (hb hby at_2) rfl ?_
    exact k
  by_cases hc1 : (p0 &&& (1 : Int32)) = (0 : Int32)
  · refine OwnGo.of (A := s₁.setTop (mkF m 3 #[.val (.int p0), .unset, .unset, .unset, .unset, .unset, .unset] [(.int (p0 &&& (1 : Int32)))])) (B := s₁.setTop (mkF m 15 #[.val (.int p0), .val (.int (0 : Int32)), .unset, .unset, .unset, .unset, .unset] [(.int (p0 &&& (2 : Int32)))])) (fun t k => ?_) ?_
    · show Steps p.tables e below (s₁.setTop (mkF m 3 #[.val (.int p0), .unset, .unset, .unset, .unset, .unset, .unset] [(.int (p0 &&& (1 : Int32)))])) t
      refine XS.ifYes X0.here hx rfl (pc0 := 3) (pc' := 10) rfl (hb hby at_3) rfl ((if0 _ _).trans (teq hc1).1) (by decide) (by decide) ?_
      show Steps p.tables e below (s₁.setTop (mkF m 10 #[.val (.int p0), .unset, .unset, .unset, .unset, .unset, .unset] [])) t
      refine XS.iconst X0.here hx rfl (hb hby at_10) ?_
      show Steps p.tables e below (s₁.setTop (mkF m 11 #[.val (.int p0), .unset, .unset, .unset, .unset, .unset, .unset] [(.int (0 : Int32))])) t
      refine XS.istoreN X0.here hx rfl (hb hby at_11) rfl (l' := #[.val (.int p0), .val (.int (0 : Int32)), .unset, .unset, .unset, .unset, .unset]) rfl ?_
      show Steps p.tables e below (s₁.setTop (mkF m 12 #[.val (.int p0), .val (.int (0 : Int32)), .unset, .unset, .unset, .unset, .unset] [])) t
      refine XS.iloadN X0.here hx rfl (hb hby at_12) rfl ?_
      show Steps p.tables e below (s₁.setTop (mkF m 13 #[.val (.int p0), .val (.int (0 : Int32)), .unset, .unset, .unset, .unset, .unset] [(.int p0)])) t
      refine XS.iconst X0.here hx rfl (hb hby at_13) ?_
      show Steps p.tables e below (s₁.setTop (mkF m 14 #[.val (.int p0), .val (.int (0 : Int32)), .unset, .unset, .unset, .unset, .unset] [(.int (2 : Int32)), (.int p0)])) t
      refine XS.iand X0.here hx rfl (hb hby at_14) rfl ?_
      exact k
    by_cases hc2 : (p0 &&& (2 : Int32)) = (0 : Int32)
    · refine OwnGo.of (A := s₁.setTop (mkF m 15 #[.val (.int p0), .val (.int (0 : Int32)), .unset, .unset, .unset, .unset, .unset] [(.int (p0 &&& (2 : Int32)))])) (B := s₁.setTop (mkF m 26 #[.val (.int p0), .val (.int (0 : Int32)), .val (.int (0 : Int32)), .unset, .unset, .unset, .unset] [(.int (0 : Int32)), (.int (0 : Int32))])) (fun t k => ?_) ?_
      · show Steps p.tables e below (s₁.setTop (mkF m 15 #[.val (.int p0), .val (.int (0 : Int32)), .unset, .unset, .unset, .unset, .unset] [(.int (p0 &&& (2 : Int32)))])) t
        refine XS.ifYes X0.here hx rfl (pc0 := 15) (pc' := 22) rfl (hb hby at_15) rfl ((if0 _ _).trans (teq hc2).1) (by decide) (by decide) ?_
        show Steps p.tables e below (s₁.setTop (mkF m 22 #[.val (.int p0), .val (.int (0 : Int32)), .unset, .unset, .unset, .unset, .unset] [])) t
        refine XS.iconst X0.here hx rfl (hb hby at_22) ?_
        show Steps p.tables e below (s₁.setTop (mkF m 23 #[.val (.int p0), .val (.int (0 : Int32)), .unset, .unset, .unset, .unset, .unset] [(.int (0 : Int32))])) t
        refine XS.istoreN X0.here hx rfl (hb hby at_23) rfl (l' := #[.val (.int p0), .val (.int (0 : Int32)), .val (.int (0 : Int32)), .unset, .unset, .unset, .unset]) rfl ?_
        show Steps p.tables e below (s₁.setTop (mkF m 24 #[.val (.int p0), .val (.int (0 : Int32)), .val (.int (0 : Int32)), .unset, .unset, .unset, .unset] [])) t
        refine XS.iloadN X0.here hx rfl (hb hby at_24) rfl ?_
        show Steps p.tables e below (s₁.setTop (mkF m 25 #[.val (.int p0), .val (.int (0 : Int32)), .val (.int (0 : Int32)), .unset, .unset, .unset, .unset] [(.int (0 : Int32))])) t
        refine XS.iloadN X0.here hx rfl (hb hby at_25) rfl ?_
        exact k
      obtain ⟨_, _, ⟨T3, L3, k3, n3⟩, -, X3, ⟨Lc3, hQ3, l3, y3, z3⟩, st3⟩ := Jvm.LawKit.callS X0 hx (y := (⟨"com/example/map_of_brokers/mapofbrokers/kafka/ListenerConnection$Stage", "of", "(ZZ)Lcom/example/map_of_brokers/mapofbrokers/kafka/ListenerConnection$Stage;"⟩ : MethodName)) hown (mvT hZ (hw _ (List.mem_of_getElem? (i := 0) rfl))) (mvT hZ (hw _ (List.mem_of_getElem? (i := 1) rfl))) (mvT hZ (hw _ (List.mem_of_getElem? (i := 2) rfl))) (mvT hZ (hw _ (List.mem_of_getElem? (i := 3) rfl))) (by decide) (backOf (W := 0) (rm1 l Z aw hw [] (0 : Int32) (0 : Int32) wNEW wIDLE wBUSY h0 n0 Z0 S_NEW S_IDLE S_BUSY) hZ (hw _ (List.mem_of_getElem? (i := 3) rfl)) (hw _ (List.mem_of_getElem? (i := 2) rfl)) (by decide) (by decide)) (g := (mkF m 26 #[.val (.int p0), .val (.int (0 : Int32)), .val (.int (0 : Int32)), .unset, .unset, .unset, .unset] [(.int (0 : Int32)), (.int (0 : Int32))])) rfl (by rw [hml]; rfl) (argsL := [(.int (0 : Int32)), (.int (0 : Int32))]) (rest := []) (lenOf pd_1 rfl) rfl (by show 2 * 0 + _ ≤ _; exact Nat.le_of_eq rfl) (hb hby at_26) (fun _ _ => ⟨rfl, e0, (by decide : 0 + 0 ≤ _), (by decide : 0 + 0 ≤ _)⟩)
      dsimp only [Pt.U, Pt.locs, Pt.cells, Pt.slots] at X3 l3 y3 z3 st3 hQ3
      subst l3 y3 z3
      obtain ⟨hv3, N3q, eq3⟩ := hQ3
      rw [show own_f1 (0 : Int32) (0 : Int32) wNEW wIDLE wBUSY = wNEW from by simp [own_f1]] at hv3
      subst hv3
      have N3 := Fr.app N0 N3q
      refine OwnGo.of st3 ?_
      show OwnGo p.tables e below _ (T3.setTop (mkF m 29 #[.val (.int p0), .val (.int (0 : Int32)), .val (.int (0 : Int32)), .unset, .unset, .unset, .unset] [(.ref wNEW)]))
      refine OwnGo.of (A := T3.setTop (mkF m 29 #[.val (.int p0), .val (.int (0 : Int32)), .val (.int (0 : Int32)), .unset, .unset, .unset, .unset] [(.ref wNEW)])) (B := T3.setTop (mkF m 31 #[.val (.int p0), .val (.int (0 : Int32)), .val (.int (0 : Int32)), .val (.ref wNEW), .unset, .unset, .unset] [(.ref wNEW)])) (fun t k => ?_) ?_
      · show Steps p.tables e below (T3.setTop (mkF m 29 #[.val (.int p0), .val (.int (0 : Int32)), .val (.int (0 : Int32)), .unset, .unset, .unset, .unset] [(.ref wNEW)])) t
        refine XS.astoreN X3.here hx rfl (hb hby at_29) rfl rfl (l' := #[.val (.int p0), .val (.int (0 : Int32)), .val (.int (0 : Int32)), .val (.ref wNEW), .unset, .unset, .unset]) rfl ?_
        show Steps p.tables e below (T3.setTop (mkF m 30 #[.val (.int p0), .val (.int (0 : Int32)), .val (.int (0 : Int32)), .val (.ref wNEW), .unset, .unset, .unset] [])) t
        refine XS.aloadN X3.here hx rfl (hb hby at_30) rfl rfl ?_
        exact k
      obtain ⟨T4, X4, e4, st4⟩ := getS2 X3 hx hZ hown (host := "") (Or.inl (hw _ (List.mem_of_getElem? (i := 6) rfl))) Via.refl eq3 S_BUSY (g := (mkF m 31 #[.val (.int p0), .val (.int (0 : Int32)), .val (.int (0 : Int32)), .val (.ref wNEW), .unset, .unset, .unset] [(.ref wNEW)])) rfl (hb hby at_31)
      refine OwnGo.of st4 ?_
      show OwnGo p.tables e below _ (T4.setTop (mkF m 34 #[.val (.int p0), .val (.int (0 : Int32)), .val (.int (0 : Int32)), .val (.ref wNEW), .unset, .unset, .unset] [(.ref wBUSY), (.ref wNEW)]))
      have hc5 : ¬ (wNEW = wBUSY) := by first | exact hne1 | exact hne2 | exact hne3 | exact Ne.symm hne1 | exact Ne.symm hne2 | exact Ne.symm hne3
      refine OwnGo.of (A := T4.setTop (mkF m 34 #[.val (.int p0), .val (.int (0 : Int32)), .val (.int (0 : Int32)), .val (.ref wNEW), .unset, .unset, .unset] [(.ref wBUSY), (.ref wNEW)])) (B := T4.setTop (mkF m 45 #[.val (.int p0), .val (.int (0 : Int32)), .val (.int (0 : Int32)), .val (.ref wNEW), .val (.int (0 : Int32)), .unset, .unset] [(.ref wNEW)])) (fun t k => ?_) ?_
      · show Steps p.tables e below (T4.setTop (mkF m 34 #[.val (.int p0), .val (.int (0 : Int32)), .val (.int (0 : Int32)), .val (.ref wNEW), .unset, .unset, .unset] [(.ref wBUSY), (.ref wNEW)])) t
        refine Jvm.RoadKit.acmp (g := (mkF m 34 #[.val (.int p0), .val (.int (0 : Int32)), .val (.int (0 : Int32)), .val (.ref wNEW), .unset, .unset, .unset] [(.ref wBUSY), (.ref wNEW)])) X4 hx rfl rfl rfl (pc0 := 34) (pc' := 41) (same := false) rfl (hb hby at_34) rfl (decide_eq_false fun q => hc5 (Value.ref.inj q)) (by decide) (by decide) ?_
        show Steps p.tables e below (T4.setTop (mkF m 41 #[.val (.int p0), .val (.int (0 : Int32)), .val (.int (0 : Int32)), .val (.ref wNEW), .unset, .unset, .unset] [])) t
        refine XS.iconst X4.here hx rfl (hb hby at_41) ?_
        show Steps p.tables e below (T4.setTop (mkF m 42 #[.val (.int p0), .val (.int (0 : Int32)), .val (.int (0 : Int32)), .val (.ref wNEW), .unset, .unset, .unset] [(.int (0 : Int32))])) t
        refine XS.istore X4.here hx rfl (hb hby at_42) rfl (l' := #[.val (.int p0), .val (.int (0 : Int32)), .val (.int (0 : Int32)), .val (.ref wNEW), .val (.int (0 : Int32)), .unset, .unset]) rfl ?_
        show Steps p.tables e below (T4.setTop (mkF m 44 #[.val (.int p0), .val (.int (0 : Int32)), .val (.int (0 : Int32)), .val (.ref wNEW), .val (.int (0 : Int32)), .unset, .unset] [])) t
        refine XS.aloadN X4.here hx rfl (hb hby at_44) rfl rfl ?_
        exact k
      obtain ⟨T6, X6, e6, st6⟩ := getS2 X4 hx hZ hown (host := "") (Or.inl (hw _ (List.mem_of_getElem? (i := 8) rfl))) Via.refl e4 S_IDLE (g := (mkF m 45 #[.val (.int p0), .val (.int (0 : Int32)), .val (.int (0 : Int32)), .val (.ref wNEW), .val (.int (0 : Int32)), .unset, .unset] [(.ref wNEW)])) rfl (hb hby at_45)
      refine OwnGo.of st6 ?_
      show OwnGo p.tables e below _ (T6.setTop (mkF m 48 #[.val (.int p0), .val (.int (0 : Int32)), .val (.int (0 : Int32)), .val (.ref wNEW), .val (.int (0 : Int32)), .unset, .unset] [(.ref wIDLE), (.ref wNEW)]))
      have hc7 : ¬ (wNEW = wIDLE) := by first | exact hne1 | exact hne2 | exact hne3 | exact Ne.symm hne1 | exact Ne.symm hne2 | exact Ne.symm hne3
      refine OwnGo.of (A := T6.setTop (mkF m 48 #[.val (.int p0), .val (.int (0 : Int32)), .val (.int (0 : Int32)), .val (.ref wNEW), .val (.int (0 : Int32)), .unset, .unset] [(.ref wIDLE), (.ref wNEW)])) (B := T6.setTop (mkF m 59 #[.val (.int p0), .val (.int (0 : Int32)), .val (.int (0 : Int32)), .val (.ref wNEW), .val (.int (0 : Int32)), .val (.int (0 : Int32)), .unset] [(.ref wNEW)])) (fun t k => ?_) ?_
      · show Steps p.tables e below (T6.setTop (mkF m 48 #[.val (.int p0), .val (.int (0 : Int32)), .val (.int (0 : Int32)), .val (.ref wNEW), .val (.int (0 : Int32)), .unset, .unset] [(.ref wIDLE), (.ref wNEW)])) t
        refine Jvm.RoadKit.acmp (g := (mkF m 48 #[.val (.int p0), .val (.int (0 : Int32)), .val (.int (0 : Int32)), .val (.ref wNEW), .val (.int (0 : Int32)), .unset, .unset] [(.ref wIDLE), (.ref wNEW)])) X6 hx rfl rfl rfl (pc0 := 48) (pc' := 55) (same := false) rfl (hb hby at_48) rfl (decide_eq_false fun q => hc7 (Value.ref.inj q)) (by decide) (by decide) ?_
        show Steps p.tables e below (T6.setTop (mkF m 55 #[.val (.int p0), .val (.int (0 : Int32)), .val (.int (0 : Int32)), .val (.ref wNEW), .val (.int (0 : Int32)), .unset, .unset] [])) t
        refine XS.iconst X6.here hx rfl (hb hby at_55) ?_
        show Steps p.tables e below (T6.setTop (mkF m 56 #[.val (.int p0), .val (.int (0 : Int32)), .val (.int (0 : Int32)), .val (.ref wNEW), .val (.int (0 : Int32)), .unset, .unset] [(.int (0 : Int32))])) t
        refine XS.istore X6.here hx rfl (hb hby at_56) rfl (l' := #[.val (.int p0), .val (.int (0 : Int32)), .val (.int (0 : Int32)), .val (.ref wNEW), .val (.int (0 : Int32)), .val (.int (0 : Int32)), .unset]) rfl ?_
        show Steps p.tables e below (T6.setTop (mkF m 58 #[.val (.int p0), .val (.int (0 : Int32)), .val (.int (0 : Int32)), .val (.ref wNEW), .val (.int (0 : Int32)), .val (.int (0 : Int32)), .unset] [])) t
        refine XS.aloadN X6.here hx rfl (hb hby at_58) rfl rfl ?_
        exact k
      obtain ⟨T8, X8, e8, st8⟩ := getS2 X6 hx hZ hown (host := "") (Or.inl (hw _ (List.mem_of_getElem? (i := 10) rfl))) Via.refl e6 S_NEW (g := (mkF m 59 #[.val (.int p0), .val (.int (0 : Int32)), .val (.int (0 : Int32)), .val (.ref wNEW), .val (.int (0 : Int32)), .val (.int (0 : Int32)), .unset] [(.ref wNEW)])) rfl (hb hby at_59)
      refine OwnGo.of st8 ?_
      show OwnGo p.tables e below _ (T8.setTop (mkF m 62 #[.val (.int p0), .val (.int (0 : Int32)), .val (.int (0 : Int32)), .val (.ref wNEW), .val (.int (0 : Int32)), .val (.int (0 : Int32)), .unset] [(.ref wNEW), (.ref wNEW)]))
      have hc9 : wNEW = wNEW := rfl
      refine OwnGo.of (A := T8.setTop (mkF m 62 #[.val (.int p0), .val (.int (0 : Int32)), .val (.int (0 : Int32)), .val (.ref wNEW), .val (.int (0 : Int32)), .val (.int (0 : Int32)), .unset] [(.ref wNEW), (.ref wNEW)])) (B := T8.setTop (mkF m 79 #[.val (.int p0), .val (.int (0 : Int32)), .val (.int (0 : Int32)), .val (.ref wNEW), .val (.int (0 : Int32)), .val (.int (0 : Int32)), .val (.int (1 : Int32))] [(.int (0 : Int32)), (.int (0 : Int32))])) (fun t k => ?_) ?_
      · show Steps p.tables e below (T8.setTop (mkF m 62 #[.val (.int p0), .val (.int (0 : Int32)), .val (.int (0 : Int32)), .val (.ref wNEW), .val (.int (0 : Int32)), .val (.int (0 : Int32)), .unset] [(.ref wNEW), (.ref wNEW)])) t
        refine Jvm.RoadKit.acmp (g := (mkF m 62 #[.val (.int p0), .val (.int (0 : Int32)), .val (.int (0 : Int32)), .val (.ref wNEW), .val (.int (0 : Int32)), .val (.int (0 : Int32)), .unset] [(.ref wNEW), (.ref wNEW)])) X8 hx rfl rfl rfl (pc0 := 62) (pc' := 65) (same := true) rfl (hb hby at_62) rfl (decide_eq_true (congrArg Value.ref hc9)) (by decide) (by decide) ?_
        show Steps p.tables e below (T8.setTop (mkF m 65 #[.val (.int p0), .val (.int (0 : Int32)), .val (.int (0 : Int32)), .val (.ref wNEW), .val (.int (0 : Int32)), .val (.int (0 : Int32)), .unset] [])) t
        refine XS.iconst X8.here hx rfl (hb hby at_65) ?_
        show Steps p.tables e below (T8.setTop (mkF m 66 #[.val (.int p0), .val (.int (0 : Int32)), .val (.int (0 : Int32)), .val (.ref wNEW), .val (.int (0 : Int32)), .val (.int (0 : Int32)), .unset] [(.int (1 : Int32))])) t
        refine XS.goto X8.here hx rfl (pc0 := 66) (pc' := 70) rfl (hb hby at_66) (by decide) (by decide) ?_
        show Steps p.tables e below (T8.setTop (mkF m 70 #[.val (.int p0), .val (.int (0 : Int32)), .val (.int (0 : Int32)), .val (.ref wNEW), .val (.int (0 : Int32)), .val (.int (0 : Int32)), .unset] [(.int (1 : Int32))])) t
        refine XS.istore X8.here hx rfl (hb hby at_70) rfl (l' := #[.val (.int p0), .val (.int (0 : Int32)), .val (.int (0 : Int32)), .val (.ref wNEW), .val (.int (0 : Int32)), .val (.int (0 : Int32)), .val (.int (1 : Int32))]) rfl ?_
        show Steps p.tables e below (T8.setTop (mkF m 72 #[.val (.int p0), .val (.int (0 : Int32)), .val (.int (0 : Int32)), .val (.ref wNEW), .val (.int (0 : Int32)), .val (.int (0 : Int32)), .val (.int (1 : Int32))] [])) t
        refine XS.aloadN X8.here hx rfl (hb hby at_72) rfl rfl ?_
        show Steps p.tables e below (T8.setTop (mkF m 73 #[.val (.int p0), .val (.int (0 : Int32)), .val (.int (0 : Int32)), .val (.ref wNEW), .val (.int (0 : Int32)), .val (.int (0 : Int32)), .val (.int (1 : Int32))] [(.ref wNEW)])) t
        refine XS.ifnullNo X8.here hx rfl (hb hby at_73) rfl ?_
        show Steps p.tables e below (T8.setTop (mkF m 76 #[.val (.int p0), .val (.int (0 : Int32)), .val (.int (0 : Int32)), .val (.ref wNEW), .val (.int (0 : Int32)), .val (.int (0 : Int32)), .val (.int (1 : Int32))] [])) t
        refine XS.iload X8.here hx rfl (hb hby at_76) rfl ?_
        show Steps p.tables e below (T8.setTop (mkF m 78 #[.val (.int p0), .val (.int (0 : Int32)), .val (.int (0 : Int32)), .val (.ref wNEW), .val (.int (0 : Int32)), .val (.int (0 : Int32)), .val (.int (1 : Int32))] [(.int (0 : Int32))])) t
        refine XS.iloadN X8.here hx rfl (hb hby at_78) rfl ?_
        exact k
      have hc10 : (0 : Int32) = (0 : Int32) := by decide
      refine OwnGo.of (A := T8.setTop (mkF m 79 #[.val (.int p0), .val (.int (0 : Int32)), .val (.int (0 : Int32)), .val (.ref wNEW), .val (.int (0 : Int32)), .val (.int (0 : Int32)), .val (.int (1 : Int32))] [(.int (0 : Int32)), (.int (0 : Int32))])) (B := T8.setTop (mkF m 85 #[.val (.int p0), .val (.int (0 : Int32)), .val (.int (0 : Int32)), .val (.ref wNEW), .val (.int (0 : Int32)), .val (.int (0 : Int32)), .val (.int (1 : Int32))] [(.int (0 : Int32)), (.int (0 : Int32))])) (fun t k => ?_) ?_
      · show Steps p.tables e below (T8.setTop (mkF m 79 #[.val (.int p0), .val (.int (0 : Int32)), .val (.int (0 : Int32)), .val (.ref wNEW), .val (.int (0 : Int32)), .val (.int (0 : Int32)), .val (.int (1 : Int32))] [(.int (0 : Int32)), (.int (0 : Int32))])) t
        refine XS.icmpNo X8.here hx rfl (hb hby at_79) rfl (teq hc10).2 ?_
        show Steps p.tables e below (T8.setTop (mkF m 82 #[.val (.int p0), .val (.int (0 : Int32)), .val (.int (0 : Int32)), .val (.ref wNEW), .val (.int (0 : Int32)), .val (.int (0 : Int32)), .val (.int (1 : Int32))] [])) t
        refine XS.iload X8.here hx rfl (hb hby at_82) rfl ?_
        show Steps p.tables e below (T8.setTop (mkF m 84 #[.val (.int p0), .val (.int (0 : Int32)), .val (.int (0 : Int32)), .val (.ref wNEW), .val (.int (0 : Int32)), .val (.int (0 : Int32)), .val (.int (1 : Int32))] [(.int (0 : Int32))])) t
        refine XS.iloadN X8.here hx rfl (hb hby at_84) rfl ?_
        exact k
      have hc11 : (0 : Int32) = (0 : Int32) := by decide
      refine OwnGo.of (A := T8.setTop (mkF m 85 #[.val (.int p0), .val (.int (0 : Int32)), .val (.int (0 : Int32)), .val (.ref wNEW), .val (.int (0 : Int32)), .val (.int (0 : Int32)), .val (.int (1 : Int32))] [(.int (0 : Int32)), (.int (0 : Int32))])) (B := T8.setTop (mkF m 89 #[.val (.int p0), .val (.int (0 : Int32)), .val (.int (0 : Int32)), .val (.ref wNEW), .val (.int (0 : Int32)), .val (.int (0 : Int32)), .val (.int (1 : Int32))] [(.int (0 : Int32)), (.int (0 : Int32))])) (fun t k => ?_) ?_
      · show Steps p.tables e below (T8.setTop (mkF m 85 #[.val (.int p0), .val (.int (0 : Int32)), .val (.int (0 : Int32)), .val (.ref wNEW), .val (.int (0 : Int32)), .val (.int (0 : Int32)), .val (.int (1 : Int32))] [(.int (0 : Int32)), (.int (0 : Int32))])) t
        refine XS.ifNo X8.here hx rfl (hb hby at_85) rfl ((if0 _ _).trans (teq hc11).2) ?_
        show Steps p.tables e below (T8.setTop (mkF m 88 #[.val (.int p0), .val (.int (0 : Int32)), .val (.int (0 : Int32)), .val (.ref wNEW), .val (.int (0 : Int32)), .val (.int (0 : Int32)), .val (.int (1 : Int32))] [(.int (0 : Int32))])) t
        refine XS.iloadN X8.here hx rfl (hb hby at_88) rfl ?_
        exact k
      have hc12 : (0 : Int32) = (0 : Int32) := by decide
      refine OwnGo.of (A := T8.setTop (mkF m 89 #[.val (.int p0), .val (.int (0 : Int32)), .val (.int (0 : Int32)), .val (.ref wNEW), .val (.int (0 : Int32)), .val (.int (0 : Int32)), .val (.int (1 : Int32))] [(.int (0 : Int32)), (.int (0 : Int32))])) (B := T8.setTop (mkF m 97 #[.val (.int p0), .val (.int (0 : Int32)), .val (.int (0 : Int32)), .val (.ref wNEW), .val (.int (0 : Int32)), .val (.int (0 : Int32)), .val (.int (1 : Int32))] [(.int (0 : Int32)), (.int (0 : Int32))])) (fun t k => ?_) ?_
      · show Steps p.tables e below (T8.setTop (mkF m 89 #[.val (.int p0), .val (.int (0 : Int32)), .val (.int (0 : Int32)), .val (.ref wNEW), .val (.int (0 : Int32)), .val (.int (0 : Int32)), .val (.int (1 : Int32))] [(.int (0 : Int32)), (.int (0 : Int32))])) t
        refine XS.ifYes X8.here hx rfl (pc0 := 89) (pc' := 96) rfl (hb hby at_89) rfl ((if0 _ _).trans (teq hc12).1) (by decide) (by decide) ?_
        show Steps p.tables e below (T8.setTop (mkF m 96 #[.val (.int p0), .val (.int (0 : Int32)), .val (.int (0 : Int32)), .val (.ref wNEW), .val (.int (0 : Int32)), .val (.int (0 : Int32)), .val (.int (1 : Int32))] [(.int (0 : Int32))])) t
        refine XS.iconst X8.here hx rfl (hb hby at_96) ?_
        exact k
      have hc13 : (0 : Int32) = (0 : Int32) := by decide
      refine OwnGo.of (A := T8.setTop (mkF m 97 #[.val (.int p0), .val (.int (0 : Int32)), .val (.int (0 : Int32)), .val (.ref wNEW), .val (.int (0 : Int32)), .val (.int (0 : Int32)), .val (.int (1 : Int32))] [(.int (0 : Int32)), (.int (0 : Int32))])) (B := T8.setTop (mkF m 103 #[.val (.int p0), .val (.int (0 : Int32)), .val (.int (0 : Int32)), .val (.ref wNEW), .val (.int (0 : Int32)), .val (.int (0 : Int32)), .val (.int (1 : Int32))] [(.int (0 : Int32)), (.int (1 : Int32))])) (fun t k => ?_) ?_
      · show Steps p.tables e below (T8.setTop (mkF m 97 #[.val (.int p0), .val (.int (0 : Int32)), .val (.int (0 : Int32)), .val (.ref wNEW), .val (.int (0 : Int32)), .val (.int (0 : Int32)), .val (.int (1 : Int32))] [(.int (0 : Int32)), (.int (0 : Int32))])) t
        refine XS.icmpNo X8.here hx rfl (hb hby at_97) rfl (teq hc13).2 ?_
        show Steps p.tables e below (T8.setTop (mkF m 100 #[.val (.int p0), .val (.int (0 : Int32)), .val (.int (0 : Int32)), .val (.ref wNEW), .val (.int (0 : Int32)), .val (.int (0 : Int32)), .val (.int (1 : Int32))] [])) t
        refine XS.iload X8.here hx rfl (hb hby at_100) rfl ?_
        show Steps p.tables e below (T8.setTop (mkF m 102 #[.val (.int p0), .val (.int (0 : Int32)), .val (.int (0 : Int32)), .val (.ref wNEW), .val (.int (0 : Int32)), .val (.int (0 : Int32)), .val (.int (1 : Int32))] [(.int (1 : Int32))])) t
        refine XS.iloadN X8.here hx rfl (hb hby at_102) rfl ?_
        exact k
      have hc14 : (0 : Int32) = (0 : Int32) := by decide
      refine OwnGo.of (A := T8.setTop (mkF m 103 #[.val (.int p0), .val (.int (0 : Int32)), .val (.int (0 : Int32)), .val (.ref wNEW), .val (.int (0 : Int32)), .val (.int (0 : Int32)), .val (.int (1 : Int32))] [(.int (0 : Int32)), (.int (1 : Int32))])) (B := T8.setTop (mkF m 107 #[.val (.int p0), .val (.int (0 : Int32)), .val (.int (0 : Int32)), .val (.ref wNEW), .val (.int (0 : Int32)), .val (.int (0 : Int32)), .val (.int (1 : Int32))] [(.int (0 : Int32)), (.int (1 : Int32))])) (fun t k => ?_) ?_
      · show Steps p.tables e below (T8.setTop (mkF m 103 #[.val (.int p0), .val (.int (0 : Int32)), .val (.int (0 : Int32)), .val (.ref wNEW), .val (.int (0 : Int32)), .val (.int (0 : Int32)), .val (.int (1 : Int32))] [(.int (0 : Int32)), (.int (1 : Int32))])) t
        refine XS.ifNo X8.here hx rfl (hb hby at_103) rfl ((if0 _ _).trans (teq hc14).2) ?_
        show Steps p.tables e below (T8.setTop (mkF m 106 #[.val (.int p0), .val (.int (0 : Int32)), .val (.int (0 : Int32)), .val (.ref wNEW), .val (.int (0 : Int32)), .val (.int (0 : Int32)), .val (.int (1 : Int32))] [(.int (1 : Int32))])) t
        refine XS.iloadN X8.here hx rfl (hb hby at_106) rfl ?_
        exact k
      have hc15 : (0 : Int32) = (0 : Int32) := by decide
      refine OwnGo.of (A := T8.setTop (mkF m 107 #[.val (.int p0), .val (.int (0 : Int32)), .val (.int (0 : Int32)), .val (.ref wNEW), .val (.int (0 : Int32)), .val (.int (0 : Int32)), .val (.int (1 : Int32))] [(.int (0 : Int32)), (.int (1 : Int32))])) (B := T8.setTop (mkF m 115 #[.val (.int p0), .val (.int (0 : Int32)), .val (.int (0 : Int32)), .val (.ref wNEW), .val (.int (0 : Int32)), .val (.int (0 : Int32)), .val (.int (1 : Int32))] [(.int (1 : Int32)), (.int (1 : Int32))])) (fun t k => ?_) ?_
      · show Steps p.tables e below (T8.setTop (mkF m 107 #[.val (.int p0), .val (.int (0 : Int32)), .val (.int (0 : Int32)), .val (.ref wNEW), .val (.int (0 : Int32)), .val (.int (0 : Int32)), .val (.int (1 : Int32))] [(.int (0 : Int32)), (.int (1 : Int32))])) t
        refine XS.ifNo X8.here hx rfl (hb hby at_107) rfl ((if0 _ _).trans (teq hc15).2) ?_
        show Steps p.tables e below (T8.setTop (mkF m 110 #[.val (.int p0), .val (.int (0 : Int32)), .val (.int (0 : Int32)), .val (.ref wNEW), .val (.int (0 : Int32)), .val (.int (0 : Int32)), .val (.int (1 : Int32))] [(.int (1 : Int32))])) t
        refine XS.iconst X8.here hx rfl (hb hby at_110) ?_
        show Steps p.tables e below (T8.setTop (mkF m 111 #[.val (.int p0), .val (.int (0 : Int32)), .val (.int (0 : Int32)), .val (.ref wNEW), .val (.int (0 : Int32)), .val (.int (0 : Int32)), .val (.int (1 : Int32))] [(.int (1 : Int32)), (.int (1 : Int32))])) t
        refine XS.goto X8.here hx rfl (pc0 := 111) (pc' := 115) rfl (hb hby at_111) (by decide) (by decide) ?_
        exact k
      have hc16 : (1 : Int32) = (1 : Int32) := by decide
      refine OwnGo.of (A := T8.setTop (mkF m 115 #[.val (.int p0), .val (.int (0 : Int32)), .val (.int (0 : Int32)), .val (.ref wNEW), .val (.int (0 : Int32)), .val (.int (0 : Int32)), .val (.int (1 : Int32))] [(.int (1 : Int32)), (.int (1 : Int32))])) (B := T8.setTop (mkF m 123 #[.val (.int p0), .val (.int (0 : Int32)), .val (.int (0 : Int32)), .val (.ref wNEW), .val (.int (0 : Int32)), .val (.int (0 : Int32)), .val (.int (1 : Int32))] [(.int (1 : Int32))])) (fun t k => ?_) ?_
      · show Steps p.tables e below (T8.setTop (mkF m 115 #[.val (.int p0), .val (.int (0 : Int32)), .val (.int (0 : Int32)), .val (.ref wNEW), .val (.int (0 : Int32)), .val (.int (0 : Int32)), .val (.int (1 : Int32))] [(.int (1 : Int32)), (.int (1 : Int32))])) t
        refine XS.icmpNo X8.here hx rfl (hb hby at_115) rfl (teq hc16).2 ?_
        show Steps p.tables e below (T8.setTop (mkF m 118 #[.val (.int p0), .val (.int (0 : Int32)), .val (.int (0 : Int32)), .val (.ref wNEW), .val (.int (0 : Int32)), .val (.int (0 : Int32)), .val (.int (1 : Int32))] [])) t
        refine XS.iconst X8.here hx rfl (hb hby at_118) ?_
        show Steps p.tables e below (T8.setTop (mkF m 119 #[.val (.int p0), .val (.int (0 : Int32)), .val (.int (0 : Int32)), .val (.ref wNEW), .val (.int (0 : Int32)), .val (.int (0 : Int32)), .val (.int (1 : Int32))] [(.int (1 : Int32))])) t
        refine XS.goto X8.here hx rfl (pc0 := 119) (pc' := 123) rfl (hb hby at_119) (by decide) (by decide) ?_
        exact k
      obtain ⟨fs, hr, hrun, hended, hW, hsame⟩ := X8.leave (v := some (.int (nar .boolean (1 : Int32)))) (fun h => by rw [Bd.returns] at h; cases h) hlk
      refine ⟨_, _, ?_, hrun, hended, _, _, rfl, ?_, ⟨_, rfl⟩, hW, hsame.mono (by decide) (by decide)⟩
      · show Steps p.tables e below (T8.setTop (mkF m 123 #[.val (.int p0), .val (.int (0 : Int32)), .val (.int (0 : Int32)), .val (.ref wNEW), .val (.int (0 : Int32)), .val (.int (0 : Int32)), .val (.int (1 : Int32))] [(.int (1 : Int32))])) _
        exact retN X8 hx (t := .boolean) Bd.returns (by simp) (hb hby at_123) hr
      · show Qrm0 Z p0 wNEW wIDLE wBUSY h0 n0 _ (T8.setFrames fs).heap _
        rw [show (T8.setFrames fs).heap = h0 from e8]
        exact ⟨rfl, N3⟩
    · refine OwnGo.of (A := s₁.setTop (mkF m 15 #[.val (.int p0), .val (.int (0 : Int32)), .unset, .unset, .unset, .unset, .unset] [(.int (p0 &&& (2 : Int32)))])) (B := s₁.setTop (mkF m 26 #[.val (.int p0), .val (.int (0 : Int32)), .val (.int (1 : Int32)), .unset, .unset, .unset, .unset] [(.int (1 : Int32)), (.int (0 : Int32))])) (fun t k => ?_) ?_
      · show Steps p.tables e below (s₁.setTop (mkF m 15 #[.val (.int p0), .val (.int (0 : Int32)), .unset, .unset, .unset, .unset, .unset] [(.int (p0 &&& (2 : Int32)))])) t
        refine XS.ifNo X0.here hx rfl (hb hby at_15) rfl ((if0 _ _).trans (feq hc2).1) ?_
        show Steps p.tables e below (s₁.setTop (mkF m 18 #[.val (.int p0), .val (.int (0 : Int32)), .unset, .unset, .unset, .unset, .unset] [])) t
        refine XS.iconst X0.here hx rfl (hb hby at_18) ?_
        show Steps p.tables e below (s₁.setTop (mkF m 19 #[.val (.int p0), .val (.int (0 : Int32)), .unset, .unset, .unset, .unset, .unset] [(.int (1 : Int32))])) t
        refine XS.goto X0.here hx rfl (pc0 := 19) (pc' := 23) rfl (hb hby at_19) (by decide) (by decide) ?_
        show Steps p.tables e below (s₁.setTop (mkF m 23 #[.val (.int p0), .val (.int (0 : Int32)), .unset, .unset, .unset, .unset, .unset] [(.int (1 : Int32))])) t
        refine XS.istoreN X0.here hx rfl (hb hby at_23) rfl (l' := #[.val (.int p0), .val (.int (0 : Int32)), .val (.int (1 : Int32)), .unset, .unset, .unset, .unset]) rfl ?_
        show Steps p.tables e below (s₁.setTop (mkF m 24 #[.val (.int p0), .val (.int (0 : Int32)), .val (.int (1 : Int32)), .unset, .unset, .unset, .unset] [])) t
        refine XS.iloadN X0.here hx rfl (hb hby at_24) rfl ?_
        show Steps p.tables e below (s₁.setTop (mkF m 25 #[.val (.int p0), .val (.int (0 : Int32)), .val (.int (1 : Int32)), .unset, .unset, .unset, .unset] [(.int (0 : Int32))])) t
        refine XS.iloadN X0.here hx rfl (hb hby at_25) rfl ?_
        exact k
      obtain ⟨_, _, ⟨T18, L18, k18, n18⟩, -, X18, ⟨Lc18, hQ18, l18, y18, z18⟩, st18⟩ := Jvm.LawKit.callS X0 hx (y := (⟨"com/example/map_of_brokers/mapofbrokers/kafka/ListenerConnection$Stage", "of", "(ZZ)Lcom/example/map_of_brokers/mapofbrokers/kafka/ListenerConnection$Stage;"⟩ : MethodName)) hown (mvT hZ (hw _ (List.mem_of_getElem? (i := 0) rfl))) (mvT hZ (hw _ (List.mem_of_getElem? (i := 1) rfl))) (mvT hZ (hw _ (List.mem_of_getElem? (i := 2) rfl))) (mvT hZ (hw _ (List.mem_of_getElem? (i := 3) rfl))) (by decide) (backOf (W := 0) (rm1 l Z aw hw [] (0 : Int32) (1 : Int32) wNEW wIDLE wBUSY h0 n0 Z0 S_NEW S_IDLE S_BUSY) hZ (hw _ (List.mem_of_getElem? (i := 3) rfl)) (hw _ (List.mem_of_getElem? (i := 2) rfl)) (by decide) (by decide)) (g := (mkF m 26 #[.val (.int p0), .val (.int (0 : Int32)), .val (.int (1 : Int32)), .unset, .unset, .unset, .unset] [(.int (1 : Int32)), (.int (0 : Int32))])) rfl (by rw [hml]; rfl) (argsL := [(.int (0 : Int32)), (.int (1 : Int32))]) (rest := []) (lenOf pd_1 rfl) rfl (by show 2 * 0 + _ ≤ _; exact Nat.le_of_eq rfl) (hb hby at_26) (fun _ _ => ⟨rfl, e0, (by decide : 0 + 0 ≤ _), (by decide : 0 + 0 ≤ _)⟩)
      dsimp only [Pt.U, Pt.locs, Pt.cells, Pt.slots] at X18 l18 y18 z18 st18 hQ18
      subst l18 y18 z18
      obtain ⟨hv18, N18q, eq18⟩ := hQ18
      rw [show own_f1 (0 : Int32) (1 : Int32) wNEW wIDLE wBUSY = wIDLE from by simp [own_f1]] at hv18
      subst hv18
      have N18 := Fr.app N0 N18q
      refine OwnGo.of st18 ?_
      show OwnGo p.tables e below _ (T18.setTop (mkF m 29 #[.val (.int p0), .val (.int (0 : Int32)), .val (.int (1 : Int32)), .unset, .unset, .unset, .unset] [(.ref wIDLE)]))
      refine OwnGo.of (A := T18.setTop (mkF m 29 #[.val (.int p0), .val (.int (0 : Int32)), .val (.int (1 : Int32)), .unset, .unset, .unset, .unset] [(.ref wIDLE)])) (B := T18.setTop (mkF m 31 #[.val (.int p0), .val (.int (0 : Int32)), .val (.int (1 : Int32)), .val (.ref wIDLE), .unset, .unset, .unset] [(.ref wIDLE)])) (fun t k => ?_) ?_
      · show Steps p.tables e below (T18.setTop (mkF m 29 #[.val (.int p0), .val (.int (0 : Int32)), .val (.int (1 : Int32)), .unset, .unset, .unset, .unset] [(.ref wIDLE)])) t
        refine XS.astoreN X18.here hx rfl (hb hby at_29) rfl rfl (l' := #[.val (.int p0), .val (.int (0 : Int32)), .val (.int (1 : Int32)), .val (.ref wIDLE), .unset, .unset, .unset]) rfl ?_
        show Steps p.tables e below (T18.setTop (mkF m 30 #[.val (.int p0), .val (.int (0 : Int32)), .val (.int (1 : Int32)), .val (.ref wIDLE), .unset, .unset, .unset] [])) t
        refine XS.aloadN X18.here hx rfl (hb hby at_30) rfl rfl ?_
        exact k
      obtain ⟨T19, X19, e19, st19⟩ := getS2 X18 hx hZ hown (host := "") (Or.inl (hw _ (List.mem_of_getElem? (i := 6) rfl))) Via.refl eq18 S_BUSY (g := (mkF m 31 #[.val (.int p0), .val (.int (0 : Int32)), .val (.int (1 : Int32)), .val (.ref wIDLE), .unset, .unset, .unset] [(.ref wIDLE)])) rfl (hb hby at_31)
      refine OwnGo.of st19 ?_
      show OwnGo p.tables e below _ (T19.setTop (mkF m 34 #[.val (.int p0), .val (.int (0 : Int32)), .val (.int (1 : Int32)), .val (.ref wIDLE), .unset, .unset, .unset] [(.ref wBUSY), (.ref wIDLE)]))
      have hc20 : ¬ (wIDLE = wBUSY) := by first | exact hne1 | exact hne2 | exact hne3 | exact Ne.symm hne1 | exact Ne.symm hne2 | exact Ne.symm hne3
      refine OwnGo.of (A := T19.setTop (mkF m 34 #[.val (.int p0), .val (.int (0 : Int32)), .val (.int (1 : Int32)), .val (.ref wIDLE), .unset, .unset, .unset] [(.ref wBUSY), (.ref wIDLE)])) (B := T19.setTop (mkF m 45 #[.val (.int p0), .val (.int (0 : Int32)), .val (.int (1 : Int32)), .val (.ref wIDLE), .val (.int (0 : Int32)), .unset, .unset] [(.ref wIDLE)])) (fun t k => ?_) ?_
      · show Steps p.tables e below (T19.setTop (mkF m 34 #[.val (.int p0), .val (.int (0 : Int32)), .val (.int (1 : Int32)), .val (.ref wIDLE), .unset, .unset, .unset] [(.ref wBUSY), (.ref wIDLE)])) t
        refine Jvm.RoadKit.acmp (g := (mkF m 34 #[.val (.int p0), .val (.int (0 : Int32)), .val (.int (1 : Int32)), .val (.ref wIDLE), .unset, .unset, .unset] [(.ref wBUSY), (.ref wIDLE)])) X19 hx rfl rfl rfl (pc0 := 34) (pc' := 41) (same := false) rfl (hb hby at_34) rfl (decide_eq_false fun q => hc20 (Value.ref.inj q)) (by decide) (by decide) ?_
        show Steps p.tables e below (T19.setTop (mkF m 41 #[.val (.int p0), .val (.int (0 : Int32)), .val (.int (1 : Int32)), .val (.ref wIDLE), .unset, .unset, .unset] [])) t
        refine XS.iconst X19.here hx rfl (hb hby at_41) ?_
        show Steps p.tables e below (T19.setTop (mkF m 42 #[.val (.int p0), .val (.int (0 : Int32)), .val (.int (1 : Int32)), .val (.ref wIDLE), .unset, .unset, .unset] [(.int (0 : Int32))])) t
        refine XS.istore X19.here hx rfl (hb hby at_42) rfl (l' := #[.val (.int p0), .val (.int (0 : Int32)), .val (.int (1 : Int32)), .val (.ref wIDLE), .val (.int (0 : Int32)), .unset, .unset]) rfl ?_
        show Steps p.tables e below (T19.setTop (mkF m 44 #[.val (.int p0), .val (.int (0 : Int32)), .val (.int (1 : Int32)), .val (.ref wIDLE), .val (.int (0 : Int32)), .unset, .unset] [])) t
        refine XS.aloadN X19.here hx rfl (hb hby at_44) rfl rfl ?_
        exact k
      obtain ⟨T21, X21, e21, st21⟩ := getS2 X19 hx hZ hown (host := "") (Or.inl (hw _ (List.mem_of_getElem? (i := 8) rfl))) Via.refl e19 S_IDLE (g := (mkF m 45 #[.val (.int p0), .val (.int (0 : Int32)), .val (.int (1 : Int32)), .val (.ref wIDLE), .val (.int (0 : Int32)), .unset, .unset] [(.ref wIDLE)])) rfl (hb hby at_45)
      refine OwnGo.of st21 ?_
      show OwnGo p.tables e below _ (T21.setTop (mkF m 48 #[.val (.int p0), .val (.int (0 : Int32)), .val (.int (1 : Int32)), .val (.ref wIDLE), .val (.int (0 : Int32)), .unset, .unset] [(.ref wIDLE), (.ref wIDLE)]))
      have hc22 : wIDLE = wIDLE := rfl
      refine OwnGo.of (A := T21.setTop (mkF m 48 #[.val (.int p0), .val (.int (0 : Int32)), .val (.int (1 : Int32)), .val (.ref wIDLE), .val (.int (0 : Int32)), .unset, .unset] [(.ref wIDLE), (.ref wIDLE)])) (B := T21.setTop (mkF m 59 #[.val (.int p0), .val (.int (0 : Int32)), .val (.int (1 : Int32)), .val (.ref wIDLE), .val (.int (0 : Int32)), .val (.int (1 : Int32)), .unset] [(.ref wIDLE)])) (fun t k => ?_) ?_
      · show Steps p.tables e below (T21.setTop (mkF m 48 #[.val (.int p0), .val (.int (0 : Int32)), .val (.int (1 : Int32)), .val (.ref wIDLE), .val (.int (0 : Int32)), .unset, .unset] [(.ref wIDLE), (.ref wIDLE)])) t
        refine Jvm.RoadKit.acmp (g := (mkF m 48 #[.val (.int p0), .val (.int (0 : Int32)), .val (.int (1 : Int32)), .val (.ref wIDLE), .val (.int (0 : Int32)), .unset, .unset] [(.ref wIDLE), (.ref wIDLE)])) X21 hx rfl rfl rfl (pc0 := 48) (pc' := 51) (same := true) rfl (hb hby at_48) rfl (decide_eq_true (congrArg Value.ref hc22)) (by decide) (by decide) ?_
        show Steps p.tables e below (T21.setTop (mkF m 51 #[.val (.int p0), .val (.int (0 : Int32)), .val (.int (1 : Int32)), .val (.ref wIDLE), .val (.int (0 : Int32)), .unset, .unset] [])) t
        refine XS.iconst X21.here hx rfl (hb hby at_51) ?_
        show Steps p.tables e below (T21.setTop (mkF m 52 #[.val (.int p0), .val (.int (0 : Int32)), .val (.int (1 : Int32)), .val (.ref wIDLE), .val (.int (0 : Int32)), .unset, .unset] [(.int (1 : Int32))])) t
        refine XS.goto X21.here hx rfl (pc0 := 52) (pc' := 56) rfl (hb hby at_52) (by decide) (by decide) ?_
        show Steps p.tables e below (T21.setTop (mkF m 56 #[.val (.int p0), .val (.int (0 : Int32)), .val (.int (1 : Int32)), .val (.ref wIDLE), .val (.int (0 : Int32)), .unset, .unset] [(.int (1 : Int32))])) t
        refine XS.istore X21.here hx rfl (hb hby at_56) rfl (l' := #[.val (.int p0), .val (.int (0 : Int32)), .val (.int (1 : Int32)), .val (.ref wIDLE), .val (.int (0 : Int32)), .val (.int (1 : Int32)), .unset]) rfl ?_
        show Steps p.tables e below (T21.setTop (mkF m 58 #[.val (.int p0), .val (.int (0 : Int32)), .val (.int (1 : Int32)), .val (.ref wIDLE), .val (.int (0 : Int32)), .val (.int (1 : Int32)), .unset] [])) t
        refine XS.aloadN X21.here hx rfl (hb hby at_58) rfl rfl ?_
        exact k
      obtain ⟨T23, X23, e23, st23⟩ := getS2 X21 hx hZ hown (host := "") (Or.inl (hw _ (List.mem_of_getElem? (i := 10) rfl))) Via.refl e21 S_NEW (g := (mkF m 59 #[.val (.int p0), .val (.int (0 : Int32)), .val (.int (1 : Int32)), .val (.ref wIDLE), .val (.int (0 : Int32)), .val (.int (1 : Int32)), .unset] [(.ref wIDLE)])) rfl (hb hby at_59)
      refine OwnGo.of st23 ?_
      show OwnGo p.tables e below _ (T23.setTop (mkF m 62 #[.val (.int p0), .val (.int (0 : Int32)), .val (.int (1 : Int32)), .val (.ref wIDLE), .val (.int (0 : Int32)), .val (.int (1 : Int32)), .unset] [(.ref wNEW), (.ref wIDLE)]))
      have hc24 : ¬ (wIDLE = wNEW) := by first | exact hne1 | exact hne2 | exact hne3 | exact Ne.symm hne1 | exact Ne.symm hne2 | exact Ne.symm hne3
      refine OwnGo.of (A := T23.setTop (mkF m 62 #[.val (.int p0), .val (.int (0 : Int32)), .val (.int (1 : Int32)), .val (.ref wIDLE), .val (.int (0 : Int32)), .val (.int (1 : Int32)), .unset] [(.ref wNEW), (.ref wIDLE)])) (B := T23.setTop (mkF m 79 #[.val (.int p0), .val (.int (0 : Int32)), .val (.int (1 : Int32)), .val (.ref wIDLE), .val (.int (0 : Int32)), .val (.int (1 : Int32)), .val (.int (0 : Int32))] [(.int (0 : Int32)), (.int (0 : Int32))])) (fun t k => ?_) ?_
      · show Steps p.tables e below (T23.setTop (mkF m 62 #[.val (.int p0), .val (.int (0 : Int32)), .val (.int (1 : Int32)), .val (.ref wIDLE), .val (.int (0 : Int32)), .val (.int (1 : Int32)), .unset] [(.ref wNEW), (.ref wIDLE)])) t
        refine Jvm.RoadKit.acmp (g := (mkF m 62 #[.val (.int p0), .val (.int (0 : Int32)), .val (.int (1 : Int32)), .val (.ref wIDLE), .val (.int (0 : Int32)), .val (.int (1 : Int32)), .unset] [(.ref wNEW), (.ref wIDLE)])) X23 hx rfl rfl rfl (pc0 := 62) (pc' := 69) (same := false) rfl (hb hby at_62) rfl (decide_eq_false fun q => hc24 (Value.ref.inj q)) (by decide) (by decide) ?_
        show Steps p.tables e below (T23.setTop (mkF m 69 #[.val (.int p0), .val (.int (0 : Int32)), .val (.int (1 : Int32)), .val (.ref wIDLE), .val (.int (0 : Int32)), .val (.int (1 : Int32)), .unset] [])) t
        refine XS.iconst X23.here hx rfl (hb hby at_69) ?_
        show Steps p.tables e below (T23.setTop (mkF m 70 #[.val (.int p0), .val (.int (0 : Int32)), .val (.int (1 : Int32)), .val (.ref wIDLE), .val (.int (0 : Int32)), .val (.int (1 : Int32)), .unset] [(.int (0 : Int32))])) t
        refine XS.istore X23.here hx rfl (hb hby at_70) rfl (l' := #[.val (.int p0), .val (.int (0 : Int32)), .val (.int (1 : Int32)), .val (.ref wIDLE), .val (.int (0 : Int32)), .val (.int (1 : Int32)), .val (.int (0 : Int32))]) rfl ?_
        show Steps p.tables e below (T23.setTop (mkF m 72 #[.val (.int p0), .val (.int (0 : Int32)), .val (.int (1 : Int32)), .val (.ref wIDLE), .val (.int (0 : Int32)), .val (.int (1 : Int32)), .val (.int (0 : Int32))] [])) t
        refine XS.aloadN X23.here hx rfl (hb hby at_72) rfl rfl ?_
        show Steps p.tables e below (T23.setTop (mkF m 73 #[.val (.int p0), .val (.int (0 : Int32)), .val (.int (1 : Int32)), .val (.ref wIDLE), .val (.int (0 : Int32)), .val (.int (1 : Int32)), .val (.int (0 : Int32))] [(.ref wIDLE)])) t
        refine XS.ifnullNo X23.here hx rfl (hb hby at_73) rfl ?_
        show Steps p.tables e below (T23.setTop (mkF m 76 #[.val (.int p0), .val (.int (0 : Int32)), .val (.int (1 : Int32)), .val (.ref wIDLE), .val (.int (0 : Int32)), .val (.int (1 : Int32)), .val (.int (0 : Int32))] [])) t
        refine XS.iload X23.here hx rfl (hb hby at_76) rfl ?_
        show Steps p.tables e below (T23.setTop (mkF m 78 #[.val (.int p0), .val (.int (0 : Int32)), .val (.int (1 : Int32)), .val (.ref wIDLE), .val (.int (0 : Int32)), .val (.int (1 : Int32)), .val (.int (0 : Int32))] [(.int (0 : Int32))])) t
        refine XS.iloadN X23.here hx rfl (hb hby at_78) rfl ?_
        exact k
      have hc25 : (0 : Int32) = (0 : Int32) := by decide
      refine OwnGo.of (A := T23.setTop (mkF m 79 #[.val (.int p0), .val (.int (0 : Int32)), .val (.int (1 : Int32)), .val (.ref wIDLE), .val (.int (0 : Int32)), .val (.int (1 : Int32)), .val (.int (0 : Int32))] [(.int (0 : Int32)), (.int (0 : Int32))])) (B := T23.setTop (mkF m 85 #[.val (.int p0), .val (.int (0 : Int32)), .val (.int (1 : Int32)), .val (.ref wIDLE), .val (.int (0 : Int32)), .val (.int (1 : Int32)), .val (.int (0 : Int32))] [(.int (0 : Int32)), (.int (1 : Int32))])) (fun t k => ?_) ?_
      · show Steps p.tables e below (T23.setTop (mkF m 79 #[.val (.int p0), .val (.int (0 : Int32)), .val (.int (1 : Int32)), .val (.ref wIDLE), .val (.int (0 : Int32)), .val (.int (1 : Int32)), .val (.int (0 : Int32))] [(.int (0 : Int32)), (.int (0 : Int32))])) t
        refine XS.icmpNo X23.here hx rfl (hb hby at_79) rfl (teq hc25).2 ?_
        show Steps p.tables e below (T23.setTop (mkF m 82 #[.val (.int p0), .val (.int (0 : Int32)), .val (.int (1 : Int32)), .val (.ref wIDLE), .val (.int (0 : Int32)), .val (.int (1 : Int32)), .val (.int (0 : Int32))] [])) t
        refine XS.iload X23.here hx rfl (hb hby at_82) rfl ?_
        show Steps p.tables e below (T23.setTop (mkF m 84 #[.val (.int p0), .val (.int (0 : Int32)), .val (.int (1 : Int32)), .val (.ref wIDLE), .val (.int (0 : Int32)), .val (.int (1 : Int32)), .val (.int (0 : Int32))] [(.int (1 : Int32))])) t
        refine XS.iloadN X23.here hx rfl (hb hby at_84) rfl ?_
        exact k
      have hc26 : (0 : Int32) = (0 : Int32) := by decide
      refine OwnGo.of (A := T23.setTop (mkF m 85 #[.val (.int p0), .val (.int (0 : Int32)), .val (.int (1 : Int32)), .val (.ref wIDLE), .val (.int (0 : Int32)), .val (.int (1 : Int32)), .val (.int (0 : Int32))] [(.int (0 : Int32)), (.int (1 : Int32))])) (B := T23.setTop (mkF m 89 #[.val (.int p0), .val (.int (0 : Int32)), .val (.int (1 : Int32)), .val (.ref wIDLE), .val (.int (0 : Int32)), .val (.int (1 : Int32)), .val (.int (0 : Int32))] [(.int (1 : Int32)), (.int (1 : Int32))])) (fun t k => ?_) ?_
      · show Steps p.tables e below (T23.setTop (mkF m 85 #[.val (.int p0), .val (.int (0 : Int32)), .val (.int (1 : Int32)), .val (.ref wIDLE), .val (.int (0 : Int32)), .val (.int (1 : Int32)), .val (.int (0 : Int32))] [(.int (0 : Int32)), (.int (1 : Int32))])) t
        refine XS.ifNo X23.here hx rfl (hb hby at_85) rfl ((if0 _ _).trans (teq hc26).2) ?_
        show Steps p.tables e below (T23.setTop (mkF m 88 #[.val (.int p0), .val (.int (0 : Int32)), .val (.int (1 : Int32)), .val (.ref wIDLE), .val (.int (0 : Int32)), .val (.int (1 : Int32)), .val (.int (0 : Int32))] [(.int (1 : Int32))])) t
        refine XS.iloadN X23.here hx rfl (hb hby at_88) rfl ?_
        exact k
      have hc27 : ¬ ((1 : Int32) = (0 : Int32)) := by decide
      refine OwnGo.of (A := T23.setTop (mkF m 89 #[.val (.int p0), .val (.int (0 : Int32)), .val (.int (1 : Int32)), .val (.ref wIDLE), .val (.int (0 : Int32)), .val (.int (1 : Int32)), .val (.int (0 : Int32))] [(.int (1 : Int32)), (.int (1 : Int32))])) (B := T23.setTop (mkF m 97 #[.val (.int p0), .val (.int (0 : Int32)), .val (.int (1 : Int32)), .val (.ref wIDLE), .val (.int (0 : Int32)), .val (.int (1 : Int32)), .val (.int (0 : Int32))] [(.int (1 : Int32)), (.int (1 : Int32))])) (fun t k => ?_) ?_
      · show Steps p.tables e below (T23.setTop (mkF m 89 #[.val (.int p0), .val (.int (0 : Int32)), .val (.int (1 : Int32)), .val (.ref wIDLE), .val (.int (0 : Int32)), .val (.int (1 : Int32)), .val (.int (0 : Int32))] [(.int (1 : Int32)), (.int (1 : Int32))])) t
        refine XS.ifNo X23.here hx rfl (hb hby at_89) rfl ((if0 _ _).trans (feq hc27).1) ?_
        show Steps p.tables e below (T23.setTop (mkF m 92 #[.val (.int p0), .val (.int (0 : Int32)), .val (.int (1 : Int32)), .val (.ref wIDLE), .val (.int (0 : Int32)), .val (.int (1 : Int32)), .val (.int (0 : Int32))] [(.int (1 : Int32))])) t
        refine XS.iconst X23.here hx rfl (hb hby at_92) ?_
        show Steps p.tables e below (T23.setTop (mkF m 93 #[.val (.int p0), .val (.int (0 : Int32)), .val (.int (1 : Int32)), .val (.ref wIDLE), .val (.int (0 : Int32)), .val (.int (1 : Int32)), .val (.int (0 : Int32))] [(.int (1 : Int32)), (.int (1 : Int32))])) t
        refine XS.goto X23.here hx rfl (pc0 := 93) (pc' := 97) rfl (hb hby at_93) (by decide) (by decide) ?_
        exact k
      have hc28 : (1 : Int32) = (1 : Int32) := by decide
      refine OwnGo.of (A := T23.setTop (mkF m 97 #[.val (.int p0), .val (.int (0 : Int32)), .val (.int (1 : Int32)), .val (.ref wIDLE), .val (.int (0 : Int32)), .val (.int (1 : Int32)), .val (.int (0 : Int32))] [(.int (1 : Int32)), (.int (1 : Int32))])) (B := T23.setTop (mkF m 103 #[.val (.int p0), .val (.int (0 : Int32)), .val (.int (1 : Int32)), .val (.ref wIDLE), .val (.int (0 : Int32)), .val (.int (1 : Int32)), .val (.int (0 : Int32))] [(.int (0 : Int32)), (.int (0 : Int32))])) (fun t k => ?_) ?_
      · show Steps p.tables e below (T23.setTop (mkF m 97 #[.val (.int p0), .val (.int (0 : Int32)), .val (.int (1 : Int32)), .val (.ref wIDLE), .val (.int (0 : Int32)), .val (.int (1 : Int32)), .val (.int (0 : Int32))] [(.int (1 : Int32)), (.int (1 : Int32))])) t
        refine XS.icmpNo X23.here hx rfl (hb hby at_97) rfl (teq hc28).2 ?_
        show Steps p.tables e below (T23.setTop (mkF m 100 #[.val (.int p0), .val (.int (0 : Int32)), .val (.int (1 : Int32)), .val (.ref wIDLE), .val (.int (0 : Int32)), .val (.int (1 : Int32)), .val (.int (0 : Int32))] [])) t
        refine XS.iload X23.here hx rfl (hb hby at_100) rfl ?_
        show Steps p.tables e below (T23.setTop (mkF m 102 #[.val (.int p0), .val (.int (0 : Int32)), .val (.int (1 : Int32)), .val (.ref wIDLE), .val (.int (0 : Int32)), .val (.int (1 : Int32)), .val (.int (0 : Int32))] [(.int (0 : Int32))])) t
        refine XS.iloadN X23.here hx rfl (hb hby at_102) rfl ?_
        exact k
      have hc29 : (0 : Int32) = (0 : Int32) := by decide
      refine OwnGo.of (A := T23.setTop (mkF m 103 #[.val (.int p0), .val (.int (0 : Int32)), .val (.int (1 : Int32)), .val (.ref wIDLE), .val (.int (0 : Int32)), .val (.int (1 : Int32)), .val (.int (0 : Int32))] [(.int (0 : Int32)), (.int (0 : Int32))])) (B := T23.setTop (mkF m 107 #[.val (.int p0), .val (.int (0 : Int32)), .val (.int (1 : Int32)), .val (.ref wIDLE), .val (.int (0 : Int32)), .val (.int (1 : Int32)), .val (.int (0 : Int32))] [(.int (1 : Int32)), (.int (0 : Int32))])) (fun t k => ?_) ?_
      · show Steps p.tables e below (T23.setTop (mkF m 103 #[.val (.int p0), .val (.int (0 : Int32)), .val (.int (1 : Int32)), .val (.ref wIDLE), .val (.int (0 : Int32)), .val (.int (1 : Int32)), .val (.int (0 : Int32))] [(.int (0 : Int32)), (.int (0 : Int32))])) t
        refine XS.ifNo X23.here hx rfl (hb hby at_103) rfl ((if0 _ _).trans (teq hc29).2) ?_
        show Steps p.tables e below (T23.setTop (mkF m 106 #[.val (.int p0), .val (.int (0 : Int32)), .val (.int (1 : Int32)), .val (.ref wIDLE), .val (.int (0 : Int32)), .val (.int (1 : Int32)), .val (.int (0 : Int32))] [(.int (0 : Int32))])) t
        refine XS.iloadN X23.here hx rfl (hb hby at_106) rfl ?_
        exact k
      have hc30 : ¬ ((1 : Int32) = (0 : Int32)) := by decide
      refine OwnGo.of (A := T23.setTop (mkF m 107 #[.val (.int p0), .val (.int (0 : Int32)), .val (.int (1 : Int32)), .val (.ref wIDLE), .val (.int (0 : Int32)), .val (.int (1 : Int32)), .val (.int (0 : Int32))] [(.int (1 : Int32)), (.int (0 : Int32))])) (B := T23.setTop (mkF m 115 #[.val (.int p0), .val (.int (0 : Int32)), .val (.int (1 : Int32)), .val (.ref wIDLE), .val (.int (0 : Int32)), .val (.int (1 : Int32)), .val (.int (0 : Int32))] [(.int (0 : Int32)), (.int (0 : Int32))])) (fun t k => ?_) ?_
      · show Steps p.tables e below (T23.setTop (mkF m 107 #[.val (.int p0), .val (.int (0 : Int32)), .val (.int (1 : Int32)), .val (.ref wIDLE), .val (.int (0 : Int32)), .val (.int (1 : Int32)), .val (.int (0 : Int32))] [(.int (1 : Int32)), (.int (0 : Int32))])) t
        refine XS.ifYes X23.here hx rfl (pc0 := 107) (pc' := 114) rfl (hb hby at_107) rfl ((if0 _ _).trans (feq hc30).2) (by decide) (by decide) ?_
        show Steps p.tables e below (T23.setTop (mkF m 114 #[.val (.int p0), .val (.int (0 : Int32)), .val (.int (1 : Int32)), .val (.ref wIDLE), .val (.int (0 : Int32)), .val (.int (1 : Int32)), .val (.int (0 : Int32))] [(.int (0 : Int32))])) t
        refine XS.iconst X23.here hx rfl (hb hby at_114) ?_
        exact k
      have hc31 : (0 : Int32) = (0 : Int32) := by decide
      refine OwnGo.of (A := T23.setTop (mkF m 115 #[.val (.int p0), .val (.int (0 : Int32)), .val (.int (1 : Int32)), .val (.ref wIDLE), .val (.int (0 : Int32)), .val (.int (1 : Int32)), .val (.int (0 : Int32))] [(.int (0 : Int32)), (.int (0 : Int32))])) (B := T23.setTop (mkF m 123 #[.val (.int p0), .val (.int (0 : Int32)), .val (.int (1 : Int32)), .val (.ref wIDLE), .val (.int (0 : Int32)), .val (.int (1 : Int32)), .val (.int (0 : Int32))] [(.int (1 : Int32))])) (fun t k => ?_) ?_
      · show Steps p.tables e below (T23.setTop (mkF m 115 #[.val (.int p0), .val (.int (0 : Int32)), .val (.int (1 : Int32)), .val (.ref wIDLE), .val (.int (0 : Int32)), .val (.int (1 : Int32)), .val (.int (0 : Int32))] [(.int (0 : Int32)), (.int (0 : Int32))])) t
        refine XS.icmpNo X23.here hx rfl (hb hby at_115) rfl (teq hc31).2 ?_
        show Steps p.tables e below (T23.setTop (mkF m 118 #[.val (.int p0), .val (.int (0 : Int32)), .val (.int (1 : Int32)), .val (.ref wIDLE), .val (.int (0 : Int32)), .val (.int (1 : Int32)), .val (.int (0 : Int32))] [])) t
        refine XS.iconst X23.here hx rfl (hb hby at_118) ?_
        show Steps p.tables e below (T23.setTop (mkF m 119 #[.val (.int p0), .val (.int (0 : Int32)), .val (.int (1 : Int32)), .val (.ref wIDLE), .val (.int (0 : Int32)), .val (.int (1 : Int32)), .val (.int (0 : Int32))] [(.int (1 : Int32))])) t
        refine XS.goto X23.here hx rfl (pc0 := 119) (pc' := 123) rfl (hb hby at_119) (by decide) (by decide) ?_
        exact k
      obtain ⟨fs, hr, hrun, hended, hW, hsame⟩ := X23.leave (v := some (.int (nar .boolean (1 : Int32)))) (fun h => by rw [Bd.returns] at h; cases h) hlk
      refine ⟨_, _, ?_, hrun, hended, _, _, rfl, ?_, ⟨_, rfl⟩, hW, hsame.mono (by decide) (by decide)⟩
      · show Steps p.tables e below (T23.setTop (mkF m 123 #[.val (.int p0), .val (.int (0 : Int32)), .val (.int (1 : Int32)), .val (.ref wIDLE), .val (.int (0 : Int32)), .val (.int (1 : Int32)), .val (.int (0 : Int32))] [(.int (1 : Int32))])) _
        exact retN X23 hx (t := .boolean) Bd.returns (by simp) (hb hby at_123) hr
      · show Qrm0 Z p0 wNEW wIDLE wBUSY h0 n0 _ (T23.setFrames fs).heap _
        rw [show (T23.setFrames fs).heap = h0 from e23]
        exact ⟨rfl, N18⟩
  · refine OwnGo.of (A := s₁.setTop (mkF m 3 #[.val (.int p0), .unset, .unset, .unset, .unset, .unset, .unset] [(.int (p0 &&& (1 : Int32)))])) (B := s₁.setTop (mkF m 15 #[.val (.int p0), .val (.int (1 : Int32)), .unset, .unset, .unset, .unset, .unset] [(.int (p0 &&& (2 : Int32)))])) (fun t k => ?_) ?_
    · show Steps p.tables e below (s₁.setTop (mkF m 3 #[.val (.int p0), .unset, .unset, .unset, .unset, .unset, .unset] [(.int (p0 &&& (1 : Int32)))])) t
      refine XS.ifNo X0.here hx rfl (hb hby at_3) rfl ((if0 _ _).trans (feq hc1).1) ?_
      show Steps p.tables e below (s₁.setTop (mkF m 6 #[.val (.int p0), .unset, .unset, .unset, .unset, .unset, .unset] [])) t
      refine XS.iconst X0.here hx rfl (hb hby at_6) ?_
      show Steps p.tables e below (s₁.setTop (mkF m 7 #[.val (.int p0), .unset, .unset, .unset, .unset, .unset, .unset] [(.int (1 : Int32))])) t
      refine XS.goto X0.here hx rfl (pc0 := 7) (pc' := 11) rfl (hb hby at_7) (by decide) (by decide) ?_
      show Steps p.tables e below (s₁.setTop (mkF m 11 #[.val (.int p0), .unset, .unset, .unset, .unset, .unset, .unset] [(.int (1 : Int32))])) t
      refine XS.istoreN X0.here hx rfl (hb hby at_11) rfl (l' := #[.val (.int p0), .val (.int (1 : Int32)), .unset, .unset, .unset, .unset, .unset]) rfl ?_
      show Steps p.tables e below (s₁.setTop (mkF m 12 #[.val (.int p0), .val (.int (1 : Int32)), .unset, .unset, .unset, .unset, .unset] [])) t
      refine XS.iloadN X0.here hx rfl (hb hby at_12) rfl ?_
      show Steps p.tables e below (s₁.setTop (mkF m 13 #[.val (.int p0), .val (.int (1 : Int32)), .unset, .unset, .unset, .unset, .unset] [(.int p0)])) t
      refine XS.iconst X0.here hx rfl (hb hby at_13) ?_
      show Steps p.tables e below (s₁.setTop (mkF m 14 #[.val (.int p0), .val (.int (1 : Int32)), .unset, .unset, .unset, .unset, .unset] [(.int (2 : Int32)), (.int p0)])) t
      refine XS.iand X0.here hx rfl (hb hby at_14) rfl ?_
      exact k
    by_cases hc33 : (p0 &&& (2 : Int32)) = (0 : Int32)
    · refine OwnGo.of (A := s₁.setTop (mkF m 15 #[.val (.int p0), .val (.int (1 : Int32)), .unset, .unset, .unset, .unset, .unset] [(.int (p0 &&& (2 : Int32)))])) (B := s₁.setTop (mkF m 26 #[.val (.int p0), .val (.int (1 : Int32)), .val (.int (0 : Int32)), .unset, .unset, .unset, .unset] [(.int (0 : Int32)), (.int (1 : Int32))])) (fun t k => ?_) ?_
      · show Steps p.tables e below (s₁.setTop (mkF m 15 #[.val (.int p0), .val (.int (1 : Int32)), .unset, .unset, .unset, .unset, .unset] [(.int (p0 &&& (2 : Int32)))])) t
        refine XS.ifYes X0.here hx rfl (pc0 := 15) (pc' := 22) rfl (hb hby at_15) rfl ((if0 _ _).trans (teq hc33).1) (by decide) (by decide) ?_
        show Steps p.tables e below (s₁.setTop (mkF m 22 #[.val (.int p0), .val (.int (1 : Int32)), .unset, .unset, .unset, .unset, .unset] [])) t
        refine XS.iconst X0.here hx rfl (hb hby at_22) ?_
        show Steps p.tables e below (s₁.setTop (mkF m 23 #[.val (.int p0), .val (.int (1 : Int32)), .unset, .unset, .unset, .unset, .unset] [(.int (0 : Int32))])) t
        refine XS.istoreN X0.here hx rfl (hb hby at_23) rfl (l' := #[.val (.int p0), .val (.int (1 : Int32)), .val (.int (0 : Int32)), .unset, .unset, .unset, .unset]) rfl ?_
        show Steps p.tables e below (s₁.setTop (mkF m 24 #[.val (.int p0), .val (.int (1 : Int32)), .val (.int (0 : Int32)), .unset, .unset, .unset, .unset] [])) t
        refine XS.iloadN X0.here hx rfl (hb hby at_24) rfl ?_
        show Steps p.tables e below (s₁.setTop (mkF m 25 #[.val (.int p0), .val (.int (1 : Int32)), .val (.int (0 : Int32)), .unset, .unset, .unset, .unset] [(.int (1 : Int32))])) t
        refine XS.iloadN X0.here hx rfl (hb hby at_25) rfl ?_
        exact k
      obtain ⟨_, _, ⟨T34, L34, k34, n34⟩, -, X34, ⟨Lc34, hQ34, l34, y34, z34⟩, st34⟩ := Jvm.LawKit.callS X0 hx (y := (⟨"com/example/map_of_brokers/mapofbrokers/kafka/ListenerConnection$Stage", "of", "(ZZ)Lcom/example/map_of_brokers/mapofbrokers/kafka/ListenerConnection$Stage;"⟩ : MethodName)) hown (mvT hZ (hw _ (List.mem_of_getElem? (i := 0) rfl))) (mvT hZ (hw _ (List.mem_of_getElem? (i := 1) rfl))) (mvT hZ (hw _ (List.mem_of_getElem? (i := 2) rfl))) (mvT hZ (hw _ (List.mem_of_getElem? (i := 3) rfl))) (by decide) (backOf (W := 0) (rm1 l Z aw hw [] (1 : Int32) (0 : Int32) wNEW wIDLE wBUSY h0 n0 Z0 S_NEW S_IDLE S_BUSY) hZ (hw _ (List.mem_of_getElem? (i := 3) rfl)) (hw _ (List.mem_of_getElem? (i := 2) rfl)) (by decide) (by decide)) (g := (mkF m 26 #[.val (.int p0), .val (.int (1 : Int32)), .val (.int (0 : Int32)), .unset, .unset, .unset, .unset] [(.int (0 : Int32)), (.int (1 : Int32))])) rfl (by rw [hml]; rfl) (argsL := [(.int (1 : Int32)), (.int (0 : Int32))]) (rest := []) (lenOf pd_1 rfl) rfl (by show 2 * 0 + _ ≤ _; exact Nat.le_of_eq rfl) (hb hby at_26) (fun _ _ => ⟨rfl, e0, (by decide : 0 + 0 ≤ _), (by decide : 0 + 0 ≤ _)⟩)
      dsimp only [Pt.U, Pt.locs, Pt.cells, Pt.slots] at X34 l34 y34 z34 st34 hQ34
      subst l34 y34 z34
      obtain ⟨hv34, N34q, eq34⟩ := hQ34
      rw [show own_f1 (1 : Int32) (0 : Int32) wNEW wIDLE wBUSY = wBUSY from by simp [own_f1]] at hv34
      subst hv34
      have N34 := Fr.app N0 N34q
      refine OwnGo.of st34 ?_
      show OwnGo p.tables e below _ (T34.setTop (mkF m 29 #[.val (.int p0), .val (.int (1 : Int32)), .val (.int (0 : Int32)), .unset, .unset, .unset, .unset] [(.ref wBUSY)]))
      refine OwnGo.of (A := T34.setTop (mkF m 29 #[.val (.int p0), .val (.int (1 : Int32)), .val (.int (0 : Int32)), .unset, .unset, .unset, .unset] [(.ref wBUSY)])) (B := T34.setTop (mkF m 31 #[.val (.int p0), .val (.int (1 : Int32)), .val (.int (0 : Int32)), .val (.ref wBUSY), .unset, .unset, .unset] [(.ref wBUSY)])) (fun t k => ?_) ?_
      · show Steps p.tables e below (T34.setTop (mkF m 29 #[.val (.int p0), .val (.int (1 : Int32)), .val (.int (0 : Int32)), .unset, .unset, .unset, .unset] [(.ref wBUSY)])) t
        refine XS.astoreN X34.here hx rfl (hb hby at_29) rfl rfl (l' := #[.val (.int p0), .val (.int (1 : Int32)), .val (.int (0 : Int32)), .val (.ref wBUSY), .unset, .unset, .unset]) rfl ?_
        show Steps p.tables e below (T34.setTop (mkF m 30 #[.val (.int p0), .val (.int (1 : Int32)), .val (.int (0 : Int32)), .val (.ref wBUSY), .unset, .unset, .unset] [])) t
        refine XS.aloadN X34.here hx rfl (hb hby at_30) rfl rfl ?_
        exact k
      obtain ⟨T35, X35, e35, st35⟩ := getS2 X34 hx hZ hown (host := "") (Or.inl (hw _ (List.mem_of_getElem? (i := 6) rfl))) Via.refl eq34 S_BUSY (g := (mkF m 31 #[.val (.int p0), .val (.int (1 : Int32)), .val (.int (0 : Int32)), .val (.ref wBUSY), .unset, .unset, .unset] [(.ref wBUSY)])) rfl (hb hby at_31)
      refine OwnGo.of st35 ?_
      show OwnGo p.tables e below _ (T35.setTop (mkF m 34 #[.val (.int p0), .val (.int (1 : Int32)), .val (.int (0 : Int32)), .val (.ref wBUSY), .unset, .unset, .unset] [(.ref wBUSY), (.ref wBUSY)]))
      have hc36 : wBUSY = wBUSY := rfl
      refine OwnGo.of (A := T35.setTop (mkF m 34 #[.val (.int p0), .val (.int (1 : Int32)), .val (.int (0 : Int32)), .val (.ref wBUSY), .unset, .unset, .unset] [(.ref wBUSY), (.ref wBUSY)])) (B := T35.setTop (mkF m 45 #[.val (.int p0), .val (.int (1 : Int32)), .val (.int (0 : Int32)), .val (.ref wBUSY), .val (.int (1 : Int32)), .unset, .unset] [(.ref wBUSY)])) (fun t k => ?_) ?_
      · show Steps p.tables e below (T35.setTop (mkF m 34 #[.val (.int p0), .val (.int (1 : Int32)), .val (.int (0 : Int32)), .val (.ref wBUSY), .unset, .unset, .unset] [(.ref wBUSY), (.ref wBUSY)])) t
        refine Jvm.RoadKit.acmp (g := (mkF m 34 #[.val (.int p0), .val (.int (1 : Int32)), .val (.int (0 : Int32)), .val (.ref wBUSY), .unset, .unset, .unset] [(.ref wBUSY), (.ref wBUSY)])) X35 hx rfl rfl rfl (pc0 := 34) (pc' := 37) (same := true) rfl (hb hby at_34) rfl (decide_eq_true (congrArg Value.ref hc36)) (by decide) (by decide) ?_
        show Steps p.tables e below (T35.setTop (mkF m 37 #[.val (.int p0), .val (.int (1 : Int32)), .val (.int (0 : Int32)), .val (.ref wBUSY), .unset, .unset, .unset] [])) t
        refine XS.iconst X35.here hx rfl (hb hby at_37) ?_
        show Steps p.tables e below (T35.setTop (mkF m 38 #[.val (.int p0), .val (.int (1 : Int32)), .val (.int (0 : Int32)), .val (.ref wBUSY), .unset, .unset, .unset] [(.int (1 : Int32))])) t
        refine XS.goto X35.here hx rfl (pc0 := 38) (pc' := 42) rfl (hb hby at_38) (by decide) (by decide) ?_
        show Steps p.tables e below (T35.setTop (mkF m 42 #[.val (.int p0), .val (.int (1 : Int32)), .val (.int (0 : Int32)), .val (.ref wBUSY), .unset, .unset, .unset] [(.int (1 : Int32))])) t
        refine XS.istore X35.here hx rfl (hb hby at_42) rfl (l' := #[.val (.int p0), .val (.int (1 : Int32)), .val (.int (0 : Int32)), .val (.ref wBUSY), .val (.int (1 : Int32)), .unset, .unset]) rfl ?_
        show Steps p.tables e below (T35.setTop (mkF m 44 #[.val (.int p0), .val (.int (1 : Int32)), .val (.int (0 : Int32)), .val (.ref wBUSY), .val (.int (1 : Int32)), .unset, .unset] [])) t
        refine XS.aloadN X35.here hx rfl (hb hby at_44) rfl rfl ?_
        exact k
      obtain ⟨T37, X37, e37, st37⟩ := getS2 X35 hx hZ hown (host := "") (Or.inl (hw _ (List.mem_of_getElem? (i := 8) rfl))) Via.refl e35 S_IDLE (g := (mkF m 45 #[.val (.int p0), .val (.int (1 : Int32)), .val (.int (0 : Int32)), .val (.ref wBUSY), .val (.int (1 : Int32)), .unset, .unset] [(.ref wBUSY)])) rfl (hb hby at_45)
      refine OwnGo.of st37 ?_
      show OwnGo p.tables e below _ (T37.setTop (mkF m 48 #[.val (.int p0), .val (.int (1 : Int32)), .val (.int (0 : Int32)), .val (.ref wBUSY), .val (.int (1 : Int32)), .unset, .unset] [(.ref wIDLE), (.ref wBUSY)]))
      have hc38 : ¬ (wBUSY = wIDLE) := by first | exact hne1 | exact hne2 | exact hne3 | exact Ne.symm hne1 | exact Ne.symm hne2 | exact Ne.symm hne3
      refine OwnGo.of (A := T37.setTop (mkF m 48 #[.val (.int p0), .val (.int (1 : Int32)), .val (.int (0 : Int32)), .val (.ref wBUSY), .val (.int (1 : Int32)), .unset, .unset] [(.ref wIDLE), (.ref wBUSY)])) (B := T37.setTop (mkF m 59 #[.val (.int p0), .val (.int (1 : Int32)), .val (.int (0 : Int32)), .val (.ref wBUSY), .val (.int (1 : Int32)), .val (.int (0 : Int32)), .unset] [(.ref wBUSY)])) (fun t k => ?_) ?_
      · show Steps p.tables e below (T37.setTop (mkF m 48 #[.val (.int p0), .val (.int (1 : Int32)), .val (.int (0 : Int32)), .val (.ref wBUSY), .val (.int (1 : Int32)), .unset, .unset] [(.ref wIDLE), (.ref wBUSY)])) t
        refine Jvm.RoadKit.acmp (g := (mkF m 48 #[.val (.int p0), .val (.int (1 : Int32)), .val (.int (0 : Int32)), .val (.ref wBUSY), .val (.int (1 : Int32)), .unset, .unset] [(.ref wIDLE), (.ref wBUSY)])) X37 hx rfl rfl rfl (pc0 := 48) (pc' := 55) (same := false) rfl (hb hby at_48) rfl (decide_eq_false fun q => hc38 (Value.ref.inj q)) (by decide) (by decide) ?_
        show Steps p.tables e below (T37.setTop (mkF m 55 #[.val (.int p0), .val (.int (1 : Int32)), .val (.int (0 : Int32)), .val (.ref wBUSY), .val (.int (1 : Int32)), .unset, .unset] [])) t
        refine XS.iconst X37.here hx rfl (hb hby at_55) ?_
        show Steps p.tables e below (T37.setTop (mkF m 56 #[.val (.int p0), .val (.int (1 : Int32)), .val (.int (0 : Int32)), .val (.ref wBUSY), .val (.int (1 : Int32)), .unset, .unset] [(.int (0 : Int32))])) t
        refine XS.istore X37.here hx rfl (hb hby at_56) rfl (l' := #[.val (.int p0), .val (.int (1 : Int32)), .val (.int (0 : Int32)), .val (.ref wBUSY), .val (.int (1 : Int32)), .val (.int (0 : Int32)), .unset]) rfl ?_
        show Steps p.tables e below (T37.setTop (mkF m 58 #[.val (.int p0), .val (.int (1 : Int32)), .val (.int (0 : Int32)), .val (.ref wBUSY), .val (.int (1 : Int32)), .val (.int (0 : Int32)), .unset] [])) t
        refine XS.aloadN X37.here hx rfl (hb hby at_58) rfl rfl ?_
        exact k
      obtain ⟨T39, X39, e39, st39⟩ := getS2 X37 hx hZ hown (host := "") (Or.inl (hw _ (List.mem_of_getElem? (i := 10) rfl))) Via.refl e37 S_NEW (g := (mkF m 59 #[.val (.int p0), .val (.int (1 : Int32)), .val (.int (0 : Int32)), .val (.ref wBUSY), .val (.int (1 : Int32)), .val (.int (0 : Int32)), .unset] [(.ref wBUSY)])) rfl (hb hby at_59)
      refine OwnGo.of st39 ?_
      show OwnGo p.tables e below _ (T39.setTop (mkF m 62 #[.val (.int p0), .val (.int (1 : Int32)), .val (.int (0 : Int32)), .val (.ref wBUSY), .val (.int (1 : Int32)), .val (.int (0 : Int32)), .unset] [(.ref wNEW), (.ref wBUSY)]))
      have hc40 : ¬ (wBUSY = wNEW) := by first | exact hne1 | exact hne2 | exact hne3 | exact Ne.symm hne1 | exact Ne.symm hne2 | exact Ne.symm hne3
      refine OwnGo.of (A := T39.setTop (mkF m 62 #[.val (.int p0), .val (.int (1 : Int32)), .val (.int (0 : Int32)), .val (.ref wBUSY), .val (.int (1 : Int32)), .val (.int (0 : Int32)), .unset] [(.ref wNEW), (.ref wBUSY)])) (B := T39.setTop (mkF m 79 #[.val (.int p0), .val (.int (1 : Int32)), .val (.int (0 : Int32)), .val (.ref wBUSY), .val (.int (1 : Int32)), .val (.int (0 : Int32)), .val (.int (0 : Int32))] [(.int (1 : Int32)), (.int (1 : Int32))])) (fun t k => ?_) ?_
      · show Steps p.tables e below (T39.setTop (mkF m 62 #[.val (.int p0), .val (.int (1 : Int32)), .val (.int (0 : Int32)), .val (.ref wBUSY), .val (.int (1 : Int32)), .val (.int (0 : Int32)), .unset] [(.ref wNEW), (.ref wBUSY)])) t
        refine Jvm.RoadKit.acmp (g := (mkF m 62 #[.val (.int p0), .val (.int (1 : Int32)), .val (.int (0 : Int32)), .val (.ref wBUSY), .val (.int (1 : Int32)), .val (.int (0 : Int32)), .unset] [(.ref wNEW), (.ref wBUSY)])) X39 hx rfl rfl rfl (pc0 := 62) (pc' := 69) (same := false) rfl (hb hby at_62) rfl (decide_eq_false fun q => hc40 (Value.ref.inj q)) (by decide) (by decide) ?_
        show Steps p.tables e below (T39.setTop (mkF m 69 #[.val (.int p0), .val (.int (1 : Int32)), .val (.int (0 : Int32)), .val (.ref wBUSY), .val (.int (1 : Int32)), .val (.int (0 : Int32)), .unset] [])) t
        refine XS.iconst X39.here hx rfl (hb hby at_69) ?_
        show Steps p.tables e below (T39.setTop (mkF m 70 #[.val (.int p0), .val (.int (1 : Int32)), .val (.int (0 : Int32)), .val (.ref wBUSY), .val (.int (1 : Int32)), .val (.int (0 : Int32)), .unset] [(.int (0 : Int32))])) t
        refine XS.istore X39.here hx rfl (hb hby at_70) rfl (l' := #[.val (.int p0), .val (.int (1 : Int32)), .val (.int (0 : Int32)), .val (.ref wBUSY), .val (.int (1 : Int32)), .val (.int (0 : Int32)), .val (.int (0 : Int32))]) rfl ?_
        show Steps p.tables e below (T39.setTop (mkF m 72 #[.val (.int p0), .val (.int (1 : Int32)), .val (.int (0 : Int32)), .val (.ref wBUSY), .val (.int (1 : Int32)), .val (.int (0 : Int32)), .val (.int (0 : Int32))] [])) t
        refine XS.aloadN X39.here hx rfl (hb hby at_72) rfl rfl ?_
        show Steps p.tables e below (T39.setTop (mkF m 73 #[.val (.int p0), .val (.int (1 : Int32)), .val (.int (0 : Int32)), .val (.ref wBUSY), .val (.int (1 : Int32)), .val (.int (0 : Int32)), .val (.int (0 : Int32))] [(.ref wBUSY)])) t
        refine XS.ifnullNo X39.here hx rfl (hb hby at_73) rfl ?_
        show Steps p.tables e below (T39.setTop (mkF m 76 #[.val (.int p0), .val (.int (1 : Int32)), .val (.int (0 : Int32)), .val (.ref wBUSY), .val (.int (1 : Int32)), .val (.int (0 : Int32)), .val (.int (0 : Int32))] [])) t
        refine XS.iload X39.here hx rfl (hb hby at_76) rfl ?_
        show Steps p.tables e below (T39.setTop (mkF m 78 #[.val (.int p0), .val (.int (1 : Int32)), .val (.int (0 : Int32)), .val (.ref wBUSY), .val (.int (1 : Int32)), .val (.int (0 : Int32)), .val (.int (0 : Int32))] [(.int (1 : Int32))])) t
        refine XS.iloadN X39.here hx rfl (hb hby at_78) rfl ?_
        exact k
      have hc41 : (1 : Int32) = (1 : Int32) := by decide
      refine OwnGo.of (A := T39.setTop (mkF m 79 #[.val (.int p0), .val (.int (1 : Int32)), .val (.int (0 : Int32)), .val (.ref wBUSY), .val (.int (1 : Int32)), .val (.int (0 : Int32)), .val (.int (0 : Int32))] [(.int (1 : Int32)), (.int (1 : Int32))])) (B := T39.setTop (mkF m 85 #[.val (.int p0), .val (.int (1 : Int32)), .val (.int (0 : Int32)), .val (.ref wBUSY), .val (.int (1 : Int32)), .val (.int (0 : Int32)), .val (.int (0 : Int32))] [(.int (1 : Int32)), (.int (0 : Int32))])) (fun t k => ?_) ?_
      · show Steps p.tables e below (T39.setTop (mkF m 79 #[.val (.int p0), .val (.int (1 : Int32)), .val (.int (0 : Int32)), .val (.ref wBUSY), .val (.int (1 : Int32)), .val (.int (0 : Int32)), .val (.int (0 : Int32))] [(.int (1 : Int32)), (.int (1 : Int32))])) t
        refine XS.icmpNo X39.here hx rfl (hb hby at_79) rfl (teq hc41).2 ?_
        show Steps p.tables e below (T39.setTop (mkF m 82 #[.val (.int p0), .val (.int (1 : Int32)), .val (.int (0 : Int32)), .val (.ref wBUSY), .val (.int (1 : Int32)), .val (.int (0 : Int32)), .val (.int (0 : Int32))] [])) t
        refine XS.iload X39.here hx rfl (hb hby at_82) rfl ?_
        show Steps p.tables e below (T39.setTop (mkF m 84 #[.val (.int p0), .val (.int (1 : Int32)), .val (.int (0 : Int32)), .val (.ref wBUSY), .val (.int (1 : Int32)), .val (.int (0 : Int32)), .val (.int (0 : Int32))] [(.int (0 : Int32))])) t
        refine XS.iloadN X39.here hx rfl (hb hby at_84) rfl ?_
        exact k
      have hc42 : ¬ ((1 : Int32) = (0 : Int32)) := by decide
      refine OwnGo.of (A := T39.setTop (mkF m 85 #[.val (.int p0), .val (.int (1 : Int32)), .val (.int (0 : Int32)), .val (.ref wBUSY), .val (.int (1 : Int32)), .val (.int (0 : Int32)), .val (.int (0 : Int32))] [(.int (1 : Int32)), (.int (0 : Int32))])) (B := T39.setTop (mkF m 97 #[.val (.int p0), .val (.int (1 : Int32)), .val (.int (0 : Int32)), .val (.ref wBUSY), .val (.int (1 : Int32)), .val (.int (0 : Int32)), .val (.int (0 : Int32))] [(.int (0 : Int32)), (.int (0 : Int32))])) (fun t k => ?_) ?_
      · show Steps p.tables e below (T39.setTop (mkF m 85 #[.val (.int p0), .val (.int (1 : Int32)), .val (.int (0 : Int32)), .val (.ref wBUSY), .val (.int (1 : Int32)), .val (.int (0 : Int32)), .val (.int (0 : Int32))] [(.int (1 : Int32)), (.int (0 : Int32))])) t
        refine XS.ifYes X39.here hx rfl (pc0 := 85) (pc' := 96) rfl (hb hby at_85) rfl ((if0 _ _).trans (feq hc42).2) (by decide) (by decide) ?_
        show Steps p.tables e below (T39.setTop (mkF m 96 #[.val (.int p0), .val (.int (1 : Int32)), .val (.int (0 : Int32)), .val (.ref wBUSY), .val (.int (1 : Int32)), .val (.int (0 : Int32)), .val (.int (0 : Int32))] [(.int (0 : Int32))])) t
        refine XS.iconst X39.here hx rfl (hb hby at_96) ?_
        exact k
      have hc43 : (0 : Int32) = (0 : Int32) := by decide
      refine OwnGo.of (A := T39.setTop (mkF m 97 #[.val (.int p0), .val (.int (1 : Int32)), .val (.int (0 : Int32)), .val (.ref wBUSY), .val (.int (1 : Int32)), .val (.int (0 : Int32)), .val (.int (0 : Int32))] [(.int (0 : Int32)), (.int (0 : Int32))])) (B := T39.setTop (mkF m 103 #[.val (.int p0), .val (.int (1 : Int32)), .val (.int (0 : Int32)), .val (.ref wBUSY), .val (.int (1 : Int32)), .val (.int (0 : Int32)), .val (.int (0 : Int32))] [(.int (1 : Int32)), (.int (0 : Int32))])) (fun t k => ?_) ?_
      · show Steps p.tables e below (T39.setTop (mkF m 97 #[.val (.int p0), .val (.int (1 : Int32)), .val (.int (0 : Int32)), .val (.ref wBUSY), .val (.int (1 : Int32)), .val (.int (0 : Int32)), .val (.int (0 : Int32))] [(.int (0 : Int32)), (.int (0 : Int32))])) t
        refine XS.icmpNo X39.here hx rfl (hb hby at_97) rfl (teq hc43).2 ?_
        show Steps p.tables e below (T39.setTop (mkF m 100 #[.val (.int p0), .val (.int (1 : Int32)), .val (.int (0 : Int32)), .val (.ref wBUSY), .val (.int (1 : Int32)), .val (.int (0 : Int32)), .val (.int (0 : Int32))] [])) t
        refine XS.iload X39.here hx rfl (hb hby at_100) rfl ?_
        show Steps p.tables e below (T39.setTop (mkF m 102 #[.val (.int p0), .val (.int (1 : Int32)), .val (.int (0 : Int32)), .val (.ref wBUSY), .val (.int (1 : Int32)), .val (.int (0 : Int32)), .val (.int (0 : Int32))] [(.int (0 : Int32))])) t
        refine XS.iloadN X39.here hx rfl (hb hby at_102) rfl ?_
        exact k
      have hc44 : ¬ ((1 : Int32) = (0 : Int32)) := by decide
      refine OwnGo.of (A := T39.setTop (mkF m 103 #[.val (.int p0), .val (.int (1 : Int32)), .val (.int (0 : Int32)), .val (.ref wBUSY), .val (.int (1 : Int32)), .val (.int (0 : Int32)), .val (.int (0 : Int32))] [(.int (1 : Int32)), (.int (0 : Int32))])) (B := T39.setTop (mkF m 115 #[.val (.int p0), .val (.int (1 : Int32)), .val (.int (0 : Int32)), .val (.ref wBUSY), .val (.int (1 : Int32)), .val (.int (0 : Int32)), .val (.int (0 : Int32))] [(.int (0 : Int32)), (.int (0 : Int32))])) (fun t k => ?_) ?_
      · show Steps p.tables e below (T39.setTop (mkF m 103 #[.val (.int p0), .val (.int (1 : Int32)), .val (.int (0 : Int32)), .val (.ref wBUSY), .val (.int (1 : Int32)), .val (.int (0 : Int32)), .val (.int (0 : Int32))] [(.int (1 : Int32)), (.int (0 : Int32))])) t
        refine XS.ifYes X39.here hx rfl (pc0 := 103) (pc' := 114) rfl (hb hby at_103) rfl ((if0 _ _).trans (feq hc44).2) (by decide) (by decide) ?_
        show Steps p.tables e below (T39.setTop (mkF m 114 #[.val (.int p0), .val (.int (1 : Int32)), .val (.int (0 : Int32)), .val (.ref wBUSY), .val (.int (1 : Int32)), .val (.int (0 : Int32)), .val (.int (0 : Int32))] [(.int (0 : Int32))])) t
        refine XS.iconst X39.here hx rfl (hb hby at_114) ?_
        exact k
      have hc45 : (0 : Int32) = (0 : Int32) := by decide
      refine OwnGo.of (A := T39.setTop (mkF m 115 #[.val (.int p0), .val (.int (1 : Int32)), .val (.int (0 : Int32)), .val (.ref wBUSY), .val (.int (1 : Int32)), .val (.int (0 : Int32)), .val (.int (0 : Int32))] [(.int (0 : Int32)), (.int (0 : Int32))])) (B := T39.setTop (mkF m 123 #[.val (.int p0), .val (.int (1 : Int32)), .val (.int (0 : Int32)), .val (.ref wBUSY), .val (.int (1 : Int32)), .val (.int (0 : Int32)), .val (.int (0 : Int32))] [(.int (1 : Int32))])) (fun t k => ?_) ?_
      · show Steps p.tables e below (T39.setTop (mkF m 115 #[.val (.int p0), .val (.int (1 : Int32)), .val (.int (0 : Int32)), .val (.ref wBUSY), .val (.int (1 : Int32)), .val (.int (0 : Int32)), .val (.int (0 : Int32))] [(.int (0 : Int32)), (.int (0 : Int32))])) t
        refine XS.icmpNo X39.here hx rfl (hb hby at_115) rfl (teq hc45).2 ?_
        show Steps p.tables e below (T39.setTop (mkF m 118 #[.val (.int p0), .val (.int (1 : Int32)), .val (.int (0 : Int32)), .val (.ref wBUSY), .val (.int (1 : Int32)), .val (.int (0 : Int32)), .val (.int (0 : Int32))] [])) t
        refine XS.iconst X39.here hx rfl (hb hby at_118) ?_
        show Steps p.tables e below (T39.setTop (mkF m 119 #[.val (.int p0), .val (.int (1 : Int32)), .val (.int (0 : Int32)), .val (.ref wBUSY), .val (.int (1 : Int32)), .val (.int (0 : Int32)), .val (.int (0 : Int32))] [(.int (1 : Int32))])) t
        refine XS.goto X39.here hx rfl (pc0 := 119) (pc' := 123) rfl (hb hby at_119) (by decide) (by decide) ?_
        exact k
      obtain ⟨fs, hr, hrun, hended, hW, hsame⟩ := X39.leave (v := some (.int (nar .boolean (1 : Int32)))) (fun h => by rw [Bd.returns] at h; cases h) hlk
      refine ⟨_, _, ?_, hrun, hended, _, _, rfl, ?_, ⟨_, rfl⟩, hW, hsame.mono (by decide) (by decide)⟩
      · show Steps p.tables e below (T39.setTop (mkF m 123 #[.val (.int p0), .val (.int (1 : Int32)), .val (.int (0 : Int32)), .val (.ref wBUSY), .val (.int (1 : Int32)), .val (.int (0 : Int32)), .val (.int (0 : Int32))] [(.int (1 : Int32))])) _
        exact retN X39 hx (t := .boolean) Bd.returns (by simp) (hb hby at_123) hr
      · show Qrm0 Z p0 wNEW wIDLE wBUSY h0 n0 _ (T39.setFrames fs).heap _
        rw [show (T39.setFrames fs).heap = h0 from e39]
        exact ⟨rfl, N34⟩
    · refine OwnGo.of (A := s₁.setTop (mkF m 15 #[.val (.int p0), .val (.int (1 : Int32)), .unset, .unset, .unset, .unset, .unset] [(.int (p0 &&& (2 : Int32)))])) (B := s₁.setTop (mkF m 26 #[.val (.int p0), .val (.int (1 : Int32)), .val (.int (1 : Int32)), .unset, .unset, .unset, .unset] [(.int (1 : Int32)), (.int (1 : Int32))])) (fun t k => ?_) ?_
      · show Steps p.tables e below (s₁.setTop (mkF m 15 #[.val (.int p0), .val (.int (1 : Int32)), .unset, .unset, .unset, .unset, .unset] [(.int (p0 &&& (2 : Int32)))])) t
        refine XS.ifNo X0.here hx rfl (hb hby at_15) rfl ((if0 _ _).trans (feq hc33).1) ?_
        show Steps p.tables e below (s₁.setTop (mkF m 18 #[.val (.int p0), .val (.int (1 : Int32)), .unset, .unset, .unset, .unset, .unset] [])) t
        refine XS.iconst X0.here hx rfl (hb hby at_18) ?_
        show Steps p.tables e below (s₁.setTop (mkF m 19 #[.val (.int p0), .val (.int (1 : Int32)), .unset, .unset, .unset, .unset, .unset] [(.int (1 : Int32))])) t
        refine XS.goto X0.here hx rfl (pc0 := 19) (pc' := 23) rfl (hb hby at_19) (by decide) (by decide) ?_
        show Steps p.tables e below (s₁.setTop (mkF m 23 #[.val (.int p0), .val (.int (1 : Int32)), .unset, .unset, .unset, .unset, .unset] [(.int (1 : Int32))])) t
        refine XS.istoreN X0.here hx rfl (hb hby at_23) rfl (l' := #[.val (.int p0), .val (.int (1 : Int32)), .val (.int (1 : Int32)), .unset, .unset, .unset, .unset]) rfl ?_
        show Steps p.tables e below (s₁.setTop (mkF m 24 #[.val (.int p0), .val (.int (1 : Int32)), .val (.int (1 : Int32)), .unset, .unset, .unset, .unset] [])) t
        refine XS.iloadN X0.here hx rfl (hb hby at_24) rfl ?_
        show Steps p.tables e below (s₁.setTop (mkF m 25 #[.val (.int p0), .val (.int (1 : Int32)), .val (.int (1 : Int32)), .unset, .unset, .unset, .unset] [(.int (1 : Int32))])) t
        refine XS.iloadN X0.here hx rfl (hb hby at_25) rfl ?_
        exact k
      obtain ⟨_, _, ⟨T47, L47, k47, n47⟩, -, X47, ⟨Lc47, hQ47, l47, y47, z47⟩, st47⟩ := Jvm.LawKit.callS X0 hx (y := (⟨"com/example/map_of_brokers/mapofbrokers/kafka/ListenerConnection$Stage", "of", "(ZZ)Lcom/example/map_of_brokers/mapofbrokers/kafka/ListenerConnection$Stage;"⟩ : MethodName)) hown (mvT hZ (hw _ (List.mem_of_getElem? (i := 0) rfl))) (mvT hZ (hw _ (List.mem_of_getElem? (i := 1) rfl))) (mvT hZ (hw _ (List.mem_of_getElem? (i := 2) rfl))) (mvT hZ (hw _ (List.mem_of_getElem? (i := 3) rfl))) (by decide) (backOf (W := 0) (rm1 l Z aw hw [] (1 : Int32) (1 : Int32) wNEW wIDLE wBUSY h0 n0 Z0 S_NEW S_IDLE S_BUSY) hZ (hw _ (List.mem_of_getElem? (i := 3) rfl)) (hw _ (List.mem_of_getElem? (i := 2) rfl)) (by decide) (by decide)) (g := (mkF m 26 #[.val (.int p0), .val (.int (1 : Int32)), .val (.int (1 : Int32)), .unset, .unset, .unset, .unset] [(.int (1 : Int32)), (.int (1 : Int32))])) rfl (by rw [hml]; rfl) (argsL := [(.int (1 : Int32)), (.int (1 : Int32))]) (rest := []) (lenOf pd_1 rfl) rfl (by show 2 * 0 + _ ≤ _; exact Nat.le_of_eq rfl) (hb hby at_26) (fun _ _ => ⟨rfl, e0, (by decide : 0 + 0 ≤ _), (by decide : 0 + 0 ≤ _)⟩)
      dsimp only [Pt.U, Pt.locs, Pt.cells, Pt.slots] at X47 l47 y47 z47 st47 hQ47
      subst l47 y47 z47
      obtain ⟨hv47, N47q, eq47⟩ := hQ47
      rw [show own_f1 (1 : Int32) (1 : Int32) wNEW wIDLE wBUSY = wBUSY from by simp [own_f1]] at hv47
      subst hv47
      have N47 := Fr.app N0 N47q
      refine OwnGo.of st47 ?_
      show OwnGo p.tables e below _ (T47.setTop (mkF m 29 #[.val (.int p0), .val (.int (1 : Int32)), .val (.int (1 : Int32)), .unset, .unset, .unset, .unset] [(.ref wBUSY)]))
      refine OwnGo.of (A := T47.setTop (mkF m 29 #[.val (.int p0), .val (.int (1 : Int32)), .val (.int (1 : Int32)), .unset, .unset, .unset, .unset] [(.ref wBUSY)])) (B := T47.setTop (mkF m 31 #[.val (.int p0), .val (.int (1 : Int32)), .val (.int (1 : Int32)), .val (.ref wBUSY), .unset, .unset, .unset] [(.ref wBUSY)])) (fun t k => ?_) ?_
      · show Steps p.tables e below (T47.setTop (mkF m 29 #[.val (.int p0), .val (.int (1 : Int32)), .val (.int (1 : Int32)), .unset, .unset, .unset, .unset] [(.ref wBUSY)])) t
        refine XS.astoreN X47.here hx rfl (hb hby at_29) rfl rfl (l' := #[.val (.int p0), .val (.int (1 : Int32)), .val (.int (1 : Int32)), .val (.ref wBUSY), .unset, .unset, .unset]) rfl ?_
        show Steps p.tables e below (T47.setTop (mkF m 30 #[.val (.int p0), .val (.int (1 : Int32)), .val (.int (1 : Int32)), .val (.ref wBUSY), .unset, .unset, .unset] [])) t
        refine XS.aloadN X47.here hx rfl (hb hby at_30) rfl rfl ?_
        exact k
      obtain ⟨T48, X48, e48, st48⟩ := getS2 X47 hx hZ hown (host := "") (Or.inl (hw _ (List.mem_of_getElem? (i := 6) rfl))) Via.refl eq47 S_BUSY (g := (mkF m 31 #[.val (.int p0), .val (.int (1 : Int32)), .val (.int (1 : Int32)), .val (.ref wBUSY), .unset, .unset, .unset] [(.ref wBUSY)])) rfl (hb hby at_31)
      refine OwnGo.of st48 ?_
      show OwnGo p.tables e below _ (T48.setTop (mkF m 34 #[.val (.int p0), .val (.int (1 : Int32)), .val (.int (1 : Int32)), .val (.ref wBUSY), .unset, .unset, .unset] [(.ref wBUSY), (.ref wBUSY)]))
      have hc49 : wBUSY = wBUSY := rfl
      refine OwnGo.of (A := T48.setTop (mkF m 34 #[.val (.int p0), .val (.int (1 : Int32)), .val (.int (1 : Int32)), .val (.ref wBUSY), .unset, .unset, .unset] [(.ref wBUSY), (.ref wBUSY)])) (B := T48.setTop (mkF m 45 #[.val (.int p0), .val (.int (1 : Int32)), .val (.int (1 : Int32)), .val (.ref wBUSY), .val (.int (1 : Int32)), .unset, .unset] [(.ref wBUSY)])) (fun t k => ?_) ?_
      · show Steps p.tables e below (T48.setTop (mkF m 34 #[.val (.int p0), .val (.int (1 : Int32)), .val (.int (1 : Int32)), .val (.ref wBUSY), .unset, .unset, .unset] [(.ref wBUSY), (.ref wBUSY)])) t
        refine Jvm.RoadKit.acmp (g := (mkF m 34 #[.val (.int p0), .val (.int (1 : Int32)), .val (.int (1 : Int32)), .val (.ref wBUSY), .unset, .unset, .unset] [(.ref wBUSY), (.ref wBUSY)])) X48 hx rfl rfl rfl (pc0 := 34) (pc' := 37) (same := true) rfl (hb hby at_34) rfl (decide_eq_true (congrArg Value.ref hc49)) (by decide) (by decide) ?_
        show Steps p.tables e below (T48.setTop (mkF m 37 #[.val (.int p0), .val (.int (1 : Int32)), .val (.int (1 : Int32)), .val (.ref wBUSY), .unset, .unset, .unset] [])) t
        refine XS.iconst X48.here hx rfl (hb hby at_37) ?_
        show Steps p.tables e below (T48.setTop (mkF m 38 #[.val (.int p0), .val (.int (1 : Int32)), .val (.int (1 : Int32)), .val (.ref wBUSY), .unset, .unset, .unset] [(.int (1 : Int32))])) t
        refine XS.goto X48.here hx rfl (pc0 := 38) (pc' := 42) rfl (hb hby at_38) (by decide) (by decide) ?_
        show Steps p.tables e below (T48.setTop (mkF m 42 #[.val (.int p0), .val (.int (1 : Int32)), .val (.int (1 : Int32)), .val (.ref wBUSY), .unset, .unset, .unset] [(.int (1 : Int32))])) t
        refine XS.istore X48.here hx rfl (hb hby at_42) rfl (l' := #[.val (.int p0), .val (.int (1 : Int32)), .val (.int (1 : Int32)), .val (.ref wBUSY), .val (.int (1 : Int32)), .unset, .unset]) rfl ?_
        show Steps p.tables e below (T48.setTop (mkF m 44 #[.val (.int p0), .val (.int (1 : Int32)), .val (.int (1 : Int32)), .val (.ref wBUSY), .val (.int (1 : Int32)), .unset, .unset] [])) t
        refine XS.aloadN X48.here hx rfl (hb hby at_44) rfl rfl ?_
        exact k
      obtain ⟨T50, X50, e50, st50⟩ := getS2 X48 hx hZ hown (host := "") (Or.inl (hw _ (List.mem_of_getElem? (i := 8) rfl))) Via.refl e48 S_IDLE (g := (mkF m 45 #[.val (.int p0), .val (.int (1 : Int32)), .val (.int (1 : Int32)), .val (.ref wBUSY), .val (.int (1 : Int32)), .unset, .unset] [(.ref wBUSY)])) rfl (hb hby at_45)
      refine OwnGo.of st50 ?_
      show OwnGo p.tables e below _ (T50.setTop (mkF m 48 #[.val (.int p0), .val (.int (1 : Int32)), .val (.int (1 : Int32)), .val (.ref wBUSY), .val (.int (1 : Int32)), .unset, .unset] [(.ref wIDLE), (.ref wBUSY)]))
      have hc51 : ¬ (wBUSY = wIDLE) := by first | exact hne1 | exact hne2 | exact hne3 | exact Ne.symm hne1 | exact Ne.symm hne2 | exact Ne.symm hne3
      refine OwnGo.of (A := T50.setTop (mkF m 48 #[.val (.int p0), .val (.int (1 : Int32)), .val (.int (1 : Int32)), .val (.ref wBUSY), .val (.int (1 : Int32)), .unset, .unset] [(.ref wIDLE), (.ref wBUSY)])) (B := T50.setTop (mkF m 59 #[.val (.int p0), .val (.int (1 : Int32)), .val (.int (1 : Int32)), .val (.ref wBUSY), .val (.int (1 : Int32)), .val (.int (0 : Int32)), .unset] [(.ref wBUSY)])) (fun t k => ?_) ?_
      · show Steps p.tables e below (T50.setTop (mkF m 48 #[.val (.int p0), .val (.int (1 : Int32)), .val (.int (1 : Int32)), .val (.ref wBUSY), .val (.int (1 : Int32)), .unset, .unset] [(.ref wIDLE), (.ref wBUSY)])) t
        refine Jvm.RoadKit.acmp (g := (mkF m 48 #[.val (.int p0), .val (.int (1 : Int32)), .val (.int (1 : Int32)), .val (.ref wBUSY), .val (.int (1 : Int32)), .unset, .unset] [(.ref wIDLE), (.ref wBUSY)])) X50 hx rfl rfl rfl (pc0 := 48) (pc' := 55) (same := false) rfl (hb hby at_48) rfl (decide_eq_false fun q => hc51 (Value.ref.inj q)) (by decide) (by decide) ?_
        show Steps p.tables e below (T50.setTop (mkF m 55 #[.val (.int p0), .val (.int (1 : Int32)), .val (.int (1 : Int32)), .val (.ref wBUSY), .val (.int (1 : Int32)), .unset, .unset] [])) t
        refine XS.iconst X50.here hx rfl (hb hby at_55) ?_
        show Steps p.tables e below (T50.setTop (mkF m 56 #[.val (.int p0), .val (.int (1 : Int32)), .val (.int (1 : Int32)), .val (.ref wBUSY), .val (.int (1 : Int32)), .unset, .unset] [(.int (0 : Int32))])) t
        refine XS.istore X50.here hx rfl (hb hby at_56) rfl (l' := #[.val (.int p0), .val (.int (1 : Int32)), .val (.int (1 : Int32)), .val (.ref wBUSY), .val (.int (1 : Int32)), .val (.int (0 : Int32)), .unset]) rfl ?_
        show Steps p.tables e below (T50.setTop (mkF m 58 #[.val (.int p0), .val (.int (1 : Int32)), .val (.int (1 : Int32)), .val (.ref wBUSY), .val (.int (1 : Int32)), .val (.int (0 : Int32)), .unset] [])) t
        refine XS.aloadN X50.here hx rfl (hb hby at_58) rfl rfl ?_
        exact k
      obtain ⟨T52, X52, e52, st52⟩ := getS2 X50 hx hZ hown (host := "") (Or.inl (hw _ (List.mem_of_getElem? (i := 10) rfl))) Via.refl e50 S_NEW (g := (mkF m 59 #[.val (.int p0), .val (.int (1 : Int32)), .val (.int (1 : Int32)), .val (.ref wBUSY), .val (.int (1 : Int32)), .val (.int (0 : Int32)), .unset] [(.ref wBUSY)])) rfl (hb hby at_59)
      refine OwnGo.of st52 ?_
      show OwnGo p.tables e below _ (T52.setTop (mkF m 62 #[.val (.int p0), .val (.int (1 : Int32)), .val (.int (1 : Int32)), .val (.ref wBUSY), .val (.int (1 : Int32)), .val (.int (0 : Int32)), .unset] [(.ref wNEW), (.ref wBUSY)]))
      have hc53 : ¬ (wBUSY = wNEW) := by first | exact hne1 | exact hne2 | exact hne3 | exact Ne.symm hne1 | exact Ne.symm hne2 | exact Ne.symm hne3
      refine OwnGo.of (A := T52.setTop (mkF m 62 #[.val (.int p0), .val (.int (1 : Int32)), .val (.int (1 : Int32)), .val (.ref wBUSY), .val (.int (1 : Int32)), .val (.int (0 : Int32)), .unset] [(.ref wNEW), (.ref wBUSY)])) (B := T52.setTop (mkF m 79 #[.val (.int p0), .val (.int (1 : Int32)), .val (.int (1 : Int32)), .val (.ref wBUSY), .val (.int (1 : Int32)), .val (.int (0 : Int32)), .val (.int (0 : Int32))] [(.int (1 : Int32)), (.int (1 : Int32))])) (fun t k => ?_) ?_
      · show Steps p.tables e below (T52.setTop (mkF m 62 #[.val (.int p0), .val (.int (1 : Int32)), .val (.int (1 : Int32)), .val (.ref wBUSY), .val (.int (1 : Int32)), .val (.int (0 : Int32)), .unset] [(.ref wNEW), (.ref wBUSY)])) t
        refine Jvm.RoadKit.acmp (g := (mkF m 62 #[.val (.int p0), .val (.int (1 : Int32)), .val (.int (1 : Int32)), .val (.ref wBUSY), .val (.int (1 : Int32)), .val (.int (0 : Int32)), .unset] [(.ref wNEW), (.ref wBUSY)])) X52 hx rfl rfl rfl (pc0 := 62) (pc' := 69) (same := false) rfl (hb hby at_62) rfl (decide_eq_false fun q => hc53 (Value.ref.inj q)) (by decide) (by decide) ?_
        show Steps p.tables e below (T52.setTop (mkF m 69 #[.val (.int p0), .val (.int (1 : Int32)), .val (.int (1 : Int32)), .val (.ref wBUSY), .val (.int (1 : Int32)), .val (.int (0 : Int32)), .unset] [])) t
        refine XS.iconst X52.here hx rfl (hb hby at_69) ?_
        show Steps p.tables e below (T52.setTop (mkF m 70 #[.val (.int p0), .val (.int (1 : Int32)), .val (.int (1 : Int32)), .val (.ref wBUSY), .val (.int (1 : Int32)), .val (.int (0 : Int32)), .unset] [(.int (0 : Int32))])) t
        refine XS.istore X52.here hx rfl (hb hby at_70) rfl (l' := #[.val (.int p0), .val (.int (1 : Int32)), .val (.int (1 : Int32)), .val (.ref wBUSY), .val (.int (1 : Int32)), .val (.int (0 : Int32)), .val (.int (0 : Int32))]) rfl ?_
        show Steps p.tables e below (T52.setTop (mkF m 72 #[.val (.int p0), .val (.int (1 : Int32)), .val (.int (1 : Int32)), .val (.ref wBUSY), .val (.int (1 : Int32)), .val (.int (0 : Int32)), .val (.int (0 : Int32))] [])) t
        refine XS.aloadN X52.here hx rfl (hb hby at_72) rfl rfl ?_
        show Steps p.tables e below (T52.setTop (mkF m 73 #[.val (.int p0), .val (.int (1 : Int32)), .val (.int (1 : Int32)), .val (.ref wBUSY), .val (.int (1 : Int32)), .val (.int (0 : Int32)), .val (.int (0 : Int32))] [(.ref wBUSY)])) t
        refine XS.ifnullNo X52.here hx rfl (hb hby at_73) rfl ?_
        show Steps p.tables e below (T52.setTop (mkF m 76 #[.val (.int p0), .val (.int (1 : Int32)), .val (.int (1 : Int32)), .val (.ref wBUSY), .val (.int (1 : Int32)), .val (.int (0 : Int32)), .val (.int (0 : Int32))] [])) t
        refine XS.iload X52.here hx rfl (hb hby at_76) rfl ?_
        show Steps p.tables e below (T52.setTop (mkF m 78 #[.val (.int p0), .val (.int (1 : Int32)), .val (.int (1 : Int32)), .val (.ref wBUSY), .val (.int (1 : Int32)), .val (.int (0 : Int32)), .val (.int (0 : Int32))] [(.int (1 : Int32))])) t
        refine XS.iloadN X52.here hx rfl (hb hby at_78) rfl ?_
        exact k
      have hc54 : (1 : Int32) = (1 : Int32) := by decide
      refine OwnGo.of (A := T52.setTop (mkF m 79 #[.val (.int p0), .val (.int (1 : Int32)), .val (.int (1 : Int32)), .val (.ref wBUSY), .val (.int (1 : Int32)), .val (.int (0 : Int32)), .val (.int (0 : Int32))] [(.int (1 : Int32)), (.int (1 : Int32))])) (B := T52.setTop (mkF m 85 #[.val (.int p0), .val (.int (1 : Int32)), .val (.int (1 : Int32)), .val (.ref wBUSY), .val (.int (1 : Int32)), .val (.int (0 : Int32)), .val (.int (0 : Int32))] [(.int (1 : Int32)), (.int (0 : Int32))])) (fun t k => ?_) ?_
      · show Steps p.tables e below (T52.setTop (mkF m 79 #[.val (.int p0), .val (.int (1 : Int32)), .val (.int (1 : Int32)), .val (.ref wBUSY), .val (.int (1 : Int32)), .val (.int (0 : Int32)), .val (.int (0 : Int32))] [(.int (1 : Int32)), (.int (1 : Int32))])) t
        refine XS.icmpNo X52.here hx rfl (hb hby at_79) rfl (teq hc54).2 ?_
        show Steps p.tables e below (T52.setTop (mkF m 82 #[.val (.int p0), .val (.int (1 : Int32)), .val (.int (1 : Int32)), .val (.ref wBUSY), .val (.int (1 : Int32)), .val (.int (0 : Int32)), .val (.int (0 : Int32))] [])) t
        refine XS.iload X52.here hx rfl (hb hby at_82) rfl ?_
        show Steps p.tables e below (T52.setTop (mkF m 84 #[.val (.int p0), .val (.int (1 : Int32)), .val (.int (1 : Int32)), .val (.ref wBUSY), .val (.int (1 : Int32)), .val (.int (0 : Int32)), .val (.int (0 : Int32))] [(.int (0 : Int32))])) t
        refine XS.iloadN X52.here hx rfl (hb hby at_84) rfl ?_
        exact k
      have hc55 : ¬ ((1 : Int32) = (0 : Int32)) := by decide
      refine OwnGo.of (A := T52.setTop (mkF m 85 #[.val (.int p0), .val (.int (1 : Int32)), .val (.int (1 : Int32)), .val (.ref wBUSY), .val (.int (1 : Int32)), .val (.int (0 : Int32)), .val (.int (0 : Int32))] [(.int (1 : Int32)), (.int (0 : Int32))])) (B := T52.setTop (mkF m 97 #[.val (.int p0), .val (.int (1 : Int32)), .val (.int (1 : Int32)), .val (.ref wBUSY), .val (.int (1 : Int32)), .val (.int (0 : Int32)), .val (.int (0 : Int32))] [(.int (0 : Int32)), (.int (0 : Int32))])) (fun t k => ?_) ?_
      · show Steps p.tables e below (T52.setTop (mkF m 85 #[.val (.int p0), .val (.int (1 : Int32)), .val (.int (1 : Int32)), .val (.ref wBUSY), .val (.int (1 : Int32)), .val (.int (0 : Int32)), .val (.int (0 : Int32))] [(.int (1 : Int32)), (.int (0 : Int32))])) t
        refine XS.ifYes X52.here hx rfl (pc0 := 85) (pc' := 96) rfl (hb hby at_85) rfl ((if0 _ _).trans (feq hc55).2) (by decide) (by decide) ?_
        show Steps p.tables e below (T52.setTop (mkF m 96 #[.val (.int p0), .val (.int (1 : Int32)), .val (.int (1 : Int32)), .val (.ref wBUSY), .val (.int (1 : Int32)), .val (.int (0 : Int32)), .val (.int (0 : Int32))] [(.int (0 : Int32))])) t
        refine XS.iconst X52.here hx rfl (hb hby at_96) ?_
        exact k
      have hc56 : (0 : Int32) = (0 : Int32) := by decide
      refine OwnGo.of (A := T52.setTop (mkF m 97 #[.val (.int p0), .val (.int (1 : Int32)), .val (.int (1 : Int32)), .val (.ref wBUSY), .val (.int (1 : Int32)), .val (.int (0 : Int32)), .val (.int (0 : Int32))] [(.int (0 : Int32)), (.int (0 : Int32))])) (B := T52.setTop (mkF m 103 #[.val (.int p0), .val (.int (1 : Int32)), .val (.int (1 : Int32)), .val (.ref wBUSY), .val (.int (1 : Int32)), .val (.int (0 : Int32)), .val (.int (0 : Int32))] [(.int (1 : Int32)), (.int (0 : Int32))])) (fun t k => ?_) ?_
      · show Steps p.tables e below (T52.setTop (mkF m 97 #[.val (.int p0), .val (.int (1 : Int32)), .val (.int (1 : Int32)), .val (.ref wBUSY), .val (.int (1 : Int32)), .val (.int (0 : Int32)), .val (.int (0 : Int32))] [(.int (0 : Int32)), (.int (0 : Int32))])) t
        refine XS.icmpNo X52.here hx rfl (hb hby at_97) rfl (teq hc56).2 ?_
        show Steps p.tables e below (T52.setTop (mkF m 100 #[.val (.int p0), .val (.int (1 : Int32)), .val (.int (1 : Int32)), .val (.ref wBUSY), .val (.int (1 : Int32)), .val (.int (0 : Int32)), .val (.int (0 : Int32))] [])) t
        refine XS.iload X52.here hx rfl (hb hby at_100) rfl ?_
        show Steps p.tables e below (T52.setTop (mkF m 102 #[.val (.int p0), .val (.int (1 : Int32)), .val (.int (1 : Int32)), .val (.ref wBUSY), .val (.int (1 : Int32)), .val (.int (0 : Int32)), .val (.int (0 : Int32))] [(.int (0 : Int32))])) t
        refine XS.iloadN X52.here hx rfl (hb hby at_102) rfl ?_
        exact k
      have hc57 : ¬ ((1 : Int32) = (0 : Int32)) := by decide
      refine OwnGo.of (A := T52.setTop (mkF m 103 #[.val (.int p0), .val (.int (1 : Int32)), .val (.int (1 : Int32)), .val (.ref wBUSY), .val (.int (1 : Int32)), .val (.int (0 : Int32)), .val (.int (0 : Int32))] [(.int (1 : Int32)), (.int (0 : Int32))])) (B := T52.setTop (mkF m 115 #[.val (.int p0), .val (.int (1 : Int32)), .val (.int (1 : Int32)), .val (.ref wBUSY), .val (.int (1 : Int32)), .val (.int (0 : Int32)), .val (.int (0 : Int32))] [(.int (0 : Int32)), (.int (0 : Int32))])) (fun t k => ?_) ?_
      · show Steps p.tables e below (T52.setTop (mkF m 103 #[.val (.int p0), .val (.int (1 : Int32)), .val (.int (1 : Int32)), .val (.ref wBUSY), .val (.int (1 : Int32)), .val (.int (0 : Int32)), .val (.int (0 : Int32))] [(.int (1 : Int32)), (.int (0 : Int32))])) t
        refine XS.ifYes X52.here hx rfl (pc0 := 103) (pc' := 114) rfl (hb hby at_103) rfl ((if0 _ _).trans (feq hc57).2) (by decide) (by decide) ?_
        show Steps p.tables e below (T52.setTop (mkF m 114 #[.val (.int p0), .val (.int (1 : Int32)), .val (.int (1 : Int32)), .val (.ref wBUSY), .val (.int (1 : Int32)), .val (.int (0 : Int32)), .val (.int (0 : Int32))] [(.int (0 : Int32))])) t
        refine XS.iconst X52.here hx rfl (hb hby at_114) ?_
        exact k
      have hc58 : (0 : Int32) = (0 : Int32) := by decide
      refine OwnGo.of (A := T52.setTop (mkF m 115 #[.val (.int p0), .val (.int (1 : Int32)), .val (.int (1 : Int32)), .val (.ref wBUSY), .val (.int (1 : Int32)), .val (.int (0 : Int32)), .val (.int (0 : Int32))] [(.int (0 : Int32)), (.int (0 : Int32))])) (B := T52.setTop (mkF m 123 #[.val (.int p0), .val (.int (1 : Int32)), .val (.int (1 : Int32)), .val (.ref wBUSY), .val (.int (1 : Int32)), .val (.int (0 : Int32)), .val (.int (0 : Int32))] [(.int (1 : Int32))])) (fun t k => ?_) ?_
      · show Steps p.tables e below (T52.setTop (mkF m 115 #[.val (.int p0), .val (.int (1 : Int32)), .val (.int (1 : Int32)), .val (.ref wBUSY), .val (.int (1 : Int32)), .val (.int (0 : Int32)), .val (.int (0 : Int32))] [(.int (0 : Int32)), (.int (0 : Int32))])) t
        refine XS.icmpNo X52.here hx rfl (hb hby at_115) rfl (teq hc58).2 ?_
        show Steps p.tables e below (T52.setTop (mkF m 118 #[.val (.int p0), .val (.int (1 : Int32)), .val (.int (1 : Int32)), .val (.ref wBUSY), .val (.int (1 : Int32)), .val (.int (0 : Int32)), .val (.int (0 : Int32))] [])) t
        refine XS.iconst X52.here hx rfl (hb hby at_118) ?_
        show Steps p.tables e below (T52.setTop (mkF m 119 #[.val (.int p0), .val (.int (1 : Int32)), .val (.int (1 : Int32)), .val (.ref wBUSY), .val (.int (1 : Int32)), .val (.int (0 : Int32)), .val (.int (0 : Int32))] [(.int (1 : Int32))])) t
        refine XS.goto X52.here hx rfl (pc0 := 119) (pc' := 123) rfl (hb hby at_119) (by decide) (by decide) ?_
        exact k
      obtain ⟨fs, hr, hrun, hended, hW, hsame⟩ := X52.leave (v := some (.int (nar .boolean (1 : Int32)))) (fun h => by rw [Bd.returns] at h; cases h) hlk
      refine ⟨_, _, ?_, hrun, hended, _, _, rfl, ?_, ⟨_, rfl⟩, hW, hsame.mono (by decide) (by decide)⟩
      · show Steps p.tables e below (T52.setTop (mkF m 123 #[.val (.int p0), .val (.int (1 : Int32)), .val (.int (1 : Int32)), .val (.ref wBUSY), .val (.int (1 : Int32)), .val (.int (0 : Int32)), .val (.int (0 : Int32))] [(.int (1 : Int32))])) _
        exact retN X52 hx (t := .boolean) Bd.returns (by simp) (hb hby at_123) hr
      · show Qrm0 Z p0 wNEW wIDLE wBUSY h0 n0 _ (T52.setFrames fs).heap _
        rw [show (T52.setFrames fs).heap = h0 from e52]
        exact ⟨rfl, N47⟩
set_option maxRecDepth 65536 in
set_option maxHeartbeats 40000000 in
theorem comes_1 {Post : Tables → Env → Array Value → State → Outcome → State → Prop} (hpost : ∀ tb e args s v u, (limb_1_1.after args s (.returned v) u = true ∧ limb_1_2.after args s (.returned v) u = true ∧ True) → FrameEnd s (.returned v) u (Jvm.fieldLocs frame_1_writes args s ++ Jvm.arrayLocs frame_1_arrays args s ++ Jvm.staticLocs frame_1_statics s) 0 0 → Post tb e args s (.returned v) u) :
    ArmFor flags0 classFile x code maxLocals ret World_1 tables_1 room_1 Calls_1 rest_1 Pre_1 Post := by
  intro l hfl _ _ p e ha hc hk s m args below hf hA hF happ hP
  obtain ⟨hcalls, hrest, hpre⟩ := hP
  obtain ⟨-, -, -, hnamed, -, -, -, hat⟩ := (Spec.applies_iff hf).mp happ
  obtain ⟨hg, hn⟩ := and_e (Cond.before_iff.mp (show (Jvm.Cond.and given_1 narrow_1).before args s = true from hpre))
  obtain ⟨gg1, gg2⟩ := and_e hg
  obtain ⟨w0, rfl⟩ : ∃ w0 : Value, args = #[w0] := by
    have hs : args.size = 1 := by simpa [Cond.value, given_1] using gg1
    obtain ⟨L⟩ := args
    match L, hs with
    | [w0], _ => exact ⟨w0, rfl⟩
  have hw := fun d (hd : d ∈ tables_1) => atoms_spec (ws := Jvm.Cond.code x code maxLocals ret :: tables_1) hat d (List.mem_cons_of_mem _ hd)
  have hfit : Fit s := fun {y c} hc i hi => by
    obtain ⟨ha, rfl⟩ := Array.getElem?_eq_some_iff.mp hc
    have q := List.all_eq_true.mp ((Array.all_eq_true_iff_forall_mem.mp hF) _ (Array.getElem_mem ha)) i (List.mem_range.mpr hi)
    simpa [Array.getElem?_eq_getElem hi] using q
  obtain ⟨i0, ei0⟩ := is_v gg2
  obtain rfl : w0 = (.int i0) := Option.some.inj ei0
  obtain ⟨nn1, nn2⟩ := and_e hn
  obtain ⟨nn3, nn4⟩ := and_e nn2
  obtain ⟨nn5, nn6⟩ := and_e nn4
  obtain ⟨nn7, nn8⟩ := and_e nn6
  obtain ⟨nn9, nn10⟩ := and_e nn8
  obtain ⟨wNEW, evNEW⟩ := exa_v nn1
  have S_NEW : Sta s s.heap "com/example/map_of_brokers/mapofbrokers/kafka/ListenerConnection$Stage" "NEW" "Lcom/example/map_of_brokers/mapofbrokers/kafka/ListenerConnection$Stage;" (.ref wNEW) := Sta.start evNEW (Or.inr ⟨(hw _ (List.mem_of_getElem? (i := 2) rfl)), (hw _ (List.mem_of_getElem? (i := 5) rfl))⟩)
  have F_NEW := own_fldI evNEW nn5
  obtain ⟨wIDLE, evIDLE⟩ := exa_v nn9
  have S_IDLE : Sta s s.heap "com/example/map_of_brokers/mapofbrokers/kafka/ListenerConnection$Stage" "IDLE" "Lcom/example/map_of_brokers/mapofbrokers/kafka/ListenerConnection$Stage;" (.ref wIDLE) := Sta.start evIDLE (Or.inr ⟨(hw _ (List.mem_of_getElem? (i := 2) rfl)), (hw _ (List.mem_of_getElem? (i := 9) rfl))⟩)
  have F_IDLE := own_fldI evIDLE nn10
  obtain ⟨wBUSY, evBUSY⟩ := exa_v nn3
  have S_BUSY : Sta s s.heap "com/example/map_of_brokers/mapofbrokers/kafka/ListenerConnection$Stage" "BUSY" "Lcom/example/map_of_brokers/mapofbrokers/kafka/ListenerConnection$Stage;" (.ref wBUSY) := Sta.start evBUSY (Or.inr ⟨(hw _ (List.mem_of_getElem? (i := 2) rfl)), (hw _ (List.mem_of_getElem? (i := 7) rfl))⟩)
  have F_BUSY := own_fldI evBUSY nn7
  obtain ⟨n, o, h1, h2, h3, _, L, rfl, ⟨rfl, N⟩, hq⟩ := rm0 l s _ hw tables_1 i0 wNEW wIDLE wBUSY s.heap s.heap.size (Nat.le_refl _) S_NEW S_IDLE S_BUSY (F_NEW.ne F_IDLE (by decide)) (F_NEW.ne F_BUSY (by decide)) (F_IDLE.ne F_BUSY (by decide)) p e ha hc hk s m _ below hf ((Spec.applies_iff_loose hf).mp happ).1 ⟨rfl, State.Warmed39.refl s, rfl⟩ trivial
  refine ⟨n, _, h1, h2, h3, hpost _ _ _ _ _ _ ⟨Cond.after_iff.mpr rfl, Cond.after_iff.mpr (eq_i res_at (Term.int_eval (1)) rfl), trivial⟩ ⟨hq.1, hq.2.1, (hq.2.2.sift fun y hy => Or.inr (N y hy)).mono (by decide) (by decide)⟩⟩
theorem main_1_1 : Claimed_1_1 := comes_1 fun _ _ _ _ _ _ h hF => ⟨h.1, hF⟩
theorem main_1_2 : Claimed_1_2 := comes_1 fun _ _ _ _ _ _ h hF => ⟨h.2.1, hF⟩
end Jvm.Pilot.@@N@@
namespace Jvm.Pilot.@@N@@
open Jvm Jvm.ClassFile Sem Op Lib Jvm.Free Jvm.Stand Jvm.Pilot.@@N@@.Jvm.D
/-! MADE BY PROGRAM (witnessworld.py) out of the Statement's table words and the real class files: 12 classes; the members and pool entries that the words name. The judged class is class 1, her method 1. -/
namespace start1
open Jvm.ClassFile
def u (s : String) : CpInfo := .utf8 (stringToUtf16 s)
/-- a pool by its gaps: so many unusable entries, then the entry; so many at the end -/
def gap : Nat → List CpInfo → List CpInfo
  | 0, r => r
  | n + 1, r => .unusable :: gap n r
def poolList (es : List (Nat × CpInfo)) (last : Nat) : List CpInfo := es.foldr (fun e r => gap e.1 (e.2 :: r)) (gap last [])
def pool (es : List (Nat × CpInfo)) (last : Nat) : Array CpInfo := ⟨poolList es last⟩
def fileOf (pool : Array CpInfo) (this : Nat) (attrs : Array Attribute := #[]) (ms : Array MethodInfo := #[]) (fl : Nat := 33) (sup : Nat := 0) (ifs : Array Nat := #[]) (fds : Array FieldInfo := #[]) : ClassFile where
  minorVersion := 0
  majorVersion := 65
  constantPool := pool
  accessFlags := fl
  thisClass := this
  superClass := sup
  interfaces := ifs
  fields := fds
  methods := ms
  attributes := attrs
def plain (name : String) (sup : Option ClassId) : Class where
  name := name
  kind := .ordinary
  loader := none
  accessFlags := 33
  super := sup
  interfaces := #[]
  cf := none
  fields := #[]
  methods := #[]
  instanceTypes := #[]
  staticTypes := #[]
  resolved := #[]
  callSites := []
  init := .initialized
  statics := none
  mirror := none

def pool0 : Array CpInfo := pool [(5, u "<init>"), (0, u "()V"), (1, .class_ 10), (1, u "java/lang/Object")] 113

def k0m0 : Method := { name := "<init>", desc := "()V", sig := { parameters := [], returnType := none }, accessFlags := 1, code := none }
/-- java/lang/Object -/
def k0 : Class := { plain "java/lang/Object" none with
  accessFlags := 33
  interfaces := #[]
  cf := some (fileOf pool0 8 #[] #[{ accessFlags := 1, nameIndex := 5, descriptorIndex := 6, attributes := #[] }] 33 0 #[] #[])
  fields := #[]
  methods := #[k0m0]
  instanceTypes := #[]
  staticTypes := #[]
  resolved := Array.replicate 124 none
  statics := none }

def pool1 : Array CpInfo := pool [(2, .class_ 4), (1, u "java/lang/Object"), (0, u "<init>"), (0, u "()V"), (0, .methodref 8 9), (0, .class_ 10), (0, .nameAndType 11 12), (0, u "com/example/map_of_brokers/mapofbrokers/kafka/ListenerConnection$Stage"), (0, u "of"), (0, u "(ZZ)Lcom/example/map_of_brokers/mapofbrokers/kafka/ListenerConnection$Stage;"), (0, .fieldref 8 14), (0, .nameAndType 15 16), (0, u "BUSY"), (0, u "Lcom/example/map_of_brokers/mapofbrokers/kafka/ListenerConnection$Stage;"), (0, .fieldref 8 18), (0, .nameAndType 19 16), (0, u "IDLE"), (0, .fieldref 8 21), (0, .nameAndType 22 16), (0, u "NEW"), (0, .class_ 24), (0, u "com/example/map_of_brokers/mapofbrokers/kafka/StageOfPinLaw"), (2, u "law"), (0, u "(I)Z")] 7

def k1m0 : Method := { name := "<init>", desc := "()V", sig := { parameters := [], returnType := none }, accessFlags := 2, code := none }
def k1c1 : Code := { maxStack := 2, maxLocals := 7, code := code, exceptionTable := #[], attributes := #[] }
def k1m1 : Method := { name := "law", desc := "(I)Z", sig := { parameters := [.int], returnType := some .boolean }, accessFlags := 9, code := some k1c1 }
/-- com/example/map_of_brokers/mapofbrokers/kafka/StageOfPinLaw -/
def k1 : Class := { plain "com/example/map_of_brokers/mapofbrokers/kafka/StageOfPinLaw" (some 0) with
  accessFlags := 49
  interfaces := #[]
  cf := some (fileOf pool1 23 #[] #[{ accessFlags := 2, nameIndex := 5, descriptorIndex := 6, attributes := #[] }, { accessFlags := 9, nameIndex := 27, descriptorIndex := 28, attributes := #[] }] 49 2 #[] #[])
  fields := #[]
  methods := #[k1m0, k1m1]
  instanceTypes := #[]
  staticTypes := #[]
  resolved := Array.replicate 36 none
  statics := none }

def pool2 : Array CpInfo := pool [(1, .class_ 2), (0, u "java/lang/constant/Constable"), (0, .class_ 4), (0, u "java/lang/Object")] 6

/-- java/lang/constant/Constable -/
def k2 : Class := { plain "java/lang/constant/Constable" (some 0) with
  accessFlags := 1537
  interfaces := #[]
  cf := some (fileOf pool2 1 #[] #[] 1537 3 #[] #[])
  fields := #[]
  methods := #[]
  instanceTypes := #[]
  staticTypes := #[]
  resolved := Array.replicate 11 none
  statics := none }

def pool3 : Array CpInfo := pool [(1, .class_ 2), (0, u "java/lang/Comparable"), (0, .class_ 4), (0, u "java/lang/Object")] 7

/-- java/lang/Comparable -/
def k3 : Class := { plain "java/lang/Comparable" (some 0) with
  accessFlags := 1537
  interfaces := #[]
  cf := some (fileOf pool3 1 #[] #[] 1537 3 #[] #[])
  fields := #[]
  methods := #[]
  instanceTypes := #[]
  staticTypes := #[]
  resolved := Array.replicate 12 none
  statics := none }

def pool4 : Array CpInfo := pool [(1, .class_ 2), (0, u "java/io/Serializable"), (0, .class_ 4), (0, u "java/lang/Object")] 2

/-- java/io/Serializable -/
def k4 : Class := { plain "java/io/Serializable" (some 0) with
  accessFlags := 1537
  interfaces := #[]
  cf := some (fileOf pool4 1 #[] #[] 1537 3 #[] #[])
  fields := #[]
  methods := #[]
  instanceTypes := #[]
  staticTypes := #[]
  resolved := Array.replicate 7 none
  statics := none }

def pool5 : Array CpInfo := pool [(2, .class_ 4), (1, u "java/lang/Enum"), (0, u "name"), (0, u "Ljava/lang/String;"), (2, u "ordinal"), (0, u "I"), (1, .class_ 14), (1, u "java/lang/Object"), (4, u "hash"), (86, .class_ 108), (1, u "java/lang/Enum$EnumDesc"), (2, .class_ 112), (0, u "java/lang/constant/Constable"), (0, .class_ 114), (0, u "java/lang/Comparable"), (0, .class_ 116), (0, u "java/io/Serializable")] 87

/-- java/lang/Enum -/
def k5 : Class := { plain "java/lang/Enum" (some 0) with
  accessFlags := 1057
  interfaces := #[2, 3, 4]
  cf := some (fileOf pool5 2 #[.nestMembers #[106]] #[] 1057 12 #[111, 113, 115] #[{ accessFlags := 18, nameIndex := 5, descriptorIndex := 6, attributes := #[] }, { accessFlags := 18, nameIndex := 9, descriptorIndex := 10, attributes := #[] }, { accessFlags := 2, nameIndex := 19, descriptorIndex := 10, attributes := #[] }])
  fields := #[{ name := "name", type := (.object "java/lang/String"), accessFlags := 18, slot := 0, constantValue := 0 }, { name := "ordinal", type := .int, accessFlags := 18, slot := 1, constantValue := 0 }, { name := "hash", type := .int, accessFlags := 2, slot := 2, constantValue := 0 }]
  methods := #[]
  instanceTypes := #[(.object "java/lang/String"), .int, .int]
  staticTypes := #[]
  resolved := Array.replicate 204 none
  statics := none }

def pool6 : Array CpInfo := pool [(1, .class_ 2), (0, u "com/example/map_of_brokers/mapofbrokers/kafka/ListenerConnection$Stage"), (0, .fieldref 1 4), (0, .nameAndType 5 6), (0, u "NEW"), (0, u "Lcom/example/map_of_brokers/mapofbrokers/kafka/ListenerConnection$Stage;"), (0, .fieldref 1 8), (0, .nameAndType 9 6), (0, u "IDLE"), (0, .fieldref 1 11), (0, .nameAndType 12 6), (0, u "BUSY"), (2, u "$VALUES"), (0, u "[Lcom/example/map_of_brokers/mapofbrokers/kafka/ListenerConnection$Stage;"), (6, .class_ 25), (1, u "java/lang/Enum"), (21, u "of"), (0, u "(ZZ)Lcom/example/map_of_brokers/mapofbrokers/kafka/ListenerConnection$Stage;"), (6, .class_ 56), (0, u "com/example/map_of_brokers/mapofbrokers/kafka/ListenerConnection")] 2

def k6c0 : Code := { maxStack := 1, maxLocals := 3, code := prog_16_method_4_code, exceptionTable := #[], attributes := #[] }
def k6m0 : Method := { name := "of", desc := "(ZZ)Lcom/example/map_of_brokers/mapofbrokers/kafka/ListenerConnection$Stage;", sig := { parameters := [.boolean, .boolean], returnType := some (.object "com/example/map_of_brokers/mapofbrokers/kafka/ListenerConnection$Stage") }, accessFlags := 8, code := some k6c0 }
/-- com/example/map_of_brokers/mapofbrokers/kafka/ListenerConnection$Stage -/
def k6 : Class := { plain "com/example/map_of_brokers/mapofbrokers/kafka/ListenerConnection$Stage" (some 5) with
  accessFlags := 16433
  interfaces := #[]
  cf := some (fileOf pool6 1 #[.nestHost 55] #[{ accessFlags := 8, nameIndex := 47, descriptorIndex := 48, attributes := #[] }] 16433 23 #[] #[{ accessFlags := 16409, nameIndex := 5, descriptorIndex := 6, attributes := #[] }, { accessFlags := 16409, nameIndex := 9, descriptorIndex := 6, attributes := #[] }, { accessFlags := 16409, nameIndex := 12, descriptorIndex := 6, attributes := #[] }, { accessFlags := 4122, nameIndex := 15, descriptorIndex := 16, attributes := #[] }])
  fields := #[{ name := "NEW", type := (.object "com/example/map_of_brokers/mapofbrokers/kafka/ListenerConnection$Stage"), accessFlags := 16409, slot := 0, constantValue := 0 }, { name := "IDLE", type := (.object "com/example/map_of_brokers/mapofbrokers/kafka/ListenerConnection$Stage"), accessFlags := 16409, slot := 1, constantValue := 0 }, { name := "BUSY", type := (.object "com/example/map_of_brokers/mapofbrokers/kafka/ListenerConnection$Stage"), accessFlags := 16409, slot := 2, constantValue := 0 }, { name := "$VALUES", type := (.array (.object "com/example/map_of_brokers/mapofbrokers/kafka/ListenerConnection$Stage")), accessFlags := 4122, slot := 3, constantValue := 0 }]
  methods := #[k6m0]
  instanceTypes := #[(.object "java/lang/String"), .int, .int]
  staticTypes := #[(.object "com/example/map_of_brokers/mapofbrokers/kafka/ListenerConnection$Stage"), (.object "com/example/map_of_brokers/mapofbrokers/kafka/ListenerConnection$Stage"), (.object "com/example/map_of_brokers/mapofbrokers/kafka/ListenerConnection$Stage"), (.array (.object "com/example/map_of_brokers/mapofbrokers/kafka/ListenerConnection$Stage"))]
  resolved := Array.replicate 59 none
  statics := some 0 }

def pool7 : Array CpInfo := pool [(1, u "java/lang/Cloneable"), (0, .class_ 1), (0, u "java/lang/Object"), (0, .class_ 3)] 3

/-- java/lang/Cloneable -/
def k7 : Class := { plain "java/lang/Cloneable" (some 0) with
  accessFlags := 1537
  interfaces := #[]
  cf := some (fileOf pool7 2 #[] #[] 1537 4 #[] #[])
  fields := #[]
  methods := #[]
  instanceTypes := #[]
  staticTypes := #[]
  resolved := Array.replicate 8 none
  statics := none }

/-- the primitive byte -/
def k8 : Class := { plain "byte" none with kind := .primitive 'B', accessFlags := 0x411 }
/-- [B -/
def k9 : Class := { plain "[B" (some 0) with kind := .array 8 .byte, interfaces := #[7, 4], accessFlags := 1041 }

/-- the primitive int -/
def k10 : Class := { plain "int" none with kind := .primitive 'I', accessFlags := 0x411 }
/-- [I -/
def k11 : Class := { plain "[I" (some 0) with kind := .array 10 .int, interfaces := #[7, 4], accessFlags := 1041 }

def heap : Heap := #[{ cls := 6, slots := #[.ref 1, .ref 3, .ref 2, .null], vm := .statics 6 },
  { cls := 6, slots := #[.null, .int 0, .int 0], vm := .none },
  { cls := 6, slots := #[.null, .int 2, .int 0], vm := .none },
  { cls := 6, slots := #[.null, .int 1, .int 0], vm := .none }]
def classes : Array Class := #[k0, k1, k2, k3, k4, k5, k6, k7, k8, k9, k10, k11]
def interned : List (Array UInt16 × Addr) := []
def slotsUsed : Nat := 13
def theMethod : MethodId := ⟨1, 1⟩
def args0 : Array Value := #[.int 3]
def aboutOver (below : List Frame) : State where
  vm := { classes := classes, interned := interned.toArray }
  heap := heap
  slotsUsed := slotsUsed
  threads := #[{ frames := .invoking theMethod args0 :: below }]
def below0 : List Frame := [.native { method := ⟨0, 0⟩, args := #[] }]
def about1 : State := aboutOver below0
def p0 : Program := .bare "" "" ""
def e0 : Env := launch0.env 0 0 0
theorem w_frames : about1.frames = Frame.invoking theMethod args0 :: below0 := rfl
set_option maxRecDepth 65536 in
theorem w_args : argsFit about1.vm theMethod args0 = true := by decide +kernel
set_option maxRecDepth 65536 in
theorem w_heap : heapFits about1 = true := by decide +kernel
set_option maxRecDepth 65536 in
theorem w_runnable : about1.curStatus? = some .runnable := by decide +kernel
set_option maxRecDepth 65536 in
theorem w_alone : about1.alone = true := by decide +kernel
set_option maxRecDepth 65536 in
theorem w_named : about1.methodNamed? x = some theMethod := by decide +kernel
set_option maxRecDepth 65536 in
theorem w_hears : about1.hears theMethod below0 = true := by decide +kernel
set_option maxRecDepth 65536 in
theorem w_ripe : about1.ripe theMethod args0 below0 = true := by decide +kernel
theorem w_running : about1.status = .running := rfl
set_option maxRecDepth 65536 in
theorem w_room : about1.hasRoom e0.platform room_1 = true :=
  launch0.hasRoom_least _ room_1 (by decide +kernel) (by decide +kernel) (by decide +kernel) (by decide +kernel) (by decide +kernel) (by decide +kernel)
theorem allAtoms_all (ts : List Jvm.Cond) (a : Array Jvm.Value) (st : Jvm.State) : (allAtoms ts).before a st = ts.all (fun c => c.before a st) := by
  induction ts with
  | nil => rfl
  | cons c t ih =>
    show (Jvm.Cond.and c (allAtoms t)).before a st = _
    rw [Jvm.Cond.before_and, ih, List.all_cons]
def words1 : List Jvm.Cond := Jvm.Cond.code x code maxLocals ret :: tables_1
/-- a 'code' word, met by the world's own term for the bytes: nothing is compared byte by byte -/
theorem code_word {y : MethodName} {bytes : ByteArray} {mx : Nat} {rt : Option FieldType} {a : Array Value} {s : State} {m : MethodId} {meth : Method} {c : Code} (h1 : s.methodNamed? y = some m) (h2 : s.vm.method? m = some meth) (h3 : meth.code = some c) (h4 : c.code = bytes)
    (h5 : (c.maxLocals == mx && c.exceptionTable.isEmpty && decide (c.maxStack ≤ mostOperands) && decide (meth.sig.returnType = rt) && !meth.locks && decide (parseMethodDescriptor y.desc = some meth.sig)) = true) : (Jvm.Cond.code y bytes mx rt).before a s = true := by
  simp only [Bool.and_eq_true, beq_iff_eq, Bool.not_eq_true', decide_eq_true_eq] at h5
  obtain ⟨⟨⟨⟨⟨g1, g2⟩, g3⟩, g4⟩, g5⟩, g6⟩ := h5
  simp [Cond.before, Cond.holds, Cond.value, h1, h2, h3, h4, g1, g2, g3, g4, g5, g6]
def isCode : Jvm.Cond → Bool
  | .code _ _ _ _ => true
  | _ => false
theorem all_split {L : List Jvm.Cond} {P : Jvm.Cond → Bool} (h1 : L.all (fun c => isCode c || P c) = true) (h2 : ∀ c ∈ L.filter isCode, P c = true) : L.all P = true := by
  refine List.all_eq_true.mpr fun c hc => ?_
  have h := List.all_eq_true.mp h1 c hc
  rcases Bool.eq_false_or_eq_true (isCode c) with hi | hi
  · exact h2 c (List.mem_filter.mpr ⟨hc, hi⟩)
  · simpa [hi] using h
set_option maxRecDepth 65536 in
theorem w_c0 : (Jvm.Cond.code x code maxLocals ret).before args0 about1 = true := code_word (m := ⟨1, 1⟩) (meth := k1m1) (c := k1c1) (by decide +kernel) rfl rfl rfl (by decide +kernel)
set_option maxRecDepth 65536 in
theorem w_c1 : (Jvm.Cond.code ({ cls := "com/example/map_of_brokers/mapofbrokers/kafka/ListenerConnection$Stage", name := "of", desc := "(ZZ)Lcom/example/map_of_brokers/mapofbrokers/kafka/ListenerConnection$Stage;" } : Jvm.MethodName) prog_16_method_4_code (3 : Nat) (Option.some (Jvm.ClassFile.FieldType.object "com/example/map_of_brokers/mapofbrokers/kafka/ListenerConnection$Stage"))).before args0 about1 = true := code_word (m := ⟨6, 0⟩) (meth := k6m0) (c := k6c0) (by decide +kernel) rfl rfl rfl (by decide +kernel)
def codes1 : List Jvm.Cond := [Jvm.Cond.code x code maxLocals ret, Jvm.Cond.code ({ cls := "com/example/map_of_brokers/mapofbrokers/kafka/ListenerConnection$Stage", name := "of", desc := "(ZZ)Lcom/example/map_of_brokers/mapofbrokers/kafka/ListenerConnection$Stage;" } : Jvm.MethodName) prog_16_method_4_code (3 : Nat) (Option.some (Jvm.ClassFile.FieldType.object "com/example/map_of_brokers/mapofbrokers/kafka/ListenerConnection$Stage"))]
set_option maxRecDepth 65536 in
theorem codes_eq : words1.filter isCode = codes1 := rfl
theorem w_codes : ∀ c ∈ words1.filter isCode, c.before args0 about1 = true := by
  rw [codes_eq]
  intro c hc
  simp only [codes1, List.mem_cons, List.not_mem_nil, or_false] at hc
  rcases hc with rfl | rfl
  · exact w_c0
  · exact w_c1
set_option maxRecDepth 65536 in
theorem w_t1 : words1.all (fun c => isCode c || c.before args0 about1) = true := by decide +kernel
theorem w_tables : (allAtoms (Jvm.Cond.code x code maxLocals ret :: tables_1)).before args0 about1 = true := by
  rw [allAtoms_all]
  show words1.all (fun c => c.before args0 about1) = true
  refine all_split ?_ w_codes
  rw [w_t1]
set_option maxRecDepth 65536 in
theorem w_case : (Jvm.Cond.and given_1 narrow_1).before args0 about1 = true := by decide +kernel
theorem w_applies : (headSpec (Jvm.Cond.code x code maxLocals ret :: tables_1) room_1).applies x e0.platform about1 = true :=
  (Spec.applies_iff w_frames).mpr ⟨w_running, w_runnable, w_alone, w_named, w_hears, w_ripe, w_room, w_tables⟩
theorem atStart : AtStart classFile x code maxLocals ret World_1 tables_1 room_1 Calls_1 rest_1 Pre_1 launch0 p0 e0 about1 theMethod args0 below0 :=
  ⟨lists_1, trivial, launch0.admits_env _ _ _, launch0.least_env, fairChoices_fair.cas, fairChoices_fair.clock, w_frames, w_args, w_heap, w_applies, trivial, trivial, w_case⟩
end start1
theorem witness_1 : WitnessClaimed_1 := ⟨start1.p0, start1.e0, start1.about1, start1.theMethod, start1.args0, start1.below0, start1.atStart⟩
end Jvm.Pilot.@@N@@
