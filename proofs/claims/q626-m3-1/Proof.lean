import JvmDerived
import JvmDerived.Pilot.@@N@@Statement
import JvmDerived.Pilot.@@N@@Code
set_option linter.unusedVariables false
set_option linter.unusedSimpArgs false
namespace Jvm.Pilot.@@N@@
open Jvm Jvm.ClassFile Sem Op Lib Jvm.Free Jvm.Stand Jvm.LawKit Jvm.RoadKit Bundle Jvm.Pilot.@@N@@.Jvm.D
section OwnKit
variable {p : Program} {l : Launch} {e : Env} {R : Room} {s : State} {m : MethodId} {args : Array Value} {below : List Frame} {meth : Method} {c : Code} {T : State} {locs : List Loc} {cells slots : Nat}
theorem own_retI (X : Stand p l e R s m args below meth c T locs cells slots) (hx : p.tables.exec = Jvm.exec) {pc : Nat} {Ls : Array Slot} {z : Int32} {rest : List Value} (hret : meth.sig.returnType = some .int) (hd : decode c.code pc = .ok (.ireturn, 1)) {fs : List Frame}
    (hl : ∀ (f : JFrame) (acts : List Action), f.method = m → f.locked = none → f.entered = [] → (doReturn e (T.setTop f) acts (some (.int z))).1 = T.setFrames fs) : Steps p.tables e below (T.setTop (mkF m pc Ls (.int z :: rest))) (T.setFrames fs) :=
  retOut X hx hret rfl (Or.inl ⟨rfl, Or.inl rfl, z, rfl⟩) hd hl
theorem own_retL (X : Stand p l e R s m args below meth c T locs cells slots) (hx : p.tables.exec = Jvm.exec) {pc : Nat} {Ls : Array Slot} {z : Int64} {rest : List Value} (hret : meth.sig.returnType = some .long) (hd : decode c.code pc = .ok (.lreturn, 1)) {fs : List Frame}
    (hl : ∀ (f : JFrame) (acts : List Action), f.method = m → f.locked = none → f.entered = [] → (doReturn e (T.setTop f) acts (some (.long z))).1 = T.setFrames fs) : Steps p.tables e below (T.setTop (mkF m pc Ls (.long z :: rest))) (T.setFrames fs) :=
  retOut X hx hret rfl (Or.inr (Or.inl ⟨rfl, rfl, z, rfl⟩)) hd hl
theorem own_retA (X : Stand p l e R s m args below meth c T locs cells slots) (hx : p.tables.exec = Jvm.exec) {pc : Nat} {Ls : Array Slot} {t : FieldType} {v : Value} {rest : List Value} (hret : meth.sig.returnType = some t) (ht : t.isReference = true) (hv : v.isRef = true) (hn : narrow t v = v) (hd : decode c.code pc = .ok (.areturn, 1)) {fs : List Frame}
    (hl : ∀ (f : JFrame) (acts : List Action), f.method = m → f.locked = none → f.entered = [] → (doReturn e (T.setTop f) acts (some v)).1 = T.setFrames fs) : Steps p.tables e below (T.setTop (mkF m pc Ls (v :: rest))) (T.setFrames fs) :=
  retOut X hx hret hn (Or.inr (Or.inr (Or.inr (Or.inr ⟨rfl, ht, hv⟩)))) hd hl
theorem own_ns_exa {Z : State} {h : Heap} {a : Addr} {C : String} (F : Exa Z h a C) : ∃ c : Cell, h[a]? = some c ∧ c.vm.isStatics = false := by
  obtain ⟨c, _, h1, -, -, h4, -⟩ := F; exact ⟨c, h1, h4⟩
theorem own_ns_arv {Z : State} {h : Heap} {a : Addr} {k : ClassId} {ty : FieldType} {z : Int32} {vs : List Value} {dv : Value} (F : Arv Z h a k ty z vs dv) : ∃ c : Cell, h[a]? = some c ∧ c.vm.isStatics = false := by
  obtain ⟨c, A, -⟩ := F; exact ⟨c, A.1, A.plain⟩
theorem own_sta_keep {Z : State} {h h' : Heap} {C n d : String} {v : Value} {ws : List Addr} (F : Sta Z h C n d v) (K : Keep h h' ws) (q : ∀ x ∈ ws, ∃ c : Cell, h[x]? = some c ∧ c.vm.isStatics = false) : Sta Z h' C n d v := by
  obtain ⟨cf, i, k, f, st, cell, h1, h2, h3, h4, h5, h6, h7⟩ := F
  refine ⟨cf, i, k, f, st, cell, h1, h2, h3, h4, K.2.1 st cell h5 (fun m => ?_), h6, h7⟩
  obtain ⟨c, e1, e2⟩ := q st m; cases h5.symm.trans e1; rw [e2] at h6; cases h6
/-- from A the run ends, and then P -/
def OwnGo (tb : Tables) (e : Env) (below : List Frame) (P : Outcome → State → Prop) (A : State) : Prop := ∃ s₂ o, Steps tb e below A s₂ ∧ s₂.status = .running ∧ Ended s₂ below o ∧ P o s₂
theorem OwnGo.of {tb : Tables} {P : Outcome → State → Prop} {A B : State} (k : ∀ t, Steps tb e below B t → Steps tb e below A t) (g : OwnGo tb e below P B) : OwnGo tb e below P A := by
  obtain ⟨s2, o, h1, h2⟩ := g; exact ⟨s2, o, k _ h1, h2⟩
end OwnKit
theorem pn_0 : plainName "com/example/fend/fend/puzzle/hashx/SipState" = true := by first | (simp [plainName, overriddenIn]; done) | decide +kernel
theorem d1_0 : decode prog_35_method_1_code 0 = .ok (.aload_n 0, 1) := by decide +kernel
theorem d1_1 : decode prog_35_method_1_code 1 = .ok (.invokespecial 1, 3) := by decide +kernel
theorem d1_4 : decode prog_35_method_1_code 4 = .ok (.aload_n 0, 1) := by decide +kernel
theorem d1_5 : decode prog_35_method_1_code 5 = .ok (.lload_n 1, 1) := by decide +kernel
theorem d1_6 : decode prog_35_method_1_code 6 = .ok (.putfield 7, 3) := by decide +kernel
theorem d1_9 : decode prog_35_method_1_code 9 = .ok (.aload_n 0, 1) := by decide +kernel
theorem d1_10 : decode prog_35_method_1_code 10 = .ok (.lload_n 3, 1) := by decide +kernel
theorem d1_11 : decode prog_35_method_1_code 11 = .ok (.putfield 13, 3) := by decide +kernel
theorem d1_14 : decode prog_35_method_1_code 14 = .ok (.aload_n 0, 1) := by decide +kernel
theorem d1_15 : decode prog_35_method_1_code 15 = .ok (.lload 5, 2) := by decide +kernel
theorem d1_17 : decode prog_35_method_1_code 17 = .ok (.putfield 16, 3) := by decide +kernel
theorem d1_20 : decode prog_35_method_1_code 20 = .ok (.aload_n 0, 1) := by decide +kernel
theorem d1_21 : decode prog_35_method_1_code 21 = .ok (.lload 7, 2) := by decide +kernel
theorem d1_23 : decode prog_35_method_1_code 23 = .ok (.putfield 19, 3) := by decide +kernel
theorem d1_26 : decode prog_35_method_1_code 26 = .ok (.return_, 1) := by decide +kernel
theorem ef_rm1 (m : MethodId) (a0 : Addr) (q1 : Int64) (q2 : Int64) (q3 : Int64) (q4 : Int64) : entryFrame m #[(.ref a0), (.long q1), (.long q2), (.long q3), (.long q4)] 9 = mkF m 0 #[.val (.ref a0), .val (.long q1), .second, .val (.long q2), .second, .val (.long q3), .second, .val (.long q4), .second] [] := by first | (simp [entryFrame, mkF, argsToLocals, Value.category]; done) | rfl
def Qrm1 (Z : State) (a0 : Addr) (q1 : Int64) (q2 : Int64) (q3 : Int64) (q4 : Int64) (u0 : Int64) (u1 : Int64) (u2 : Int64) (u3 : Int64) (h0 : Heap) (n0 : Nat) (v : Option Value) (h : Heap) (L : List Loc) : Prop := v = none ∧ Fr n0 L ∧ Keep h0 h [a0] ∧ Exa Z h a0 "com/example/fend/fend/puzzle/hashx/SipState" ∧ Fld Z h a0 "com/example/fend/fend/puzzle/hashx/SipState" "v0" "J" (.long q1) ∧ Fld Z h a0 "com/example/fend/fend/puzzle/hashx/SipState" "v1" "J" (.long q2) ∧ Fld Z h a0 "com/example/fend/fend/puzzle/hashx/SipState" "v2" "J" (.long q3) ∧ Fld Z h a0 "com/example/fend/fend/puzzle/hashx/SipState" "v3" "J" (.long q4)
set_option maxRecDepth 65536 in
set_option maxHeartbeats 40000000 in
theorem rm1 (l : Launch) (Z : State) (a0 : Array Value) (hw : ∀ d ∈ tables_1, d.before a0 Z = true) (ws : List Jvm.Cond) (a0 : Addr) (q1 : Int64) (q2 : Int64) (q3 : Int64) (q4 : Int64) (u0 : Int64) (u1 : Int64) (u2 : Int64) (u3 : Int64) (h0 : Heap) (n0 : Nat) (Z0 : n0 ≤ h0.size) (E_a0 : Exa Z h0 a0 "com/example/fend/fend/puzzle/hashx/SipState") (F_a0_v0 : Fld Z h0 a0 "com/example/fend/fend/puzzle/hashx/SipState" "v0" "J" (.long u0)) (F_a0_v1 : Fld Z h0 a0 "com/example/fend/fend/puzzle/hashx/SipState" "v1" "J" (.long u1)) (F_a0_v2 : Fld Z h0 a0 "com/example/fend/fend/puzzle/hashx/SipState" "v2" "J" (.long u2)) (F_a0_v3 : Fld Z h0 a0 "com/example/fend/fend/puzzle/hashx/SipState" "v3" "J" (.long u3)) (g_a0 : n0 ≤ a0) :
    MetFree l (⟨"com/example/fend/fend/puzzle/hashx/SipState", "<init>", "(JJJJ)V"⟩ : MethodName) (head1 (Jvm.Cond.code (⟨"com/example/fend/fend/puzzle/hashx/SipState", "<init>", "(JJJJ)V"⟩ : MethodName) prog_35_method_1_code 9 none :: ws) ({ frames := 1, cells := 0, slots := 0, locals := 12 } : Room)) (fun a U => a = #[(.ref a0), (.long q1), (.long q2), (.long q3), (.long q4)] ∧ Z.Warmed39 U.vm ∧ U.heap = h0) (fun _ _ _ _ _ => True) (fun _ U o U' => ∃ v L, o = .returned v ∧ Qrm1 Z a0 q1 q2 q3 q4 u0 u1 u2 u3 h0 n0 v U'.heap L ∧ FrameEnd U o U' L ({ frames := 1, cells := 0, slots := 0, locals := 12 } : Room).cells ({ frames := 1, cells := 0, slots := 0, locals := 12 } : Room).slots) := by
  refine MetFree.of_bodySF (plainFor_of_name pn_0) hisR ?_
  intro p e s m args below meth c s₁ Bd hml0 hP hK
  obtain ⟨rfl, hZ, hh⟩ := hP
  have hx := Bd.exec
  have hby := Bd.bytes
  have hml : c.maxLocals = 9 := hml0
  have hown : s.vm.findClass "com/example/fend/fend/puzzle/hashx/SipState" = some m.cls := findClass_of_methodNamed Bd.named
  have hnm := (name_of_methodNamed Bd.named Bd.method).1
  have X0 : Stand p l e ({ frames := 1, cells := 0, slots := 0, locals := 12 } : Room) s m #[(.ref a0), (.long q1), (.long q2), (.long q3), (.long q4)] below meth c s₁ [] 0 0 := Stand.of_body Bd
  have e0 : s₁.heap = h0 := by rw [← hh, Bd.state]; rfl
  have N0 := Fr.nil n0
  show OwnGo p.tables e below _ (s₁.setTop (entryFrame m #[(.ref a0), (.long q1), (.long q2), (.long q3), (.long q4)] 9))
  rw [ef_rm1 m a0 q1 q2 q3 q4]
  have K0 : Keep h0 h0 [a0] := Keep.refl _ _
  show OwnGo p.tables e below _ (s₁.setTop (mkF m 0 #[.val (.ref a0), .val (.long q1), .second, .val (.long q2), .second, .val (.long q3), .second, .val (.long q4), .second] []))
  refine OwnGo.of (A := s₁.setTop (mkF m 0 #[.val (.ref a0), .val (.long q1), .second, .val (.long q2), .second, .val (.long q3), .second, .val (.long q4), .second] [])) (B := s₁.setTop (mkF m 1 #[.val (.ref a0), .val (.long q1), .second, .val (.long q2), .second, .val (.long q3), .second, .val (.long q4), .second] [(.ref a0)])) (fun t k => ?_) ?_
  · show Steps p.tables e below (s₁.setTop (mkF m 0 #[.val (.ref a0), .val (.long q1), .second, .val (.long q2), .second, .val (.long q3), .second, .val (.long q4), .second] [])) t
    refine XS.aloadN X0.here hx rfl (hb hby d1_0) rfl rfl ?_
    exact k
  obtain ⟨T1, X1, e1, st1⟩ := initO X0 hx hZ hown (hw _ (List.mem_of_getElem? (i := 6) rfl)) (hw _ (List.mem_of_getElem? (i := 7) rfl)) (hw _ (List.mem_of_getElem? (i := 8) rfl)) e0 (g := (mkF m 1 #[.val (.ref a0), .val (.long q1), .second, .val (.long q2), .second, .val (.long q3), .second, .val (.long q4), .second] [(.ref a0)])) rfl (by rw [hml]; rfl) rfl (hb hby d1_1) (by decide) (W := 0) (by show 2 * 0 + _ ≤ _; exact Nat.le_of_eq rfl) (by decide)
  refine OwnGo.of st1 ?_
  show OwnGo p.tables e below _ (T1.setTop (mkF m 4 #[.val (.ref a0), .val (.long q1), .second, .val (.long q2), .second, .val (.long q3), .second, .val (.long q4), .second] []))
  refine OwnGo.of (A := T1.setTop (mkF m 4 #[.val (.ref a0), .val (.long q1), .second, .val (.long q2), .second, .val (.long q3), .second, .val (.long q4), .second] [])) (B := T1.setTop (mkF m 6 #[.val (.ref a0), .val (.long q1), .second, .val (.long q2), .second, .val (.long q3), .second, .val (.long q4), .second] [(.long q1), (.ref a0)])) (fun t k => ?_) ?_
  · show Steps p.tables e below (T1.setTop (mkF m 4 #[.val (.ref a0), .val (.long q1), .second, .val (.long q2), .second, .val (.long q3), .second, .val (.long q4), .second] [])) t
    refine XS.aloadN X1.here hx rfl (hb hby d1_4) rfl rfl ?_
    show Steps p.tables e below (T1.setTop (mkF m 5 #[.val (.ref a0), .val (.long q1), .second, .val (.long q2), .second, .val (.long q3), .second, .val (.long q4), .second] [(.ref a0)])) t
    refine XS.lloadN X1.here hx rfl (hb hby d1_5) rfl ?_
    exact k
  obtain ⟨T2, h2, X2, e2, W2, st2⟩ := putF X1 hx hZ hown (host := "") (Or.inl (hw _ (List.mem_of_getElem? (i := 9) rfl))) Via.refl e1 F_a0_v0 E_a0 (Or.inl (hw _ (List.mem_of_getElem? (i := 10) rfl))) (hw _ (List.mem_of_getElem? (i := 1) rfl)) (ty := .long) (by decide) rfl rfl (g := (mkF m 6 #[.val (.ref a0), .val (.long q1), .second, .val (.long q2), .second, .val (.long q3), .second, .val (.long q4), .second] [(.long q1), (.ref a0)])) rfl rfl (hb hby d1_6)
  refine OwnGo.of st2 ?_
  have N2 := Fr.snoc X2 N0 g_a0
  have f3 : n0 ≤ h2.size := Nat.le_trans Z0 (Keep.of_wr W2).1
  have f4 : Keep h0 h2 [a0] := K0.wr W2 (Or.inl (List.mem_of_getElem? (i := 0) rfl))
  have f5 : Exa Z h2 a0 "com/example/fend/fend/puzzle/hashx/SipState" := E_a0.wr W2
  have f6 : Fld Z h2 a0 "com/example/fend/fend/puzzle/hashx/SipState" "v1" "J" (.long u1) := F_a0_v1.other W2 (Or.inr (slot_ne (Or.inl (hw _ (List.mem_of_getElem? (i := 12) rfl))) (Or.inl (hw _ (List.mem_of_getElem? (i := 10) rfl))) (by decide) (t := .long) (t' := .long) (by decide) (by decide)))
  have f7 : Fld Z h2 a0 "com/example/fend/fend/puzzle/hashx/SipState" "v2" "J" (.long u2) := F_a0_v2.other W2 (Or.inr (slot_ne (Or.inl (hw _ (List.mem_of_getElem? (i := 14) rfl))) (Or.inl (hw _ (List.mem_of_getElem? (i := 10) rfl))) (by decide) (t := .long) (t' := .long) (by decide) (by decide)))
  have f8 : Fld Z h2 a0 "com/example/fend/fend/puzzle/hashx/SipState" "v3" "J" (.long u3) := F_a0_v3.other W2 (Or.inr (slot_ne (Or.inl (hw _ (List.mem_of_getElem? (i := 16) rfl))) (Or.inl (hw _ (List.mem_of_getElem? (i := 10) rfl))) (by decide) (t := .long) (t' := .long) (by decide) (by decide)))
  have f9 : Fld Z h2 a0 "com/example/fend/fend/puzzle/hashx/SipState" "v0" "J" (.long q1) := Fld.same W2 F_a0_v0
  show OwnGo p.tables e below _ (T2.setTop (mkF m 9 #[.val (.ref a0), .val (.long q1), .second, .val (.long q2), .second, .val (.long q3), .second, .val (.long q4), .second] []))
  refine OwnGo.of (A := T2.setTop (mkF m 9 #[.val (.ref a0), .val (.long q1), .second, .val (.long q2), .second, .val (.long q3), .second, .val (.long q4), .second] [])) (B := T2.setTop (mkF m 11 #[.val (.ref a0), .val (.long q1), .second, .val (.long q2), .second, .val (.long q3), .second, .val (.long q4), .second] [(.long q2), (.ref a0)])) (fun t k => ?_) ?_
  · show Steps p.tables e below (T2.setTop (mkF m 9 #[.val (.ref a0), .val (.long q1), .second, .val (.long q2), .second, .val (.long q3), .second, .val (.long q4), .second] [])) t
    refine XS.aloadN X2.here hx rfl (hb hby d1_9) rfl rfl ?_
    show Steps p.tables e below (T2.setTop (mkF m 10 #[.val (.ref a0), .val (.long q1), .second, .val (.long q2), .second, .val (.long q3), .second, .val (.long q4), .second] [(.ref a0)])) t
    refine XS.lloadN X2.here hx rfl (hb hby d1_10) rfl ?_
    exact k
  obtain ⟨T10, h10, X10, e10, W10, st10⟩ := putF X2 hx hZ hown (host := "") (Or.inl (hw _ (List.mem_of_getElem? (i := 11) rfl))) Via.refl e2 f6 f5 (Or.inl (hw _ (List.mem_of_getElem? (i := 12) rfl))) (hw _ (List.mem_of_getElem? (i := 1) rfl)) (ty := .long) (by decide) rfl rfl (g := (mkF m 11 #[.val (.ref a0), .val (.long q1), .second, .val (.long q2), .second, .val (.long q3), .second, .val (.long q4), .second] [(.long q2), (.ref a0)])) rfl rfl (hb hby d1_11)
  refine OwnGo.of st10 ?_
  have N10 := Fr.snoc X10 N2 g_a0
  have f11 : n0 ≤ h10.size := Nat.le_trans f3 (Keep.of_wr W10).1
  have f12 : Keep h0 h10 [a0] := f4.wr W10 (Or.inl (List.mem_of_getElem? (i := 0) rfl))
  have f13 : Exa Z h10 a0 "com/example/fend/fend/puzzle/hashx/SipState" := f5.wr W10
  have f14 : Fld Z h10 a0 "com/example/fend/fend/puzzle/hashx/SipState" "v2" "J" (.long u2) := f7.other W10 (Or.inr (slot_ne (Or.inl (hw _ (List.mem_of_getElem? (i := 14) rfl))) (Or.inl (hw _ (List.mem_of_getElem? (i := 12) rfl))) (by decide) (t := .long) (t' := .long) (by decide) (by decide)))
  have f15 : Fld Z h10 a0 "com/example/fend/fend/puzzle/hashx/SipState" "v3" "J" (.long u3) := f8.other W10 (Or.inr (slot_ne (Or.inl (hw _ (List.mem_of_getElem? (i := 16) rfl))) (Or.inl (hw _ (List.mem_of_getElem? (i := 12) rfl))) (by decide) (t := .long) (t' := .long) (by decide) (by decide)))
  have f16 : Fld Z h10 a0 "com/example/fend/fend/puzzle/hashx/SipState" "v0" "J" (.long q1) := f9.other W10 (Or.inr (slot_ne (Or.inl (hw _ (List.mem_of_getElem? (i := 10) rfl))) (Or.inl (hw _ (List.mem_of_getElem? (i := 12) rfl))) (by decide) (t := .long) (t' := .long) (by decide) (by decide)))
  have f17 : Fld Z h10 a0 "com/example/fend/fend/puzzle/hashx/SipState" "v1" "J" (.long q2) := Fld.same W10 f6
  show OwnGo p.tables e below _ (T10.setTop (mkF m 14 #[.val (.ref a0), .val (.long q1), .second, .val (.long q2), .second, .val (.long q3), .second, .val (.long q4), .second] []))
  refine OwnGo.of (A := T10.setTop (mkF m 14 #[.val (.ref a0), .val (.long q1), .second, .val (.long q2), .second, .val (.long q3), .second, .val (.long q4), .second] [])) (B := T10.setTop (mkF m 17 #[.val (.ref a0), .val (.long q1), .second, .val (.long q2), .second, .val (.long q3), .second, .val (.long q4), .second] [(.long q3), (.ref a0)])) (fun t k => ?_) ?_
  · show Steps p.tables e below (T10.setTop (mkF m 14 #[.val (.ref a0), .val (.long q1), .second, .val (.long q2), .second, .val (.long q3), .second, .val (.long q4), .second] [])) t
    refine XS.aloadN X10.here hx rfl (hb hby d1_14) rfl rfl ?_
    show Steps p.tables e below (T10.setTop (mkF m 15 #[.val (.ref a0), .val (.long q1), .second, .val (.long q2), .second, .val (.long q3), .second, .val (.long q4), .second] [(.ref a0)])) t
    refine XS.lload X10.here hx rfl (hb hby d1_15) rfl ?_
    exact k
  obtain ⟨T18, h18, X18, e18, W18, st18⟩ := putF X10 hx hZ hown (host := "") (Or.inl (hw _ (List.mem_of_getElem? (i := 13) rfl))) Via.refl e10 f14 f13 (Or.inl (hw _ (List.mem_of_getElem? (i := 14) rfl))) (hw _ (List.mem_of_getElem? (i := 1) rfl)) (ty := .long) (by decide) rfl rfl (g := (mkF m 17 #[.val (.ref a0), .val (.long q1), .second, .val (.long q2), .second, .val (.long q3), .second, .val (.long q4), .second] [(.long q3), (.ref a0)])) rfl rfl (hb hby d1_17)
  refine OwnGo.of st18 ?_
  have N18 := Fr.snoc X18 N10 g_a0
  have f19 : n0 ≤ h18.size := Nat.le_trans f11 (Keep.of_wr W18).1
  have f20 : Keep h0 h18 [a0] := f12.wr W18 (Or.inl (List.mem_of_getElem? (i := 0) rfl))
  have f21 : Exa Z h18 a0 "com/example/fend/fend/puzzle/hashx/SipState" := f13.wr W18
  have f22 : Fld Z h18 a0 "com/example/fend/fend/puzzle/hashx/SipState" "v3" "J" (.long u3) := f15.other W18 (Or.inr (slot_ne (Or.inl (hw _ (List.mem_of_getElem? (i := 16) rfl))) (Or.inl (hw _ (List.mem_of_getElem? (i := 14) rfl))) (by decide) (t := .long) (t' := .long) (by decide) (by decide)))
  have f23 : Fld Z h18 a0 "com/example/fend/fend/puzzle/hashx/SipState" "v0" "J" (.long q1) := f16.other W18 (Or.inr (slot_ne (Or.inl (hw _ (List.mem_of_getElem? (i := 10) rfl))) (Or.inl (hw _ (List.mem_of_getElem? (i := 14) rfl))) (by decide) (t := .long) (t' := .long) (by decide) (by decide)))
  have f24 : Fld Z h18 a0 "com/example/fend/fend/puzzle/hashx/SipState" "v1" "J" (.long q2) := f17.other W18 (Or.inr (slot_ne (Or.inl (hw _ (List.mem_of_getElem? (i := 12) rfl))) (Or.inl (hw _ (List.mem_of_getElem? (i := 14) rfl))) (by decide) (t := .long) (t' := .long) (by decide) (by decide)))
  have f25 : Fld Z h18 a0 "com/example/fend/fend/puzzle/hashx/SipState" "v2" "J" (.long q3) := Fld.same W18 f14
  show OwnGo p.tables e below _ (T18.setTop (mkF m 20 #[.val (.ref a0), .val (.long q1), .second, .val (.long q2), .second, .val (.long q3), .second, .val (.long q4), .second] []))
  refine OwnGo.of (A := T18.setTop (mkF m 20 #[.val (.ref a0), .val (.long q1), .second, .val (.long q2), .second, .val (.long q3), .second, .val (.long q4), .second] [])) (B := T18.setTop (mkF m 23 #[.val (.ref a0), .val (.long q1), .second, .val (.long q2), .second, .val (.long q3), .second, .val (.long q4), .second] [(.long q4), (.ref a0)])) (fun t k => ?_) ?_
  · show Steps p.tables e below (T18.setTop (mkF m 20 #[.val (.ref a0), .val (.long q1), .second, .val (.long q2), .second, .val (.long q3), .second, .val (.long q4), .second] [])) t
    refine XS.aloadN X18.here hx rfl (hb hby d1_20) rfl rfl ?_
    show Steps p.tables e below (T18.setTop (mkF m 21 #[.val (.ref a0), .val (.long q1), .second, .val (.long q2), .second, .val (.long q3), .second, .val (.long q4), .second] [(.ref a0)])) t
    refine XS.lload X18.here hx rfl (hb hby d1_21) rfl ?_
    exact k
  obtain ⟨T26, h26, X26, e26, W26, st26⟩ := putF X18 hx hZ hown (host := "") (Or.inl (hw _ (List.mem_of_getElem? (i := 15) rfl))) Via.refl e18 f22 f21 (Or.inl (hw _ (List.mem_of_getElem? (i := 16) rfl))) (hw _ (List.mem_of_getElem? (i := 1) rfl)) (ty := .long) (by decide) rfl rfl (g := (mkF m 23 #[.val (.ref a0), .val (.long q1), .second, .val (.long q2), .second, .val (.long q3), .second, .val (.long q4), .second] [(.long q4), (.ref a0)])) rfl rfl (hb hby d1_23)
  refine OwnGo.of st26 ?_
  have N26 := Fr.snoc X26 N18 g_a0
  have f27 : n0 ≤ h26.size := Nat.le_trans f19 (Keep.of_wr W26).1
  have f28 : Keep h0 h26 [a0] := f20.wr W26 (Or.inl (List.mem_of_getElem? (i := 0) rfl))
  have f29 : Exa Z h26 a0 "com/example/fend/fend/puzzle/hashx/SipState" := f21.wr W26
  have f30 : Fld Z h26 a0 "com/example/fend/fend/puzzle/hashx/SipState" "v0" "J" (.long q1) := f23.other W26 (Or.inr (slot_ne (Or.inl (hw _ (List.mem_of_getElem? (i := 10) rfl))) (Or.inl (hw _ (List.mem_of_getElem? (i := 16) rfl))) (by decide) (t := .long) (t' := .long) (by decide) (by decide)))
  have f31 : Fld Z h26 a0 "com/example/fend/fend/puzzle/hashx/SipState" "v1" "J" (.long q2) := f24.other W26 (Or.inr (slot_ne (Or.inl (hw _ (List.mem_of_getElem? (i := 12) rfl))) (Or.inl (hw _ (List.mem_of_getElem? (i := 16) rfl))) (by decide) (t := .long) (t' := .long) (by decide) (by decide)))
  have f32 : Fld Z h26 a0 "com/example/fend/fend/puzzle/hashx/SipState" "v2" "J" (.long q3) := f25.other W26 (Or.inr (slot_ne (Or.inl (hw _ (List.mem_of_getElem? (i := 14) rfl))) (Or.inl (hw _ (List.mem_of_getElem? (i := 16) rfl))) (by decide) (t := .long) (t' := .long) (by decide) (by decide)))
  have f33 : Fld Z h26 a0 "com/example/fend/fend/puzzle/hashx/SipState" "v3" "J" (.long q4) := Fld.same W26 f22
  show OwnGo p.tables e below _ (T26.setTop (mkF m 26 #[.val (.ref a0), .val (.long q1), .second, .val (.long q2), .second, .val (.long q3), .second, .val (.long q4), .second] []))
  obtain ⟨fs, hr, hrun, hended, hW, hsame⟩ := X26.leave (v := none) (fun _ => rfl)
  refine ⟨_, _, ?_, hrun, hended, _, _, rfl, ?_, ⟨_, rfl⟩, hW, hsame.mono (by decide) (by decide)⟩
  · show Steps p.tables e below (T26.setTop (mkF m 26 #[.val (.ref a0), .val (.long q1), .second, .val (.long q2), .second, .val (.long q3), .second, .val (.long q4), .second] [])) _
    exact X26.returnOut hx Bd.returns (hb hby d1_26) hr
  · show Qrm1 Z a0 q1 q2 q3 q4 u0 u1 u2 u3 h0 n0 _ (T26.setFrames fs).heap _
    rw [show (T26.setFrames fs).heap = h26 from e26]
    exact ⟨rfl, N26, f28, f29, f30, f31, f32, f33⟩
theorem d3_0 : decode prog_35_method_3_code 0 = .ok (.aload_n 0, 1) := by decide +kernel
theorem d3_1 : decode prog_35_method_3_code 1 = .ok (.lload_n 1, 1) := by decide +kernel
theorem d3_2 : decode prog_35_method_3_code 2 = .ok (.putfield 7, 3) := by decide +kernel
theorem d3_5 : decode prog_35_method_3_code 5 = .ok (.aload_n 0, 1) := by decide +kernel
theorem d3_6 : decode prog_35_method_3_code 6 = .ok (.lload_n 3, 1) := by decide +kernel
theorem d3_7 : decode prog_35_method_3_code 7 = .ok (.putfield 13, 3) := by decide +kernel
theorem d3_10 : decode prog_35_method_3_code 10 = .ok (.aload_n 0, 1) := by decide +kernel
theorem d3_11 : decode prog_35_method_3_code 11 = .ok (.lload 5, 2) := by decide +kernel
theorem d3_13 : decode prog_35_method_3_code 13 = .ok (.putfield 16, 3) := by decide +kernel
theorem d3_16 : decode prog_35_method_3_code 16 = .ok (.aload_n 0, 1) := by decide +kernel
theorem d3_17 : decode prog_35_method_3_code 17 = .ok (.lload 7, 2) := by decide +kernel
theorem d3_19 : decode prog_35_method_3_code 19 = .ok (.putfield 19, 3) := by decide +kernel
theorem d3_22 : decode prog_35_method_3_code 22 = .ok (.return_, 1) := by decide +kernel
theorem ef_rm3 (m : MethodId) (a0 : Addr) (q1 : Int64) (q2 : Int64) (q3 : Int64) (q4 : Int64) : entryFrame m #[(.ref a0), (.long q1), (.long q2), (.long q3), (.long q4)] 9 = mkF m 0 #[.val (.ref a0), .val (.long q1), .second, .val (.long q2), .second, .val (.long q3), .second, .val (.long q4), .second] [] := by first | (simp [entryFrame, mkF, argsToLocals, Value.category]; done) | rfl
def Qrm3 (Z : State) (a0 : Addr) (q1 : Int64) (q2 : Int64) (q3 : Int64) (q4 : Int64) (u0 : Int64) (u1 : Int64) (u2 : Int64) (u3 : Int64) (h0 : Heap) (n0 : Nat) (v : Option Value) (h : Heap) (L : List Loc) : Prop := v = none ∧ Fr n0 L ∧ Keep h0 h [a0] ∧ Exa Z h a0 "com/example/fend/fend/puzzle/hashx/SipState" ∧ Fld Z h a0 "com/example/fend/fend/puzzle/hashx/SipState" "v0" "J" (.long q1) ∧ Fld Z h a0 "com/example/fend/fend/puzzle/hashx/SipState" "v1" "J" (.long q2) ∧ Fld Z h a0 "com/example/fend/fend/puzzle/hashx/SipState" "v2" "J" (.long q3) ∧ Fld Z h a0 "com/example/fend/fend/puzzle/hashx/SipState" "v3" "J" (.long q4)
set_option maxRecDepth 65536 in
set_option maxHeartbeats 40000000 in
theorem rm3 (l : Launch) (Z : State) (a0 : Array Value) (hw : ∀ d ∈ tables_1, d.before a0 Z = true) (ws : List Jvm.Cond) (a0 : Addr) (q1 : Int64) (q2 : Int64) (q3 : Int64) (q4 : Int64) (u0 : Int64) (u1 : Int64) (u2 : Int64) (u3 : Int64) (h0 : Heap) (n0 : Nat) (Z0 : n0 ≤ h0.size) (E_a0 : Exa Z h0 a0 "com/example/fend/fend/puzzle/hashx/SipState") (F_a0_v0 : Fld Z h0 a0 "com/example/fend/fend/puzzle/hashx/SipState" "v0" "J" (.long u0)) (F_a0_v1 : Fld Z h0 a0 "com/example/fend/fend/puzzle/hashx/SipState" "v1" "J" (.long u1)) (F_a0_v2 : Fld Z h0 a0 "com/example/fend/fend/puzzle/hashx/SipState" "v2" "J" (.long u2)) (F_a0_v3 : Fld Z h0 a0 "com/example/fend/fend/puzzle/hashx/SipState" "v3" "J" (.long u3)) (g_a0 : n0 ≤ a0) :
    MetFree l (⟨"com/example/fend/fend/puzzle/hashx/SipState", "set", "(JJJJ)V"⟩ : MethodName) (head1 (Jvm.Cond.code (⟨"com/example/fend/fend/puzzle/hashx/SipState", "set", "(JJJJ)V"⟩ : MethodName) prog_35_method_3_code 9 none :: ws) ({ frames := 0, cells := 0, slots := 0, locals := 0 } : Room)) (fun a U => a = #[(.ref a0), (.long q1), (.long q2), (.long q3), (.long q4)] ∧ Z.Warmed39 U.vm ∧ U.heap = h0) (fun _ _ _ _ _ => True) (fun _ U o U' => ∃ v L, o = .returned v ∧ Qrm3 Z a0 q1 q2 q3 q4 u0 u1 u2 u3 h0 n0 v U'.heap L ∧ FrameEnd U o U' L ({ frames := 0, cells := 0, slots := 0, locals := 0 } : Room).cells ({ frames := 0, cells := 0, slots := 0, locals := 0 } : Room).slots) := by
  refine MetFree.of_bodySF (plainFor_of_name pn_0) hisR ?_
  intro p e s m args below meth c s₁ Bd hml0 hP hK
  obtain ⟨rfl, hZ, hh⟩ := hP
  have hx := Bd.exec
  have hby := Bd.bytes
  have hml : c.maxLocals = 9 := hml0
  have hown : s.vm.findClass "com/example/fend/fend/puzzle/hashx/SipState" = some m.cls := findClass_of_methodNamed Bd.named
  have hnm := (name_of_methodNamed Bd.named Bd.method).1
  have X0 : Stand p l e ({ frames := 0, cells := 0, slots := 0, locals := 0 } : Room) s m #[(.ref a0), (.long q1), (.long q2), (.long q3), (.long q4)] below meth c s₁ [] 0 0 := Stand.of_body Bd
  have e0 : s₁.heap = h0 := by rw [← hh, Bd.state]; rfl
  have N0 := Fr.nil n0
  show OwnGo p.tables e below _ (s₁.setTop (entryFrame m #[(.ref a0), (.long q1), (.long q2), (.long q3), (.long q4)] 9))
  rw [ef_rm3 m a0 q1 q2 q3 q4]
  have K0 : Keep h0 h0 [a0] := Keep.refl _ _
  show OwnGo p.tables e below _ (s₁.setTop (mkF m 0 #[.val (.ref a0), .val (.long q1), .second, .val (.long q2), .second, .val (.long q3), .second, .val (.long q4), .second] []))
  refine OwnGo.of (A := s₁.setTop (mkF m 0 #[.val (.ref a0), .val (.long q1), .second, .val (.long q2), .second, .val (.long q3), .second, .val (.long q4), .second] [])) (B := s₁.setTop (mkF m 2 #[.val (.ref a0), .val (.long q1), .second, .val (.long q2), .second, .val (.long q3), .second, .val (.long q4), .second] [(.long q1), (.ref a0)])) (fun t k => ?_) ?_
  · show Steps p.tables e below (s₁.setTop (mkF m 0 #[.val (.ref a0), .val (.long q1), .second, .val (.long q2), .second, .val (.long q3), .second, .val (.long q4), .second] [])) t
    refine XS.aloadN X0.here hx rfl (hb hby d3_0) rfl rfl ?_
    show Steps p.tables e below (s₁.setTop (mkF m 1 #[.val (.ref a0), .val (.long q1), .second, .val (.long q2), .second, .val (.long q3), .second, .val (.long q4), .second] [(.ref a0)])) t
    refine XS.lloadN X0.here hx rfl (hb hby d3_1) rfl ?_
    exact k
  obtain ⟨T1, h1, X1, e1, W1, st1⟩ := putF X0 hx hZ hown (host := "") (Or.inl (hw _ (List.mem_of_getElem? (i := 9) rfl))) Via.refl e0 F_a0_v0 E_a0 (Or.inl (hw _ (List.mem_of_getElem? (i := 10) rfl))) (hw _ (List.mem_of_getElem? (i := 1) rfl)) (ty := .long) (by decide) rfl rfl (g := (mkF m 2 #[.val (.ref a0), .val (.long q1), .second, .val (.long q2), .second, .val (.long q3), .second, .val (.long q4), .second] [(.long q1), (.ref a0)])) rfl rfl (hb hby d3_2)
  refine OwnGo.of st1 ?_
  have N1 := Fr.snoc X1 N0 g_a0
  have f2 : n0 ≤ h1.size := Nat.le_trans Z0 (Keep.of_wr W1).1
  have f3 : Keep h0 h1 [a0] := K0.wr W1 (Or.inl (List.mem_of_getElem? (i := 0) rfl))
  have f4 : Exa Z h1 a0 "com/example/fend/fend/puzzle/hashx/SipState" := E_a0.wr W1
  have f5 : Fld Z h1 a0 "com/example/fend/fend/puzzle/hashx/SipState" "v1" "J" (.long u1) := F_a0_v1.other W1 (Or.inr (slot_ne (Or.inl (hw _ (List.mem_of_getElem? (i := 12) rfl))) (Or.inl (hw _ (List.mem_of_getElem? (i := 10) rfl))) (by decide) (t := .long) (t' := .long) (by decide) (by decide)))
  have f6 : Fld Z h1 a0 "com/example/fend/fend/puzzle/hashx/SipState" "v2" "J" (.long u2) := F_a0_v2.other W1 (Or.inr (slot_ne (Or.inl (hw _ (List.mem_of_getElem? (i := 14) rfl))) (Or.inl (hw _ (List.mem_of_getElem? (i := 10) rfl))) (by decide) (t := .long) (t' := .long) (by decide) (by decide)))
  have f7 : Fld Z h1 a0 "com/example/fend/fend/puzzle/hashx/SipState" "v3" "J" (.long u3) := F_a0_v3.other W1 (Or.inr (slot_ne (Or.inl (hw _ (List.mem_of_getElem? (i := 16) rfl))) (Or.inl (hw _ (List.mem_of_getElem? (i := 10) rfl))) (by decide) (t := .long) (t' := .long) (by decide) (by decide)))
  have f8 : Fld Z h1 a0 "com/example/fend/fend/puzzle/hashx/SipState" "v0" "J" (.long q1) := Fld.same W1 F_a0_v0
  show OwnGo p.tables e below _ (T1.setTop (mkF m 5 #[.val (.ref a0), .val (.long q1), .second, .val (.long q2), .second, .val (.long q3), .second, .val (.long q4), .second] []))
  refine OwnGo.of (A := T1.setTop (mkF m 5 #[.val (.ref a0), .val (.long q1), .second, .val (.long q2), .second, .val (.long q3), .second, .val (.long q4), .second] [])) (B := T1.setTop (mkF m 7 #[.val (.ref a0), .val (.long q1), .second, .val (.long q2), .second, .val (.long q3), .second, .val (.long q4), .second] [(.long q2), (.ref a0)])) (fun t k => ?_) ?_
  · show Steps p.tables e below (T1.setTop (mkF m 5 #[.val (.ref a0), .val (.long q1), .second, .val (.long q2), .second, .val (.long q3), .second, .val (.long q4), .second] [])) t
    refine XS.aloadN X1.here hx rfl (hb hby d3_5) rfl rfl ?_
    show Steps p.tables e below (T1.setTop (mkF m 6 #[.val (.ref a0), .val (.long q1), .second, .val (.long q2), .second, .val (.long q3), .second, .val (.long q4), .second] [(.ref a0)])) t
    refine XS.lloadN X1.here hx rfl (hb hby d3_6) rfl ?_
    exact k
  obtain ⟨T9, h9, X9, e9, W9, st9⟩ := putF X1 hx hZ hown (host := "") (Or.inl (hw _ (List.mem_of_getElem? (i := 11) rfl))) Via.refl e1 f5 f4 (Or.inl (hw _ (List.mem_of_getElem? (i := 12) rfl))) (hw _ (List.mem_of_getElem? (i := 1) rfl)) (ty := .long) (by decide) rfl rfl (g := (mkF m 7 #[.val (.ref a0), .val (.long q1), .second, .val (.long q2), .second, .val (.long q3), .second, .val (.long q4), .second] [(.long q2), (.ref a0)])) rfl rfl (hb hby d3_7)
  refine OwnGo.of st9 ?_
  have N9 := Fr.snoc X9 N1 g_a0
  have f10 : n0 ≤ h9.size := Nat.le_trans f2 (Keep.of_wr W9).1
  have f11 : Keep h0 h9 [a0] := f3.wr W9 (Or.inl (List.mem_of_getElem? (i := 0) rfl))
  have f12 : Exa Z h9 a0 "com/example/fend/fend/puzzle/hashx/SipState" := f4.wr W9
  have f13 : Fld Z h9 a0 "com/example/fend/fend/puzzle/hashx/SipState" "v2" "J" (.long u2) := f6.other W9 (Or.inr (slot_ne (Or.inl (hw _ (List.mem_of_getElem? (i := 14) rfl))) (Or.inl (hw _ (List.mem_of_getElem? (i := 12) rfl))) (by decide) (t := .long) (t' := .long) (by decide) (by decide)))
  have f14 : Fld Z h9 a0 "com/example/fend/fend/puzzle/hashx/SipState" "v3" "J" (.long u3) := f7.other W9 (Or.inr (slot_ne (Or.inl (hw _ (List.mem_of_getElem? (i := 16) rfl))) (Or.inl (hw _ (List.mem_of_getElem? (i := 12) rfl))) (by decide) (t := .long) (t' := .long) (by decide) (by decide)))
  have f15 : Fld Z h9 a0 "com/example/fend/fend/puzzle/hashx/SipState" "v0" "J" (.long q1) := f8.other W9 (Or.inr (slot_ne (Or.inl (hw _ (List.mem_of_getElem? (i := 10) rfl))) (Or.inl (hw _ (List.mem_of_getElem? (i := 12) rfl))) (by decide) (t := .long) (t' := .long) (by decide) (by decide)))
  have f16 : Fld Z h9 a0 "com/example/fend/fend/puzzle/hashx/SipState" "v1" "J" (.long q2) := Fld.same W9 f5
  show OwnGo p.tables e below _ (T9.setTop (mkF m 10 #[.val (.ref a0), .val (.long q1), .second, .val (.long q2), .second, .val (.long q3), .second, .val (.long q4), .second] []))
  refine OwnGo.of (A := T9.setTop (mkF m 10 #[.val (.ref a0), .val (.long q1), .second, .val (.long q2), .second, .val (.long q3), .second, .val (.long q4), .second] [])) (B := T9.setTop (mkF m 13 #[.val (.ref a0), .val (.long q1), .second, .val (.long q2), .second, .val (.long q3), .second, .val (.long q4), .second] [(.long q3), (.ref a0)])) (fun t k => ?_) ?_
  · show Steps p.tables e below (T9.setTop (mkF m 10 #[.val (.ref a0), .val (.long q1), .second, .val (.long q2), .second, .val (.long q3), .second, .val (.long q4), .second] [])) t
    refine XS.aloadN X9.here hx rfl (hb hby d3_10) rfl rfl ?_
    show Steps p.tables e below (T9.setTop (mkF m 11 #[.val (.ref a0), .val (.long q1), .second, .val (.long q2), .second, .val (.long q3), .second, .val (.long q4), .second] [(.ref a0)])) t
    refine XS.lload X9.here hx rfl (hb hby d3_11) rfl ?_
    exact k
  obtain ⟨T17, h17, X17, e17, W17, st17⟩ := putF X9 hx hZ hown (host := "") (Or.inl (hw _ (List.mem_of_getElem? (i := 13) rfl))) Via.refl e9 f13 f12 (Or.inl (hw _ (List.mem_of_getElem? (i := 14) rfl))) (hw _ (List.mem_of_getElem? (i := 1) rfl)) (ty := .long) (by decide) rfl rfl (g := (mkF m 13 #[.val (.ref a0), .val (.long q1), .second, .val (.long q2), .second, .val (.long q3), .second, .val (.long q4), .second] [(.long q3), (.ref a0)])) rfl rfl (hb hby d3_13)
  refine OwnGo.of st17 ?_
  have N17 := Fr.snoc X17 N9 g_a0
  have f18 : n0 ≤ h17.size := Nat.le_trans f10 (Keep.of_wr W17).1
  have f19 : Keep h0 h17 [a0] := f11.wr W17 (Or.inl (List.mem_of_getElem? (i := 0) rfl))
  have f20 : Exa Z h17 a0 "com/example/fend/fend/puzzle/hashx/SipState" := f12.wr W17
  have f21 : Fld Z h17 a0 "com/example/fend/fend/puzzle/hashx/SipState" "v3" "J" (.long u3) := f14.other W17 (Or.inr (slot_ne (Or.inl (hw _ (List.mem_of_getElem? (i := 16) rfl))) (Or.inl (hw _ (List.mem_of_getElem? (i := 14) rfl))) (by decide) (t := .long) (t' := .long) (by decide) (by decide)))
  have f22 : Fld Z h17 a0 "com/example/fend/fend/puzzle/hashx/SipState" "v0" "J" (.long q1) := f15.other W17 (Or.inr (slot_ne (Or.inl (hw _ (List.mem_of_getElem? (i := 10) rfl))) (Or.inl (hw _ (List.mem_of_getElem? (i := 14) rfl))) (by decide) (t := .long) (t' := .long) (by decide) (by decide)))
  have f23 : Fld Z h17 a0 "com/example/fend/fend/puzzle/hashx/SipState" "v1" "J" (.long q2) := f16.other W17 (Or.inr (slot_ne (Or.inl (hw _ (List.mem_of_getElem? (i := 12) rfl))) (Or.inl (hw _ (List.mem_of_getElem? (i := 14) rfl))) (by decide) (t := .long) (t' := .long) (by decide) (by decide)))
  have f24 : Fld Z h17 a0 "com/example/fend/fend/puzzle/hashx/SipState" "v2" "J" (.long q3) := Fld.same W17 f13
  show OwnGo p.tables e below _ (T17.setTop (mkF m 16 #[.val (.ref a0), .val (.long q1), .second, .val (.long q2), .second, .val (.long q3), .second, .val (.long q4), .second] []))
  refine OwnGo.of (A := T17.setTop (mkF m 16 #[.val (.ref a0), .val (.long q1), .second, .val (.long q2), .second, .val (.long q3), .second, .val (.long q4), .second] [])) (B := T17.setTop (mkF m 19 #[.val (.ref a0), .val (.long q1), .second, .val (.long q2), .second, .val (.long q3), .second, .val (.long q4), .second] [(.long q4), (.ref a0)])) (fun t k => ?_) ?_
  · show Steps p.tables e below (T17.setTop (mkF m 16 #[.val (.ref a0), .val (.long q1), .second, .val (.long q2), .second, .val (.long q3), .second, .val (.long q4), .second] [])) t
    refine XS.aloadN X17.here hx rfl (hb hby d3_16) rfl rfl ?_
    show Steps p.tables e below (T17.setTop (mkF m 17 #[.val (.ref a0), .val (.long q1), .second, .val (.long q2), .second, .val (.long q3), .second, .val (.long q4), .second] [(.ref a0)])) t
    refine XS.lload X17.here hx rfl (hb hby d3_17) rfl ?_
    exact k
  obtain ⟨T25, h25, X25, e25, W25, st25⟩ := putF X17 hx hZ hown (host := "") (Or.inl (hw _ (List.mem_of_getElem? (i := 15) rfl))) Via.refl e17 f21 f20 (Or.inl (hw _ (List.mem_of_getElem? (i := 16) rfl))) (hw _ (List.mem_of_getElem? (i := 1) rfl)) (ty := .long) (by decide) rfl rfl (g := (mkF m 19 #[.val (.ref a0), .val (.long q1), .second, .val (.long q2), .second, .val (.long q3), .second, .val (.long q4), .second] [(.long q4), (.ref a0)])) rfl rfl (hb hby d3_19)
  refine OwnGo.of st25 ?_
  have N25 := Fr.snoc X25 N17 g_a0
  have f26 : n0 ≤ h25.size := Nat.le_trans f18 (Keep.of_wr W25).1
  have f27 : Keep h0 h25 [a0] := f19.wr W25 (Or.inl (List.mem_of_getElem? (i := 0) rfl))
  have f28 : Exa Z h25 a0 "com/example/fend/fend/puzzle/hashx/SipState" := f20.wr W25
  have f29 : Fld Z h25 a0 "com/example/fend/fend/puzzle/hashx/SipState" "v0" "J" (.long q1) := f22.other W25 (Or.inr (slot_ne (Or.inl (hw _ (List.mem_of_getElem? (i := 10) rfl))) (Or.inl (hw _ (List.mem_of_getElem? (i := 16) rfl))) (by decide) (t := .long) (t' := .long) (by decide) (by decide)))
  have f30 : Fld Z h25 a0 "com/example/fend/fend/puzzle/hashx/SipState" "v1" "J" (.long q2) := f23.other W25 (Or.inr (slot_ne (Or.inl (hw _ (List.mem_of_getElem? (i := 12) rfl))) (Or.inl (hw _ (List.mem_of_getElem? (i := 16) rfl))) (by decide) (t := .long) (t' := .long) (by decide) (by decide)))
  have f31 : Fld Z h25 a0 "com/example/fend/fend/puzzle/hashx/SipState" "v2" "J" (.long q3) := f24.other W25 (Or.inr (slot_ne (Or.inl (hw _ (List.mem_of_getElem? (i := 14) rfl))) (Or.inl (hw _ (List.mem_of_getElem? (i := 16) rfl))) (by decide) (t := .long) (t' := .long) (by decide) (by decide)))
  have f32 : Fld Z h25 a0 "com/example/fend/fend/puzzle/hashx/SipState" "v3" "J" (.long q4) := Fld.same W25 f21
  show OwnGo p.tables e below _ (T25.setTop (mkF m 22 #[.val (.ref a0), .val (.long q1), .second, .val (.long q2), .second, .val (.long q3), .second, .val (.long q4), .second] []))
  obtain ⟨fs, hr, hrun, hended, hW, hsame⟩ := X25.leave (v := none) (fun _ => rfl)
  refine ⟨_, _, ?_, hrun, hended, _, _, rfl, ?_, ⟨_, rfl⟩, hW, hsame.mono (by decide) (by decide)⟩
  · show Steps p.tables e below (T25.setTop (mkF m 22 #[.val (.ref a0), .val (.long q1), .second, .val (.long q2), .second, .val (.long q3), .second, .val (.long q4), .second] [])) _
    exact X25.returnOut hx Bd.returns (hb hby d3_22) hr
  · show Qrm3 Z a0 q1 q2 q3 q4 u0 u1 u2 u3 h0 n0 _ (T25.setFrames fs).heap _
    rw [show (T25.setFrames fs).heap = h25 from e25]
    exact ⟨rfl, N25, f27, f28, f29, f30, f31, f32⟩
theorem pd_1 : parseMethodDescriptor "(JJJJ)V" = some ⟨[.long, .long, .long, .long], none⟩ := by decide +kernel
theorem pn_2 : plainName "com/example/fend/fend/puzzle/hashx/SipStateSetPinLaw" = true := by first | (simp [plainName, overriddenIn]; done) | decide +kernel
theorem ef_rm0 (m : MethodId) (q0 : Int64) (q1 : Int64) (q2 : Int64) (q3 : Int64) (q4 : Int64) (q5 : Int64) : entryFrame m #[(.long q0), (.long q1), (.long q2), (.long q3), (.long q4), (.long q5)] maxLocals = mkF m 0 #[.val (.long q0), .second, .val (.long q1), .second, .val (.long q2), .second, .val (.long q3), .second, .val (.long q4), .second, .val (.long q5), .second, .unset, .unset, .unset, .unset, .unset] [] := by first | (simp [entryFrame, mkF, argsToLocals, Value.category, maxLocals]; done) | rfl
def Qrm0 (Z : State) (q0 : Int64) (q1 : Int64) (q2 : Int64) (q3 : Int64) (q4 : Int64) (q5 : Int64) (h0 : Heap) (n0 : Nat) (v : Option Value) (h : Heap) (L : List Loc) : Prop := v = some (.int 1) ∧ Fr n0 L
set_option maxRecDepth 65536 in
set_option maxHeartbeats 40000000 in
theorem rm0 (l : Launch) (Z : State) (a0 : Array Value) (hw : ∀ d ∈ tables_1, d.before a0 Z = true) (ws : List Jvm.Cond) (q0 : Int64) (q1 : Int64) (q2 : Int64) (q3 : Int64) (q4 : Int64) (q5 : Int64) (h0 : Heap) (n0 : Nat) (Z0 : n0 ≤ h0.size) :
    MetFree l x (head1 (Jvm.Cond.code x code maxLocals ret :: ws) room_1) (fun a U => a = #[(.long q0), (.long q1), (.long q2), (.long q3), (.long q4), (.long q5)] ∧ Z.Warmed39 U.vm ∧ U.heap = h0) (fun _ _ _ _ _ => True) (fun _ U o U' => ∃ v L, o = .returned v ∧ Qrm0 Z q0 q1 q2 q3 q4 q5 h0 n0 v U'.heap L ∧ FrameEnd U o U' L room_1.cells room_1.slots) := by
  refine MetFree.of_bodySF (plainFor_of_name pn_2) hisR ?_
  intro p e s m args below meth c s₁ Bd hml0 hP hK
  obtain ⟨rfl, hZ, hh⟩ := hP
  have hx := Bd.exec
  have hby := Bd.bytes
  have hml : c.maxLocals = 17 := hml0
  have hown : s.vm.findClass "com/example/fend/fend/puzzle/hashx/SipStateSetPinLaw" = some m.cls := findClass_of_methodNamed Bd.named
  have hnm := (name_of_methodNamed Bd.named Bd.method).1
  have X0 : Stand p l e room_1 s m #[(.long q0), (.long q1), (.long q2), (.long q3), (.long q4), (.long q5)] below meth c s₁ [] 0 0 := Stand.of_body Bd
  have e0 : s₁.heap = h0 := by rw [← hh, Bd.state]; rfl
  have N0 := Fr.nil n0
  show OwnGo p.tables e below _ (s₁.setTop (entryFrame m #[(.long q0), (.long q1), (.long q2), (.long q3), (.long q4), (.long q5)] maxLocals))
  rw [ef_rm0 m q0 q1 q2 q3 q4 q5]
  show OwnGo p.tables e below _ (s₁.setTop (mkF m 0 #[.val (.long q0), .second, .val (.long q1), .second, .val (.long q2), .second, .val (.long q3), .second, .val (.long q4), .second, .val (.long q5), .second, .unset, .unset, .unset, .unset, .unset] []))
  refine OwnGo.of (A := s₁.setTop (mkF m 0 #[.val (.long q0), .second, .val (.long q1), .second, .val (.long q2), .second, .val (.long q3), .second, .val (.long q4), .second, .val (.long q5), .second, .unset, .unset, .unset, .unset, .unset] [])) (B := s₁.setTop (mkF m 12 #[.val (.long q0), .second, .val (.long q1), .second, .val (.long q2), .second, .val (.long q3), .second, .val (.long q4), .second, .val (.long q5), .second, .val (.long (q4 ||| (1 : Int64))), .second, .val (.long (q5 ||| (1 : Int64))), .second, .unset] [])) (fun t k => ?_) ?_
  · show Steps p.tables e below (s₁.setTop (mkF m 0 #[.val (.long q0), .second, .val (.long q1), .second, .val (.long q2), .second, .val (.long q3), .second, .val (.long q4), .second, .val (.long q5), .second, .unset, .unset, .unset, .unset, .unset] [])) t
    refine XS.lload X0.here hx rfl (hb hby at_0) rfl ?_
    show Steps p.tables e below (s₁.setTop (mkF m 2 #[.val (.long q0), .second, .val (.long q1), .second, .val (.long q2), .second, .val (.long q3), .second, .val (.long q4), .second, .val (.long q5), .second, .unset, .unset, .unset, .unset, .unset] [(.long q4)])) t
    refine XS.lconst X0.here hx rfl (hb hby at_2) ?_
    show Steps p.tables e below (s₁.setTop (mkF m 3 #[.val (.long q0), .second, .val (.long q1), .second, .val (.long q2), .second, .val (.long q3), .second, .val (.long q4), .second, .val (.long q5), .second, .unset, .unset, .unset, .unset, .unset] [(.long (1 : Int64)), (.long q4)])) t
    refine XS.lor X0.here hx rfl (hb hby at_3) rfl ?_
    show Steps p.tables e below (s₁.setTop (mkF m 4 #[.val (.long q0), .second, .val (.long q1), .second, .val (.long q2), .second, .val (.long q3), .second, .val (.long q4), .second, .val (.long q5), .second, .unset, .unset, .unset, .unset, .unset] [(.long (q4 ||| (1 : Int64)))])) t
    refine XS.lstore X0.here hx rfl (hb hby at_4) rfl (l' := #[.val (.long q0), .second, .val (.long q1), .second, .val (.long q2), .second, .val (.long q3), .second, .val (.long q4), .second, .val (.long q5), .second, .val (.long (q4 ||| (1 : Int64))), .second, .unset, .unset, .unset]) rfl ?_
    show Steps p.tables e below (s₁.setTop (mkF m 6 #[.val (.long q0), .second, .val (.long q1), .second, .val (.long q2), .second, .val (.long q3), .second, .val (.long q4), .second, .val (.long q5), .second, .val (.long (q4 ||| (1 : Int64))), .second, .unset, .unset, .unset] [])) t
    refine XS.lload X0.here hx rfl (hb hby at_6) rfl ?_
    show Steps p.tables e below (s₁.setTop (mkF m 8 #[.val (.long q0), .second, .val (.long q1), .second, .val (.long q2), .second, .val (.long q3), .second, .val (.long q4), .second, .val (.long q5), .second, .val (.long (q4 ||| (1 : Int64))), .second, .unset, .unset, .unset] [(.long q5)])) t
    refine XS.lconst X0.here hx rfl (hb hby at_8) ?_
    show Steps p.tables e below (s₁.setTop (mkF m 9 #[.val (.long q0), .second, .val (.long q1), .second, .val (.long q2), .second, .val (.long q3), .second, .val (.long q4), .second, .val (.long q5), .second, .val (.long (q4 ||| (1 : Int64))), .second, .unset, .unset, .unset] [(.long (1 : Int64)), (.long q5)])) t
    refine XS.lor X0.here hx rfl (hb hby at_9) rfl ?_
    show Steps p.tables e below (s₁.setTop (mkF m 10 #[.val (.long q0), .second, .val (.long q1), .second, .val (.long q2), .second, .val (.long q3), .second, .val (.long q4), .second, .val (.long q5), .second, .val (.long (q4 ||| (1 : Int64))), .second, .unset, .unset, .unset] [(.long (q5 ||| (1 : Int64)))])) t
    refine XS.lstore X0.here hx rfl (hb hby at_10) rfl (l' := #[.val (.long q0), .second, .val (.long q1), .second, .val (.long q2), .second, .val (.long q3), .second, .val (.long q4), .second, .val (.long q5), .second, .val (.long (q4 ||| (1 : Int64))), .second, .val (.long (q5 ||| (1 : Int64))), .second, .unset]) rfl ?_
    exact k
  obtain ⟨T1, h1, X1, e1, E1, A1, D1, -, st1⟩ := newO X0 hx hZ hown (hw _ (List.mem_of_getElem? (i := 0) rfl)) (hw _ (List.mem_of_getElem? (i := 1) rfl)) (hw _ (List.mem_of_getElem? (i := 2) rfl)) e0 (g := (mkF m 12 #[.val (.long q0), .second, .val (.long q1), .second, .val (.long q2), .second, .val (.long q3), .second, .val (.long q4), .second, .val (.long q5), .second, .val (.long (q4 ||| (1 : Int64))), .second, .val (.long (q5 ||| (1 : Int64))), .second, .unset] [])) rfl (hb hby at_12) (by decide) (by decide)
  obtain ⟨b1, g1⟩ : ∃ z, z = h0.size := ⟨_, rfl⟩
  rw [← g1] at A1 D1 st1
  refine OwnGo.of st1 ?_
  have g_b1 : n0 ≤ b1 := Nat.le_trans Z0 (Nat.le_of_eq g1.symm)
  have f2 : n0 ≤ h1.size := Nat.le_trans Z0 E1.1
  have f3 : Fld Z h1 b1 "com/example/fend/fend/puzzle/hashx/SipState" "v0" "J" (.long (0 : Int64)) := D1 (Or.inl (hw _ (List.mem_of_getElem? (i := 10) rfl))) (ty := .long) (by decide)
  have f4 : Fld Z h1 b1 "com/example/fend/fend/puzzle/hashx/SipState" "v1" "J" (.long (0 : Int64)) := D1 (Or.inl (hw _ (List.mem_of_getElem? (i := 12) rfl))) (ty := .long) (by decide)
  have f5 : Fld Z h1 b1 "com/example/fend/fend/puzzle/hashx/SipState" "v2" "J" (.long (0 : Int64)) := D1 (Or.inl (hw _ (List.mem_of_getElem? (i := 14) rfl))) (ty := .long) (by decide)
  have f6 : Fld Z h1 b1 "com/example/fend/fend/puzzle/hashx/SipState" "v3" "J" (.long (0 : Int64)) := D1 (Or.inl (hw _ (List.mem_of_getElem? (i := 16) rfl))) (ty := .long) (by decide)
  show OwnGo p.tables e below _ (T1.setTop (mkF m 15 #[.val (.long q0), .second, .val (.long q1), .second, .val (.long q2), .second, .val (.long q3), .second, .val (.long q4), .second, .val (.long q5), .second, .val (.long (q4 ||| (1 : Int64))), .second, .val (.long (q5 ||| (1 : Int64))), .second, .unset] [(.ref b1)]))
  refine OwnGo.of (A := T1.setTop (mkF m 15 #[.val (.long q0), .second, .val (.long q1), .second, .val (.long q2), .second, .val (.long q3), .second, .val (.long q4), .second, .val (.long q5), .second, .val (.long (q4 ||| (1 : Int64))), .second, .val (.long (q5 ||| (1 : Int64))), .second, .unset] [(.ref b1)])) (B := T1.setTop (mkF m 34 #[.val (.long q0), .second, .val (.long q1), .second, .val (.long q2), .second, .val (.long q3), .second, .val (.long q4), .second, .val (.long q5), .second, .val (.long (q4 ||| (1 : Int64))), .second, .val (.long (q5 ||| (1 : Int64))), .second, .unset] [(.long (q3 + (q4 ||| (1 : Int64)))), (.long (q2 + (q5 ||| (1 : Int64)))), (.long (q1 + (q5 ||| (1 : Int64)))), (.long (q0 + (q4 ||| (1 : Int64)))), (.ref b1), (.ref b1)])) (fun t k => ?_) ?_
  · show Steps p.tables e below (T1.setTop (mkF m 15 #[.val (.long q0), .second, .val (.long q1), .second, .val (.long q2), .second, .val (.long q3), .second, .val (.long q4), .second, .val (.long q5), .second, .val (.long (q4 ||| (1 : Int64))), .second, .val (.long (q5 ||| (1 : Int64))), .second, .unset] [(.ref b1)])) t
    refine XS.dup X1.here hx rfl (hb hby at_15) rfl rfl ?_
    show Steps p.tables e below (T1.setTop (mkF m 16 #[.val (.long q0), .second, .val (.long q1), .second, .val (.long q2), .second, .val (.long q3), .second, .val (.long q4), .second, .val (.long q5), .second, .val (.long (q4 ||| (1 : Int64))), .second, .val (.long (q5 ||| (1 : Int64))), .second, .unset] [(.ref b1), (.ref b1)])) t
    refine XS.lloadN X1.here hx rfl (hb hby at_16) rfl ?_
    show Steps p.tables e below (T1.setTop (mkF m 17 #[.val (.long q0), .second, .val (.long q1), .second, .val (.long q2), .second, .val (.long q3), .second, .val (.long q4), .second, .val (.long q5), .second, .val (.long (q4 ||| (1 : Int64))), .second, .val (.long (q5 ||| (1 : Int64))), .second, .unset] [(.long q0), (.ref b1), (.ref b1)])) t
    refine XS.lload X1.here hx rfl (hb hby at_17) rfl ?_
    show Steps p.tables e below (T1.setTop (mkF m 19 #[.val (.long q0), .second, .val (.long q1), .second, .val (.long q2), .second, .val (.long q3), .second, .val (.long q4), .second, .val (.long q5), .second, .val (.long (q4 ||| (1 : Int64))), .second, .val (.long (q5 ||| (1 : Int64))), .second, .unset] [(.long (q4 ||| (1 : Int64))), (.long q0), (.ref b1), (.ref b1)])) t
    refine XS.ladd X1.here hx rfl (hb hby at_19) rfl ?_
    show Steps p.tables e below (T1.setTop (mkF m 20 #[.val (.long q0), .second, .val (.long q1), .second, .val (.long q2), .second, .val (.long q3), .second, .val (.long q4), .second, .val (.long q5), .second, .val (.long (q4 ||| (1 : Int64))), .second, .val (.long (q5 ||| (1 : Int64))), .second, .unset] [(.long (q0 + (q4 ||| (1 : Int64)))), (.ref b1), (.ref b1)])) t
    refine XS.lloadN X1.here hx rfl (hb hby at_20) rfl ?_
    show Steps p.tables e below (T1.setTop (mkF m 21 #[.val (.long q0), .second, .val (.long q1), .second, .val (.long q2), .second, .val (.long q3), .second, .val (.long q4), .second, .val (.long q5), .second, .val (.long (q4 ||| (1 : Int64))), .second, .val (.long (q5 ||| (1 : Int64))), .second, .unset] [(.long q1), (.long (q0 + (q4 ||| (1 : Int64)))), (.ref b1), (.ref b1)])) t
    refine XS.lload X1.here hx rfl (hb hby at_21) rfl ?_
    show Steps p.tables e below (T1.setTop (mkF m 23 #[.val (.long q0), .second, .val (.long q1), .second, .val (.long q2), .second, .val (.long q3), .second, .val (.long q4), .second, .val (.long q5), .second, .val (.long (q4 ||| (1 : Int64))), .second, .val (.long (q5 ||| (1 : Int64))), .second, .unset] [(.long (q5 ||| (1 : Int64))), (.long q1), (.long (q0 + (q4 ||| (1 : Int64)))), (.ref b1), (.ref b1)])) t
    refine XS.ladd X1.here hx rfl (hb hby at_23) rfl ?_
    show Steps p.tables e below (T1.setTop (mkF m 24 #[.val (.long q0), .second, .val (.long q1), .second, .val (.long q2), .second, .val (.long q3), .second, .val (.long q4), .second, .val (.long q5), .second, .val (.long (q4 ||| (1 : Int64))), .second, .val (.long (q5 ||| (1 : Int64))), .second, .unset] [(.long (q1 + (q5 ||| (1 : Int64)))), (.long (q0 + (q4 ||| (1 : Int64)))), (.ref b1), (.ref b1)])) t
    refine XS.lload X1.here hx rfl (hb hby at_24) rfl ?_
    show Steps p.tables e below (T1.setTop (mkF m 26 #[.val (.long q0), .second, .val (.long q1), .second, .val (.long q2), .second, .val (.long q3), .second, .val (.long q4), .second, .val (.long q5), .second, .val (.long (q4 ||| (1 : Int64))), .second, .val (.long (q5 ||| (1 : Int64))), .second, .unset] [(.long q2), (.long (q1 + (q5 ||| (1 : Int64)))), (.long (q0 + (q4 ||| (1 : Int64)))), (.ref b1), (.ref b1)])) t
    refine XS.lload X1.here hx rfl (hb hby at_26) rfl ?_
    show Steps p.tables e below (T1.setTop (mkF m 28 #[.val (.long q0), .second, .val (.long q1), .second, .val (.long q2), .second, .val (.long q3), .second, .val (.long q4), .second, .val (.long q5), .second, .val (.long (q4 ||| (1 : Int64))), .second, .val (.long (q5 ||| (1 : Int64))), .second, .unset] [(.long (q5 ||| (1 : Int64))), (.long q2), (.long (q1 + (q5 ||| (1 : Int64)))), (.long (q0 + (q4 ||| (1 : Int64)))), (.ref b1), (.ref b1)])) t
    refine XS.ladd X1.here hx rfl (hb hby at_28) rfl ?_
    show Steps p.tables e below (T1.setTop (mkF m 29 #[.val (.long q0), .second, .val (.long q1), .second, .val (.long q2), .second, .val (.long q3), .second, .val (.long q4), .second, .val (.long q5), .second, .val (.long (q4 ||| (1 : Int64))), .second, .val (.long (q5 ||| (1 : Int64))), .second, .unset] [(.long (q2 + (q5 ||| (1 : Int64)))), (.long (q1 + (q5 ||| (1 : Int64)))), (.long (q0 + (q4 ||| (1 : Int64)))), (.ref b1), (.ref b1)])) t
    refine XS.lload X1.here hx rfl (hb hby at_29) rfl ?_
    show Steps p.tables e below (T1.setTop (mkF m 31 #[.val (.long q0), .second, .val (.long q1), .second, .val (.long q2), .second, .val (.long q3), .second, .val (.long q4), .second, .val (.long q5), .second, .val (.long (q4 ||| (1 : Int64))), .second, .val (.long (q5 ||| (1 : Int64))), .second, .unset] [(.long q3), (.long (q2 + (q5 ||| (1 : Int64)))), (.long (q1 + (q5 ||| (1 : Int64)))), (.long (q0 + (q4 ||| (1 : Int64)))), (.ref b1), (.ref b1)])) t
    refine XS.lload X1.here hx rfl (hb hby at_31) rfl ?_
    show Steps p.tables e below (T1.setTop (mkF m 33 #[.val (.long q0), .second, .val (.long q1), .second, .val (.long q2), .second, .val (.long q3), .second, .val (.long q4), .second, .val (.long q5), .second, .val (.long (q4 ||| (1 : Int64))), .second, .val (.long (q5 ||| (1 : Int64))), .second, .unset] [(.long (q4 ||| (1 : Int64))), (.long q3), (.long (q2 + (q5 ||| (1 : Int64)))), (.long (q1 + (q5 ||| (1 : Int64)))), (.long (q0 + (q4 ||| (1 : Int64)))), (.ref b1), (.ref b1)])) t
    refine XS.ladd X1.here hx rfl (hb hby at_33) rfl ?_
    exact k
  obtain ⟨_, _, ⟨T7, L7, k7, n7⟩, -, X7, ⟨Lc7, hQ7, l7, y7, z7⟩, st7⟩ := X1.specialBack hx (y := (⟨"com/example/fend/fend/puzzle/hashx/SipState", "<init>", "(JJJJ)V"⟩ : MethodName)) rfl hown (mvT hZ (hw _ (List.mem_of_getElem? (i := 3) rfl))) (mvT hZ (hw _ (List.mem_of_getElem? (i := 4) rfl))) (mvT hZ (hw _ (List.mem_of_getElem? (i := 5) rfl))) (by decide) (backOf (W := 1) (rm1 l Z a0 hw [] b1 (q0 + (q4 ||| (1 : Int64))) (q1 + (q5 ||| (1 : Int64))) (q2 + (q5 ||| (1 : Int64))) (q3 + (q4 ||| (1 : Int64))) (0 : Int64) (0 : Int64) (0 : Int64) (0 : Int64) h1 n0 f2 A1 f3 f4 f5 f6 g_b1) hZ (hw _ (List.mem_of_getElem? (i := 5) rfl)) (hw _ (List.mem_of_getElem? (i := 2) rfl)) (by decide) (by decide)) (g := (mkF m 34 #[.val (.long q0), .second, .val (.long q1), .second, .val (.long q2), .second, .val (.long q3), .second, .val (.long q4), .second, .val (.long q5), .second, .val (.long (q4 ||| (1 : Int64))), .second, .val (.long (q5 ||| (1 : Int64))), .second, .unset] [(.long (q3 + (q4 ||| (1 : Int64)))), (.long (q2 + (q5 ||| (1 : Int64)))), (.long (q1 + (q5 ||| (1 : Int64)))), (.long (q0 + (q4 ||| (1 : Int64)))), (.ref b1), (.ref b1)])) rfl (by rw [hml]; rfl) (Steps.refl _) (a := b1) (argsL := [(.long (q0 + (q4 ||| (1 : Int64)))), (.long (q1 + (q5 ||| (1 : Int64)))), (.long (q2 + (q5 ||| (1 : Int64)))), (.long (q3 + (q4 ||| (1 : Int64))))]) (rest := [(.ref b1)]) (lenOf pd_1 rfl) rfl (by show 2 * 0 + _ ≤ _; exact Nat.le_of_eq rfl) (hb hby at_34) (fun _ _ => ⟨rfl, e1, (by decide : 1 + 0 ≤ _), (by decide : 4 + 0 ≤ _)⟩)
  dsimp only [Pt.U, Pt.locs, Pt.cells, Pt.slots] at X7 l7 y7 z7 st7 hQ7
  subst l7 y7 z7
  obtain ⟨rfl, N7q, K7, y7_0, y7_1, y7_2, y7_3, y7_4⟩ := hQ7
  have f8 : n0 ≤ T7.heap.size := Nat.le_trans f2 K7.1
  have f9 : Exa Z T7.heap b1 "com/example/fend/fend/puzzle/hashx/SipState" := A1.keep K7
  have N7 := Fr.app N0 N7q
  refine OwnGo.of (fun t k => st7.trans k) ?_
  show OwnGo p.tables e below _ (T7.setTop (mkF m 37 #[.val (.long q0), .second, .val (.long q1), .second, .val (.long q2), .second, .val (.long q3), .second, .val (.long q4), .second, .val (.long q5), .second, .val (.long (q4 ||| (1 : Int64))), .second, .val (.long (q5 ||| (1 : Int64))), .second, .unset] [(.ref b1)]))
  refine OwnGo.of (A := T7.setTop (mkF m 37 #[.val (.long q0), .second, .val (.long q1), .second, .val (.long q2), .second, .val (.long q3), .second, .val (.long q4), .second, .val (.long q5), .second, .val (.long (q4 ||| (1 : Int64))), .second, .val (.long (q5 ||| (1 : Int64))), .second, .unset] [(.ref b1)])) (B := T7.setTop (mkF m 47 #[.val (.long q0), .second, .val (.long q1), .second, .val (.long q2), .second, .val (.long q3), .second, .val (.long q4), .second, .val (.long q5), .second, .val (.long (q4 ||| (1 : Int64))), .second, .val (.long (q5 ||| (1 : Int64))), .second, .val (.ref b1)] [(.long q3), (.long q2), (.long q1), (.long q0), (.ref b1)])) (fun t k => ?_) ?_
  · show Steps p.tables e below (T7.setTop (mkF m 37 #[.val (.long q0), .second, .val (.long q1), .second, .val (.long q2), .second, .val (.long q3), .second, .val (.long q4), .second, .val (.long q5), .second, .val (.long (q4 ||| (1 : Int64))), .second, .val (.long (q5 ||| (1 : Int64))), .second, .unset] [(.ref b1)])) t
    refine XS.astore X7.here hx rfl (hb hby at_37) rfl rfl (l' := #[.val (.long q0), .second, .val (.long q1), .second, .val (.long q2), .second, .val (.long q3), .second, .val (.long q4), .second, .val (.long q5), .second, .val (.long (q4 ||| (1 : Int64))), .second, .val (.long (q5 ||| (1 : Int64))), .second, .val (.ref b1)]) rfl ?_
    show Steps p.tables e below (T7.setTop (mkF m 39 #[.val (.long q0), .second, .val (.long q1), .second, .val (.long q2), .second, .val (.long q3), .second, .val (.long q4), .second, .val (.long q5), .second, .val (.long (q4 ||| (1 : Int64))), .second, .val (.long (q5 ||| (1 : Int64))), .second, .val (.ref b1)] [])) t
    refine XS.aload X7.here hx rfl (hb hby at_39) rfl rfl ?_
    show Steps p.tables e below (T7.setTop (mkF m 41 #[.val (.long q0), .second, .val (.long q1), .second, .val (.long q2), .second, .val (.long q3), .second, .val (.long q4), .second, .val (.long q5), .second, .val (.long (q4 ||| (1 : Int64))), .second, .val (.long (q5 ||| (1 : Int64))), .second, .val (.ref b1)] [(.ref b1)])) t
    refine XS.lloadN X7.here hx rfl (hb hby at_41) rfl ?_
    show Steps p.tables e below (T7.setTop (mkF m 42 #[.val (.long q0), .second, .val (.long q1), .second, .val (.long q2), .second, .val (.long q3), .second, .val (.long q4), .second, .val (.long q5), .second, .val (.long (q4 ||| (1 : Int64))), .second, .val (.long (q5 ||| (1 : Int64))), .second, .val (.ref b1)] [(.long q0), (.ref b1)])) t
    refine XS.lloadN X7.here hx rfl (hb hby at_42) rfl ?_
    show Steps p.tables e below (T7.setTop (mkF m 43 #[.val (.long q0), .second, .val (.long q1), .second, .val (.long q2), .second, .val (.long q3), .second, .val (.long q4), .second, .val (.long q5), .second, .val (.long (q4 ||| (1 : Int64))), .second, .val (.long (q5 ||| (1 : Int64))), .second, .val (.ref b1)] [(.long q1), (.long q0), (.ref b1)])) t
    refine XS.lload X7.here hx rfl (hb hby at_43) rfl ?_
    show Steps p.tables e below (T7.setTop (mkF m 45 #[.val (.long q0), .second, .val (.long q1), .second, .val (.long q2), .second, .val (.long q3), .second, .val (.long q4), .second, .val (.long q5), .second, .val (.long (q4 ||| (1 : Int64))), .second, .val (.long (q5 ||| (1 : Int64))), .second, .val (.ref b1)] [(.long q2), (.long q1), (.long q0), (.ref b1)])) t
    refine XS.lload X7.here hx rfl (hb hby at_45) rfl ?_
    exact k
  obtain ⟨cq10, kq10, q10a, q10b, q10c⟩ := isOf hZ rfl y7_0
  obtain ⟨_, _, ⟨T10, L10, k10, n10⟩, -, X10, ⟨Lc10, hQ10, l10, y10, z10⟩, st10⟩ := X7.virtualBack hx (y := (⟨"com/example/fend/fend/puzzle/hashx/SipState", "set", "(JJJJ)V"⟩ : MethodName)) (z := (⟨"com/example/fend/fend/puzzle/hashx/SipState", "set", "(JJJJ)V"⟩ : MethodName)) hown (mvT hZ (hw _ (List.mem_of_getElem? (i := 17) rfl))) (mvT hZ (hw _ (List.mem_of_getElem? (i := 18) rfl))) (notFace_of_selects (args := #[]) (mvT hZ (hw _ (List.mem_of_getElem? (i := 20) rfl)))) (mvT hZ (hw _ (List.mem_of_getElem? (i := 20) rfl))) (mvT hZ (hw _ (List.mem_of_getElem? (i := 19) rfl))) (by decide) (backOf (W := 0) (rm3 l Z a0 hw [] b1 q0 q1 q2 q3 (q0 + (q4 ||| (1 : Int64))) (q1 + (q5 ||| (1 : Int64))) (q2 + (q5 ||| (1 : Int64))) (q3 + (q4 ||| (1 : Int64))) T7.heap n0 f8 y7_0 y7_1 y7_2 y7_3 y7_4 g_b1) hZ (hw _ (List.mem_of_getElem? (i := 21) rfl)) (hw _ (List.mem_of_getElem? (i := 2) rfl)) (by decide) (by decide)) q10a q10c (g := (mkF m 47 #[.val (.long q0), .second, .val (.long q1), .second, .val (.long q2), .second, .val (.long q3), .second, .val (.long q4), .second, .val (.long q5), .second, .val (.long (q4 ||| (1 : Int64))), .second, .val (.long (q5 ||| (1 : Int64))), .second, .val (.ref b1)] [(.long q3), (.long q2), (.long q1), (.long q0), (.ref b1)])) rfl (by rw [hml]; rfl) (Steps.refl _) (argsL := [(.long q0), (.long q1), (.long q2), (.long q3)]) (rest := []) (lenOf pd_1 rfl) rfl (by show 2 * 0 + _ ≤ _; exact Nat.le_of_eq rfl) (hb hby at_47) (fun _ _ => ⟨rfl, rfl, (by decide : 1 + 0 ≤ _), (by decide : 4 + 0 ≤ _)⟩)
  dsimp only [Pt.U, Pt.locs, Pt.cells, Pt.slots] at X10 l10 y10 z10 st10 hQ10
  subst l10 y10 z10
  obtain ⟨rfl, N10q, K10, y10_0, y10_1, y10_2, y10_3, y10_4⟩ := hQ10
  have f11 : n0 ≤ T10.heap.size := Nat.le_trans f8 K10.1
  have f12 : Exa Z T10.heap b1 "com/example/fend/fend/puzzle/hashx/SipState" := y7_0.keep K10
  have N10 := Fr.app N7 N10q
  refine OwnGo.of (fun t k => st10.trans k) ?_
  show OwnGo p.tables e below _ (T10.setTop (mkF m 50 #[.val (.long q0), .second, .val (.long q1), .second, .val (.long q2), .second, .val (.long q3), .second, .val (.long q4), .second, .val (.long q5), .second, .val (.long (q4 ||| (1 : Int64))), .second, .val (.long (q5 ||| (1 : Int64))), .second, .val (.ref b1)] []))
  refine OwnGo.of (A := T10.setTop (mkF m 50 #[.val (.long q0), .second, .val (.long q1), .second, .val (.long q2), .second, .val (.long q3), .second, .val (.long q4), .second, .val (.long q5), .second, .val (.long (q4 ||| (1 : Int64))), .second, .val (.long (q5 ||| (1 : Int64))), .second, .val (.ref b1)] [])) (B := T10.setTop (mkF m 52 #[.val (.long q0), .second, .val (.long q1), .second, .val (.long q2), .second, .val (.long q3), .second, .val (.long q4), .second, .val (.long q5), .second, .val (.long (q4 ||| (1 : Int64))), .second, .val (.long (q5 ||| (1 : Int64))), .second, .val (.ref b1)] [(.ref b1)])) (fun t k => ?_) ?_
  · show Steps p.tables e below (T10.setTop (mkF m 50 #[.val (.long q0), .second, .val (.long q1), .second, .val (.long q2), .second, .val (.long q3), .second, .val (.long q4), .second, .val (.long q5), .second, .val (.long (q4 ||| (1 : Int64))), .second, .val (.long (q5 ||| (1 : Int64))), .second, .val (.ref b1)] [])) t
    refine XS.aload X10.here hx rfl (hb hby at_50) rfl rfl ?_
    exact k
  obtain ⟨T13, X13, e13, st13⟩ := getF X10 hx hZ hown (host := "") (Or.inl (hw _ (List.mem_of_getElem? (i := 22) rfl))) Via.refl rfl y10_1 (g := (mkF m 52 #[.val (.long q0), .second, .val (.long q1), .second, .val (.long q2), .second, .val (.long q3), .second, .val (.long q4), .second, .val (.long q5), .second, .val (.long (q4 ||| (1 : Int64))), .second, .val (.long (q5 ||| (1 : Int64))), .second, .val (.ref b1)] [(.ref b1)])) rfl rfl (hb hby at_52)
  refine OwnGo.of st13 ?_
  show OwnGo p.tables e below _ (T13.setTop (mkF m 55 #[.val (.long q0), .second, .val (.long q1), .second, .val (.long q2), .second, .val (.long q3), .second, .val (.long q4), .second, .val (.long q5), .second, .val (.long (q4 ||| (1 : Int64))), .second, .val (.long (q5 ||| (1 : Int64))), .second, .val (.ref b1)] [(.long q0)]))
  refine OwnGo.of (A := T13.setTop (mkF m 55 #[.val (.long q0), .second, .val (.long q1), .second, .val (.long q2), .second, .val (.long q3), .second, .val (.long q4), .second, .val (.long q5), .second, .val (.long (q4 ||| (1 : Int64))), .second, .val (.long (q5 ||| (1 : Int64))), .second, .val (.ref b1)] [(.long q0)])) (B := T13.setTop (mkF m 57 #[.val (.long q0), .second, .val (.long q1), .second, .val (.long q2), .second, .val (.long q3), .second, .val (.long q4), .second, .val (.long q5), .second, .val (.long (q4 ||| (1 : Int64))), .second, .val (.long (q5 ||| (1 : Int64))), .second, .val (.ref b1)] [(.int (lcmpW q0 q0))])) (fun t k => ?_) ?_
  · show Steps p.tables e below (T13.setTop (mkF m 55 #[.val (.long q0), .second, .val (.long q1), .second, .val (.long q2), .second, .val (.long q3), .second, .val (.long q4), .second, .val (.long q5), .second, .val (.long (q4 ||| (1 : Int64))), .second, .val (.long (q5 ||| (1 : Int64))), .second, .val (.ref b1)] [(.long q0)])) t
    refine XS.lloadN X13.here hx rfl (hb hby at_55) rfl ?_
    show Steps p.tables e below (T13.setTop (mkF m 56 #[.val (.long q0), .second, .val (.long q1), .second, .val (.long q2), .second, .val (.long q3), .second, .val (.long q4), .second, .val (.long q5), .second, .val (.long (q4 ||| (1 : Int64))), .second, .val (.long (q5 ||| (1 : Int64))), .second, .val (.ref b1)] [(.long q0), (.long q0)])) t
    refine XS.lcmp X13.here hx rfl (hb hby at_56) rfl ?_
    exact k
  have hc14 : (lcmpW q0 q0) = (0 : Int32) := (lw_eq _ _).mpr rfl
  refine OwnGo.of (A := T13.setTop (mkF m 57 #[.val (.long q0), .second, .val (.long q1), .second, .val (.long q2), .second, .val (.long q3), .second, .val (.long q4), .second, .val (.long q5), .second, .val (.long (q4 ||| (1 : Int64))), .second, .val (.long (q5 ||| (1 : Int64))), .second, .val (.ref b1)] [(.int (lcmpW q0 q0))])) (B := T13.setTop (mkF m 62 #[.val (.long q0), .second, .val (.long q1), .second, .val (.long q2), .second, .val (.long q3), .second, .val (.long q4), .second, .val (.long q5), .second, .val (.long (q4 ||| (1 : Int64))), .second, .val (.long (q5 ||| (1 : Int64))), .second, .val (.ref b1)] [(.ref b1)])) (fun t k => ?_) ?_
  · show Steps p.tables e below (T13.setTop (mkF m 57 #[.val (.long q0), .second, .val (.long q1), .second, .val (.long q2), .second, .val (.long q3), .second, .val (.long q4), .second, .val (.long q5), .second, .val (.long (q4 ||| (1 : Int64))), .second, .val (.long (q5 ||| (1 : Int64))), .second, .val (.ref b1)] [(.int (lcmpW q0 q0))])) t
    refine XS.ifNo X13.here hx rfl (hb hby at_57) rfl ((if0 _ _).trans (teq hc14).2) ?_
    show Steps p.tables e below (T13.setTop (mkF m 60 #[.val (.long q0), .second, .val (.long q1), .second, .val (.long q2), .second, .val (.long q3), .second, .val (.long q4), .second, .val (.long q5), .second, .val (.long (q4 ||| (1 : Int64))), .second, .val (.long (q5 ||| (1 : Int64))), .second, .val (.ref b1)] [])) t
    refine XS.aload X13.here hx rfl (hb hby at_60) rfl rfl ?_
    exact k
  obtain ⟨T15, X15, e15, st15⟩ := getF X13 hx hZ hown (host := "") (Or.inl (hw _ (List.mem_of_getElem? (i := 23) rfl))) Via.refl e13 y10_2 (g := (mkF m 62 #[.val (.long q0), .second, .val (.long q1), .second, .val (.long q2), .second, .val (.long q3), .second, .val (.long q4), .second, .val (.long q5), .second, .val (.long (q4 ||| (1 : Int64))), .second, .val (.long (q5 ||| (1 : Int64))), .second, .val (.ref b1)] [(.ref b1)])) rfl rfl (hb hby at_62)
  refine OwnGo.of st15 ?_
  show OwnGo p.tables e below _ (T15.setTop (mkF m 65 #[.val (.long q0), .second, .val (.long q1), .second, .val (.long q2), .second, .val (.long q3), .second, .val (.long q4), .second, .val (.long q5), .second, .val (.long (q4 ||| (1 : Int64))), .second, .val (.long (q5 ||| (1 : Int64))), .second, .val (.ref b1)] [(.long q1)]))
  refine OwnGo.of (A := T15.setTop (mkF m 65 #[.val (.long q0), .second, .val (.long q1), .second, .val (.long q2), .second, .val (.long q3), .second, .val (.long q4), .second, .val (.long q5), .second, .val (.long (q4 ||| (1 : Int64))), .second, .val (.long (q5 ||| (1 : Int64))), .second, .val (.ref b1)] [(.long q1)])) (B := T15.setTop (mkF m 67 #[.val (.long q0), .second, .val (.long q1), .second, .val (.long q2), .second, .val (.long q3), .second, .val (.long q4), .second, .val (.long q5), .second, .val (.long (q4 ||| (1 : Int64))), .second, .val (.long (q5 ||| (1 : Int64))), .second, .val (.ref b1)] [(.int (lcmpW q1 q1))])) (fun t k => ?_) ?_
  · show Steps p.tables e below (T15.setTop (mkF m 65 #[.val (.long q0), .second, .val (.long q1), .second, .val (.long q2), .second, .val (.long q3), .second, .val (.long q4), .second, .val (.long q5), .second, .val (.long (q4 ||| (1 : Int64))), .second, .val (.long (q5 ||| (1 : Int64))), .second, .val (.ref b1)] [(.long q1)])) t
    refine XS.lloadN X15.here hx rfl (hb hby at_65) rfl ?_
    show Steps p.tables e below (T15.setTop (mkF m 66 #[.val (.long q0), .second, .val (.long q1), .second, .val (.long q2), .second, .val (.long q3), .second, .val (.long q4), .second, .val (.long q5), .second, .val (.long (q4 ||| (1 : Int64))), .second, .val (.long (q5 ||| (1 : Int64))), .second, .val (.ref b1)] [(.long q1), (.long q1)])) t
    refine XS.lcmp X15.here hx rfl (hb hby at_66) rfl ?_
    exact k
  have hc16 : (lcmpW q1 q1) = (0 : Int32) := (lw_eq _ _).mpr rfl
  refine OwnGo.of (A := T15.setTop (mkF m 67 #[.val (.long q0), .second, .val (.long q1), .second, .val (.long q2), .second, .val (.long q3), .second, .val (.long q4), .second, .val (.long q5), .second, .val (.long (q4 ||| (1 : Int64))), .second, .val (.long (q5 ||| (1 : Int64))), .second, .val (.ref b1)] [(.int (lcmpW q1 q1))])) (B := T15.setTop (mkF m 72 #[.val (.long q0), .second, .val (.long q1), .second, .val (.long q2), .second, .val (.long q3), .second, .val (.long q4), .second, .val (.long q5), .second, .val (.long (q4 ||| (1 : Int64))), .second, .val (.long (q5 ||| (1 : Int64))), .second, .val (.ref b1)] [(.ref b1)])) (fun t k => ?_) ?_
  · show Steps p.tables e below (T15.setTop (mkF m 67 #[.val (.long q0), .second, .val (.long q1), .second, .val (.long q2), .second, .val (.long q3), .second, .val (.long q4), .second, .val (.long q5), .second, .val (.long (q4 ||| (1 : Int64))), .second, .val (.long (q5 ||| (1 : Int64))), .second, .val (.ref b1)] [(.int (lcmpW q1 q1))])) t
    refine XS.ifNo X15.here hx rfl (hb hby at_67) rfl ((if0 _ _).trans (teq hc16).2) ?_
    show Steps p.tables e below (T15.setTop (mkF m 70 #[.val (.long q0), .second, .val (.long q1), .second, .val (.long q2), .second, .val (.long q3), .second, .val (.long q4), .second, .val (.long q5), .second, .val (.long (q4 ||| (1 : Int64))), .second, .val (.long (q5 ||| (1 : Int64))), .second, .val (.ref b1)] [])) t
    refine XS.aload X15.here hx rfl (hb hby at_70) rfl rfl ?_
    exact k
  obtain ⟨T17, X17, e17, st17⟩ := getF X15 hx hZ hown (host := "") (Or.inl (hw _ (List.mem_of_getElem? (i := 24) rfl))) Via.refl e15 y10_3 (g := (mkF m 72 #[.val (.long q0), .second, .val (.long q1), .second, .val (.long q2), .second, .val (.long q3), .second, .val (.long q4), .second, .val (.long q5), .second, .val (.long (q4 ||| (1 : Int64))), .second, .val (.long (q5 ||| (1 : Int64))), .second, .val (.ref b1)] [(.ref b1)])) rfl rfl (hb hby at_72)
  refine OwnGo.of st17 ?_
  show OwnGo p.tables e below _ (T17.setTop (mkF m 75 #[.val (.long q0), .second, .val (.long q1), .second, .val (.long q2), .second, .val (.long q3), .second, .val (.long q4), .second, .val (.long q5), .second, .val (.long (q4 ||| (1 : Int64))), .second, .val (.long (q5 ||| (1 : Int64))), .second, .val (.ref b1)] [(.long q2)]))
  refine OwnGo.of (A := T17.setTop (mkF m 75 #[.val (.long q0), .second, .val (.long q1), .second, .val (.long q2), .second, .val (.long q3), .second, .val (.long q4), .second, .val (.long q5), .second, .val (.long (q4 ||| (1 : Int64))), .second, .val (.long (q5 ||| (1 : Int64))), .second, .val (.ref b1)] [(.long q2)])) (B := T17.setTop (mkF m 78 #[.val (.long q0), .second, .val (.long q1), .second, .val (.long q2), .second, .val (.long q3), .second, .val (.long q4), .second, .val (.long q5), .second, .val (.long (q4 ||| (1 : Int64))), .second, .val (.long (q5 ||| (1 : Int64))), .second, .val (.ref b1)] [(.int (lcmpW q2 q2))])) (fun t k => ?_) ?_
  · show Steps p.tables e below (T17.setTop (mkF m 75 #[.val (.long q0), .second, .val (.long q1), .second, .val (.long q2), .second, .val (.long q3), .second, .val (.long q4), .second, .val (.long q5), .second, .val (.long (q4 ||| (1 : Int64))), .second, .val (.long (q5 ||| (1 : Int64))), .second, .val (.ref b1)] [(.long q2)])) t
    refine XS.lload X17.here hx rfl (hb hby at_75) rfl ?_
    show Steps p.tables e below (T17.setTop (mkF m 77 #[.val (.long q0), .second, .val (.long q1), .second, .val (.long q2), .second, .val (.long q3), .second, .val (.long q4), .second, .val (.long q5), .second, .val (.long (q4 ||| (1 : Int64))), .second, .val (.long (q5 ||| (1 : Int64))), .second, .val (.ref b1)] [(.long q2), (.long q2)])) t
    refine XS.lcmp X17.here hx rfl (hb hby at_77) rfl ?_
    exact k
  have hc18 : (lcmpW q2 q2) = (0 : Int32) := (lw_eq _ _).mpr rfl
  refine OwnGo.of (A := T17.setTop (mkF m 78 #[.val (.long q0), .second, .val (.long q1), .second, .val (.long q2), .second, .val (.long q3), .second, .val (.long q4), .second, .val (.long q5), .second, .val (.long (q4 ||| (1 : Int64))), .second, .val (.long (q5 ||| (1 : Int64))), .second, .val (.ref b1)] [(.int (lcmpW q2 q2))])) (B := T17.setTop (mkF m 83 #[.val (.long q0), .second, .val (.long q1), .second, .val (.long q2), .second, .val (.long q3), .second, .val (.long q4), .second, .val (.long q5), .second, .val (.long (q4 ||| (1 : Int64))), .second, .val (.long (q5 ||| (1 : Int64))), .second, .val (.ref b1)] [(.ref b1)])) (fun t k => ?_) ?_
  · show Steps p.tables e below (T17.setTop (mkF m 78 #[.val (.long q0), .second, .val (.long q1), .second, .val (.long q2), .second, .val (.long q3), .second, .val (.long q4), .second, .val (.long q5), .second, .val (.long (q4 ||| (1 : Int64))), .second, .val (.long (q5 ||| (1 : Int64))), .second, .val (.ref b1)] [(.int (lcmpW q2 q2))])) t
    refine XS.ifNo X17.here hx rfl (hb hby at_78) rfl ((if0 _ _).trans (teq hc18).2) ?_
    show Steps p.tables e below (T17.setTop (mkF m 81 #[.val (.long q0), .second, .val (.long q1), .second, .val (.long q2), .second, .val (.long q3), .second, .val (.long q4), .second, .val (.long q5), .second, .val (.long (q4 ||| (1 : Int64))), .second, .val (.long (q5 ||| (1 : Int64))), .second, .val (.ref b1)] [])) t
    refine XS.aload X17.here hx rfl (hb hby at_81) rfl rfl ?_
    exact k
  obtain ⟨T19, X19, e19, st19⟩ := getF X17 hx hZ hown (host := "") (Or.inl (hw _ (List.mem_of_getElem? (i := 25) rfl))) Via.refl e17 y10_4 (g := (mkF m 83 #[.val (.long q0), .second, .val (.long q1), .second, .val (.long q2), .second, .val (.long q3), .second, .val (.long q4), .second, .val (.long q5), .second, .val (.long (q4 ||| (1 : Int64))), .second, .val (.long (q5 ||| (1 : Int64))), .second, .val (.ref b1)] [(.ref b1)])) rfl rfl (hb hby at_83)
  refine OwnGo.of st19 ?_
  show OwnGo p.tables e below _ (T19.setTop (mkF m 86 #[.val (.long q0), .second, .val (.long q1), .second, .val (.long q2), .second, .val (.long q3), .second, .val (.long q4), .second, .val (.long q5), .second, .val (.long (q4 ||| (1 : Int64))), .second, .val (.long (q5 ||| (1 : Int64))), .second, .val (.ref b1)] [(.long q3)]))
  refine OwnGo.of (A := T19.setTop (mkF m 86 #[.val (.long q0), .second, .val (.long q1), .second, .val (.long q2), .second, .val (.long q3), .second, .val (.long q4), .second, .val (.long q5), .second, .val (.long (q4 ||| (1 : Int64))), .second, .val (.long (q5 ||| (1 : Int64))), .second, .val (.ref b1)] [(.long q3)])) (B := T19.setTop (mkF m 89 #[.val (.long q0), .second, .val (.long q1), .second, .val (.long q2), .second, .val (.long q3), .second, .val (.long q4), .second, .val (.long q5), .second, .val (.long (q4 ||| (1 : Int64))), .second, .val (.long (q5 ||| (1 : Int64))), .second, .val (.ref b1)] [(.int (lcmpW q3 q3))])) (fun t k => ?_) ?_
  · show Steps p.tables e below (T19.setTop (mkF m 86 #[.val (.long q0), .second, .val (.long q1), .second, .val (.long q2), .second, .val (.long q3), .second, .val (.long q4), .second, .val (.long q5), .second, .val (.long (q4 ||| (1 : Int64))), .second, .val (.long (q5 ||| (1 : Int64))), .second, .val (.ref b1)] [(.long q3)])) t
    refine XS.lload X19.here hx rfl (hb hby at_86) rfl ?_
    show Steps p.tables e below (T19.setTop (mkF m 88 #[.val (.long q0), .second, .val (.long q1), .second, .val (.long q2), .second, .val (.long q3), .second, .val (.long q4), .second, .val (.long q5), .second, .val (.long (q4 ||| (1 : Int64))), .second, .val (.long (q5 ||| (1 : Int64))), .second, .val (.ref b1)] [(.long q3), (.long q3)])) t
    refine XS.lcmp X19.here hx rfl (hb hby at_88) rfl ?_
    exact k
  have hc20 : (lcmpW q3 q3) = (0 : Int32) := (lw_eq _ _).mpr rfl
  refine OwnGo.of (A := T19.setTop (mkF m 89 #[.val (.long q0), .second, .val (.long q1), .second, .val (.long q2), .second, .val (.long q3), .second, .val (.long q4), .second, .val (.long q5), .second, .val (.long (q4 ||| (1 : Int64))), .second, .val (.long (q5 ||| (1 : Int64))), .second, .val (.ref b1)] [(.int (lcmpW q3 q3))])) (B := T19.setTop (mkF m 97 #[.val (.long q0), .second, .val (.long q1), .second, .val (.long q2), .second, .val (.long q3), .second, .val (.long q4), .second, .val (.long q5), .second, .val (.long (q4 ||| (1 : Int64))), .second, .val (.long (q5 ||| (1 : Int64))), .second, .val (.ref b1)] [(.int (1 : Int32))])) (fun t k => ?_) ?_
  · show Steps p.tables e below (T19.setTop (mkF m 89 #[.val (.long q0), .second, .val (.long q1), .second, .val (.long q2), .second, .val (.long q3), .second, .val (.long q4), .second, .val (.long q5), .second, .val (.long (q4 ||| (1 : Int64))), .second, .val (.long (q5 ||| (1 : Int64))), .second, .val (.ref b1)] [(.int (lcmpW q3 q3))])) t
    refine XS.ifNo X19.here hx rfl (hb hby at_89) rfl ((if0 _ _).trans (teq hc20).2) ?_
    show Steps p.tables e below (T19.setTop (mkF m 92 #[.val (.long q0), .second, .val (.long q1), .second, .val (.long q2), .second, .val (.long q3), .second, .val (.long q4), .second, .val (.long q5), .second, .val (.long (q4 ||| (1 : Int64))), .second, .val (.long (q5 ||| (1 : Int64))), .second, .val (.ref b1)] [])) t
    refine XS.iconst X19.here hx rfl (hb hby at_92) ?_
    show Steps p.tables e below (T19.setTop (mkF m 93 #[.val (.long q0), .second, .val (.long q1), .second, .val (.long q2), .second, .val (.long q3), .second, .val (.long q4), .second, .val (.long q5), .second, .val (.long (q4 ||| (1 : Int64))), .second, .val (.long (q5 ||| (1 : Int64))), .second, .val (.ref b1)] [(.int (1 : Int32))])) t
    refine XS.goto X19.here hx rfl (pc0 := 93) (pc' := 97) rfl (hb hby at_93) (by decide) (by decide) ?_
    exact k
  obtain ⟨fs, hr, hrun, hended, hW, hsame⟩ := X19.leave (v := some (.int (nar .boolean (1 : Int32)))) (fun h => by rw [Bd.returns] at h; cases h)
  refine ⟨_, _, ?_, hrun, hended, _, _, rfl, ?_, ⟨_, rfl⟩, hW, hsame.mono (by decide) (by decide)⟩
  · show Steps p.tables e below (T19.setTop (mkF m 97 #[.val (.long q0), .second, .val (.long q1), .second, .val (.long q2), .second, .val (.long q3), .second, .val (.long q4), .second, .val (.long q5), .second, .val (.long (q4 ||| (1 : Int64))), .second, .val (.long (q5 ||| (1 : Int64))), .second, .val (.ref b1)] [(.int (1 : Int32))])) _
    exact retN X19 hx (t := .boolean) Bd.returns (by simp) (hb hby at_97) hr
  · show Qrm0 Z q0 q1 q2 q3 q4 q5 h0 n0 _ (T19.setFrames fs).heap _
    rw [show (T19.setFrames fs).heap = T10.heap from e19]
    exact ⟨rfl, N10⟩
set_option maxRecDepth 65536 in
set_option maxHeartbeats 40000000 in
theorem comes_1 {Post : Tables → Env → Array Value → State → Outcome → State → Prop} (hpost : ∀ tb e args s v u, (limb_1_1.after args s (.returned v) u = true ∧ limb_1_2.after args s (.returned v) u = true ∧ True) → FrameEnd s (.returned v) u (Jvm.fieldLocs frame_1_writes args s ++ Jvm.arrayLocs frame_1_arrays args s ++ Jvm.staticLocs frame_1_statics s) 16 128 → Post tb e args s (.returned v) u) :
    ArmFor flags0 classFile x code maxLocals ret World_1 tables_1 room_1 Calls_1 rest_1 Pre_1 Post := by
  intro l hfl _ _ p e ha hc hk s m args below hf hA hF happ hP
  obtain ⟨hcalls, hrest, hpre⟩ := hP
  obtain ⟨-, -, -, hnamed, -, -, -, hat⟩ := (Spec.applies_iff hf).mp happ
  obtain ⟨hg, hn⟩ := and_e (Cond.before_iff.mp (show (Jvm.Cond.and given_1 narrow_1).before args s = true from hpre))
  obtain ⟨gg1, gg2⟩ := and_e hg
  obtain ⟨gg3, gg4⟩ := and_e gg2
  obtain ⟨gg5, gg6⟩ := and_e gg4
  obtain ⟨gg7, gg8⟩ := and_e gg6
  obtain ⟨gg9, gg10⟩ := and_e gg8
  obtain ⟨gg11, gg12⟩ := and_e gg10
  obtain ⟨w0, w1, w2, w3, w4, w5, rfl⟩ : ∃ w0 w1 w2 w3 w4 w5 : Value, args = #[w0, w1, w2, w3, w4, w5] := by
    have hs : args.size = 6 := by simpa [Cond.value, given_1] using gg1
    obtain ⟨L⟩ := args
    match L, hs with
    | [w0, w1, w2, w3, w4, w5], _ => exact ⟨w0, w1, w2, w3, w4, w5, rfl⟩
  have hw := fun d (hd : d ∈ tables_1) => atoms_spec (ws := Jvm.Cond.code x code maxLocals ret :: tables_1) hat d (List.mem_cons_of_mem _ hd)
  have hfit : Fit s := fun {y c} hc i hi => by
    obtain ⟨ha, rfl⟩ := Array.getElem?_eq_some_iff.mp hc
    have q := List.all_eq_true.mp ((Array.all_eq_true_iff_forall_mem.mp hF) _ (Array.getElem_mem ha)) i (List.mem_range.mpr hi)
    simpa [Array.getElem?_eq_getElem hi] using q
  obtain ⟨i0, ei0⟩ := isL_v gg3
  obtain rfl : w0 = (.long i0) := Option.some.inj ei0
  obtain ⟨i1, ei1⟩ := isL_v gg5
  obtain rfl : w1 = (.long i1) := Option.some.inj ei1
  obtain ⟨i2, ei2⟩ := isL_v gg7
  obtain rfl : w2 = (.long i2) := Option.some.inj ei2
  obtain ⟨i3, ei3⟩ := isL_v gg9
  obtain rfl : w3 = (.long i3) := Option.some.inj ei3
  obtain ⟨i4, ei4⟩ := isL_v gg11
  obtain rfl : w4 = (.long i4) := Option.some.inj ei4
  obtain ⟨i5, ei5⟩ := isL_v gg12
  obtain rfl : w5 = (.long i5) := Option.some.inj ei5
  obtain ⟨n, o, h1, h2, h3, _, L, rfl, ⟨rfl, N⟩, hq⟩ := rm0 l s _ hw tables_1 i0 i1 i2 i3 i4 i5  s.heap s.heap.size (Nat.le_refl _)  p e ha hc hk s m _ below hf ((Spec.applies_iff_loose hf).mp happ).1 ⟨rfl, State.Warmed39.refl s, rfl⟩ trivial
  refine ⟨n, _, h1, h2, h3, hpost _ _ _ _ _ _ ⟨Cond.after_iff.mpr rfl, Cond.after_iff.mpr (eq_i res_at (Term.int_eval (1)) rfl), trivial⟩ ⟨hq.1, hq.2.1, (hq.2.2.sift fun y hy => Or.inr (N y hy)).mono (by decide) (by decide)⟩⟩
theorem main_1_1 : Claimed_1_1 := comes_1 fun _ _ _ _ _ _ h hF => ⟨h.1, hF⟩
theorem main_1_2 : Claimed_1_2 := comes_1 fun _ _ _ _ _ _ h hF => ⟨h.2.1, hF⟩
end Jvm.Pilot.@@N@@
namespace Jvm.Pilot.@@N@@
open Jvm Jvm.ClassFile Sem Op Lib Jvm.Free Jvm.Stand Jvm.Pilot.@@N@@.Jvm.D
/-! MADE BY PROGRAM (witnessworld.py) out of the Statement's table words and the real class files: 7 classes; the members and pool entries that the words name. The judged class is class 1, her method 1. -/
namespace start1
open Jvm.ClassFile
def u (s : String) : CpInfo := .utf8 (stringToUtf16 s)
/-- a pool by its gaps: so many unusable entries, then the entry; so many at the end -/
def gap : Nat → List CpInfo → List CpInfo
  | 0, r => r
  | n + 1, r => .unusable :: gap n r
def poolList (es : List (Nat × CpInfo)) (last : Nat) : List CpInfo := es.foldr (fun e r => gap e.1 (e.2 :: r)) (gap last [])
def pool (es : List (Nat × CpInfo)) (last : Nat) : Array CpInfo := ⟨poolList es last⟩
def fileOf (pool : Array CpInfo) (this : Nat) (attrs : Array Attribute := #[]) (ms : Array MethodInfo := #[]) (fl : Nat := 33) (sup : Nat := 0) (ifs : Array Nat := #[]) (fds : Array FieldInfo := #[]) : ClassFile where
  minorVersion := 0
  majorVersion := 65
  constantPool := pool
  accessFlags := fl
  thisClass := this
  superClass := sup
  interfaces := ifs
  fields := fds
  methods := ms
  attributes := attrs
def plain (name : String) (sup : Option ClassId) : Class where
  name := name
  kind := .ordinary
  loader := none
  accessFlags := 33
  super := sup
  interfaces := #[]
  cf := none
  fields := #[]
  methods := #[]
  instanceTypes := #[]
  staticTypes := #[]
  resolved := #[]
  callSites := []
  init := .initialized
  statics := none
  mirror := none

def pool0 : Array CpInfo := pool [(5, u "<init>"), (0, u "()V"), (1, .class_ 10), (1, u "java/lang/Object")] 113

def k0c0 : Code := { maxStack := 0, maxLocals := 1, code := object_method_1_code, exceptionTable := #[], attributes := #[] }
def k0m0 : Method := { name := "<init>", desc := "()V", sig := { parameters := [], returnType := none }, accessFlags := 1, code := some k0c0 }
/-- java/lang/Object -/
def k0 : Class := { plain "java/lang/Object" none with
  accessFlags := 33
  interfaces := #[]
  cf := some (fileOf pool0 8 #[] #[{ accessFlags := 1, nameIndex := 5, descriptorIndex := 6, attributes := #[] }] 33 0 #[] #[])
  fields := #[]
  methods := #[k0m0]
  instanceTypes := #[]
  staticTypes := #[]
  resolved := Array.replicate 124 none
  statics := none }

def pool1 : Array CpInfo := pool [(2, .class_ 4), (1, u "java/lang/Object"), (0, u "<init>"), (0, u "()V"), (0, .class_ 8), (0, u "com/example/fend/fend/puzzle/hashx/SipState"), (0, .methodref 7 10), (0, .nameAndType 5 11), (0, u "(JJJJ)V"), (0, .methodref 7 13), (0, .nameAndType 14 11), (0, u "set"), (0, .fieldref 7 16), (0, .nameAndType 17 18), (0, u "v0"), (0, u "J"), (0, .fieldref 7 20), (0, .nameAndType 21 18), (0, u "v1"), (0, .fieldref 7 23), (0, .nameAndType 24 18), (0, u "v2"), (0, .fieldref 7 26), (0, .nameAndType 27 18), (0, u "v3"), (0, .class_ 29), (0, u "com/example/fend/fend/puzzle/hashx/SipStateSetPinLaw"), (2, u "law"), (0, u "(JJJJJJ)Z")] 3

def k1m0 : Method := { name := "<init>", desc := "()V", sig := { parameters := [], returnType := none }, accessFlags := 1, code := none }
def k1c1 : Code := { maxStack := 12, maxLocals := 17, code := code, exceptionTable := #[], attributes := #[] }
def k1m1 : Method := { name := "law", desc := "(JJJJJJ)Z", sig := { parameters := [.long, .long, .long, .long, .long, .long], returnType := some .boolean }, accessFlags := 9, code := some k1c1 }
/-- com/example/fend/fend/puzzle/hashx/SipStateSetPinLaw -/
def k1 : Class := { plain "com/example/fend/fend/puzzle/hashx/SipStateSetPinLaw" (some 0) with
  accessFlags := 49
  interfaces := #[]
  cf := some (fileOf pool1 28 #[] #[{ accessFlags := 1, nameIndex := 5, descriptorIndex := 6, attributes := #[] }, { accessFlags := 9, nameIndex := 32, descriptorIndex := 33, attributes := #[] }] 49 2 #[] #[])
  fields := #[]
  methods := #[k1m0, k1m1]
  instanceTypes := #[]
  staticTypes := #[]
  resolved := Array.replicate 37 none
  statics := none }

def pool2 : Array CpInfo := pool [(1, .methodref 2 3), (0, .class_ 4), (0, .nameAndType 5 6), (0, u "java/lang/Object"), (0, u "<init>"), (0, u "()V"), (0, .fieldref 8 9), (0, .class_ 10), (0, .nameAndType 11 12), (0, u "com/example/fend/fend/puzzle/hashx/SipState"), (0, u "v0"), (0, u "J"), (0, .fieldref 8 14), (0, .nameAndType 15 12), (0, u "v1"), (0, .fieldref 8 17), (0, .nameAndType 18 12), (0, u "v2"), (0, .fieldref 8 20), (0, .nameAndType 21 12), (0, u "v3"), (2, u "(JJJJ)V"), (6, u "ROTATE_V1"), (0, u "I"), (2, u "ROTATE_V3"), (1, u "ROTATE_V0"), (1, u "ROTATE_V1_AGAIN"), (1, u "ROTATE_V3_AGAIN"), (1, u "ROTATE_V2"), (4, u "set")] 6

def k2c0 : Code := { maxStack := 3, maxLocals := 9, code := prog_35_method_1_code, exceptionTable := #[], attributes := #[] }
def k2m0 : Method := { name := "<init>", desc := "(JJJJ)V", sig := { parameters := [.long, .long, .long, .long], returnType := none }, accessFlags := 0, code := some k2c0 }
def k2c1 : Code := { maxStack := 3, maxLocals := 9, code := prog_35_method_3_code, exceptionTable := #[], attributes := #[] }
def k2m1 : Method := { name := "set", desc := "(JJJJ)V", sig := { parameters := [.long, .long, .long, .long], returnType := none }, accessFlags := 0, code := some k2c1 }
/-- com/example/fend/fend/puzzle/hashx/SipState -/
def k2 : Class := { plain "com/example/fend/fend/puzzle/hashx/SipState" (some 0) with
  accessFlags := 48
  interfaces := #[]
  cf := some (fileOf pool2 8 #[] #[{ accessFlags := 0, nameIndex := 5, descriptorIndex := 24, attributes := #[] }, { accessFlags := 0, nameIndex := 48, descriptorIndex := 24, attributes := #[] }] 48 2 #[] #[{ accessFlags := 26, nameIndex := 31, descriptorIndex := 32, attributes := #[] }, { accessFlags := 26, nameIndex := 35, descriptorIndex := 32, attributes := #[] }, { accessFlags := 26, nameIndex := 37, descriptorIndex := 32, attributes := #[] }, { accessFlags := 26, nameIndex := 39, descriptorIndex := 32, attributes := #[] }, { accessFlags := 26, nameIndex := 41, descriptorIndex := 32, attributes := #[] }, { accessFlags := 26, nameIndex := 43, descriptorIndex := 32, attributes := #[] }, { accessFlags := 0, nameIndex := 11, descriptorIndex := 12, attributes := #[] }, { accessFlags := 0, nameIndex := 15, descriptorIndex := 12, attributes := #[] }, { accessFlags := 0, nameIndex := 18, descriptorIndex := 12, attributes := #[] }, { accessFlags := 0, nameIndex := 21, descriptorIndex := 12, attributes := #[] }])
  fields := #[{ name := "ROTATE_V1", type := .int, accessFlags := 26, slot := 0, constantValue := 0 }, { name := "ROTATE_V3", type := .int, accessFlags := 26, slot := 1, constantValue := 0 }, { name := "ROTATE_V0", type := .int, accessFlags := 26, slot := 2, constantValue := 0 }, { name := "ROTATE_V1_AGAIN", type := .int, accessFlags := 26, slot := 3, constantValue := 0 }, { name := "ROTATE_V3_AGAIN", type := .int, accessFlags := 26, slot := 4, constantValue := 0 }, { name := "ROTATE_V2", type := .int, accessFlags := 26, slot := 5, constantValue := 0 }, { name := "v0", type := .long, accessFlags := 0, slot := 0, constantValue := 0 }, { name := "v1", type := .long, accessFlags := 0, slot := 1, constantValue := 0 }, { name := "v2", type := .long, accessFlags := 0, slot := 2, constantValue := 0 }, { name := "v3", type := .long, accessFlags := 0, slot := 3, constantValue := 0 }]
  methods := #[k2m0, k2m1]
  instanceTypes := #[.long, .long, .long, .long]
  staticTypes := #[.int, .int, .int, .int, .int, .int]
  resolved := Array.replicate 55 none
  statics := none }

def pool3 : Array CpInfo := pool [(1, u "java/lang/Cloneable"), (0, .class_ 1), (0, u "java/lang/Object"), (0, .class_ 3)] 3

/-- java/lang/Cloneable -/
def k3 : Class := { plain "java/lang/Cloneable" (some 0) with
  accessFlags := 1537
  interfaces := #[]
  cf := some (fileOf pool3 2 #[] #[] 1537 4 #[] #[])
  fields := #[]
  methods := #[]
  instanceTypes := #[]
  staticTypes := #[]
  resolved := Array.replicate 8 none
  statics := none }

def pool4 : Array CpInfo := pool [(1, u "java/io/Serializable"), (0, .class_ 1), (0, u "java/lang/Object"), (0, .class_ 3)] 3

/-- java/io/Serializable -/
def k4 : Class := { plain "java/io/Serializable" (some 0) with
  accessFlags := 1537
  interfaces := #[]
  cf := some (fileOf pool4 2 #[] #[] 1537 4 #[] #[])
  fields := #[]
  methods := #[]
  instanceTypes := #[]
  staticTypes := #[]
  resolved := Array.replicate 8 none
  statics := none }

/-- the primitive byte -/
def k5 : Class := { plain "byte" none with kind := .primitive 'B', accessFlags := 0x411 }
/-- [B -/
def k6 : Class := { plain "[B" (some 0) with kind := .array 5 .byte, interfaces := #[3, 4], accessFlags := 1041 }

def heap : Heap := #[]
def classes : Array Class := #[k0, k1, k2, k3, k4, k5, k6]
def interned : List (Array UInt16 × Addr) := []
def slotsUsed : Nat := 0
def theMethod : MethodId := ⟨1, 1⟩
def args0 : Array Value := #[.long 4, .long 5, .long 6, .long 7, .long 8, .long 9]
def aboutOver (below : List Frame) : State where
  vm := { classes := classes, interned := interned.toArray }
  heap := heap
  slotsUsed := slotsUsed
  threads := #[{ frames := .invoking theMethod args0 :: below }]
def below0 : List Frame := [.native { method := ⟨0, 0⟩, args := #[] }]
def about1 : State := aboutOver below0
def p0 : Program := .bare "" "" ""
def e0 : Env := launch0.env 0 0 0
theorem w_frames : about1.frames = Frame.invoking theMethod args0 :: below0 := rfl
set_option maxRecDepth 65536 in
theorem w_args : argsFit about1.vm theMethod args0 = true := by decide +kernel
set_option maxRecDepth 65536 in
theorem w_heap : heapFits about1 = true := by decide +kernel
set_option maxRecDepth 65536 in
theorem w_runnable : about1.curStatus? = some .runnable := by decide +kernel
set_option maxRecDepth 65536 in
theorem w_alone : about1.alone = true := by decide +kernel
set_option maxRecDepth 65536 in
theorem w_named : about1.methodNamed? x = some theMethod := by decide +kernel
set_option maxRecDepth 65536 in
theorem w_hears : about1.hears theMethod below0 = true := by decide +kernel
set_option maxRecDepth 65536 in
theorem w_ripe : about1.ripe theMethod args0 below0 = true := by decide +kernel
theorem w_running : about1.status = .running := rfl
set_option maxRecDepth 65536 in
theorem w_room : about1.hasRoom e0.platform room_1 = true :=
  launch0.hasRoom_least _ room_1 (by decide +kernel) (by decide +kernel) (by decide +kernel) (by decide +kernel) (by decide +kernel) (by decide +kernel)
theorem allAtoms_all (ts : List Jvm.Cond) (a : Array Jvm.Value) (st : Jvm.State) : (allAtoms ts).before a st = ts.all (fun c => c.before a st) := by
  induction ts with
  | nil => rfl
  | cons c t ih =>
    show (Jvm.Cond.and c (allAtoms t)).before a st = _
    rw [Jvm.Cond.before_and, ih, List.all_cons]
def words1 : List Jvm.Cond := Jvm.Cond.code x code maxLocals ret :: tables_1
/-- a 'code' word, met by the world's own term for the bytes: nothing is compared byte by byte -/
theorem code_word {y : MethodName} {bytes : ByteArray} {mx : Nat} {rt : Option FieldType} {a : Array Value} {s : State} {m : MethodId} {meth : Method} {c : Code} (h1 : s.methodNamed? y = some m) (h2 : s.vm.method? m = some meth) (h3 : meth.code = some c) (h4 : c.code = bytes)
    (h5 : (c.maxLocals == mx && c.exceptionTable.isEmpty && decide (c.maxStack ≤ mostOperands) && decide (meth.sig.returnType = rt) && !meth.locks && decide (parseMethodDescriptor y.desc = some meth.sig)) = true) : (Jvm.Cond.code y bytes mx rt).before a s = true := by
  simp only [Bool.and_eq_true, beq_iff_eq, Bool.not_eq_true', decide_eq_true_eq] at h5
  obtain ⟨⟨⟨⟨⟨g1, g2⟩, g3⟩, g4⟩, g5⟩, g6⟩ := h5
  simp [Cond.before, Cond.holds, Cond.value, h1, h2, h3, h4, g1, g2, g3, g4, g5, g6]
def isCode : Jvm.Cond → Bool
  | .code _ _ _ _ => true
  | _ => false
theorem all_split {L : List Jvm.Cond} {P : Jvm.Cond → Bool} (h1 : L.all (fun c => isCode c || P c) = true) (h2 : ∀ c ∈ L.filter isCode, P c = true) : L.all P = true := by
  refine List.all_eq_true.mpr fun c hc => ?_
  have h := List.all_eq_true.mp h1 c hc
  rcases Bool.eq_false_or_eq_true (isCode c) with hi | hi
  · exact h2 c (List.mem_filter.mpr ⟨hc, hi⟩)
  · simpa [hi] using h
set_option maxRecDepth 65536 in
theorem w_c0 : (Jvm.Cond.code x code maxLocals ret).before args0 about1 = true := code_word (m := ⟨1, 1⟩) (meth := k1m1) (c := k1c1) (by decide +kernel) rfl rfl rfl (by decide +kernel)
set_option maxRecDepth 65536 in
theorem w_c1 : (Jvm.Cond.code ({ cls := "com/example/fend/fend/puzzle/hashx/SipState", name := "<init>", desc := "(JJJJ)V" } : Jvm.MethodName) prog_35_method_1_code (9 : Nat) (Option.none : Option Jvm.ClassFile.FieldType)).before args0 about1 = true := code_word (m := ⟨2, 0⟩) (meth := k2m0) (c := k2c0) (by decide +kernel) rfl rfl rfl (by decide +kernel)
set_option maxRecDepth 65536 in
theorem w_c2 : (Jvm.Cond.code ({ cls := "java/lang/Object", name := "<init>", desc := "()V" } : Jvm.MethodName) object_method_1_code (1 : Nat) (Option.none : Option Jvm.ClassFile.FieldType)).before args0 about1 = true := code_word (m := ⟨0, 0⟩) (meth := k0m0) (c := k0c0) (by decide +kernel) rfl rfl rfl (by decide +kernel)
set_option maxRecDepth 65536 in
theorem w_c3 : (Jvm.Cond.code ({ cls := "com/example/fend/fend/puzzle/hashx/SipState", name := "set", desc := "(JJJJ)V" } : Jvm.MethodName) prog_35_method_3_code (9 : Nat) (Option.none : Option Jvm.ClassFile.FieldType)).before args0 about1 = true := code_word (m := ⟨2, 1⟩) (meth := k2m1) (c := k2c1) (by decide +kernel) rfl rfl rfl (by decide +kernel)
def codes1 : List Jvm.Cond := [Jvm.Cond.code x code maxLocals ret, Jvm.Cond.code ({ cls := "com/example/fend/fend/puzzle/hashx/SipState", name := "<init>", desc := "(JJJJ)V" } : Jvm.MethodName) prog_35_method_1_code (9 : Nat) (Option.none : Option Jvm.ClassFile.FieldType), Jvm.Cond.code ({ cls := "java/lang/Object", name := "<init>", desc := "()V" } : Jvm.MethodName) object_method_1_code (1 : Nat) (Option.none : Option Jvm.ClassFile.FieldType), Jvm.Cond.code ({ cls := "com/example/fend/fend/puzzle/hashx/SipState", name := "set", desc := "(JJJJ)V" } : Jvm.MethodName) prog_35_method_3_code (9 : Nat) (Option.none : Option Jvm.ClassFile.FieldType)]
set_option maxRecDepth 65536 in
theorem codes_eq : words1.filter isCode = codes1 := rfl
theorem w_codes : ∀ c ∈ words1.filter isCode, c.before args0 about1 = true := by
  rw [codes_eq]
  intro c hc
  simp only [codes1, List.mem_cons, List.not_mem_nil, or_false] at hc
  rcases hc with rfl | rfl | rfl | rfl
  · exact w_c0
  · exact w_c1
  · exact w_c2
  · exact w_c3
set_option maxRecDepth 65536 in
theorem w_t1 : (words1.take 24).all (fun c => isCode c || c.before args0 about1) = true := by decide +kernel
set_option maxRecDepth 65536 in
theorem w_t2 : (words1.drop 24).all (fun c => isCode c || c.before args0 about1) = true := by decide +kernel
theorem w_tables : (allAtoms (Jvm.Cond.code x code maxLocals ret :: tables_1)).before args0 about1 = true := by
  rw [allAtoms_all]
  show words1.all (fun c => c.before args0 about1) = true
  refine all_split ?_ w_codes
  rw [← List.take_append_drop 24 words1, List.all_append, w_t1, w_t2]
  rfl
set_option maxRecDepth 65536 in
theorem w_case : (Jvm.Cond.and given_1 narrow_1).before args0 about1 = true := by decide +kernel
theorem w_applies : (headSpec (Jvm.Cond.code x code maxLocals ret :: tables_1) room_1).applies x e0.platform about1 = true :=
  (Spec.applies_iff w_frames).mpr ⟨w_running, w_runnable, w_alone, w_named, w_hears, w_ripe, w_room, w_tables⟩
theorem atStart : AtStart classFile x code maxLocals ret World_1 tables_1 room_1 Calls_1 rest_1 Pre_1 launch0 p0 e0 about1 theMethod args0 below0 :=
  ⟨lists_1, trivial, launch0.admits_env _ _ _, launch0.least_env, fairChoices_fair.cas, fairChoices_fair.clock, w_frames, w_args, w_heap, w_applies, trivial, trivial, w_case⟩
end start1
theorem witness_1 : WitnessClaimed_1 := ⟨start1.p0, start1.e0, start1.about1, start1.theMethod, start1.args0, start1.below0, start1.atStart⟩
end Jvm.Pilot.@@N@@
