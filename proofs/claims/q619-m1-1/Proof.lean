import JvmDerived
import JvmDerived.Pilot.@@N@@Statement
import JvmDerived.Pilot.@@N@@Code
set_option linter.unusedVariables false
set_option linter.unusedSimpArgs false
namespace Jvm.Pilot.@@N@@
open Jvm Jvm.ClassFile Sem Op Lib Jvm.Free Jvm.Stand Jvm.LawKit Jvm.RoadKit Bundle Jvm.Pilot.@@N@@.Jvm.D
section OwnKit
variable {p : Program} {l : Launch} {e : Env} {R : Room} {s : State} {m : MethodId} {args : Array Value} {below : List Frame} {meth : Method} {c : Code} {T : State} {locs : List Loc} {cells slots : Nat}
theorem own_retI (X : Stand p l e R s m args below meth c T locs cells slots) (hx : p.tables.exec = Jvm.exec) {pc : Nat} {Ls : Array Slot} {z : Int32} {rest : List Value} (hret : meth.sig.returnType = some .int) (hd : decode c.code pc = .ok (.ireturn, 1)) {fs : List Frame}
    (hl : ∀ (f : JFrame) (acts : List Action), f.method = m → f.locked = none → f.entered = [] → (doReturn e (T.setTop f) acts (some (.int z))).1 = T.setFrames fs) : Steps p.tables e below (T.setTop (mkF m pc Ls (.int z :: rest))) (T.setFrames fs) :=
  retOut X hx hret rfl (Or.inl ⟨rfl, Or.inl rfl, z, rfl⟩) hd hl
theorem own_retL (X : Stand p l e R s m args below meth c T locs cells slots) (hx : p.tables.exec = Jvm.exec) {pc : Nat} {Ls : Array Slot} {z : Int64} {rest : List Value} (hret : meth.sig.returnType = some .long) (hd : decode c.code pc = .ok (.lreturn, 1)) {fs : List Frame}
    (hl : ∀ (f : JFrame) (acts : List Action), f.method = m → f.locked = none → f.entered = [] → (doReturn e (T.setTop f) acts (some (.long z))).1 = T.setFrames fs) : Steps p.tables e below (T.setTop (mkF m pc Ls (.long z :: rest))) (T.setFrames fs) :=
  retOut X hx hret rfl (Or.inr (Or.inl ⟨rfl, rfl, z, rfl⟩)) hd hl
theorem own_retA (X : Stand p l e R s m args below meth c T locs cells slots) (hx : p.tables.exec = Jvm.exec) {pc : Nat} {Ls : Array Slot} {t : FieldType} {v : Value} {rest : List Value} (hret : meth.sig.returnType = some t) (ht : t.isReference = true) (hv : v.isRef = true) (hn : narrow t v = v) (hd : decode c.code pc = .ok (.areturn, 1)) {fs : List Frame}
    (hl : ∀ (f : JFrame) (acts : List Action), f.method = m → f.locked = none → f.entered = [] → (doReturn e (T.setTop f) acts (some v)).1 = T.setFrames fs) : Steps p.tables e below (T.setTop (mkF m pc Ls (v :: rest))) (T.setFrames fs) :=
  retOut X hx hret hn (Or.inr (Or.inr (Or.inr (Or.inr ⟨rfl, ht, hv⟩)))) hd hl
theorem own_ns_exa {Z : State} {h : Heap} {a : Addr} {C : String} (F : Exa Z h a C) : ∃ c : Cell, h[a]? = some c ∧ c.vm.isStatics = false := by
  obtain ⟨c, _, h1, -, -, h4, -⟩ := F; exact ⟨c, h1, h4⟩
theorem own_ns_arv {Z : State} {h : Heap} {a : Addr} {k : ClassId} {ty : FieldType} {z : Int32} {vs : List Value} {dv : Value} (F : Arv Z h a k ty z vs dv) : ∃ c : Cell, h[a]? = some c ∧ c.vm.isStatics = false := by
  obtain ⟨c, A, -⟩ := F; exact ⟨c, A.1, A.plain⟩
theorem own_sta_keep {Z : State} {h h' : Heap} {C n d : String} {v : Value} {ws : List Addr} (F : Sta Z h C n d v) (K : Keep h h' ws) (q : ∀ x ∈ ws, ∃ c : Cell, h[x]? = some c ∧ c.vm.isStatics = false) : Sta Z h' C n d v := by
  obtain ⟨cf, i, k, f, st, cell, h1, h2, h3, h4, h5, h6, h7⟩ := F
  refine ⟨cf, i, k, f, st, cell, h1, h2, h3, h4, K.2.1 st cell h5 (fun m => ?_), h6, h7⟩
  obtain ⟨c, e1, e2⟩ := q st m; cases h5.symm.trans e1; rw [e2] at h6; cases h6
/-- from A the run ends, and then P -/
def OwnGo (tb : Tables) (e : Env) (below : List Frame) (P : Outcome → State → Prop) (A : State) : Prop := ∃ s₂ o, Steps tb e below A s₂ ∧ s₂.status = .running ∧ Ended s₂ below o ∧ P o s₂
theorem OwnGo.of {tb : Tables} {P : Outcome → State → Prop} {A B : State} (k : ∀ t, Steps tb e below B t → Steps tb e below A t) (g : OwnGo tb e below P B) : OwnGo tb e below P A := by
  obtain ⟨s2, o, h1, h2⟩ := g; exact ⟨s2, o, k _ h1, h2⟩
end OwnKit
theorem pn_0 : plainName "com/example/map_of_brokers/mapofbrokers/map/RefusalWarnings" = true := by first | (simp [plainName, overriddenIn]; done) | decide +kernel
theorem d1_0 : decode prog_28_method_1_code 0 = .ok (.aload_n 0, 1) := by decide +kernel
theorem d1_1 : decode prog_28_method_1_code 1 = .ok (.invokespecial 1, 3) := by decide +kernel
theorem d1_4 : decode prog_28_method_1_code 4 = .ok (.aload_n 0, 1) := by decide +kernel
theorem d1_5 : decode prog_28_method_1_code 5 = .ok (.ldc2_w 9, 3) := by decide +kernel
theorem d1_8 : decode prog_28_method_1_code 8 = .ok (.putfield 11, 3) := by decide +kernel
theorem d1_11 : decode prog_28_method_1_code 11 = .ok (.return_, 1) := by decide +kernel
theorem ef_rm1 (m : MethodId) (a0 : Addr) : entryFrame m #[(.ref a0)] 1 = mkF m 0 #[.val (.ref a0)] [] := by first | (simp [entryFrame, mkF, argsToLocals, Value.category]; done) | rfl
def Qrm1 (Z : State) (a0 : Addr) (h0 : Heap) (n0 : Nat) (v : Option Value) (h : Heap) (L : List Loc) : Prop := v = none ∧ Fr n0 L ∧ Keep h0 h [a0] ∧ Exa Z h a0 "com/example/map_of_brokers/mapofbrokers/map/RefusalWarnings" ∧ Fld Z h a0 "com/example/map_of_brokers/mapofbrokers/map/RefusalWarnings" "nextWarning" "J" (.long (-9223372036854775808 : Int64)) ∧ Fld Z h a0 "com/example/map_of_brokers/mapofbrokers/map/RefusalWarnings" "sinceWarning" "J" (.long (0 : Int64))
set_option maxRecDepth 65536 in
set_option maxHeartbeats 40000000 in
theorem rm1 (l : Launch) (Z : State) (aw : Array Value) (hw : ∀ d ∈ tables_1, d.before aw Z = true) (ws : List Jvm.Cond) (a0 : Addr) (h0 : Heap) (n0 : Nat) (Z0 : n0 ≤ h0.size) (E_a0 : Exa Z h0 a0 "com/example/map_of_brokers/mapofbrokers/map/RefusalWarnings") (F_a0_nextWarning : Fld Z h0 a0 "com/example/map_of_brokers/mapofbrokers/map/RefusalWarnings" "nextWarning" "J" (.long (0 : Int64))) (F_a0_sinceWarning : Fld Z h0 a0 "com/example/map_of_brokers/mapofbrokers/map/RefusalWarnings" "sinceWarning" "J" (.long (0 : Int64))) (g_a0 : n0 ≤ a0) :
    MetFree l (⟨"com/example/map_of_brokers/mapofbrokers/map/RefusalWarnings", "<init>", "()V"⟩ : MethodName) (head1 (Jvm.Cond.code (⟨"com/example/map_of_brokers/mapofbrokers/map/RefusalWarnings", "<init>", "()V"⟩ : MethodName) prog_28_method_1_code 1 none :: ws) ({ frames := 1, cells := 0, slots := 0, locals := 12 } : Room)) (fun a U => a = #[(.ref a0)] ∧ Z.Warmed39 U.vm ∧ U.heap = h0) (fun _ _ _ _ _ => True) (fun _ U o U' => ∃ v L, o = .returned v ∧ Qrm1 Z a0 h0 n0 v U'.heap L ∧ FrameEnd U o U' L ({ frames := 1, cells := 0, slots := 0, locals := 12 } : Room).cells ({ frames := 1, cells := 0, slots := 0, locals := 12 } : Room).slots) := by
  refine MetFree.of_bodySF (plainFor_of_name pn_0) hisR ?_
  intro p e s m args below meth c s₁ Bd hml0 hP hK
  obtain ⟨rfl, hZ, hh⟩ := hP
  have hx := Bd.exec
  have hby := Bd.bytes
  have hml : c.maxLocals = 1 := hml0
  have hown : s.vm.findClass "com/example/map_of_brokers/mapofbrokers/map/RefusalWarnings" = some m.cls := findClass_of_methodNamed Bd.named
  have hnm := (name_of_methodNamed Bd.named Bd.method).1
  have X0 : Stand p l e ({ frames := 1, cells := 0, slots := 0, locals := 12 } : Room) s m #[(.ref a0)] below meth c s₁ [] 0 0 := Stand.of_body Bd
  have e0 : s₁.heap = h0 := by rw [← hh, Bd.state]; rfl
  have N0 := Fr.nil n0
  have hlk := Bd.notSynchronized
  show OwnGo p.tables e below _ (s₁.setTop (entryFrame m #[(.ref a0)] 1))
  rw [ef_rm1 m a0]
  have K0 : Keep h0 h0 [a0] := Keep.refl _ _
  show OwnGo p.tables e below _ (s₁.setTop (mkF m 0 #[.val (.ref a0)] []))
  refine OwnGo.of (A := s₁.setTop (mkF m 0 #[.val (.ref a0)] [])) (B := s₁.setTop (mkF m 1 #[.val (.ref a0)] [(.ref a0)])) (fun t k => ?_) ?_
  · show Steps p.tables e below (s₁.setTop (mkF m 0 #[.val (.ref a0)] [])) t
    refine XS.aloadN X0.here hx rfl (hb hby d1_0) rfl rfl ?_
    exact k
  obtain ⟨T1, X1, e1, st1⟩ := initO X0 hx hZ hown (hw _ (List.mem_of_getElem? (i := 7) rfl)) (hw _ (List.mem_of_getElem? (i := 8) rfl)) (hw _ (List.mem_of_getElem? (i := 9) rfl)) e0 (g := (mkF m 1 #[.val (.ref a0)] [(.ref a0)])) rfl (by rw [hml]; rfl) rfl (hb hby d1_1) (by decide) (W := 0) (by show 2 * 0 + _ ≤ _; exact Nat.le_of_eq rfl) (by decide)
  refine OwnGo.of st1 ?_
  show OwnGo p.tables e below _ (T1.setTop (mkF m 4 #[.val (.ref a0)] []))
  refine OwnGo.of (A := T1.setTop (mkF m 4 #[.val (.ref a0)] [])) (B := T1.setTop (mkF m 8 #[.val (.ref a0)] [(.long (-9223372036854775808 : Int64)), (.ref a0)])) (fun t k => ?_) ?_
  · show Steps p.tables e below (T1.setTop (mkF m 4 #[.val (.ref a0)] [])) t
    refine XS.aloadN X1.here hx rfl (hb hby d1_4) rfl rfl ?_
    show Steps p.tables e below (T1.setTop (mkF m 5 #[.val (.ref a0)] [(.ref a0)])) t
    refine X1.ldc2Long hx hown (mvT hZ (hw _ (List.mem_of_getElem? (i := 10) rfl))) (g := (mkF m 5 #[.val (.ref a0)] [(.ref a0)])) rfl (hb hby d1_5) _ ?_
    exact k
  obtain ⟨T2, h2, X2, e2, W2, st2⟩ := putF X1 hx hZ hown (host := "") (Or.inl (hw _ (List.mem_of_getElem? (i := 11) rfl))) Via.refl e1 F_a0_nextWarning E_a0 (Or.inl (hw _ (List.mem_of_getElem? (i := 12) rfl))) (hw _ (List.mem_of_getElem? (i := 2) rfl)) (ty := .long) (by decide) rfl rfl (g := (mkF m 8 #[.val (.ref a0)] [(.long (-9223372036854775808 : Int64)), (.ref a0)])) rfl rfl (hb hby d1_8)
  refine OwnGo.of st2 ?_
  have N2 := Fr.snoc X2 N0 g_a0
  have f3 : n0 ≤ h2.size := Nat.le_trans Z0 (Keep.of_wr W2).1
  have f4 : Keep h0 h2 [a0] := K0.wr W2 (Or.inl (List.mem_of_getElem? (i := 0) rfl))
  have f5 : Exa Z h2 a0 "com/example/map_of_brokers/mapofbrokers/map/RefusalWarnings" := E_a0.wr W2
  have f6 : Fld Z h2 a0 "com/example/map_of_brokers/mapofbrokers/map/RefusalWarnings" "sinceWarning" "J" (.long (0 : Int64)) := F_a0_sinceWarning.other W2 (Or.inr (slot_ne (Or.inl (hw _ (List.mem_of_getElem? (i := 20) rfl))) (Or.inl (hw _ (List.mem_of_getElem? (i := 12) rfl))) (by decide) (t := .long) (t' := .long) (by decide) (by decide)))
  have f7 : Fld Z h2 a0 "com/example/map_of_brokers/mapofbrokers/map/RefusalWarnings" "nextWarning" "J" (.long (-9223372036854775808 : Int64)) := Fld.same W2 F_a0_nextWarning
  show OwnGo p.tables e below _ (T2.setTop (mkF m 11 #[.val (.ref a0)] []))
  obtain ⟨fs, hr, hrun, hended, hW, hsame⟩ := X2.leave (v := none) (fun _ => rfl) hlk
  refine ⟨_, _, ?_, hrun, hended, _, _, rfl, ?_, ⟨_, rfl⟩, hW, hsame.mono (by decide) (by decide)⟩
  · show Steps p.tables e below (T2.setTop (mkF m 11 #[.val (.ref a0)] [])) _
    exact X2.returnOut hx Bd.returns (hb hby d1_11) hr
  · show Qrm1 Z a0 h0 n0 _ (T2.setFrames fs).heap _
    rw [show (T2.setFrames fs).heap = h2 from e2]
    exact ⟨rfl, N2, f4, f5, f7, f6⟩

def own_rv (t u1 u2 : Int64) : Int64 := if lcmpW t u1 < (0 : Int32) then 0 else u2 + 1
def own_nx (t u1 : Int64) : Int64 := if lcmpW t u1 < (0 : Int32) then u1 else t + 60000
def own_si (t u1 u2 : Int64) : Int64 := if lcmpW t u1 < (0 : Int32) then u2 + 1 else 0
theorem d3_0 : decode prog_28_method_2_code 0 = .ok (.aload_n 0, 1) := by decide +kernel
theorem d3_1 : decode prog_28_method_2_code 1 = .ok (.dup, 1) := by decide +kernel
theorem d3_2 : decode prog_28_method_2_code 2 = .ok (.getfield 17, 3) := by decide +kernel
theorem d3_5 : decode prog_28_method_2_code 5 = .ok (.lconst 1, 1) := by decide +kernel
theorem d3_6 : decode prog_28_method_2_code 6 = .ok (.ladd, 1) := by decide +kernel
theorem d3_7 : decode prog_28_method_2_code 7 = .ok (.putfield 17, 3) := by decide +kernel
theorem d3_10 : decode prog_28_method_2_code 10 = .ok (.lconst 0, 1) := by decide +kernel
theorem d3_11 : decode prog_28_method_2_code 11 = .ok (.lstore_n 3, 1) := by decide +kernel
theorem d3_12 : decode prog_28_method_2_code 12 = .ok (.lload_n 1, 1) := by decide +kernel
theorem d3_13 : decode prog_28_method_2_code 13 = .ok (.aload_n 0, 1) := by decide +kernel
theorem d3_14 : decode prog_28_method_2_code 14 = .ok (.getfield 11, 3) := by decide +kernel
theorem d3_17 : decode prog_28_method_2_code 17 = .ok (.lcmp, 1) := by decide +kernel
theorem d3_18 : decode prog_28_method_2_code 18 = .ok (.ifCond .lt 22, 3) := by decide +kernel
theorem d3_21 : decode prog_28_method_2_code 21 = .ok (.aload_n 0, 1) := by decide +kernel
theorem d3_22 : decode prog_28_method_2_code 22 = .ok (.getfield 17, 3) := by decide +kernel
theorem d3_25 : decode prog_28_method_2_code 25 = .ok (.lstore_n 3, 1) := by decide +kernel
theorem d3_26 : decode prog_28_method_2_code 26 = .ok (.aload_n 0, 1) := by decide +kernel
theorem d3_27 : decode prog_28_method_2_code 27 = .ok (.lconst 0, 1) := by decide +kernel
theorem d3_28 : decode prog_28_method_2_code 28 = .ok (.putfield 17, 3) := by decide +kernel
theorem d3_31 : decode prog_28_method_2_code 31 = .ok (.aload_n 0, 1) := by decide +kernel
theorem d3_32 : decode prog_28_method_2_code 32 = .ok (.lload_n 1, 1) := by decide +kernel
theorem d3_33 : decode prog_28_method_2_code 33 = .ok (.getstatic 20, 3) := by decide +kernel
theorem d3_36 : decode prog_28_method_2_code 36 = .ok (.ladd, 1) := by decide +kernel
theorem d3_37 : decode prog_28_method_2_code 37 = .ok (.putfield 11, 3) := by decide +kernel
theorem d3_40 : decode prog_28_method_2_code 40 = .ok (.lload_n 3, 1) := by decide +kernel
theorem d3_41 : decode prog_28_method_2_code 41 = .ok (.lreturn, 1) := by decide +kernel
theorem ef_rm3 (m : MethodId) (a0 : Addr) (q1 : Int64) : entryFrame m #[(.ref a0), (.long q1)] 5 = mkF m 0 #[.val (.ref a0), .val (.long q1), .second, .unset, .unset] [] := by first | (simp [entryFrame, mkF, argsToLocals, Value.category]; done) | rfl
def Qrm3 (Z : State) (a0 : Addr) (q1 : Int64) (u1 : Int64) (u2 : Int64) (h0 : Heap) (n0 : Nat) (v : Option Value) (h : Heap) (L : List Loc) : Prop := v = some (.long (own_rv q1 u1 u2)) ∧ Fr n0 L ∧ Keep h0 h [a0] ∧ Exa Z h a0 "com/example/map_of_brokers/mapofbrokers/map/RefusalWarnings" ∧ Fld Z h a0 "com/example/map_of_brokers/mapofbrokers/map/RefusalWarnings" "nextWarning" "J" (.long (own_nx q1 u1)) ∧ Fld Z h a0 "com/example/map_of_brokers/mapofbrokers/map/RefusalWarnings" "sinceWarning" "J" (.long (own_si q1 u1 u2))
set_option maxRecDepth 65536 in
set_option maxHeartbeats 40000000 in
theorem rm3 (l : Launch) (Z : State) (aw : Array Value) (hw : ∀ d ∈ tables_1, d.before aw Z = true) (ws : List Jvm.Cond) (a0 : Addr) (q1 : Int64) (u1 : Int64) (u2 : Int64) (h0 : Heap) (n0 : Nat) (Z0 : n0 ≤ h0.size) (E_a0 : Exa Z h0 a0 "com/example/map_of_brokers/mapofbrokers/map/RefusalWarnings") (F_a0_nextWarning : Fld Z h0 a0 "com/example/map_of_brokers/mapofbrokers/map/RefusalWarnings" "nextWarning" "J" (.long u1)) (F_a0_sinceWarning : Fld Z h0 a0 "com/example/map_of_brokers/mapofbrokers/map/RefusalWarnings" "sinceWarning" "J" (.long u2)) (g_a0 : n0 ≤ a0) (S_EVERY_MILLIS : Sta Z h0 "com/example/map_of_brokers/mapofbrokers/map/RefusalWarnings" "EVERY_MILLIS" "J" (.long (60000 : Int64))) :
    MetFree l (⟨"com/example/map_of_brokers/mapofbrokers/map/RefusalWarnings", "refused", "(J)J"⟩ : MethodName) (head1 (Jvm.Cond.code (⟨"com/example/map_of_brokers/mapofbrokers/map/RefusalWarnings", "refused", "(J)J"⟩ : MethodName) prog_28_method_2_code 5 (some .long) :: ws) ({ frames := 0, cells := 0, slots := 0, locals := 0 } : Room)) (fun a U => a = #[(.ref a0), (.long q1)] ∧ Z.Warmed39 U.vm ∧ U.heap = h0) (fun _ _ _ _ _ => True) (fun _ U o U' => ∃ v L, o = .returned v ∧ Qrm3 Z a0 q1 u1 u2 h0 n0 v U'.heap L ∧ FrameEnd U o U' L ({ frames := 0, cells := 0, slots := 0, locals := 0 } : Room).cells ({ frames := 0, cells := 0, slots := 0, locals := 0 } : Room).slots) := by
  refine MetFree.of_bodySF (plainFor_of_name pn_0) hisR ?_
  intro p e s m args below meth c s₁ Bd hml0 hP hK
  obtain ⟨rfl, hZ, hh⟩ := hP
  have hx := Bd.exec
  have hby := Bd.bytes
  have hml : c.maxLocals = 5 := hml0
  have hown : s.vm.findClass "com/example/map_of_brokers/mapofbrokers/map/RefusalWarnings" = some m.cls := findClass_of_methodNamed Bd.named
  have hnm := (name_of_methodNamed Bd.named Bd.method).1
  have X0 : Stand p l e ({ frames := 0, cells := 0, slots := 0, locals := 0 } : Room) s m #[(.ref a0), (.long q1)] below meth c s₁ [] 0 0 := Stand.of_body Bd
  have e0 : s₁.heap = h0 := by rw [← hh, Bd.state]; rfl
  have N0 := Fr.nil n0
  have hlk := Bd.notSynchronized
  show OwnGo p.tables e below _ (s₁.setTop (entryFrame m #[(.ref a0), (.long q1)] 5))
  rw [ef_rm3 m a0 q1]
  have K0 : Keep h0 h0 [a0] := Keep.refl _ _
  show OwnGo p.tables e below _ (s₁.setTop (mkF m 0 #[.val (.ref a0), .val (.long q1), .second, .unset, .unset] []))
  refine OwnGo.of (A := s₁.setTop (mkF m 0 #[.val (.ref a0), .val (.long q1), .second, .unset, .unset] [])) (B := s₁.setTop (mkF m 2 #[.val (.ref a0), .val (.long q1), .second, .unset, .unset] [(.ref a0), (.ref a0)])) (fun t k => ?_) ?_
  · show Steps p.tables e below (s₁.setTop (mkF m 0 #[.val (.ref a0), .val (.long q1), .second, .unset, .unset] [])) t
    refine XS.aloadN X0.here hx rfl (hb hby d3_0) rfl rfl ?_
    show Steps p.tables e below (s₁.setTop (mkF m 1 #[.val (.ref a0), .val (.long q1), .second, .unset, .unset] [(.ref a0)])) t
    refine XS.dup X0.here hx rfl (hb hby d3_1) rfl rfl ?_
    exact k
  obtain ⟨T1, X1, e1, st1⟩ := getF X0 hx hZ hown (host := "") (Or.inl (hw _ (List.mem_of_getElem? (i := 19) rfl))) Via.refl e0 F_a0_sinceWarning (g := (mkF m 2 #[.val (.ref a0), .val (.long q1), .second, .unset, .unset] [(.ref a0), (.ref a0)])) rfl rfl (hb hby d3_2)
  refine OwnGo.of st1 ?_
  show OwnGo p.tables e below _ (T1.setTop (mkF m 5 #[.val (.ref a0), .val (.long q1), .second, .unset, .unset] [(.long u2), (.ref a0)]))
  refine OwnGo.of (A := T1.setTop (mkF m 5 #[.val (.ref a0), .val (.long q1), .second, .unset, .unset] [(.long u2), (.ref a0)])) (B := T1.setTop (mkF m 7 #[.val (.ref a0), .val (.long q1), .second, .unset, .unset] [(.long (u2 + (1 : Int64))), (.ref a0)])) (fun t k => ?_) ?_
  · show Steps p.tables e below (T1.setTop (mkF m 5 #[.val (.ref a0), .val (.long q1), .second, .unset, .unset] [(.long u2), (.ref a0)])) t
    refine XS.lconst X1.here hx rfl (hb hby d3_5) ?_
    show Steps p.tables e below (T1.setTop (mkF m 6 #[.val (.ref a0), .val (.long q1), .second, .unset, .unset] [(.long (1 : Int64)), (.long u2), (.ref a0)])) t
    refine XS.ladd X1.here hx rfl (hb hby d3_6) rfl ?_
    exact k
  obtain ⟨T2, h2, X2, e2, W2, st2⟩ := putF X1 hx hZ hown (host := "") (Or.inl (hw _ (List.mem_of_getElem? (i := 19) rfl))) Via.refl e1 F_a0_sinceWarning E_a0 (Or.inl (hw _ (List.mem_of_getElem? (i := 20) rfl))) (hw _ (List.mem_of_getElem? (i := 2) rfl)) (ty := .long) (by decide) rfl rfl (g := (mkF m 7 #[.val (.ref a0), .val (.long q1), .second, .unset, .unset] [(.long (u2 + (1 : Int64))), (.ref a0)])) rfl rfl (hb hby d3_7)
  refine OwnGo.of st2 ?_
  have N2 := Fr.snoc X2 N0 g_a0
  have f3 : n0 ≤ h2.size := Nat.le_trans Z0 (Keep.of_wr W2).1
  have f4 : Keep h0 h2 [a0] := K0.wr W2 (Or.inl (List.mem_of_getElem? (i := 0) rfl))
  have f5 : Exa Z h2 a0 "com/example/map_of_brokers/mapofbrokers/map/RefusalWarnings" := E_a0.wr W2
  have f6 : Fld Z h2 a0 "com/example/map_of_brokers/mapofbrokers/map/RefusalWarnings" "nextWarning" "J" (.long u1) := F_a0_nextWarning.other W2 (Or.inr (slot_ne (Or.inl (hw _ (List.mem_of_getElem? (i := 12) rfl))) (Or.inl (hw _ (List.mem_of_getElem? (i := 20) rfl))) (by decide) (t := .long) (t' := .long) (by decide) (by decide)))
  have f7 : Sta Z h2 "com/example/map_of_brokers/mapofbrokers/map/RefusalWarnings" "EVERY_MILLIS" "J" (.long (60000 : Int64)) := S_EVERY_MILLIS.wr W2
  have f8 : Fld Z h2 a0 "com/example/map_of_brokers/mapofbrokers/map/RefusalWarnings" "sinceWarning" "J" (.long (u2 + (1 : Int64))) := Fld.same W2 F_a0_sinceWarning
  show OwnGo p.tables e below _ (T2.setTop (mkF m 10 #[.val (.ref a0), .val (.long q1), .second, .unset, .unset] []))
  refine OwnGo.of (A := T2.setTop (mkF m 10 #[.val (.ref a0), .val (.long q1), .second, .unset, .unset] [])) (B := T2.setTop (mkF m 14 #[.val (.ref a0), .val (.long q1), .second, .val (.long (0 : Int64)), .second] [(.ref a0), (.long q1)])) (fun t k => ?_) ?_
  · show Steps p.tables e below (T2.setTop (mkF m 10 #[.val (.ref a0), .val (.long q1), .second, .unset, .unset] [])) t
    refine XS.lconst X2.here hx rfl (hb hby d3_10) ?_
    show Steps p.tables e below (T2.setTop (mkF m 11 #[.val (.ref a0), .val (.long q1), .second, .unset, .unset] [(.long (0 : Int64))])) t
    refine XS.lstoreN X2.here hx rfl (hb hby d3_11) rfl (l' := #[.val (.ref a0), .val (.long q1), .second, .val (.long (0 : Int64)), .second]) rfl ?_
    show Steps p.tables e below (T2.setTop (mkF m 12 #[.val (.ref a0), .val (.long q1), .second, .val (.long (0 : Int64)), .second] [])) t
    refine XS.lloadN X2.here hx rfl (hb hby d3_12) rfl ?_
    show Steps p.tables e below (T2.setTop (mkF m 13 #[.val (.ref a0), .val (.long q1), .second, .val (.long (0 : Int64)), .second] [(.long q1)])) t
    refine XS.aloadN X2.here hx rfl (hb hby d3_13) rfl rfl ?_
    exact k
  obtain ⟨T9, X9, e9, st9⟩ := getF X2 hx hZ hown (host := "") (Or.inl (hw _ (List.mem_of_getElem? (i := 11) rfl))) Via.refl e2 f6 (g := (mkF m 14 #[.val (.ref a0), .val (.long q1), .second, .val (.long (0 : Int64)), .second] [(.ref a0), (.long q1)])) rfl rfl (hb hby d3_14)
  refine OwnGo.of st9 ?_
  show OwnGo p.tables e below _ (T9.setTop (mkF m 17 #[.val (.ref a0), .val (.long q1), .second, .val (.long (0 : Int64)), .second] [(.long u1), (.long q1)]))
  refine OwnGo.of (A := T9.setTop (mkF m 17 #[.val (.ref a0), .val (.long q1), .second, .val (.long (0 : Int64)), .second] [(.long u1), (.long q1)])) (B := T9.setTop (mkF m 18 #[.val (.ref a0), .val (.long q1), .second, .val (.long (0 : Int64)), .second] [(.int (lcmpW q1 u1))])) (fun t k => ?_) ?_
  · show Steps p.tables e below (T9.setTop (mkF m 17 #[.val (.ref a0), .val (.long q1), .second, .val (.long (0 : Int64)), .second] [(.long u1), (.long q1)])) t
    refine XS.lcmp X9.here hx rfl (hb hby d3_17) rfl ?_
    exact k
  by_cases hc10 : (lcmpW q1 u1) < (0 : Int32)
  · refine OwnGo.of (A := T9.setTop (mkF m 18 #[.val (.ref a0), .val (.long q1), .second, .val (.long (0 : Int64)), .second] [(.int (lcmpW q1 u1))])) (B := T9.setTop (mkF m 41 #[.val (.ref a0), .val (.long q1), .second, .val (.long (0 : Int64)), .second] [(.long (0 : Int64))])) (fun t k => ?_) ?_
    · show Steps p.tables e below (T9.setTop (mkF m 18 #[.val (.ref a0), .val (.long q1), .second, .val (.long (0 : Int64)), .second] [(.int (lcmpW q1 u1))])) t
      refine XS.ifYes X9.here hx rfl (pc0 := 18) (pc' := 40) rfl (hb hby d3_18) rfl ((if0 _ _).trans (tlt hc10).1) (by decide) (by decide) ?_
      show Steps p.tables e below (T9.setTop (mkF m 40 #[.val (.ref a0), .val (.long q1), .second, .val (.long (0 : Int64)), .second] [])) t
      refine XS.lloadN X9.here hx rfl (hb hby d3_40) rfl ?_
      exact k
    obtain ⟨fs, hr, hrun, hended, hW, hsame⟩ := X9.leave (v := some (.long (0 : Int64))) (fun h => by rw [Bd.returns] at h; cases h) hlk
    refine ⟨_, _, ?_, hrun, hended, _, _, rfl, ?_, ⟨_, rfl⟩, hW, hsame.mono (by decide) (by decide)⟩
    · show Steps p.tables e below (T9.setTop (mkF m 41 #[.val (.ref a0), .val (.long q1), .second, .val (.long (0 : Int64)), .second] [(.long (0 : Int64))])) _
      exact own_retL X9 hx Bd.returns (hb hby d3_41) hr
    · show Qrm3 Z a0 q1 u1 u2 h0 n0 _ (T9.setFrames fs).heap _
      rw [show (T9.setFrames fs).heap = h2 from e9]
      refine ⟨?_, N2, f4, f5, ?_, ?_⟩
      · rw [own_rv, if_pos hc10]
      · rw [own_nx, if_pos hc10]; exact f6
      · rw [own_si, if_pos hc10]; exact f8
  · refine OwnGo.of (A := T9.setTop (mkF m 18 #[.val (.ref a0), .val (.long q1), .second, .val (.long (0 : Int64)), .second] [(.int (lcmpW q1 u1))])) (B := T9.setTop (mkF m 22 #[.val (.ref a0), .val (.long q1), .second, .val (.long (0 : Int64)), .second] [(.ref a0)])) (fun t k => ?_) ?_
    · show Steps p.tables e below (T9.setTop (mkF m 18 #[.val (.ref a0), .val (.long q1), .second, .val (.long (0 : Int64)), .second] [(.int (lcmpW q1 u1))])) t
      refine XS.ifNo X9.here hx rfl (hb hby d3_18) rfl ((if0 _ _).trans (flt hc10).1) ?_
      show Steps p.tables e below (T9.setTop (mkF m 21 #[.val (.ref a0), .val (.long q1), .second, .val (.long (0 : Int64)), .second] [])) t
      refine XS.aloadN X9.here hx rfl (hb hby d3_21) rfl rfl ?_
      exact k
    obtain ⟨T12, X12, e12, st12⟩ := getF X9 hx hZ hown (host := "") (Or.inl (hw _ (List.mem_of_getElem? (i := 19) rfl))) Via.refl e9 f8 (g := (mkF m 22 #[.val (.ref a0), .val (.long q1), .second, .val (.long (0 : Int64)), .second] [(.ref a0)])) rfl rfl (hb hby d3_22)
    refine OwnGo.of st12 ?_
    show OwnGo p.tables e below _ (T12.setTop (mkF m 25 #[.val (.ref a0), .val (.long q1), .second, .val (.long (0 : Int64)), .second] [(.long (u2 + (1 : Int64)))]))
    refine OwnGo.of (A := T12.setTop (mkF m 25 #[.val (.ref a0), .val (.long q1), .second, .val (.long (0 : Int64)), .second] [(.long (u2 + (1 : Int64)))])) (B := T12.setTop (mkF m 28 #[.val (.ref a0), .val (.long q1), .second, .val (.long (u2 + (1 : Int64))), .second] [(.long (0 : Int64)), (.ref a0)])) (fun t k => ?_) ?_
    · show Steps p.tables e below (T12.setTop (mkF m 25 #[.val (.ref a0), .val (.long q1), .second, .val (.long (0 : Int64)), .second] [(.long (u2 + (1 : Int64)))])) t
      refine XS.lstoreN X12.here hx rfl (hb hby d3_25) rfl (l' := #[.val (.ref a0), .val (.long q1), .second, .val (.long (u2 + (1 : Int64))), .second]) rfl ?_
      show Steps p.tables e below (T12.setTop (mkF m 26 #[.val (.ref a0), .val (.long q1), .second, .val (.long (u2 + (1 : Int64))), .second] [])) t
      refine XS.aloadN X12.here hx rfl (hb hby d3_26) rfl rfl ?_
      show Steps p.tables e below (T12.setTop (mkF m 27 #[.val (.ref a0), .val (.long q1), .second, .val (.long (u2 + (1 : Int64))), .second] [(.ref a0)])) t
      refine XS.lconst X12.here hx rfl (hb hby d3_27) ?_
      exact k
    obtain ⟨T13, h13, X13, e13, W13, st13⟩ := putF X12 hx hZ hown (host := "") (Or.inl (hw _ (List.mem_of_getElem? (i := 19) rfl))) Via.refl e12 f8 f5 (Or.inl (hw _ (List.mem_of_getElem? (i := 20) rfl))) (hw _ (List.mem_of_getElem? (i := 2) rfl)) (ty := .long) (by decide) rfl rfl (g := (mkF m 28 #[.val (.ref a0), .val (.long q1), .second, .val (.long (u2 + (1 : Int64))), .second] [(.long (0 : Int64)), (.ref a0)])) rfl rfl (hb hby d3_28)
    refine OwnGo.of st13 ?_
    have N13 := Fr.snoc X13 N2 g_a0
    have f14 : n0 ≤ h13.size := Nat.le_trans f3 (Keep.of_wr W13).1
    have f15 : Keep h0 h13 [a0] := f4.wr W13 (Or.inl (List.mem_of_getElem? (i := 0) rfl))
    have f16 : Exa Z h13 a0 "com/example/map_of_brokers/mapofbrokers/map/RefusalWarnings" := f5.wr W13
    have f17 : Fld Z h13 a0 "com/example/map_of_brokers/mapofbrokers/map/RefusalWarnings" "nextWarning" "J" (.long u1) := f6.other W13 (Or.inr (slot_ne (Or.inl (hw _ (List.mem_of_getElem? (i := 12) rfl))) (Or.inl (hw _ (List.mem_of_getElem? (i := 20) rfl))) (by decide) (t := .long) (t' := .long) (by decide) (by decide)))
    have f18 : Sta Z h13 "com/example/map_of_brokers/mapofbrokers/map/RefusalWarnings" "EVERY_MILLIS" "J" (.long (60000 : Int64)) := f7.wr W13
    have f19 : Fld Z h13 a0 "com/example/map_of_brokers/mapofbrokers/map/RefusalWarnings" "sinceWarning" "J" (.long (0 : Int64)) := Fld.same W13 f8
    show OwnGo p.tables e below _ (T13.setTop (mkF m 31 #[.val (.ref a0), .val (.long q1), .second, .val (.long (u2 + (1 : Int64))), .second] []))
    refine OwnGo.of (A := T13.setTop (mkF m 31 #[.val (.ref a0), .val (.long q1), .second, .val (.long (u2 + (1 : Int64))), .second] [])) (B := T13.setTop (mkF m 33 #[.val (.ref a0), .val (.long q1), .second, .val (.long (u2 + (1 : Int64))), .second] [(.long q1), (.ref a0)])) (fun t k => ?_) ?_
    · show Steps p.tables e below (T13.setTop (mkF m 31 #[.val (.ref a0), .val (.long q1), .second, .val (.long (u2 + (1 : Int64))), .second] [])) t
      refine XS.aloadN X13.here hx rfl (hb hby d3_31) rfl rfl ?_
      show Steps p.tables e below (T13.setTop (mkF m 32 #[.val (.ref a0), .val (.long q1), .second, .val (.long (u2 + (1 : Int64))), .second] [(.ref a0)])) t
      refine XS.lloadN X13.here hx rfl (hb hby d3_32) rfl ?_
      exact k
    obtain ⟨T20, X20, e20, st20⟩ := getS2 X13 hx hZ hown (host := "") (Or.inl (hw _ (List.mem_of_getElem? (i := 21) rfl))) Via.refl e13 f18 (g := (mkF m 33 #[.val (.ref a0), .val (.long q1), .second, .val (.long (u2 + (1 : Int64))), .second] [(.long q1), (.ref a0)])) rfl (hb hby d3_33)
    refine OwnGo.of st20 ?_
    show OwnGo p.tables e below _ (T20.setTop (mkF m 36 #[.val (.ref a0), .val (.long q1), .second, .val (.long (u2 + (1 : Int64))), .second] [(.long (60000 : Int64)), (.long q1), (.ref a0)]))
    refine OwnGo.of (A := T20.setTop (mkF m 36 #[.val (.ref a0), .val (.long q1), .second, .val (.long (u2 + (1 : Int64))), .second] [(.long (60000 : Int64)), (.long q1), (.ref a0)])) (B := T20.setTop (mkF m 37 #[.val (.ref a0), .val (.long q1), .second, .val (.long (u2 + (1 : Int64))), .second] [(.long (q1 + (60000 : Int64))), (.ref a0)])) (fun t k => ?_) ?_
    · show Steps p.tables e below (T20.setTop (mkF m 36 #[.val (.ref a0), .val (.long q1), .second, .val (.long (u2 + (1 : Int64))), .second] [(.long (60000 : Int64)), (.long q1), (.ref a0)])) t
      refine XS.ladd X20.here hx rfl (hb hby d3_36) rfl ?_
      exact k
    obtain ⟨T21, h21, X21, e21, W21, st21⟩ := putF X20 hx hZ hown (host := "") (Or.inl (hw _ (List.mem_of_getElem? (i := 11) rfl))) Via.refl e20 f17 f16 (Or.inl (hw _ (List.mem_of_getElem? (i := 12) rfl))) (hw _ (List.mem_of_getElem? (i := 2) rfl)) (ty := .long) (by decide) rfl rfl (g := (mkF m 37 #[.val (.ref a0), .val (.long q1), .second, .val (.long (u2 + (1 : Int64))), .second] [(.long (q1 + (60000 : Int64))), (.ref a0)])) rfl rfl (hb hby d3_37)
    refine OwnGo.of st21 ?_
    have N21 := Fr.snoc X21 N13 g_a0
    have f22 : n0 ≤ h21.size := Nat.le_trans f14 (Keep.of_wr W21).1
    have f23 : Keep h0 h21 [a0] := f15.wr W21 (Or.inl (List.mem_of_getElem? (i := 0) rfl))
    have f24 : Exa Z h21 a0 "com/example/map_of_brokers/mapofbrokers/map/RefusalWarnings" := f16.wr W21
    have f25 : Sta Z h21 "com/example/map_of_brokers/mapofbrokers/map/RefusalWarnings" "EVERY_MILLIS" "J" (.long (60000 : Int64)) := f18.wr W21
    have f26 : Fld Z h21 a0 "com/example/map_of_brokers/mapofbrokers/map/RefusalWarnings" "sinceWarning" "J" (.long (0 : Int64)) := f19.other W21 (Or.inr (slot_ne (Or.inl (hw _ (List.mem_of_getElem? (i := 20) rfl))) (Or.inl (hw _ (List.mem_of_getElem? (i := 12) rfl))) (by decide) (t := .long) (t' := .long) (by decide) (by decide)))
    have f27 : Fld Z h21 a0 "com/example/map_of_brokers/mapofbrokers/map/RefusalWarnings" "nextWarning" "J" (.long (q1 + (60000 : Int64))) := Fld.same W21 f17
    show OwnGo p.tables e below _ (T21.setTop (mkF m 40 #[.val (.ref a0), .val (.long q1), .second, .val (.long (u2 + (1 : Int64))), .second] []))
    refine OwnGo.of (A := T21.setTop (mkF m 40 #[.val (.ref a0), .val (.long q1), .second, .val (.long (u2 + (1 : Int64))), .second] [])) (B := T21.setTop (mkF m 41 #[.val (.ref a0), .val (.long q1), .second, .val (.long (u2 + (1 : Int64))), .second] [(.long (u2 + (1 : Int64)))])) (fun t k => ?_) ?_
    · show Steps p.tables e below (T21.setTop (mkF m 40 #[.val (.ref a0), .val (.long q1), .second, .val (.long (u2 + (1 : Int64))), .second] [])) t
      refine XS.lloadN X21.here hx rfl (hb hby d3_40) rfl ?_
      exact k
    obtain ⟨fs, hr, hrun, hended, hW, hsame⟩ := X21.leave (v := some (.long (u2 + (1 : Int64)))) (fun h => by rw [Bd.returns] at h; cases h) hlk
    refine ⟨_, _, ?_, hrun, hended, _, _, rfl, ?_, ⟨_, rfl⟩, hW, hsame.mono (by decide) (by decide)⟩
    · show Steps p.tables e below (T21.setTop (mkF m 41 #[.val (.ref a0), .val (.long q1), .second, .val (.long (u2 + (1 : Int64))), .second] [(.long (u2 + (1 : Int64)))])) _
      exact own_retL X21 hx Bd.returns (hb hby d3_41) hr
    · show Qrm3 Z a0 q1 u1 u2 h0 n0 _ (T21.setFrames fs).heap _
      rw [show (T21.setFrames fs).heap = h21 from e21]
      refine ⟨?_, N21, f23, f24, ?_, ?_⟩
      · rw [own_rv, if_neg hc10]
      · rw [own_nx, if_neg hc10]; exact f27
      · rw [own_si, if_neg hc10]; exact f26

def own_b (t b : Int64) : Int64 := if lcmpW (t - b) (60000 : Int64) < (0 : Int32) then b else t
def own_c (t b c : Int64) : Int64 := if lcmpW (t - b) (60000 : Int64) < (0 : Int32) then c + 1 else 0
def OwnOk (t b : Int64) : Prop := b.toInt ≤ t.toInt ∧ t.toInt ≤ b.toInt + 1000000 ∧ -2000000000000000000 ≤ b.toInt ∧ b.toInt ≤ 2000000000000000000
theorem own_60k : (60000 : Int64).toInt = 60000 := by decide
theorem own_cmp {t b : Int64} (h : OwnOk t b) : lcmpW t (b + 60000) < (0 : Int32) ↔ lcmpW (t - b) (60000 : Int64) < (0 : Int32) := by
  obtain ⟨h1, h2, h3, h4⟩ := h
  rw [lw_lt, lw_lt, Int64.lt_iff_toInt_lt, Int64.lt_iff_toInt_lt, own_60k]
  have a1 := c_ladd b 60000
  have a2 := c_lsub t b
  have r1 := rng64 (b + 60000)
  have r2 := rng64 (t - b)
  rw [own_60k] at a1
  omega
theorem own_rv_eq {t b c : Int64} (h : OwnOk t b) : own_rv t (b + 60000) c = if lcmpW (t - b) (60000 : Int64) < (0 : Int32) then 0 else c + 1 := by
  unfold own_rv; simp only [own_cmp h]
theorem own_nx_eq {t b : Int64} (h : OwnOk t b) : own_nx t (b + 60000) = own_b t b + 60000 := by
  unfold own_nx own_b; simp only [own_cmp h]; split <;> rfl
theorem own_si_eq {t b c : Int64} (h : OwnOk t b) : own_si t (b + 60000) c = own_c t b c := by
  unfold own_si own_c; simp only [own_cmp h]
theorem pd_1 : parseMethodDescriptor "(J)J" = some ⟨[.long], some .long⟩ := by decide +kernel
theorem pn_2 : plainName "com/example/map_of_brokers/mapofbrokers/map/RefusalWarningsRefusedPinLaw" = true := by first | (simp [plainName, overriddenIn]; done) | decide +kernel
theorem d4_0 : decode method_3_code 0 = .ok (.aload_n 0, 1) := by decide +kernel
theorem d4_1 : decode method_3_code 1 = .ok (.lload_n 2, 1) := by decide +kernel
theorem d4_2 : decode method_3_code 2 = .ok (.invokevirtual 11, 3) := by decide +kernel
theorem d4_5 : decode method_3_code 5 = .ok (.lstore 4, 2) := by decide +kernel
theorem d4_7 : decode method_3_code 7 = .ok (.lload_n 2, 1) := by decide +kernel
theorem d4_8 : decode method_3_code 8 = .ok (.aload_n 1, 1) := by decide +kernel
theorem d4_9 : decode method_3_code 9 = .ok (.iconst 0, 1) := by decide +kernel
theorem d4_10 : decode method_3_code 10 = .ok (.laload, 1) := by decide +kernel
theorem d4_11 : decode method_3_code 11 = .ok (.lsub, 1) := by decide +kernel
theorem d4_12 : decode method_3_code 12 = .ok (.ldc2_w 21, 3) := by decide +kernel
theorem d4_15 : decode method_3_code 15 = .ok (.lcmp, 1) := by decide +kernel
theorem d4_16 : decode method_3_code 16 = .ok (.ifCond .lt 21, 3) := by decide +kernel
theorem d4_19 : decode method_3_code 19 = .ok (.aload_n 1, 1) := by decide +kernel
theorem d4_20 : decode method_3_code 20 = .ok (.iconst 1, 1) := by decide +kernel
theorem d4_21 : decode method_3_code 21 = .ok (.laload, 1) := by decide +kernel
theorem d4_22 : decode method_3_code 22 = .ok (.lconst 1, 1) := by decide +kernel
theorem d4_23 : decode method_3_code 23 = .ok (.ladd, 1) := by decide +kernel
theorem d4_24 : decode method_3_code 24 = .ok (.lstore 6, 2) := by decide +kernel
theorem d4_26 : decode method_3_code 26 = .ok (.aload_n 1, 1) := by decide +kernel
theorem d4_27 : decode method_3_code 27 = .ok (.iconst 0, 1) := by decide +kernel
theorem d4_28 : decode method_3_code 28 = .ok (.lload_n 2, 1) := by decide +kernel
theorem d4_29 : decode method_3_code 29 = .ok (.lastore, 1) := by decide +kernel
theorem d4_30 : decode method_3_code 30 = .ok (.aload_n 1, 1) := by decide +kernel
theorem d4_31 : decode method_3_code 31 = .ok (.iconst 1, 1) := by decide +kernel
theorem d4_32 : decode method_3_code 32 = .ok (.lconst 0, 1) := by decide +kernel
theorem d4_33 : decode method_3_code 33 = .ok (.lastore, 1) := by decide +kernel
theorem d4_34 : decode method_3_code 34 = .ok (.goto 14, 3) := by decide +kernel
theorem d4_37 : decode method_3_code 37 = .ok (.lconst 0, 1) := by decide +kernel
theorem d4_38 : decode method_3_code 38 = .ok (.lstore 6, 2) := by decide +kernel
theorem d4_40 : decode method_3_code 40 = .ok (.aload_n 1, 1) := by decide +kernel
theorem d4_41 : decode method_3_code 41 = .ok (.iconst 1, 1) := by decide +kernel
theorem d4_42 : decode method_3_code 42 = .ok (.aload_n 1, 1) := by decide +kernel
theorem d4_43 : decode method_3_code 43 = .ok (.iconst 1, 1) := by decide +kernel
theorem d4_44 : decode method_3_code 44 = .ok (.laload, 1) := by decide +kernel
theorem d4_45 : decode method_3_code 45 = .ok (.lconst 1, 1) := by decide +kernel
theorem d4_46 : decode method_3_code 46 = .ok (.ladd, 1) := by decide +kernel
theorem d4_47 : decode method_3_code 47 = .ok (.lastore, 1) := by decide +kernel
theorem d4_48 : decode method_3_code 48 = .ok (.lload 4, 2) := by decide +kernel
theorem d4_50 : decode method_3_code 50 = .ok (.lload 6, 2) := by decide +kernel
theorem d4_52 : decode method_3_code 52 = .ok (.lcmp, 1) := by decide +kernel
theorem d4_53 : decode method_3_code 53 = .ok (.ifCond .ne 7, 3) := by decide +kernel
theorem d4_56 : decode method_3_code 56 = .ok (.iconst 1, 1) := by decide +kernel
theorem d4_57 : decode method_3_code 57 = .ok (.goto 4, 3) := by decide +kernel
theorem d4_61 : decode method_3_code 61 = .ok (.ireturn, 1) := by decide +kernel
theorem ef_rm4 (m : MethodId) (a0 : Addr) (a1 : Addr) (q2 : Int64) : entryFrame m #[(.ref a0), (.ref a1), (.long q2)] 8 = mkF m 0 #[.val (.ref a0), .val (.ref a1), .val (.long q2), .second, .unset, .unset, .unset, .unset] [] := by first | (simp [entryFrame, mkF, argsToLocals, Value.category]; done) | rfl
def Qrm4 (Z : State) (a0 : Addr) (a1 : Addr) (q2 : Int64) (u1 : Int64) (u2 : Int64) (ka : ClassId) (h0 : Heap) (n0 : Nat) (v : Option Value) (h : Heap) (L : List Loc) : Prop := v = some (.int 1) ∧ Fr n0 L ∧ Keep h0 h [a0, a1] ∧ Exa Z h a0 "com/example/map_of_brokers/mapofbrokers/map/RefusalWarnings" ∧ Fld Z h a0 "com/example/map_of_brokers/mapofbrokers/map/RefusalWarnings" "nextWarning" "J" (.long (own_b q2 u1 + (60000 : Int64))) ∧ Fld Z h a0 "com/example/map_of_brokers/mapofbrokers/map/RefusalWarnings" "sinceWarning" "J" (.long (own_c q2 u1 u2)) ∧ Arv Z h a1 ka .long (2 : Int32) [(.long (own_b q2 u1)), (.long (own_c q2 u1 u2))] (.long (0 : Int64))
set_option maxRecDepth 65536 in
set_option maxHeartbeats 40000000 in
theorem rm4 (l : Launch) (Z : State) (aw : Array Value) (hw : ∀ d ∈ tables_1, d.before aw Z = true) (ws : List Jvm.Cond) (a0 : Addr) (a1 : Addr) (q2 : Int64) (u1 : Int64) (u2 : Int64) (ka : ClassId) (h0 : Heap) (n0 : Nat) (Z0 : n0 ≤ h0.size) (E_a0 : Exa Z h0 a0 "com/example/map_of_brokers/mapofbrokers/map/RefusalWarnings") (F_a0_nextWarning : Fld Z h0 a0 "com/example/map_of_brokers/mapofbrokers/map/RefusalWarnings" "nextWarning" "J" (.long (u1 + (60000 : Int64)))) (F_a0_sinceWarning : Fld Z h0 a0 "com/example/map_of_brokers/mapofbrokers/map/RefusalWarnings" "sinceWarning" "J" (.long u2)) (g_a0 : n0 ≤ a0) (S_EVERY_MILLIS : Sta Z h0 "com/example/map_of_brokers/mapofbrokers/map/RefusalWarnings" "EVERY_MILLIS" "J" (.long (60000 : Int64))) (V_a1 : Arv Z h0 a1 ka .long (2 : Int32) [(.long u1), (.long u2)] (.long (0 : Int64))) (g_a1 : n0 ≤ a1) (hne : a0 ≠ a1) (hok : OwnOk q2 u1) :
    MetFree l (⟨"com/example/map_of_brokers/mapofbrokers/map/RefusalWarningsRefusedPinLaw", "step", "(Lcom/example/map_of_brokers/mapofbrokers/map/RefusalWarnings;[JJ)Z"⟩ : MethodName) (head1 (Jvm.Cond.code (⟨"com/example/map_of_brokers/mapofbrokers/map/RefusalWarningsRefusedPinLaw", "step", "(Lcom/example/map_of_brokers/mapofbrokers/map/RefusalWarnings;[JJ)Z"⟩ : MethodName) method_3_code 8 (some .boolean) :: ws) ({ frames := 1, cells := 0, slots := 0, locals := 16 } : Room)) (fun a U => a = #[(.ref a0), (.ref a1), (.long q2)] ∧ Z.Warmed39 U.vm ∧ U.heap = h0) (fun _ _ _ _ _ => True) (fun _ U o U' => ∃ v L, o = .returned v ∧ Qrm4 Z a0 a1 q2 u1 u2 ka h0 n0 v U'.heap L ∧ FrameEnd U o U' L ({ frames := 1, cells := 0, slots := 0, locals := 16 } : Room).cells ({ frames := 1, cells := 0, slots := 0, locals := 16 } : Room).slots) := by
  refine MetFree.of_bodySF (plainFor_of_name pn_2) hisR ?_
  intro p e s m args below meth c s₁ Bd hml0 hP hK
  obtain ⟨rfl, hZ, hh⟩ := hP
  have hx := Bd.exec
  have hby := Bd.bytes
  have hml : c.maxLocals = 8 := hml0
  have hown : s.vm.findClass "com/example/map_of_brokers/mapofbrokers/map/RefusalWarningsRefusedPinLaw" = some m.cls := findClass_of_methodNamed Bd.named
  have hnm := (name_of_methodNamed Bd.named Bd.method).1
  have X0 : Stand p l e ({ frames := 1, cells := 0, slots := 0, locals := 16 } : Room) s m #[(.ref a0), (.ref a1), (.long q2)] below meth c s₁ [] 0 0 := Stand.of_body Bd
  have e0 : s₁.heap = h0 := by rw [← hh, Bd.state]; rfl
  have N0 := Fr.nil n0
  have hlk := Bd.notSynchronized
  show OwnGo p.tables e below _ (s₁.setTop (entryFrame m #[(.ref a0), (.ref a1), (.long q2)] 8))
  rw [ef_rm4 m a0 a1 q2]
  have K0 : Keep h0 h0 [a0, a1] := Keep.refl _ _
  show OwnGo p.tables e below _ (s₁.setTop (mkF m 0 #[.val (.ref a0), .val (.ref a1), .val (.long q2), .second, .unset, .unset, .unset, .unset] []))
  refine OwnGo.of (A := s₁.setTop (mkF m 0 #[.val (.ref a0), .val (.ref a1), .val (.long q2), .second, .unset, .unset, .unset, .unset] [])) (B := s₁.setTop (mkF m 2 #[.val (.ref a0), .val (.ref a1), .val (.long q2), .second, .unset, .unset, .unset, .unset] [(.long q2), (.ref a0)])) (fun t k => ?_) ?_
  · show Steps p.tables e below (s₁.setTop (mkF m 0 #[.val (.ref a0), .val (.ref a1), .val (.long q2), .second, .unset, .unset, .unset, .unset] [])) t
    refine XS.aloadN X0.here hx rfl (hb hby d4_0) rfl rfl ?_
    show Steps p.tables e below (s₁.setTop (mkF m 1 #[.val (.ref a0), .val (.ref a1), .val (.long q2), .second, .unset, .unset, .unset, .unset] [(.ref a0)])) t
    refine XS.lloadN X0.here hx rfl (hb hby d4_1) rfl ?_
    exact k
  obtain ⟨cq1, kq1, q1a, q1b, q1c⟩ := isOf hZ e0 E_a0
  obtain ⟨_, _, ⟨T1, L1, k1, n1⟩, -, X1, ⟨Lc1, hQ1, l1, y1, z1⟩, st1⟩ := X0.virtualBack hx (y := (⟨"com/example/map_of_brokers/mapofbrokers/map/RefusalWarnings", "refused", "(J)J"⟩ : MethodName)) (z := (⟨"com/example/map_of_brokers/mapofbrokers/map/RefusalWarnings", "refused", "(J)J"⟩ : MethodName)) hown (mvT hZ (hw _ (List.mem_of_getElem? (i := 14) rfl))) (mvT hZ (hw _ (List.mem_of_getElem? (i := 15) rfl))) (notFace_of_selects (args := #[]) (mvT hZ (hw _ (List.mem_of_getElem? (i := 17) rfl)))) (mvT hZ (hw _ (List.mem_of_getElem? (i := 17) rfl))) (mvT hZ (hw _ (List.mem_of_getElem? (i := 16) rfl))) (by decide) (backOf (W := 0) (rm3 l Z aw hw [] a0 q2 (u1 + (60000 : Int64)) u2 h0 n0 Z0 E_a0 F_a0_nextWarning F_a0_sinceWarning g_a0 S_EVERY_MILLIS) hZ (hw _ (List.mem_of_getElem? (i := 18) rfl)) (hw _ (List.mem_of_getElem? (i := 3) rfl)) (by decide) (by decide)) q1a q1c (g := (mkF m 2 #[.val (.ref a0), .val (.ref a1), .val (.long q2), .second, .unset, .unset, .unset, .unset] [(.long q2), (.ref a0)])) rfl (by rw [hml]; rfl) (Steps.refl _) (argsL := [(.long q2)]) (rest := []) (lenOf pd_1 rfl) rfl (by show 2 * 0 + _ ≤ _; exact Nat.le_of_eq rfl) (hb hby d4_2) (fun _ _ => ⟨rfl, e0, (by decide : 0 + 0 ≤ _), (by decide : 0 + 0 ≤ _)⟩)
  dsimp only [Pt.U, Pt.locs, Pt.cells, Pt.slots] at X1 l1 y1 z1 st1 hQ1
  subst l1 y1 z1
  obtain ⟨rfl, N1q, K1, y1_0, y1_1, y1_2⟩ := hQ1
  have f2 : n0 ≤ T1.heap.size := Nat.le_trans Z0 K1.1
  have f3 : Keep h0 T1.heap [a0, a1] := K0.trans K1 (allS (Or.inl (List.mem_of_getElem? (i := 0) rfl)) all0)
  have f4 : Exa Z T1.heap a0 "com/example/map_of_brokers/mapofbrokers/map/RefusalWarnings" := E_a0.keep K1
  have f5 : Sta Z T1.heap "com/example/map_of_brokers/mapofbrokers/map/RefusalWarnings" "EVERY_MILLIS" "J" (.long (60000 : Int64)) := own_sta_keep S_EVERY_MILLIS K1 (allS (own_ns_exa E_a0) all0)
  have f6 : Arv Z T1.heap a1 ka .long (2 : Int32) [(.long u1), (.long u2)] (.long (0 : Int64)) := V_a1.keep K1 (ninS (Ne.symm hne) nin0)
  have N1 := Fr.app N0 N1q
  refine OwnGo.of (fun t k => st1.trans k) ?_
  show OwnGo p.tables e below _ (T1.setTop (mkF m 5 #[.val (.ref a0), .val (.ref a1), .val (.long q2), .second, .unset, .unset, .unset, .unset] [(.long (own_rv q2 (u1 + (60000 : Int64)) u2))]))
  refine OwnGo.of (A := T1.setTop (mkF m 5 #[.val (.ref a0), .val (.ref a1), .val (.long q2), .second, .unset, .unset, .unset, .unset] [(.long (own_rv q2 (u1 + (60000 : Int64)) u2))])) (B := T1.setTop (mkF m 10 #[.val (.ref a0), .val (.ref a1), .val (.long q2), .second, .val (.long (own_rv q2 (u1 + (60000 : Int64)) u2)), .second, .unset, .unset] [(.int (0 : Int32)), (.ref a1), (.long q2)])) (fun t k => ?_) ?_
  · show Steps p.tables e below (T1.setTop (mkF m 5 #[.val (.ref a0), .val (.ref a1), .val (.long q2), .second, .unset, .unset, .unset, .unset] [(.long (own_rv q2 (u1 + (60000 : Int64)) u2))])) t
    refine XS.lstore X1.here hx rfl (hb hby d4_5) rfl (l' := #[.val (.ref a0), .val (.ref a1), .val (.long q2), .second, .val (.long (own_rv q2 (u1 + (60000 : Int64)) u2)), .second, .unset, .unset]) rfl ?_
    show Steps p.tables e below (T1.setTop (mkF m 7 #[.val (.ref a0), .val (.ref a1), .val (.long q2), .second, .val (.long (own_rv q2 (u1 + (60000 : Int64)) u2)), .second, .unset, .unset] [])) t
    refine XS.lloadN X1.here hx rfl (hb hby d4_7) rfl ?_
    show Steps p.tables e below (T1.setTop (mkF m 8 #[.val (.ref a0), .val (.ref a1), .val (.long q2), .second, .val (.long (own_rv q2 (u1 + (60000 : Int64)) u2)), .second, .unset, .unset] [(.long q2)])) t
    refine XS.aloadN X1.here hx rfl (hb hby d4_8) rfl rfl ?_
    show Steps p.tables e below (T1.setTop (mkF m 9 #[.val (.ref a0), .val (.ref a1), .val (.long q2), .second, .val (.long (own_rv q2 (u1 + (60000 : Int64)) u2)), .second, .unset, .unset] [(.ref a1), (.long q2)])) t
    refine XS.iconst X1.here hx rfl (hb hby d4_9) ?_
    exact k
  have cq7 := f6
  obtain ⟨clq7, Arq7, qq7, Sq7, Nq7, Hq7, Gq7⟩ := cq7
  have hinq7 := inb_of (j := (0 : Int32)) Sq7 ⟨by decide, by decide⟩
  refine OwnGo.of (X1.laload hx (j := (0 : Int32)) (v := (.long u1)) Arq7.1 (State.isArrayOf_alike hZ.alike Arq7.2.1) Arq7.2.2 hinq7 (Hq7.at hinq7 rfl) (g := (mkF m 10 #[.val (.ref a0), .val (.ref a1), .val (.long q2), .second, .val (.long (own_rv q2 (u1 + (60000 : Int64)) u2)), .second, .unset, .unset] [(.int (0 : Int32)), (.ref a1), (.long q2)])) rfl rfl (hb hby d4_10)) ?_
  show OwnGo p.tables e below _ (T1.setTop (mkF m 11 #[.val (.ref a0), .val (.ref a1), .val (.long q2), .second, .val (.long (own_rv q2 (u1 + (60000 : Int64)) u2)), .second, .unset, .unset] [(.long u1), (.long q2)]))
  refine OwnGo.of (A := T1.setTop (mkF m 11 #[.val (.ref a0), .val (.ref a1), .val (.long q2), .second, .val (.long (own_rv q2 (u1 + (60000 : Int64)) u2)), .second, .unset, .unset] [(.long u1), (.long q2)])) (B := T1.setTop (mkF m 16 #[.val (.ref a0), .val (.ref a1), .val (.long q2), .second, .val (.long (own_rv q2 (u1 + (60000 : Int64)) u2)), .second, .unset, .unset] [(.int (lcmpW (q2 - u1) (60000 : Int64)))])) (fun t k => ?_) ?_
  · show Steps p.tables e below (T1.setTop (mkF m 11 #[.val (.ref a0), .val (.ref a1), .val (.long q2), .second, .val (.long (own_rv q2 (u1 + (60000 : Int64)) u2)), .second, .unset, .unset] [(.long u1), (.long q2)])) t
    refine XS.lsub X1.here hx rfl (hb hby d4_11) rfl ?_
    show Steps p.tables e below (T1.setTop (mkF m 12 #[.val (.ref a0), .val (.ref a1), .val (.long q2), .second, .val (.long (own_rv q2 (u1 + (60000 : Int64)) u2)), .second, .unset, .unset] [(.long (q2 - u1))])) t
    refine X1.ldc2Long hx hown (mvT hZ (hw _ (List.mem_of_getElem? (i := 27) rfl))) (g := (mkF m 12 #[.val (.ref a0), .val (.ref a1), .val (.long q2), .second, .val (.long (own_rv q2 (u1 + (60000 : Int64)) u2)), .second, .unset, .unset] [(.long (q2 - u1))])) rfl (hb hby d4_12) _ ?_
    show Steps p.tables e below (T1.setTop (mkF m 15 #[.val (.ref a0), .val (.ref a1), .val (.long q2), .second, .val (.long (own_rv q2 (u1 + (60000 : Int64)) u2)), .second, .unset, .unset] [(.long (60000 : Int64)), (.long (q2 - u1))])) t
    refine XS.lcmp X1.here hx rfl (hb hby d4_15) rfl ?_
    exact k
  by_cases hc8 : (lcmpW (q2 - u1) (60000 : Int64)) < (0 : Int32)
  · refine OwnGo.of (A := T1.setTop (mkF m 16 #[.val (.ref a0), .val (.ref a1), .val (.long q2), .second, .val (.long (own_rv q2 (u1 + (60000 : Int64)) u2)), .second, .unset, .unset] [(.int (lcmpW (q2 - u1) (60000 : Int64)))])) (B := T1.setTop (mkF m 44 #[.val (.ref a0), .val (.ref a1), .val (.long q2), .second, .val (.long (own_rv q2 (u1 + (60000 : Int64)) u2)), .second, .val (.long (0 : Int64)), .second] [(.int (1 : Int32)), (.ref a1), (.int (1 : Int32)), (.ref a1)])) (fun t k => ?_) ?_
    · show Steps p.tables e below (T1.setTop (mkF m 16 #[.val (.ref a0), .val (.ref a1), .val (.long q2), .second, .val (.long (own_rv q2 (u1 + (60000 : Int64)) u2)), .second, .unset, .unset] [(.int (lcmpW (q2 - u1) (60000 : Int64)))])) t
      refine XS.ifYes X1.here hx rfl (pc0 := 16) (pc' := 37) rfl (hb hby d4_16) rfl ((if0 _ _).trans (tlt hc8).1) (by decide) (by decide) ?_
      show Steps p.tables e below (T1.setTop (mkF m 37 #[.val (.ref a0), .val (.ref a1), .val (.long q2), .second, .val (.long (own_rv q2 (u1 + (60000 : Int64)) u2)), .second, .unset, .unset] [])) t
      refine XS.lconst X1.here hx rfl (hb hby d4_37) ?_
      show Steps p.tables e below (T1.setTop (mkF m 38 #[.val (.ref a0), .val (.ref a1), .val (.long q2), .second, .val (.long (own_rv q2 (u1 + (60000 : Int64)) u2)), .second, .unset, .unset] [(.long (0 : Int64))])) t
      refine XS.lstore X1.here hx rfl (hb hby d4_38) rfl (l' := #[.val (.ref a0), .val (.ref a1), .val (.long q2), .second, .val (.long (own_rv q2 (u1 + (60000 : Int64)) u2)), .second, .val (.long (0 : Int64)), .second]) rfl ?_
      show Steps p.tables e below (T1.setTop (mkF m 40 #[.val (.ref a0), .val (.ref a1), .val (.long q2), .second, .val (.long (own_rv q2 (u1 + (60000 : Int64)) u2)), .second, .val (.long (0 : Int64)), .second] [])) t
      refine XS.aloadN X1.here hx rfl (hb hby d4_40) rfl rfl ?_
      show Steps p.tables e below (T1.setTop (mkF m 41 #[.val (.ref a0), .val (.ref a1), .val (.long q2), .second, .val (.long (own_rv q2 (u1 + (60000 : Int64)) u2)), .second, .val (.long (0 : Int64)), .second] [(.ref a1)])) t
      refine XS.iconst X1.here hx rfl (hb hby d4_41) ?_
      show Steps p.tables e below (T1.setTop (mkF m 42 #[.val (.ref a0), .val (.ref a1), .val (.long q2), .second, .val (.long (own_rv q2 (u1 + (60000 : Int64)) u2)), .second, .val (.long (0 : Int64)), .second] [(.int (1 : Int32)), (.ref a1)])) t
      refine XS.aloadN X1.here hx rfl (hb hby d4_42) rfl rfl ?_
      show Steps p.tables e below (T1.setTop (mkF m 43 #[.val (.ref a0), .val (.ref a1), .val (.long q2), .second, .val (.long (own_rv q2 (u1 + (60000 : Int64)) u2)), .second, .val (.long (0 : Int64)), .second] [(.ref a1), (.int (1 : Int32)), (.ref a1)])) t
      refine XS.iconst X1.here hx rfl (hb hby d4_43) ?_
      exact k
    have cq9 := f6
    obtain ⟨clq9, Arq9, qq9, Sq9, Nq9, Hq9, Gq9⟩ := cq9
    have hinq9 := inb_of (j := (1 : Int32)) Sq9 ⟨by decide, by decide⟩
    refine OwnGo.of (X1.laload hx (j := (1 : Int32)) (v := (.long u2)) Arq9.1 (State.isArrayOf_alike hZ.alike Arq9.2.1) Arq9.2.2 hinq9 (Hq9.at hinq9 rfl) (g := (mkF m 44 #[.val (.ref a0), .val (.ref a1), .val (.long q2), .second, .val (.long (own_rv q2 (u1 + (60000 : Int64)) u2)), .second, .val (.long (0 : Int64)), .second] [(.int (1 : Int32)), (.ref a1), (.int (1 : Int32)), (.ref a1)])) rfl rfl (hb hby d4_44)) ?_
    show OwnGo p.tables e below _ (T1.setTop (mkF m 45 #[.val (.ref a0), .val (.ref a1), .val (.long q2), .second, .val (.long (own_rv q2 (u1 + (60000 : Int64)) u2)), .second, .val (.long (0 : Int64)), .second] [(.long u2), (.int (1 : Int32)), (.ref a1)]))
    refine OwnGo.of (A := T1.setTop (mkF m 45 #[.val (.ref a0), .val (.ref a1), .val (.long q2), .second, .val (.long (own_rv q2 (u1 + (60000 : Int64)) u2)), .second, .val (.long (0 : Int64)), .second] [(.long u2), (.int (1 : Int32)), (.ref a1)])) (B := T1.setTop (mkF m 47 #[.val (.ref a0), .val (.ref a1), .val (.long q2), .second, .val (.long (own_rv q2 (u1 + (60000 : Int64)) u2)), .second, .val (.long (0 : Int64)), .second] [(.long (u2 + (1 : Int64))), (.int (1 : Int32)), (.ref a1)])) (fun t k => ?_) ?_
    · show Steps p.tables e below (T1.setTop (mkF m 45 #[.val (.ref a0), .val (.ref a1), .val (.long q2), .second, .val (.long (own_rv q2 (u1 + (60000 : Int64)) u2)), .second, .val (.long (0 : Int64)), .second] [(.long u2), (.int (1 : Int32)), (.ref a1)])) t
      refine XS.lconst X1.here hx rfl (hb hby d4_45) ?_
      show Steps p.tables e below (T1.setTop (mkF m 46 #[.val (.ref a0), .val (.ref a1), .val (.long q2), .second, .val (.long (own_rv q2 (u1 + (60000 : Int64)) u2)), .second, .val (.long (0 : Int64)), .second] [(.long (1 : Int64)), (.long u2), (.int (1 : Int32)), (.ref a1)])) t
      refine XS.ladd X1.here hx rfl (hb hby d4_46) rfl ?_
      exact k
    have cq10 := f6
    obtain ⟨clq10, Arq10, qq10, Sq10, Nq10, Hq10, Gq10⟩ := cq10
    obtain ⟨T11, h11, X11, e11, W11, st11⟩ := stJ X1 hx hZ rfl Arq10 (j := (1 : Int32)) (inb_of Sq10 ⟨by decide, by decide⟩) (g := (mkF m 47 #[.val (.ref a0), .val (.ref a1), .val (.long q2), .second, .val (.long (own_rv q2 (u1 + (60000 : Int64)) u2)), .second, .val (.long (0 : Int64)), .second] [(.long (u2 + (1 : Int64))), (.int (1 : Int32)), (.ref a1)])) rfl rfl (hb hby d4_47)
    refine OwnGo.of st11 ?_
    have N11 := Fr.snoc X11 N1 g_a1
    have f12 : n0 ≤ h11.size := Nat.le_trans f2 (Keep.of_wr W11).1
    have f13 : Keep h0 h11 [a0, a1] := f3.wr W11 (Or.inl (List.mem_of_getElem? (i := 1) rfl))
    have f14 : Exa Z h11 a0 "com/example/map_of_brokers/mapofbrokers/map/RefusalWarnings" := y1_0.wr W11
    have f15 : Sta Z h11 "com/example/map_of_brokers/mapofbrokers/map/RefusalWarnings" "EVERY_MILLIS" "J" (.long (60000 : Int64)) := f5.wr W11
    have f16 : Fld Z h11 a0 "com/example/map_of_brokers/mapofbrokers/map/RefusalWarnings" "nextWarning" "J" (.long (own_nx q2 (u1 + (60000 : Int64)))) := y1_1.other W11 (Or.inl hne)
    have f17 : Fld Z h11 a0 "com/example/map_of_brokers/mapofbrokers/map/RefusalWarnings" "sinceWarning" "J" (.long (own_si q2 (u1 + (60000 : Int64)) u2)) := y1_2.other W11 (Or.inl hne)
    have f18 : Arv Z h11 a1 ka .long (2 : Int32) [(.long u1), (.long (u2 + (1 : Int64)))] (.long (0 : Int64)) := Arv.set Arq10 qq10 Sq10 Nq10 Hq10 Gq10 rfl W11 1 rfl (Nat.le_of_ble_eq_true rfl)
    show OwnGo p.tables e below _ (T11.setTop (mkF m 48 #[.val (.ref a0), .val (.ref a1), .val (.long q2), .second, .val (.long (own_rv q2 (u1 + (60000 : Int64)) u2)), .second, .val (.long (0 : Int64)), .second] []))
    refine OwnGo.of (A := T11.setTop (mkF m 48 #[.val (.ref a0), .val (.ref a1), .val (.long q2), .second, .val (.long (own_rv q2 (u1 + (60000 : Int64)) u2)), .second, .val (.long (0 : Int64)), .second] [])) (B := T11.setTop (mkF m 53 #[.val (.ref a0), .val (.ref a1), .val (.long q2), .second, .val (.long (own_rv q2 (u1 + (60000 : Int64)) u2)), .second, .val (.long (0 : Int64)), .second] [(.int (lcmpW (own_rv q2 (u1 + (60000 : Int64)) u2) (0 : Int64)))])) (fun t k => ?_) ?_
    · show Steps p.tables e below (T11.setTop (mkF m 48 #[.val (.ref a0), .val (.ref a1), .val (.long q2), .second, .val (.long (own_rv q2 (u1 + (60000 : Int64)) u2)), .second, .val (.long (0 : Int64)), .second] [])) t
      refine XS.lload X11.here hx rfl (hb hby d4_48) rfl ?_
      show Steps p.tables e below (T11.setTop (mkF m 50 #[.val (.ref a0), .val (.ref a1), .val (.long q2), .second, .val (.long (own_rv q2 (u1 + (60000 : Int64)) u2)), .second, .val (.long (0 : Int64)), .second] [(.long (own_rv q2 (u1 + (60000 : Int64)) u2))])) t
      refine XS.lload X11.here hx rfl (hb hby d4_50) rfl ?_
      show Steps p.tables e below (T11.setTop (mkF m 52 #[.val (.ref a0), .val (.ref a1), .val (.long q2), .second, .val (.long (own_rv q2 (u1 + (60000 : Int64)) u2)), .second, .val (.long (0 : Int64)), .second] [(.long (0 : Int64)), (.long (own_rv q2 (u1 + (60000 : Int64)) u2))])) t
      refine XS.lcmp X11.here hx rfl (hb hby d4_52) rfl ?_
      exact k
    have hc19 : (lcmpW (own_rv q2 (u1 + (60000 : Int64)) u2) (0 : Int64)) = (0 : Int32) := (lw_eq _ _).mpr (by rw [own_rv_eq hok, if_pos hc8])
    refine OwnGo.of (A := T11.setTop (mkF m 53 #[.val (.ref a0), .val (.ref a1), .val (.long q2), .second, .val (.long (own_rv q2 (u1 + (60000 : Int64)) u2)), .second, .val (.long (0 : Int64)), .second] [(.int (lcmpW (own_rv q2 (u1 + (60000 : Int64)) u2) (0 : Int64)))])) (B := T11.setTop (mkF m 61 #[.val (.ref a0), .val (.ref a1), .val (.long q2), .second, .val (.long (own_rv q2 (u1 + (60000 : Int64)) u2)), .second, .val (.long (0 : Int64)), .second] [(.int (1 : Int32))])) (fun t k => ?_) ?_
    · show Steps p.tables e below (T11.setTop (mkF m 53 #[.val (.ref a0), .val (.ref a1), .val (.long q2), .second, .val (.long (own_rv q2 (u1 + (60000 : Int64)) u2)), .second, .val (.long (0 : Int64)), .second] [(.int (lcmpW (own_rv q2 (u1 + (60000 : Int64)) u2) (0 : Int64)))])) t
      refine XS.ifNo X11.here hx rfl (hb hby d4_53) rfl ((if0 _ _).trans (teq hc19).2) ?_
      show Steps p.tables e below (T11.setTop (mkF m 56 #[.val (.ref a0), .val (.ref a1), .val (.long q2), .second, .val (.long (own_rv q2 (u1 + (60000 : Int64)) u2)), .second, .val (.long (0 : Int64)), .second] [])) t
      refine XS.iconst X11.here hx rfl (hb hby d4_56) ?_
      show Steps p.tables e below (T11.setTop (mkF m 57 #[.val (.ref a0), .val (.ref a1), .val (.long q2), .second, .val (.long (own_rv q2 (u1 + (60000 : Int64)) u2)), .second, .val (.long (0 : Int64)), .second] [(.int (1 : Int32))])) t
      refine XS.goto X11.here hx rfl (pc0 := 57) (pc' := 61) rfl (hb hby d4_57) (by decide) (by decide) ?_
      exact k
    obtain ⟨fs, hr, hrun, hended, hW, hsame⟩ := X11.leave (v := some (.int (nar .boolean (1 : Int32)))) (fun h => by rw [Bd.returns] at h; cases h) hlk
    refine ⟨_, _, ?_, hrun, hended, _, _, rfl, ?_, ⟨_, rfl⟩, hW, hsame.mono (by decide) (by decide)⟩
    · show Steps p.tables e below (T11.setTop (mkF m 61 #[.val (.ref a0), .val (.ref a1), .val (.long q2), .second, .val (.long (own_rv q2 (u1 + (60000 : Int64)) u2)), .second, .val (.long (0 : Int64)), .second] [(.int (1 : Int32))])) _
      exact retN X11 hx (t := .boolean) Bd.returns (by simp) (hb hby d4_61) hr
    · show Qrm4 Z a0 a1 q2 u1 u2 ka h0 n0 _ (T11.setFrames fs).heap _
      rw [show (T11.setFrames fs).heap = h11 from e11]
      refine ⟨rfl, N11, f13, f14, ?_, ?_, ?_⟩
      · rw [← own_nx_eq hok]; exact f16
      · rw [← own_si_eq hok]; exact f17
      · rw [own_b, own_c, if_pos hc8, if_pos hc8]; exact f18
  · refine OwnGo.of (A := T1.setTop (mkF m 16 #[.val (.ref a0), .val (.ref a1), .val (.long q2), .second, .val (.long (own_rv q2 (u1 + (60000 : Int64)) u2)), .second, .unset, .unset] [(.int (lcmpW (q2 - u1) (60000 : Int64)))])) (B := T1.setTop (mkF m 21 #[.val (.ref a0), .val (.ref a1), .val (.long q2), .second, .val (.long (own_rv q2 (u1 + (60000 : Int64)) u2)), .second, .unset, .unset] [(.int (1 : Int32)), (.ref a1)])) (fun t k => ?_) ?_
    · show Steps p.tables e below (T1.setTop (mkF m 16 #[.val (.ref a0), .val (.ref a1), .val (.long q2), .second, .val (.long (own_rv q2 (u1 + (60000 : Int64)) u2)), .second, .unset, .unset] [(.int (lcmpW (q2 - u1) (60000 : Int64)))])) t
      refine XS.ifNo X1.here hx rfl (hb hby d4_16) rfl ((if0 _ _).trans (flt hc8).1) ?_
      show Steps p.tables e below (T1.setTop (mkF m 19 #[.val (.ref a0), .val (.ref a1), .val (.long q2), .second, .val (.long (own_rv q2 (u1 + (60000 : Int64)) u2)), .second, .unset, .unset] [])) t
      refine XS.aloadN X1.here hx rfl (hb hby d4_19) rfl rfl ?_
      show Steps p.tables e below (T1.setTop (mkF m 20 #[.val (.ref a0), .val (.ref a1), .val (.long q2), .second, .val (.long (own_rv q2 (u1 + (60000 : Int64)) u2)), .second, .unset, .unset] [(.ref a1)])) t
      refine XS.iconst X1.here hx rfl (hb hby d4_20) ?_
      exact k
    have cq21 := f6
    obtain ⟨clq21, Arq21, qq21, Sq21, Nq21, Hq21, Gq21⟩ := cq21
    have hinq21 := inb_of (j := (1 : Int32)) Sq21 ⟨by decide, by decide⟩
    refine OwnGo.of (X1.laload hx (j := (1 : Int32)) (v := (.long u2)) Arq21.1 (State.isArrayOf_alike hZ.alike Arq21.2.1) Arq21.2.2 hinq21 (Hq21.at hinq21 rfl) (g := (mkF m 21 #[.val (.ref a0), .val (.ref a1), .val (.long q2), .second, .val (.long (own_rv q2 (u1 + (60000 : Int64)) u2)), .second, .unset, .unset] [(.int (1 : Int32)), (.ref a1)])) rfl rfl (hb hby d4_21)) ?_
    show OwnGo p.tables e below _ (T1.setTop (mkF m 22 #[.val (.ref a0), .val (.ref a1), .val (.long q2), .second, .val (.long (own_rv q2 (u1 + (60000 : Int64)) u2)), .second, .unset, .unset] [(.long u2)]))
    refine OwnGo.of (A := T1.setTop (mkF m 22 #[.val (.ref a0), .val (.ref a1), .val (.long q2), .second, .val (.long (own_rv q2 (u1 + (60000 : Int64)) u2)), .second, .unset, .unset] [(.long u2)])) (B := T1.setTop (mkF m 29 #[.val (.ref a0), .val (.ref a1), .val (.long q2), .second, .val (.long (own_rv q2 (u1 + (60000 : Int64)) u2)), .second, .val (.long (u2 + (1 : Int64))), .second] [(.long q2), (.int (0 : Int32)), (.ref a1)])) (fun t k => ?_) ?_
    · show Steps p.tables e below (T1.setTop (mkF m 22 #[.val (.ref a0), .val (.ref a1), .val (.long q2), .second, .val (.long (own_rv q2 (u1 + (60000 : Int64)) u2)), .second, .unset, .unset] [(.long u2)])) t
      refine XS.lconst X1.here hx rfl (hb hby d4_22) ?_
      show Steps p.tables e below (T1.setTop (mkF m 23 #[.val (.ref a0), .val (.ref a1), .val (.long q2), .second, .val (.long (own_rv q2 (u1 + (60000 : Int64)) u2)), .second, .unset, .unset] [(.long (1 : Int64)), (.long u2)])) t
      refine XS.ladd X1.here hx rfl (hb hby d4_23) rfl ?_
      show Steps p.tables e below (T1.setTop (mkF m 24 #[.val (.ref a0), .val (.ref a1), .val (.long q2), .second, .val (.long (own_rv q2 (u1 + (60000 : Int64)) u2)), .second, .unset, .unset] [(.long (u2 + (1 : Int64)))])) t
      refine XS.lstore X1.here hx rfl (hb hby d4_24) rfl (l' := #[.val (.ref a0), .val (.ref a1), .val (.long q2), .second, .val (.long (own_rv q2 (u1 + (60000 : Int64)) u2)), .second, .val (.long (u2 + (1 : Int64))), .second]) rfl ?_
      show Steps p.tables e below (T1.setTop (mkF m 26 #[.val (.ref a0), .val (.ref a1), .val (.long q2), .second, .val (.long (own_rv q2 (u1 + (60000 : Int64)) u2)), .second, .val (.long (u2 + (1 : Int64))), .second] [])) t
      refine XS.aloadN X1.here hx rfl (hb hby d4_26) rfl rfl ?_
      show Steps p.tables e below (T1.setTop (mkF m 27 #[.val (.ref a0), .val (.ref a1), .val (.long q2), .second, .val (.long (own_rv q2 (u1 + (60000 : Int64)) u2)), .second, .val (.long (u2 + (1 : Int64))), .second] [(.ref a1)])) t
      refine XS.iconst X1.here hx rfl (hb hby d4_27) ?_
      show Steps p.tables e below (T1.setTop (mkF m 28 #[.val (.ref a0), .val (.ref a1), .val (.long q2), .second, .val (.long (own_rv q2 (u1 + (60000 : Int64)) u2)), .second, .val (.long (u2 + (1 : Int64))), .second] [(.int (0 : Int32)), (.ref a1)])) t
      refine XS.lloadN X1.here hx rfl (hb hby d4_28) rfl ?_
      exact k
    have cq22 := f6
    obtain ⟨clq22, Arq22, qq22, Sq22, Nq22, Hq22, Gq22⟩ := cq22
    obtain ⟨T23, h23, X23, e23, W23, st23⟩ := stJ X1 hx hZ rfl Arq22 (j := (0 : Int32)) (inb_of Sq22 ⟨by decide, by decide⟩) (g := (mkF m 29 #[.val (.ref a0), .val (.ref a1), .val (.long q2), .second, .val (.long (own_rv q2 (u1 + (60000 : Int64)) u2)), .second, .val (.long (u2 + (1 : Int64))), .second] [(.long q2), (.int (0 : Int32)), (.ref a1)])) rfl rfl (hb hby d4_29)
    refine OwnGo.of st23 ?_
    have N23 := Fr.snoc X23 N1 g_a1
    have f24 : n0 ≤ h23.size := Nat.le_trans f2 (Keep.of_wr W23).1
    have f25 : Keep h0 h23 [a0, a1] := f3.wr W23 (Or.inl (List.mem_of_getElem? (i := 1) rfl))
    have f26 : Exa Z h23 a0 "com/example/map_of_brokers/mapofbrokers/map/RefusalWarnings" := y1_0.wr W23
    have f27 : Sta Z h23 "com/example/map_of_brokers/mapofbrokers/map/RefusalWarnings" "EVERY_MILLIS" "J" (.long (60000 : Int64)) := f5.wr W23
    have f28 : Fld Z h23 a0 "com/example/map_of_brokers/mapofbrokers/map/RefusalWarnings" "nextWarning" "J" (.long (own_nx q2 (u1 + (60000 : Int64)))) := y1_1.other W23 (Or.inl hne)
    have f29 : Fld Z h23 a0 "com/example/map_of_brokers/mapofbrokers/map/RefusalWarnings" "sinceWarning" "J" (.long (own_si q2 (u1 + (60000 : Int64)) u2)) := y1_2.other W23 (Or.inl hne)
    have f30 : Arv Z h23 a1 ka .long (2 : Int32) [(.long q2), (.long u2)] (.long (0 : Int64)) := Arv.set Arq22 qq22 Sq22 Nq22 Hq22 Gq22 rfl W23 0 rfl (Nat.le_of_ble_eq_true rfl)
    show OwnGo p.tables e below _ (T23.setTop (mkF m 30 #[.val (.ref a0), .val (.ref a1), .val (.long q2), .second, .val (.long (own_rv q2 (u1 + (60000 : Int64)) u2)), .second, .val (.long (u2 + (1 : Int64))), .second] []))
    refine OwnGo.of (A := T23.setTop (mkF m 30 #[.val (.ref a0), .val (.ref a1), .val (.long q2), .second, .val (.long (own_rv q2 (u1 + (60000 : Int64)) u2)), .second, .val (.long (u2 + (1 : Int64))), .second] [])) (B := T23.setTop (mkF m 33 #[.val (.ref a0), .val (.ref a1), .val (.long q2), .second, .val (.long (own_rv q2 (u1 + (60000 : Int64)) u2)), .second, .val (.long (u2 + (1 : Int64))), .second] [(.long (0 : Int64)), (.int (1 : Int32)), (.ref a1)])) (fun t k => ?_) ?_
    · show Steps p.tables e below (T23.setTop (mkF m 30 #[.val (.ref a0), .val (.ref a1), .val (.long q2), .second, .val (.long (own_rv q2 (u1 + (60000 : Int64)) u2)), .second, .val (.long (u2 + (1 : Int64))), .second] [])) t
      refine XS.aloadN X23.here hx rfl (hb hby d4_30) rfl rfl ?_
      show Steps p.tables e below (T23.setTop (mkF m 31 #[.val (.ref a0), .val (.ref a1), .val (.long q2), .second, .val (.long (own_rv q2 (u1 + (60000 : Int64)) u2)), .second, .val (.long (u2 + (1 : Int64))), .second] [(.ref a1)])) t
      refine XS.iconst X23.here hx rfl (hb hby d4_31) ?_
      show Steps p.tables e below (T23.setTop (mkF m 32 #[.val (.ref a0), .val (.ref a1), .val (.long q2), .second, .val (.long (own_rv q2 (u1 + (60000 : Int64)) u2)), .second, .val (.long (u2 + (1 : Int64))), .second] [(.int (1 : Int32)), (.ref a1)])) t
      refine XS.lconst X23.here hx rfl (hb hby d4_32) ?_
      exact k
    have cq31 := f30
    obtain ⟨clq31, Arq31, qq31, Sq31, Nq31, Hq31, Gq31⟩ := cq31
    obtain ⟨T32, h32, X32, e32, W32, st32⟩ := stJ X23 hx hZ e23 Arq31 (j := (1 : Int32)) (inb_of Sq31 ⟨by decide, by decide⟩) (g := (mkF m 33 #[.val (.ref a0), .val (.ref a1), .val (.long q2), .second, .val (.long (own_rv q2 (u1 + (60000 : Int64)) u2)), .second, .val (.long (u2 + (1 : Int64))), .second] [(.long (0 : Int64)), (.int (1 : Int32)), (.ref a1)])) rfl rfl (hb hby d4_33)
    refine OwnGo.of st32 ?_
    have N32 := Fr.snoc X32 N23 g_a1
    have f33 : n0 ≤ h32.size := Nat.le_trans f24 (Keep.of_wr W32).1
    have f34 : Keep h0 h32 [a0, a1] := f25.wr W32 (Or.inl (List.mem_of_getElem? (i := 1) rfl))
    have f35 : Exa Z h32 a0 "com/example/map_of_brokers/mapofbrokers/map/RefusalWarnings" := f26.wr W32
    have f36 : Sta Z h32 "com/example/map_of_brokers/mapofbrokers/map/RefusalWarnings" "EVERY_MILLIS" "J" (.long (60000 : Int64)) := f27.wr W32
    have f37 : Fld Z h32 a0 "com/example/map_of_brokers/mapofbrokers/map/RefusalWarnings" "nextWarning" "J" (.long (own_nx q2 (u1 + (60000 : Int64)))) := f28.other W32 (Or.inl hne)
    have f38 : Fld Z h32 a0 "com/example/map_of_brokers/mapofbrokers/map/RefusalWarnings" "sinceWarning" "J" (.long (own_si q2 (u1 + (60000 : Int64)) u2)) := f29.other W32 (Or.inl hne)
    have f39 : Arv Z h32 a1 ka .long (2 : Int32) [(.long q2), (.long (0 : Int64))] (.long (0 : Int64)) := Arv.set Arq31 qq31 Sq31 Nq31 Hq31 Gq31 rfl W32 1 rfl (Nat.le_of_ble_eq_true rfl)
    show OwnGo p.tables e below _ (T32.setTop (mkF m 34 #[.val (.ref a0), .val (.ref a1), .val (.long q2), .second, .val (.long (own_rv q2 (u1 + (60000 : Int64)) u2)), .second, .val (.long (u2 + (1 : Int64))), .second] []))
    refine OwnGo.of (A := T32.setTop (mkF m 34 #[.val (.ref a0), .val (.ref a1), .val (.long q2), .second, .val (.long (own_rv q2 (u1 + (60000 : Int64)) u2)), .second, .val (.long (u2 + (1 : Int64))), .second] [])) (B := T32.setTop (mkF m 53 #[.val (.ref a0), .val (.ref a1), .val (.long q2), .second, .val (.long (own_rv q2 (u1 + (60000 : Int64)) u2)), .second, .val (.long (u2 + (1 : Int64))), .second] [(.int (lcmpW (own_rv q2 (u1 + (60000 : Int64)) u2) (u2 + (1 : Int64))))])) (fun t k => ?_) ?_
    · show Steps p.tables e below (T32.setTop (mkF m 34 #[.val (.ref a0), .val (.ref a1), .val (.long q2), .second, .val (.long (own_rv q2 (u1 + (60000 : Int64)) u2)), .second, .val (.long (u2 + (1 : Int64))), .second] [])) t
      refine XS.goto X32.here hx rfl (pc0 := 34) (pc' := 48) rfl (hb hby d4_34) (by decide) (by decide) ?_
      show Steps p.tables e below (T32.setTop (mkF m 48 #[.val (.ref a0), .val (.ref a1), .val (.long q2), .second, .val (.long (own_rv q2 (u1 + (60000 : Int64)) u2)), .second, .val (.long (u2 + (1 : Int64))), .second] [])) t
      refine XS.lload X32.here hx rfl (hb hby d4_48) rfl ?_
      show Steps p.tables e below (T32.setTop (mkF m 50 #[.val (.ref a0), .val (.ref a1), .val (.long q2), .second, .val (.long (own_rv q2 (u1 + (60000 : Int64)) u2)), .second, .val (.long (u2 + (1 : Int64))), .second] [(.long (own_rv q2 (u1 + (60000 : Int64)) u2))])) t
      refine XS.lload X32.here hx rfl (hb hby d4_50) rfl ?_
      show Steps p.tables e below (T32.setTop (mkF m 52 #[.val (.ref a0), .val (.ref a1), .val (.long q2), .second, .val (.long (own_rv q2 (u1 + (60000 : Int64)) u2)), .second, .val (.long (u2 + (1 : Int64))), .second] [(.long (u2 + (1 : Int64))), (.long (own_rv q2 (u1 + (60000 : Int64)) u2))])) t
      refine XS.lcmp X32.here hx rfl (hb hby d4_52) rfl ?_
      exact k
    have hc40 : (lcmpW (own_rv q2 (u1 + (60000 : Int64)) u2) (u2 + (1 : Int64))) = (0 : Int32) := (lw_eq _ _).mpr (by rw [own_rv_eq hok, if_neg hc8])
    refine OwnGo.of (A := T32.setTop (mkF m 53 #[.val (.ref a0), .val (.ref a1), .val (.long q2), .second, .val (.long (own_rv q2 (u1 + (60000 : Int64)) u2)), .second, .val (.long (u2 + (1 : Int64))), .second] [(.int (lcmpW (own_rv q2 (u1 + (60000 : Int64)) u2) (u2 + (1 : Int64))))])) (B := T32.setTop (mkF m 61 #[.val (.ref a0), .val (.ref a1), .val (.long q2), .second, .val (.long (own_rv q2 (u1 + (60000 : Int64)) u2)), .second, .val (.long (u2 + (1 : Int64))), .second] [(.int (1 : Int32))])) (fun t k => ?_) ?_
    · show Steps p.tables e below (T32.setTop (mkF m 53 #[.val (.ref a0), .val (.ref a1), .val (.long q2), .second, .val (.long (own_rv q2 (u1 + (60000 : Int64)) u2)), .second, .val (.long (u2 + (1 : Int64))), .second] [(.int (lcmpW (own_rv q2 (u1 + (60000 : Int64)) u2) (u2 + (1 : Int64))))])) t
      refine XS.ifNo X32.here hx rfl (hb hby d4_53) rfl ((if0 _ _).trans (teq hc40).2) ?_
      show Steps p.tables e below (T32.setTop (mkF m 56 #[.val (.ref a0), .val (.ref a1), .val (.long q2), .second, .val (.long (own_rv q2 (u1 + (60000 : Int64)) u2)), .second, .val (.long (u2 + (1 : Int64))), .second] [])) t
      refine XS.iconst X32.here hx rfl (hb hby d4_56) ?_
      show Steps p.tables e below (T32.setTop (mkF m 57 #[.val (.ref a0), .val (.ref a1), .val (.long q2), .second, .val (.long (own_rv q2 (u1 + (60000 : Int64)) u2)), .second, .val (.long (u2 + (1 : Int64))), .second] [(.int (1 : Int32))])) t
      refine XS.goto X32.here hx rfl (pc0 := 57) (pc' := 61) rfl (hb hby d4_57) (by decide) (by decide) ?_
      exact k
    obtain ⟨fs, hr, hrun, hended, hW, hsame⟩ := X32.leave (v := some (.int (nar .boolean (1 : Int32)))) (fun h => by rw [Bd.returns] at h; cases h) hlk
    refine ⟨_, _, ?_, hrun, hended, _, _, rfl, ?_, ⟨_, rfl⟩, hW, hsame.mono (by decide) (by decide)⟩
    · show Steps p.tables e below (T32.setTop (mkF m 61 #[.val (.ref a0), .val (.ref a1), .val (.long q2), .second, .val (.long (own_rv q2 (u1 + (60000 : Int64)) u2)), .second, .val (.long (u2 + (1 : Int64))), .second] [(.int (1 : Int32))])) _
      exact retN X32 hx (t := .boolean) Bd.returns (by simp) (hb hby d4_61) hr
    · show Qrm4 Z a0 a1 q2 u1 u2 ka h0 n0 _ (T32.setFrames fs).heap _
      rw [show (T32.setFrames fs).heap = h32 from e32]
      refine ⟨rfl, N32, f34, f35, ?_, ?_, ?_⟩
      · rw [← own_nx_eq hok]; exact f37
      · rw [← own_si_eq hok]; exact f38
      · rw [own_b, own_c, if_neg hc8, if_neg hc8]; exact f39

theorem own_t1 (q : Int64) : -1152921504606846976 ≤ (q >>> ((3 : Int32) &&& 0x3f).toInt64).toInt ∧ (q >>> ((3 : Int32) &&& 0x3f).toInt64).toInt < 1152921504606846976 := by
  have h := c_lshr q 3 3 (by decide)
  have r := rng64 q
  rw [h]; omega
theorem own_add (b : Int64) (p : Int32) (hb : -1200000000000000000 ≤ b.toInt ∧ b.toInt ≤ 1200000000000000000) : b.toInt ≤ (b + (p &&& (262143 : Int32)).toInt64).toInt ∧ (b + (p &&& (262143 : Int32)).toInt64).toInt ≤ b.toInt + 262143 := by
  have h1 := c_mask p 262143 18 (by decide) (by decide)
  have h2 := c_i2l (p &&& 262143)
  have h3 := c_ladd b (p &&& 262143).toInt64
  have r := rng64 (b + (p &&& 262143).toInt64)
  omega
theorem own_b_le (t b : Int64) (h : b.toInt ≤ t.toInt) : (own_b t b).toInt ≤ t.toInt ∧ b.toInt ≤ (own_b t b).toInt := by
  unfold own_b; split <;> omega
theorem own_ok2 (q0 : Int64) (p1 : Int32) : OwnOk ((q0 >>> ((3 : Int32) &&& 0x3f).toInt64) + ((p1 &&& (262143 : Int32)).toInt64)) (q0 >>> ((3 : Int32) &&& 0x3f).toInt64) := by
  have h := own_t1 q0
  generalize (q0 >>> ((3 : Int32) &&& 0x3f).toInt64) = t1 at *
  have h2 := own_add t1 p1 (by omega)
  exact ⟨by omega, by omega, by omega, by omega⟩
theorem own_ok3 (q0 : Int64) (p1 p2 : Int32) : OwnOk (((q0 >>> ((3 : Int32) &&& 0x3f).toInt64) + ((p1 &&& (262143 : Int32)).toInt64)) + ((p2 &&& (262143 : Int32)).toInt64)) (own_b ((q0 >>> ((3 : Int32) &&& 0x3f).toInt64) + ((p1 &&& (262143 : Int32)).toInt64)) (q0 >>> ((3 : Int32) &&& 0x3f).toInt64)) := by
  have h := own_t1 q0
  generalize (q0 >>> ((3 : Int32) &&& 0x3f).toInt64) = t1 at *
  have h2 := own_add t1 p1 (by omega)
  generalize (t1 + ((p1 &&& (262143 : Int32)).toInt64)) = t2 at *
  have h3 := own_add t2 p2 (by omega)
  have h4 := own_b_le t2 t1 (by omega)
  exact ⟨by omega, by omega, by omega, by omega⟩
theorem own_ok4 (q0 : Int64) (p1 p2 p3 : Int32) : OwnOk ((((q0 >>> ((3 : Int32) &&& 0x3f).toInt64) + ((p1 &&& (262143 : Int32)).toInt64)) + ((p2 &&& (262143 : Int32)).toInt64)) + ((p3 &&& (262143 : Int32)).toInt64)) (own_b (((q0 >>> ((3 : Int32) &&& 0x3f).toInt64) + ((p1 &&& (262143 : Int32)).toInt64)) + ((p2 &&& (262143 : Int32)).toInt64)) (own_b ((q0 >>> ((3 : Int32) &&& 0x3f).toInt64) + ((p1 &&& (262143 : Int32)).toInt64)) (q0 >>> ((3 : Int32) &&& 0x3f).toInt64))) := by
  have h := own_t1 q0
  generalize (q0 >>> ((3 : Int32) &&& 0x3f).toInt64) = t1 at *
  have h2 := own_add t1 p1 (by omega)
  generalize (t1 + ((p1 &&& (262143 : Int32)).toInt64)) = t2 at *
  have h3 := own_add t2 p2 (by omega)
  generalize (t2 + ((p2 &&& (262143 : Int32)).toInt64)) = t3 at *
  have h4 := own_add t3 p3 (by omega)
  have h5 := own_b_le t2 t1 (by omega)
  have h6 := own_b_le t3 (own_b t2 t1) (by omega)
  exact ⟨by omega, by omega, by omega, by omega⟩
theorem own_first (t : Int64) : ¬ lcmpW t (-9223372036854775808 : Int64) < (0 : Int32) := by
  rw [lw_lt, Int64.lt_iff_toInt_lt, show (-9223372036854775808 : Int64).toInt = -9223372036854775808 from by decide]
  have r := rng64 t; omega
theorem pd_3 : parseMethodDescriptor "()V" = some ⟨[], none⟩ := by decide +kernel
theorem pd_4 : parseMethodDescriptor "(Lcom/example/map_of_brokers/mapofbrokers/map/RefusalWarnings;[JJ)Z" = some ⟨[(.object "com/example/map_of_brokers/mapofbrokers/map/RefusalWarnings"), (.array .long), .long], some .boolean⟩ := by decide +kernel
theorem ef_rm0 (m : MethodId) (q0 : Int64) (p1 : Int32) (p2 : Int32) (p3 : Int32) : entryFrame m #[(.long q0), (.int p1), (.int p2), (.int p3)] maxLocals = mkF m 0 #[.val (.long q0), .second, .val (.int p1), .val (.int p2), .val (.int p3), .unset, .unset, .unset, .unset, .unset, .unset, .unset, .unset, .unset, .unset, .unset] [] := by first | (simp [entryFrame, mkF, argsToLocals, Value.category, maxLocals]; done) | rfl
def Qrm0 (Z : State) (q0 : Int64) (p1 : Int32) (p2 : Int32) (p3 : Int32) (h0 : Heap) (n0 : Nat) (v : Option Value) (h : Heap) (L : List Loc) : Prop := v = some (.int 1) ∧ Fr n0 L
set_option maxRecDepth 65536 in
set_option maxHeartbeats 40000000 in
theorem rm0 (l : Launch) (Z : State) (aw : Array Value) (hw : ∀ d ∈ tables_1, d.before aw Z = true) (ws : List Jvm.Cond) (q0 : Int64) (p1 : Int32) (p2 : Int32) (p3 : Int32) (h0 : Heap) (n0 : Nat) (Z0 : n0 ≤ h0.size) (S_EVERY_MILLIS : Sta Z h0 "com/example/map_of_brokers/mapofbrokers/map/RefusalWarnings" "EVERY_MILLIS" "J" (.long (60000 : Int64))) :
    MetFree l x (head1 (Jvm.Cond.code x code maxLocals ret :: ws) room_1) (fun a U => a = #[(.long q0), (.int p1), (.int p2), (.int p3)] ∧ Z.Warmed39 U.vm ∧ U.heap = h0) (fun _ _ _ _ _ => True) (fun _ U o U' => ∃ v L, o = .returned v ∧ Qrm0 Z q0 p1 p2 p3 h0 n0 v U'.heap L ∧ FrameEnd U o U' L room_1.cells room_1.slots) := by
  refine MetFree.of_bodySF (plainFor_of_name pn_2) hisR ?_
  intro p e s m args below meth c s₁ Bd hml0 hP hK
  obtain ⟨rfl, hZ, hh⟩ := hP
  have hx := Bd.exec
  have hby := Bd.bytes
  have hml : c.maxLocals = 16 := hml0
  have hown : s.vm.findClass "com/example/map_of_brokers/mapofbrokers/map/RefusalWarningsRefusedPinLaw" = some m.cls := findClass_of_methodNamed Bd.named
  have hnm := (name_of_methodNamed Bd.named Bd.method).1
  have X0 : Stand p l e room_1 s m #[(.long q0), (.int p1), (.int p2), (.int p3)] below meth c s₁ [] 0 0 := Stand.of_body Bd
  have e0 : s₁.heap = h0 := by rw [← hh, Bd.state]; rfl
  have N0 := Fr.nil n0
  have hlk := Bd.notSynchronized
  show OwnGo p.tables e below _ (s₁.setTop (entryFrame m #[(.long q0), (.int p1), (.int p2), (.int p3)] maxLocals))
  rw [ef_rm0 m q0 p1 p2 p3]
  show OwnGo p.tables e below _ (s₁.setTop (mkF m 0 #[.val (.long q0), .second, .val (.int p1), .val (.int p2), .val (.int p3), .unset, .unset, .unset, .unset, .unset, .unset, .unset, .unset, .unset, .unset, .unset] []))
  refine OwnGo.of (A := s₁.setTop (mkF m 0 #[.val (.long q0), .second, .val (.int p1), .val (.int p2), .val (.int p3), .unset, .unset, .unset, .unset, .unset, .unset, .unset, .unset, .unset, .unset, .unset] [])) (B := s₁.setTop (mkF m 36 #[.val (.long q0), .second, .val (.int p1), .val (.int p2), .val (.int p3), .val (.long (q0 >>> ((3 : Int32) &&& 0x3f).toInt64)), .second, .val (.long ((q0 >>> ((3 : Int32) &&& 0x3f).toInt64) + ((p1 &&& (262143 : Int32)).toInt64))), .second, .val (.long (((q0 >>> ((3 : Int32) &&& 0x3f).toInt64) + ((p1 &&& (262143 : Int32)).toInt64)) + ((p2 &&& (262143 : Int32)).toInt64))), .second, .val (.long ((((q0 >>> ((3 : Int32) &&& 0x3f).toInt64) + ((p1 &&& (262143 : Int32)).toInt64)) + ((p2 &&& (262143 : Int32)).toInt64)) + ((p3 &&& (262143 : Int32)).toInt64))), .second, .unset, .unset, .unset] [])) (fun t k => ?_) ?_
  · show Steps p.tables e below (s₁.setTop (mkF m 0 #[.val (.long q0), .second, .val (.int p1), .val (.int p2), .val (.int p3), .unset, .unset, .unset, .unset, .unset, .unset, .unset, .unset, .unset, .unset, .unset] [])) t
    refine XS.lloadN X0.here hx rfl (hb hby at_0) rfl ?_
    show Steps p.tables e below (s₁.setTop (mkF m 1 #[.val (.long q0), .second, .val (.int p1), .val (.int p2), .val (.int p3), .unset, .unset, .unset, .unset, .unset, .unset, .unset, .unset, .unset, .unset, .unset] [(.long q0)])) t
    refine XS.iconst X0.here hx rfl (hb hby at_1) ?_
    show Steps p.tables e below (s₁.setTop (mkF m 2 #[.val (.long q0), .second, .val (.int p1), .val (.int p2), .val (.int p3), .unset, .unset, .unset, .unset, .unset, .unset, .unset, .unset, .unset, .unset, .unset] [(.int (3 : Int32)), (.long q0)])) t
    refine XS.lshr X0.here hx rfl (hb hby at_2) rfl ?_
    show Steps p.tables e below (s₁.setTop (mkF m 3 #[.val (.long q0), .second, .val (.int p1), .val (.int p2), .val (.int p3), .unset, .unset, .unset, .unset, .unset, .unset, .unset, .unset, .unset, .unset, .unset] [(.long (q0 >>> ((3 : Int32) &&& 0x3f).toInt64))])) t
    refine XS.lstore X0.here hx rfl (hb hby at_3) rfl (l' := #[.val (.long q0), .second, .val (.int p1), .val (.int p2), .val (.int p3), .val (.long (q0 >>> ((3 : Int32) &&& 0x3f).toInt64)), .second, .unset, .unset, .unset, .unset, .unset, .unset, .unset, .unset, .unset]) rfl ?_
    show Steps p.tables e below (s₁.setTop (mkF m 5 #[.val (.long q0), .second, .val (.int p1), .val (.int p2), .val (.int p3), .val (.long (q0 >>> ((3 : Int32) &&& 0x3f).toInt64)), .second, .unset, .unset, .unset, .unset, .unset, .unset, .unset, .unset, .unset] [])) t
    refine XS.lload X0.here hx rfl (hb hby at_5) rfl ?_
    show Steps p.tables e below (s₁.setTop (mkF m 7 #[.val (.long q0), .second, .val (.int p1), .val (.int p2), .val (.int p3), .val (.long (q0 >>> ((3 : Int32) &&& 0x3f).toInt64)), .second, .unset, .unset, .unset, .unset, .unset, .unset, .unset, .unset, .unset] [(.long (q0 >>> ((3 : Int32) &&& 0x3f).toInt64))])) t
    refine XS.iloadN X0.here hx rfl (hb hby at_7) rfl ?_
    show Steps p.tables e below (s₁.setTop (mkF m 8 #[.val (.long q0), .second, .val (.int p1), .val (.int p2), .val (.int p3), .val (.long (q0 >>> ((3 : Int32) &&& 0x3f).toInt64)), .second, .unset, .unset, .unset, .unset, .unset, .unset, .unset, .unset, .unset] [(.int p1), (.long (q0 >>> ((3 : Int32) &&& 0x3f).toInt64))])) t
    refine X0.ldcInt hx hown (mvT hZ (hw _ (List.mem_of_getElem? (i := 0) rfl))) (g := (mkF m 8 #[.val (.long q0), .second, .val (.int p1), .val (.int p2), .val (.int p3), .val (.long (q0 >>> ((3 : Int32) &&& 0x3f).toInt64)), .second, .unset, .unset, .unset, .unset, .unset, .unset, .unset, .unset, .unset] [(.int p1), (.long (q0 >>> ((3 : Int32) &&& 0x3f).toInt64))])) rfl (hb hby at_8) _ ?_
    show Steps p.tables e below (s₁.setTop (mkF m 10 #[.val (.long q0), .second, .val (.int p1), .val (.int p2), .val (.int p3), .val (.long (q0 >>> ((3 : Int32) &&& 0x3f).toInt64)), .second, .unset, .unset, .unset, .unset, .unset, .unset, .unset, .unset, .unset] [(.int (262143 : Int32)), (.int p1), (.long (q0 >>> ((3 : Int32) &&& 0x3f).toInt64))])) t
    refine XS.iand X0.here hx rfl (hb hby at_10) rfl ?_
    show Steps p.tables e below (s₁.setTop (mkF m 11 #[.val (.long q0), .second, .val (.int p1), .val (.int p2), .val (.int p3), .val (.long (q0 >>> ((3 : Int32) &&& 0x3f).toInt64)), .second, .unset, .unset, .unset, .unset, .unset, .unset, .unset, .unset, .unset] [(.int (p1 &&& (262143 : Int32))), (.long (q0 >>> ((3 : Int32) &&& 0x3f).toInt64))])) t
    refine XS.i2l X0.here hx rfl (hb hby at_11) rfl ?_
    show Steps p.tables e below (s₁.setTop (mkF m 12 #[.val (.long q0), .second, .val (.int p1), .val (.int p2), .val (.int p3), .val (.long (q0 >>> ((3 : Int32) &&& 0x3f).toInt64)), .second, .unset, .unset, .unset, .unset, .unset, .unset, .unset, .unset, .unset] [(.long ((p1 &&& (262143 : Int32)).toInt64)), (.long (q0 >>> ((3 : Int32) &&& 0x3f).toInt64))])) t
    refine XS.ladd X0.here hx rfl (hb hby at_12) rfl ?_
    show Steps p.tables e below (s₁.setTop (mkF m 13 #[.val (.long q0), .second, .val (.int p1), .val (.int p2), .val (.int p3), .val (.long (q0 >>> ((3 : Int32) &&& 0x3f).toInt64)), .second, .unset, .unset, .unset, .unset, .unset, .unset, .unset, .unset, .unset] [(.long ((q0 >>> ((3 : Int32) &&& 0x3f).toInt64) + ((p1 &&& (262143 : Int32)).toInt64)))])) t
    refine XS.lstore X0.here hx rfl (hb hby at_13) rfl (l' := #[.val (.long q0), .second, .val (.int p1), .val (.int p2), .val (.int p3), .val (.long (q0 >>> ((3 : Int32) &&& 0x3f).toInt64)), .second, .val (.long ((q0 >>> ((3 : Int32) &&& 0x3f).toInt64) + ((p1 &&& (262143 : Int32)).toInt64))), .second, .unset, .unset, .unset, .unset, .unset, .unset, .unset]) rfl ?_
    show Steps p.tables e below (s₁.setTop (mkF m 15 #[.val (.long q0), .second, .val (.int p1), .val (.int p2), .val (.int p3), .val (.long (q0 >>> ((3 : Int32) &&& 0x3f).toInt64)), .second, .val (.long ((q0 >>> ((3 : Int32) &&& 0x3f).toInt64) + ((p1 &&& (262143 : Int32)).toInt64))), .second, .unset, .unset, .unset, .unset, .unset, .unset, .unset] [])) t
    refine XS.lload X0.here hx rfl (hb hby at_15) rfl ?_
    show Steps p.tables e below (s₁.setTop (mkF m 17 #[.val (.long q0), .second, .val (.int p1), .val (.int p2), .val (.int p3), .val (.long (q0 >>> ((3 : Int32) &&& 0x3f).toInt64)), .second, .val (.long ((q0 >>> ((3 : Int32) &&& 0x3f).toInt64) + ((p1 &&& (262143 : Int32)).toInt64))), .second, .unset, .unset, .unset, .unset, .unset, .unset, .unset] [(.long ((q0 >>> ((3 : Int32) &&& 0x3f).toInt64) + ((p1 &&& (262143 : Int32)).toInt64)))])) t
    refine XS.iloadN X0.here hx rfl (hb hby at_17) rfl ?_
    show Steps p.tables e below (s₁.setTop (mkF m 18 #[.val (.long q0), .second, .val (.int p1), .val (.int p2), .val (.int p3), .val (.long (q0 >>> ((3 : Int32) &&& 0x3f).toInt64)), .second, .val (.long ((q0 >>> ((3 : Int32) &&& 0x3f).toInt64) + ((p1 &&& (262143 : Int32)).toInt64))), .second, .unset, .unset, .unset, .unset, .unset, .unset, .unset] [(.int p2), (.long ((q0 >>> ((3 : Int32) &&& 0x3f).toInt64) + ((p1 &&& (262143 : Int32)).toInt64)))])) t
    refine X0.ldcInt hx hown (mvT hZ (hw _ (List.mem_of_getElem? (i := 0) rfl))) (g := (mkF m 18 #[.val (.long q0), .second, .val (.int p1), .val (.int p2), .val (.int p3), .val (.long (q0 >>> ((3 : Int32) &&& 0x3f).toInt64)), .second, .val (.long ((q0 >>> ((3 : Int32) &&& 0x3f).toInt64) + ((p1 &&& (262143 : Int32)).toInt64))), .second, .unset, .unset, .unset, .unset, .unset, .unset, .unset] [(.int p2), (.long ((q0 >>> ((3 : Int32) &&& 0x3f).toInt64) + ((p1 &&& (262143 : Int32)).toInt64)))])) rfl (hb hby at_18) _ ?_
    show Steps p.tables e below (s₁.setTop (mkF m 20 #[.val (.long q0), .second, .val (.int p1), .val (.int p2), .val (.int p3), .val (.long (q0 >>> ((3 : Int32) &&& 0x3f).toInt64)), .second, .val (.long ((q0 >>> ((3 : Int32) &&& 0x3f).toInt64) + ((p1 &&& (262143 : Int32)).toInt64))), .second, .unset, .unset, .unset, .unset, .unset, .unset, .unset] [(.int (262143 : Int32)), (.int p2), (.long ((q0 >>> ((3 : Int32) &&& 0x3f).toInt64) + ((p1 &&& (262143 : Int32)).toInt64)))])) t
    refine XS.iand X0.here hx rfl (hb hby at_20) rfl ?_
    show Steps p.tables e below (s₁.setTop (mkF m 21 #[.val (.long q0), .second, .val (.int p1), .val (.int p2), .val (.int p3), .val (.long (q0 >>> ((3 : Int32) &&& 0x3f).toInt64)), .second, .val (.long ((q0 >>> ((3 : Int32) &&& 0x3f).toInt64) + ((p1 &&& (262143 : Int32)).toInt64))), .second, .unset, .unset, .unset, .unset, .unset, .unset, .unset] [(.int (p2 &&& (262143 : Int32))), (.long ((q0 >>> ((3 : Int32) &&& 0x3f).toInt64) + ((p1 &&& (262143 : Int32)).toInt64)))])) t
    refine XS.i2l X0.here hx rfl (hb hby at_21) rfl ?_
    show Steps p.tables e below (s₁.setTop (mkF m 22 #[.val (.long q0), .second, .val (.int p1), .val (.int p2), .val (.int p3), .val (.long (q0 >>> ((3 : Int32) &&& 0x3f).toInt64)), .second, .val (.long ((q0 >>> ((3 : Int32) &&& 0x3f).toInt64) + ((p1 &&& (262143 : Int32)).toInt64))), .second, .unset, .unset, .unset, .unset, .unset, .unset, .unset] [(.long ((p2 &&& (262143 : Int32)).toInt64)), (.long ((q0 >>> ((3 : Int32) &&& 0x3f).toInt64) + ((p1 &&& (262143 : Int32)).toInt64)))])) t
    refine XS.ladd X0.here hx rfl (hb hby at_22) rfl ?_
    show Steps p.tables e below (s₁.setTop (mkF m 23 #[.val (.long q0), .second, .val (.int p1), .val (.int p2), .val (.int p3), .val (.long (q0 >>> ((3 : Int32) &&& 0x3f).toInt64)), .second, .val (.long ((q0 >>> ((3 : Int32) &&& 0x3f).toInt64) + ((p1 &&& (262143 : Int32)).toInt64))), .second, .unset, .unset, .unset, .unset, .unset, .unset, .unset] [(.long (((q0 >>> ((3 : Int32) &&& 0x3f).toInt64) + ((p1 &&& (262143 : Int32)).toInt64)) + ((p2 &&& (262143 : Int32)).toInt64)))])) t
    refine XS.lstore X0.here hx rfl (hb hby at_23) rfl (l' := #[.val (.long q0), .second, .val (.int p1), .val (.int p2), .val (.int p3), .val (.long (q0 >>> ((3 : Int32) &&& 0x3f).toInt64)), .second, .val (.long ((q0 >>> ((3 : Int32) &&& 0x3f).toInt64) + ((p1 &&& (262143 : Int32)).toInt64))), .second, .val (.long (((q0 >>> ((3 : Int32) &&& 0x3f).toInt64) + ((p1 &&& (262143 : Int32)).toInt64)) + ((p2 &&& (262143 : Int32)).toInt64))), .second, .unset, .unset, .unset, .unset, .unset]) rfl ?_
    show Steps p.tables e below (s₁.setTop (mkF m 25 #[.val (.long q0), .second, .val (.int p1), .val (.int p2), .val (.int p3), .val (.long (q0 >>> ((3 : Int32) &&& 0x3f).toInt64)), .second, .val (.long ((q0 >>> ((3 : Int32) &&& 0x3f).toInt64) + ((p1 &&& (262143 : Int32)).toInt64))), .second, .val (.long (((q0 >>> ((3 : Int32) &&& 0x3f).toInt64) + ((p1 &&& (262143 : Int32)).toInt64)) + ((p2 &&& (262143 : Int32)).toInt64))), .second, .unset, .unset, .unset, .unset, .unset] [])) t
    refine XS.lload X0.here hx rfl (hb hby at_25) rfl ?_
    show Steps p.tables e below (s₁.setTop (mkF m 27 #[.val (.long q0), .second, .val (.int p1), .val (.int p2), .val (.int p3), .val (.long (q0 >>> ((3 : Int32) &&& 0x3f).toInt64)), .second, .val (.long ((q0 >>> ((3 : Int32) &&& 0x3f).toInt64) + ((p1 &&& (262143 : Int32)).toInt64))), .second, .val (.long (((q0 >>> ((3 : Int32) &&& 0x3f).toInt64) + ((p1 &&& (262143 : Int32)).toInt64)) + ((p2 &&& (262143 : Int32)).toInt64))), .second, .unset, .unset, .unset, .unset, .unset] [(.long (((q0 >>> ((3 : Int32) &&& 0x3f).toInt64) + ((p1 &&& (262143 : Int32)).toInt64)) + ((p2 &&& (262143 : Int32)).toInt64)))])) t
    refine XS.iload X0.here hx rfl (hb hby at_27) rfl ?_
    show Steps p.tables e below (s₁.setTop (mkF m 29 #[.val (.long q0), .second, .val (.int p1), .val (.int p2), .val (.int p3), .val (.long (q0 >>> ((3 : Int32) &&& 0x3f).toInt64)), .second, .val (.long ((q0 >>> ((3 : Int32) &&& 0x3f).toInt64) + ((p1 &&& (262143 : Int32)).toInt64))), .second, .val (.long (((q0 >>> ((3 : Int32) &&& 0x3f).toInt64) + ((p1 &&& (262143 : Int32)).toInt64)) + ((p2 &&& (262143 : Int32)).toInt64))), .second, .unset, .unset, .unset, .unset, .unset] [(.int p3), (.long (((q0 >>> ((3 : Int32) &&& 0x3f).toInt64) + ((p1 &&& (262143 : Int32)).toInt64)) + ((p2 &&& (262143 : Int32)).toInt64)))])) t
    refine X0.ldcInt hx hown (mvT hZ (hw _ (List.mem_of_getElem? (i := 0) rfl))) (g := (mkF m 29 #[.val (.long q0), .second, .val (.int p1), .val (.int p2), .val (.int p3), .val (.long (q0 >>> ((3 : Int32) &&& 0x3f).toInt64)), .second, .val (.long ((q0 >>> ((3 : Int32) &&& 0x3f).toInt64) + ((p1 &&& (262143 : Int32)).toInt64))), .second, .val (.long (((q0 >>> ((3 : Int32) &&& 0x3f).toInt64) + ((p1 &&& (262143 : Int32)).toInt64)) + ((p2 &&& (262143 : Int32)).toInt64))), .second, .unset, .unset, .unset, .unset, .unset] [(.int p3), (.long (((q0 >>> ((3 : Int32) &&& 0x3f).toInt64) + ((p1 &&& (262143 : Int32)).toInt64)) + ((p2 &&& (262143 : Int32)).toInt64)))])) rfl (hb hby at_29) _ ?_
    show Steps p.tables e below (s₁.setTop (mkF m 31 #[.val (.long q0), .second, .val (.int p1), .val (.int p2), .val (.int p3), .val (.long (q0 >>> ((3 : Int32) &&& 0x3f).toInt64)), .second, .val (.long ((q0 >>> ((3 : Int32) &&& 0x3f).toInt64) + ((p1 &&& (262143 : Int32)).toInt64))), .second, .val (.long (((q0 >>> ((3 : Int32) &&& 0x3f).toInt64) + ((p1 &&& (262143 : Int32)).toInt64)) + ((p2 &&& (262143 : Int32)).toInt64))), .second, .unset, .unset, .unset, .unset, .unset] [(.int (262143 : Int32)), (.int p3), (.long (((q0 >>> ((3 : Int32) &&& 0x3f).toInt64) + ((p1 &&& (262143 : Int32)).toInt64)) + ((p2 &&& (262143 : Int32)).toInt64)))])) t
    refine XS.iand X0.here hx rfl (hb hby at_31) rfl ?_
    show Steps p.tables e below (s₁.setTop (mkF m 32 #[.val (.long q0), .second, .val (.int p1), .val (.int p2), .val (.int p3), .val (.long (q0 >>> ((3 : Int32) &&& 0x3f).toInt64)), .second, .val (.long ((q0 >>> ((3 : Int32) &&& 0x3f).toInt64) + ((p1 &&& (262143 : Int32)).toInt64))), .second, .val (.long (((q0 >>> ((3 : Int32) &&& 0x3f).toInt64) + ((p1 &&& (262143 : Int32)).toInt64)) + ((p2 &&& (262143 : Int32)).toInt64))), .second, .unset, .unset, .unset, .unset, .unset] [(.int (p3 &&& (262143 : Int32))), (.long (((q0 >>> ((3 : Int32) &&& 0x3f).toInt64) + ((p1 &&& (262143 : Int32)).toInt64)) + ((p2 &&& (262143 : Int32)).toInt64)))])) t
    refine XS.i2l X0.here hx rfl (hb hby at_32) rfl ?_
    show Steps p.tables e below (s₁.setTop (mkF m 33 #[.val (.long q0), .second, .val (.int p1), .val (.int p2), .val (.int p3), .val (.long (q0 >>> ((3 : Int32) &&& 0x3f).toInt64)), .second, .val (.long ((q0 >>> ((3 : Int32) &&& 0x3f).toInt64) + ((p1 &&& (262143 : Int32)).toInt64))), .second, .val (.long (((q0 >>> ((3 : Int32) &&& 0x3f).toInt64) + ((p1 &&& (262143 : Int32)).toInt64)) + ((p2 &&& (262143 : Int32)).toInt64))), .second, .unset, .unset, .unset, .unset, .unset] [(.long ((p3 &&& (262143 : Int32)).toInt64)), (.long (((q0 >>> ((3 : Int32) &&& 0x3f).toInt64) + ((p1 &&& (262143 : Int32)).toInt64)) + ((p2 &&& (262143 : Int32)).toInt64)))])) t
    refine XS.ladd X0.here hx rfl (hb hby at_33) rfl ?_
    show Steps p.tables e below (s₁.setTop (mkF m 34 #[.val (.long q0), .second, .val (.int p1), .val (.int p2), .val (.int p3), .val (.long (q0 >>> ((3 : Int32) &&& 0x3f).toInt64)), .second, .val (.long ((q0 >>> ((3 : Int32) &&& 0x3f).toInt64) + ((p1 &&& (262143 : Int32)).toInt64))), .second, .val (.long (((q0 >>> ((3 : Int32) &&& 0x3f).toInt64) + ((p1 &&& (262143 : Int32)).toInt64)) + ((p2 &&& (262143 : Int32)).toInt64))), .second, .unset, .unset, .unset, .unset, .unset] [(.long ((((q0 >>> ((3 : Int32) &&& 0x3f).toInt64) + ((p1 &&& (262143 : Int32)).toInt64)) + ((p2 &&& (262143 : Int32)).toInt64)) + ((p3 &&& (262143 : Int32)).toInt64)))])) t
    refine XS.lstore X0.here hx rfl (hb hby at_34) rfl (l' := #[.val (.long q0), .second, .val (.int p1), .val (.int p2), .val (.int p3), .val (.long (q0 >>> ((3 : Int32) &&& 0x3f).toInt64)), .second, .val (.long ((q0 >>> ((3 : Int32) &&& 0x3f).toInt64) + ((p1 &&& (262143 : Int32)).toInt64))), .second, .val (.long (((q0 >>> ((3 : Int32) &&& 0x3f).toInt64) + ((p1 &&& (262143 : Int32)).toInt64)) + ((p2 &&& (262143 : Int32)).toInt64))), .second, .val (.long ((((q0 >>> ((3 : Int32) &&& 0x3f).toInt64) + ((p1 &&& (262143 : Int32)).toInt64)) + ((p2 &&& (262143 : Int32)).toInt64)) + ((p3 &&& (262143 : Int32)).toInt64))), .second, .unset, .unset, .unset]) rfl ?_
    exact k
  obtain ⟨T1, h1, X1, e1, E1, A1, D1, -, st1⟩ := newO X0 hx hZ hown (hw _ (List.mem_of_getElem? (i := 1) rfl)) (hw _ (List.mem_of_getElem? (i := 2) rfl)) (hw _ (List.mem_of_getElem? (i := 3) rfl)) e0 (g := (mkF m 36 #[.val (.long q0), .second, .val (.int p1), .val (.int p2), .val (.int p3), .val (.long (q0 >>> ((3 : Int32) &&& 0x3f).toInt64)), .second, .val (.long ((q0 >>> ((3 : Int32) &&& 0x3f).toInt64) + ((p1 &&& (262143 : Int32)).toInt64))), .second, .val (.long (((q0 >>> ((3 : Int32) &&& 0x3f).toInt64) + ((p1 &&& (262143 : Int32)).toInt64)) + ((p2 &&& (262143 : Int32)).toInt64))), .second, .val (.long ((((q0 >>> ((3 : Int32) &&& 0x3f).toInt64) + ((p1 &&& (262143 : Int32)).toInt64)) + ((p2 &&& (262143 : Int32)).toInt64)) + ((p3 &&& (262143 : Int32)).toInt64))), .second, .unset, .unset, .unset] [])) rfl (hb hby at_36) (by decide) (by decide)
  obtain ⟨b1, g1⟩ : ∃ z, z = h0.size := ⟨_, rfl⟩
  rw [← g1] at A1 D1 st1
  refine OwnGo.of st1 ?_
  have g_b1 : n0 ≤ b1 := Nat.le_trans Z0 (Nat.le_of_eq g1.symm)
  have f2 : n0 ≤ h1.size := Nat.le_trans Z0 E1.1
  have f3 : Sta Z h1 "com/example/map_of_brokers/mapofbrokers/map/RefusalWarnings" "EVERY_MILLIS" "J" (.long (60000 : Int64)) := S_EVERY_MILLIS.ext E1
  have f4 : Fld Z h1 b1 "com/example/map_of_brokers/mapofbrokers/map/RefusalWarnings" "nextWarning" "J" (.long (0 : Int64)) := D1 (Or.inl (hw _ (List.mem_of_getElem? (i := 12) rfl))) (ty := .long) (by decide)
  have f5 : Fld Z h1 b1 "com/example/map_of_brokers/mapofbrokers/map/RefusalWarnings" "sinceWarning" "J" (.long (0 : Int64)) := D1 (Or.inl (hw _ (List.mem_of_getElem? (i := 20) rfl))) (ty := .long) (by decide)
  show OwnGo p.tables e below _ (T1.setTop (mkF m 39 #[.val (.long q0), .second, .val (.int p1), .val (.int p2), .val (.int p3), .val (.long (q0 >>> ((3 : Int32) &&& 0x3f).toInt64)), .second, .val (.long ((q0 >>> ((3 : Int32) &&& 0x3f).toInt64) + ((p1 &&& (262143 : Int32)).toInt64))), .second, .val (.long (((q0 >>> ((3 : Int32) &&& 0x3f).toInt64) + ((p1 &&& (262143 : Int32)).toInt64)) + ((p2 &&& (262143 : Int32)).toInt64))), .second, .val (.long ((((q0 >>> ((3 : Int32) &&& 0x3f).toInt64) + ((p1 &&& (262143 : Int32)).toInt64)) + ((p2 &&& (262143 : Int32)).toInt64)) + ((p3 &&& (262143 : Int32)).toInt64))), .second, .unset, .unset, .unset] [(.ref b1)]))
  refine OwnGo.of (A := T1.setTop (mkF m 39 #[.val (.long q0), .second, .val (.int p1), .val (.int p2), .val (.int p3), .val (.long (q0 >>> ((3 : Int32) &&& 0x3f).toInt64)), .second, .val (.long ((q0 >>> ((3 : Int32) &&& 0x3f).toInt64) + ((p1 &&& (262143 : Int32)).toInt64))), .second, .val (.long (((q0 >>> ((3 : Int32) &&& 0x3f).toInt64) + ((p1 &&& (262143 : Int32)).toInt64)) + ((p2 &&& (262143 : Int32)).toInt64))), .second, .val (.long ((((q0 >>> ((3 : Int32) &&& 0x3f).toInt64) + ((p1 &&& (262143 : Int32)).toInt64)) + ((p2 &&& (262143 : Int32)).toInt64)) + ((p3 &&& (262143 : Int32)).toInt64))), .second, .unset, .unset, .unset] [(.ref b1)])) (B := T1.setTop (mkF m 40 #[.val (.long q0), .second, .val (.int p1), .val (.int p2), .val (.int p3), .val (.long (q0 >>> ((3 : Int32) &&& 0x3f).toInt64)), .second, .val (.long ((q0 >>> ((3 : Int32) &&& 0x3f).toInt64) + ((p1 &&& (262143 : Int32)).toInt64))), .second, .val (.long (((q0 >>> ((3 : Int32) &&& 0x3f).toInt64) + ((p1 &&& (262143 : Int32)).toInt64)) + ((p2 &&& (262143 : Int32)).toInt64))), .second, .val (.long ((((q0 >>> ((3 : Int32) &&& 0x3f).toInt64) + ((p1 &&& (262143 : Int32)).toInt64)) + ((p2 &&& (262143 : Int32)).toInt64)) + ((p3 &&& (262143 : Int32)).toInt64))), .second, .unset, .unset, .unset] [(.ref b1), (.ref b1)])) (fun t k => ?_) ?_
  · show Steps p.tables e below (T1.setTop (mkF m 39 #[.val (.long q0), .second, .val (.int p1), .val (.int p2), .val (.int p3), .val (.long (q0 >>> ((3 : Int32) &&& 0x3f).toInt64)), .second, .val (.long ((q0 >>> ((3 : Int32) &&& 0x3f).toInt64) + ((p1 &&& (262143 : Int32)).toInt64))), .second, .val (.long (((q0 >>> ((3 : Int32) &&& 0x3f).toInt64) + ((p1 &&& (262143 : Int32)).toInt64)) + ((p2 &&& (262143 : Int32)).toInt64))), .second, .val (.long ((((q0 >>> ((3 : Int32) &&& 0x3f).toInt64) + ((p1 &&& (262143 : Int32)).toInt64)) + ((p2 &&& (262143 : Int32)).toInt64)) + ((p3 &&& (262143 : Int32)).toInt64))), .second, .unset, .unset, .unset] [(.ref b1)])) t
    refine XS.dup X1.here hx rfl (hb hby at_39) rfl rfl ?_
    exact k
  obtain ⟨_, _, ⟨T6, L6, k6, n6⟩, -, X6, ⟨Lc6, hQ6, l6, y6, z6⟩, st6⟩ := X1.specialBack hx (y := (⟨"com/example/map_of_brokers/mapofbrokers/map/RefusalWarnings", "<init>", "()V"⟩ : MethodName)) rfl hown (mvT hZ (hw _ (List.mem_of_getElem? (i := 4) rfl))) (mvT hZ (hw _ (List.mem_of_getElem? (i := 5) rfl))) (mvT hZ (hw _ (List.mem_of_getElem? (i := 6) rfl))) (by decide) (backOf (W := 1) (rm1 l Z aw hw [] b1  h1 n0 f2 A1 f4 f5 g_b1) hZ (hw _ (List.mem_of_getElem? (i := 6) rfl)) (hw _ (List.mem_of_getElem? (i := 3) rfl)) (by decide) (by decide)) (g := (mkF m 40 #[.val (.long q0), .second, .val (.int p1), .val (.int p2), .val (.int p3), .val (.long (q0 >>> ((3 : Int32) &&& 0x3f).toInt64)), .second, .val (.long ((q0 >>> ((3 : Int32) &&& 0x3f).toInt64) + ((p1 &&& (262143 : Int32)).toInt64))), .second, .val (.long (((q0 >>> ((3 : Int32) &&& 0x3f).toInt64) + ((p1 &&& (262143 : Int32)).toInt64)) + ((p2 &&& (262143 : Int32)).toInt64))), .second, .val (.long ((((q0 >>> ((3 : Int32) &&& 0x3f).toInt64) + ((p1 &&& (262143 : Int32)).toInt64)) + ((p2 &&& (262143 : Int32)).toInt64)) + ((p3 &&& (262143 : Int32)).toInt64))), .second, .unset, .unset, .unset] [(.ref b1), (.ref b1)])) rfl (by rw [hml]; rfl) (Steps.refl _) (a := b1) (argsL := []) (rest := [(.ref b1)]) (lenOf pd_3 rfl) rfl (by show 2 * 0 + _ ≤ _; exact Nat.le_of_eq rfl) (hb hby at_40) (fun _ _ => ⟨rfl, e1, (by decide : 1 + 0 ≤ _), (by decide : 2 + 0 ≤ _)⟩)
  dsimp only [Pt.U, Pt.locs, Pt.cells, Pt.slots] at X6 l6 y6 z6 st6 hQ6
  subst l6 y6 z6
  obtain ⟨rfl, N6q, K6, y6_0, y6_1, y6_2⟩ := hQ6
  have f7 : n0 ≤ T6.heap.size := Nat.le_trans f2 K6.1
  have f8 : Sta Z T6.heap "com/example/map_of_brokers/mapofbrokers/map/RefusalWarnings" "EVERY_MILLIS" "J" (.long (60000 : Int64)) := own_sta_keep f3 K6 (allS (own_ns_exa A1) all0)
  have f9 : Exa Z T6.heap b1 "com/example/map_of_brokers/mapofbrokers/map/RefusalWarnings" := A1.keep K6
  have N6 := Fr.app N0 N6q
  refine OwnGo.of (fun t k => st6.trans k) ?_
  show OwnGo p.tables e below _ (T6.setTop (mkF m 43 #[.val (.long q0), .second, .val (.int p1), .val (.int p2), .val (.int p3), .val (.long (q0 >>> ((3 : Int32) &&& 0x3f).toInt64)), .second, .val (.long ((q0 >>> ((3 : Int32) &&& 0x3f).toInt64) + ((p1 &&& (262143 : Int32)).toInt64))), .second, .val (.long (((q0 >>> ((3 : Int32) &&& 0x3f).toInt64) + ((p1 &&& (262143 : Int32)).toInt64)) + ((p2 &&& (262143 : Int32)).toInt64))), .second, .val (.long ((((q0 >>> ((3 : Int32) &&& 0x3f).toInt64) + ((p1 &&& (262143 : Int32)).toInt64)) + ((p2 &&& (262143 : Int32)).toInt64)) + ((p3 &&& (262143 : Int32)).toInt64))), .second, .unset, .unset, .unset] [(.ref b1)]))
  refine OwnGo.of (A := T6.setTop (mkF m 43 #[.val (.long q0), .second, .val (.int p1), .val (.int p2), .val (.int p3), .val (.long (q0 >>> ((3 : Int32) &&& 0x3f).toInt64)), .second, .val (.long ((q0 >>> ((3 : Int32) &&& 0x3f).toInt64) + ((p1 &&& (262143 : Int32)).toInt64))), .second, .val (.long (((q0 >>> ((3 : Int32) &&& 0x3f).toInt64) + ((p1 &&& (262143 : Int32)).toInt64)) + ((p2 &&& (262143 : Int32)).toInt64))), .second, .val (.long ((((q0 >>> ((3 : Int32) &&& 0x3f).toInt64) + ((p1 &&& (262143 : Int32)).toInt64)) + ((p2 &&& (262143 : Int32)).toInt64)) + ((p3 &&& (262143 : Int32)).toInt64))), .second, .unset, .unset, .unset] [(.ref b1)])) (B := T6.setTop (mkF m 46 #[.val (.long q0), .second, .val (.int p1), .val (.int p2), .val (.int p3), .val (.long (q0 >>> ((3 : Int32) &&& 0x3f).toInt64)), .second, .val (.long ((q0 >>> ((3 : Int32) &&& 0x3f).toInt64) + ((p1 &&& (262143 : Int32)).toInt64))), .second, .val (.long (((q0 >>> ((3 : Int32) &&& 0x3f).toInt64) + ((p1 &&& (262143 : Int32)).toInt64)) + ((p2 &&& (262143 : Int32)).toInt64))), .second, .val (.long ((((q0 >>> ((3 : Int32) &&& 0x3f).toInt64) + ((p1 &&& (262143 : Int32)).toInt64)) + ((p2 &&& (262143 : Int32)).toInt64)) + ((p3 &&& (262143 : Int32)).toInt64))), .second, .val (.ref b1), .unset, .unset] [(.int (2 : Int32))])) (fun t k => ?_) ?_
  · show Steps p.tables e below (T6.setTop (mkF m 43 #[.val (.long q0), .second, .val (.int p1), .val (.int p2), .val (.int p3), .val (.long (q0 >>> ((3 : Int32) &&& 0x3f).toInt64)), .second, .val (.long ((q0 >>> ((3 : Int32) &&& 0x3f).toInt64) + ((p1 &&& (262143 : Int32)).toInt64))), .second, .val (.long (((q0 >>> ((3 : Int32) &&& 0x3f).toInt64) + ((p1 &&& (262143 : Int32)).toInt64)) + ((p2 &&& (262143 : Int32)).toInt64))), .second, .val (.long ((((q0 >>> ((3 : Int32) &&& 0x3f).toInt64) + ((p1 &&& (262143 : Int32)).toInt64)) + ((p2 &&& (262143 : Int32)).toInt64)) + ((p3 &&& (262143 : Int32)).toInt64))), .second, .unset, .unset, .unset] [(.ref b1)])) t
    refine XS.astore X6.here hx rfl (hb hby at_43) rfl rfl (l' := #[.val (.long q0), .second, .val (.int p1), .val (.int p2), .val (.int p3), .val (.long (q0 >>> ((3 : Int32) &&& 0x3f).toInt64)), .second, .val (.long ((q0 >>> ((3 : Int32) &&& 0x3f).toInt64) + ((p1 &&& (262143 : Int32)).toInt64))), .second, .val (.long (((q0 >>> ((3 : Int32) &&& 0x3f).toInt64) + ((p1 &&& (262143 : Int32)).toInt64)) + ((p2 &&& (262143 : Int32)).toInt64))), .second, .val (.long ((((q0 >>> ((3 : Int32) &&& 0x3f).toInt64) + ((p1 &&& (262143 : Int32)).toInt64)) + ((p2 &&& (262143 : Int32)).toInt64)) + ((p3 &&& (262143 : Int32)).toInt64))), .second, .val (.ref b1), .unset, .unset]) rfl ?_
    show Steps p.tables e below (T6.setTop (mkF m 45 #[.val (.long q0), .second, .val (.int p1), .val (.int p2), .val (.int p3), .val (.long (q0 >>> ((3 : Int32) &&& 0x3f).toInt64)), .second, .val (.long ((q0 >>> ((3 : Int32) &&& 0x3f).toInt64) + ((p1 &&& (262143 : Int32)).toInt64))), .second, .val (.long (((q0 >>> ((3 : Int32) &&& 0x3f).toInt64) + ((p1 &&& (262143 : Int32)).toInt64)) + ((p2 &&& (262143 : Int32)).toInt64))), .second, .val (.long ((((q0 >>> ((3 : Int32) &&& 0x3f).toInt64) + ((p1 &&& (262143 : Int32)).toInt64)) + ((p2 &&& (262143 : Int32)).toInt64)) + ((p3 &&& (262143 : Int32)).toInt64))), .second, .val (.ref b1), .unset, .unset] [])) t
    refine XS.iconst X6.here hx rfl (hb hby at_45) ?_
    exact k
  obtain ⟨T10, h10, k10, X10, e10, E10, A10, st10⟩ := newP X6 hx hZ (hw _ (List.mem_of_getElem? (i := 13) rfl)) rfl (g := (mkF m 46 #[.val (.long q0), .second, .val (.int p1), .val (.int p2), .val (.int p3), .val (.long (q0 >>> ((3 : Int32) &&& 0x3f).toInt64)), .second, .val (.long ((q0 >>> ((3 : Int32) &&& 0x3f).toInt64) + ((p1 &&& (262143 : Int32)).toInt64))), .second, .val (.long (((q0 >>> ((3 : Int32) &&& 0x3f).toInt64) + ((p1 &&& (262143 : Int32)).toInt64)) + ((p2 &&& (262143 : Int32)).toInt64))), .second, .val (.long ((((q0 >>> ((3 : Int32) &&& 0x3f).toInt64) + ((p1 &&& (262143 : Int32)).toInt64)) + ((p2 &&& (262143 : Int32)).toInt64)) + ((p3 &&& (262143 : Int32)).toInt64))), .second, .val (.ref b1), .unset, .unset] [(.int (2 : Int32))])) rfl (hb hby at_46) rfl (by decide) (cap := 2) (by decide) (by decide) (by decide) (by decide)
  obtain ⟨b10, g10⟩ : ∃ z, z = T6.heap.size := ⟨_, rfl⟩
  rw [← g10] at A10 st10
  refine OwnGo.of st10 ?_
  have ne_b1_b10 : b1 ≠ b10 := Nat.ne_of_lt (Nat.lt_of_lt_of_le y6_0.lt (Nat.le_of_eq g10.symm))
  have g_b10 : n0 ≤ b10 := Nat.le_trans f7 (Nat.le_of_eq g10.symm)
  have f11 : n0 ≤ h10.size := Nat.le_trans f7 E10.1
  have f12 : Sta Z h10 "com/example/map_of_brokers/mapofbrokers/map/RefusalWarnings" "EVERY_MILLIS" "J" (.long (60000 : Int64)) := f8.ext E10
  have f13 : Exa Z h10 b1 "com/example/map_of_brokers/mapofbrokers/map/RefusalWarnings" := y6_0.ext E10
  have f14 : Fld Z h10 b1 "com/example/map_of_brokers/mapofbrokers/map/RefusalWarnings" "nextWarning" "J" (.long (-9223372036854775808 : Int64)) := y6_1.ext E10
  have f15 : Fld Z h10 b1 "com/example/map_of_brokers/mapofbrokers/map/RefusalWarnings" "sinceWarning" "J" (.long (0 : Int64)) := y6_2.ext E10
  have f16 : Arv Z h10 b10 k10 .long (2 : Int32) [(.long (0 : Int64)), (.long (0 : Int64))] (.long (0 : Int64)) := (Arv.new A10 (by decide)).pad (pad_rep [] (.long (0 : Int64)) 2)
  show OwnGo p.tables e below _ (T10.setTop (mkF m 48 #[.val (.long q0), .second, .val (.int p1), .val (.int p2), .val (.int p3), .val (.long (q0 >>> ((3 : Int32) &&& 0x3f).toInt64)), .second, .val (.long ((q0 >>> ((3 : Int32) &&& 0x3f).toInt64) + ((p1 &&& (262143 : Int32)).toInt64))), .second, .val (.long (((q0 >>> ((3 : Int32) &&& 0x3f).toInt64) + ((p1 &&& (262143 : Int32)).toInt64)) + ((p2 &&& (262143 : Int32)).toInt64))), .second, .val (.long ((((q0 >>> ((3 : Int32) &&& 0x3f).toInt64) + ((p1 &&& (262143 : Int32)).toInt64)) + ((p2 &&& (262143 : Int32)).toInt64)) + ((p3 &&& (262143 : Int32)).toInt64))), .second, .val (.ref b1), .unset, .unset] [(.ref b10)]))
  refine OwnGo.of (A := T10.setTop (mkF m 48 #[.val (.long q0), .second, .val (.int p1), .val (.int p2), .val (.int p3), .val (.long (q0 >>> ((3 : Int32) &&& 0x3f).toInt64)), .second, .val (.long ((q0 >>> ((3 : Int32) &&& 0x3f).toInt64) + ((p1 &&& (262143 : Int32)).toInt64))), .second, .val (.long (((q0 >>> ((3 : Int32) &&& 0x3f).toInt64) + ((p1 &&& (262143 : Int32)).toInt64)) + ((p2 &&& (262143 : Int32)).toInt64))), .second, .val (.long ((((q0 >>> ((3 : Int32) &&& 0x3f).toInt64) + ((p1 &&& (262143 : Int32)).toInt64)) + ((p2 &&& (262143 : Int32)).toInt64)) + ((p3 &&& (262143 : Int32)).toInt64))), .second, .val (.ref b1), .unset, .unset] [(.ref b10)])) (B := T10.setTop (mkF m 54 #[.val (.long q0), .second, .val (.int p1), .val (.int p2), .val (.int p3), .val (.long (q0 >>> ((3 : Int32) &&& 0x3f).toInt64)), .second, .val (.long ((q0 >>> ((3 : Int32) &&& 0x3f).toInt64) + ((p1 &&& (262143 : Int32)).toInt64))), .second, .val (.long (((q0 >>> ((3 : Int32) &&& 0x3f).toInt64) + ((p1 &&& (262143 : Int32)).toInt64)) + ((p2 &&& (262143 : Int32)).toInt64))), .second, .val (.long ((((q0 >>> ((3 : Int32) &&& 0x3f).toInt64) + ((p1 &&& (262143 : Int32)).toInt64)) + ((p2 &&& (262143 : Int32)).toInt64)) + ((p3 &&& (262143 : Int32)).toInt64))), .second, .val (.ref b1), .val (.ref b10), .unset] [(.long (q0 >>> ((3 : Int32) &&& 0x3f).toInt64)), (.ref b1)])) (fun t k => ?_) ?_
  · show Steps p.tables e below (T10.setTop (mkF m 48 #[.val (.long q0), .second, .val (.int p1), .val (.int p2), .val (.int p3), .val (.long (q0 >>> ((3 : Int32) &&& 0x3f).toInt64)), .second, .val (.long ((q0 >>> ((3 : Int32) &&& 0x3f).toInt64) + ((p1 &&& (262143 : Int32)).toInt64))), .second, .val (.long (((q0 >>> ((3 : Int32) &&& 0x3f).toInt64) + ((p1 &&& (262143 : Int32)).toInt64)) + ((p2 &&& (262143 : Int32)).toInt64))), .second, .val (.long ((((q0 >>> ((3 : Int32) &&& 0x3f).toInt64) + ((p1 &&& (262143 : Int32)).toInt64)) + ((p2 &&& (262143 : Int32)).toInt64)) + ((p3 &&& (262143 : Int32)).toInt64))), .second, .val (.ref b1), .unset, .unset] [(.ref b10)])) t
    refine XS.astore X10.here hx rfl (hb hby at_48) rfl rfl (l' := #[.val (.long q0), .second, .val (.int p1), .val (.int p2), .val (.int p3), .val (.long (q0 >>> ((3 : Int32) &&& 0x3f).toInt64)), .second, .val (.long ((q0 >>> ((3 : Int32) &&& 0x3f).toInt64) + ((p1 &&& (262143 : Int32)).toInt64))), .second, .val (.long (((q0 >>> ((3 : Int32) &&& 0x3f).toInt64) + ((p1 &&& (262143 : Int32)).toInt64)) + ((p2 &&& (262143 : Int32)).toInt64))), .second, .val (.long ((((q0 >>> ((3 : Int32) &&& 0x3f).toInt64) + ((p1 &&& (262143 : Int32)).toInt64)) + ((p2 &&& (262143 : Int32)).toInt64)) + ((p3 &&& (262143 : Int32)).toInt64))), .second, .val (.ref b1), .val (.ref b10), .unset]) rfl ?_
    show Steps p.tables e below (T10.setTop (mkF m 50 #[.val (.long q0), .second, .val (.int p1), .val (.int p2), .val (.int p3), .val (.long (q0 >>> ((3 : Int32) &&& 0x3f).toInt64)), .second, .val (.long ((q0 >>> ((3 : Int32) &&& 0x3f).toInt64) + ((p1 &&& (262143 : Int32)).toInt64))), .second, .val (.long (((q0 >>> ((3 : Int32) &&& 0x3f).toInt64) + ((p1 &&& (262143 : Int32)).toInt64)) + ((p2 &&& (262143 : Int32)).toInt64))), .second, .val (.long ((((q0 >>> ((3 : Int32) &&& 0x3f).toInt64) + ((p1 &&& (262143 : Int32)).toInt64)) + ((p2 &&& (262143 : Int32)).toInt64)) + ((p3 &&& (262143 : Int32)).toInt64))), .second, .val (.ref b1), .val (.ref b10), .unset] [])) t
    refine XS.aload X10.here hx rfl (hb hby at_50) rfl rfl ?_
    show Steps p.tables e below (T10.setTop (mkF m 52 #[.val (.long q0), .second, .val (.int p1), .val (.int p2), .val (.int p3), .val (.long (q0 >>> ((3 : Int32) &&& 0x3f).toInt64)), .second, .val (.long ((q0 >>> ((3 : Int32) &&& 0x3f).toInt64) + ((p1 &&& (262143 : Int32)).toInt64))), .second, .val (.long (((q0 >>> ((3 : Int32) &&& 0x3f).toInt64) + ((p1 &&& (262143 : Int32)).toInt64)) + ((p2 &&& (262143 : Int32)).toInt64))), .second, .val (.long ((((q0 >>> ((3 : Int32) &&& 0x3f).toInt64) + ((p1 &&& (262143 : Int32)).toInt64)) + ((p2 &&& (262143 : Int32)).toInt64)) + ((p3 &&& (262143 : Int32)).toInt64))), .second, .val (.ref b1), .val (.ref b10), .unset] [(.ref b1)])) t
    refine XS.lload X10.here hx rfl (hb hby at_52) rfl ?_
    exact k
  obtain ⟨cq17, kq17, q17a, q17b, q17c⟩ := isOf hZ e10 f13
  obtain ⟨_, _, ⟨T17, L17, k17, n17⟩, -, X17, ⟨Lc17, hQ17, l17, y17, z17⟩, st17⟩ := X10.virtualBack hx (y := (⟨"com/example/map_of_brokers/mapofbrokers/map/RefusalWarnings", "refused", "(J)J"⟩ : MethodName)) (z := (⟨"com/example/map_of_brokers/mapofbrokers/map/RefusalWarnings", "refused", "(J)J"⟩ : MethodName)) hown (mvT hZ (hw _ (List.mem_of_getElem? (i := 14) rfl))) (mvT hZ (hw _ (List.mem_of_getElem? (i := 15) rfl))) (notFace_of_selects (args := #[]) (mvT hZ (hw _ (List.mem_of_getElem? (i := 17) rfl)))) (mvT hZ (hw _ (List.mem_of_getElem? (i := 17) rfl))) (mvT hZ (hw _ (List.mem_of_getElem? (i := 16) rfl))) (by decide) (backOf (W := 0) (rm3 l Z aw hw [] b1 (q0 >>> ((3 : Int32) &&& 0x3f).toInt64) (-9223372036854775808 : Int64) (0 : Int64) h10 n0 f11 f13 f14 f15 g_b1 f12) hZ (hw _ (List.mem_of_getElem? (i := 18) rfl)) (hw _ (List.mem_of_getElem? (i := 3) rfl)) (by decide) (by decide)) q17a q17c (g := (mkF m 54 #[.val (.long q0), .second, .val (.int p1), .val (.int p2), .val (.int p3), .val (.long (q0 >>> ((3 : Int32) &&& 0x3f).toInt64)), .second, .val (.long ((q0 >>> ((3 : Int32) &&& 0x3f).toInt64) + ((p1 &&& (262143 : Int32)).toInt64))), .second, .val (.long (((q0 >>> ((3 : Int32) &&& 0x3f).toInt64) + ((p1 &&& (262143 : Int32)).toInt64)) + ((p2 &&& (262143 : Int32)).toInt64))), .second, .val (.long ((((q0 >>> ((3 : Int32) &&& 0x3f).toInt64) + ((p1 &&& (262143 : Int32)).toInt64)) + ((p2 &&& (262143 : Int32)).toInt64)) + ((p3 &&& (262143 : Int32)).toInt64))), .second, .val (.ref b1), .val (.ref b10), .unset] [(.long (q0 >>> ((3 : Int32) &&& 0x3f).toInt64)), (.ref b1)])) rfl (by rw [hml]; rfl) (Steps.refl _) (argsL := [(.long (q0 >>> ((3 : Int32) &&& 0x3f).toInt64))]) (rest := []) (lenOf pd_1 rfl) rfl (by show 2 * 0 + _ ≤ _; exact Nat.le_of_eq rfl) (hb hby at_54) (fun _ _ => ⟨rfl, e10, (by decide : 2 + 0 ≤ _), (by decide : 4 + 0 ≤ _)⟩)
  dsimp only [Pt.U, Pt.locs, Pt.cells, Pt.slots] at X17 l17 y17 z17 st17 hQ17
  subst l17 y17 z17
  obtain ⟨rfl, N17q, K17, y17_0, y17_1, y17_2⟩ := hQ17
  have f18 : n0 ≤ T17.heap.size := Nat.le_trans f11 K17.1
  have f19 : Sta Z T17.heap "com/example/map_of_brokers/mapofbrokers/map/RefusalWarnings" "EVERY_MILLIS" "J" (.long (60000 : Int64)) := own_sta_keep f12 K17 (allS (own_ns_exa f13) all0)
  have f20 : Exa Z T17.heap b1 "com/example/map_of_brokers/mapofbrokers/map/RefusalWarnings" := f13.keep K17
  have f21 : Arv Z T17.heap b10 k10 .long (2 : Int32) [(.long (0 : Int64)), (.long (0 : Int64))] (.long (0 : Int64)) := f16.keep K17 (ninS (Ne.symm ne_b1_b10) nin0)
  have f22 : Fld Z T17.heap b1 "com/example/map_of_brokers/mapofbrokers/map/RefusalWarnings" "nextWarning" "J" (.long ((q0 >>> ((3 : Int32) &&& 0x3f).toInt64) + (60000 : Int64))) := (by have q := y17_1; rw [own_nx, if_neg (own_first _)] at q; exact q)
  have f23 : Fld Z T17.heap b1 "com/example/map_of_brokers/mapofbrokers/map/RefusalWarnings" "sinceWarning" "J" (.long (0 : Int64)) := (by have q := y17_2; rw [own_si, if_neg (own_first _)] at q; exact q)
  have N17 := Fr.app N6 N17q
  refine OwnGo.of (fun t k => st17.trans k) ?_
  show OwnGo p.tables e below _ (T17.setTop (mkF m 57 #[.val (.long q0), .second, .val (.int p1), .val (.int p2), .val (.int p3), .val (.long (q0 >>> ((3 : Int32) &&& 0x3f).toInt64)), .second, .val (.long ((q0 >>> ((3 : Int32) &&& 0x3f).toInt64) + ((p1 &&& (262143 : Int32)).toInt64))), .second, .val (.long (((q0 >>> ((3 : Int32) &&& 0x3f).toInt64) + ((p1 &&& (262143 : Int32)).toInt64)) + ((p2 &&& (262143 : Int32)).toInt64))), .second, .val (.long ((((q0 >>> ((3 : Int32) &&& 0x3f).toInt64) + ((p1 &&& (262143 : Int32)).toInt64)) + ((p2 &&& (262143 : Int32)).toInt64)) + ((p3 &&& (262143 : Int32)).toInt64))), .second, .val (.ref b1), .val (.ref b10), .unset] [(.long (own_rv (q0 >>> ((3 : Int32) &&& 0x3f).toInt64) (-9223372036854775808 : Int64) (0 : Int64)))]))
  refine OwnGo.of (A := T17.setTop (mkF m 57 #[.val (.long q0), .second, .val (.int p1), .val (.int p2), .val (.int p3), .val (.long (q0 >>> ((3 : Int32) &&& 0x3f).toInt64)), .second, .val (.long ((q0 >>> ((3 : Int32) &&& 0x3f).toInt64) + ((p1 &&& (262143 : Int32)).toInt64))), .second, .val (.long (((q0 >>> ((3 : Int32) &&& 0x3f).toInt64) + ((p1 &&& (262143 : Int32)).toInt64)) + ((p2 &&& (262143 : Int32)).toInt64))), .second, .val (.long ((((q0 >>> ((3 : Int32) &&& 0x3f).toInt64) + ((p1 &&& (262143 : Int32)).toInt64)) + ((p2 &&& (262143 : Int32)).toInt64)) + ((p3 &&& (262143 : Int32)).toInt64))), .second, .val (.ref b1), .val (.ref b10), .unset] [(.long (own_rv (q0 >>> ((3 : Int32) &&& 0x3f).toInt64) (-9223372036854775808 : Int64) (0 : Int64)))])) (B := T17.setTop (mkF m 59 #[.val (.long q0), .second, .val (.int p1), .val (.int p2), .val (.int p3), .val (.long (q0 >>> ((3 : Int32) &&& 0x3f).toInt64)), .second, .val (.long ((q0 >>> ((3 : Int32) &&& 0x3f).toInt64) + ((p1 &&& (262143 : Int32)).toInt64))), .second, .val (.long (((q0 >>> ((3 : Int32) &&& 0x3f).toInt64) + ((p1 &&& (262143 : Int32)).toInt64)) + ((p2 &&& (262143 : Int32)).toInt64))), .second, .val (.long ((((q0 >>> ((3 : Int32) &&& 0x3f).toInt64) + ((p1 &&& (262143 : Int32)).toInt64)) + ((p2 &&& (262143 : Int32)).toInt64)) + ((p3 &&& (262143 : Int32)).toInt64))), .second, .val (.ref b1), .val (.ref b10), .unset] [(.int (lcmpW (own_rv (q0 >>> ((3 : Int32) &&& 0x3f).toInt64) (-9223372036854775808 : Int64) (0 : Int64)) (1 : Int64)))])) (fun t k => ?_) ?_
  · show Steps p.tables e below (T17.setTop (mkF m 57 #[.val (.long q0), .second, .val (.int p1), .val (.int p2), .val (.int p3), .val (.long (q0 >>> ((3 : Int32) &&& 0x3f).toInt64)), .second, .val (.long ((q0 >>> ((3 : Int32) &&& 0x3f).toInt64) + ((p1 &&& (262143 : Int32)).toInt64))), .second, .val (.long (((q0 >>> ((3 : Int32) &&& 0x3f).toInt64) + ((p1 &&& (262143 : Int32)).toInt64)) + ((p2 &&& (262143 : Int32)).toInt64))), .second, .val (.long ((((q0 >>> ((3 : Int32) &&& 0x3f).toInt64) + ((p1 &&& (262143 : Int32)).toInt64)) + ((p2 &&& (262143 : Int32)).toInt64)) + ((p3 &&& (262143 : Int32)).toInt64))), .second, .val (.ref b1), .val (.ref b10), .unset] [(.long (own_rv (q0 >>> ((3 : Int32) &&& 0x3f).toInt64) (-9223372036854775808 : Int64) (0 : Int64)))])) t
    refine XS.lconst X17.here hx rfl (hb hby at_57) ?_
    show Steps p.tables e below (T17.setTop (mkF m 58 #[.val (.long q0), .second, .val (.int p1), .val (.int p2), .val (.int p3), .val (.long (q0 >>> ((3 : Int32) &&& 0x3f).toInt64)), .second, .val (.long ((q0 >>> ((3 : Int32) &&& 0x3f).toInt64) + ((p1 &&& (262143 : Int32)).toInt64))), .second, .val (.long (((q0 >>> ((3 : Int32) &&& 0x3f).toInt64) + ((p1 &&& (262143 : Int32)).toInt64)) + ((p2 &&& (262143 : Int32)).toInt64))), .second, .val (.long ((((q0 >>> ((3 : Int32) &&& 0x3f).toInt64) + ((p1 &&& (262143 : Int32)).toInt64)) + ((p2 &&& (262143 : Int32)).toInt64)) + ((p3 &&& (262143 : Int32)).toInt64))), .second, .val (.ref b1), .val (.ref b10), .unset] [(.long (1 : Int64)), (.long (own_rv (q0 >>> ((3 : Int32) &&& 0x3f).toInt64) (-9223372036854775808 : Int64) (0 : Int64)))])) t
    refine XS.lcmp X17.here hx rfl (hb hby at_58) rfl ?_
    exact k
  have hc24 : (lcmpW (own_rv (q0 >>> ((3 : Int32) &&& 0x3f).toInt64) (-9223372036854775808 : Int64) (0 : Int64)) (1 : Int64)) = (0 : Int32) := (lw_eq _ _).mpr (by rw [own_rv, if_neg (own_first _)]; decide)
  refine OwnGo.of (A := T17.setTop (mkF m 59 #[.val (.long q0), .second, .val (.int p1), .val (.int p2), .val (.int p3), .val (.long (q0 >>> ((3 : Int32) &&& 0x3f).toInt64)), .second, .val (.long ((q0 >>> ((3 : Int32) &&& 0x3f).toInt64) + ((p1 &&& (262143 : Int32)).toInt64))), .second, .val (.long (((q0 >>> ((3 : Int32) &&& 0x3f).toInt64) + ((p1 &&& (262143 : Int32)).toInt64)) + ((p2 &&& (262143 : Int32)).toInt64))), .second, .val (.long ((((q0 >>> ((3 : Int32) &&& 0x3f).toInt64) + ((p1 &&& (262143 : Int32)).toInt64)) + ((p2 &&& (262143 : Int32)).toInt64)) + ((p3 &&& (262143 : Int32)).toInt64))), .second, .val (.ref b1), .val (.ref b10), .unset] [(.int (lcmpW (own_rv (q0 >>> ((3 : Int32) &&& 0x3f).toInt64) (-9223372036854775808 : Int64) (0 : Int64)) (1 : Int64)))])) (B := T17.setTop (mkF m 74 #[.val (.long q0), .second, .val (.int p1), .val (.int p2), .val (.int p3), .val (.long (q0 >>> ((3 : Int32) &&& 0x3f).toInt64)), .second, .val (.long ((q0 >>> ((3 : Int32) &&& 0x3f).toInt64) + ((p1 &&& (262143 : Int32)).toInt64))), .second, .val (.long (((q0 >>> ((3 : Int32) &&& 0x3f).toInt64) + ((p1 &&& (262143 : Int32)).toInt64)) + ((p2 &&& (262143 : Int32)).toInt64))), .second, .val (.long ((((q0 >>> ((3 : Int32) &&& 0x3f).toInt64) + ((p1 &&& (262143 : Int32)).toInt64)) + ((p2 &&& (262143 : Int32)).toInt64)) + ((p3 &&& (262143 : Int32)).toInt64))), .second, .val (.ref b1), .val (.ref b10), .val (.int (1 : Int32))] [(.long (q0 >>> ((3 : Int32) &&& 0x3f).toInt64)), (.int (0 : Int32)), (.ref b10)])) (fun t k => ?_) ?_
  · show Steps p.tables e below (T17.setTop (mkF m 59 #[.val (.long q0), .second, .val (.int p1), .val (.int p2), .val (.int p3), .val (.long (q0 >>> ((3 : Int32) &&& 0x3f).toInt64)), .second, .val (.long ((q0 >>> ((3 : Int32) &&& 0x3f).toInt64) + ((p1 &&& (262143 : Int32)).toInt64))), .second, .val (.long (((q0 >>> ((3 : Int32) &&& 0x3f).toInt64) + ((p1 &&& (262143 : Int32)).toInt64)) + ((p2 &&& (262143 : Int32)).toInt64))), .second, .val (.long ((((q0 >>> ((3 : Int32) &&& 0x3f).toInt64) + ((p1 &&& (262143 : Int32)).toInt64)) + ((p2 &&& (262143 : Int32)).toInt64)) + ((p3 &&& (262143 : Int32)).toInt64))), .second, .val (.ref b1), .val (.ref b10), .unset] [(.int (lcmpW (own_rv (q0 >>> ((3 : Int32) &&& 0x3f).toInt64) (-9223372036854775808 : Int64) (0 : Int64)) (1 : Int64)))])) t
    refine XS.ifNo X17.here hx rfl (hb hby at_59) rfl ((if0 _ _).trans (teq hc24).2) ?_
    show Steps p.tables e below (T17.setTop (mkF m 62 #[.val (.long q0), .second, .val (.int p1), .val (.int p2), .val (.int p3), .val (.long (q0 >>> ((3 : Int32) &&& 0x3f).toInt64)), .second, .val (.long ((q0 >>> ((3 : Int32) &&& 0x3f).toInt64) + ((p1 &&& (262143 : Int32)).toInt64))), .second, .val (.long (((q0 >>> ((3 : Int32) &&& 0x3f).toInt64) + ((p1 &&& (262143 : Int32)).toInt64)) + ((p2 &&& (262143 : Int32)).toInt64))), .second, .val (.long ((((q0 >>> ((3 : Int32) &&& 0x3f).toInt64) + ((p1 &&& (262143 : Int32)).toInt64)) + ((p2 &&& (262143 : Int32)).toInt64)) + ((p3 &&& (262143 : Int32)).toInt64))), .second, .val (.ref b1), .val (.ref b10), .unset] [])) t
    refine XS.iconst X17.here hx rfl (hb hby at_62) ?_
    show Steps p.tables e below (T17.setTop (mkF m 63 #[.val (.long q0), .second, .val (.int p1), .val (.int p2), .val (.int p3), .val (.long (q0 >>> ((3 : Int32) &&& 0x3f).toInt64)), .second, .val (.long ((q0 >>> ((3 : Int32) &&& 0x3f).toInt64) + ((p1 &&& (262143 : Int32)).toInt64))), .second, .val (.long (((q0 >>> ((3 : Int32) &&& 0x3f).toInt64) + ((p1 &&& (262143 : Int32)).toInt64)) + ((p2 &&& (262143 : Int32)).toInt64))), .second, .val (.long ((((q0 >>> ((3 : Int32) &&& 0x3f).toInt64) + ((p1 &&& (262143 : Int32)).toInt64)) + ((p2 &&& (262143 : Int32)).toInt64)) + ((p3 &&& (262143 : Int32)).toInt64))), .second, .val (.ref b1), .val (.ref b10), .unset] [(.int (1 : Int32))])) t
    refine XS.goto X17.here hx rfl (pc0 := 63) (pc' := 67) rfl (hb hby at_63) (by decide) (by decide) ?_
    show Steps p.tables e below (T17.setTop (mkF m 67 #[.val (.long q0), .second, .val (.int p1), .val (.int p2), .val (.int p3), .val (.long (q0 >>> ((3 : Int32) &&& 0x3f).toInt64)), .second, .val (.long ((q0 >>> ((3 : Int32) &&& 0x3f).toInt64) + ((p1 &&& (262143 : Int32)).toInt64))), .second, .val (.long (((q0 >>> ((3 : Int32) &&& 0x3f).toInt64) + ((p1 &&& (262143 : Int32)).toInt64)) + ((p2 &&& (262143 : Int32)).toInt64))), .second, .val (.long ((((q0 >>> ((3 : Int32) &&& 0x3f).toInt64) + ((p1 &&& (262143 : Int32)).toInt64)) + ((p2 &&& (262143 : Int32)).toInt64)) + ((p3 &&& (262143 : Int32)).toInt64))), .second, .val (.ref b1), .val (.ref b10), .unset] [(.int (1 : Int32))])) t
    refine XS.istore X17.here hx rfl (hb hby at_67) rfl (l' := #[.val (.long q0), .second, .val (.int p1), .val (.int p2), .val (.int p3), .val (.long (q0 >>> ((3 : Int32) &&& 0x3f).toInt64)), .second, .val (.long ((q0 >>> ((3 : Int32) &&& 0x3f).toInt64) + ((p1 &&& (262143 : Int32)).toInt64))), .second, .val (.long (((q0 >>> ((3 : Int32) &&& 0x3f).toInt64) + ((p1 &&& (262143 : Int32)).toInt64)) + ((p2 &&& (262143 : Int32)).toInt64))), .second, .val (.long ((((q0 >>> ((3 : Int32) &&& 0x3f).toInt64) + ((p1 &&& (262143 : Int32)).toInt64)) + ((p2 &&& (262143 : Int32)).toInt64)) + ((p3 &&& (262143 : Int32)).toInt64))), .second, .val (.ref b1), .val (.ref b10), .val (.int (1 : Int32))]) rfl ?_
    show Steps p.tables e below (T17.setTop (mkF m 69 #[.val (.long q0), .second, .val (.int p1), .val (.int p2), .val (.int p3), .val (.long (q0 >>> ((3 : Int32) &&& 0x3f).toInt64)), .second, .val (.long ((q0 >>> ((3 : Int32) &&& 0x3f).toInt64) + ((p1 &&& (262143 : Int32)).toInt64))), .second, .val (.long (((q0 >>> ((3 : Int32) &&& 0x3f).toInt64) + ((p1 &&& (262143 : Int32)).toInt64)) + ((p2 &&& (262143 : Int32)).toInt64))), .second, .val (.long ((((q0 >>> ((3 : Int32) &&& 0x3f).toInt64) + ((p1 &&& (262143 : Int32)).toInt64)) + ((p2 &&& (262143 : Int32)).toInt64)) + ((p3 &&& (262143 : Int32)).toInt64))), .second, .val (.ref b1), .val (.ref b10), .val (.int (1 : Int32))] [])) t
    refine XS.aload X17.here hx rfl (hb hby at_69) rfl rfl ?_
    show Steps p.tables e below (T17.setTop (mkF m 71 #[.val (.long q0), .second, .val (.int p1), .val (.int p2), .val (.int p3), .val (.long (q0 >>> ((3 : Int32) &&& 0x3f).toInt64)), .second, .val (.long ((q0 >>> ((3 : Int32) &&& 0x3f).toInt64) + ((p1 &&& (262143 : Int32)).toInt64))), .second, .val (.long (((q0 >>> ((3 : Int32) &&& 0x3f).toInt64) + ((p1 &&& (262143 : Int32)).toInt64)) + ((p2 &&& (262143 : Int32)).toInt64))), .second, .val (.long ((((q0 >>> ((3 : Int32) &&& 0x3f).toInt64) + ((p1 &&& (262143 : Int32)).toInt64)) + ((p2 &&& (262143 : Int32)).toInt64)) + ((p3 &&& (262143 : Int32)).toInt64))), .second, .val (.ref b1), .val (.ref b10), .val (.int (1 : Int32))] [(.ref b10)])) t
    refine XS.iconst X17.here hx rfl (hb hby at_71) ?_
    show Steps p.tables e below (T17.setTop (mkF m 72 #[.val (.long q0), .second, .val (.int p1), .val (.int p2), .val (.int p3), .val (.long (q0 >>> ((3 : Int32) &&& 0x3f).toInt64)), .second, .val (.long ((q0 >>> ((3 : Int32) &&& 0x3f).toInt64) + ((p1 &&& (262143 : Int32)).toInt64))), .second, .val (.long (((q0 >>> ((3 : Int32) &&& 0x3f).toInt64) + ((p1 &&& (262143 : Int32)).toInt64)) + ((p2 &&& (262143 : Int32)).toInt64))), .second, .val (.long ((((q0 >>> ((3 : Int32) &&& 0x3f).toInt64) + ((p1 &&& (262143 : Int32)).toInt64)) + ((p2 &&& (262143 : Int32)).toInt64)) + ((p3 &&& (262143 : Int32)).toInt64))), .second, .val (.ref b1), .val (.ref b10), .val (.int (1 : Int32))] [(.int (0 : Int32)), (.ref b10)])) t
    refine XS.lload X17.here hx rfl (hb hby at_72) rfl ?_
    exact k
  have cq25 := f21
  obtain ⟨clq25, Arq25, qq25, Sq25, Nq25, Hq25, Gq25⟩ := cq25
  obtain ⟨T26, h26, X26, e26, W26, st26⟩ := stJ X17 hx hZ rfl Arq25 (j := (0 : Int32)) (inb_of Sq25 ⟨by decide, by decide⟩) (g := (mkF m 74 #[.val (.long q0), .second, .val (.int p1), .val (.int p2), .val (.int p3), .val (.long (q0 >>> ((3 : Int32) &&& 0x3f).toInt64)), .second, .val (.long ((q0 >>> ((3 : Int32) &&& 0x3f).toInt64) + ((p1 &&& (262143 : Int32)).toInt64))), .second, .val (.long (((q0 >>> ((3 : Int32) &&& 0x3f).toInt64) + ((p1 &&& (262143 : Int32)).toInt64)) + ((p2 &&& (262143 : Int32)).toInt64))), .second, .val (.long ((((q0 >>> ((3 : Int32) &&& 0x3f).toInt64) + ((p1 &&& (262143 : Int32)).toInt64)) + ((p2 &&& (262143 : Int32)).toInt64)) + ((p3 &&& (262143 : Int32)).toInt64))), .second, .val (.ref b1), .val (.ref b10), .val (.int (1 : Int32))] [(.long (q0 >>> ((3 : Int32) &&& 0x3f).toInt64)), (.int (0 : Int32)), (.ref b10)])) rfl rfl (hb hby at_74)
  refine OwnGo.of st26 ?_
  have N26 := Fr.snoc X26 N17 g_b10
  have f27 : n0 ≤ h26.size := Nat.le_trans f18 (Keep.of_wr W26).1
  have f28 : Sta Z h26 "com/example/map_of_brokers/mapofbrokers/map/RefusalWarnings" "EVERY_MILLIS" "J" (.long (60000 : Int64)) := f19.wr W26
  have f29 : Exa Z h26 b1 "com/example/map_of_brokers/mapofbrokers/map/RefusalWarnings" := y17_0.wr W26
  have f30 : Fld Z h26 b1 "com/example/map_of_brokers/mapofbrokers/map/RefusalWarnings" "nextWarning" "J" (.long ((q0 >>> ((3 : Int32) &&& 0x3f).toInt64) + (60000 : Int64))) := f22.other W26 (Or.inl ne_b1_b10)
  have f31 : Fld Z h26 b1 "com/example/map_of_brokers/mapofbrokers/map/RefusalWarnings" "sinceWarning" "J" (.long (0 : Int64)) := f23.other W26 (Or.inl ne_b1_b10)
  have f32 : Arv Z h26 b10 k10 .long (2 : Int32) [(.long (q0 >>> ((3 : Int32) &&& 0x3f).toInt64)), (.long (0 : Int64))] (.long (0 : Int64)) := Arv.set Arq25 qq25 Sq25 Nq25 Hq25 Gq25 rfl W26 0 rfl (Nat.le_of_ble_eq_true rfl)
  show OwnGo p.tables e below _ (T26.setTop (mkF m 75 #[.val (.long q0), .second, .val (.int p1), .val (.int p2), .val (.int p3), .val (.long (q0 >>> ((3 : Int32) &&& 0x3f).toInt64)), .second, .val (.long ((q0 >>> ((3 : Int32) &&& 0x3f).toInt64) + ((p1 &&& (262143 : Int32)).toInt64))), .second, .val (.long (((q0 >>> ((3 : Int32) &&& 0x3f).toInt64) + ((p1 &&& (262143 : Int32)).toInt64)) + ((p2 &&& (262143 : Int32)).toInt64))), .second, .val (.long ((((q0 >>> ((3 : Int32) &&& 0x3f).toInt64) + ((p1 &&& (262143 : Int32)).toInt64)) + ((p2 &&& (262143 : Int32)).toInt64)) + ((p3 &&& (262143 : Int32)).toInt64))), .second, .val (.ref b1), .val (.ref b10), .val (.int (1 : Int32))] []))
  refine OwnGo.of (A := T26.setTop (mkF m 75 #[.val (.long q0), .second, .val (.int p1), .val (.int p2), .val (.int p3), .val (.long (q0 >>> ((3 : Int32) &&& 0x3f).toInt64)), .second, .val (.long ((q0 >>> ((3 : Int32) &&& 0x3f).toInt64) + ((p1 &&& (262143 : Int32)).toInt64))), .second, .val (.long (((q0 >>> ((3 : Int32) &&& 0x3f).toInt64) + ((p1 &&& (262143 : Int32)).toInt64)) + ((p2 &&& (262143 : Int32)).toInt64))), .second, .val (.long ((((q0 >>> ((3 : Int32) &&& 0x3f).toInt64) + ((p1 &&& (262143 : Int32)).toInt64)) + ((p2 &&& (262143 : Int32)).toInt64)) + ((p3 &&& (262143 : Int32)).toInt64))), .second, .val (.ref b1), .val (.ref b10), .val (.int (1 : Int32))] [])) (B := T26.setTop (mkF m 79 #[.val (.long q0), .second, .val (.int p1), .val (.int p2), .val (.int p3), .val (.long (q0 >>> ((3 : Int32) &&& 0x3f).toInt64)), .second, .val (.long ((q0 >>> ((3 : Int32) &&& 0x3f).toInt64) + ((p1 &&& (262143 : Int32)).toInt64))), .second, .val (.long (((q0 >>> ((3 : Int32) &&& 0x3f).toInt64) + ((p1 &&& (262143 : Int32)).toInt64)) + ((p2 &&& (262143 : Int32)).toInt64))), .second, .val (.long ((((q0 >>> ((3 : Int32) &&& 0x3f).toInt64) + ((p1 &&& (262143 : Int32)).toInt64)) + ((p2 &&& (262143 : Int32)).toInt64)) + ((p3 &&& (262143 : Int32)).toInt64))), .second, .val (.ref b1), .val (.ref b10), .val (.int (1 : Int32))] [(.long (0 : Int64)), (.int (1 : Int32)), (.ref b10)])) (fun t k => ?_) ?_
  · show Steps p.tables e below (T26.setTop (mkF m 75 #[.val (.long q0), .second, .val (.int p1), .val (.int p2), .val (.int p3), .val (.long (q0 >>> ((3 : Int32) &&& 0x3f).toInt64)), .second, .val (.long ((q0 >>> ((3 : Int32) &&& 0x3f).toInt64) + ((p1 &&& (262143 : Int32)).toInt64))), .second, .val (.long (((q0 >>> ((3 : Int32) &&& 0x3f).toInt64) + ((p1 &&& (262143 : Int32)).toInt64)) + ((p2 &&& (262143 : Int32)).toInt64))), .second, .val (.long ((((q0 >>> ((3 : Int32) &&& 0x3f).toInt64) + ((p1 &&& (262143 : Int32)).toInt64)) + ((p2 &&& (262143 : Int32)).toInt64)) + ((p3 &&& (262143 : Int32)).toInt64))), .second, .val (.ref b1), .val (.ref b10), .val (.int (1 : Int32))] [])) t
    refine XS.aload X26.here hx rfl (hb hby at_75) rfl rfl ?_
    show Steps p.tables e below (T26.setTop (mkF m 77 #[.val (.long q0), .second, .val (.int p1), .val (.int p2), .val (.int p3), .val (.long (q0 >>> ((3 : Int32) &&& 0x3f).toInt64)), .second, .val (.long ((q0 >>> ((3 : Int32) &&& 0x3f).toInt64) + ((p1 &&& (262143 : Int32)).toInt64))), .second, .val (.long (((q0 >>> ((3 : Int32) &&& 0x3f).toInt64) + ((p1 &&& (262143 : Int32)).toInt64)) + ((p2 &&& (262143 : Int32)).toInt64))), .second, .val (.long ((((q0 >>> ((3 : Int32) &&& 0x3f).toInt64) + ((p1 &&& (262143 : Int32)).toInt64)) + ((p2 &&& (262143 : Int32)).toInt64)) + ((p3 &&& (262143 : Int32)).toInt64))), .second, .val (.ref b1), .val (.ref b10), .val (.int (1 : Int32))] [(.ref b10)])) t
    refine XS.iconst X26.here hx rfl (hb hby at_77) ?_
    show Steps p.tables e below (T26.setTop (mkF m 78 #[.val (.long q0), .second, .val (.int p1), .val (.int p2), .val (.int p3), .val (.long (q0 >>> ((3 : Int32) &&& 0x3f).toInt64)), .second, .val (.long ((q0 >>> ((3 : Int32) &&& 0x3f).toInt64) + ((p1 &&& (262143 : Int32)).toInt64))), .second, .val (.long (((q0 >>> ((3 : Int32) &&& 0x3f).toInt64) + ((p1 &&& (262143 : Int32)).toInt64)) + ((p2 &&& (262143 : Int32)).toInt64))), .second, .val (.long ((((q0 >>> ((3 : Int32) &&& 0x3f).toInt64) + ((p1 &&& (262143 : Int32)).toInt64)) + ((p2 &&& (262143 : Int32)).toInt64)) + ((p3 &&& (262143 : Int32)).toInt64))), .second, .val (.ref b1), .val (.ref b10), .val (.int (1 : Int32))] [(.int (1 : Int32)), (.ref b10)])) t
    refine XS.lconst X26.here hx rfl (hb hby at_78) ?_
    exact k
  have cq33 := f32
  obtain ⟨clq33, Arq33, qq33, Sq33, Nq33, Hq33, Gq33⟩ := cq33
  obtain ⟨T34, h34, X34, e34, W34, st34⟩ := stJ X26 hx hZ e26 Arq33 (j := (1 : Int32)) (inb_of Sq33 ⟨by decide, by decide⟩) (g := (mkF m 79 #[.val (.long q0), .second, .val (.int p1), .val (.int p2), .val (.int p3), .val (.long (q0 >>> ((3 : Int32) &&& 0x3f).toInt64)), .second, .val (.long ((q0 >>> ((3 : Int32) &&& 0x3f).toInt64) + ((p1 &&& (262143 : Int32)).toInt64))), .second, .val (.long (((q0 >>> ((3 : Int32) &&& 0x3f).toInt64) + ((p1 &&& (262143 : Int32)).toInt64)) + ((p2 &&& (262143 : Int32)).toInt64))), .second, .val (.long ((((q0 >>> ((3 : Int32) &&& 0x3f).toInt64) + ((p1 &&& (262143 : Int32)).toInt64)) + ((p2 &&& (262143 : Int32)).toInt64)) + ((p3 &&& (262143 : Int32)).toInt64))), .second, .val (.ref b1), .val (.ref b10), .val (.int (1 : Int32))] [(.long (0 : Int64)), (.int (1 : Int32)), (.ref b10)])) rfl rfl (hb hby at_79)
  refine OwnGo.of st34 ?_
  have N34 := Fr.snoc X34 N26 g_b10
  have f35 : n0 ≤ h34.size := Nat.le_trans f27 (Keep.of_wr W34).1
  have f36 : Sta Z h34 "com/example/map_of_brokers/mapofbrokers/map/RefusalWarnings" "EVERY_MILLIS" "J" (.long (60000 : Int64)) := f28.wr W34
  have f37 : Exa Z h34 b1 "com/example/map_of_brokers/mapofbrokers/map/RefusalWarnings" := f29.wr W34
  have f38 : Fld Z h34 b1 "com/example/map_of_brokers/mapofbrokers/map/RefusalWarnings" "nextWarning" "J" (.long ((q0 >>> ((3 : Int32) &&& 0x3f).toInt64) + (60000 : Int64))) := f30.other W34 (Or.inl ne_b1_b10)
  have f39 : Fld Z h34 b1 "com/example/map_of_brokers/mapofbrokers/map/RefusalWarnings" "sinceWarning" "J" (.long (0 : Int64)) := f31.other W34 (Or.inl ne_b1_b10)
  have f40 : Arv Z h34 b10 k10 .long (2 : Int32) [(.long (q0 >>> ((3 : Int32) &&& 0x3f).toInt64)), (.long (0 : Int64))] (.long (0 : Int64)) := Arv.set Arq33 qq33 Sq33 Nq33 Hq33 Gq33 rfl W34 1 rfl (Nat.le_of_ble_eq_true rfl)
  show OwnGo p.tables e below _ (T34.setTop (mkF m 80 #[.val (.long q0), .second, .val (.int p1), .val (.int p2), .val (.int p3), .val (.long (q0 >>> ((3 : Int32) &&& 0x3f).toInt64)), .second, .val (.long ((q0 >>> ((3 : Int32) &&& 0x3f).toInt64) + ((p1 &&& (262143 : Int32)).toInt64))), .second, .val (.long (((q0 >>> ((3 : Int32) &&& 0x3f).toInt64) + ((p1 &&& (262143 : Int32)).toInt64)) + ((p2 &&& (262143 : Int32)).toInt64))), .second, .val (.long ((((q0 >>> ((3 : Int32) &&& 0x3f).toInt64) + ((p1 &&& (262143 : Int32)).toInt64)) + ((p2 &&& (262143 : Int32)).toInt64)) + ((p3 &&& (262143 : Int32)).toInt64))), .second, .val (.ref b1), .val (.ref b10), .val (.int (1 : Int32))] []))
  refine OwnGo.of (A := T34.setTop (mkF m 80 #[.val (.long q0), .second, .val (.int p1), .val (.int p2), .val (.int p3), .val (.long (q0 >>> ((3 : Int32) &&& 0x3f).toInt64)), .second, .val (.long ((q0 >>> ((3 : Int32) &&& 0x3f).toInt64) + ((p1 &&& (262143 : Int32)).toInt64))), .second, .val (.long (((q0 >>> ((3 : Int32) &&& 0x3f).toInt64) + ((p1 &&& (262143 : Int32)).toInt64)) + ((p2 &&& (262143 : Int32)).toInt64))), .second, .val (.long ((((q0 >>> ((3 : Int32) &&& 0x3f).toInt64) + ((p1 &&& (262143 : Int32)).toInt64)) + ((p2 &&& (262143 : Int32)).toInt64)) + ((p3 &&& (262143 : Int32)).toInt64))), .second, .val (.ref b1), .val (.ref b10), .val (.int (1 : Int32))] [])) (B := T34.setTop (mkF m 88 #[.val (.long q0), .second, .val (.int p1), .val (.int p2), .val (.int p3), .val (.long (q0 >>> ((3 : Int32) &&& 0x3f).toInt64)), .second, .val (.long ((q0 >>> ((3 : Int32) &&& 0x3f).toInt64) + ((p1 &&& (262143 : Int32)).toInt64))), .second, .val (.long (((q0 >>> ((3 : Int32) &&& 0x3f).toInt64) + ((p1 &&& (262143 : Int32)).toInt64)) + ((p2 &&& (262143 : Int32)).toInt64))), .second, .val (.long ((((q0 >>> ((3 : Int32) &&& 0x3f).toInt64) + ((p1 &&& (262143 : Int32)).toInt64)) + ((p2 &&& (262143 : Int32)).toInt64)) + ((p3 &&& (262143 : Int32)).toInt64))), .second, .val (.ref b1), .val (.ref b10), .val (.int (1 : Int32))] [(.long ((q0 >>> ((3 : Int32) &&& 0x3f).toInt64) + ((p1 &&& (262143 : Int32)).toInt64))), (.ref b10), (.ref b1), (.int (1 : Int32))])) (fun t k => ?_) ?_
  · show Steps p.tables e below (T34.setTop (mkF m 80 #[.val (.long q0), .second, .val (.int p1), .val (.int p2), .val (.int p3), .val (.long (q0 >>> ((3 : Int32) &&& 0x3f).toInt64)), .second, .val (.long ((q0 >>> ((3 : Int32) &&& 0x3f).toInt64) + ((p1 &&& (262143 : Int32)).toInt64))), .second, .val (.long (((q0 >>> ((3 : Int32) &&& 0x3f).toInt64) + ((p1 &&& (262143 : Int32)).toInt64)) + ((p2 &&& (262143 : Int32)).toInt64))), .second, .val (.long ((((q0 >>> ((3 : Int32) &&& 0x3f).toInt64) + ((p1 &&& (262143 : Int32)).toInt64)) + ((p2 &&& (262143 : Int32)).toInt64)) + ((p3 &&& (262143 : Int32)).toInt64))), .second, .val (.ref b1), .val (.ref b10), .val (.int (1 : Int32))] [])) t
    refine XS.iload X34.here hx rfl (hb hby at_80) rfl ?_
    show Steps p.tables e below (T34.setTop (mkF m 82 #[.val (.long q0), .second, .val (.int p1), .val (.int p2), .val (.int p3), .val (.long (q0 >>> ((3 : Int32) &&& 0x3f).toInt64)), .second, .val (.long ((q0 >>> ((3 : Int32) &&& 0x3f).toInt64) + ((p1 &&& (262143 : Int32)).toInt64))), .second, .val (.long (((q0 >>> ((3 : Int32) &&& 0x3f).toInt64) + ((p1 &&& (262143 : Int32)).toInt64)) + ((p2 &&& (262143 : Int32)).toInt64))), .second, .val (.long ((((q0 >>> ((3 : Int32) &&& 0x3f).toInt64) + ((p1 &&& (262143 : Int32)).toInt64)) + ((p2 &&& (262143 : Int32)).toInt64)) + ((p3 &&& (262143 : Int32)).toInt64))), .second, .val (.ref b1), .val (.ref b10), .val (.int (1 : Int32))] [(.int (1 : Int32))])) t
    refine XS.aload X34.here hx rfl (hb hby at_82) rfl rfl ?_
    show Steps p.tables e below (T34.setTop (mkF m 84 #[.val (.long q0), .second, .val (.int p1), .val (.int p2), .val (.int p3), .val (.long (q0 >>> ((3 : Int32) &&& 0x3f).toInt64)), .second, .val (.long ((q0 >>> ((3 : Int32) &&& 0x3f).toInt64) + ((p1 &&& (262143 : Int32)).toInt64))), .second, .val (.long (((q0 >>> ((3 : Int32) &&& 0x3f).toInt64) + ((p1 &&& (262143 : Int32)).toInt64)) + ((p2 &&& (262143 : Int32)).toInt64))), .second, .val (.long ((((q0 >>> ((3 : Int32) &&& 0x3f).toInt64) + ((p1 &&& (262143 : Int32)).toInt64)) + ((p2 &&& (262143 : Int32)).toInt64)) + ((p3 &&& (262143 : Int32)).toInt64))), .second, .val (.ref b1), .val (.ref b10), .val (.int (1 : Int32))] [(.ref b1), (.int (1 : Int32))])) t
    refine XS.aload X34.here hx rfl (hb hby at_84) rfl rfl ?_
    show Steps p.tables e below (T34.setTop (mkF m 86 #[.val (.long q0), .second, .val (.int p1), .val (.int p2), .val (.int p3), .val (.long (q0 >>> ((3 : Int32) &&& 0x3f).toInt64)), .second, .val (.long ((q0 >>> ((3 : Int32) &&& 0x3f).toInt64) + ((p1 &&& (262143 : Int32)).toInt64))), .second, .val (.long (((q0 >>> ((3 : Int32) &&& 0x3f).toInt64) + ((p1 &&& (262143 : Int32)).toInt64)) + ((p2 &&& (262143 : Int32)).toInt64))), .second, .val (.long ((((q0 >>> ((3 : Int32) &&& 0x3f).toInt64) + ((p1 &&& (262143 : Int32)).toInt64)) + ((p2 &&& (262143 : Int32)).toInt64)) + ((p3 &&& (262143 : Int32)).toInt64))), .second, .val (.ref b1), .val (.ref b10), .val (.int (1 : Int32))] [(.ref b10), (.ref b1), (.int (1 : Int32))])) t
    refine XS.lload X34.here hx rfl (hb hby at_86) rfl ?_
    exact k
  obtain ⟨_, _, ⟨T41, L41, k41, n41⟩, -, X41, ⟨Lc41, hQ41, l41, y41, z41⟩, st41⟩ := Jvm.LawKit.callS X34 hx (y := (⟨"com/example/map_of_brokers/mapofbrokers/map/RefusalWarningsRefusedPinLaw", "step", "(Lcom/example/map_of_brokers/mapofbrokers/map/RefusalWarnings;[JJ)Z"⟩ : MethodName)) hown (mvT hZ (hw _ (List.mem_of_getElem? (i := 23) rfl))) (mvT hZ (hw _ (List.mem_of_getElem? (i := 24) rfl))) (mvT hZ (hw _ (List.mem_of_getElem? (i := 25) rfl))) (mvT hZ (hw _ (List.mem_of_getElem? (i := 26) rfl))) (by decide) (backOf (W := 1) (rm4 l Z aw hw [] b1 b10 ((q0 >>> ((3 : Int32) &&& 0x3f).toInt64) + ((p1 &&& (262143 : Int32)).toInt64)) (q0 >>> ((3 : Int32) &&& 0x3f).toInt64) (0 : Int64) k10 h34 n0 f35 f37 f38 f39 g_b1 f36 f40 g_b10 ne_b1_b10 (own_ok2 q0 p1)) hZ (hw _ (List.mem_of_getElem? (i := 26) rfl)) (hw _ (List.mem_of_getElem? (i := 25) rfl)) (by decide) (by decide)) (g := (mkF m 88 #[.val (.long q0), .second, .val (.int p1), .val (.int p2), .val (.int p3), .val (.long (q0 >>> ((3 : Int32) &&& 0x3f).toInt64)), .second, .val (.long ((q0 >>> ((3 : Int32) &&& 0x3f).toInt64) + ((p1 &&& (262143 : Int32)).toInt64))), .second, .val (.long (((q0 >>> ((3 : Int32) &&& 0x3f).toInt64) + ((p1 &&& (262143 : Int32)).toInt64)) + ((p2 &&& (262143 : Int32)).toInt64))), .second, .val (.long ((((q0 >>> ((3 : Int32) &&& 0x3f).toInt64) + ((p1 &&& (262143 : Int32)).toInt64)) + ((p2 &&& (262143 : Int32)).toInt64)) + ((p3 &&& (262143 : Int32)).toInt64))), .second, .val (.ref b1), .val (.ref b10), .val (.int (1 : Int32))] [(.long ((q0 >>> ((3 : Int32) &&& 0x3f).toInt64) + ((p1 &&& (262143 : Int32)).toInt64))), (.ref b10), (.ref b1), (.int (1 : Int32))])) rfl (by rw [hml]; rfl) (argsL := [(.ref b1), (.ref b10), (.long ((q0 >>> ((3 : Int32) &&& 0x3f).toInt64) + ((p1 &&& (262143 : Int32)).toInt64)))]) (rest := [(.int (1 : Int32))]) (lenOf pd_4 rfl) rfl (by show 2 * 0 + _ ≤ _; exact Nat.le_of_eq rfl) (hb hby at_88) (fun _ _ => ⟨rfl, e34, (by decide : 2 + 0 ≤ _), (by decide : 4 + 0 ≤ _)⟩)
  dsimp only [Pt.U, Pt.locs, Pt.cells, Pt.slots] at X41 l41 y41 z41 st41 hQ41
  subst l41 y41 z41
  obtain ⟨rfl, N41q, K41, y41_0, y41_1, y41_2, y41_3⟩ := hQ41
  have f42 : n0 ≤ T41.heap.size := Nat.le_trans f35 K41.1
  have f43 : Sta Z T41.heap "com/example/map_of_brokers/mapofbrokers/map/RefusalWarnings" "EVERY_MILLIS" "J" (.long (60000 : Int64)) := own_sta_keep f36 K41 (allS (own_ns_exa f37) (allS (own_ns_arv f40) all0))
  have f44 : Exa Z T41.heap b1 "com/example/map_of_brokers/mapofbrokers/map/RefusalWarnings" := f37.keep K41
  have N41 := Fr.app N34 N41q
  refine OwnGo.of st41 ?_
  show OwnGo p.tables e below _ (T41.setTop (mkF m 91 #[.val (.long q0), .second, .val (.int p1), .val (.int p2), .val (.int p3), .val (.long (q0 >>> ((3 : Int32) &&& 0x3f).toInt64)), .second, .val (.long ((q0 >>> ((3 : Int32) &&& 0x3f).toInt64) + ((p1 &&& (262143 : Int32)).toInt64))), .second, .val (.long (((q0 >>> ((3 : Int32) &&& 0x3f).toInt64) + ((p1 &&& (262143 : Int32)).toInt64)) + ((p2 &&& (262143 : Int32)).toInt64))), .second, .val (.long ((((q0 >>> ((3 : Int32) &&& 0x3f).toInt64) + ((p1 &&& (262143 : Int32)).toInt64)) + ((p2 &&& (262143 : Int32)).toInt64)) + ((p3 &&& (262143 : Int32)).toInt64))), .second, .val (.ref b1), .val (.ref b10), .val (.int (1 : Int32))] [(.int (1 : Int32)), (.int (1 : Int32))]))
  refine OwnGo.of (A := T41.setTop (mkF m 91 #[.val (.long q0), .second, .val (.int p1), .val (.int p2), .val (.int p3), .val (.long (q0 >>> ((3 : Int32) &&& 0x3f).toInt64)), .second, .val (.long ((q0 >>> ((3 : Int32) &&& 0x3f).toInt64) + ((p1 &&& (262143 : Int32)).toInt64))), .second, .val (.long (((q0 >>> ((3 : Int32) &&& 0x3f).toInt64) + ((p1 &&& (262143 : Int32)).toInt64)) + ((p2 &&& (262143 : Int32)).toInt64))), .second, .val (.long ((((q0 >>> ((3 : Int32) &&& 0x3f).toInt64) + ((p1 &&& (262143 : Int32)).toInt64)) + ((p2 &&& (262143 : Int32)).toInt64)) + ((p3 &&& (262143 : Int32)).toInt64))), .second, .val (.ref b1), .val (.ref b10), .val (.int (1 : Int32))] [(.int (1 : Int32)), (.int (1 : Int32))])) (B := T41.setTop (mkF m 102 #[.val (.long q0), .second, .val (.int p1), .val (.int p2), .val (.int p3), .val (.long (q0 >>> ((3 : Int32) &&& 0x3f).toInt64)), .second, .val (.long ((q0 >>> ((3 : Int32) &&& 0x3f).toInt64) + ((p1 &&& (262143 : Int32)).toInt64))), .second, .val (.long (((q0 >>> ((3 : Int32) &&& 0x3f).toInt64) + ((p1 &&& (262143 : Int32)).toInt64)) + ((p2 &&& (262143 : Int32)).toInt64))), .second, .val (.long ((((q0 >>> ((3 : Int32) &&& 0x3f).toInt64) + ((p1 &&& (262143 : Int32)).toInt64)) + ((p2 &&& (262143 : Int32)).toInt64)) + ((p3 &&& (262143 : Int32)).toInt64))), .second, .val (.ref b1), .val (.ref b10), .val (.int ((1 : Int32) &&& (1 : Int32)))] [(.long (((q0 >>> ((3 : Int32) &&& 0x3f).toInt64) + ((p1 &&& (262143 : Int32)).toInt64)) + ((p2 &&& (262143 : Int32)).toInt64))), (.ref b10), (.ref b1), (.int ((1 : Int32) &&& (1 : Int32)))])) (fun t k => ?_) ?_
  · show Steps p.tables e below (T41.setTop (mkF m 91 #[.val (.long q0), .second, .val (.int p1), .val (.int p2), .val (.int p3), .val (.long (q0 >>> ((3 : Int32) &&& 0x3f).toInt64)), .second, .val (.long ((q0 >>> ((3 : Int32) &&& 0x3f).toInt64) + ((p1 &&& (262143 : Int32)).toInt64))), .second, .val (.long (((q0 >>> ((3 : Int32) &&& 0x3f).toInt64) + ((p1 &&& (262143 : Int32)).toInt64)) + ((p2 &&& (262143 : Int32)).toInt64))), .second, .val (.long ((((q0 >>> ((3 : Int32) &&& 0x3f).toInt64) + ((p1 &&& (262143 : Int32)).toInt64)) + ((p2 &&& (262143 : Int32)).toInt64)) + ((p3 &&& (262143 : Int32)).toInt64))), .second, .val (.ref b1), .val (.ref b10), .val (.int (1 : Int32))] [(.int (1 : Int32)), (.int (1 : Int32))])) t
    refine XS.iand X41.here hx rfl (hb hby at_91) rfl ?_
    show Steps p.tables e below (T41.setTop (mkF m 92 #[.val (.long q0), .second, .val (.int p1), .val (.int p2), .val (.int p3), .val (.long (q0 >>> ((3 : Int32) &&& 0x3f).toInt64)), .second, .val (.long ((q0 >>> ((3 : Int32) &&& 0x3f).toInt64) + ((p1 &&& (262143 : Int32)).toInt64))), .second, .val (.long (((q0 >>> ((3 : Int32) &&& 0x3f).toInt64) + ((p1 &&& (262143 : Int32)).toInt64)) + ((p2 &&& (262143 : Int32)).toInt64))), .second, .val (.long ((((q0 >>> ((3 : Int32) &&& 0x3f).toInt64) + ((p1 &&& (262143 : Int32)).toInt64)) + ((p2 &&& (262143 : Int32)).toInt64)) + ((p3 &&& (262143 : Int32)).toInt64))), .second, .val (.ref b1), .val (.ref b10), .val (.int (1 : Int32))] [(.int ((1 : Int32) &&& (1 : Int32)))])) t
    refine XS.istore X41.here hx rfl (hb hby at_92) rfl (l' := #[.val (.long q0), .second, .val (.int p1), .val (.int p2), .val (.int p3), .val (.long (q0 >>> ((3 : Int32) &&& 0x3f).toInt64)), .second, .val (.long ((q0 >>> ((3 : Int32) &&& 0x3f).toInt64) + ((p1 &&& (262143 : Int32)).toInt64))), .second, .val (.long (((q0 >>> ((3 : Int32) &&& 0x3f).toInt64) + ((p1 &&& (262143 : Int32)).toInt64)) + ((p2 &&& (262143 : Int32)).toInt64))), .second, .val (.long ((((q0 >>> ((3 : Int32) &&& 0x3f).toInt64) + ((p1 &&& (262143 : Int32)).toInt64)) + ((p2 &&& (262143 : Int32)).toInt64)) + ((p3 &&& (262143 : Int32)).toInt64))), .second, .val (.ref b1), .val (.ref b10), .val (.int ((1 : Int32) &&& (1 : Int32)))]) rfl ?_
    show Steps p.tables e below (T41.setTop (mkF m 94 #[.val (.long q0), .second, .val (.int p1), .val (.int p2), .val (.int p3), .val (.long (q0 >>> ((3 : Int32) &&& 0x3f).toInt64)), .second, .val (.long ((q0 >>> ((3 : Int32) &&& 0x3f).toInt64) + ((p1 &&& (262143 : Int32)).toInt64))), .second, .val (.long (((q0 >>> ((3 : Int32) &&& 0x3f).toInt64) + ((p1 &&& (262143 : Int32)).toInt64)) + ((p2 &&& (262143 : Int32)).toInt64))), .second, .val (.long ((((q0 >>> ((3 : Int32) &&& 0x3f).toInt64) + ((p1 &&& (262143 : Int32)).toInt64)) + ((p2 &&& (262143 : Int32)).toInt64)) + ((p3 &&& (262143 : Int32)).toInt64))), .second, .val (.ref b1), .val (.ref b10), .val (.int ((1 : Int32) &&& (1 : Int32)))] [])) t
    refine XS.iload X41.here hx rfl (hb hby at_94) rfl ?_
    show Steps p.tables e below (T41.setTop (mkF m 96 #[.val (.long q0), .second, .val (.int p1), .val (.int p2), .val (.int p3), .val (.long (q0 >>> ((3 : Int32) &&& 0x3f).toInt64)), .second, .val (.long ((q0 >>> ((3 : Int32) &&& 0x3f).toInt64) + ((p1 &&& (262143 : Int32)).toInt64))), .second, .val (.long (((q0 >>> ((3 : Int32) &&& 0x3f).toInt64) + ((p1 &&& (262143 : Int32)).toInt64)) + ((p2 &&& (262143 : Int32)).toInt64))), .second, .val (.long ((((q0 >>> ((3 : Int32) &&& 0x3f).toInt64) + ((p1 &&& (262143 : Int32)).toInt64)) + ((p2 &&& (262143 : Int32)).toInt64)) + ((p3 &&& (262143 : Int32)).toInt64))), .second, .val (.ref b1), .val (.ref b10), .val (.int ((1 : Int32) &&& (1 : Int32)))] [(.int ((1 : Int32) &&& (1 : Int32)))])) t
    refine XS.aload X41.here hx rfl (hb hby at_96) rfl rfl ?_
    show Steps p.tables e below (T41.setTop (mkF m 98 #[.val (.long q0), .second, .val (.int p1), .val (.int p2), .val (.int p3), .val (.long (q0 >>> ((3 : Int32) &&& 0x3f).toInt64)), .second, .val (.long ((q0 >>> ((3 : Int32) &&& 0x3f).toInt64) + ((p1 &&& (262143 : Int32)).toInt64))), .second, .val (.long (((q0 >>> ((3 : Int32) &&& 0x3f).toInt64) + ((p1 &&& (262143 : Int32)).toInt64)) + ((p2 &&& (262143 : Int32)).toInt64))), .second, .val (.long ((((q0 >>> ((3 : Int32) &&& 0x3f).toInt64) + ((p1 &&& (262143 : Int32)).toInt64)) + ((p2 &&& (262143 : Int32)).toInt64)) + ((p3 &&& (262143 : Int32)).toInt64))), .second, .val (.ref b1), .val (.ref b10), .val (.int ((1 : Int32) &&& (1 : Int32)))] [(.ref b1), (.int ((1 : Int32) &&& (1 : Int32)))])) t
    refine XS.aload X41.here hx rfl (hb hby at_98) rfl rfl ?_
    show Steps p.tables e below (T41.setTop (mkF m 100 #[.val (.long q0), .second, .val (.int p1), .val (.int p2), .val (.int p3), .val (.long (q0 >>> ((3 : Int32) &&& 0x3f).toInt64)), .second, .val (.long ((q0 >>> ((3 : Int32) &&& 0x3f).toInt64) + ((p1 &&& (262143 : Int32)).toInt64))), .second, .val (.long (((q0 >>> ((3 : Int32) &&& 0x3f).toInt64) + ((p1 &&& (262143 : Int32)).toInt64)) + ((p2 &&& (262143 : Int32)).toInt64))), .second, .val (.long ((((q0 >>> ((3 : Int32) &&& 0x3f).toInt64) + ((p1 &&& (262143 : Int32)).toInt64)) + ((p2 &&& (262143 : Int32)).toInt64)) + ((p3 &&& (262143 : Int32)).toInt64))), .second, .val (.ref b1), .val (.ref b10), .val (.int ((1 : Int32) &&& (1 : Int32)))] [(.ref b10), (.ref b1), (.int ((1 : Int32) &&& (1 : Int32)))])) t
    refine XS.lload X41.here hx rfl (hb hby at_100) rfl ?_
    exact k
  obtain ⟨_, _, ⟨T45, L45, k45, n45⟩, -, X45, ⟨Lc45, hQ45, l45, y45, z45⟩, st45⟩ := Jvm.LawKit.callS X41 hx (y := (⟨"com/example/map_of_brokers/mapofbrokers/map/RefusalWarningsRefusedPinLaw", "step", "(Lcom/example/map_of_brokers/mapofbrokers/map/RefusalWarnings;[JJ)Z"⟩ : MethodName)) hown (mvT hZ (hw _ (List.mem_of_getElem? (i := 23) rfl))) (mvT hZ (hw _ (List.mem_of_getElem? (i := 24) rfl))) (mvT hZ (hw _ (List.mem_of_getElem? (i := 25) rfl))) (mvT hZ (hw _ (List.mem_of_getElem? (i := 26) rfl))) (by decide) (backOf (W := 1) (rm4 l Z aw hw [] b1 b10 (((q0 >>> ((3 : Int32) &&& 0x3f).toInt64) + ((p1 &&& (262143 : Int32)).toInt64)) + ((p2 &&& (262143 : Int32)).toInt64)) (own_b ((q0 >>> ((3 : Int32) &&& 0x3f).toInt64) + ((p1 &&& (262143 : Int32)).toInt64)) (q0 >>> ((3 : Int32) &&& 0x3f).toInt64)) (own_c ((q0 >>> ((3 : Int32) &&& 0x3f).toInt64) + ((p1 &&& (262143 : Int32)).toInt64)) (q0 >>> ((3 : Int32) &&& 0x3f).toInt64) (0 : Int64)) k10 T41.heap n0 f42 y41_0 y41_1 y41_2 g_b1 f43 y41_3 g_b10 ne_b1_b10 (own_ok3 q0 p1 p2)) hZ (hw _ (List.mem_of_getElem? (i := 26) rfl)) (hw _ (List.mem_of_getElem? (i := 25) rfl)) (by decide) (by decide)) (g := (mkF m 102 #[.val (.long q0), .second, .val (.int p1), .val (.int p2), .val (.int p3), .val (.long (q0 >>> ((3 : Int32) &&& 0x3f).toInt64)), .second, .val (.long ((q0 >>> ((3 : Int32) &&& 0x3f).toInt64) + ((p1 &&& (262143 : Int32)).toInt64))), .second, .val (.long (((q0 >>> ((3 : Int32) &&& 0x3f).toInt64) + ((p1 &&& (262143 : Int32)).toInt64)) + ((p2 &&& (262143 : Int32)).toInt64))), .second, .val (.long ((((q0 >>> ((3 : Int32) &&& 0x3f).toInt64) + ((p1 &&& (262143 : Int32)).toInt64)) + ((p2 &&& (262143 : Int32)).toInt64)) + ((p3 &&& (262143 : Int32)).toInt64))), .second, .val (.ref b1), .val (.ref b10), .val (.int ((1 : Int32) &&& (1 : Int32)))] [(.long (((q0 >>> ((3 : Int32) &&& 0x3f).toInt64) + ((p1 &&& (262143 : Int32)).toInt64)) + ((p2 &&& (262143 : Int32)).toInt64))), (.ref b10), (.ref b1), (.int ((1 : Int32) &&& (1 : Int32)))])) rfl (by rw [hml]; rfl) (argsL := [(.ref b1), (.ref b10), (.long (((q0 >>> ((3 : Int32) &&& 0x3f).toInt64) + ((p1 &&& (262143 : Int32)).toInt64)) + ((p2 &&& (262143 : Int32)).toInt64)))]) (rest := [(.int ((1 : Int32) &&& (1 : Int32)))]) (lenOf pd_4 rfl) rfl (by show 2 * 0 + _ ≤ _; exact Nat.le_of_eq rfl) (hb hby at_102) (fun _ _ => ⟨rfl, rfl, (by decide : 2 + 0 ≤ _), (by decide : 4 + 0 ≤ _)⟩)
  dsimp only [Pt.U, Pt.locs, Pt.cells, Pt.slots] at X45 l45 y45 z45 st45 hQ45
  subst l45 y45 z45
  obtain ⟨rfl, N45q, K45, y45_0, y45_1, y45_2, y45_3⟩ := hQ45
  have f46 : n0 ≤ T45.heap.size := Nat.le_trans f42 K45.1
  have f47 : Sta Z T45.heap "com/example/map_of_brokers/mapofbrokers/map/RefusalWarnings" "EVERY_MILLIS" "J" (.long (60000 : Int64)) := own_sta_keep f43 K45 (allS (own_ns_exa y41_0) (allS (own_ns_arv y41_3) all0))
  have f48 : Exa Z T45.heap b1 "com/example/map_of_brokers/mapofbrokers/map/RefusalWarnings" := y41_0.keep K45
  have N45 := Fr.app N41 N45q
  refine OwnGo.of st45 ?_
  show OwnGo p.tables e below _ (T45.setTop (mkF m 105 #[.val (.long q0), .second, .val (.int p1), .val (.int p2), .val (.int p3), .val (.long (q0 >>> ((3 : Int32) &&& 0x3f).toInt64)), .second, .val (.long ((q0 >>> ((3 : Int32) &&& 0x3f).toInt64) + ((p1 &&& (262143 : Int32)).toInt64))), .second, .val (.long (((q0 >>> ((3 : Int32) &&& 0x3f).toInt64) + ((p1 &&& (262143 : Int32)).toInt64)) + ((p2 &&& (262143 : Int32)).toInt64))), .second, .val (.long ((((q0 >>> ((3 : Int32) &&& 0x3f).toInt64) + ((p1 &&& (262143 : Int32)).toInt64)) + ((p2 &&& (262143 : Int32)).toInt64)) + ((p3 &&& (262143 : Int32)).toInt64))), .second, .val (.ref b1), .val (.ref b10), .val (.int ((1 : Int32) &&& (1 : Int32)))] [(.int (1 : Int32)), (.int ((1 : Int32) &&& (1 : Int32)))]))
  refine OwnGo.of (A := T45.setTop (mkF m 105 #[.val (.long q0), .second, .val (.int p1), .val (.int p2), .val (.int p3), .val (.long (q0 >>> ((3 : Int32) &&& 0x3f).toInt64)), .second, .val (.long ((q0 >>> ((3 : Int32) &&& 0x3f).toInt64) + ((p1 &&& (262143 : Int32)).toInt64))), .second, .val (.long (((q0 >>> ((3 : Int32) &&& 0x3f).toInt64) + ((p1 &&& (262143 : Int32)).toInt64)) + ((p2 &&& (262143 : Int32)).toInt64))), .second, .val (.long ((((q0 >>> ((3 : Int32) &&& 0x3f).toInt64) + ((p1 &&& (262143 : Int32)).toInt64)) + ((p2 &&& (262143 : Int32)).toInt64)) + ((p3 &&& (262143 : Int32)).toInt64))), .second, .val (.ref b1), .val (.ref b10), .val (.int ((1 : Int32) &&& (1 : Int32)))] [(.int (1 : Int32)), (.int ((1 : Int32) &&& (1 : Int32)))])) (B := T45.setTop (mkF m 116 #[.val (.long q0), .second, .val (.int p1), .val (.int p2), .val (.int p3), .val (.long (q0 >>> ((3 : Int32) &&& 0x3f).toInt64)), .second, .val (.long ((q0 >>> ((3 : Int32) &&& 0x3f).toInt64) + ((p1 &&& (262143 : Int32)).toInt64))), .second, .val (.long (((q0 >>> ((3 : Int32) &&& 0x3f).toInt64) + ((p1 &&& (262143 : Int32)).toInt64)) + ((p2 &&& (262143 : Int32)).toInt64))), .second, .val (.long ((((q0 >>> ((3 : Int32) &&& 0x3f).toInt64) + ((p1 &&& (262143 : Int32)).toInt64)) + ((p2 &&& (262143 : Int32)).toInt64)) + ((p3 &&& (262143 : Int32)).toInt64))), .second, .val (.ref b1), .val (.ref b10), .val (.int (((1 : Int32) &&& (1 : Int32)) &&& (1 : Int32)))] [(.long ((((q0 >>> ((3 : Int32) &&& 0x3f).toInt64) + ((p1 &&& (262143 : Int32)).toInt64)) + ((p2 &&& (262143 : Int32)).toInt64)) + ((p3 &&& (262143 : Int32)).toInt64))), (.ref b10), (.ref b1), (.int (((1 : Int32) &&& (1 : Int32)) &&& (1 : Int32)))])) (fun t k => ?_) ?_
  · show Steps p.tables e below (T45.setTop (mkF m 105 #[.val (.long q0), .second, .val (.int p1), .val (.int p2), .val (.int p3), .val (.long (q0 >>> ((3 : Int32) &&& 0x3f).toInt64)), .second, .val (.long ((q0 >>> ((3 : Int32) &&& 0x3f).toInt64) + ((p1 &&& (262143 : Int32)).toInt64))), .second, .val (.long (((q0 >>> ((3 : Int32) &&& 0x3f).toInt64) + ((p1 &&& (262143 : Int32)).toInt64)) + ((p2 &&& (262143 : Int32)).toInt64))), .second, .val (.long ((((q0 >>> ((3 : Int32) &&& 0x3f).toInt64) + ((p1 &&& (262143 : Int32)).toInt64)) + ((p2 &&& (262143 : Int32)).toInt64)) + ((p3 &&& (262143 : Int32)).toInt64))), .second, .val (.ref b1), .val (.ref b10), .val (.int ((1 : Int32) &&& (1 : Int32)))] [(.int (1 : Int32)), (.int ((1 : Int32) &&& (1 : Int32)))])) t
    refine XS.iand X45.here hx rfl (hb hby at_105) rfl ?_
    show Steps p.tables e below (T45.setTop (mkF m 106 #[.val (.long q0), .second, .val (.int p1), .val (.int p2), .val (.int p3), .val (.long (q0 >>> ((3 : Int32) &&& 0x3f).toInt64)), .second, .val (.long ((q0 >>> ((3 : Int32) &&& 0x3f).toInt64) + ((p1 &&& (262143 : Int32)).toInt64))), .second, .val (.long (((q0 >>> ((3 : Int32) &&& 0x3f).toInt64) + ((p1 &&& (262143 : Int32)).toInt64)) + ((p2 &&& (262143 : Int32)).toInt64))), .second, .val (.long ((((q0 >>> ((3 : Int32) &&& 0x3f).toInt64) + ((p1 &&& (262143 : Int32)).toInt64)) + ((p2 &&& (262143 : Int32)).toInt64)) + ((p3 &&& (262143 : Int32)).toInt64))), .second, .val (.ref b1), .val (.ref b10), .val (.int ((1 : Int32) &&& (1 : Int32)))] [(.int (((1 : Int32) &&& (1 : Int32)) &&& (1 : Int32)))])) t
    refine XS.istore X45.here hx rfl (hb hby at_106) rfl (l' := #[.val (.long q0), .second, .val (.int p1), .val (.int p2), .val (.int p3), .val (.long (q0 >>> ((3 : Int32) &&& 0x3f).toInt64)), .second, .val (.long ((q0 >>> ((3 : Int32) &&& 0x3f).toInt64) + ((p1 &&& (262143 : Int32)).toInt64))), .second, .val (.long (((q0 >>> ((3 : Int32) &&& 0x3f).toInt64) + ((p1 &&& (262143 : Int32)).toInt64)) + ((p2 &&& (262143 : Int32)).toInt64))), .second, .val (.long ((((q0 >>> ((3 : Int32) &&& 0x3f).toInt64) + ((p1 &&& (262143 : Int32)).toInt64)) + ((p2 &&& (262143 : Int32)).toInt64)) + ((p3 &&& (262143 : Int32)).toInt64))), .second, .val (.ref b1), .val (.ref b10), .val (.int (((1 : Int32) &&& (1 : Int32)) &&& (1 : Int32)))]) rfl ?_
    show Steps p.tables e below (T45.setTop (mkF m 108 #[.val (.long q0), .second, .val (.int p1), .val (.int p2), .val (.int p3), .val (.long (q0 >>> ((3 : Int32) &&& 0x3f).toInt64)), .second, .val (.long ((q0 >>> ((3 : Int32) &&& 0x3f).toInt64) + ((p1 &&& (262143 : Int32)).toInt64))), .second, .val (.long (((q0 >>> ((3 : Int32) &&& 0x3f).toInt64) + ((p1 &&& (262143 : Int32)).toInt64)) + ((p2 &&& (262143 : Int32)).toInt64))), .second, .val (.long ((((q0 >>> ((3 : Int32) &&& 0x3f).toInt64) + ((p1 &&& (262143 : Int32)).toInt64)) + ((p2 &&& (262143 : Int32)).toInt64)) + ((p3 &&& (262143 : Int32)).toInt64))), .second, .val (.ref b1), .val (.ref b10), .val (.int (((1 : Int32) &&& (1 : Int32)) &&& (1 : Int32)))] [])) t
    refine XS.iload X45.here hx rfl (hb hby at_108) rfl ?_
    show Steps p.tables e below (T45.setTop (mkF m 110 #[.val (.long q0), .second, .val (.int p1), .val (.int p2), .val (.int p3), .val (.long (q0 >>> ((3 : Int32) &&& 0x3f).toInt64)), .second, .val (.long ((q0 >>> ((3 : Int32) &&& 0x3f).toInt64) + ((p1 &&& (262143 : Int32)).toInt64))), .second, .val (.long (((q0 >>> ((3 : Int32) &&& 0x3f).toInt64) + ((p1 &&& (262143 : Int32)).toInt64)) + ((p2 &&& (262143 : Int32)).toInt64))), .second, .val (.long ((((q0 >>> ((3 : Int32) &&& 0x3f).toInt64) + ((p1 &&& (262143 : Int32)).toInt64)) + ((p2 &&& (262143 : Int32)).toInt64)) + ((p3 &&& (262143 : Int32)).toInt64))), .second, .val (.ref b1), .val (.ref b10), .val (.int (((1 : Int32) &&& (1 : Int32)) &&& (1 : Int32)))] [(.int (((1 : Int32) &&& (1 : Int32)) &&& (1 : Int32)))])) t
    refine XS.aload X45.here hx rfl (hb hby at_110) rfl rfl ?_
    show Steps p.tables e below (T45.setTop (mkF m 112 #[.val (.long q0), .second, .val (.int p1), .val (.int p2), .val (.int p3), .val (.long (q0 >>> ((3 : Int32) &&& 0x3f).toInt64)), .second, .val (.long ((q0 >>> ((3 : Int32) &&& 0x3f).toInt64) + ((p1 &&& (262143 : Int32)).toInt64))), .second, .val (.long (((q0 >>> ((3 : Int32) &&& 0x3f).toInt64) + ((p1 &&& (262143 : Int32)).toInt64)) + ((p2 &&& (262143 : Int32)).toInt64))), .second, .val (.long ((((q0 >>> ((3 : Int32) &&& 0x3f).toInt64) + ((p1 &&& (262143 : Int32)).toInt64)) + ((p2 &&& (262143 : Int32)).toInt64)) + ((p3 &&& (262143 : Int32)).toInt64))), .second, .val (.ref b1), .val (.ref b10), .val (.int (((1 : Int32) &&& (1 : Int32)) &&& (1 : Int32)))] [(.ref b1), (.int (((1 : Int32) &&& (1 : Int32)) &&& (1 : Int32)))])) t
    refine XS.aload X45.here hx rfl (hb hby at_112) rfl rfl ?_
    show Steps p.tables e below (T45.setTop (mkF m 114 #[.val (.long q0), .second, .val (.int p1), .val (.int p2), .val (.int p3), .val (.long (q0 >>> ((3 : Int32) &&& 0x3f).toInt64)), .second, .val (.long ((q0 >>> ((3 : Int32) &&& 0x3f).toInt64) + ((p1 &&& (262143 : Int32)).toInt64))), .second, .val (.long (((q0 >>> ((3 : Int32) &&& 0x3f).toInt64) + ((p1 &&& (262143 : Int32)).toInt64)) + ((p2 &&& (262143 : Int32)).toInt64))), .second, .val (.long ((((q0 >>> ((3 : Int32) &&& 0x3f).toInt64) + ((p1 &&& (262143 : Int32)).toInt64)) + ((p2 &&& (262143 : Int32)).toInt64)) + ((p3 &&& (262143 : Int32)).toInt64))), .second, .val (.ref b1), .val (.ref b10), .val (.int (((1 : Int32) &&& (1 : Int32)) &&& (1 : Int32)))] [(.ref b10), (.ref b1), (.int (((1 : Int32) &&& (1 : Int32)) &&& (1 : Int32)))])) t
    refine XS.lload X45.here hx rfl (hb hby at_114) rfl ?_
    exact k
  obtain ⟨_, _, ⟨T49, L49, k49, n49⟩, -, X49, ⟨Lc49, hQ49, l49, y49, z49⟩, st49⟩ := Jvm.LawKit.callS X45 hx (y := (⟨"com/example/map_of_brokers/mapofbrokers/map/RefusalWarningsRefusedPinLaw", "step", "(Lcom/example/map_of_brokers/mapofbrokers/map/RefusalWarnings;[JJ)Z"⟩ : MethodName)) hown (mvT hZ (hw _ (List.mem_of_getElem? (i := 23) rfl))) (mvT hZ (hw _ (List.mem_of_getElem? (i := 24) rfl))) (mvT hZ (hw _ (List.mem_of_getElem? (i := 25) rfl))) (mvT hZ (hw _ (List.mem_of_getElem? (i := 26) rfl))) (by decide) (backOf (W := 1) (rm4 l Z aw hw [] b1 b10 ((((q0 >>> ((3 : Int32) &&& 0x3f).toInt64) + ((p1 &&& (262143 : Int32)).toInt64)) + ((p2 &&& (262143 : Int32)).toInt64)) + ((p3 &&& (262143 : Int32)).toInt64)) (own_b (((q0 >>> ((3 : Int32) &&& 0x3f).toInt64) + ((p1 &&& (262143 : Int32)).toInt64)) + ((p2 &&& (262143 : Int32)).toInt64)) (own_b ((q0 >>> ((3 : Int32) &&& 0x3f).toInt64) + ((p1 &&& (262143 : Int32)).toInt64)) (q0 >>> ((3 : Int32) &&& 0x3f).toInt64))) (own_c (((q0 >>> ((3 : Int32) &&& 0x3f).toInt64) + ((p1 &&& (262143 : Int32)).toInt64)) + ((p2 &&& (262143 : Int32)).toInt64)) (own_b ((q0 >>> ((3 : Int32) &&& 0x3f).toInt64) + ((p1 &&& (262143 : Int32)).toInt64)) (q0 >>> ((3 : Int32) &&& 0x3f).toInt64)) (own_c ((q0 >>> ((3 : Int32) &&& 0x3f).toInt64) + ((p1 &&& (262143 : Int32)).toInt64)) (q0 >>> ((3 : Int32) &&& 0x3f).toInt64) (0 : Int64))) k10 T45.heap n0 f46 y45_0 y45_1 y45_2 g_b1 f47 y45_3 g_b10 ne_b1_b10 (own_ok4 q0 p1 p2 p3)) hZ (hw _ (List.mem_of_getElem? (i := 26) rfl)) (hw _ (List.mem_of_getElem? (i := 25) rfl)) (by decide) (by decide)) (g := (mkF m 116 #[.val (.long q0), .second, .val (.int p1), .val (.int p2), .val (.int p3), .val (.long (q0 >>> ((3 : Int32) &&& 0x3f).toInt64)), .second, .val (.long ((q0 >>> ((3 : Int32) &&& 0x3f).toInt64) + ((p1 &&& (262143 : Int32)).toInt64))), .second, .val (.long (((q0 >>> ((3 : Int32) &&& 0x3f).toInt64) + ((p1 &&& (262143 : Int32)).toInt64)) + ((p2 &&& (262143 : Int32)).toInt64))), .second, .val (.long ((((q0 >>> ((3 : Int32) &&& 0x3f).toInt64) + ((p1 &&& (262143 : Int32)).toInt64)) + ((p2 &&& (262143 : Int32)).toInt64)) + ((p3 &&& (262143 : Int32)).toInt64))), .second, .val (.ref b1), .val (.ref b10), .val (.int (((1 : Int32) &&& (1 : Int32)) &&& (1 : Int32)))] [(.long ((((q0 >>> ((3 : Int32) &&& 0x3f).toInt64) + ((p1 &&& (262143 : Int32)).toInt64)) + ((p2 &&& (262143 : Int32)).toInt64)) + ((p3 &&& (262143 : Int32)).toInt64))), (.ref b10), (.ref b1), (.int (((1 : Int32) &&& (1 : Int32)) &&& (1 : Int32)))])) rfl (by rw [hml]; rfl) (argsL := [(.ref b1), (.ref b10), (.long ((((q0 >>> ((3 : Int32) &&& 0x3f).toInt64) + ((p1 &&& (262143 : Int32)).toInt64)) + ((p2 &&& (262143 : Int32)).toInt64)) + ((p3 &&& (262143 : Int32)).toInt64)))]) (rest := [(.int (((1 : Int32) &&& (1 : Int32)) &&& (1 : Int32)))]) (lenOf pd_4 rfl) rfl (by show 2 * 0 + _ ≤ _; exact Nat.le_of_eq rfl) (hb hby at_116) (fun _ _ => ⟨rfl, rfl, (by decide : 2 + 0 ≤ _), (by decide : 4 + 0 ≤ _)⟩)
  dsimp only [Pt.U, Pt.locs, Pt.cells, Pt.slots] at X49 l49 y49 z49 st49 hQ49
  subst l49 y49 z49
  obtain ⟨rfl, N49q, K49, y49_0, y49_1, y49_2, y49_3⟩ := hQ49
  have f50 : n0 ≤ T49.heap.size := Nat.le_trans f46 K49.1
  have f51 : Sta Z T49.heap "com/example/map_of_brokers/mapofbrokers/map/RefusalWarnings" "EVERY_MILLIS" "J" (.long (60000 : Int64)) := own_sta_keep f47 K49 (allS (own_ns_exa y45_0) (allS (own_ns_arv y45_3) all0))
  have f52 : Exa Z T49.heap b1 "com/example/map_of_brokers/mapofbrokers/map/RefusalWarnings" := y45_0.keep K49
  have N49 := Fr.app N45 N49q
  refine OwnGo.of st49 ?_
  show OwnGo p.tables e below _ (T49.setTop (mkF m 119 #[.val (.long q0), .second, .val (.int p1), .val (.int p2), .val (.int p3), .val (.long (q0 >>> ((3 : Int32) &&& 0x3f).toInt64)), .second, .val (.long ((q0 >>> ((3 : Int32) &&& 0x3f).toInt64) + ((p1 &&& (262143 : Int32)).toInt64))), .second, .val (.long (((q0 >>> ((3 : Int32) &&& 0x3f).toInt64) + ((p1 &&& (262143 : Int32)).toInt64)) + ((p2 &&& (262143 : Int32)).toInt64))), .second, .val (.long ((((q0 >>> ((3 : Int32) &&& 0x3f).toInt64) + ((p1 &&& (262143 : Int32)).toInt64)) + ((p2 &&& (262143 : Int32)).toInt64)) + ((p3 &&& (262143 : Int32)).toInt64))), .second, .val (.ref b1), .val (.ref b10), .val (.int (((1 : Int32) &&& (1 : Int32)) &&& (1 : Int32)))] [(.int (1 : Int32)), (.int (((1 : Int32) &&& (1 : Int32)) &&& (1 : Int32)))]))
  refine OwnGo.of (A := T49.setTop (mkF m 119 #[.val (.long q0), .second, .val (.int p1), .val (.int p2), .val (.int p3), .val (.long (q0 >>> ((3 : Int32) &&& 0x3f).toInt64)), .second, .val (.long ((q0 >>> ((3 : Int32) &&& 0x3f).toInt64) + ((p1 &&& (262143 : Int32)).toInt64))), .second, .val (.long (((q0 >>> ((3 : Int32) &&& 0x3f).toInt64) + ((p1 &&& (262143 : Int32)).toInt64)) + ((p2 &&& (262143 : Int32)).toInt64))), .second, .val (.long ((((q0 >>> ((3 : Int32) &&& 0x3f).toInt64) + ((p1 &&& (262143 : Int32)).toInt64)) + ((p2 &&& (262143 : Int32)).toInt64)) + ((p3 &&& (262143 : Int32)).toInt64))), .second, .val (.ref b1), .val (.ref b10), .val (.int (((1 : Int32) &&& (1 : Int32)) &&& (1 : Int32)))] [(.int (1 : Int32)), (.int (((1 : Int32) &&& (1 : Int32)) &&& (1 : Int32)))])) (B := T49.setTop (mkF m 124 #[.val (.long q0), .second, .val (.int p1), .val (.int p2), .val (.int p3), .val (.long (q0 >>> ((3 : Int32) &&& 0x3f).toInt64)), .second, .val (.long ((q0 >>> ((3 : Int32) &&& 0x3f).toInt64) + ((p1 &&& (262143 : Int32)).toInt64))), .second, .val (.long (((q0 >>> ((3 : Int32) &&& 0x3f).toInt64) + ((p1 &&& (262143 : Int32)).toInt64)) + ((p2 &&& (262143 : Int32)).toInt64))), .second, .val (.long ((((q0 >>> ((3 : Int32) &&& 0x3f).toInt64) + ((p1 &&& (262143 : Int32)).toInt64)) + ((p2 &&& (262143 : Int32)).toInt64)) + ((p3 &&& (262143 : Int32)).toInt64))), .second, .val (.ref b1), .val (.ref b10), .val (.int ((((1 : Int32) &&& (1 : Int32)) &&& (1 : Int32)) &&& (1 : Int32)))] [(.int ((((1 : Int32) &&& (1 : Int32)) &&& (1 : Int32)) &&& (1 : Int32)))])) (fun t k => ?_) ?_
  · show Steps p.tables e below (T49.setTop (mkF m 119 #[.val (.long q0), .second, .val (.int p1), .val (.int p2), .val (.int p3), .val (.long (q0 >>> ((3 : Int32) &&& 0x3f).toInt64)), .second, .val (.long ((q0 >>> ((3 : Int32) &&& 0x3f).toInt64) + ((p1 &&& (262143 : Int32)).toInt64))), .second, .val (.long (((q0 >>> ((3 : Int32) &&& 0x3f).toInt64) + ((p1 &&& (262143 : Int32)).toInt64)) + ((p2 &&& (262143 : Int32)).toInt64))), .second, .val (.long ((((q0 >>> ((3 : Int32) &&& 0x3f).toInt64) + ((p1 &&& (262143 : Int32)).toInt64)) + ((p2 &&& (262143 : Int32)).toInt64)) + ((p3 &&& (262143 : Int32)).toInt64))), .second, .val (.ref b1), .val (.ref b10), .val (.int (((1 : Int32) &&& (1 : Int32)) &&& (1 : Int32)))] [(.int (1 : Int32)), (.int (((1 : Int32) &&& (1 : Int32)) &&& (1 : Int32)))])) t
    refine XS.iand X49.here hx rfl (hb hby at_119) rfl ?_
    show Steps p.tables e below (T49.setTop (mkF m 120 #[.val (.long q0), .second, .val (.int p1), .val (.int p2), .val (.int p3), .val (.long (q0 >>> ((3 : Int32) &&& 0x3f).toInt64)), .second, .val (.long ((q0 >>> ((3 : Int32) &&& 0x3f).toInt64) + ((p1 &&& (262143 : Int32)).toInt64))), .second, .val (.long (((q0 >>> ((3 : Int32) &&& 0x3f).toInt64) + ((p1 &&& (262143 : Int32)).toInt64)) + ((p2 &&& (262143 : Int32)).toInt64))), .second, .val (.long ((((q0 >>> ((3 : Int32) &&& 0x3f).toInt64) + ((p1 &&& (262143 : Int32)).toInt64)) + ((p2 &&& (262143 : Int32)).toInt64)) + ((p3 &&& (262143 : Int32)).toInt64))), .second, .val (.ref b1), .val (.ref b10), .val (.int (((1 : Int32) &&& (1 : Int32)) &&& (1 : Int32)))] [(.int ((((1 : Int32) &&& (1 : Int32)) &&& (1 : Int32)) &&& (1 : Int32)))])) t
    refine XS.istore X49.here hx rfl (hb hby at_120) rfl (l' := #[.val (.long q0), .second, .val (.int p1), .val (.int p2), .val (.int p3), .val (.long (q0 >>> ((3 : Int32) &&& 0x3f).toInt64)), .second, .val (.long ((q0 >>> ((3 : Int32) &&& 0x3f).toInt64) + ((p1 &&& (262143 : Int32)).toInt64))), .second, .val (.long (((q0 >>> ((3 : Int32) &&& 0x3f).toInt64) + ((p1 &&& (262143 : Int32)).toInt64)) + ((p2 &&& (262143 : Int32)).toInt64))), .second, .val (.long ((((q0 >>> ((3 : Int32) &&& 0x3f).toInt64) + ((p1 &&& (262143 : Int32)).toInt64)) + ((p2 &&& (262143 : Int32)).toInt64)) + ((p3 &&& (262143 : Int32)).toInt64))), .second, .val (.ref b1), .val (.ref b10), .val (.int ((((1 : Int32) &&& (1 : Int32)) &&& (1 : Int32)) &&& (1 : Int32)))]) rfl ?_
    show Steps p.tables e below (T49.setTop (mkF m 122 #[.val (.long q0), .second, .val (.int p1), .val (.int p2), .val (.int p3), .val (.long (q0 >>> ((3 : Int32) &&& 0x3f).toInt64)), .second, .val (.long ((q0 >>> ((3 : Int32) &&& 0x3f).toInt64) + ((p1 &&& (262143 : Int32)).toInt64))), .second, .val (.long (((q0 >>> ((3 : Int32) &&& 0x3f).toInt64) + ((p1 &&& (262143 : Int32)).toInt64)) + ((p2 &&& (262143 : Int32)).toInt64))), .second, .val (.long ((((q0 >>> ((3 : Int32) &&& 0x3f).toInt64) + ((p1 &&& (262143 : Int32)).toInt64)) + ((p2 &&& (262143 : Int32)).toInt64)) + ((p3 &&& (262143 : Int32)).toInt64))), .second, .val (.ref b1), .val (.ref b10), .val (.int ((((1 : Int32) &&& (1 : Int32)) &&& (1 : Int32)) &&& (1 : Int32)))] [])) t
    refine XS.iload X49.here hx rfl (hb hby at_122) rfl ?_
    exact k
  obtain ⟨fs, hr, hrun, hended, hW, hsame⟩ := X49.leave (v := some (.int (nar .boolean ((((1 : Int32) &&& (1 : Int32)) &&& (1 : Int32)) &&& (1 : Int32))))) (fun h => by rw [Bd.returns] at h; cases h) hlk
  refine ⟨_, _, ?_, hrun, hended, _, _, rfl, ?_, ⟨_, rfl⟩, hW, hsame.mono (by decide) (by decide)⟩
  · show Steps p.tables e below (T49.setTop (mkF m 124 #[.val (.long q0), .second, .val (.int p1), .val (.int p2), .val (.int p3), .val (.long (q0 >>> ((3 : Int32) &&& 0x3f).toInt64)), .second, .val (.long ((q0 >>> ((3 : Int32) &&& 0x3f).toInt64) + ((p1 &&& (262143 : Int32)).toInt64))), .second, .val (.long (((q0 >>> ((3 : Int32) &&& 0x3f).toInt64) + ((p1 &&& (262143 : Int32)).toInt64)) + ((p2 &&& (262143 : Int32)).toInt64))), .second, .val (.long ((((q0 >>> ((3 : Int32) &&& 0x3f).toInt64) + ((p1 &&& (262143 : Int32)).toInt64)) + ((p2 &&& (262143 : Int32)).toInt64)) + ((p3 &&& (262143 : Int32)).toInt64))), .second, .val (.ref b1), .val (.ref b10), .val (.int ((((1 : Int32) &&& (1 : Int32)) &&& (1 : Int32)) &&& (1 : Int32)))] [(.int ((((1 : Int32) &&& (1 : Int32)) &&& (1 : Int32)) &&& (1 : Int32)))])) _
    exact retN X49 hx (t := .boolean) Bd.returns (by simp) (hb hby at_124) hr
  · show Qrm0 Z q0 p1 p2 p3 h0 n0 _ (T49.setFrames fs).heap _
    rw [show (T49.setFrames fs).heap = T49.heap from rfl]
    exact ⟨rfl, N49⟩
theorem own_staL {s : State} {args : Array Value} {C n d : String} {k : Int64} (h : (Jvm.Cond.eq (.static C n d) (.long k)).value args s none s [] = some true) : (Term.static C n d).eval args s none [] s = some (.long k) := by
  have hb : (Term.long k).eval args s none [] s = some (.long k) := rfl
  cases ha : (Term.static C n d).eval args s none [] s with
  | none => simp [Cond.value, ha] at h
  | some x =>
    cases x <;> simp [Cond.value, ha, hb] at h
    subst h; rfl
set_option maxRecDepth 65536 in
set_option maxHeartbeats 40000000 in
theorem comes_1 {Post : Tables → Env → Array Value → State → Outcome → State → Prop} (hpost : ∀ tb e args s v u, (limb_1_1.after args s (.returned v) u = true ∧ limb_1_2.after args s (.returned v) u = true ∧ True) → FrameEnd s (.returned v) u (Jvm.fieldLocs frame_1_writes args s ++ Jvm.arrayLocs frame_1_arrays args s ++ Jvm.staticLocs frame_1_statics s) 16 128 → Post tb e args s (.returned v) u) :
    ArmFor flags0 classFile x code maxLocals ret World_1 tables_1 room_1 Calls_1 rest_1 Pre_1 Post := by
  intro l hfl _ _ p e ha hc hk s m args below hf hA hF happ hP
  obtain ⟨hcalls, hrest, hpre⟩ := hP
  obtain ⟨-, -, -, hnamed, -, -, -, hat⟩ := (Spec.applies_iff hf).mp happ
  obtain ⟨hg, hn⟩ := and_e (Cond.before_iff.mp (show (Jvm.Cond.and given_1 narrow_1).before args s = true from hpre))
  obtain ⟨gg1, gg2⟩ := and_e hg
  obtain ⟨gg3, gg4⟩ := and_e gg2
  obtain ⟨gg5, gg6⟩ := and_e gg4
  obtain ⟨gg7, gg8⟩ := and_e gg6
  obtain ⟨w0, w1, w2, w3, rfl⟩ : ∃ w0 w1 w2 w3 : Value, args = #[w0, w1, w2, w3] := by
    have hs : args.size = 4 := by simpa [Cond.value, given_1] using gg1
    obtain ⟨L⟩ := args
    match L, hs with
    | [w0, w1, w2, w3], _ => exact ⟨w0, w1, w2, w3, rfl⟩
  have hw := fun d (hd : d ∈ tables_1) => atoms_spec (ws := Jvm.Cond.code x code maxLocals ret :: tables_1) hat d (List.mem_cons_of_mem _ hd)
  have hfit : Fit s := fun {y c} hc i hi => by
    obtain ⟨ha, rfl⟩ := Array.getElem?_eq_some_iff.mp hc
    have q := List.all_eq_true.mp ((Array.all_eq_true_iff_forall_mem.mp hF) _ (Array.getElem_mem ha)) i (List.mem_range.mpr hi)
    simpa [Array.getElem?_eq_getElem hi] using q
  obtain ⟨i0, ei0⟩ := isL_v gg3
  obtain rfl : w0 = (.long i0) := Option.some.inj ei0
  obtain ⟨i1, ei1⟩ := is_v gg5
  obtain rfl : w1 = (.int i1) := Option.some.inj ei1
  obtain ⟨i2, ei2⟩ := is_v gg7
  obtain rfl : w2 = (.int i2) := Option.some.inj ei2
  obtain ⟨i3, ei3⟩ := is_v gg8
  obtain rfl : w3 = (.int i3) := Option.some.inj ei3
  have S_EVERY : Sta s s.heap "com/example/map_of_brokers/mapofbrokers/map/RefusalWarnings" "EVERY_MILLIS" "J" (.long (60000 : Int64)) := Sta.start (own_staL hn) (Or.inr ⟨(hw _ (List.mem_of_getElem? (i := 3) rfl)), (hw _ (List.mem_of_getElem? (i := 22) rfl))⟩)
  obtain ⟨n, o, h1, h2, h3, _, L, rfl, ⟨rfl, N⟩, hq⟩ := rm0 l s _ hw tables_1 i0 i1 i2 i3  s.heap s.heap.size (Nat.le_refl _) S_EVERY p e ha hc hk s m _ below hf ((Spec.applies_iff_loose hf).mp happ).1 ⟨rfl, State.Warmed39.refl s, rfl⟩ trivial
  refine ⟨n, _, h1, h2, h3, hpost _ _ _ _ _ _ ⟨Cond.after_iff.mpr rfl, Cond.after_iff.mpr (eq_i res_at (Term.int_eval (1)) rfl), trivial⟩ ⟨hq.1, hq.2.1, (hq.2.2.sift fun y hy => Or.inr (N y hy)).mono (by decide) (by decide)⟩⟩
theorem main_1_1 : Claimed_1_1 := comes_1 fun _ _ _ _ _ _ h hF => ⟨h.1, hF⟩
theorem main_1_2 : Claimed_1_2 := comes_1 fun _ _ _ _ _ _ h hF => ⟨h.2.1, hF⟩
end Jvm.Pilot.@@N@@
namespace Jvm.Pilot.@@N@@
open Jvm Jvm.ClassFile Sem Op Lib Jvm.Free Jvm.Stand Jvm.Pilot.@@N@@.Jvm.D
/-! MADE BY PROGRAM (witnessworld.py) out of the Statement's table words and the real class files: 11 classes; the members and pool entries that the words name. The judged class is class 1, her method 1. -/
namespace start1
open Jvm.ClassFile
def u (s : String) : CpInfo := .utf8 (stringToUtf16 s)
/-- a pool by its gaps: so many unusable entries, then the entry; so many at the end -/
def gap : Nat → List CpInfo → List CpInfo
  | 0, r => r
  | n + 1, r => .unusable :: gap n r
def poolList (es : List (Nat × CpInfo)) (last : Nat) : List CpInfo := es.foldr (fun e r => gap e.1 (e.2 :: r)) (gap last [])
def pool (es : List (Nat × CpInfo)) (last : Nat) : Array CpInfo := ⟨poolList es last⟩
def fileOf (pool : Array CpInfo) (this : Nat) (attrs : Array Attribute := #[]) (ms : Array MethodInfo := #[]) (fl : Nat := 33) (sup : Nat := 0) (ifs : Array Nat := #[]) (fds : Array FieldInfo := #[]) : ClassFile where
  minorVersion := 0
  majorVersion := 65
  constantPool := pool
  accessFlags := fl
  thisClass := this
  superClass := sup
  interfaces := ifs
  fields := fds
  methods := ms
  attributes := attrs
def plain (name : String) (sup : Option ClassId) : Class where
  name := name
  kind := .ordinary
  loader := none
  accessFlags := 33
  super := sup
  interfaces := #[]
  cf := none
  fields := #[]
  methods := #[]
  instanceTypes := #[]
  staticTypes := #[]
  resolved := #[]
  callSites := []
  init := .initialized
  statics := none
  mirror := none

def pool0 : Array CpInfo := pool [(5, u "<init>"), (0, u "()V"), (1, .class_ 10), (1, u "java/lang/Object")] 113

def k0c0 : Code := { maxStack := 0, maxLocals := 1, code := object_method_1_code, exceptionTable := #[], attributes := #[] }
def k0m0 : Method := { name := "<init>", desc := "()V", sig := { parameters := [], returnType := none }, accessFlags := 1, code := some k0c0 }
/-- java/lang/Object -/
def k0 : Class := { plain "java/lang/Object" none with
  accessFlags := 33
  interfaces := #[]
  cf := some (fileOf pool0 8 #[] #[{ accessFlags := 1, nameIndex := 5, descriptorIndex := 6, attributes := #[] }] 33 0 #[] #[])
  fields := #[]
  methods := #[k0m0]
  instanceTypes := #[]
  staticTypes := #[]
  resolved := Array.replicate 124 none
  statics := none }

def pool1 : Array CpInfo := pool [(2, .class_ 4), (0, .nameAndType 5 6), (0, u "java/lang/Object"), (0, u "<init>"), (0, u "()V"), (0, .integer 262143), (0, .class_ 9), (0, u "com/example/map_of_brokers/mapofbrokers/map/RefusalWarnings"), (0, .methodref 8 3), (0, .methodref 8 12), (0, .nameAndType 13 14), (0, u "refused"), (0, u "(J)J"), (0, .methodref 16 17), (0, .class_ 18), (0, .nameAndType 19 20), (0, u "com/example/map_of_brokers/mapofbrokers/map/RefusalWarningsRefusedPinLaw"), (0, u "step"), (0, u "(Lcom/example/map_of_brokers/mapofbrokers/map/RefusalWarnings;[JJ)Z"), (0, .long 60000), (3, u "law"), (0, u "(JIII)Z")] 5

def k1m0 : Method := { name := "<init>", desc := "()V", sig := { parameters := [], returnType := none }, accessFlags := 1, code := none }
def k1c1 : Code := { maxStack := 5, maxLocals := 16, code := code, exceptionTable := #[], attributes := #[] }
def k1m1 : Method := { name := "law", desc := "(JIII)Z", sig := { parameters := [.long, .int, .int, .int], returnType := some .boolean }, accessFlags := 9, code := some k1c1 }
def k1c2 : Code := { maxStack := 6, maxLocals := 8, code := method_3_code, exceptionTable := #[], attributes := #[] }
def k1m2 : Method := { name := "step", desc := "(Lcom/example/map_of_brokers/mapofbrokers/map/RefusalWarnings;[JJ)Z", sig := { parameters := [(.object "com/example/map_of_brokers/mapofbrokers/map/RefusalWarnings"), (.array .long), .long], returnType := some .boolean }, accessFlags := 10, code := some k1c2 }
/-- com/example/map_of_brokers/mapofbrokers/map/RefusalWarningsRefusedPinLaw -/
def k1 : Class := { plain "com/example/map_of_brokers/mapofbrokers/map/RefusalWarningsRefusedPinLaw" (some 0) with
  accessFlags := 49
  interfaces := #[]
  cf := some (fileOf pool1 16 #[] #[{ accessFlags := 1, nameIndex := 5, descriptorIndex := 6, attributes := #[] }, { accessFlags := 9, nameIndex := 25, descriptorIndex := 26, attributes := #[] }, { accessFlags := 10, nameIndex := 19, descriptorIndex := 20, attributes := #[] }] 49 2 #[] #[])
  fields := #[]
  methods := #[k1m0, k1m1, k1m2]
  instanceTypes := #[]
  staticTypes := #[]
  resolved := Array.replicate 32 none
  statics := none }

def pool2 : Array CpInfo := pool [(1, .methodref 2 3), (0, .class_ 4), (0, .nameAndType 5 6), (0, u "java/lang/Object"), (0, u "<init>"), (0, u "()V"), (2, .long 9223372036854775808), (1, .fieldref 12 13), (0, .class_ 14), (0, .nameAndType 15 16), (0, u "com/example/map_of_brokers/mapofbrokers/map/RefusalWarnings"), (0, u "nextWarning"), (0, u "J"), (0, .fieldref 12 18), (0, .nameAndType 19 16), (0, u "sinceWarning"), (0, .fieldref 12 21), (0, .nameAndType 22 16), (0, u "EVERY_MILLIS"), (12, u "refused"), (0, u "(J)J")] 4

def k2c0 : Code := { maxStack := 3, maxLocals := 1, code := prog_28_method_1_code, exceptionTable := #[], attributes := #[] }
def k2m0 : Method := { name := "<init>", desc := "()V", sig := { parameters := [], returnType := none }, accessFlags := 1, code := some k2c0 }
def k2c1 : Code := { maxStack := 5, maxLocals := 5, code := prog_28_method_2_code, exceptionTable := #[], attributes := #[] }
def k2m1 : Method := { name := "refused", desc := "(J)J", sig := { parameters := [.long], returnType := some .long }, accessFlags := 1, code := some k2c1 }
/-- com/example/map_of_brokers/mapofbrokers/map/RefusalWarnings -/
def k2 : Class := { plain "com/example/map_of_brokers/mapofbrokers/map/RefusalWarnings" (some 0) with
  accessFlags := 33
  interfaces := #[]
  cf := some (fileOf pool2 12 #[] #[{ accessFlags := 1, nameIndex := 5, descriptorIndex := 6, attributes := #[] }, { accessFlags := 1, nameIndex := 35, descriptorIndex := 36, attributes := #[] }] 33 2 #[] #[{ accessFlags := 26, nameIndex := 22, descriptorIndex := 16, attributes := #[] }, { accessFlags := 2, nameIndex := 19, descriptorIndex := 16, attributes := #[] }, { accessFlags := 2, nameIndex := 15, descriptorIndex := 16, attributes := #[] }])
  fields := #[{ name := "EVERY_MILLIS", type := .long, accessFlags := 26, slot := 0, constantValue := 0 }, { name := "sinceWarning", type := .long, accessFlags := 2, slot := 0, constantValue := 0 }, { name := "nextWarning", type := .long, accessFlags := 2, slot := 1, constantValue := 0 }]
  methods := #[k2m0, k2m1]
  instanceTypes := #[.long, .long]
  staticTypes := #[.long]
  resolved := Array.replicate 41 none
  statics := some 0 }

def pool3 : Array CpInfo := pool [(1, u "java/lang/Cloneable"), (0, .class_ 1), (0, u "java/lang/Object"), (0, .class_ 3)] 3

/-- java/lang/Cloneable -/
def k3 : Class := { plain "java/lang/Cloneable" (some 0) with
  accessFlags := 1537
  interfaces := #[]
  cf := some (fileOf pool3 2 #[] #[] 1537 4 #[] #[])
  fields := #[]
  methods := #[]
  instanceTypes := #[]
  staticTypes := #[]
  resolved := Array.replicate 8 none
  statics := none }

def pool4 : Array CpInfo := pool [(1, u "java/io/Serializable"), (0, .class_ 1), (0, u "java/lang/Object"), (0, .class_ 3)] 3

/-- java/io/Serializable -/
def k4 : Class := { plain "java/io/Serializable" (some 0) with
  accessFlags := 1537
  interfaces := #[]
  cf := some (fileOf pool4 2 #[] #[] 1537 4 #[] #[])
  fields := #[]
  methods := #[]
  instanceTypes := #[]
  staticTypes := #[]
  resolved := Array.replicate 8 none
  statics := none }

/-- the primitive byte -/
def k5 : Class := { plain "byte" none with kind := .primitive 'B', accessFlags := 0x411 }
/-- [B -/
def k6 : Class := { plain "[B" (some 0) with kind := .array 5 .byte, interfaces := #[3, 4], accessFlags := 1041 }

/-- the primitive int -/
def k7 : Class := { plain "int" none with kind := .primitive 'I', accessFlags := 0x411 }
/-- [I -/
def k8 : Class := { plain "[I" (some 0) with kind := .array 7 .int, interfaces := #[3, 4], accessFlags := 1041 }

/-- the primitive long -/
def k9 : Class := { plain "long" none with kind := .primitive 'J', accessFlags := 0x411 }
/-- [J -/
def k10 : Class := { plain "[J" (some 0) with kind := .array 9 .long, interfaces := #[3, 4], accessFlags := 1041 }

def heap : Heap := #[{ cls := 2, slots := #[.long 60000], vm := .statics 2 }]
def classes : Array Class := #[k0, k1, k2, k3, k4, k5, k6, k7, k8, k9, k10]
def interned : List (Array UInt16 × Addr) := []
def slotsUsed : Nat := 1
def theMethod : MethodId := ⟨1, 1⟩
def args0 : Array Value := #[.long 3000, .int 4, .int 5, .int 70000]
def aboutOver (below : List Frame) : State where
  vm := { classes := classes, interned := interned.toArray }
  heap := heap
  slotsUsed := slotsUsed
  threads := #[{ frames := .invoking theMethod args0 :: below }]
def below0 : List Frame := [.native { method := ⟨0, 0⟩, args := #[] }]
def about1 : State := aboutOver below0
def p0 : Program := .bare "" "" ""
def e0 : Env := launch0.env 0 0 0
theorem w_frames : about1.frames = Frame.invoking theMethod args0 :: below0 := rfl
set_option maxRecDepth 65536 in
theorem w_args : argsFit about1.vm theMethod args0 = true := by decide +kernel
set_option maxRecDepth 65536 in
theorem w_heap : heapFits about1 = true := by decide +kernel
set_option maxRecDepth 65536 in
theorem w_runnable : about1.curStatus? = some .runnable := by decide +kernel
set_option maxRecDepth 65536 in
theorem w_alone : about1.alone = true := by decide +kernel
set_option maxRecDepth 65536 in
theorem w_named : about1.methodNamed? x = some theMethod := by decide +kernel
set_option maxRecDepth 65536 in
theorem w_hears : about1.hears theMethod below0 = true := by decide +kernel
set_option maxRecDepth 65536 in
theorem w_ripe : about1.ripe theMethod args0 below0 = true := by decide +kernel
theorem w_running : about1.status = .running := rfl
set_option maxRecDepth 65536 in
theorem w_room : about1.hasRoom e0.platform room_1 = true :=
  launch0.hasRoom_least _ room_1 (by decide +kernel) (by decide +kernel) (by decide +kernel) (by decide +kernel) (by decide +kernel) (by decide +kernel)
theorem allAtoms_all (ts : List Jvm.Cond) (a : Array Jvm.Value) (st : Jvm.State) : (allAtoms ts).before a st = ts.all (fun c => c.before a st) := by
  induction ts with
  | nil => rfl
  | cons c t ih =>
    show (Jvm.Cond.and c (allAtoms t)).before a st = _
    rw [Jvm.Cond.before_and, ih, List.all_cons]
def words1 : List Jvm.Cond := Jvm.Cond.code x code maxLocals ret :: tables_1
/-- a 'code' word, met by the world's own term for the bytes: nothing is compared byte by byte -/
theorem code_word {y : MethodName} {bytes : ByteArray} {mx : Nat} {rt : Option FieldType} {a : Array Value} {s : State} {m : MethodId} {meth : Method} {c : Code} (h1 : s.methodNamed? y = some m) (h2 : s.vm.method? m = some meth) (h3 : meth.code = some c) (h4 : c.code = bytes)
    (h5 : (c.maxLocals == mx && c.exceptionTable.isEmpty && decide (c.maxStack ≤ mostOperands) && decide (meth.sig.returnType = rt) && !meth.locks && decide (parseMethodDescriptor y.desc = some meth.sig)) = true) : (Jvm.Cond.code y bytes mx rt).before a s = true := by
  simp only [Bool.and_eq_true, beq_iff_eq, Bool.not_eq_true', decide_eq_true_eq] at h5
  obtain ⟨⟨⟨⟨⟨g1, g2⟩, g3⟩, g4⟩, g5⟩, g6⟩ := h5
  simp [Cond.before, Cond.holds, Cond.value, h1, h2, h3, h4, g1, g2, g3, g4, g5, g6]
def isCode : Jvm.Cond → Bool
  | .code _ _ _ _ => true
  | _ => false
theorem all_split {L : List Jvm.Cond} {P : Jvm.Cond → Bool} (h1 : L.all (fun c => isCode c || P c) = true) (h2 : ∀ c ∈ L.filter isCode, P c = true) : L.all P = true := by
  refine List.all_eq_true.mpr fun c hc => ?_
  have h := List.all_eq_true.mp h1 c hc
  rcases Bool.eq_false_or_eq_true (isCode c) with hi | hi
  · exact h2 c (List.mem_filter.mpr ⟨hc, hi⟩)
  · simpa [hi] using h
set_option maxRecDepth 65536 in
theorem w_c0 : (Jvm.Cond.code x code maxLocals ret).before args0 about1 = true := code_word (m := ⟨1, 1⟩) (meth := k1m1) (c := k1c1) (by decide +kernel) rfl rfl rfl (by decide +kernel)
set_option maxRecDepth 65536 in
theorem w_c1 : (Jvm.Cond.code ({ cls := "com/example/map_of_brokers/mapofbrokers/map/RefusalWarnings", name := "<init>", desc := "()V" } : Jvm.MethodName) prog_28_method_1_code (1 : Nat) (Option.none : Option Jvm.ClassFile.FieldType)).before args0 about1 = true := code_word (m := ⟨2, 0⟩) (meth := k2m0) (c := k2c0) (by decide +kernel) rfl rfl rfl (by decide +kernel)
set_option maxRecDepth 65536 in
theorem w_c2 : (Jvm.Cond.code ({ cls := "java/lang/Object", name := "<init>", desc := "()V" } : Jvm.MethodName) object_method_1_code (1 : Nat) (Option.none : Option Jvm.ClassFile.FieldType)).before args0 about1 = true := code_word (m := ⟨0, 0⟩) (meth := k0m0) (c := k0c0) (by decide +kernel) rfl rfl rfl (by decide +kernel)
set_option maxRecDepth 65536 in
theorem w_c3 : (Jvm.Cond.code ({ cls := "com/example/map_of_brokers/mapofbrokers/map/RefusalWarnings", name := "refused", desc := "(J)J" } : Jvm.MethodName) prog_28_method_2_code (5 : Nat) (Option.some Jvm.ClassFile.FieldType.long)).before args0 about1 = true := code_word (m := ⟨2, 1⟩) (meth := k2m1) (c := k2c1) (by decide +kernel) rfl rfl rfl (by decide +kernel)
set_option maxRecDepth 65536 in
theorem w_c4 : (Jvm.Cond.code ({ cls := "com/example/map_of_brokers/mapofbrokers/map/RefusalWarningsRefusedPinLaw", name := "step", desc := "(Lcom/example/map_of_brokers/mapofbrokers/map/RefusalWarnings;[JJ)Z" } : Jvm.MethodName) method_3_code (8 : Nat) (Option.some Jvm.ClassFile.FieldType.boolean)).before args0 about1 = true := code_word (m := ⟨1, 2⟩) (meth := k1m2) (c := k1c2) (by decide +kernel) rfl rfl rfl (by decide +kernel)
def codes1 : List Jvm.Cond := [Jvm.Cond.code x code maxLocals ret, Jvm.Cond.code ({ cls := "com/example/map_of_brokers/mapofbrokers/map/RefusalWarnings", name := "<init>", desc := "()V" } : Jvm.MethodName) prog_28_method_1_code (1 : Nat) (Option.none : Option Jvm.ClassFile.FieldType), Jvm.Cond.code ({ cls := "java/lang/Object", name := "<init>", desc := "()V" } : Jvm.MethodName) object_method_1_code (1 : Nat) (Option.none : Option Jvm.ClassFile.FieldType), Jvm.Cond.code ({ cls := "com/example/map_of_brokers/mapofbrokers/map/RefusalWarnings", name := "refused", desc := "(J)J" } : Jvm.MethodName) prog_28_method_2_code (5 : Nat) (Option.some Jvm.ClassFile.FieldType.long), Jvm.Cond.code ({ cls := "com/example/map_of_brokers/mapofbrokers/map/RefusalWarningsRefusedPinLaw", name := "step", desc := "(Lcom/example/map_of_brokers/mapofbrokers/map/RefusalWarnings;[JJ)Z" } : Jvm.MethodName) method_3_code (8 : Nat) (Option.some Jvm.ClassFile.FieldType.boolean)]
set_option maxRecDepth 65536 in
theorem codes_eq : words1.filter isCode = codes1 := rfl
theorem w_codes : ∀ c ∈ words1.filter isCode, c.before args0 about1 = true := by
  rw [codes_eq]
  intro c hc
  simp only [codes1, List.mem_cons, List.not_mem_nil, or_false] at hc
  rcases hc with rfl | rfl | rfl | rfl | rfl
  · exact w_c0
  · exact w_c1
  · exact w_c2
  · exact w_c3
  · exact w_c4
set_option maxRecDepth 65536 in
theorem w_t1 : (words1.take 24).all (fun c => isCode c || c.before args0 about1) = true := by decide +kernel
set_option maxRecDepth 65536 in
theorem w_t2 : (words1.drop 24).all (fun c => isCode c || c.before args0 about1) = true := by decide +kernel
theorem w_tables : (allAtoms (Jvm.Cond.code x code maxLocals ret :: tables_1)).before args0 about1 = true := by
  rw [allAtoms_all]
  show words1.all (fun c => c.before args0 about1) = true
  refine all_split ?_ w_codes
  rw [← List.take_append_drop 24 words1, List.all_append, w_t1, w_t2]
  rfl
set_option maxRecDepth 65536 in
theorem w_case : (Jvm.Cond.and given_1 narrow_1).before args0 about1 = true := by decide +kernel
theorem w_applies : (headSpec (Jvm.Cond.code x code maxLocals ret :: tables_1) room_1).applies x e0.platform about1 = true :=
  (Spec.applies_iff w_frames).mpr ⟨w_running, w_runnable, w_alone, w_named, w_hears, w_ripe, w_room, w_tables⟩
theorem atStart : AtStart classFile x code maxLocals ret World_1 tables_1 room_1 Calls_1 rest_1 Pre_1 launch0 p0 e0 about1 theMethod args0 below0 :=
  ⟨lists_1, trivial, launch0.admits_env _ _ _, launch0.least_env, fairChoices_fair.cas, fairChoices_fair.clock, w_frames, w_args, w_heap, w_applies, trivial, trivial, w_case⟩
end start1
theorem witness_1 : WitnessClaimed_1 := ⟨start1.p0, start1.e0, start1.about1, start1.theMethod, start1.args0, start1.below0, start1.atStart⟩
end Jvm.Pilot.@@N@@
