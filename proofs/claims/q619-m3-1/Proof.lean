import JvmDerived
import JvmDerived.Pilot.@@N@@Statement
import JvmDerived.Pilot.@@N@@Code
set_option linter.unusedVariables false
set_option linter.unusedSimpArgs false
namespace Jvm.Pilot.@@N@@
open Jvm Jvm.ClassFile Sem Op Lib Jvm.Free Jvm.Stand Jvm.LawKit Jvm.RoadKit Bundle Jvm.Pilot.@@N@@.Jvm.D
section OwnKit
variable {p : Program} {l : Launch} {e : Env} {R : Room} {s : State} {m : MethodId} {args : Array Value} {below : List Frame} {meth : Method} {c : Code} {T : State} {locs : List Loc} {cells slots : Nat}
theorem own_retI (X : Stand p l e R s m args below meth c T locs cells slots) (hx : p.tables.exec = Jvm.exec) {pc : Nat} {Ls : Array Slot} {z : Int32} {rest : List Value} (hret : meth.sig.returnType = some .int) (hd : decode c.code pc = .ok (.ireturn, 1)) {fs : List Frame}
    (hl : ∀ (f : JFrame) (acts : List Action), f.method = m → f.locked = none → f.entered = [] → (doReturn e (T.setTop f) acts (some (.int z))).1 = T.setFrames fs) : Steps p.tables e below (T.setTop (mkF m pc Ls (.int z :: rest))) (T.setFrames fs) :=
  retOut X hx hret rfl (Or.inl ⟨rfl, Or.inl rfl, z, rfl⟩) hd hl
theorem own_retL (X : Stand p l e R s m args below meth c T locs cells slots) (hx : p.tables.exec = Jvm.exec) {pc : Nat} {Ls : Array Slot} {z : Int64} {rest : List Value} (hret : meth.sig.returnType = some .long) (hd : decode c.code pc = .ok (.lreturn, 1)) {fs : List Frame}
    (hl : ∀ (f : JFrame) (acts : List Action), f.method = m → f.locked = none → f.entered = [] → (doReturn e (T.setTop f) acts (some (.long z))).1 = T.setFrames fs) : Steps p.tables e below (T.setTop (mkF m pc Ls (.long z :: rest))) (T.setFrames fs) :=
  retOut X hx hret rfl (Or.inr (Or.inl ⟨rfl, rfl, z, rfl⟩)) hd hl
theorem own_retA (X : Stand p l e R s m args below meth c T locs cells slots) (hx : p.tables.exec = Jvm.exec) {pc : Nat} {Ls : Array Slot} {t : FieldType} {v : Value} {rest : List Value} (hret : meth.sig.returnType = some t) (ht : t.isReference = true) (hv : v.isRef = true) (hn : narrow t v = v) (hd : decode c.code pc = .ok (.areturn, 1)) {fs : List Frame}
    (hl : ∀ (f : JFrame) (acts : List Action), f.method = m → f.locked = none → f.entered = [] → (doReturn e (T.setTop f) acts (some v)).1 = T.setFrames fs) : Steps p.tables e below (T.setTop (mkF m pc Ls (v :: rest))) (T.setFrames fs) :=
  retOut X hx hret hn (Or.inr (Or.inr (Or.inr (Or.inr ⟨rfl, ht, hv⟩)))) hd hl
theorem own_ns_exa {Z : State} {h : Heap} {a : Addr} {C : String} (F : Exa Z h a C) : ∃ c : Cell, h[a]? = some c ∧ c.vm.isStatics = false := by
  obtain ⟨c, _, h1, -, -, h4, -⟩ := F; exact ⟨c, h1, h4⟩
theorem own_ns_arv {Z : State} {h : Heap} {a : Addr} {k : ClassId} {ty : FieldType} {z : Int32} {vs : List Value} {dv : Value} (F : Arv Z h a k ty z vs dv) : ∃ c : Cell, h[a]? = some c ∧ c.vm.isStatics = false := by
  obtain ⟨c, A, -⟩ := F; exact ⟨c, A.1, A.plain⟩
theorem own_sta_keep {Z : State} {h h' : Heap} {C n d : String} {v : Value} {ws : List Addr} (F : Sta Z h C n d v) (K : Keep h h' ws) (q : ∀ x ∈ ws, ∃ c : Cell, h[x]? = some c ∧ c.vm.isStatics = false) : Sta Z h' C n d v := by
  obtain ⟨cf, i, k, f, st, cell, h1, h2, h3, h4, h5, h6, h7⟩ := F
  refine ⟨cf, i, k, f, st, cell, h1, h2, h3, h4, K.2.1 st cell h5 (fun m => ?_), h6, h7⟩
  obtain ⟨c, e1, e2⟩ := q st m; cases h5.symm.trans e1; rw [e2] at h6; cases h6
/-- from A the run ends, and then P -/
def OwnGo (tb : Tables) (e : Env) (below : List Frame) (P : Outcome → State → Prop) (A : State) : Prop := ∃ s₂ o, Steps tb e below A s₂ ∧ s₂.status = .running ∧ Ended s₂ below o ∧ P o s₂
theorem OwnGo.of {tb : Tables} {P : Outcome → State → Prop} {A B : State} (k : ∀ t, Steps tb e below B t → Steps tb e below A t) (g : OwnGo tb e below P B) : OwnGo tb e below P A := by
  obtain ⟨s2, o, h1, h2⟩ := g; exact ⟨s2, o, k _ h1, h2⟩
end OwnKit
theorem pn_0 : plainName "java/util/AbstractCollection" = true := by first | (simp [plainName, overriddenIn]; done) | decide +kernel
theorem d5_0 : decode jdk_22_method_1_code 0 = .ok (.aload_n 0, 1) := by decide +kernel
theorem d5_1 : decode jdk_22_method_1_code 1 = .ok (.invokespecial 1, 3) := by decide +kernel
theorem d5_4 : decode jdk_22_method_1_code 4 = .ok (.return_, 1) := by decide +kernel
theorem ef_rm5 (m : MethodId) (a0 : Addr) : entryFrame m #[(.ref a0)] 1 = mkF m 0 #[.val (.ref a0)] [] := by first | (simp [entryFrame, mkF, argsToLocals, Value.category]; done) | rfl
def Qrm5 (Z : State) (a0 : Addr) (h0 : Heap) (n0 : Nat) (v : Option Value) (h : Heap) (L : List Loc) : Prop := v = none ∧ Fr n0 L ∧ Keep h0 h [a0] ∧ Exa Z h a0 "java/util/ArrayList" ∧ Fld Z h a0 "java/util/AbstractList" "modCount" "I" (.int (0 : Int32)) ∧ Fld Z h a0 "java/util/ArrayList" "elementData" "[Ljava/lang/Object;" .null
set_option maxRecDepth 65536 in
set_option maxHeartbeats 40000000 in
theorem rm5 (l : Launch) (Z : State) (aw : Array Value) (hw : ∀ d ∈ tables_1, d.before aw Z = true) (ws : List Jvm.Cond) (a0 : Addr) (h0 : Heap) (n0 : Nat) (Z0 : n0 ≤ h0.size) (E_a0 : Exa Z h0 a0 "java/util/ArrayList") (F_a0_modCount : Fld Z h0 a0 "java/util/AbstractList" "modCount" "I" (.int (0 : Int32))) (F_a0_elementData : Fld Z h0 a0 "java/util/ArrayList" "elementData" "[Ljava/lang/Object;" .null) (g_a0 : n0 ≤ a0) :
    MetFree l (⟨"java/util/AbstractCollection", "<init>", "()V"⟩ : MethodName) (head1 (Jvm.Cond.code (⟨"java/util/AbstractCollection", "<init>", "()V"⟩ : MethodName) jdk_22_method_1_code 1 none :: ws) ({ frames := 1, cells := 0, slots := 0, locals := 12 } : Room)) (fun a U => a = #[(.ref a0)] ∧ Z.Warmed39 U.vm ∧ U.heap = h0) (fun _ _ _ _ _ => True) (fun _ U o U' => ∃ v L, o = .returned v ∧ Qrm5 Z a0 h0 n0 v U'.heap L ∧ FrameEnd U o U' L ({ frames := 1, cells := 0, slots := 0, locals := 12 } : Room).cells ({ frames := 1, cells := 0, slots := 0, locals := 12 } : Room).slots) := by
  refine MetFree.of_bodySF (plainFor_of_name pn_0) hisR ?_
  intro p e s m args below meth c s₁ Bd hml0 hP hK
  obtain ⟨rfl, hZ, hh⟩ := hP
  have hx := Bd.exec
  have hby := Bd.bytes
  have hml : c.maxLocals = 1 := hml0
  have hown : s.vm.findClass "java/util/AbstractCollection" = some m.cls := findClass_of_methodNamed Bd.named
  have hnm := (name_of_methodNamed Bd.named Bd.method).1
  have X0 : Stand p l e ({ frames := 1, cells := 0, slots := 0, locals := 12 } : Room) s m #[(.ref a0)] below meth c s₁ [] 0 0 := Stand.of_body Bd
  have e0 : s₁.heap = h0 := by rw [← hh, Bd.state]; rfl
  have N0 := Fr.nil n0
  have hlk := Bd.notSynchronized
  show OwnGo p.tables e below _ (s₁.setTop (entryFrame m #[(.ref a0)] 1))
  rw [ef_rm5 m a0]
  have K0 : Keep h0 h0 [a0] := Keep.refl _ _
  show OwnGo p.tables e below _ (s₁.setTop (mkF m 0 #[.val (.ref a0)] []))
  refine OwnGo.of (A := s₁.setTop (mkF m 0 #[.val (.ref a0)] [])) (B := s₁.setTop (mkF m 1 #[.val (.ref a0)] [(.ref a0)])) (fun t k => ?_) ?_
  · show Steps p.tables e below (s₁.setTop (mkF m 0 #[.val (.ref a0)] [])) t
    refine XS.aloadN X0.here hx rfl (hb hby d5_0) rfl rfl ?_
    exact k
  obtain ⟨T1, X1, e1, st1⟩ := initO X0 hx hZ hown (hw _ (List.mem_of_getElem? (i := 28) rfl)) (hw _ (List.mem_of_getElem? (i := 8) rfl)) (hw _ (List.mem_of_getElem? (i := 9) rfl)) e0 (g := (mkF m 1 #[.val (.ref a0)] [(.ref a0)])) rfl (by rw [hml]; rfl) rfl (hb hby d5_1) (by decide) (W := 0) (by show 2 * 0 + _ ≤ _; exact Nat.le_of_eq rfl) (by decide)
  refine OwnGo.of st1 ?_
  show OwnGo p.tables e below _ (T1.setTop (mkF m 4 #[.val (.ref a0)] []))
  obtain ⟨fs, hr, hrun, hended, hW, hsame⟩ := X1.leave (v := none) (fun _ => rfl) hlk
  refine ⟨_, _, ?_, hrun, hended, _, _, rfl, ?_, ⟨_, rfl⟩, hW, hsame.mono (by decide) (by decide)⟩
  · show Steps p.tables e below (T1.setTop (mkF m 4 #[.val (.ref a0)] [])) _
    exact X1.returnOut hx Bd.returns (hb hby d5_4) hr
  · show Qrm5 Z a0 h0 n0 _ (T1.setFrames fs).heap _
    rw [show (T1.setFrames fs).heap = h0 from e1]
    exact ⟨rfl, N0, K0, E_a0, F_a0_modCount, F_a0_elementData⟩
theorem pd_1 : parseMethodDescriptor "()V" = some ⟨[], none⟩ := by decide +kernel
theorem pn_2 : plainName "java/util/AbstractList" = true := by first | (simp [plainName, overriddenIn]; done) | decide +kernel
theorem d4_0 : decode jdk_39_method_1_code 0 = .ok (.aload_n 0, 1) := by decide +kernel
theorem d4_1 : decode jdk_39_method_1_code 1 = .ok (.invokespecial 1, 3) := by decide +kernel
theorem d4_4 : decode jdk_39_method_1_code 4 = .ok (.aload_n 0, 1) := by decide +kernel
theorem d4_5 : decode jdk_39_method_1_code 5 = .ok (.iconst 0, 1) := by decide +kernel
theorem d4_6 : decode jdk_39_method_1_code 6 = .ok (.putfield 7, 3) := by decide +kernel
theorem d4_9 : decode jdk_39_method_1_code 9 = .ok (.return_, 1) := by decide +kernel
theorem ef_rm4 (m : MethodId) (a0 : Addr) : entryFrame m #[(.ref a0)] 1 = mkF m 0 #[.val (.ref a0)] [] := by first | (simp [entryFrame, mkF, argsToLocals, Value.category]; done) | rfl
def Qrm4 (Z : State) (a0 : Addr) (h0 : Heap) (n0 : Nat) (v : Option Value) (h : Heap) (L : List Loc) : Prop := v = none ∧ Fr n0 L ∧ Keep h0 h [a0] ∧ Exa Z h a0 "java/util/ArrayList" ∧ Fld Z h a0 "java/util/AbstractList" "modCount" "I" (.int (0 : Int32)) ∧ Fld Z h a0 "java/util/ArrayList" "elementData" "[Ljava/lang/Object;" .null
set_option maxRecDepth 65536 in
set_option maxHeartbeats 40000000 in
theorem rm4 (l : Launch) (Z : State) (aw : Array Value) (hw : ∀ d ∈ tables_1, d.before aw Z = true) (ws : List Jvm.Cond) (a0 : Addr) (h0 : Heap) (n0 : Nat) (Z0 : n0 ≤ h0.size) (E_a0 : Exa Z h0 a0 "java/util/ArrayList") (F_a0_modCount : Fld Z h0 a0 "java/util/AbstractList" "modCount" "I" (.int (0 : Int32))) (F_a0_elementData : Fld Z h0 a0 "java/util/ArrayList" "elementData" "[Ljava/lang/Object;" .null) (g_a0 : n0 ≤ a0) :
    MetFree l (⟨"java/util/AbstractList", "<init>", "()V"⟩ : MethodName) (head1 (Jvm.Cond.code (⟨"java/util/AbstractList", "<init>", "()V"⟩ : MethodName) jdk_39_method_1_code 1 none :: ws) ({ frames := 2, cells := 0, slots := 0, locals := 24 } : Room)) (fun a U => a = #[(.ref a0)] ∧ Z.Warmed39 U.vm ∧ U.heap = h0) (fun _ _ _ _ _ => True) (fun _ U o U' => ∃ v L, o = .returned v ∧ Qrm4 Z a0 h0 n0 v U'.heap L ∧ FrameEnd U o U' L ({ frames := 2, cells := 0, slots := 0, locals := 24 } : Room).cells ({ frames := 2, cells := 0, slots := 0, locals := 24 } : Room).slots) := by
  refine MetFree.of_bodySF (plainFor_of_name pn_2) hisR ?_
  intro p e s m args below meth c s₁ Bd hml0 hP hK
  obtain ⟨rfl, hZ, hh⟩ := hP
  have hx := Bd.exec
  have hby := Bd.bytes
  have hml : c.maxLocals = 1 := hml0
  have hown : s.vm.findClass "java/util/AbstractList" = some m.cls := findClass_of_methodNamed Bd.named
  have hnm := (name_of_methodNamed Bd.named Bd.method).1
  have X0 : Stand p l e ({ frames := 2, cells := 0, slots := 0, locals := 24 } : Room) s m #[(.ref a0)] below meth c s₁ [] 0 0 := Stand.of_body Bd
  have e0 : s₁.heap = h0 := by rw [← hh, Bd.state]; rfl
  have N0 := Fr.nil n0
  have hlk := Bd.notSynchronized
  show OwnGo p.tables e below _ (s₁.setTop (entryFrame m #[(.ref a0)] 1))
  rw [ef_rm4 m a0]
  have K0 : Keep h0 h0 [a0] := Keep.refl _ _
  show OwnGo p.tables e below _ (s₁.setTop (mkF m 0 #[.val (.ref a0)] []))
  refine OwnGo.of (A := s₁.setTop (mkF m 0 #[.val (.ref a0)] [])) (B := s₁.setTop (mkF m 1 #[.val (.ref a0)] [(.ref a0)])) (fun t k => ?_) ?_
  · show Steps p.tables e below (s₁.setTop (mkF m 0 #[.val (.ref a0)] [])) t
    refine XS.aloadN X0.here hx rfl (hb hby d4_0) rfl rfl ?_
    exact k
  obtain ⟨_, _, ⟨T1, L1, k1, n1⟩, -, X1, ⟨Lc1, hQ1, l1, y1, z1⟩, st1⟩ := X0.specialBack hx (y := (⟨"java/util/AbstractCollection", "<init>", "()V"⟩ : MethodName)) rfl hown (mvT hZ (hw _ (List.mem_of_getElem? (i := 22) rfl))) (mvT hZ (hw _ (List.mem_of_getElem? (i := 23) rfl))) (mvT hZ (hw _ (List.mem_of_getElem? (i := 27) rfl))) (by decide) (backOf (W := 0) (rm5 l Z aw hw [] a0  h0 n0 Z0 E_a0 F_a0_modCount F_a0_elementData g_a0) hZ (hw _ (List.mem_of_getElem? (i := 27) rfl)) (hw _ (List.mem_of_getElem? (i := 26) rfl)) (by decide) (by decide)) (g := (mkF m 1 #[.val (.ref a0)] [(.ref a0)])) rfl (by rw [hml]; rfl) (Steps.refl _) (a := a0) (argsL := []) (rest := []) (lenOf pd_1 rfl) rfl (by show 2 * 0 + _ ≤ _; exact Nat.le_of_eq rfl) (hb hby d4_1) (fun _ _ => ⟨rfl, e0, (by decide : 0 + 0 ≤ _), (by decide : 0 + 0 ≤ _)⟩)
  dsimp only [Pt.U, Pt.locs, Pt.cells, Pt.slots] at X1 l1 y1 z1 st1 hQ1
  subst l1 y1 z1
  obtain ⟨rfl, N1q, K1, y1_0, y1_1, y1_2⟩ := hQ1
  have f2 : n0 ≤ T1.heap.size := Nat.le_trans Z0 K1.1
  have f3 : Keep h0 T1.heap [a0] := K0.trans K1 (allS (Or.inl (List.mem_of_getElem? (i := 0) rfl)) all0)
  have f4 : Exa Z T1.heap a0 "java/util/ArrayList" := E_a0.keep K1
  have N1 := Fr.app N0 N1q
  refine OwnGo.of (fun t k => st1.trans k) ?_
  show OwnGo p.tables e below _ (T1.setTop (mkF m 4 #[.val (.ref a0)] []))
  refine OwnGo.of (A := T1.setTop (mkF m 4 #[.val (.ref a0)] [])) (B := T1.setTop (mkF m 6 #[.val (.ref a0)] [(.int (0 : Int32)), (.ref a0)])) (fun t k => ?_) ?_
  · show Steps p.tables e below (T1.setTop (mkF m 4 #[.val (.ref a0)] [])) t
    refine XS.aloadN X1.here hx rfl (hb hby d4_4) rfl rfl ?_
    show Steps p.tables e below (T1.setTop (mkF m 5 #[.val (.ref a0)] [(.ref a0)])) t
    refine XS.iconst X1.here hx rfl (hb hby d4_5) ?_
    exact k
  obtain ⟨T5, h5, X5, e5, W5, st5⟩ := putF X1 hx hZ hown (host := "") (Or.inl (hw _ (List.mem_of_getElem? (i := 29) rfl))) Via.refl rfl y1_1 y1_0 (Or.inl (hw _ (List.mem_of_getElem? (i := 30) rfl))) (hw _ (List.mem_of_getElem? (i := 11) rfl)) (ty := .int) (by decide) rfl rfl (g := (mkF m 6 #[.val (.ref a0)] [(.int (0 : Int32)), (.ref a0)])) rfl rfl (hb hby d4_6)
  refine OwnGo.of st5 ?_
  have N5 := Fr.snoc X5 N1 g_a0
  have f6 : n0 ≤ h5.size := Nat.le_trans f2 (Keep.of_wr W5).1
  have f7 : Keep h0 h5 [a0] := f3.wr W5 (Or.inl (List.mem_of_getElem? (i := 0) rfl))
  have f8 : Exa Z h5 a0 "java/util/ArrayList" := y1_0.wr W5
  have f9 : Fld Z h5 a0 "java/util/ArrayList" "elementData" "[Ljava/lang/Object;" .null := y1_2.other W5 (Or.inr (slot_ne (Or.inl (hw _ (List.mem_of_getElem? (i := 33) rfl))) (Or.inl (hw _ (List.mem_of_getElem? (i := 30) rfl))) (by decide) (t := (.array (.object "java/lang/Object"))) (t' := .int) (by decide) (by decide)))
  have f10 : Fld Z h5 a0 "java/util/AbstractList" "modCount" "I" (.int (0 : Int32)) := Fld.same W5 y1_1
  show OwnGo p.tables e below _ (T5.setTop (mkF m 9 #[.val (.ref a0)] []))
  obtain ⟨fs, hr, hrun, hended, hW, hsame⟩ := X5.leave (v := none) (fun _ => rfl) hlk
  refine ⟨_, _, ?_, hrun, hended, _, _, rfl, ?_, ⟨_, rfl⟩, hW, hsame.mono (by decide) (by decide)⟩
  · show Steps p.tables e below (T5.setTop (mkF m 9 #[.val (.ref a0)] [])) _
    exact X5.returnOut hx Bd.returns (hb hby d4_9) hr
  · show Qrm4 Z a0 h0 n0 _ (T5.setFrames fs).heap _
    rw [show (T5.setFrames fs).heap = h5 from e5]
    exact ⟨rfl, N5, f7, f8, f10, f9⟩
theorem pn_3 : plainName "java/util/ArrayList" = true := by first | (simp [plainName, overriddenIn]; done) | decide +kernel
theorem d3_0 : decode jdk_38_method_2_code 0 = .ok (.aload_n 0, 1) := by decide +kernel
theorem d3_1 : decode jdk_38_method_2_code 1 = .ok (.invokespecial 1, 3) := by decide +kernel
theorem d3_4 : decode jdk_38_method_2_code 4 = .ok (.aload_n 0, 1) := by decide +kernel
theorem d3_5 : decode jdk_38_method_2_code 5 = .ok (.getstatic 39, 3) := by decide +kernel
theorem d3_8 : decode jdk_38_method_2_code 8 = .ok (.putfield 9, 3) := by decide +kernel
theorem d3_11 : decode jdk_38_method_2_code 11 = .ok (.return_, 1) := by decide +kernel
theorem ef_rm3 (m : MethodId) (a0 : Addr) : entryFrame m #[(.ref a0)] 1 = mkF m 0 #[.val (.ref a0)] [] := by first | (simp [entryFrame, mkF, argsToLocals, Value.category]; done) | rfl
def Qrm3 (Z : State) (a0 : Addr) (wD : Addr) (h0 : Heap) (n0 : Nat) (v : Option Value) (h : Heap) (L : List Loc) : Prop := v = none ∧ Fr n0 L ∧ Keep h0 h [a0] ∧ Exa Z h a0 "java/util/ArrayList" ∧ Fld Z h a0 "java/util/ArrayList" "elementData" "[Ljava/lang/Object;" (.ref wD)
set_option maxRecDepth 65536 in
set_option maxHeartbeats 40000000 in
theorem rm3 (l : Launch) (Z : State) (aw : Array Value) (hw : ∀ d ∈ tables_1, d.before aw Z = true) (ws : List Jvm.Cond) (a0 : Addr) (wD : Addr) (h0 : Heap) (n0 : Nat) (Z0 : n0 ≤ h0.size) (E_a0 : Exa Z h0 a0 "java/util/ArrayList") (F_a0_modCount : Fld Z h0 a0 "java/util/AbstractList" "modCount" "I" (.int (0 : Int32))) (F_a0_elementData : Fld Z h0 a0 "java/util/ArrayList" "elementData" "[Ljava/lang/Object;" .null) (g_a0 : n0 ≤ a0) (S_DEFAULTCAPACITY_EMPTY_ELEMENTDATA : Sta Z h0 "java/util/ArrayList" "DEFAULTCAPACITY_EMPTY_ELEMENTDATA" "[Ljava/lang/Object;" (.ref wD)) :
    MetFree l (⟨"java/util/ArrayList", "<init>", "()V"⟩ : MethodName) (head1 (Jvm.Cond.code (⟨"java/util/ArrayList", "<init>", "()V"⟩ : MethodName) jdk_38_method_2_code 1 none :: ws) ({ frames := 3, cells := 0, slots := 0, locals := 36 } : Room)) (fun a U => a = #[(.ref a0)] ∧ Z.Warmed39 U.vm ∧ U.heap = h0) (fun _ _ _ _ _ => True) (fun _ U o U' => ∃ v L, o = .returned v ∧ Qrm3 Z a0 wD h0 n0 v U'.heap L ∧ FrameEnd U o U' L ({ frames := 3, cells := 0, slots := 0, locals := 36 } : Room).cells ({ frames := 3, cells := 0, slots := 0, locals := 36 } : Room).slots) := by
  refine MetFree.of_bodySF (plainFor_of_name pn_3) hisR ?_
  intro p e s m args below meth c s₁ Bd hml0 hP hK
  obtain ⟨rfl, hZ, hh⟩ := hP
  have hx := Bd.exec
  have hby := Bd.bytes
  have hml : c.maxLocals = 1 := hml0
  have hown : s.vm.findClass "java/util/ArrayList" = some m.cls := findClass_of_methodNamed Bd.named
  have hnm := (name_of_methodNamed Bd.named Bd.method).1
  have X0 : Stand p l e ({ frames := 3, cells := 0, slots := 0, locals := 36 } : Room) s m #[(.ref a0)] below meth c s₁ [] 0 0 := Stand.of_body Bd
  have e0 : s₁.heap = h0 := by rw [← hh, Bd.state]; rfl
  have N0 := Fr.nil n0
  have hlk := Bd.notSynchronized
  show OwnGo p.tables e below _ (s₁.setTop (entryFrame m #[(.ref a0)] 1))
  rw [ef_rm3 m a0]
  have K0 : Keep h0 h0 [a0] := Keep.refl _ _
  show OwnGo p.tables e below _ (s₁.setTop (mkF m 0 #[.val (.ref a0)] []))
  refine OwnGo.of (A := s₁.setTop (mkF m 0 #[.val (.ref a0)] [])) (B := s₁.setTop (mkF m 1 #[.val (.ref a0)] [(.ref a0)])) (fun t k => ?_) ?_
  · show Steps p.tables e below (s₁.setTop (mkF m 0 #[.val (.ref a0)] [])) t
    refine XS.aloadN X0.here hx rfl (hb hby d3_0) rfl rfl ?_
    exact k
  obtain ⟨_, _, ⟨T1, L1, k1, n1⟩, -, X1, ⟨Lc1, hQ1, l1, y1, z1⟩, st1⟩ := X0.specialBack hx (y := (⟨"java/util/AbstractList", "<init>", "()V"⟩ : MethodName)) rfl hown (mvT hZ (hw _ (List.mem_of_getElem? (i := 16) rfl))) (mvT hZ (hw _ (List.mem_of_getElem? (i := 17) rfl))) (mvT hZ (hw _ (List.mem_of_getElem? (i := 21) rfl))) (by decide) (backOf (W := 0) (rm4 l Z aw hw [] a0  h0 n0 Z0 E_a0 F_a0_modCount F_a0_elementData g_a0) hZ (hw _ (List.mem_of_getElem? (i := 21) rfl)) (hw _ (List.mem_of_getElem? (i := 20) rfl)) (by decide) (by decide)) (g := (mkF m 1 #[.val (.ref a0)] [(.ref a0)])) rfl (by rw [hml]; rfl) (Steps.refl _) (a := a0) (argsL := []) (rest := []) (lenOf pd_1 rfl) rfl (by show 2 * 0 + _ ≤ _; exact Nat.le_of_eq rfl) (hb hby d3_1) (fun _ _ => ⟨rfl, e0, (by decide : 0 + 0 ≤ _), (by decide : 0 + 0 ≤ _)⟩)
  dsimp only [Pt.U, Pt.locs, Pt.cells, Pt.slots] at X1 l1 y1 z1 st1 hQ1
  subst l1 y1 z1
  obtain ⟨rfl, N1q, K1, y1_0, y1_1, y1_2⟩ := hQ1
  have f2 : n0 ≤ T1.heap.size := Nat.le_trans Z0 K1.1
  have f3 : Keep h0 T1.heap [a0] := K0.trans K1 (allS (Or.inl (List.mem_of_getElem? (i := 0) rfl)) all0)
  have f4 : Exa Z T1.heap a0 "java/util/ArrayList" := E_a0.keep K1
  have f5 : Sta Z T1.heap "java/util/ArrayList" "DEFAULTCAPACITY_EMPTY_ELEMENTDATA" "[Ljava/lang/Object;" (.ref wD) := own_sta_keep S_DEFAULTCAPACITY_EMPTY_ELEMENTDATA K1 (allS (own_ns_exa E_a0) all0)
  have N1 := Fr.app N0 N1q
  refine OwnGo.of (fun t k => st1.trans k) ?_
  show OwnGo p.tables e below _ (T1.setTop (mkF m 4 #[.val (.ref a0)] []))
  refine OwnGo.of (A := T1.setTop (mkF m 4 #[.val (.ref a0)] [])) (B := T1.setTop (mkF m 5 #[.val (.ref a0)] [(.ref a0)])) (fun t k => ?_) ?_
  · show Steps p.tables e below (T1.setTop (mkF m 4 #[.val (.ref a0)] [])) t
    refine XS.aloadN X1.here hx rfl (hb hby d3_4) rfl rfl ?_
    exact k
  obtain ⟨T6, X6, e6, st6⟩ := getS2 X1 hx hZ hown (host := "") (Or.inl (hw _ (List.mem_of_getElem? (i := 31) rfl))) Via.refl rfl f5 (g := (mkF m 5 #[.val (.ref a0)] [(.ref a0)])) rfl (hb hby d3_5)
  refine OwnGo.of st6 ?_
  show OwnGo p.tables e below _ (T6.setTop (mkF m 8 #[.val (.ref a0)] [(.ref wD), (.ref a0)]))
  obtain ⟨T7, h7, X7, e7, W7, st7⟩ := putF X6 hx hZ hown (host := "") (Or.inl (hw _ (List.mem_of_getElem? (i := 32) rfl))) Via.refl e6 y1_2 y1_0 (Or.inl (hw _ (List.mem_of_getElem? (i := 33) rfl))) (hw _ (List.mem_of_getElem? (i := 11) rfl)) (ty := (.array (.object "java/lang/Object"))) (by decide) rfl rfl (g := (mkF m 8 #[.val (.ref a0)] [(.ref wD), (.ref a0)])) rfl rfl (hb hby d3_8)
  refine OwnGo.of st7 ?_
  have N7 := Fr.snoc X7 N1 g_a0
  have f8 : n0 ≤ h7.size := Nat.le_trans f2 (Keep.of_wr W7).1
  have f9 : Keep h0 h7 [a0] := f3.wr W7 (Or.inl (List.mem_of_getElem? (i := 0) rfl))
  have f10 : Exa Z h7 a0 "java/util/ArrayList" := y1_0.wr W7
  have f11 : Sta Z h7 "java/util/ArrayList" "DEFAULTCAPACITY_EMPTY_ELEMENTDATA" "[Ljava/lang/Object;" (.ref wD) := f5.wr W7
  have f12 : Fld Z h7 a0 "java/util/AbstractList" "modCount" "I" (.int (0 : Int32)) := y1_1.other W7 (Or.inr (slot_ne (Or.inl (hw _ (List.mem_of_getElem? (i := 30) rfl))) (Or.inl (hw _ (List.mem_of_getElem? (i := 33) rfl))) (by decide) (t := .int) (t' := (.array (.object "java/lang/Object"))) (by decide) (by decide)))
  have f13 : Fld Z h7 a0 "java/util/ArrayList" "elementData" "[Ljava/lang/Object;" (.ref wD) := Fld.same W7 y1_2
  show OwnGo p.tables e below _ (T7.setTop (mkF m 11 #[.val (.ref a0)] []))
  obtain ⟨fs, hr, hrun, hended, hW, hsame⟩ := X7.leave (v := none) (fun _ => rfl) hlk
  refine ⟨_, _, ?_, hrun, hended, _, _, rfl, ?_, ⟨_, rfl⟩, hW, hsame.mono (by decide) (by decide)⟩
  · show Steps p.tables e below (T7.setTop (mkF m 11 #[.val (.ref a0)] [])) _
    exact X7.returnOut hx Bd.returns (hb hby d3_11) hr
  · show Qrm3 Z a0 wD h0 n0 _ (T7.setFrames fs).heap _
    rw [show (T7.setFrames fs).heap = h7 from e7]
    exact ⟨rfl, N7, f9, f10, f13⟩
theorem pn_4 : plainName "com/example/map_of_brokers/mapofbrokers/kafka/ArrivingFrame" = true := by first | (simp [plainName, overriddenIn]; done) | decide +kernel
theorem d1_0 : decode prog_12_method_1_code 0 = .ok (.aload_n 0, 1) := by decide +kernel
theorem d1_1 : decode prog_12_method_1_code 1 = .ok (.invokespecial 1, 3) := by decide +kernel
theorem d1_4 : decode prog_12_method_1_code 4 = .ok (.aload_n 0, 1) := by decide +kernel
theorem d1_5 : decode prog_12_method_1_code 5 = .ok (.new 7, 3) := by decide +kernel
theorem d1_8 : decode prog_12_method_1_code 8 = .ok (.dup, 1) := by decide +kernel
theorem d1_9 : decode prog_12_method_1_code 9 = .ok (.invokespecial 9, 3) := by decide +kernel
theorem d1_12 : decode prog_12_method_1_code 12 = .ok (.putfield 10, 3) := by decide +kernel
theorem d1_15 : decode prog_12_method_1_code 15 = .ok (.aload_n 0, 1) := by decide +kernel
theorem d1_16 : decode prog_12_method_1_code 16 = .ok (.iload_n 1, 1) := by decide +kernel
theorem d1_17 : decode prog_12_method_1_code 17 = .ok (.putfield 16, 3) := by decide +kernel
theorem d1_20 : decode prog_12_method_1_code 20 = .ok (.return_, 1) := by decide +kernel
theorem ef_rm1 (m : MethodId) (a0 : Addr) (p1 : Int32) : entryFrame m #[(.ref a0), (.int p1)] 2 = mkF m 0 #[.val (.ref a0), .val (.int p1)] [] := by first | (simp [entryFrame, mkF, argsToLocals, Value.category]; done) | rfl
def Qrm1 (Z : State) (a0 : Addr) (p1 : Int32) (wD : Addr) (h0 : Heap) (n0 : Nat) (v : Option Value) (h : Heap) (L : List Loc) : Prop := v = none ∧ Fr n0 L ∧ Keep h0 h [a0] ∧ Exa Z h a0 "com/example/map_of_brokers/mapofbrokers/kafka/ArrivingFrame" ∧ Fld Z h a0 "com/example/map_of_brokers/mapofbrokers/kafka/ArrivingFrame" "length" "I" (.int p1) ∧ Fld Z h a0 "com/example/map_of_brokers/mapofbrokers/kafka/ArrivingFrame" "received" "I" (.int (0 : Int32))
set_option maxRecDepth 65536 in
set_option maxHeartbeats 40000000 in
theorem rm1 (l : Launch) (Z : State) (aw : Array Value) (hw : ∀ d ∈ tables_1, d.before aw Z = true) (ws : List Jvm.Cond) (a0 : Addr) (p1 : Int32) (wD : Addr) (h0 : Heap) (n0 : Nat) (Z0 : n0 ≤ h0.size) (E_a0 : Exa Z h0 a0 "com/example/map_of_brokers/mapofbrokers/kafka/ArrivingFrame") (F_a0_pieces : Fld Z h0 a0 "com/example/map_of_brokers/mapofbrokers/kafka/ArrivingFrame" "pieces" "Ljava/util/List;" .null) (F_a0_length : Fld Z h0 a0 "com/example/map_of_brokers/mapofbrokers/kafka/ArrivingFrame" "length" "I" (.int (0 : Int32))) (F_a0_received : Fld Z h0 a0 "com/example/map_of_brokers/mapofbrokers/kafka/ArrivingFrame" "received" "I" (.int (0 : Int32))) (g_a0 : n0 ≤ a0) (S_DEFAULTCAPACITY_EMPTY_ELEMENTDATA : Sta Z h0 "java/util/ArrayList" "DEFAULTCAPACITY_EMPTY_ELEMENTDATA" "[Ljava/lang/Object;" (.ref wD)) :
    MetFree l (⟨"com/example/map_of_brokers/mapofbrokers/kafka/ArrivingFrame", "<init>", "(I)V"⟩ : MethodName) (head1 (Jvm.Cond.code (⟨"com/example/map_of_brokers/mapofbrokers/kafka/ArrivingFrame", "<init>", "(I)V"⟩ : MethodName) prog_12_method_1_code 2 none :: ws) ({ frames := 4, cells := 1, slots := 3, locals := 50 } : Room)) (fun a U => a = #[(.ref a0), (.int p1)] ∧ Z.Warmed39 U.vm ∧ U.heap = h0) (fun _ _ _ _ _ => True) (fun _ U o U' => ∃ v L, o = .returned v ∧ Qrm1 Z a0 p1 wD h0 n0 v U'.heap L ∧ FrameEnd U o U' L ({ frames := 4, cells := 1, slots := 3, locals := 50 } : Room).cells ({ frames := 4, cells := 1, slots := 3, locals := 50 } : Room).slots) := by
  refine MetFree.of_bodySF (plainFor_of_name pn_4) hisR ?_
  intro p e s m args below meth c s₁ Bd hml0 hP hK
  obtain ⟨rfl, hZ, hh⟩ := hP
  have hx := Bd.exec
  have hby := Bd.bytes
  have hml : c.maxLocals = 2 := hml0
  have hown : s.vm.findClass "com/example/map_of_brokers/mapofbrokers/kafka/ArrivingFrame" = some m.cls := findClass_of_methodNamed Bd.named
  have hnm := (name_of_methodNamed Bd.named Bd.method).1
  have X0 : Stand p l e ({ frames := 4, cells := 1, slots := 3, locals := 50 } : Room) s m #[(.ref a0), (.int p1)] below meth c s₁ [] 0 0 := Stand.of_body Bd
  have e0 : s₁.heap = h0 := by rw [← hh, Bd.state]; rfl
  have N0 := Fr.nil n0
  have hlk := Bd.notSynchronized
  show OwnGo p.tables e below _ (s₁.setTop (entryFrame m #[(.ref a0), (.int p1)] 2))
  rw [ef_rm1 m a0 p1]
  have K0 : Keep h0 h0 [a0] := Keep.refl _ _
  show OwnGo p.tables e below _ (s₁.setTop (mkF m 0 #[.val (.ref a0), .val (.int p1)] []))
  refine OwnGo.of (A := s₁.setTop (mkF m 0 #[.val (.ref a0), .val (.int p1)] [])) (B := s₁.setTop (mkF m 1 #[.val (.ref a0), .val (.int p1)] [(.ref a0)])) (fun t k => ?_) ?_
  · show Steps p.tables e below (s₁.setTop (mkF m 0 #[.val (.ref a0), .val (.int p1)] [])) t
    refine XS.aloadN X0.here hx rfl (hb hby d1_0) rfl rfl ?_
    exact k
  obtain ⟨T1, X1, e1, st1⟩ := initO X0 hx hZ hown (hw _ (List.mem_of_getElem? (i := 7) rfl)) (hw _ (List.mem_of_getElem? (i := 8) rfl)) (hw _ (List.mem_of_getElem? (i := 9) rfl)) e0 (g := (mkF m 1 #[.val (.ref a0), .val (.int p1)] [(.ref a0)])) rfl (by rw [hml]; rfl) rfl (hb hby d1_1) (by decide) (W := 0) (by show 2 * 0 + _ ≤ _; exact Nat.le_of_eq rfl) (by decide)
  refine OwnGo.of st1 ?_
  show OwnGo p.tables e below _ (T1.setTop (mkF m 4 #[.val (.ref a0), .val (.int p1)] []))
  refine OwnGo.of (A := T1.setTop (mkF m 4 #[.val (.ref a0), .val (.int p1)] [])) (B := T1.setTop (mkF m 5 #[.val (.ref a0), .val (.int p1)] [(.ref a0)])) (fun t k => ?_) ?_
  · show Steps p.tables e below (T1.setTop (mkF m 4 #[.val (.ref a0), .val (.int p1)] [])) t
    refine XS.aloadN X1.here hx rfl (hb hby d1_4) rfl rfl ?_
    exact k
  obtain ⟨T2, h2, X2, e2, E2, A2, D2, -, st2⟩ := newO X1 hx hZ hown (hw _ (List.mem_of_getElem? (i := 10) rfl)) (hw _ (List.mem_of_getElem? (i := 11) rfl)) (hw _ (List.mem_of_getElem? (i := 12) rfl)) e1 (g := (mkF m 5 #[.val (.ref a0), .val (.int p1)] [(.ref a0)])) rfl (hb hby d1_5) (by decide) (by decide)
  obtain ⟨b2, g2⟩ : ∃ z, z = h0.size := ⟨_, rfl⟩
  rw [← g2] at A2 D2 st2
  refine OwnGo.of st2 ?_
  have ne_a0_b2 : a0 ≠ b2 := Nat.ne_of_lt (Nat.lt_of_lt_of_le E_a0.lt (Nat.le_of_eq g2.symm))
  have g_b2 : n0 ≤ b2 := Nat.le_trans Z0 (Nat.le_of_eq g2.symm)
  have sz_b2 : h0.size ≤ b2 := Nat.le_trans K0.1 (Nat.le_of_eq g2.symm)
  have f3 : n0 ≤ h2.size := Nat.le_trans Z0 E2.1
  have f4 : Keep h0 h2 [a0] := K0.ext E2
  have f5 : Exa Z h2 a0 "com/example/map_of_brokers/mapofbrokers/kafka/ArrivingFrame" := E_a0.ext E2
  have f6 : Fld Z h2 a0 "com/example/map_of_brokers/mapofbrokers/kafka/ArrivingFrame" "pieces" "Ljava/util/List;" .null := F_a0_pieces.ext E2
  have f7 : Fld Z h2 a0 "com/example/map_of_brokers/mapofbrokers/kafka/ArrivingFrame" "length" "I" (.int (0 : Int32)) := F_a0_length.ext E2
  have f8 : Fld Z h2 a0 "com/example/map_of_brokers/mapofbrokers/kafka/ArrivingFrame" "received" "I" (.int (0 : Int32)) := F_a0_received.ext E2
  have f9 : Sta Z h2 "java/util/ArrayList" "DEFAULTCAPACITY_EMPTY_ELEMENTDATA" "[Ljava/lang/Object;" (.ref wD) := S_DEFAULTCAPACITY_EMPTY_ELEMENTDATA.ext E2
  have f10 : Fld Z h2 b2 "java/util/AbstractList" "modCount" "I" (.int (0 : Int32)) := D2 (Or.inl (hw _ (List.mem_of_getElem? (i := 30) rfl))) (ty := .int) (by decide)
  have f11 : Fld Z h2 b2 "java/util/ArrayList" "elementData" "[Ljava/lang/Object;" .null := D2 (Or.inl (hw _ (List.mem_of_getElem? (i := 33) rfl))) (ty := (.array (.object "java/lang/Object"))) (by decide)
  show OwnGo p.tables e below _ (T2.setTop (mkF m 8 #[.val (.ref a0), .val (.int p1)] [(.ref b2), (.ref a0)]))
  refine OwnGo.of (A := T2.setTop (mkF m 8 #[.val (.ref a0), .val (.int p1)] [(.ref b2), (.ref a0)])) (B := T2.setTop (mkF m 9 #[.val (.ref a0), .val (.int p1)] [(.ref b2), (.ref b2), (.ref a0)])) (fun t k => ?_) ?_
  · show Steps p.tables e below (T2.setTop (mkF m 8 #[.val (.ref a0), .val (.int p1)] [(.ref b2), (.ref a0)])) t
    refine XS.dup X2.here hx rfl (hb hby d1_8) rfl rfl ?_
    exact k
  obtain ⟨_, _, ⟨T12, L12, k12, n12⟩, -, X12, ⟨Lc12, hQ12, l12, y12, z12⟩, st12⟩ := X2.specialBack hx (y := (⟨"java/util/ArrayList", "<init>", "()V"⟩ : MethodName)) rfl hown (mvT hZ (hw _ (List.mem_of_getElem? (i := 13) rfl))) (mvT hZ (hw _ (List.mem_of_getElem? (i := 14) rfl))) (mvT hZ (hw _ (List.mem_of_getElem? (i := 15) rfl))) (by decide) (backOf (W := 2) (rm3 l Z aw hw [] b2 wD h2 n0 f3 A2 f10 f11 g_b2 f9) hZ (hw _ (List.mem_of_getElem? (i := 15) rfl)) (hw _ (List.mem_of_getElem? (i := 12) rfl)) (by decide) (by decide)) (g := (mkF m 9 #[.val (.ref a0), .val (.int p1)] [(.ref b2), (.ref b2), (.ref a0)])) rfl (by rw [hml]; rfl) (Steps.refl _) (a := b2) (argsL := []) (rest := [(.ref b2), (.ref a0)]) (lenOf pd_1 rfl) rfl (by show 2 * 0 + _ ≤ _; exact Nat.le_of_eq rfl) (hb hby d1_9) (fun _ _ => ⟨rfl, e2, (by decide : 1 + 0 ≤ _), (by decide : 3 + 0 ≤ _)⟩)
  dsimp only [Pt.U, Pt.locs, Pt.cells, Pt.slots] at X12 l12 y12 z12 st12 hQ12
  subst l12 y12 z12
  obtain ⟨rfl, N12q, K12, y12_0, y12_1⟩ := hQ12
  have f13 : n0 ≤ T12.heap.size := Nat.le_trans f3 K12.1
  have f14 : Keep h0 T12.heap [a0] := f4.trans K12 (allS (Or.inr sz_b2) all0)
  have f15 : Exa Z T12.heap a0 "com/example/map_of_brokers/mapofbrokers/kafka/ArrivingFrame" := f5.keep K12
  have f16 : Fld Z T12.heap a0 "com/example/map_of_brokers/mapofbrokers/kafka/ArrivingFrame" "pieces" "Ljava/util/List;" .null := f6.keep K12 (ninS ne_a0_b2 nin0)
  have f17 : Fld Z T12.heap a0 "com/example/map_of_brokers/mapofbrokers/kafka/ArrivingFrame" "length" "I" (.int (0 : Int32)) := f7.keep K12 (ninS ne_a0_b2 nin0)
  have f18 : Fld Z T12.heap a0 "com/example/map_of_brokers/mapofbrokers/kafka/ArrivingFrame" "received" "I" (.int (0 : Int32)) := f8.keep K12 (ninS ne_a0_b2 nin0)
  have f19 : Sta Z T12.heap "java/util/ArrayList" "DEFAULTCAPACITY_EMPTY_ELEMENTDATA" "[Ljava/lang/Object;" (.ref wD) := own_sta_keep f9 K12 (allS (own_ns_exa A2) all0)
  have f20 : Exa Z T12.heap b2 "java/util/ArrayList" := A2.keep K12
  have N12 := Fr.app N0 N12q
  refine OwnGo.of (fun t k => st12.trans k) ?_
  show OwnGo p.tables e below _ (T12.setTop (mkF m 12 #[.val (.ref a0), .val (.int p1)] [(.ref b2), (.ref a0)]))
  obtain ⟨T21, h21, X21, e21, W21, st21⟩ := putF X12 hx hZ hown (host := "") (Or.inl (hw _ (List.mem_of_getElem? (i := 34) rfl))) Via.refl rfl f16 f15 (Or.inr ⟨(hw _ (List.mem_of_getElem? (i := 35) rfl)), rfl, hnm⟩) (hw _ (List.mem_of_getElem? (i := 2) rfl)) (ty := (.object "java/util/List")) (by decide) rfl rfl (g := (mkF m 12 #[.val (.ref a0), .val (.int p1)] [(.ref b2), (.ref a0)])) rfl rfl (hb hby d1_12)
  refine OwnGo.of st21 ?_
  have N21 := Fr.snoc X21 N12 g_a0
  have f22 : n0 ≤ h21.size := Nat.le_trans f13 (Keep.of_wr W21).1
  have f23 : Keep h0 h21 [a0] := f14.wr W21 (Or.inl (List.mem_of_getElem? (i := 0) rfl))
  have f24 : Exa Z h21 a0 "com/example/map_of_brokers/mapofbrokers/kafka/ArrivingFrame" := f15.wr W21
  have f25 : Fld Z h21 a0 "com/example/map_of_brokers/mapofbrokers/kafka/ArrivingFrame" "length" "I" (.int (0 : Int32)) := f17.other W21 (Or.inr (slot_ne (Or.inr (hw _ (List.mem_of_getElem? (i := 37) rfl))) (Or.inr (hw _ (List.mem_of_getElem? (i := 35) rfl))) (by decide) (t := .int) (t' := (.object "java/util/List")) (by decide) (by decide)))
  have f26 : Fld Z h21 a0 "com/example/map_of_brokers/mapofbrokers/kafka/ArrivingFrame" "received" "I" (.int (0 : Int32)) := f18.other W21 (Or.inr (slot_ne (Or.inl (hw _ (List.mem_of_getElem? (i := 44) rfl))) (Or.inr (hw _ (List.mem_of_getElem? (i := 35) rfl))) (by decide) (t := .int) (t' := (.object "java/util/List")) (by decide) (by decide)))
  have f27 : Sta Z h21 "java/util/ArrayList" "DEFAULTCAPACITY_EMPTY_ELEMENTDATA" "[Ljava/lang/Object;" (.ref wD) := f19.wr W21
  have f28 : Exa Z h21 b2 "java/util/ArrayList" := y12_0.wr W21
  have f29 : Fld Z h21 b2 "java/util/ArrayList" "elementData" "[Ljava/lang/Object;" (.ref wD) := y12_1.other W21 (Or.inl (Ne.symm ne_a0_b2))
  have f30 : Fld Z h21 a0 "com/example/map_of_brokers/mapofbrokers/kafka/ArrivingFrame" "pieces" "Ljava/util/List;" (.ref b2) := Fld.same W21 f16
  show OwnGo p.tables e below _ (T21.setTop (mkF m 15 #[.val (.ref a0), .val (.int p1)] []))
  refine OwnGo.of (A := T21.setTop (mkF m 15 #[.val (.ref a0), .val (.int p1)] [])) (B := T21.setTop (mkF m 17 #[.val (.ref a0), .val (.int p1)] [(.int p1), (.ref a0)])) (fun t k => ?_) ?_
  · show Steps p.tables e below (T21.setTop (mkF m 15 #[.val (.ref a0), .val (.int p1)] [])) t
    refine XS.aloadN X21.here hx rfl (hb hby d1_15) rfl rfl ?_
    show Steps p.tables e below (T21.setTop (mkF m 16 #[.val (.ref a0), .val (.int p1)] [(.ref a0)])) t
    refine XS.iloadN X21.here hx rfl (hb hby d1_16) rfl ?_
    exact k
  obtain ⟨T31, h31, X31, e31, W31, st31⟩ := putF X21 hx hZ hown (host := "") (Or.inl (hw _ (List.mem_of_getElem? (i := 36) rfl))) Via.refl e21 f25 f24 (Or.inr ⟨(hw _ (List.mem_of_getElem? (i := 37) rfl)), rfl, hnm⟩) (hw _ (List.mem_of_getElem? (i := 2) rfl)) (ty := .int) (by decide) rfl rfl (g := (mkF m 17 #[.val (.ref a0), .val (.int p1)] [(.int p1), (.ref a0)])) rfl rfl (hb hby d1_17)
  refine OwnGo.of st31 ?_
  have N31 := Fr.snoc X31 N21 g_a0
  have f32 : n0 ≤ h31.size := Nat.le_trans f22 (Keep.of_wr W31).1
  have f33 : Keep h0 h31 [a0] := f23.wr W31 (Or.inl (List.mem_of_getElem? (i := 0) rfl))
  have f34 : Exa Z h31 a0 "com/example/map_of_brokers/mapofbrokers/kafka/ArrivingFrame" := f24.wr W31
  have f35 : Fld Z h31 a0 "com/example/map_of_brokers/mapofbrokers/kafka/ArrivingFrame" "received" "I" (.int (0 : Int32)) := f26.other W31 (Or.inr (slot_ne (Or.inl (hw _ (List.mem_of_getElem? (i := 44) rfl))) (Or.inr (hw _ (List.mem_of_getElem? (i := 37) rfl))) (by decide) (t := .int) (t' := .int) (by decide) (by decide)))
  have f36 : Sta Z h31 "java/util/ArrayList" "DEFAULTCAPACITY_EMPTY_ELEMENTDATA" "[Ljava/lang/Object;" (.ref wD) := f27.wr W31
  have f37 : Exa Z h31 b2 "java/util/ArrayList" := f28.wr W31
  have f38 : Fld Z h31 b2 "java/util/ArrayList" "elementData" "[Ljava/lang/Object;" (.ref wD) := f29.other W31 (Or.inl (Ne.symm ne_a0_b2))
  have f39 : Fld Z h31 a0 "com/example/map_of_brokers/mapofbrokers/kafka/ArrivingFrame" "pieces" "Ljava/util/List;" (.ref b2) := f30.other W31 (Or.inr (slot_ne (Or.inr (hw _ (List.mem_of_getElem? (i := 35) rfl))) (Or.inr (hw _ (List.mem_of_getElem? (i := 37) rfl))) (by decide) (t := (.object "java/util/List")) (t' := .int) (by decide) (by decide)))
  have f40 : Fld Z h31 a0 "com/example/map_of_brokers/mapofbrokers/kafka/ArrivingFrame" "length" "I" (.int p1) := Fld.same W31 f25
  show OwnGo p.tables e below _ (T31.setTop (mkF m 20 #[.val (.ref a0), .val (.int p1)] []))
  obtain ⟨fs, hr, hrun, hended, hW, hsame⟩ := X31.leave (v := none) (fun _ => rfl) hlk
  refine ⟨_, _, ?_, hrun, hended, _, _, rfl, ?_, ⟨_, rfl⟩, hW, hsame.mono (by decide) (by decide)⟩
  · show Steps p.tables e below (T31.setTop (mkF m 20 #[.val (.ref a0), .val (.int p1)] [])) _
    exact X31.returnOut hx Bd.returns (hb hby d1_20) hr
  · show Qrm1 Z a0 p1 wD h0 n0 _ (T31.setFrames fs).heap _
    rw [show (T31.setFrames fs).heap = h31 from e31]
    exact ⟨rfl, N31, f33, f34, f40, f35⟩
def own_whole (a0 : Addr) (u1 : Int32) (u2 : Int32) : Int32 := (if u1 = u2 then (1 : Int32) else (0 : Int32))
theorem d6_0 : decode prog_12_method_3_code 0 = .ok (.aload_n 0, 1) := by decide +kernel
theorem d6_1 : decode prog_12_method_3_code 1 = .ok (.getfield 30, 3) := by decide +kernel
theorem d6_4 : decode prog_12_method_3_code 4 = .ok (.aload_n 0, 1) := by decide +kernel
theorem d6_5 : decode prog_12_method_3_code 5 = .ok (.getfield 16, 3) := by decide +kernel
theorem d6_8 : decode prog_12_method_3_code 8 = .ok (.if_icmp .ne 7, 3) := by decide +kernel
theorem d6_11 : decode prog_12_method_3_code 11 = .ok (.iconst 1, 1) := by decide +kernel
theorem d6_12 : decode prog_12_method_3_code 12 = .ok (.goto 4, 3) := by decide +kernel
theorem d6_15 : decode prog_12_method_3_code 15 = .ok (.iconst 0, 1) := by decide +kernel
theorem d6_16 : decode prog_12_method_3_code 16 = .ok (.ireturn, 1) := by decide +kernel
theorem ef_rm6 (m : MethodId) (a0 : Addr) : entryFrame m #[(.ref a0)] 1 = mkF m 0 #[.val (.ref a0)] [] := by first | (simp [entryFrame, mkF, argsToLocals, Value.category]; done) | rfl
def Qrm6 (Z : State) (a0 : Addr) (u1 : Int32) (u2 : Int32) (h0 : Heap) (n0 : Nat) (v : Option Value) (h : Heap) (L : List Loc) : Prop := v = some (.int (own_whole a0 u1 u2)) ∧ Fr n0 L ∧ h = h0
set_option maxRecDepth 65536 in
set_option maxHeartbeats 40000000 in
theorem rm6 (l : Launch) (Z : State) (aw : Array Value) (hw : ∀ d ∈ tables_1, d.before aw Z = true) (ws : List Jvm.Cond) (a0 : Addr) (u1 : Int32) (u2 : Int32) (h0 : Heap) (n0 : Nat) (Z0 : n0 ≤ h0.size) (F_received : Fld Z h0 a0 "com/example/map_of_brokers/mapofbrokers/kafka/ArrivingFrame" "received" "I" (.int u1)) (F_length : Fld Z h0 a0 "com/example/map_of_brokers/mapofbrokers/kafka/ArrivingFrame" "length" "I" (.int u2)) :
    MetFree l (⟨"com/example/map_of_brokers/mapofbrokers/kafka/ArrivingFrame", "isWhole", "()Z"⟩ : MethodName) (head1 (Jvm.Cond.code (⟨"com/example/map_of_brokers/mapofbrokers/kafka/ArrivingFrame", "isWhole", "()Z"⟩ : MethodName) prog_12_method_3_code 1 (some .boolean) :: ws) ({ frames := 0, cells := 0, slots := 0, locals := 0 } : Room)) (fun a U => a = #[(.ref a0)] ∧ Z.Warmed39 U.vm ∧ U.heap = h0) (fun _ _ _ _ _ => True) (fun _ U o U' => ∃ v L, o = .returned v ∧ Qrm6 Z a0 u1 u2 h0 n0 v U'.heap L ∧ FrameEnd U o U' L ({ frames := 0, cells := 0, slots := 0, locals := 0 } : Room).cells ({ frames := 0, cells := 0, slots := 0, locals := 0 } : Room).slots) := by
  refine MetFree.of_bodySF (plainFor_of_name pn_4) hisR ?_
  intro p e s m args below meth c s₁ Bd hml0 hP hK
  obtain ⟨rfl, hZ, hh⟩ := hP
  have hx := Bd.exec
  have hby := Bd.bytes
  have hml : c.maxLocals = 1 := hml0
  have hown : s.vm.findClass "com/example/map_of_brokers/mapofbrokers/kafka/ArrivingFrame" = some m.cls := findClass_of_methodNamed Bd.named
  have hnm := (name_of_methodNamed Bd.named Bd.method).1
  have X0 : Stand p l e ({ frames := 0, cells := 0, slots := 0, locals := 0 } : Room) s m #[(.ref a0)] below meth c s₁ [] 0 0 := Stand.of_body Bd
  have e0 : s₁.heap = h0 := by rw [← hh, Bd.state]; rfl
  have N0 := Fr.nil n0
  have hlk := Bd.notSynchronized
  show OwnGo p.tables e below _ (s₁.setTop (entryFrame m #[(.ref a0)] 1))
  rw [ef_rm6 m a0]
  show OwnGo p.tables e below _ (s₁.setTop (mkF m 0 #[.val (.ref a0)] []))
  refine OwnGo.of (A := s₁.setTop (mkF m 0 #[.val (.ref a0)] [])) (B := s₁.setTop (mkF m 1 #[.val (.ref a0)] [(.ref a0)])) (fun t k => ?_) ?_
  · show Steps p.tables e below (s₁.setTop (mkF m 0 #[.val (.ref a0)] [])) t
    refine XS.aloadN X0.here hx rfl (hb hby d6_0) rfl rfl ?_
    exact k
  obtain ⟨T1, X1, e1, st1⟩ := getF X0 hx hZ hown (host := "") (Or.inl (hw _ (List.mem_of_getElem? (i := 43) rfl))) Via.refl e0 F_received (g := (mkF m 1 #[.val (.ref a0)] [(.ref a0)])) rfl rfl (hb hby d6_1)
  refine OwnGo.of st1 ?_
  show OwnGo p.tables e below _ (T1.setTop (mkF m 4 #[.val (.ref a0)] [(.int u1)]))
  refine OwnGo.of (A := T1.setTop (mkF m 4 #[.val (.ref a0)] [(.int u1)])) (B := T1.setTop (mkF m 5 #[.val (.ref a0)] [(.ref a0), (.int u1)])) (fun t k => ?_) ?_
  · show Steps p.tables e below (T1.setTop (mkF m 4 #[.val (.ref a0)] [(.int u1)])) t
    refine XS.aloadN X1.here hx rfl (hb hby d6_4) rfl rfl ?_
    exact k
  obtain ⟨T2, X2, e2, st2⟩ := getF X1 hx hZ hown (host := "") (Or.inl (hw _ (List.mem_of_getElem? (i := 36) rfl))) Via.refl e1 F_length (g := (mkF m 5 #[.val (.ref a0)] [(.ref a0), (.int u1)])) rfl rfl (hb hby d6_5)
  refine OwnGo.of st2 ?_
  show OwnGo p.tables e below _ (T2.setTop (mkF m 8 #[.val (.ref a0)] [(.int u2), (.int u1)]))
  by_cases hc3 : u1 = u2
  · refine OwnGo.of (A := T2.setTop (mkF m 8 #[.val (.ref a0)] [(.int u2), (.int u1)])) (B := T2.setTop (mkF m 16 #[.val (.ref a0)] [(.int (1 : Int32))])) (fun t k => ?_) ?_
    · show Steps p.tables e below (T2.setTop (mkF m 8 #[.val (.ref a0)] [(.int u2), (.int u1)])) t
      refine XS.icmpNo X2.here hx rfl (hb hby d6_8) rfl (teq hc3).2 ?_
      show Steps p.tables e below (T2.setTop (mkF m 11 #[.val (.ref a0)] [])) t
      refine XS.iconst X2.here hx rfl (hb hby d6_11) ?_
      show Steps p.tables e below (T2.setTop (mkF m 12 #[.val (.ref a0)] [(.int (1 : Int32))])) t
      refine XS.goto X2.here hx rfl (pc0 := 12) (pc' := 16) rfl (hb hby d6_12) (by decide) (by decide) ?_
      exact k
    obtain ⟨fs, hr, hrun, hended, hW, hsame⟩ := X2.leave (v := some (.int (nar .boolean (1 : Int32)))) (fun h => by rw [Bd.returns] at h; cases h) hlk
    refine ⟨_, _, ?_, hrun, hended, _, _, rfl, ?_, ⟨_, rfl⟩, hW, hsame.mono (by decide) (by decide)⟩
    · show Steps p.tables e below (T2.setTop (mkF m 16 #[.val (.ref a0)] [(.int (1 : Int32))])) _
      exact retN X2 hx (t := .boolean) Bd.returns (by simp) (hb hby d6_16) hr
    · show Qrm6 Z a0 u1 u2 h0 n0 _ (T2.setFrames fs).heap _
      rw [show (T2.setFrames fs).heap = h0 from e2]
      exact ⟨congrArg (fun z => some (Value.int z)) (by rw [own_whole, if_pos hc3]; try rfl), N0, rfl⟩
  · refine OwnGo.of (A := T2.setTop (mkF m 8 #[.val (.ref a0)] [(.int u2), (.int u1)])) (B := T2.setTop (mkF m 16 #[.val (.ref a0)] [(.int (0 : Int32))])) (fun t k => ?_) ?_
    · show Steps p.tables e below (T2.setTop (mkF m 8 #[.val (.ref a0)] [(.int u2), (.int u1)])) t
      refine XS.icmpYes X2.here hx rfl (pc0 := 8) (pc' := 15) rfl (hb hby d6_8) rfl (feq hc3).2 (by decide) (by decide) ?_
      show Steps p.tables e below (T2.setTop (mkF m 15 #[.val (.ref a0)] [])) t
      refine XS.iconst X2.here hx rfl (hb hby d6_15) ?_
      exact k
    obtain ⟨fs, hr, hrun, hended, hW, hsame⟩ := X2.leave (v := some (.int (nar .boolean (0 : Int32)))) (fun h => by rw [Bd.returns] at h; cases h) hlk
    refine ⟨_, _, ?_, hrun, hended, _, _, rfl, ?_, ⟨_, rfl⟩, hW, hsame.mono (by decide) (by decide)⟩
    · show Steps p.tables e below (T2.setTop (mkF m 16 #[.val (.ref a0)] [(.int (0 : Int32))])) _
      exact retN X2 hx (t := .boolean) Bd.returns (by simp) (hb hby d6_16) hr
    · show Qrm6 Z a0 u1 u2 h0 n0 _ (T2.setFrames fs).heap _
      rw [show (T2.setFrames fs).heap = h0 from e2]
      exact ⟨congrArg (fun z => some (Value.int z)) (by rw [own_whole, if_neg hc3]; try rfl), N0, rfl⟩
theorem pd_5 : parseMethodDescriptor "(I)V" = some ⟨[.int], none⟩ := by decide +kernel
theorem pd_6 : parseMethodDescriptor "()Z" = some ⟨[], some .boolean⟩ := by decide +kernel
theorem pn_7 : plainName "com/example/map_of_brokers/mapofbrokers/kafka/ArrivingFrameIsWholePinLaw" = true := by first | (simp [plainName, overriddenIn]; done) | decide +kernel
theorem ef_rm0 (m : MethodId) (p0 : Int32) (p1 : Int32) : entryFrame m #[(.int p0), (.int p1)] maxLocals = mkF m 0 #[.val (.int p0), .val (.int p1), .unset, .unset, .unset, .unset, .unset] [] := by first | (simp [entryFrame, mkF, argsToLocals, Value.category, maxLocals]; done) | rfl
def Qrm0 (Z : State) (p0 : Int32) (p1 : Int32) (wD : Addr) (h0 : Heap) (n0 : Nat) (v : Option Value) (h : Heap) (L : List Loc) : Prop := v = some (.int 1) ∧ Fr n0 L
set_option maxRecDepth 65536 in
set_option maxHeartbeats 40000000 in
theorem rm0 (l : Launch) (Z : State) (aw : Array Value) (hw : ∀ d ∈ tables_1, d.before aw Z = true) (ws : List Jvm.Cond) (p0 : Int32) (p1 : Int32) (wD : Addr) (h0 : Heap) (n0 : Nat) (Z0 : n0 ≤ h0.size) (S_DEFAULTCAPACITY_EMPTY_ELEMENTDATA : Sta Z h0 "java/util/ArrayList" "DEFAULTCAPACITY_EMPTY_ELEMENTDATA" "[Ljava/lang/Object;" (.ref wD)) :
    MetFree l x (head1 (Jvm.Cond.code x code maxLocals ret :: ws) room_1) (fun a U => a = #[(.int p0), (.int p1)] ∧ Z.Warmed39 U.vm ∧ U.heap = h0) (fun _ _ _ _ _ => True) (fun _ U o U' => ∃ v L, o = .returned v ∧ Qrm0 Z p0 p1 wD h0 n0 v U'.heap L ∧ FrameEnd U o U' L room_1.cells room_1.slots) := by
  refine MetFree.of_bodySF (plainFor_of_name pn_7) hisR ?_
  intro p e s m args below meth c s₁ Bd hml0 hP hK
  obtain ⟨rfl, hZ, hh⟩ := hP
  have hx := Bd.exec
  have hby := Bd.bytes
  have hml : c.maxLocals = 7 := hml0
  have hown : s.vm.findClass "com/example/map_of_brokers/mapofbrokers/kafka/ArrivingFrameIsWholePinLaw" = some m.cls := findClass_of_methodNamed Bd.named
  have hnm := (name_of_methodNamed Bd.named Bd.method).1
  have X0 : Stand p l e room_1 s m #[(.int p0), (.int p1)] below meth c s₁ [] 0 0 := Stand.of_body Bd
  have e0 : s₁.heap = h0 := by rw [← hh, Bd.state]; rfl
  have N0 := Fr.nil n0
  have hlk := Bd.notSynchronized
  show OwnGo p.tables e below _ (s₁.setTop (entryFrame m #[(.int p0), (.int p1)] maxLocals))
  rw [ef_rm0 m p0 p1]
  show OwnGo p.tables e below _ (s₁.setTop (mkF m 0 #[.val (.int p0), .val (.int p1), .unset, .unset, .unset, .unset, .unset] []))
  refine OwnGo.of (A := s₁.setTop (mkF m 0 #[.val (.int p0), .val (.int p1), .unset, .unset, .unset, .unset, .unset] [])) (B := s₁.setTop (mkF m 3 #[.val (.int p0), .val (.int p1), .unset, .unset, .unset, .unset, .unset] [(.int (p1 &&& (1 : Int32)))])) (fun t k => ?_) ?_
  · show Steps p.tables e below (s₁.setTop (mkF m 0 #[.val (.int p0), .val (.int p1), .unset, .unset, .unset, .unset, .unset] [])) t
    refine XS.iloadN X0.here hx rfl (hb hby at_0) rfl ?_
    show Steps p.tables e below (s₁.setTop (mkF m 1 #[.val (.int p0), .val (.int p1), .unset, .unset, .unset, .unset, .unset] [(.int p1)])) t
    refine XS.iconst X0.here hx rfl (hb hby at_1) ?_
    show Steps p.tables e below (s₁.setTop (mkF m 2 #[.val (.int p0), .val (.int p1), .unset, .unset, .unset, .unset, .unset] [(.int (1 : Int32)), (.int p1)])) t
    refine XS.iand X0.here hx rfl (hb hby at_2) rfl ?_
    exact k
  by_cases hc1 : (p1 &&& (1 : Int32)) = (0 : Int32)
  · refine OwnGo.of (A := s₁.setTop (mkF m 3 #[.val (.int p0), .val (.int p1), .unset, .unset, .unset, .unset, .unset] [(.int (p1 &&& (1 : Int32)))])) (B := s₁.setTop (mkF m 17 #[.val (.int p0), .val (.int p1), .val (.int (p0 &&& (3 : Int32))), .unset, .unset, .unset, .unset] [])) (fun t k => ?_) ?_
    · show Steps p.tables e below (s₁.setTop (mkF m 3 #[.val (.int p0), .val (.int p1), .unset, .unset, .unset, .unset, .unset] [(.int (p1 &&& (1 : Int32)))])) t
      refine XS.ifYes X0.here hx rfl (pc0 := 3) (pc' := 13) rfl (hb hby at_3) rfl ((if0 _ _).trans (teq hc1).1) (by decide) (by decide) ?_
      show Steps p.tables e below (s₁.setTop (mkF m 13 #[.val (.int p0), .val (.int p1), .unset, .unset, .unset, .unset, .unset] [])) t
      refine XS.iloadN X0.here hx rfl (hb hby at_13) rfl ?_
      show Steps p.tables e below (s₁.setTop (mkF m 14 #[.val (.int p0), .val (.int p1), .unset, .unset, .unset, .unset, .unset] [(.int p0)])) t
      refine XS.iconst X0.here hx rfl (hb hby at_14) ?_
      show Steps p.tables e below (s₁.setTop (mkF m 15 #[.val (.int p0), .val (.int p1), .unset, .unset, .unset, .unset, .unset] [(.int (3 : Int32)), (.int p0)])) t
      refine XS.iand X0.here hx rfl (hb hby at_15) rfl ?_
      show Steps p.tables e below (s₁.setTop (mkF m 16 #[.val (.int p0), .val (.int p1), .unset, .unset, .unset, .unset, .unset] [(.int (p0 &&& (3 : Int32)))])) t
      refine XS.istoreN X0.here hx rfl (hb hby at_16) rfl (l' := #[.val (.int p0), .val (.int p1), .val (.int (p0 &&& (3 : Int32))), .unset, .unset, .unset, .unset]) rfl ?_
      exact k
    obtain ⟨T2, h2, X2, e2, E2, A2, D2, -, st2⟩ := newO X0 hx hZ hown (hw _ (List.mem_of_getElem? (i := 1) rfl)) (hw _ (List.mem_of_getElem? (i := 2) rfl)) (hw _ (List.mem_of_getElem? (i := 3) rfl)) e0 (g := (mkF m 17 #[.val (.int p0), .val (.int p1), .val (.int (p0 &&& (3 : Int32))), .unset, .unset, .unset, .unset] [])) rfl (hb hby at_17) (by decide) (by decide)
    obtain ⟨b2, g2⟩ : ∃ z, z = h0.size := ⟨_, rfl⟩
    rw [← g2] at A2 D2 st2
    refine OwnGo.of st2 ?_
    have g_b2 : n0 ≤ b2 := Nat.le_trans Z0 (Nat.le_of_eq g2.symm)
    have f3 : n0 ≤ h2.size := Nat.le_trans Z0 E2.1
    have f4 : Sta Z h2 "java/util/ArrayList" "DEFAULTCAPACITY_EMPTY_ELEMENTDATA" "[Ljava/lang/Object;" (.ref wD) := S_DEFAULTCAPACITY_EMPTY_ELEMENTDATA.ext E2
    have f5 : Fld Z h2 b2 "com/example/map_of_brokers/mapofbrokers/kafka/ArrivingFrame" "pieces" "Ljava/util/List;" .null := D2 (Or.inr (hw _ (List.mem_of_getElem? (i := 35) rfl))) (ty := (.object "java/util/List")) (by decide)
    have f6 : Fld Z h2 b2 "com/example/map_of_brokers/mapofbrokers/kafka/ArrivingFrame" "length" "I" (.int (0 : Int32)) := D2 (Or.inr (hw _ (List.mem_of_getElem? (i := 37) rfl))) (ty := .int) (by decide)
    have f7 : Fld Z h2 b2 "com/example/map_of_brokers/mapofbrokers/kafka/ArrivingFrame" "received" "I" (.int (0 : Int32)) := D2 (Or.inl (hw _ (List.mem_of_getElem? (i := 44) rfl))) (ty := .int) (by decide)
    show OwnGo p.tables e below _ (T2.setTop (mkF m 20 #[.val (.int p0), .val (.int p1), .val (.int (p0 &&& (3 : Int32))), .unset, .unset, .unset, .unset] [(.ref b2)]))
    refine OwnGo.of (A := T2.setTop (mkF m 20 #[.val (.int p0), .val (.int p1), .val (.int (p0 &&& (3 : Int32))), .unset, .unset, .unset, .unset] [(.ref b2)])) (B := T2.setTop (mkF m 22 #[.val (.int p0), .val (.int p1), .val (.int (p0 &&& (3 : Int32))), .unset, .unset, .unset, .unset] [(.int (p0 &&& (3 : Int32))), (.ref b2), (.ref b2)])) (fun t k => ?_) ?_
    · show Steps p.tables e below (T2.setTop (mkF m 20 #[.val (.int p0), .val (.int p1), .val (.int (p0 &&& (3 : Int32))), .unset, .unset, .unset, .unset] [(.ref b2)])) t
      refine XS.dup X2.here hx rfl (hb hby at_20) rfl rfl ?_
      show Steps p.tables e below (T2.setTop (mkF m 21 #[.val (.int p0), .val (.int p1), .val (.int (p0 &&& (3 : Int32))), .unset, .unset, .unset, .unset] [(.ref b2), (.ref b2)])) t
      refine XS.iloadN X2.here hx rfl (hb hby at_21) rfl ?_
      exact k
    obtain ⟨_, _, ⟨T8, L8, k8, n8⟩, -, X8, ⟨Lc8, hQ8, l8, y8, z8⟩, st8⟩ := X2.specialBack hx (y := (⟨"com/example/map_of_brokers/mapofbrokers/kafka/ArrivingFrame", "<init>", "(I)V"⟩ : MethodName)) rfl hown (mvT hZ (hw _ (List.mem_of_getElem? (i := 4) rfl))) (mvT hZ (hw _ (List.mem_of_getElem? (i := 5) rfl))) (mvT hZ (hw _ (List.mem_of_getElem? (i := 6) rfl))) (by decide) (backOf (W := 1) (rm1 l Z aw hw [] b2 (p0 &&& (3 : Int32)) wD h2 n0 f3 A2 f5 f6 f7 g_b2 f4) hZ (hw _ (List.mem_of_getElem? (i := 6) rfl)) (hw _ (List.mem_of_getElem? (i := 3) rfl)) (by decide) (by decide)) (g := (mkF m 22 #[.val (.int p0), .val (.int p1), .val (.int (p0 &&& (3 : Int32))), .unset, .unset, .unset, .unset] [(.int (p0 &&& (3 : Int32))), (.ref b2), (.ref b2)])) rfl (by rw [hml]; rfl) (Steps.refl _) (a := b2) (argsL := [(.int (p0 &&& (3 : Int32)))]) (rest := [(.ref b2)]) (lenOf pd_5 rfl) rfl (by show 2 * 0 + _ ≤ _; exact Nat.le_of_eq rfl) (hb hby at_22) (fun _ _ => ⟨rfl, e2, (by decide : 1 + 1 ≤ _), (by decide : 3 + 3 ≤ _)⟩)
    dsimp only [Pt.U, Pt.locs, Pt.cells, Pt.slots] at X8 l8 y8 z8 st8 hQ8
    subst l8 y8 z8
    obtain ⟨rfl, N8q, K8, y8_0, y8_1, y8_2⟩ := hQ8
    have f9 : n0 ≤ T8.heap.size := Nat.le_trans f3 K8.1
    have f10 : Sta Z T8.heap "java/util/ArrayList" "DEFAULTCAPACITY_EMPTY_ELEMENTDATA" "[Ljava/lang/Object;" (.ref wD) := own_sta_keep f4 K8 (allS (own_ns_exa A2) all0)
    have f11 : Exa Z T8.heap b2 "com/example/map_of_brokers/mapofbrokers/kafka/ArrivingFrame" := A2.keep K8
    have N8 := Fr.app N0 N8q
    refine OwnGo.of (fun t k => st8.trans k) ?_
    show OwnGo p.tables e below _ (T8.setTop (mkF m 25 #[.val (.int p0), .val (.int p1), .val (.int (p0 &&& (3 : Int32))), .unset, .unset, .unset, .unset] [(.ref b2)]))
    refine OwnGo.of (A := T8.setTop (mkF m 25 #[.val (.int p0), .val (.int p1), .val (.int (p0 &&& (3 : Int32))), .unset, .unset, .unset, .unset] [(.ref b2)])) (B := T8.setTop (mkF m 27 #[.val (.int p0), .val (.int p1), .val (.int (p0 &&& (3 : Int32))), .val (.ref b2), .unset, .unset, .unset] [(.ref b2)])) (fun t k => ?_) ?_
    · show Steps p.tables e below (T8.setTop (mkF m 25 #[.val (.int p0), .val (.int p1), .val (.int (p0 &&& (3 : Int32))), .unset, .unset, .unset, .unset] [(.ref b2)])) t
      refine XS.astoreN X8.here hx rfl (hb hby at_25) rfl rfl (l' := #[.val (.int p0), .val (.int p1), .val (.int (p0 &&& (3 : Int32))), .val (.ref b2), .unset, .unset, .unset]) rfl ?_
      show Steps p.tables e below (T8.setTop (mkF m 26 #[.val (.int p0), .val (.int p1), .val (.int (p0 &&& (3 : Int32))), .val (.ref b2), .unset, .unset, .unset] [])) t
      refine XS.aloadN X8.here hx rfl (hb hby at_26) rfl rfl ?_
      exact k
    obtain ⟨cq12, kq12, q12a, q12b, q12c⟩ := isOf hZ rfl y8_0
    obtain ⟨_, _, ⟨T12, L12, k12, n12⟩, -, X12, ⟨Lc12, hQ12, l12, y12, z12⟩, st12⟩ := X8.virtualBack hx (y := (⟨"com/example/map_of_brokers/mapofbrokers/kafka/ArrivingFrame", "isWhole", "()Z"⟩ : MethodName)) (z := (⟨"com/example/map_of_brokers/mapofbrokers/kafka/ArrivingFrame", "isWhole", "()Z"⟩ : MethodName)) hown (mvT hZ (hw _ (List.mem_of_getElem? (i := 38) rfl))) (mvT hZ (hw _ (List.mem_of_getElem? (i := 39) rfl))) (notFace_of_selects (args := #[]) (mvT hZ (hw _ (List.mem_of_getElem? (i := 41) rfl)))) (mvT hZ (hw _ (List.mem_of_getElem? (i := 41) rfl))) (mvT hZ (hw _ (List.mem_of_getElem? (i := 40) rfl))) (by decide) (backOf (W := 0) (rm6 l Z aw hw [] b2 (0 : Int32) (p0 &&& (3 : Int32)) T8.heap n0 f9 y8_2 y8_1) hZ (hw _ (List.mem_of_getElem? (i := 42) rfl)) (hw _ (List.mem_of_getElem? (i := 3) rfl)) (by decide) (by decide)) q12a q12c (g := (mkF m 27 #[.val (.int p0), .val (.int p1), .val (.int (p0 &&& (3 : Int32))), .val (.ref b2), .unset, .unset, .unset] [(.ref b2)])) rfl (by rw [hml]; rfl) (Steps.refl _) (argsL := []) (rest := []) (lenOf pd_6 rfl) rfl (by show 2 * 0 + _ ≤ _; exact Nat.le_of_eq rfl) (hb hby at_27) (fun _ _ => ⟨rfl, rfl, (by decide : 2 + 0 ≤ _), (by decide : 6 + 0 ≤ _)⟩)
    dsimp only [Pt.U, Pt.locs, Pt.cells, Pt.slots] at X12 l12 y12 z12 st12 hQ12
    subst l12 y12 z12
    obtain ⟨rfl, N12q, eq12⟩ := hQ12
    have N12 := Fr.app N8 N12q
    refine OwnGo.of (fun t k => st12.trans k) ?_
    show OwnGo p.tables e below _ (T12.setTop (mkF m 30 #[.val (.int p0), .val (.int p1), .val (.int (p0 &&& (3 : Int32))), .val (.ref b2), .unset, .unset, .unset] [(.int (own_whole b2 (0 : Int32) (p0 &&& (3 : Int32))))]))
    refine OwnGo.of (A := T12.setTop (mkF m 30 #[.val (.int p0), .val (.int p1), .val (.int (p0 &&& (3 : Int32))), .val (.ref b2), .unset, .unset, .unset] [(.int (own_whole b2 (0 : Int32) (p0 &&& (3 : Int32))))])) (B := T12.setTop (mkF m 33 #[.val (.int p0), .val (.int p1), .val (.int (p0 &&& (3 : Int32))), .val (.ref b2), .val (.int (own_whole b2 (0 : Int32) (p0 &&& (3 : Int32)))), .unset, .unset] [(.ref b2)])) (fun t k => ?_) ?_
    · show Steps p.tables e below (T12.setTop (mkF m 30 #[.val (.int p0), .val (.int p1), .val (.int (p0 &&& (3 : Int32))), .val (.ref b2), .unset, .unset, .unset] [(.int (own_whole b2 (0 : Int32) (p0 &&& (3 : Int32))))])) t
      refine XS.istore X12.here hx rfl (hb hby at_30) rfl (l' := #[.val (.int p0), .val (.int p1), .val (.int (p0 &&& (3 : Int32))), .val (.ref b2), .val (.int (own_whole b2 (0 : Int32) (p0 &&& (3 : Int32)))), .unset, .unset]) rfl ?_
      show Steps p.tables e below (T12.setTop (mkF m 32 #[.val (.int p0), .val (.int p1), .val (.int (p0 &&& (3 : Int32))), .val (.ref b2), .val (.int (own_whole b2 (0 : Int32) (p0 &&& (3 : Int32)))), .unset, .unset] [])) t
      refine XS.aloadN X12.here hx rfl (hb hby at_32) rfl rfl ?_
      exact k
    obtain ⟨cq13, kq13, q13a, q13b, q13c⟩ := isOf hZ eq12 y8_0
    obtain ⟨_, _, ⟨T13, L13, k13, n13⟩, -, X13, ⟨Lc13, hQ13, l13, y13, z13⟩, st13⟩ := X12.virtualBack hx (y := (⟨"com/example/map_of_brokers/mapofbrokers/kafka/ArrivingFrame", "isWhole", "()Z"⟩ : MethodName)) (z := (⟨"com/example/map_of_brokers/mapofbrokers/kafka/ArrivingFrame", "isWhole", "()Z"⟩ : MethodName)) hown (mvT hZ (hw _ (List.mem_of_getElem? (i := 38) rfl))) (mvT hZ (hw _ (List.mem_of_getElem? (i := 39) rfl))) (notFace_of_selects (args := #[]) (mvT hZ (hw _ (List.mem_of_getElem? (i := 41) rfl)))) (mvT hZ (hw _ (List.mem_of_getElem? (i := 41) rfl))) (mvT hZ (hw _ (List.mem_of_getElem? (i := 40) rfl))) (by decide) (backOf (W := 0) (rm6 l Z aw hw [] b2 (0 : Int32) (p0 &&& (3 : Int32)) T8.heap n0 f9 y8_2 y8_1) hZ (hw _ (List.mem_of_getElem? (i := 42) rfl)) (hw _ (List.mem_of_getElem? (i := 3) rfl)) (by decide) (by decide)) q13a q13c (g := (mkF m 33 #[.val (.int p0), .val (.int p1), .val (.int (p0 &&& (3 : Int32))), .val (.ref b2), .val (.int (own_whole b2 (0 : Int32) (p0 &&& (3 : Int32)))), .unset, .unset] [(.ref b2)])) rfl (by rw [hml]; rfl) (Steps.refl _) (argsL := []) (rest := []) (lenOf pd_6 rfl) rfl (by show 2 * 0 + _ ≤ _; exact Nat.le_of_eq rfl) (hb hby at_33) (fun _ _ => ⟨rfl, eq12, (by decide : 2 + 0 ≤ _), (by decide : 6 + 0 ≤ _)⟩)
    dsimp only [Pt.U, Pt.locs, Pt.cells, Pt.slots] at X13 l13 y13 z13 st13 hQ13
    subst l13 y13 z13
    obtain ⟨rfl, N13q, eq13⟩ := hQ13
    have N13 := Fr.app N12 N13q
    refine OwnGo.of (fun t k => st13.trans k) ?_
    show OwnGo p.tables e below _ (T13.setTop (mkF m 36 #[.val (.int p0), .val (.int p1), .val (.int (p0 &&& (3 : Int32))), .val (.ref b2), .val (.int (own_whole b2 (0 : Int32) (p0 &&& (3 : Int32)))), .unset, .unset] [(.int (own_whole b2 (0 : Int32) (p0 &&& (3 : Int32))))]))
    refine OwnGo.of (A := T13.setTop (mkF m 36 #[.val (.int p0), .val (.int p1), .val (.int (p0 &&& (3 : Int32))), .val (.ref b2), .val (.int (own_whole b2 (0 : Int32) (p0 &&& (3 : Int32)))), .unset, .unset] [(.int (own_whole b2 (0 : Int32) (p0 &&& (3 : Int32))))])) (B := T13.setTop (mkF m 39 #[.val (.int p0), .val (.int p1), .val (.int (p0 &&& (3 : Int32))), .val (.ref b2), .val (.int (own_whole b2 (0 : Int32) (p0 &&& (3 : Int32)))), .val (.int (own_whole b2 (0 : Int32) (p0 &&& (3 : Int32)))), .unset] [(.int (p0 &&& (3 : Int32)))])) (fun t k => ?_) ?_
    · show Steps p.tables e below (T13.setTop (mkF m 36 #[.val (.int p0), .val (.int p1), .val (.int (p0 &&& (3 : Int32))), .val (.ref b2), .val (.int (own_whole b2 (0 : Int32) (p0 &&& (3 : Int32)))), .unset, .unset] [(.int (own_whole b2 (0 : Int32) (p0 &&& (3 : Int32))))])) t
      refine XS.istore X13.here hx rfl (hb hby at_36) rfl (l' := #[.val (.int p0), .val (.int p1), .val (.int (p0 &&& (3 : Int32))), .val (.ref b2), .val (.int (own_whole b2 (0 : Int32) (p0 &&& (3 : Int32)))), .val (.int (own_whole b2 (0 : Int32) (p0 &&& (3 : Int32)))), .unset]) rfl ?_
      show Steps p.tables e below (T13.setTop (mkF m 38 #[.val (.int p0), .val (.int p1), .val (.int (p0 &&& (3 : Int32))), .val (.ref b2), .val (.int (own_whole b2 (0 : Int32) (p0 &&& (3 : Int32)))), .val (.int (own_whole b2 (0 : Int32) (p0 &&& (3 : Int32)))), .unset] [])) t
      refine XS.iloadN X13.here hx rfl (hb hby at_38) rfl ?_
      exact k
    by_cases hc14 : (p0 &&& (3 : Int32)) = (0 : Int32)
    · refine OwnGo.of (A := T13.setTop (mkF m 39 #[.val (.int p0), .val (.int p1), .val (.int (p0 &&& (3 : Int32))), .val (.ref b2), .val (.int (own_whole b2 (0 : Int32) (p0 &&& (3 : Int32)))), .val (.int (own_whole b2 (0 : Int32) (p0 &&& (3 : Int32)))), .unset] [(.int (p0 &&& (3 : Int32)))])) (B := T13.setTop (mkF m 53 #[.val (.int p0), .val (.int p1), .val (.int (p0 &&& (3 : Int32))), .val (.ref b2), .val (.int (own_whole b2 (0 : Int32) (p0 &&& (3 : Int32)))), .val (.int (own_whole b2 (0 : Int32) (p0 &&& (3 : Int32)))), .val (.int (1 : Int32))] [(.int (1 : Int32)), (.int (own_whole b2 (0 : Int32) (p0 &&& (3 : Int32))))])) (fun t k => ?_) ?_
      · show Steps p.tables e below (T13.setTop (mkF m 39 #[.val (.int p0), .val (.int p1), .val (.int (p0 &&& (3 : Int32))), .val (.ref b2), .val (.int (own_whole b2 (0 : Int32) (p0 &&& (3 : Int32)))), .val (.int (own_whole b2 (0 : Int32) (p0 &&& (3 : Int32)))), .unset] [(.int (p0 &&& (3 : Int32)))])) t
        refine XS.ifNo X13.here hx rfl (hb hby at_39) rfl ((if0 _ _).trans (teq hc14).2) ?_
        show Steps p.tables e below (T13.setTop (mkF m 42 #[.val (.int p0), .val (.int p1), .val (.int (p0 &&& (3 : Int32))), .val (.ref b2), .val (.int (own_whole b2 (0 : Int32) (p0 &&& (3 : Int32)))), .val (.int (own_whole b2 (0 : Int32) (p0 &&& (3 : Int32)))), .unset] [])) t
        refine XS.iconst X13.here hx rfl (hb hby at_42) ?_
        show Steps p.tables e below (T13.setTop (mkF m 43 #[.val (.int p0), .val (.int p1), .val (.int (p0 &&& (3 : Int32))), .val (.ref b2), .val (.int (own_whole b2 (0 : Int32) (p0 &&& (3 : Int32)))), .val (.int (own_whole b2 (0 : Int32) (p0 &&& (3 : Int32)))), .unset] [(.int (1 : Int32))])) t
        refine XS.goto X13.here hx rfl (pc0 := 43) (pc' := 47) rfl (hb hby at_43) (by decide) (by decide) ?_
        show Steps p.tables e below (T13.setTop (mkF m 47 #[.val (.int p0), .val (.int p1), .val (.int (p0 &&& (3 : Int32))), .val (.ref b2), .val (.int (own_whole b2 (0 : Int32) (p0 &&& (3 : Int32)))), .val (.int (own_whole b2 (0 : Int32) (p0 &&& (3 : Int32)))), .unset] [(.int (1 : Int32))])) t
        refine XS.istore X13.here hx rfl (hb hby at_47) rfl (l' := #[.val (.int p0), .val (.int p1), .val (.int (p0 &&& (3 : Int32))), .val (.ref b2), .val (.int (own_whole b2 (0 : Int32) (p0 &&& (3 : Int32)))), .val (.int (own_whole b2 (0 : Int32) (p0 &&& (3 : Int32)))), .val (.int (1 : Int32))]) rfl ?_
        show Steps p.tables e below (T13.setTop (mkF m 49 #[.val (.int p0), .val (.int p1), .val (.int (p0 &&& (3 : Int32))), .val (.ref b2), .val (.int (own_whole b2 (0 : Int32) (p0 &&& (3 : Int32)))), .val (.int (own_whole b2 (0 : Int32) (p0 &&& (3 : Int32)))), .val (.int (1 : Int32))] [])) t
        refine XS.iload X13.here hx rfl (hb hby at_49) rfl ?_
        show Steps p.tables e below (T13.setTop (mkF m 51 #[.val (.int p0), .val (.int p1), .val (.int (p0 &&& (3 : Int32))), .val (.ref b2), .val (.int (own_whole b2 (0 : Int32) (p0 &&& (3 : Int32)))), .val (.int (own_whole b2 (0 : Int32) (p0 &&& (3 : Int32)))), .val (.int (1 : Int32))] [(.int (own_whole b2 (0 : Int32) (p0 &&& (3 : Int32))))])) t
        refine XS.iload X13.here hx rfl (hb hby at_51) rfl ?_
        exact k
      have hc15 : (own_whole b2 (0 : Int32) (p0 &&& (3 : Int32))) = (1 : Int32) := by rw [own_whole, if_pos hc14.symm]
      refine OwnGo.of (A := T13.setTop (mkF m 53 #[.val (.int p0), .val (.int p1), .val (.int (p0 &&& (3 : Int32))), .val (.ref b2), .val (.int (own_whole b2 (0 : Int32) (p0 &&& (3 : Int32)))), .val (.int (own_whole b2 (0 : Int32) (p0 &&& (3 : Int32)))), .val (.int (1 : Int32))] [(.int (1 : Int32)), (.int (own_whole b2 (0 : Int32) (p0 &&& (3 : Int32))))])) (B := T13.setTop (mkF m 60 #[.val (.int p0), .val (.int p1), .val (.int (p0 &&& (3 : Int32))), .val (.ref b2), .val (.int (own_whole b2 (0 : Int32) (p0 &&& (3 : Int32)))), .val (.int (own_whole b2 (0 : Int32) (p0 &&& (3 : Int32)))), .val (.int (1 : Int32))] [(.int (1 : Int32)), (.int (own_whole b2 (0 : Int32) (p0 &&& (3 : Int32))))])) (fun t k => ?_) ?_
      · show Steps p.tables e below (T13.setTop (mkF m 53 #[.val (.int p0), .val (.int p1), .val (.int (p0 &&& (3 : Int32))), .val (.ref b2), .val (.int (own_whole b2 (0 : Int32) (p0 &&& (3 : Int32)))), .val (.int (own_whole b2 (0 : Int32) (p0 &&& (3 : Int32)))), .val (.int (1 : Int32))] [(.int (1 : Int32)), (.int (own_whole b2 (0 : Int32) (p0 &&& (3 : Int32))))])) t
        refine XS.icmpNo X13.here hx rfl (hb hby at_53) rfl (teq hc15).2 ?_
        show Steps p.tables e below (T13.setTop (mkF m 56 #[.val (.int p0), .val (.int p1), .val (.int (p0 &&& (3 : Int32))), .val (.ref b2), .val (.int (own_whole b2 (0 : Int32) (p0 &&& (3 : Int32)))), .val (.int (own_whole b2 (0 : Int32) (p0 &&& (3 : Int32)))), .val (.int (1 : Int32))] [])) t
        refine XS.iload X13.here hx rfl (hb hby at_56) rfl ?_
        show Steps p.tables e below (T13.setTop (mkF m 58 #[.val (.int p0), .val (.int p1), .val (.int (p0 &&& (3 : Int32))), .val (.ref b2), .val (.int (own_whole b2 (0 : Int32) (p0 &&& (3 : Int32)))), .val (.int (own_whole b2 (0 : Int32) (p0 &&& (3 : Int32)))), .val (.int (1 : Int32))] [(.int (own_whole b2 (0 : Int32) (p0 &&& (3 : Int32))))])) t
        refine XS.iload X13.here hx rfl (hb hby at_58) rfl ?_
        exact k
      have hc16 : (own_whole b2 (0 : Int32) (p0 &&& (3 : Int32))) = (1 : Int32) := by rw [own_whole, if_pos hc14.symm]
      refine OwnGo.of (A := T13.setTop (mkF m 60 #[.val (.int p0), .val (.int p1), .val (.int (p0 &&& (3 : Int32))), .val (.ref b2), .val (.int (own_whole b2 (0 : Int32) (p0 &&& (3 : Int32)))), .val (.int (own_whole b2 (0 : Int32) (p0 &&& (3 : Int32)))), .val (.int (1 : Int32))] [(.int (1 : Int32)), (.int (own_whole b2 (0 : Int32) (p0 &&& (3 : Int32))))])) (B := T13.setTop (mkF m 68 #[.val (.int p0), .val (.int p1), .val (.int (p0 &&& (3 : Int32))), .val (.ref b2), .val (.int (own_whole b2 (0 : Int32) (p0 &&& (3 : Int32)))), .val (.int (own_whole b2 (0 : Int32) (p0 &&& (3 : Int32)))), .val (.int (1 : Int32))] [(.int (1 : Int32))])) (fun t k => ?_) ?_
      · show Steps p.tables e below (T13.setTop (mkF m 60 #[.val (.int p0), .val (.int p1), .val (.int (p0 &&& (3 : Int32))), .val (.ref b2), .val (.int (own_whole b2 (0 : Int32) (p0 &&& (3 : Int32)))), .val (.int (own_whole b2 (0 : Int32) (p0 &&& (3 : Int32)))), .val (.int (1 : Int32))] [(.int (1 : Int32)), (.int (own_whole b2 (0 : Int32) (p0 &&& (3 : Int32))))])) t
        refine XS.icmpNo X13.here hx rfl (hb hby at_60) rfl (teq hc16).2 ?_
        show Steps p.tables e below (T13.setTop (mkF m 63 #[.val (.int p0), .val (.int p1), .val (.int (p0 &&& (3 : Int32))), .val (.ref b2), .val (.int (own_whole b2 (0 : Int32) (p0 &&& (3 : Int32)))), .val (.int (own_whole b2 (0 : Int32) (p0 &&& (3 : Int32)))), .val (.int (1 : Int32))] [])) t
        refine XS.iconst X13.here hx rfl (hb hby at_63) ?_
        show Steps p.tables e below (T13.setTop (mkF m 64 #[.val (.int p0), .val (.int p1), .val (.int (p0 &&& (3 : Int32))), .val (.ref b2), .val (.int (own_whole b2 (0 : Int32) (p0 &&& (3 : Int32)))), .val (.int (own_whole b2 (0 : Int32) (p0 &&& (3 : Int32)))), .val (.int (1 : Int32))] [(.int (1 : Int32))])) t
        refine XS.goto X13.here hx rfl (pc0 := 64) (pc' := 68) rfl (hb hby at_64) (by decide) (by decide) ?_
        exact k
      obtain ⟨fs, hr, hrun, hended, hW, hsame⟩ := X13.leave (v := some (.int (nar .boolean (1 : Int32)))) (fun h => by rw [Bd.returns] at h; cases h) hlk
      refine ⟨_, _, ?_, hrun, hended, _, _, rfl, ?_, ⟨_, rfl⟩, hW, hsame.mono (by decide) (by decide)⟩
      · show Steps p.tables e below (T13.setTop (mkF m 68 #[.val (.int p0), .val (.int p1), .val (.int (p0 &&& (3 : Int32))), .val (.ref b2), .val (.int (own_whole b2 (0 : Int32) (p0 &&& (3 : Int32)))), .val (.int (own_whole b2 (0 : Int32) (p0 &&& (3 : Int32)))), .val (.int (1 : Int32))] [(.int (1 : Int32))])) _
        exact retN X13 hx (t := .boolean) Bd.returns (by simp) (hb hby at_68) hr
      · show Qrm0 Z p0 p1 wD h0 n0 _ (T13.setFrames fs).heap _
        rw [show (T13.setFrames fs).heap = T8.heap from eq13]
        exact ⟨rfl, N13⟩
    · refine OwnGo.of (A := T13.setTop (mkF m 39 #[.val (.int p0), .val (.int p1), .val (.int (p0 &&& (3 : Int32))), .val (.ref b2), .val (.int (own_whole b2 (0 : Int32) (p0 &&& (3 : Int32)))), .val (.int (own_whole b2 (0 : Int32) (p0 &&& (3 : Int32)))), .unset] [(.int (p0 &&& (3 : Int32)))])) (B := T13.setTop (mkF m 53 #[.val (.int p0), .val (.int p1), .val (.int (p0 &&& (3 : Int32))), .val (.ref b2), .val (.int (own_whole b2 (0 : Int32) (p0 &&& (3 : Int32)))), .val (.int (own_whole b2 (0 : Int32) (p0 &&& (3 : Int32)))), .val (.int (0 : Int32))] [(.int (0 : Int32)), (.int (own_whole b2 (0 : Int32) (p0 &&& (3 : Int32))))])) (fun t k => ?_) ?_
      · show Steps p.tables e below (T13.setTop (mkF m 39 #[.val (.int p0), .val (.int p1), .val (.int (p0 &&& (3 : Int32))), .val (.ref b2), .val (.int (own_whole b2 (0 : Int32) (p0 &&& (3 : Int32)))), .val (.int (own_whole b2 (0 : Int32) (p0 &&& (3 : Int32)))), .unset] [(.int (p0 &&& (3 : Int32)))])) t
        refine XS.ifYes X13.here hx rfl (pc0 := 39) (pc' := 46) rfl (hb hby at_39) rfl ((if0 _ _).trans (feq hc14).2) (by decide) (by decide) ?_
        show Steps p.tables e below (T13.setTop (mkF m 46 #[.val (.int p0), .val (.int p1), .val (.int (p0 &&& (3 : Int32))), .val (.ref b2), .val (.int (own_whole b2 (0 : Int32) (p0 &&& (3 : Int32)))), .val (.int (own_whole b2 (0 : Int32) (p0 &&& (3 : Int32)))), .unset] [])) t
        refine XS.iconst X13.here hx rfl (hb hby at_46) ?_
        show Steps p.tables e below (T13.setTop (mkF m 47 #[.val (.int p0), .val (.int p1), .val (.int (p0 &&& (3 : Int32))), .val (.ref b2), .val (.int (own_whole b2 (0 : Int32) (p0 &&& (3 : Int32)))), .val (.int (own_whole b2 (0 : Int32) (p0 &&& (3 : Int32)))), .unset] [(.int (0 : Int32))])) t
        refine XS.istore X13.here hx rfl (hb hby at_47) rfl (l' := #[.val (.int p0), .val (.int p1), .val (.int (p0 &&& (3 : Int32))), .val (.ref b2), .val (.int (own_whole b2 (0 : Int32) (p0 &&& (3 : Int32)))), .val (.int (own_whole b2 (0 : Int32) (p0 &&& (3 : Int32)))), .val (.int (0 : Int32))]) rfl ?_
        show Steps p.tables e below (T13.setTop (mkF m 49 #[.val (.int p0), .val (.int p1), .val (.int (p0 &&& (3 : Int32))), .val (.ref b2), .val (.int (own_whole b2 (0 : Int32) (p0 &&& (3 : Int32)))), .val (.int (own_whole b2 (0 : Int32) (p0 &&& (3 : Int32)))), .val (.int (0 : Int32))] [])) t
        refine XS.iload X13.here hx rfl (hb hby at_49) rfl ?_
        show Steps p.tables e below (T13.setTop (mkF m 51 #[.val (.int p0), .val (.int p1), .val (.int (p0 &&& (3 : Int32))), .val (.ref b2), .val (.int (own_whole b2 (0 : Int32) (p0 &&& (3 : Int32)))), .val (.int (own_whole b2 (0 : Int32) (p0 &&& (3 : Int32)))), .val (.int (0 : Int32))] [(.int (own_whole b2 (0 : Int32) (p0 &&& (3 : Int32))))])) t
        refine XS.iload X13.here hx rfl (hb hby at_51) rfl ?_
        exact k
      have hc18 : (own_whole b2 (0 : Int32) (p0 &&& (3 : Int32))) = (0 : Int32) := by rw [own_whole, if_neg (fun q => hc14 q.symm)]
      refine OwnGo.of (A := T13.setTop (mkF m 53 #[.val (.int p0), .val (.int p1), .val (.int (p0 &&& (3 : Int32))), .val (.ref b2), .val (.int (own_whole b2 (0 : Int32) (p0 &&& (3 : Int32)))), .val (.int (own_whole b2 (0 : Int32) (p0 &&& (3 : Int32)))), .val (.int (0 : Int32))] [(.int (0 : Int32)), (.int (own_whole b2 (0 : Int32) (p0 &&& (3 : Int32))))])) (B := T13.setTop (mkF m 60 #[.val (.int p0), .val (.int p1), .val (.int (p0 &&& (3 : Int32))), .val (.ref b2), .val (.int (own_whole b2 (0 : Int32) (p0 &&& (3 : Int32)))), .val (.int (own_whole b2 (0 : Int32) (p0 &&& (3 : Int32)))), .val (.int (0 : Int32))] [(.int (0 : Int32)), (.int (own_whole b2 (0 : Int32) (p0 &&& (3 : Int32))))])) (fun t k => ?_) ?_
      · show Steps p.tables e below (T13.setTop (mkF m 53 #[.val (.int p0), .val (.int p1), .val (.int (p0 &&& (3 : Int32))), .val (.ref b2), .val (.int (own_whole b2 (0 : Int32) (p0 &&& (3 : Int32)))), .val (.int (own_whole b2 (0 : Int32) (p0 &&& (3 : Int32)))), .val (.int (0 : Int32))] [(.int (0 : Int32)), (.int (own_whole b2 (0 : Int32) (p0 &&& (3 : Int32))))])) t
        refine XS.icmpNo X13.here hx rfl (hb hby at_53) rfl (teq hc18).2 ?_
        show Steps p.tables e below (T13.setTop (mkF m 56 #[.val (.int p0), .val (.int p1), .val (.int (p0 &&& (3 : Int32))), .val (.ref b2), .val (.int (own_whole b2 (0 : Int32) (p0 &&& (3 : Int32)))), .val (.int (own_whole b2 (0 : Int32) (p0 &&& (3 : Int32)))), .val (.int (0 : Int32))] [])) t
        refine XS.iload X13.here hx rfl (hb hby at_56) rfl ?_
        show Steps p.tables e below (T13.setTop (mkF m 58 #[.val (.int p0), .val (.int p1), .val (.int (p0 &&& (3 : Int32))), .val (.ref b2), .val (.int (own_whole b2 (0 : Int32) (p0 &&& (3 : Int32)))), .val (.int (own_whole b2 (0 : Int32) (p0 &&& (3 : Int32)))), .val (.int (0 : Int32))] [(.int (own_whole b2 (0 : Int32) (p0 &&& (3 : Int32))))])) t
        refine XS.iload X13.here hx rfl (hb hby at_58) rfl ?_
        exact k
      have hc19 : (own_whole b2 (0 : Int32) (p0 &&& (3 : Int32))) = (0 : Int32) := by rw [own_whole, if_neg (fun q => hc14 q.symm)]
      refine OwnGo.of (A := T13.setTop (mkF m 60 #[.val (.int p0), .val (.int p1), .val (.int (p0 &&& (3 : Int32))), .val (.ref b2), .val (.int (own_whole b2 (0 : Int32) (p0 &&& (3 : Int32)))), .val (.int (own_whole b2 (0 : Int32) (p0 &&& (3 : Int32)))), .val (.int (0 : Int32))] [(.int (0 : Int32)), (.int (own_whole b2 (0 : Int32) (p0 &&& (3 : Int32))))])) (B := T13.setTop (mkF m 68 #[.val (.int p0), .val (.int p1), .val (.int (p0 &&& (3 : Int32))), .val (.ref b2), .val (.int (own_whole b2 (0 : Int32) (p0 &&& (3 : Int32)))), .val (.int (own_whole b2 (0 : Int32) (p0 &&& (3 : Int32)))), .val (.int (0 : Int32))] [(.int (1 : Int32))])) (fun t k => ?_) ?_
      · show Steps p.tables e below (T13.setTop (mkF m 60 #[.val (.int p0), .val (.int p1), .val (.int (p0 &&& (3 : Int32))), .val (.ref b2), .val (.int (own_whole b2 (0 : Int32) (p0 &&& (3 : Int32)))), .val (.int (own_whole b2 (0 : Int32) (p0 &&& (3 : Int32)))), .val (.int (0 : Int32))] [(.int (0 : Int32)), (.int (own_whole b2 (0 : Int32) (p0 &&& (3 : Int32))))])) t
        refine XS.icmpNo X13.here hx rfl (hb hby at_60) rfl (teq hc19).2 ?_
        show Steps p.tables e below (T13.setTop (mkF m 63 #[.val (.int p0), .val (.int p1), .val (.int (p0 &&& (3 : Int32))), .val (.ref b2), .val (.int (own_whole b2 (0 : Int32) (p0 &&& (3 : Int32)))), .val (.int (own_whole b2 (0 : Int32) (p0 &&& (3 : Int32)))), .val (.int (0 : Int32))] [])) t
        refine XS.iconst X13.here hx rfl (hb hby at_63) ?_
        show Steps p.tables e below (T13.setTop (mkF m 64 #[.val (.int p0), .val (.int p1), .val (.int (p0 &&& (3 : Int32))), .val (.ref b2), .val (.int (own_whole b2 (0 : Int32) (p0 &&& (3 : Int32)))), .val (.int (own_whole b2 (0 : Int32) (p0 &&& (3 : Int32)))), .val (.int (0 : Int32))] [(.int (1 : Int32))])) t
        refine XS.goto X13.here hx rfl (pc0 := 64) (pc' := 68) rfl (hb hby at_64) (by decide) (by decide) ?_
        exact k
      obtain ⟨fs, hr, hrun, hended, hW, hsame⟩ := X13.leave (v := some (.int (nar .boolean (1 : Int32)))) (fun h => by rw [Bd.returns] at h; cases h) hlk
      refine ⟨_, _, ?_, hrun, hended, _, _, rfl, ?_, ⟨_, rfl⟩, hW, hsame.mono (by decide) (by decide)⟩
      · show Steps p.tables e below (T13.setTop (mkF m 68 #[.val (.int p0), .val (.int p1), .val (.int (p0 &&& (3 : Int32))), .val (.ref b2), .val (.int (own_whole b2 (0 : Int32) (p0 &&& (3 : Int32)))), .val (.int (own_whole b2 (0 : Int32) (p0 &&& (3 : Int32)))), .val (.int (0 : Int32))] [(.int (1 : Int32))])) _
        exact retN X13 hx (t := .boolean) Bd.returns (by simp) (hb hby at_68) hr
      · show Qrm0 Z p0 p1 wD h0 n0 _ (T13.setFrames fs).heap _
        rw [show (T13.setFrames fs).heap = T8.heap from eq13]
        exact ⟨rfl, N13⟩
  · refine OwnGo.of (A := s₁.setTop (mkF m 3 #[.val (.int p0), .val (.int p1), .unset, .unset, .unset, .unset, .unset] [(.int (p1 &&& (1 : Int32)))])) (B := s₁.setTop (mkF m 17 #[.val (.int p0), .val (.int p1), .val (.int (p0 &&& (2147483647 : Int32))), .unset, .unset, .unset, .unset] [])) (fun t k => ?_) ?_
    · show Steps p.tables e below (s₁.setTop (mkF m 3 #[.val (.int p0), .val (.int p1), .unset, .unset, .unset, .unset, .unset] [(.int (p1 &&& (1 : Int32)))])) t
      refine XS.ifNo X0.here hx rfl (hb hby at_3) rfl ((if0 _ _).trans (feq hc1).1) ?_
      show Steps p.tables e below (s₁.setTop (mkF m 6 #[.val (.int p0), .val (.int p1), .unset, .unset, .unset, .unset, .unset] [])) t
      refine XS.iloadN X0.here hx rfl (hb hby at_6) rfl ?_
      show Steps p.tables e below (s₁.setTop (mkF m 7 #[.val (.int p0), .val (.int p1), .unset, .unset, .unset, .unset, .unset] [(.int p0)])) t
      refine X0.ldcInt hx hown (mvT hZ (hw _ (List.mem_of_getElem? (i := 0) rfl))) (g := (mkF m 7 #[.val (.int p0), .val (.int p1), .unset, .unset, .unset, .unset, .unset] [(.int p0)])) rfl (hb hby at_7) _ ?_
      show Steps p.tables e below (s₁.setTop (mkF m 9 #[.val (.int p0), .val (.int p1), .unset, .unset, .unset, .unset, .unset] [(.int (2147483647 : Int32)), (.int p0)])) t
      refine XS.iand X0.here hx rfl (hb hby at_9) rfl ?_
      show Steps p.tables e below (s₁.setTop (mkF m 10 #[.val (.int p0), .val (.int p1), .unset, .unset, .unset, .unset, .unset] [(.int (p0 &&& (2147483647 : Int32)))])) t
      refine XS.goto X0.here hx rfl (pc0 := 10) (pc' := 16) rfl (hb hby at_10) (by decide) (by decide) ?_
      show Steps p.tables e below (s₁.setTop (mkF m 16 #[.val (.int p0), .val (.int p1), .unset, .unset, .unset, .unset, .unset] [(.int (p0 &&& (2147483647 : Int32)))])) t
      refine XS.istoreN X0.here hx rfl (hb hby at_16) rfl (l' := #[.val (.int p0), .val (.int p1), .val (.int (p0 &&& (2147483647 : Int32))), .unset, .unset, .unset, .unset]) rfl ?_
      exact k
    obtain ⟨T21, h21, X21, e21, E21, A21, D21, -, st21⟩ := newO X0 hx hZ hown (hw _ (List.mem_of_getElem? (i := 1) rfl)) (hw _ (List.mem_of_getElem? (i := 2) rfl)) (hw _ (List.mem_of_getElem? (i := 3) rfl)) e0 (g := (mkF m 17 #[.val (.int p0), .val (.int p1), .val (.int (p0 &&& (2147483647 : Int32))), .unset, .unset, .unset, .unset] [])) rfl (hb hby at_17) (by decide) (by decide)
    obtain ⟨b21, g21⟩ : ∃ z, z = h0.size := ⟨_, rfl⟩
    rw [← g21] at A21 D21 st21
    refine OwnGo.of st21 ?_
    have g_b21 : n0 ≤ b21 := Nat.le_trans Z0 (Nat.le_of_eq g21.symm)
    have f22 : n0 ≤ h21.size := Nat.le_trans Z0 E21.1
    have f23 : Sta Z h21 "java/util/ArrayList" "DEFAULTCAPACITY_EMPTY_ELEMENTDATA" "[Ljava/lang/Object;" (.ref wD) := S_DEFAULTCAPACITY_EMPTY_ELEMENTDATA.ext E21
    have f24 : Fld Z h21 b21 "com/example/map_of_brokers/mapofbrokers/kafka/ArrivingFrame" "pieces" "Ljava/util/List;" .null := D21 (Or.inr (hw _ (List.mem_of_getElem? (i := 35) rfl))) (ty := (.object "java/util/List")) (by decide)
    have f25 : Fld Z h21 b21 "com/example/map_of_brokers/mapofbrokers/kafka/ArrivingFrame" "length" "I" (.int (0 : Int32)) := D21 (Or.inr (hw _ (List.mem_of_getElem? (i := 37) rfl))) (ty := .int) (by decide)
    have f26 : Fld Z h21 b21 "com/example/map_of_brokers/mapofbrokers/kafka/ArrivingFrame" "received" "I" (.int (0 : Int32)) := D21 (Or.inl (hw _ (List.mem_of_getElem? (i := 44) rfl))) (ty := .int) (by decide)
    show OwnGo p.tables e below _ (T21.setTop (mkF m 20 #[.val (.int p0), .val (.int p1), .val (.int (p0 &&& (2147483647 : Int32))), .unset, .unset, .unset, .unset] [(.ref b21)]))
    refine OwnGo.of (A := T21.setTop (mkF m 20 #[.val (.int p0), .val (.int p1), .val (.int (p0 &&& (2147483647 : Int32))), .unset, .unset, .unset, .unset] [(.ref b21)])) (B := T21.setTop (mkF m 22 #[.val (.int p0), .val (.int p1), .val (.int (p0 &&& (2147483647 : Int32))), .unset, .unset, .unset, .unset] [(.int (p0 &&& (2147483647 : Int32))), (.ref b21), (.ref b21)])) (fun t k => ?_) ?_
    · show Steps p.tables e below (T21.setTop (mkF m 20 #[.val (.int p0), .val (.int p1), .val (.int (p0 &&& (2147483647 : Int32))), .unset, .unset, .unset, .unset] [(.ref b21)])) t
      refine XS.dup X21.here hx rfl (hb hby at_20) rfl rfl ?_
      show Steps p.tables e below (T21.setTop (mkF m 21 #[.val (.int p0), .val (.int p1), .val (.int (p0 &&& (2147483647 : Int32))), .unset, .unset, .unset, .unset] [(.ref b21), (.ref b21)])) t
      refine XS.iloadN X21.here hx rfl (hb hby at_21) rfl ?_
      exact k
    obtain ⟨_, _, ⟨T27, L27, k27, n27⟩, -, X27, ⟨Lc27, hQ27, l27, y27, z27⟩, st27⟩ := X21.specialBack hx (y := (⟨"com/example/map_of_brokers/mapofbrokers/kafka/ArrivingFrame", "<init>", "(I)V"⟩ : MethodName)) rfl hown (mvT hZ (hw _ (List.mem_of_getElem? (i := 4) rfl))) (mvT hZ (hw _ (List.mem_of_getElem? (i := 5) rfl))) (mvT hZ (hw _ (List.mem_of_getElem? (i := 6) rfl))) (by decide) (backOf (W := 1) (rm1 l Z aw hw [] b21 (p0 &&& (2147483647 : Int32)) wD h21 n0 f22 A21 f24 f25 f26 g_b21 f23) hZ (hw _ (List.mem_of_getElem? (i := 6) rfl)) (hw _ (List.mem_of_getElem? (i := 3) rfl)) (by decide) (by decide)) (g := (mkF m 22 #[.val (.int p0), .val (.int p1), .val (.int (p0 &&& (2147483647 : Int32))), .unset, .unset, .unset, .unset] [(.int (p0 &&& (2147483647 : Int32))), (.ref b21), (.ref b21)])) rfl (by rw [hml]; rfl) (Steps.refl _) (a := b21) (argsL := [(.int (p0 &&& (2147483647 : Int32)))]) (rest := [(.ref b21)]) (lenOf pd_5 rfl) rfl (by show 2 * 0 + _ ≤ _; exact Nat.le_of_eq rfl) (hb hby at_22) (fun _ _ => ⟨rfl, e21, (by decide : 1 + 1 ≤ _), (by decide : 3 + 3 ≤ _)⟩)
    dsimp only [Pt.U, Pt.locs, Pt.cells, Pt.slots] at X27 l27 y27 z27 st27 hQ27
    subst l27 y27 z27
    obtain ⟨rfl, N27q, K27, y27_0, y27_1, y27_2⟩ := hQ27
    have f28 : n0 ≤ T27.heap.size := Nat.le_trans f22 K27.1
    have f29 : Sta Z T27.heap "java/util/ArrayList" "DEFAULTCAPACITY_EMPTY_ELEMENTDATA" "[Ljava/lang/Object;" (.ref wD) := own_sta_keep f23 K27 (allS (own_ns_exa A21) all0)
    have f30 : Exa Z T27.heap b21 "com/example/map_of_brokers/mapofbrokers/kafka/ArrivingFrame" := A21.keep K27
    have N27 := Fr.app N0 N27q
    refine OwnGo.of (fun t k => st27.trans k) ?_
    show OwnGo p.tables e below _ (T27.setTop (mkF m 25 #[.val (.int p0), .val (.int p1), .val (.int (p0 &&& (2147483647 : Int32))), .unset, .unset, .unset, .unset] [(.ref b21)]))
    refine OwnGo.of (A := T27.setTop (mkF m 25 #[.val (.int p0), .val (.int p1), .val (.int (p0 &&& (2147483647 : Int32))), .unset, .unset, .unset, .unset] [(.ref b21)])) (B := T27.setTop (mkF m 27 #[.val (.int p0), .val (.int p1), .val (.int (p0 &&& (2147483647 : Int32))), .val (.ref b21), .unset, .unset, .unset] [(.ref b21)])) (fun t k => ?_) ?_
    · show Steps p.tables e below (T27.setTop (mkF m 25 #[.val (.int p0), .val (.int p1), .val (.int (p0 &&& (2147483647 : Int32))), .unset, .unset, .unset, .unset] [(.ref b21)])) t
      refine XS.astoreN X27.here hx rfl (hb hby at_25) rfl rfl (l' := #[.val (.int p0), .val (.int p1), .val (.int (p0 &&& (2147483647 : Int32))), .val (.ref b21), .unset, .unset, .unset]) rfl ?_
      show Steps p.tables e below (T27.setTop (mkF m 26 #[.val (.int p0), .val (.int p1), .val (.int (p0 &&& (2147483647 : Int32))), .val (.ref b21), .unset, .unset, .unset] [])) t
      refine XS.aloadN X27.here hx rfl (hb hby at_26) rfl rfl ?_
      exact k
    obtain ⟨cq31, kq31, q31a, q31b, q31c⟩ := isOf hZ rfl y27_0
    obtain ⟨_, _, ⟨T31, L31, k31, n31⟩, -, X31, ⟨Lc31, hQ31, l31, y31, z31⟩, st31⟩ := X27.virtualBack hx (y := (⟨"com/example/map_of_brokers/mapofbrokers/kafka/ArrivingFrame", "isWhole", "()Z"⟩ : MethodName)) (z := (⟨"com/example/map_of_brokers/mapofbrokers/kafka/ArrivingFrame", "isWhole", "()Z"⟩ : MethodName)) hown (mvT hZ (hw _ (List.mem_of_getElem? (i := 38) rfl))) (mvT hZ (hw _ (List.mem_of_getElem? (i := 39) rfl))) (notFace_of_selects (args := #[]) (mvT hZ (hw _ (List.mem_of_getElem? (i := 41) rfl)))) (mvT hZ (hw _ (List.mem_of_getElem? (i := 41) rfl))) (mvT hZ (hw _ (List.mem_of_getElem? (i := 40) rfl))) (by decide) (backOf (W := 0) (rm6 l Z aw hw [] b21 (0 : Int32) (p0 &&& (2147483647 : Int32)) T27.heap n0 f28 y27_2 y27_1) hZ (hw _ (List.mem_of_getElem? (i := 42) rfl)) (hw _ (List.mem_of_getElem? (i := 3) rfl)) (by decide) (by decide)) q31a q31c (g := (mkF m 27 #[.val (.int p0), .val (.int p1), .val (.int (p0 &&& (2147483647 : Int32))), .val (.ref b21), .unset, .unset, .unset] [(.ref b21)])) rfl (by rw [hml]; rfl) (Steps.refl _) (argsL := []) (rest := []) (lenOf pd_6 rfl) rfl (by show 2 * 0 + _ ≤ _; exact Nat.le_of_eq rfl) (hb hby at_27) (fun _ _ => ⟨rfl, rfl, (by decide : 2 + 0 ≤ _), (by decide : 6 + 0 ≤ _)⟩)
    dsimp only [Pt.U, Pt.locs, Pt.cells, Pt.slots] at X31 l31 y31 z31 st31 hQ31
    subst l31 y31 z31
    obtain ⟨rfl, N31q, eq31⟩ := hQ31
    have N31 := Fr.app N27 N31q
    refine OwnGo.of (fun t k => st31.trans k) ?_
    show OwnGo p.tables e below _ (T31.setTop (mkF m 30 #[.val (.int p0), .val (.int p1), .val (.int (p0 &&& (2147483647 : Int32))), .val (.ref b21), .unset, .unset, .unset] [(.int (own_whole b21 (0 : Int32) (p0 &&& (2147483647 : Int32))))]))
    refine OwnGo.of (A := T31.setTop (mkF m 30 #[.val (.int p0), .val (.int p1), .val (.int (p0 &&& (2147483647 : Int32))), .val (.ref b21), .unset, .unset, .unset] [(.int (own_whole b21 (0 : Int32) (p0 &&& (2147483647 : Int32))))])) (B := T31.setTop (mkF m 33 #[.val (.int p0), .val (.int p1), .val (.int (p0 &&& (2147483647 : Int32))), .val (.ref b21), .val (.int (own_whole b21 (0 : Int32) (p0 &&& (2147483647 : Int32)))), .unset, .unset] [(.ref b21)])) (fun t k => ?_) ?_
    · show Steps p.tables e below (T31.setTop (mkF m 30 #[.val (.int p0), .val (.int p1), .val (.int (p0 &&& (2147483647 : Int32))), .val (.ref b21), .unset, .unset, .unset] [(.int (own_whole b21 (0 : Int32) (p0 &&& (2147483647 : Int32))))])) t
      refine XS.istore X31.here hx rfl (hb hby at_30) rfl (l' := #[.val (.int p0), .val (.int p1), .val (.int (p0 &&& (2147483647 : Int32))), .val (.ref b21), .val (.int (own_whole b21 (0 : Int32) (p0 &&& (2147483647 : Int32)))), .unset, .unset]) rfl ?_
      show Steps p.tables e below (T31.setTop (mkF m 32 #[.val (.int p0), .val (.int p1), .val (.int (p0 &&& (2147483647 : Int32))), .val (.ref b21), .val (.int (own_whole b21 (0 : Int32) (p0 &&& (2147483647 : Int32)))), .unset, .unset] [])) t
      refine XS.aloadN X31.here hx rfl (hb hby at_32) rfl rfl ?_
      exact k
    obtain ⟨cq32, kq32, q32a, q32b, q32c⟩ := isOf hZ eq31 y27_0
    obtain ⟨_, _, ⟨T32, L32, k32, n32⟩, -, X32, ⟨Lc32, hQ32, l32, y32, z32⟩, st32⟩ := X31.virtualBack hx (y := (⟨"com/example/map_of_brokers/mapofbrokers/kafka/ArrivingFrame", "isWhole", "()Z"⟩ : MethodName)) (z := (⟨"com/example/map_of_brokers/mapofbrokers/kafka/ArrivingFrame", "isWhole", "()Z"⟩ : MethodName)) hown (mvT hZ (hw _ (List.mem_of_getElem? (i := 38) rfl))) (mvT hZ (hw _ (List.mem_of_getElem? (i := 39) rfl))) (notFace_of_selects (args := #[]) (mvT hZ (hw _ (List.mem_of_getElem? (i := 41) rfl)))) (mvT hZ (hw _ (List.mem_of_getElem? (i := 41) rfl))) (mvT hZ (hw _ (List.mem_of_getElem? (i := 40) rfl))) (by decide) (backOf (W := 0) (rm6 l Z aw hw [] b21 (0 : Int32) (p0 &&& (2147483647 : Int32)) T27.heap n0 f28 y27_2 y27_1) hZ (hw _ (List.mem_of_getElem? (i := 42) rfl)) (hw _ (List.mem_of_getElem? (i := 3) rfl)) (by decide) (by decide)) q32a q32c (g := (mkF m 33 #[.val (.int p0), .val (.int p1), .val (.int (p0 &&& (2147483647 : Int32))), .val (.ref b21), .val (.int (own_whole b21 (0 : Int32) (p0 &&& (2147483647 : Int32)))), .unset, .unset] [(.ref b21)])) rfl (by rw [hml]; rfl) (Steps.refl _) (argsL := []) (rest := []) (lenOf pd_6 rfl) rfl (by show 2 * 0 + _ ≤ _; exact Nat.le_of_eq rfl) (hb hby at_33) (fun _ _ => ⟨rfl, eq31, (by decide : 2 + 0 ≤ _), (by decide : 6 + 0 ≤ _)⟩)
    dsimp only [Pt.U, Pt.locs, Pt.cells, Pt.slots] at X32 l32 y32 z32 st32 hQ32
    subst l32 y32 z32
    obtain ⟨rfl, N32q, eq32⟩ := hQ32
    have N32 := Fr.app N31 N32q
    refine OwnGo.of (fun t k => st32.trans k) ?_
    show OwnGo p.tables e below _ (T32.setTop (mkF m 36 #[.val (.int p0), .val (.int p1), .val (.int (p0 &&& (2147483647 : Int32))), .val (.ref b21), .val (.int (own_whole b21 (0 : Int32) (p0 &&& (2147483647 : Int32)))), .unset, .unset] [(.int (own_whole b21 (0 : Int32) (p0 &&& (2147483647 : Int32))))]))
    refine OwnGo.of (A := T32.setTop (mkF m 36 #[.val (.int p0), .val (.int p1), .val (.int (p0 &&& (2147483647 : Int32))), .val (.ref b21), .val (.int (own_whole b21 (0 : Int32) (p0 &&& (2147483647 : Int32)))), .unset, .unset] [(.int (own_whole b21 (0 : Int32) (p0 &&& (2147483647 : Int32))))])) (B := T32.setTop (mkF m 39 #[.val (.int p0), .val (.int p1), .val (.int (p0 &&& (2147483647 : Int32))), .val (.ref b21), .val (.int (own_whole b21 (0 : Int32) (p0 &&& (2147483647 : Int32)))), .val (.int (own_whole b21 (0 : Int32) (p0 &&& (2147483647 : Int32)))), .unset] [(.int (p0 &&& (2147483647 : Int32)))])) (fun t k => ?_) ?_
    · show Steps p.tables e below (T32.setTop (mkF m 36 #[.val (.int p0), .val (.int p1), .val (.int (p0 &&& (2147483647 : Int32))), .val (.ref b21), .val (.int (own_whole b21 (0 : Int32) (p0 &&& (2147483647 : Int32)))), .unset, .unset] [(.int (own_whole b21 (0 : Int32) (p0 &&& (2147483647 : Int32))))])) t
      refine XS.istore X32.here hx rfl (hb hby at_36) rfl (l' := #[.val (.int p0), .val (.int p1), .val (.int (p0 &&& (2147483647 : Int32))), .val (.ref b21), .val (.int (own_whole b21 (0 : Int32) (p0 &&& (2147483647 : Int32)))), .val (.int (own_whole b21 (0 : Int32) (p0 &&& (2147483647 : Int32)))), .unset]) rfl ?_
      show Steps p.tables e below (T32.setTop (mkF m 38 #[.val (.int p0), .val (.int p1), .val (.int (p0 &&& (2147483647 : Int32))), .val (.ref b21), .val (.int (own_whole b21 (0 : Int32) (p0 &&& (2147483647 : Int32)))), .val (.int (own_whole b21 (0 : Int32) (p0 &&& (2147483647 : Int32)))), .unset] [])) t
      refine XS.iloadN X32.here hx rfl (hb hby at_38) rfl ?_
      exact k
    by_cases hc33 : (p0 &&& (2147483647 : Int32)) = (0 : Int32)
    · refine OwnGo.of (A := T32.setTop (mkF m 39 #[.val (.int p0), .val (.int p1), .val (.int (p0 &&& (2147483647 : Int32))), .val (.ref b21), .val (.int (own_whole b21 (0 : Int32) (p0 &&& (2147483647 : Int32)))), .val (.int (own_whole b21 (0 : Int32) (p0 &&& (2147483647 : Int32)))), .unset] [(.int (p0 &&& (2147483647 : Int32)))])) (B := T32.setTop (mkF m 53 #[.val (.int p0), .val (.int p1), .val (.int (p0 &&& (2147483647 : Int32))), .val (.ref b21), .val (.int (own_whole b21 (0 : Int32) (p0 &&& (2147483647 : Int32)))), .val (.int (own_whole b21 (0 : Int32) (p0 &&& (2147483647 : Int32)))), .val (.int (1 : Int32))] [(.int (1 : Int32)), (.int (own_whole b21 (0 : Int32) (p0 &&& (2147483647 : Int32))))])) (fun t k => ?_) ?_
      · show Steps p.tables e below (T32.setTop (mkF m 39 #[.val (.int p0), .val (.int p1), .val (.int (p0 &&& (2147483647 : Int32))), .val (.ref b21), .val (.int (own_whole b21 (0 : Int32) (p0 &&& (2147483647 : Int32)))), .val (.int (own_whole b21 (0 : Int32) (p0 &&& (2147483647 : Int32)))), .unset] [(.int (p0 &&& (2147483647 : Int32)))])) t
        refine XS.ifNo X32.here hx rfl (hb hby at_39) rfl ((if0 _ _).trans (teq hc33).2) ?_
        show Steps p.tables e below (T32.setTop (mkF m 42 #[.val (.int p0), .val (.int p1), .val (.int (p0 &&& (2147483647 : Int32))), .val (.ref b21), .val (.int (own_whole b21 (0 : Int32) (p0 &&& (2147483647 : Int32)))), .val (.int (own_whole b21 (0 : Int32) (p0 &&& (2147483647 : Int32)))), .unset] [])) t
        refine XS.iconst X32.here hx rfl (hb hby at_42) ?_
        show Steps p.tables e below (T32.setTop (mkF m 43 #[.val (.int p0), .val (.int p1), .val (.int (p0 &&& (2147483647 : Int32))), .val (.ref b21), .val (.int (own_whole b21 (0 : Int32) (p0 &&& (2147483647 : Int32)))), .val (.int (own_whole b21 (0 : Int32) (p0 &&& (2147483647 : Int32)))), .unset] [(.int (1 : Int32))])) t
        refine XS.goto X32.here hx rfl (pc0 := 43) (pc' := 47) rfl (hb hby at_43) (by decide) (by decide) ?_
        show Steps p.tables e below (T32.setTop (mkF m 47 #[.val (.int p0), .val (.int p1), .val (.int (p0 &&& (2147483647 : Int32))), .val (.ref b21), .val (.int (own_whole b21 (0 : Int32) (p0 &&& (2147483647 : Int32)))), .val (.int (own_whole b21 (0 : Int32) (p0 &&& (2147483647 : Int32)))), .unset] [(.int (1 : Int32))])) t
        refine XS.istore X32.here hx rfl (hb hby at_47) rfl (l' := #[.val (.int p0), .val (.int p1), .val (.int (p0 &&& (2147483647 : Int32))), .val (.ref b21), .val (.int (own_whole b21 (0 : Int32) (p0 &&& (2147483647 : Int32)))), .val (.int (own_whole b21 (0 : Int32) (p0 &&& (2147483647 : Int32)))), .val (.int (1 : Int32))]) rfl ?_
        show Steps p.tables e below (T32.setTop (mkF m 49 #[.val (.int p0), .val (.int p1), .val (.int (p0 &&& (2147483647 : Int32))), .val (.ref b21), .val (.int (own_whole b21 (0 : Int32) (p0 &&& (2147483647 : Int32)))), .val (.int (own_whole b21 (0 : Int32) (p0 &&& (2147483647 : Int32)))), .val (.int (1 : Int32))] [])) t
        refine XS.iload X32.here hx rfl (hb hby at_49) rfl ?_
        show Steps p.tables e below (T32.setTop (mkF m 51 #[.val (.int p0), .val (.int p1), .val (.int (p0 &&& (2147483647 : Int32))), .val (.ref b21), .val (.int (own_whole b21 (0 : Int32) (p0 &&& (2147483647 : Int32)))), .val (.int (own_whole b21 (0 : Int32) (p0 &&& (2147483647 : Int32)))), .val (.int (1 : Int32))] [(.int (own_whole b21 (0 : Int32) (p0 &&& (2147483647 : Int32))))])) t
        refine XS.iload X32.here hx rfl (hb hby at_51) rfl ?_
        exact k
      have hc34 : (own_whole b21 (0 : Int32) (p0 &&& (2147483647 : Int32))) = (1 : Int32) := by rw [own_whole, if_pos hc33.symm]
      refine OwnGo.of (A := T32.setTop (mkF m 53 #[.val (.int p0), .val (.int p1), .val (.int (p0 &&& (2147483647 : Int32))), .val (.ref b21), .val (.int (own_whole b21 (0 : Int32) (p0 &&& (2147483647 : Int32)))), .val (.int (own_whole b21 (0 : Int32) (p0 &&& (2147483647 : Int32)))), .val (.int (1 : Int32))] [(.int (1 : Int32)), (.int (own_whole b21 (0 : Int32) (p0 &&& (2147483647 : Int32))))])) (B := T32.setTop (mkF m 60 #[.val (.int p0), .val (.int p1), .val (.int (p0 &&& (2147483647 : Int32))), .val (.ref b21), .val (.int (own_whole b21 (0 : Int32) (p0 &&& (2147483647 : Int32)))), .val (.int (own_whole b21 (0 : Int32) (p0 &&& (2147483647 : Int32)))), .val (.int (1 : Int32))] [(.int (1 : Int32)), (.int (own_whole b21 (0 : Int32) (p0 &&& (2147483647 : Int32))))])) (fun t k => ?_) ?_
      · show Steps p.tables e below (T32.setTop (mkF m 53 #[.val (.int p0), .val (.int p1), .val (.int (p0 &&& (2147483647 : Int32))), .val (.ref b21), .val (.int (own_whole b21 (0 : Int32) (p0 &&& (2147483647 : Int32)))), .val (.int (own_whole b21 (0 : Int32) (p0 &&& (2147483647 : Int32)))), .val (.int (1 : Int32))] [(.int (1 : Int32)), (.int (own_whole b21 (0 : Int32) (p0 &&& (2147483647 : Int32))))])) t
        refine XS.icmpNo X32.here hx rfl (hb hby at_53) rfl (teq hc34).2 ?_
        show Steps p.tables e below (T32.setTop (mkF m 56 #[.val (.int p0), .val (.int p1), .val (.int (p0 &&& (2147483647 : Int32))), .val (.ref b21), .val (.int (own_whole b21 (0 : Int32) (p0 &&& (2147483647 : Int32)))), .val (.int (own_whole b21 (0 : Int32) (p0 &&& (2147483647 : Int32)))), .val (.int (1 : Int32))] [])) t
        refine XS.iload X32.here hx rfl (hb hby at_56) rfl ?_
        show Steps p.tables e below (T32.setTop (mkF m 58 #[.val (.int p0), .val (.int p1), .val (.int (p0 &&& (2147483647 : Int32))), .val (.ref b21), .val (.int (own_whole b21 (0 : Int32) (p0 &&& (2147483647 : Int32)))), .val (.int (own_whole b21 (0 : Int32) (p0 &&& (2147483647 : Int32)))), .val (.int (1 : Int32))] [(.int (own_whole b21 (0 : Int32) (p0 &&& (2147483647 : Int32))))])) t
        refine XS.iload X32.here hx rfl (hb hby at_58) rfl ?_
        exact k
      have hc35 : (own_whole b21 (0 : Int32) (p0 &&& (2147483647 : Int32))) = (1 : Int32) := by rw [own_whole, if_pos hc33.symm]
      refine OwnGo.of (A := T32.setTop (mkF m 60 #[.val (.int p0), .val (.int p1), .val (.int (p0 &&& (2147483647 : Int32))), .val (.ref b21), .val (.int (own_whole b21 (0 : Int32) (p0 &&& (2147483647 : Int32)))), .val (.int (own_whole b21 (0 : Int32) (p0 &&& (2147483647 : Int32)))), .val (.int (1 : Int32))] [(.int (1 : Int32)), (.int (own_whole b21 (0 : Int32) (p0 &&& (2147483647 : Int32))))])) (B := T32.setTop (mkF m 68 #[.val (.int p0), .val (.int p1), .val (.int (p0 &&& (2147483647 : Int32))), .val (.ref b21), .val (.int (own_whole b21 (0 : Int32) (p0 &&& (2147483647 : Int32)))), .val (.int (own_whole b21 (0 : Int32) (p0 &&& (2147483647 : Int32)))), .val (.int (1 : Int32))] [(.int (1 : Int32))])) (fun t k => ?_) ?_
      · show Steps p.tables e below (T32.setTop (mkF m 60 #[.val (.int p0), .val (.int p1), .val (.int (p0 &&& (2147483647 : Int32))), .val (.ref b21), .val (.int (own_whole b21 (0 : Int32) (p0 &&& (2147483647 : Int32)))), .val (.int (own_whole b21 (0 : Int32) (p0 &&& (2147483647 : Int32)))), .val (.int (1 : Int32))] [(.int (1 : Int32)), (.int (own_whole b21 (0 : Int32) (p0 &&& (2147483647 : Int32))))])) t
        refine XS.icmpNo X32.here hx rfl (hb hby at_60) rfl (teq hc35).2 ?_
        show Steps p.tables e below (T32.setTop (mkF m 63 #[.val (.int p0), .val (.int p1), .val (.int (p0 &&& (2147483647 : Int32))), .val (.ref b21), .val (.int (own_whole b21 (0 : Int32) (p0 &&& (2147483647 : Int32)))), .val (.int (own_whole b21 (0 : Int32) (p0 &&& (2147483647 : Int32)))), .val (.int (1 : Int32))] [])) t
        refine XS.iconst X32.here hx rfl (hb hby at_63) ?_
        show Steps p.tables e below (T32.setTop (mkF m 64 #[.val (.int p0), .val (.int p1), .val (.int (p0 &&& (2147483647 : Int32))), .val (.ref b21), .val (.int (own_whole b21 (0 : Int32) (p0 &&& (2147483647 : Int32)))), .val (.int (own_whole b21 (0 : Int32) (p0 &&& (2147483647 : Int32)))), .val (.int (1 : Int32))] [(.int (1 : Int32))])) t
        refine XS.goto X32.here hx rfl (pc0 := 64) (pc' := 68) rfl (hb hby at_64) (by decide) (by decide) ?_
        exact k
      obtain ⟨fs, hr, hrun, hended, hW, hsame⟩ := X32.leave (v := some (.int (nar .boolean (1 : Int32)))) (fun h => by rw [Bd.returns] at h; cases h) hlk
      refine ⟨_, _, ?_, hrun, hended, _, _, rfl, ?_, ⟨_, rfl⟩, hW, hsame.mono (by decide) (by decide)⟩
      · show Steps p.tables e below (T32.setTop (mkF m 68 #[.val (.int p0), .val (.int p1), .val (.int (p0 &&& (2147483647 : Int32))), .val (.ref b21), .val (.int (own_whole b21 (0 : Int32) (p0 &&& (2147483647 : Int32)))), .val (.int (own_whole b21 (0 : Int32) (p0 &&& (2147483647 : Int32)))), .val (.int (1 : Int32))] [(.int (1 : Int32))])) _
        exact retN X32 hx (t := .boolean) Bd.returns (by simp) (hb hby at_68) hr
      · show Qrm0 Z p0 p1 wD h0 n0 _ (T32.setFrames fs).heap _
        rw [show (T32.setFrames fs).heap = T27.heap from eq32]
        exact ⟨rfl, N32⟩
    · refine OwnGo.of (A := T32.setTop (mkF m 39 #[.val (.int p0), .val (.int p1), .val (.int (p0 &&& (2147483647 : Int32))), .val (.ref b21), .val (.int (own_whole b21 (0 : Int32) (p0 &&& (2147483647 : Int32)))), .val (.int (own_whole b21 (0 : Int32) (p0 &&& (2147483647 : Int32)))), .unset] [(.int (p0 &&& (2147483647 : Int32)))])) (B := T32.setTop (mkF m 53 #[.val (.int p0), .val (.int p1), .val (.int (p0 &&& (2147483647 : Int32))), .val (.ref b21), .val (.int (own_whole b21 (0 : Int32) (p0 &&& (2147483647 : Int32)))), .val (.int (own_whole b21 (0 : Int32) (p0 &&& (2147483647 : Int32)))), .val (.int (0 : Int32))] [(.int (0 : Int32)), (.int (own_whole b21 (0 : Int32) (p0 &&& (2147483647 : Int32))))])) (fun t k => ?_) ?_
      · show Steps p.tables e below (T32.setTop (mkF m 39 #[.val (.int p0), .val (.int p1), .val (.int (p0 &&& (2147483647 : Int32))), .val (.ref b21), .val (.int (own_whole b21 (0 : Int32) (p0 &&& (2147483647 : Int32)))), .val (.int (own_whole b21 (0 : Int32) (p0 &&& (2147483647 : Int32)))), .unset] [(.int (p0 &&& (2147483647 : Int32)))])) t
        refine XS.ifYes X32.here hx rfl (pc0 := 39) (pc' := 46) rfl (hb hby at_39) rfl ((if0 _ _).trans (feq hc33).2) (by decide) (by decide) ?_
        show Steps p.tables e below (T32.setTop (mkF m 46 #[.val (.int p0), .val (.int p1), .val (.int (p0 &&& (2147483647 : Int32))), .val (.ref b21), .val (.int (own_whole b21 (0 : Int32) (p0 &&& (2147483647 : Int32)))), .val (.int (own_whole b21 (0 : Int32) (p0 &&& (2147483647 : Int32)))), .unset] [])) t
        refine XS.iconst X32.here hx rfl (hb hby at_46) ?_
        show Steps p.tables e below (T32.setTop (mkF m 47 #[.val (.int p0), .val (.int p1), .val (.int (p0 &&& (2147483647 : Int32))), .val (.ref b21), .val (.int (own_whole b21 (0 : Int32) (p0 &&& (2147483647 : Int32)))), .val (.int (own_whole b21 (0 : Int32) (p0 &&& (2147483647 : Int32)))), .unset] [(.int (0 : Int32))])) t
        refine XS.istore X32.here hx rfl (hb hby at_47) rfl (l' := #[.val (.int p0), .val (.int p1), .val (.int (p0 &&& (2147483647 : Int32))), .val (.ref b21), .val (.int (own_whole b21 (0 : Int32) (p0 &&& (2147483647 : Int32)))), .val (.int (own_whole b21 (0 : Int32) (p0 &&& (2147483647 : Int32)))), .val (.int (0 : Int32))]) rfl ?_
        show Steps p.tables e below (T32.setTop (mkF m 49 #[.val (.int p0), .val (.int p1), .val (.int (p0 &&& (2147483647 : Int32))), .val (.ref b21), .val (.int (own_whole b21 (0 : Int32) (p0 &&& (2147483647 : Int32)))), .val (.int (own_whole b21 (0 : Int32) (p0 &&& (2147483647 : Int32)))), .val (.int (0 : Int32))] [])) t
        refine XS.iload X32.here hx rfl (hb hby at_49) rfl ?_
        show Steps p.tables e below (T32.setTop (mkF m 51 #[.val (.int p0), .val (.int p1), .val (.int (p0 &&& (2147483647 : Int32))), .val (.ref b21), .val (.int (own_whole b21 (0 : Int32) (p0 &&& (2147483647 : Int32)))), .val (.int (own_whole b21 (0 : Int32) (p0 &&& (2147483647 : Int32)))), .val (.int (0 : Int32))] [(.int (own_whole b21 (0 : Int32) (p0 &&& (2147483647 : Int32))))])) t
        refine XS.iload X32.here hx rfl (hb hby at_51) rfl ?_
        exact k
      have hc37 : (own_whole b21 (0 : Int32) (p0 &&& (2147483647 : Int32))) = (0 : Int32) := by rw [own_whole, if_neg (fun q => hc33 q.symm)]
      refine OwnGo.of (A := T32.setTop (mkF m 53 #[.val (.int p0), .val (.int p1), .val (.int (p0 &&& (2147483647 : Int32))), .val (.ref b21), .val (.int (own_whole b21 (0 : Int32) (p0 &&& (2147483647 : Int32)))), .val (.int (own_whole b21 (0 : Int32) (p0 &&& (2147483647 : Int32)))), .val (.int (0 : Int32))] [(.int (0 : Int32)), (.int (own_whole b21 (0 : Int32) (p0 &&& (2147483647 : Int32))))])) (B := T32.setTop (mkF m 60 #[.val (.int p0), .val (.int p1), .val (.int (p0 &&& (2147483647 : Int32))), .val (.ref b21), .val (.int (own_whole b21 (0 : Int32) (p0 &&& (2147483647 : Int32)))), .val (.int (own_whole b21 (0 : Int32) (p0 &&& (2147483647 : Int32)))), .val (.int (0 : Int32))] [(.int (0 : Int32)), (.int (own_whole b21 (0 : Int32) (p0 &&& (2147483647 : Int32))))])) (fun t k => ?_) ?_
      · show Steps p.tables e below (T32.setTop (mkF m 53 #[.val (.int p0), .val (.int p1), .val (.int (p0 &&& (2147483647 : Int32))), .val (.ref b21), .val (.int (own_whole b21 (0 : Int32) (p0 &&& (2147483647 : Int32)))), .val (.int (own_whole b21 (0 : Int32) (p0 &&& (2147483647 : Int32)))), .val (.int (0 : Int32))] [(.int (0 : Int32)), (.int (own_whole b21 (0 : Int32) (p0 &&& (2147483647 : Int32))))])) t
        refine XS.icmpNo X32.here hx rfl (hb hby at_53) rfl (teq hc37).2 ?_
        show Steps p.tables e below (T32.setTop (mkF m 56 #[.val (.int p0), .val (.int p1), .val (.int (p0 &&& (2147483647 : Int32))), .val (.ref b21), .val (.int (own_whole b21 (0 : Int32) (p0 &&& (2147483647 : Int32)))), .val (.int (own_whole b21 (0 : Int32) (p0 &&& (2147483647 : Int32)))), .val (.int (0 : Int32))] [])) t
        refine XS.iload X32.here hx rfl (hb hby at_56) rfl ?_
        show Steps p.tables e below (T32.setTop (mkF m 58 #[.val (.int p0), .val (.int p1), .val (.int (p0 &&& (2147483647 : Int32))), .val (.ref b21), .val (.int (own_whole b21 (0 : Int32) (p0 &&& (2147483647 : Int32)))), .val (.int (own_whole b21 (0 : Int32) (p0 &&& (2147483647 : Int32)))), .val (.int (0 : Int32))] [(.int (own_whole b21 (0 : Int32) (p0 &&& (2147483647 : Int32))))])) t
        refine XS.iload X32.here hx rfl (hb hby at_58) rfl ?_
        exact k
      have hc38 : (own_whole b21 (0 : Int32) (p0 &&& (2147483647 : Int32))) = (0 : Int32) := by rw [own_whole, if_neg (fun q => hc33 q.symm)]
      refine OwnGo.of (A := T32.setTop (mkF m 60 #[.val (.int p0), .val (.int p1), .val (.int (p0 &&& (2147483647 : Int32))), .val (.ref b21), .val (.int (own_whole b21 (0 : Int32) (p0 &&& (2147483647 : Int32)))), .val (.int (own_whole b21 (0 : Int32) (p0 &&& (2147483647 : Int32)))), .val (.int (0 : Int32))] [(.int (0 : Int32)), (.int (own_whole b21 (0 : Int32) (p0 &&& (2147483647 : Int32))))])) (B := T32.setTop (mkF m 68 #[.val (.int p0), .val (.int p1), .val (.int (p0 &&& (2147483647 : Int32))), .val (.ref b21), .val (.int (own_whole b21 (0 : Int32) (p0 &&& (2147483647 : Int32)))), .val (.int (own_whole b21 (0 : Int32) (p0 &&& (2147483647 : Int32)))), .val (.int (0 : Int32))] [(.int (1 : Int32))])) (fun t k => ?_) ?_
      · show Steps p.tables e below (T32.setTop (mkF m 60 #[.val (.int p0), .val (.int p1), .val (.int (p0 &&& (2147483647 : Int32))), .val (.ref b21), .val (.int (own_whole b21 (0 : Int32) (p0 &&& (2147483647 : Int32)))), .val (.int (own_whole b21 (0 : Int32) (p0 &&& (2147483647 : Int32)))), .val (.int (0 : Int32))] [(.int (0 : Int32)), (.int (own_whole b21 (0 : Int32) (p0 &&& (2147483647 : Int32))))])) t
        refine XS.icmpNo X32.here hx rfl (hb hby at_60) rfl (teq hc38).2 ?_
        show Steps p.tables e below (T32.setTop (mkF m 63 #[.val (.int p0), .val (.int p1), .val (.int (p0 &&& (2147483647 : Int32))), .val (.ref b21), .val (.int (own_whole b21 (0 : Int32) (p0 &&& (2147483647 : Int32)))), .val (.int (own_whole b21 (0 : Int32) (p0 &&& (2147483647 : Int32)))), .val (.int (0 : Int32))] [])) t
        refine XS.iconst X32.here hx rfl (hb hby at_63) ?_
        show Steps p.tables e below (T32.setTop (mkF m 64 #[.val (.int p0), .val (.int p1), .val (.int (p0 &&& (2147483647 : Int32))), .val (.ref b21), .val (.int (own_whole b21 (0 : Int32) (p0 &&& (2147483647 : Int32)))), .val (.int (own_whole b21 (0 : Int32) (p0 &&& (2147483647 : Int32)))), .val (.int (0 : Int32))] [(.int (1 : Int32))])) t
        refine XS.goto X32.here hx rfl (pc0 := 64) (pc' := 68) rfl (hb hby at_64) (by decide) (by decide) ?_
        exact k
      obtain ⟨fs, hr, hrun, hended, hW, hsame⟩ := X32.leave (v := some (.int (nar .boolean (1 : Int32)))) (fun h => by rw [Bd.returns] at h; cases h) hlk
      refine ⟨_, _, ?_, hrun, hended, _, _, rfl, ?_, ⟨_, rfl⟩, hW, hsame.mono (by decide) (by decide)⟩
      · show Steps p.tables e below (T32.setTop (mkF m 68 #[.val (.int p0), .val (.int p1), .val (.int (p0 &&& (2147483647 : Int32))), .val (.ref b21), .val (.int (own_whole b21 (0 : Int32) (p0 &&& (2147483647 : Int32)))), .val (.int (own_whole b21 (0 : Int32) (p0 &&& (2147483647 : Int32)))), .val (.int (0 : Int32))] [(.int (1 : Int32))])) _
        exact retN X32 hx (t := .boolean) Bd.returns (by simp) (hb hby at_68) hr
      · show Qrm0 Z p0 p1 wD h0 n0 _ (T32.setFrames fs).heap _
        rw [show (T32.setFrames fs).heap = T27.heap from eq32]
        exact ⟨rfl, N32⟩
set_option maxRecDepth 65536 in
set_option maxHeartbeats 40000000 in
theorem comes_1 {Post : Tables → Env → Array Value → State → Outcome → State → Prop} (hpost : ∀ tb e args s v u, (limb_1_1.after args s (.returned v) u = true ∧ limb_1_2.after args s (.returned v) u = true ∧ True) → FrameEnd s (.returned v) u (Jvm.fieldLocs frame_1_writes args s ++ Jvm.arrayLocs frame_1_arrays args s ++ Jvm.staticLocs frame_1_statics s) 16 128 → Post tb e args s (.returned v) u) :
    ArmFor flags0 classFile x code maxLocals ret World_1 tables_1 room_1 Calls_1 rest_1 Pre_1 Post := by
  intro l hfl _ _ p e ha hc hk s m args below hf hA hF happ hP
  obtain ⟨hcalls, hrest, hpre⟩ := hP
  obtain ⟨-, -, -, hnamed, -, -, -, hat⟩ := (Spec.applies_iff hf).mp happ
  obtain ⟨hg, hn⟩ := and_e (Cond.before_iff.mp (show (Jvm.Cond.and given_1 narrow_1).before args s = true from hpre))
  obtain ⟨gg1, gg2⟩ := and_e hg
  obtain ⟨gg3, gg4⟩ := and_e gg2
  obtain ⟨w0, w1, rfl⟩ : ∃ w0 w1 : Value, args = #[w0, w1] := by
    have hs : args.size = 2 := by simpa [Cond.value, given_1] using gg1
    obtain ⟨L⟩ := args
    match L, hs with
    | [w0, w1], _ => exact ⟨w0, w1, rfl⟩
  have hw := fun d (hd : d ∈ tables_1) => atoms_spec (ws := Jvm.Cond.code x code maxLocals ret :: tables_1) hat d (List.mem_cons_of_mem _ hd)
  have hfit : Fit s := fun {y c} hc i hi => by
    obtain ⟨ha, rfl⟩ := Array.getElem?_eq_some_iff.mp hc
    have q := List.all_eq_true.mp ((Array.all_eq_true_iff_forall_mem.mp hF) _ (Array.getElem_mem ha)) i (List.mem_range.mpr hi)
    simpa [Array.getElem?_eq_getElem hi] using q
  obtain ⟨hsets, hown0⟩ := atoms_of _ (rest_1_c_eq ▸ (show rest_1_c.before _ s = true from hrest))
  have hr0 := Cond.before_iff.mp hown0
  obtain ⟨i0, ei0⟩ := is_v gg3
  obtain rfl : w0 = (.int i0) := Option.some.inj ei0
  obtain ⟨i1, ei1⟩ := is_v gg4
  obtain rfl : w1 = (.int i1) := Option.some.inj ei1
  obtain ⟨wD, evD⟩ := arr_v (Cond.before_iff.mp (hsets _ (List.mem_of_getElem? (i := 6) rfl)))
  have S_D : Sta s s.heap "java/util/ArrayList" "DEFAULTCAPACITY_EMPTY_ELEMENTDATA" "[Ljava/lang/Object;" (.ref wD) := Sta.start evD (Or.inr ⟨(hw _ (List.mem_of_getElem? (i := 12) rfl)), (hsets _ (List.mem_of_getElem? (i := 2) rfl))⟩)
  obtain ⟨n, o, h1, h2, h3, _, L, rfl, ⟨rfl, N⟩, hq⟩ := rm0 l s _ hw tables_1 i0 i1 wD s.heap s.heap.size (Nat.le_refl _) S_D p e ha hc hk s m _ below hf ((Spec.applies_iff_loose hf).mp happ).1 ⟨rfl, State.Warmed39.refl s, rfl⟩ trivial
  refine ⟨n, _, h1, h2, h3, hpost _ _ _ _ _ _ ⟨Cond.after_iff.mpr rfl, Cond.after_iff.mpr (eq_i res_at (Term.int_eval (1)) rfl), trivial⟩ ⟨hq.1, hq.2.1, (hq.2.2.sift fun y hy => Or.inr (N y hy)).mono (by decide) (by decide)⟩⟩
theorem main_1_1 : Claimed_1_1 := comes_1 fun _ _ _ _ _ _ h hF => ⟨h.1, hF⟩
theorem main_1_2 : Claimed_1_2 := comes_1 fun _ _ _ _ _ _ h hF => ⟨h.2.1, hF⟩
end Jvm.Pilot.@@N@@
namespace Jvm.Pilot.@@N@@
open Jvm Jvm.ClassFile Sem Op Lib Jvm.Free Jvm.Stand Jvm.Pilot.@@N@@.Jvm.D
/-! MADE BY PROGRAM (witnessworld.py) out of the Statement's table words and the real class files: 18 classes; the members and pool entries that the words name. The judged class is class 1, her method 1. -/
namespace start1
open Jvm.ClassFile
def u (s : String) : CpInfo := .utf8 (stringToUtf16 s)
/-- a pool by its gaps: so many unusable entries, then the entry; so many at the end -/
def gap : Nat → List CpInfo → List CpInfo
  | 0, r => r
  | n + 1, r => .unusable :: gap n r
def poolList (es : List (Nat × CpInfo)) (last : Nat) : List CpInfo := es.foldr (fun e r => gap e.1 (e.2 :: r)) (gap last [])
def pool (es : List (Nat × CpInfo)) (last : Nat) : Array CpInfo := ⟨poolList es last⟩
def fileOf (pool : Array CpInfo) (this : Nat) (attrs : Array Attribute := #[]) (ms : Array MethodInfo := #[]) (fl : Nat := 33) (sup : Nat := 0) (ifs : Array Nat := #[]) (fds : Array FieldInfo := #[]) : ClassFile where
  minorVersion := 0
  majorVersion := 65
  constantPool := pool
  accessFlags := fl
  thisClass := this
  superClass := sup
  interfaces := ifs
  fields := fds
  methods := ms
  attributes := attrs
def plain (name : String) (sup : Option ClassId) : Class where
  name := name
  kind := .ordinary
  loader := none
  accessFlags := 33
  super := sup
  interfaces := #[]
  cf := none
  fields := #[]
  methods := #[]
  instanceTypes := #[]
  staticTypes := #[]
  resolved := #[]
  callSites := []
  init := .initialized
  statics := none
  mirror := none

def pool0 : Array CpInfo := pool [(5, u "<init>"), (0, u "()V"), (1, .class_ 10), (1, u "java/lang/Object")] 113

def k0c0 : Code := { maxStack := 0, maxLocals := 1, code := object_method_1_code, exceptionTable := #[], attributes := #[] }
def k0m0 : Method := { name := "<init>", desc := "()V", sig := { parameters := [], returnType := none }, accessFlags := 1, code := some k0c0 }
/-- java/lang/Object -/
def k0 : Class := { plain "java/lang/Object" none with
  accessFlags := 33
  interfaces := #[]
  cf := some (fileOf pool0 8 #[] #[{ accessFlags := 1, nameIndex := 5, descriptorIndex := 6, attributes := #[] }] 33 0 #[] #[])
  fields := #[]
  methods := #[k0m0]
  instanceTypes := #[]
  staticTypes := #[]
  resolved := Array.replicate 124 none
  statics := none }

def pool1 : Array CpInfo := pool [(2, .class_ 4), (1, u "java/lang/Object"), (0, u "<init>"), (0, u "()V"), (0, .integer 2147483647), (0, .class_ 9), (0, u "com/example/map_of_brokers/mapofbrokers/kafka/ArrivingFrame"), (0, .methodref 8 11), (0, .nameAndType 5 12), (0, u "(I)V"), (0, .methodref 8 14), (0, .nameAndType 15 16), (0, u "isWhole"), (0, u "()Z"), (0, .class_ 18), (0, u "com/example/map_of_brokers/mapofbrokers/kafka/ArrivingFrameIsWholePinLaw"), (2, u "law"), (0, u "(II)Z")] 3

def k1m0 : Method := { name := "<init>", desc := "()V", sig := { parameters := [], returnType := none }, accessFlags := 1, code := none }
def k1c1 : Code := { maxStack := 3, maxLocals := 7, code := code, exceptionTable := #[], attributes := #[] }
def k1m1 : Method := { name := "law", desc := "(II)Z", sig := { parameters := [.int, .int], returnType := some .boolean }, accessFlags := 9, code := some k1c1 }
/-- com/example/map_of_brokers/mapofbrokers/kafka/ArrivingFrameIsWholePinLaw -/
def k1 : Class := { plain "com/example/map_of_brokers/mapofbrokers/kafka/ArrivingFrameIsWholePinLaw" (some 0) with
  accessFlags := 49
  interfaces := #[]
  cf := some (fileOf pool1 17 #[] #[{ accessFlags := 1, nameIndex := 5, descriptorIndex := 6, attributes := #[] }, { accessFlags := 9, nameIndex := 21, descriptorIndex := 22, attributes := #[] }] 49 2 #[] #[])
  fields := #[]
  methods := #[k1m0, k1m1]
  instanceTypes := #[]
  staticTypes := #[]
  resolved := Array.replicate 26 none
  statics := none }

def pool2 : Array CpInfo := pool [(1, .methodref 2 3), (0, .class_ 4), (0, .nameAndType 5 6), (0, u "java/lang/Object"), (0, u "<init>"), (0, u "()V"), (0, .class_ 8), (0, u "java/util/ArrayList"), (0, .methodref 7 3), (0, .fieldref 11 12), (0, .class_ 13), (0, .nameAndType 14 15), (0, u "com/example/map_of_brokers/mapofbrokers/kafka/ArrivingFrame"), (0, u "pieces"), (0, u "Ljava/util/List;"), (0, .fieldref 11 17), (0, .nameAndType 18 19), (0, u "length"), (0, u "I"), (10, .fieldref 11 31), (0, .nameAndType 32 19), (0, u "received"), (50, u "()Z"), (29, u "SMALL_PIECE_BYTES"), (4, u "(I)V"), (8, u "isWhole")] 3

def k2c0 : Code := { maxStack := 3, maxLocals := 2, code := prog_12_method_1_code, exceptionTable := #[], attributes := #[] }
def k2m0 : Method := { name := "<init>", desc := "(I)V", sig := { parameters := [.int], returnType := none }, accessFlags := 0, code := some k2c0 }
def k2c1 : Code := { maxStack := 2, maxLocals := 1, code := prog_12_method_3_code, exceptionTable := #[], attributes := #[] }
def k2m1 : Method := { name := "isWhole", desc := "()Z", sig := { parameters := [], returnType := some .boolean }, accessFlags := 0, code := some k2c1 }
/-- com/example/map_of_brokers/mapofbrokers/kafka/ArrivingFrame -/
def k2 : Class := { plain "com/example/map_of_brokers/mapofbrokers/kafka/ArrivingFrame" (some 0) with
  accessFlags := 32
  interfaces := #[]
  cf := some (fileOf pool2 11 #[] #[{ accessFlags := 0, nameIndex := 5, descriptorIndex := 118, attributes := #[] }, { accessFlags := 0, nameIndex := 127, descriptorIndex := 83, attributes := #[] }] 32 2 #[] #[{ accessFlags := 26, nameIndex := 113, descriptorIndex := 19, attributes := #[] }, { accessFlags := 18, nameIndex := 18, descriptorIndex := 19, attributes := #[] }, { accessFlags := 18, nameIndex := 14, descriptorIndex := 15, attributes := #[] }, { accessFlags := 2, nameIndex := 32, descriptorIndex := 19, attributes := #[] }])
  fields := #[{ name := "SMALL_PIECE_BYTES", type := .int, accessFlags := 26, slot := 0, constantValue := 0 }, { name := "length", type := .int, accessFlags := 18, slot := 0, constantValue := 0 }, { name := "pieces", type := (.object "java/util/List"), accessFlags := 18, slot := 1, constantValue := 0 }, { name := "received", type := .int, accessFlags := 2, slot := 2, constantValue := 0 }]
  methods := #[k2m0, k2m1]
  instanceTypes := #[.int, (.object "java/util/List"), .int]
  staticTypes := #[.int]
  resolved := Array.replicate 131 none
  statics := none }

def pool3 : Array CpInfo := pool [(8, .class_ 10), (1, u "java/lang/Iterable"), (24, .class_ 36), (0, u "java/lang/Object")] 25

/-- java/lang/Iterable -/
def k3 : Class := { plain "java/lang/Iterable" (some 0) with
  accessFlags := 1537
  interfaces := #[]
  cf := some (fileOf pool3 8 #[] #[] 1537 35 #[] #[])
  fields := #[]
  methods := #[]
  instanceTypes := #[]
  staticTypes := #[]
  resolved := Array.replicate 62 none
  statics := none }

def pool4 : Array CpInfo := pool [(10, .class_ 12), (1, u "java/util/Collection"), (47, .class_ 61), (0, u "java/lang/Object"), (0, .class_ 63), (0, u "java/lang/Iterable")] 51

/-- java/util/Collection -/
def k4 : Class := { plain "java/util/Collection" (some 0) with
  accessFlags := 1537
  interfaces := #[3]
  cf := some (fileOf pool4 10 #[] #[] 1537 60 #[62] #[])
  fields := #[]
  methods := #[]
  instanceTypes := #[]
  staticTypes := #[]
  resolved := Array.replicate 115 none
  statics := none }

def pool5 : Array CpInfo := pool [(1, .methodref 2 3), (0, .class_ 4), (0, .nameAndType 5 6), (0, u "java/lang/Object"), (0, u "<init>"), (0, u "()V"), (1, .class_ 10), (1, u "java/util/AbstractCollection"), (66, .class_ 78), (0, u "java/util/Collection")] 81

def k5c0 : Code := { maxStack := 1, maxLocals := 1, code := jdk_22_method_1_code, exceptionTable := #[], attributes := #[] }
def k5m0 : Method := { name := "<init>", desc := "()V", sig := { parameters := [], returnType := none }, accessFlags := 4, code := some k5c0 }
/-- java/util/AbstractCollection -/
def k5 : Class := { plain "java/util/AbstractCollection" (some 0) with
  accessFlags := 1057
  interfaces := #[4]
  cf := some (fileOf pool5 8 #[] #[{ accessFlags := 4, nameIndex := 5, descriptorIndex := 6, attributes := #[] }] 1057 2 #[77] #[])
  fields := #[]
  methods := #[k5m0]
  instanceTypes := #[]
  staticTypes := #[]
  resolved := Array.replicate 160 none
  statics := none }

def pool6 : Array CpInfo := pool [(8, .class_ 10), (1, u "java/util/SequencedCollection"), (15, .class_ 27), (0, u "java/lang/Object"), (0, .class_ 29), (0, u "java/util/Collection")] 27

/-- java/util/SequencedCollection -/
def k6 : Class := { plain "java/util/SequencedCollection" (some 0) with
  accessFlags := 1537
  interfaces := #[4]
  cf := some (fileOf pool6 8 #[] #[] 1537 26 #[28] #[])
  fields := #[]
  methods := #[]
  instanceTypes := #[]
  staticTypes := #[]
  resolved := Array.replicate 57 none
  statics := none }

def pool7 : Array CpInfo := pool [(8, .class_ 10), (1, u "java/util/List"), (92, .class_ 104), (0, u "java/lang/Object"), (15, .class_ 121), (0, u "java/util/SequencedCollection")] 129

/-- java/util/List -/
def k7 : Class := { plain "java/util/List" (some 0) with
  accessFlags := 1537
  interfaces := #[6]
  cf := some (fileOf pool7 8 #[] #[] 1537 103 #[120] #[])
  fields := #[]
  methods := #[]
  instanceTypes := #[]
  staticTypes := #[]
  resolved := Array.replicate 251 none
  statics := none }

def pool8 : Array CpInfo := pool [(1, .methodref 2 3), (0, .class_ 4), (0, .nameAndType 5 6), (0, u "java/util/AbstractCollection"), (0, u "<init>"), (0, u "()V"), (0, .fieldref 8 9), (0, .class_ 10), (0, .nameAndType 11 12), (0, u "java/util/AbstractList"), (0, u "modCount"), (0, u "I"), (64, .class_ 78), (0, u "java/util/AbstractList$Itr"), (3, .class_ 83), (0, u "java/util/AbstractList$ListItr"), (9, .class_ 94), (0, u "java/util/AbstractList$RandomAccessSubList"), (3, .class_ 99), (0, u "java/util/AbstractList$SubList"), (33, .class_ 134), (0, u "java/util/List"), (73, .class_ 209), (0, u "java/util/AbstractList$SubList$1"), (0, .class_ 211), (0, u "java/util/AbstractList$RandomAccessSpliterator")] 6

def k8c0 : Code := { maxStack := 2, maxLocals := 1, code := jdk_39_method_1_code, exceptionTable := #[], attributes := #[] }
def k8m0 : Method := { name := "<init>", desc := "()V", sig := { parameters := [], returnType := none }, accessFlags := 4, code := some k8c0 }
/-- java/util/AbstractList -/
def k8 : Class := { plain "java/util/AbstractList" (some 5) with
  accessFlags := 1057
  interfaces := #[7]
  cf := some (fileOf pool8 8 #[.nestMembers #[93, 98, 208, 210, 82, 77]] #[{ accessFlags := 4, nameIndex := 5, descriptorIndex := 6, attributes := #[] }] 1057 2 #[133] #[{ accessFlags := 132, nameIndex := 11, descriptorIndex := 12, attributes := #[] }])
  fields := #[{ name := "modCount", type := .int, accessFlags := 132, slot := 0, constantValue := 0 }]
  methods := #[k8m0]
  instanceTypes := #[.int]
  staticTypes := #[]
  resolved := Array.replicate 218 none
  statics := none }

def pool9 : Array CpInfo := pool [(1, .class_ 2), (0, u "java/util/RandomAccess"), (0, .class_ 4), (0, u "java/lang/Object")] 2

/-- java/util/RandomAccess -/
def k9 : Class := { plain "java/util/RandomAccess" (some 0) with
  accessFlags := 1537
  interfaces := #[]
  cf := some (fileOf pool9 1 #[] #[] 1537 3 #[] #[])
  fields := #[]
  methods := #[]
  instanceTypes := #[]
  staticTypes := #[]
  resolved := Array.replicate 7 none
  statics := none }

def pool10 : Array CpInfo := pool [(1, .class_ 2), (0, u "java/lang/Cloneable"), (0, .class_ 4), (0, u "java/lang/Object")] 2

/-- java/lang/Cloneable -/
def k10 : Class := { plain "java/lang/Cloneable" (some 0) with
  accessFlags := 1537
  interfaces := #[]
  cf := some (fileOf pool10 1 #[] #[] 1537 3 #[] #[])
  fields := #[]
  methods := #[]
  instanceTypes := #[]
  staticTypes := #[]
  resolved := Array.replicate 7 none
  statics := none }

def pool11 : Array CpInfo := pool [(1, .class_ 2), (0, u "java/io/Serializable"), (0, .class_ 4), (0, u "java/lang/Object")] 2

/-- java/io/Serializable -/
def k11 : Class := { plain "java/io/Serializable" (some 0) with
  accessFlags := 1537
  interfaces := #[]
  cf := some (fileOf pool11 1 #[] #[] 1537 3 #[] #[])
  fields := #[]
  methods := #[]
  instanceTypes := #[]
  staticTypes := #[]
  resolved := Array.replicate 7 none
  statics := none }

def pool12 : Array CpInfo := pool [(1, .methodref 2 3), (0, .class_ 4), (0, .nameAndType 5 6), (0, u "java/util/AbstractList"), (0, u "<init>"), (0, u "()V"), (2, .fieldref 10 11), (0, .class_ 12), (0, .nameAndType 13 14), (0, u "java/util/ArrayList"), (0, u "elementData"), (0, u "[Ljava/lang/Object;"), (2, u "EMPTY_ELEMENTDATA"), (21, .fieldref 10 40), (0, .nameAndType 41 14), (0, u "DEFAULTCAPACITY_EMPTY_ELEMENTDATA"), (8, u "size"), (0, u "I"), (96, .class_ 149), (0, u "java/util/List"), (112, .class_ 263), (0, u "java/util/ArrayList$ListItr"), (3, .class_ 268), (0, u "java/util/ArrayList$Itr"), (7, .class_ 277), (0, u "java/util/ArrayList$SubList"), (12, .class_ 291), (0, u "java/util/ArrayList$ArrayListSpliterator"), (37, .class_ 330), (0, u "java/util/RandomAccess"), (0, .class_ 332), (0, u "java/lang/Cloneable"), (0, .class_ 334), (0, u "java/io/Serializable"), (0, u "serialVersionUID"), (0, u "J"), (3, u "DEFAULT_CAPACITY"), (159, .class_ 501), (0, u "java/util/ArrayList$SubList$2"), (0, .class_ 503), (0, u "java/util/ArrayList$SubList$1")] 5

def k12c0 : Code := { maxStack := 2, maxLocals := 1, code := jdk_38_method_2_code, exceptionTable := #[], attributes := #[] }
def k12m0 : Method := { name := "<init>", desc := "()V", sig := { parameters := [], returnType := none }, accessFlags := 1, code := some k12c0 }
/-- java/util/ArrayList -/
def k12 : Class := { plain "java/util/ArrayList" (some 8) with
  accessFlags := 33
  interfaces := #[7, 9, 10, 11]
  cf := some (fileOf pool12 10 #[.nestMembers #[290, 276, 500, 502, 262, 267]] #[{ accessFlags := 1, nameIndex := 5, descriptorIndex := 6, attributes := #[] }] 33 2 #[148, 329, 331, 333] #[{ accessFlags := 26, nameIndex := 335, descriptorIndex := 336, attributes := #[] }, { accessFlags := 26, nameIndex := 340, descriptorIndex := 51, attributes := #[] }, { accessFlags := 26, nameIndex := 17, descriptorIndex := 14, attributes := #[] }, { accessFlags := 26, nameIndex := 41, descriptorIndex := 14, attributes := #[] }, { accessFlags := 128, nameIndex := 13, descriptorIndex := 14, attributes := #[] }, { accessFlags := 2, nameIndex := 50, descriptorIndex := 51, attributes := #[] }])
  fields := #[{ name := "serialVersionUID", type := .long, accessFlags := 26, slot := 0, constantValue := 0 }, { name := "DEFAULT_CAPACITY", type := .int, accessFlags := 26, slot := 1, constantValue := 0 }, { name := "EMPTY_ELEMENTDATA", type := (.array (.object "java/lang/Object")), accessFlags := 26, slot := 2, constantValue := 0 }, { name := "DEFAULTCAPACITY_EMPTY_ELEMENTDATA", type := (.array (.object "java/lang/Object")), accessFlags := 26, slot := 3, constantValue := 0 }, { name := "elementData", type := (.array (.object "java/lang/Object")), accessFlags := 128, slot := 1, constantValue := 0 }, { name := "size", type := .int, accessFlags := 2, slot := 2, constantValue := 0 }]
  methods := #[k12m0]
  instanceTypes := #[.int, (.array (.object "java/lang/Object")), .int]
  staticTypes := #[.long, .int, (.array (.object "java/lang/Object")), (.array (.object "java/lang/Object"))]
  resolved := Array.replicate 509 none
  statics := some 0 }

/-- the primitive byte -/
def k13 : Class := { plain "byte" none with kind := .primitive 'B', accessFlags := 0x411 }
/-- [B -/
def k14 : Class := { plain "[B" (some 0) with kind := .array 13 .byte, interfaces := #[10, 11], accessFlags := 1041 }

/-- the primitive int -/
def k15 : Class := { plain "int" none with kind := .primitive 'I', accessFlags := 0x411 }
/-- [I -/
def k16 : Class := { plain "[I" (some 0) with kind := .array 15 .int, interfaces := #[10, 11], accessFlags := 1041 }

/-- [Ljava/lang/Object; -/
def k17 : Class := { plain "[Ljava/lang/Object;" (some 0) with kind := .array 0 (.object "java/lang/Object"), interfaces := #[10, 11], accessFlags := 1041 }

def heap : Heap := #[{ cls := 12, slots := #[.long 0, .int 0, .ref 1, .ref 2], vm := .statics 12 },
  { cls := 17, slots := #[], vm := .none },
  { cls := 17, slots := #[], vm := .none }]
def classes : Array Class := #[k0, k1, k2, k3, k4, k5, k6, k7, k8, k9, k10, k11, k12, k13, k14, k15, k16, k17]
def interned : List (Array UInt16 × Addr) := []
def slotsUsed : Nat := 4
def theMethod : MethodId := ⟨1, 1⟩
def args0 : Array Value := #[.int 3, .int 4]
def aboutOver (below : List Frame) : State where
  vm := { classes := classes, interned := interned.toArray }
  heap := heap
  slotsUsed := slotsUsed
  threads := #[{ frames := .invoking theMethod args0 :: below }]
def below0 : List Frame := [.native { method := ⟨0, 0⟩, args := #[] }]
def about1 : State := aboutOver below0
def p0 : Program := .bare "" "" ""
def e0 : Env := launch0.env 0 0 0
theorem w_frames : about1.frames = Frame.invoking theMethod args0 :: below0 := rfl
set_option maxRecDepth 65536 in
theorem w_args : argsFit about1.vm theMethod args0 = true := by decide +kernel
set_option maxRecDepth 65536 in
theorem w_heap : heapFits about1 = true := by decide +kernel
set_option maxRecDepth 65536 in
theorem w_runnable : about1.curStatus? = some .runnable := by decide +kernel
set_option maxRecDepth 65536 in
theorem w_alone : about1.alone = true := by decide +kernel
set_option maxRecDepth 65536 in
theorem w_named : about1.methodNamed? x = some theMethod := by decide +kernel
set_option maxRecDepth 65536 in
theorem w_hears : about1.hears theMethod below0 = true := by decide +kernel
set_option maxRecDepth 65536 in
theorem w_ripe : about1.ripe theMethod args0 below0 = true := by decide +kernel
theorem w_running : about1.status = .running := rfl
set_option maxRecDepth 65536 in
theorem w_room : about1.hasRoom e0.platform room_1 = true :=
  launch0.hasRoom_least _ room_1 (by decide +kernel) (by decide +kernel) (by decide +kernel) (by decide +kernel) (by decide +kernel) (by decide +kernel)
theorem allAtoms_all (ts : List Jvm.Cond) (a : Array Jvm.Value) (st : Jvm.State) : (allAtoms ts).before a st = ts.all (fun c => c.before a st) := by
  induction ts with
  | nil => rfl
  | cons c t ih =>
    show (Jvm.Cond.and c (allAtoms t)).before a st = _
    rw [Jvm.Cond.before_and, ih, List.all_cons]
def words1 : List Jvm.Cond := Jvm.Cond.code x code maxLocals ret :: tables_1
/-- a 'code' word, met by the world's own term for the bytes: nothing is compared byte by byte -/
theorem code_word {y : MethodName} {bytes : ByteArray} {mx : Nat} {rt : Option FieldType} {a : Array Value} {s : State} {m : MethodId} {meth : Method} {c : Code} (h1 : s.methodNamed? y = some m) (h2 : s.vm.method? m = some meth) (h3 : meth.code = some c) (h4 : c.code = bytes)
    (h5 : (c.maxLocals == mx && c.exceptionTable.isEmpty && decide (c.maxStack ≤ mostOperands) && decide (meth.sig.returnType = rt) && !meth.locks && decide (parseMethodDescriptor y.desc = some meth.sig)) = true) : (Jvm.Cond.code y bytes mx rt).before a s = true := by
  simp only [Bool.and_eq_true, beq_iff_eq, Bool.not_eq_true', decide_eq_true_eq] at h5
  obtain ⟨⟨⟨⟨⟨g1, g2⟩, g3⟩, g4⟩, g5⟩, g6⟩ := h5
  simp [Cond.before, Cond.holds, Cond.value, h1, h2, h3, h4, g1, g2, g3, g4, g5, g6]
def isCode : Jvm.Cond → Bool
  | .code _ _ _ _ => true
  | _ => false
theorem all_split {L : List Jvm.Cond} {P : Jvm.Cond → Bool} (h1 : L.all (fun c => isCode c || P c) = true) (h2 : ∀ c ∈ L.filter isCode, P c = true) : L.all P = true := by
  refine List.all_eq_true.mpr fun c hc => ?_
  have h := List.all_eq_true.mp h1 c hc
  rcases Bool.eq_false_or_eq_true (isCode c) with hi | hi
  · exact h2 c (List.mem_filter.mpr ⟨hc, hi⟩)
  · simpa [hi] using h
set_option maxRecDepth 65536 in
theorem w_c0 : (Jvm.Cond.code x code maxLocals ret).before args0 about1 = true := code_word (m := ⟨1, 1⟩) (meth := k1m1) (c := k1c1) (by decide +kernel) rfl rfl rfl (by decide +kernel)
set_option maxRecDepth 65536 in
theorem w_c1 : (Jvm.Cond.code ({ cls := "com/example/map_of_brokers/mapofbrokers/kafka/ArrivingFrame", name := "<init>", desc := "(I)V" } : Jvm.MethodName) prog_12_method_1_code (2 : Nat) (Option.none : Option Jvm.ClassFile.FieldType)).before args0 about1 = true := code_word (m := ⟨2, 0⟩) (meth := k2m0) (c := k2c0) (by decide +kernel) rfl rfl rfl (by decide +kernel)
set_option maxRecDepth 65536 in
theorem w_c2 : (Jvm.Cond.code ({ cls := "java/lang/Object", name := "<init>", desc := "()V" } : Jvm.MethodName) object_method_1_code (1 : Nat) (Option.none : Option Jvm.ClassFile.FieldType)).before args0 about1 = true := code_word (m := ⟨0, 0⟩) (meth := k0m0) (c := k0c0) (by decide +kernel) rfl rfl rfl (by decide +kernel)
set_option maxRecDepth 65536 in
theorem w_c3 : (Jvm.Cond.code ({ cls := "java/util/ArrayList", name := "<init>", desc := "()V" } : Jvm.MethodName) jdk_38_method_2_code (1 : Nat) (Option.none : Option Jvm.ClassFile.FieldType)).before args0 about1 = true := code_word (m := ⟨12, 0⟩) (meth := k12m0) (c := k12c0) (by decide +kernel) rfl rfl rfl (by decide +kernel)
set_option maxRecDepth 65536 in
theorem w_c4 : (Jvm.Cond.code ({ cls := "java/util/AbstractList", name := "<init>", desc := "()V" } : Jvm.MethodName) jdk_39_method_1_code (1 : Nat) (Option.none : Option Jvm.ClassFile.FieldType)).before args0 about1 = true := code_word (m := ⟨8, 0⟩) (meth := k8m0) (c := k8c0) (by decide +kernel) rfl rfl rfl (by decide +kernel)
set_option maxRecDepth 65536 in
theorem w_c5 : (Jvm.Cond.code ({ cls := "java/util/AbstractCollection", name := "<init>", desc := "()V" } : Jvm.MethodName) jdk_22_method_1_code (1 : Nat) (Option.none : Option Jvm.ClassFile.FieldType)).before args0 about1 = true := code_word (m := ⟨5, 0⟩) (meth := k5m0) (c := k5c0) (by decide +kernel) rfl rfl rfl (by decide +kernel)
set_option maxRecDepth 65536 in
theorem w_c6 : (Jvm.Cond.code ({ cls := "com/example/map_of_brokers/mapofbrokers/kafka/ArrivingFrame", name := "isWhole", desc := "()Z" } : Jvm.MethodName) prog_12_method_3_code (1 : Nat) (Option.some Jvm.ClassFile.FieldType.boolean)).before args0 about1 = true := code_word (m := ⟨2, 1⟩) (meth := k2m1) (c := k2c1) (by decide +kernel) rfl rfl rfl (by decide +kernel)
def codes1 : List Jvm.Cond := [Jvm.Cond.code x code maxLocals ret, Jvm.Cond.code ({ cls := "com/example/map_of_brokers/mapofbrokers/kafka/ArrivingFrame", name := "<init>", desc := "(I)V" } : Jvm.MethodName) prog_12_method_1_code (2 : Nat) (Option.none : Option Jvm.ClassFile.FieldType), Jvm.Cond.code ({ cls := "java/lang/Object", name := "<init>", desc := "()V" } : Jvm.MethodName) object_method_1_code (1 : Nat) (Option.none : Option Jvm.ClassFile.FieldType), Jvm.Cond.code ({ cls := "java/util/ArrayList", name := "<init>", desc := "()V" } : Jvm.MethodName) jdk_38_method_2_code (1 : Nat) (Option.none : Option Jvm.ClassFile.FieldType), Jvm.Cond.code ({ cls := "java/util/AbstractList", name := "<init>", desc := "()V" } : Jvm.MethodName) jdk_39_method_1_code (1 : Nat) (Option.none : Option Jvm.ClassFile.FieldType), Jvm.Cond.code ({ cls := "java/util/AbstractCollection", name := "<init>", desc := "()V" } : Jvm.MethodName) jdk_22_method_1_code (1 : Nat) (Option.none : Option Jvm.ClassFile.FieldType), Jvm.Cond.code ({ cls := "com/example/map_of_brokers/mapofbrokers/kafka/ArrivingFrame", name := "isWhole", desc := "()Z" } : Jvm.MethodName) prog_12_method_3_code (1 : Nat) (Option.some Jvm.ClassFile.FieldType.boolean)]
set_option maxRecDepth 65536 in
theorem codes_eq : words1.filter isCode = codes1 := rfl
theorem w_codes : ∀ c ∈ words1.filter isCode, c.before args0 about1 = true := by
  rw [codes_eq]
  intro c hc
  simp only [codes1, List.mem_cons, List.not_mem_nil, or_false] at hc
  rcases hc with rfl | rfl | rfl | rfl | rfl | rfl | rfl
  · exact w_c0
  · exact w_c1
  · exact w_c2
  · exact w_c3
  · exact w_c4
  · exact w_c5
  · exact w_c6
set_option maxRecDepth 65536 in
theorem w_t1 : (words1.take 24).all (fun c => isCode c || c.before args0 about1) = true := by decide +kernel
set_option maxRecDepth 65536 in
theorem w_t2 : (words1.drop 24).all (fun c => isCode c || c.before args0 about1) = true := by decide +kernel
theorem w_tables : (allAtoms (Jvm.Cond.code x code maxLocals ret :: tables_1)).before args0 about1 = true := by
  rw [allAtoms_all]
  show words1.all (fun c => c.before args0 about1) = true
  refine all_split ?_ w_codes
  rw [← List.take_append_drop 24 words1, List.all_append, w_t1, w_t2]
  rfl
set_option maxRecDepth 65536 in
theorem w_rest : rest_1_c.before args0 about1 = true := by decide +kernel
set_option maxRecDepth 65536 in
theorem w_case : (Jvm.Cond.and given_1 narrow_1).before args0 about1 = true := by decide +kernel
theorem w_applies : (headSpec (Jvm.Cond.code x code maxLocals ret :: tables_1) room_1).applies x e0.platform about1 = true :=
  (Spec.applies_iff w_frames).mpr ⟨w_running, w_runnable, w_alone, w_named, w_hears, w_ripe, w_room, w_tables⟩
theorem atStart : AtStart classFile x code maxLocals ret World_1 tables_1 room_1 Calls_1 rest_1 Pre_1 launch0 p0 e0 about1 theMethod args0 below0 :=
  ⟨lists_1, trivial, launch0.admits_env _ _ _, launch0.least_env, fairChoices_fair.cas, fairChoices_fair.clock, w_frames, w_args, w_heap, w_applies, trivial, w_rest, w_case⟩
end start1
theorem witness_1 : WitnessClaimed_1 := ⟨start1.p0, start1.e0, start1.about1, start1.theMethod, start1.args0, start1.below0, start1.atStart⟩
end Jvm.Pilot.@@N@@
