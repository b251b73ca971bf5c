import JvmDerived
import JvmDerived.Pilot.@@N@@Statement
import JvmDerived.Pilot.@@N@@Code
set_option linter.unusedVariables false
set_option linter.unusedSimpArgs false
namespace Jvm.Pilot.@@N@@
open Jvm Jvm.ClassFile Sem Op Lib Jvm.Free Jvm.Stand Jvm.LawKit Jvm.RoadKit Bundle Jvm.Pilot.@@N@@.Jvm.D
section OwnKit
variable {p : Program} {l : Launch} {e : Env} {R : Room} {s : State} {m : MethodId} {args : Array Value} {below : List Frame} {meth : Method} {c : Code} {T : State} {locs : List Loc} {cells slots : Nat}
theorem own_retI (X : Stand p l e R s m args below meth c T locs cells slots) (hx : p.tables.exec = Jvm.exec) {pc : Nat} {Ls : Array Slot} {z : Int32} {rest : List Value} (hret : meth.sig.returnType = some .int) (hd : decode c.code pc = .ok (.ireturn, 1)) {fs : List Frame}
    (hl : ∀ (f : JFrame) (acts : List Action), f.method = m → f.locked = none → f.entered = [] → (doReturn e (T.setTop f) acts (some (.int z))).1 = T.setFrames fs) : Steps p.tables e below (T.setTop (mkF m pc Ls (.int z :: rest))) (T.setFrames fs) :=
  retOut X hx hret rfl (Or.inl ⟨rfl, Or.inl rfl, z, rfl⟩) hd hl
theorem own_retL (X : Stand p l e R s m args below meth c T locs cells slots) (hx : p.tables.exec = Jvm.exec) {pc : Nat} {Ls : Array Slot} {z : Int64} {rest : List Value} (hret : meth.sig.returnType = some .long) (hd : decode c.code pc = .ok (.lreturn, 1)) {fs : List Frame}
    (hl : ∀ (f : JFrame) (acts : List Action), f.method = m → f.locked = none → f.entered = [] → (doReturn e (T.setTop f) acts (some (.long z))).1 = T.setFrames fs) : Steps p.tables e below (T.setTop (mkF m pc Ls (.long z :: rest))) (T.setFrames fs) :=
  retOut X hx hret rfl (Or.inr (Or.inl ⟨rfl, rfl, z, rfl⟩)) hd hl
theorem own_retA (X : Stand p l e R s m args below meth c T locs cells slots) (hx : p.tables.exec = Jvm.exec) {pc : Nat} {Ls : Array Slot} {t : FieldType} {v : Value} {rest : List Value} (hret : meth.sig.returnType = some t) (ht : t.isReference = true) (hv : v.isRef = true) (hn : narrow t v = v) (hd : decode c.code pc = .ok (.areturn, 1)) {fs : List Frame}
    (hl : ∀ (f : JFrame) (acts : List Action), f.method = m → f.locked = none → f.entered = [] → (doReturn e (T.setTop f) acts (some v)).1 = T.setFrames fs) : Steps p.tables e below (T.setTop (mkF m pc Ls (v :: rest))) (T.setFrames fs) :=
  retOut X hx hret hn (Or.inr (Or.inr (Or.inr (Or.inr ⟨rfl, ht, hv⟩)))) hd hl
theorem own_ns_exa {Z : State} {h : Heap} {a : Addr} {C : String} (F : Exa Z h a C) : ∃ c : Cell, h[a]? = some c ∧ c.vm.isStatics = false := by
  obtain ⟨c, _, h1, -, -, h4, -⟩ := F; exact ⟨c, h1, h4⟩
theorem own_ns_arv {Z : State} {h : Heap} {a : Addr} {k : ClassId} {ty : FieldType} {z : Int32} {vs : List Value} {dv : Value} (F : Arv Z h a k ty z vs dv) : ∃ c : Cell, h[a]? = some c ∧ c.vm.isStatics = false := by
  obtain ⟨c, A, -⟩ := F; exact ⟨c, A.1, A.plain⟩
theorem own_sta_keep {Z : State} {h h' : Heap} {C n d : String} {v : Value} {ws : List Addr} (F : Sta Z h C n d v) (K : Keep h h' ws) (q : ∀ x ∈ ws, ∃ c : Cell, h[x]? = some c ∧ c.vm.isStatics = false) : Sta Z h' C n d v := by
  obtain ⟨cf, i, k, f, st, cell, h1, h2, h3, h4, h5, h6, h7⟩ := F
  refine ⟨cf, i, k, f, st, cell, h1, h2, h3, h4, K.2.1 st cell h5 (fun m => ?_), h6, h7⟩
  obtain ⟨c, e1, e2⟩ := q st m; cases h5.symm.trans e1; rw [e2] at h6; cases h6
/-- from A the run ends, and then P -/
def OwnGo (tb : Tables) (e : Env) (below : List Frame) (P : Outcome → State → Prop) (A : State) : Prop := ∃ s₂ o, Steps tb e below A s₂ ∧ s₂.status = .running ∧ Ended s₂ below o ∧ P o s₂
theorem OwnGo.of {tb : Tables} {P : Outcome → State → Prop} {A B : State} (k : ∀ t, Steps tb e below B t → Steps tb e below A t) (g : OwnGo tb e below P B) : OwnGo tb e below P A := by
  obtain ⟨s2, o, h1, h2⟩ := g; exact ⟨s2, o, k _ h1, h2⟩
end OwnKit

theorem own_elemL {s : State} {args : Array Value} {t : Term} {a : Addr} {cl : Cell} {j : Int32} {k : Int64} (ev : t.eval args s none [] s = some (.ref a)) (hc : s.heap[a]? = some cl) (h : (Jvm.Cond.eq (.elem t (.int j)) (.long k)).value args s none s [] = some true) : cl.slots[j.toNatClampNeg]? = some (.long k) := by
  have hb : (Term.long k).eval args s none [] s = some (.long k) := rfl
  cases ha : (Term.elem t (.int j)).eval args s none [] s with
  | none => simp [Cond.value, ha] at h
  | some x =>
    have q := (elem_in ha ev rfl hc).2
    cases x <;> simp [Cond.value, ha, hb] at h
    subst h; exact q
theorem own_lenI {s : State} {args : Array Value} {t : Term} {a : Addr} {cl : Cell} {ty : FieldType} {k : Int32} (ev : t.eval args s none [] s = some (.ref a)) (A : Arr s s.heap a cl ty) (h : (Jvm.Cond.eq (.length t) (.int k)).value args s none s [] = some true) : cl.slots.size < 2 ^ 31 ∧ cl.slots.size.toInt32 = k := by
  have hb : (Term.int k).eval args s none [] s = some (.int k) := rfl
  have hA : s.arrayAt? a = some cl := A.fin (Vm.Alike.refl _)
  by_cases hl : cl.slots.size < 2 ^ 31
  · have hf := len_f (o := none) (first := s) (idx := []) ev hA hl
    simp [Cond.value, hf, hb] at h
    exact ⟨hl, h⟩
  · simp [Cond.value, Term.eval, ev, hA, hl] at h

theorem pn_0 : plainName "com/example/sevenfold/sevenfold/Natural" = true := by first | (simp [plainName, overriddenIn]; done) | decide +kernel
theorem d1_0 : decode prog_5_method_8_code 0 = .ok (.iload_n 0, 1) := by decide +kernel
theorem d1_1 : decode prog_5_method_8_code 1 = .ok (.bipush 127, 2) := by decide +kernel
theorem d1_3 : decode prog_5_method_8_code 3 = .ok (.if_icmp .gt 12, 3) := by decide +kernel
theorem d1_6 : decode prog_5_method_8_code 6 = .ok (.aload_n 1, 1) := by decide +kernel
theorem d1_7 : decode prog_5_method_8_code 7 = .ok (.iload_n 2, 1) := by decide +kernel
theorem d1_8 : decode prog_5_method_8_code 8 = .ok (.iload_n 0, 1) := by decide +kernel
theorem d1_9 : decode prog_5_method_8_code 9 = .ok (.i2b, 1) := by decide +kernel
theorem d1_10 : decode prog_5_method_8_code 10 = .ok (.bastore, 1) := by decide +kernel
theorem d1_11 : decode prog_5_method_8_code 11 = .ok (.iload_n 2, 1) := by decide +kernel
theorem d1_12 : decode prog_5_method_8_code 12 = .ok (.iconst 1, 1) := by decide +kernel
theorem d1_13 : decode prog_5_method_8_code 13 = .ok (.iadd, 1) := by decide +kernel
theorem d1_14 : decode prog_5_method_8_code 14 = .ok (.ireturn, 1) := by decide +kernel
theorem ef_rm1_0A (m : MethodId) (p0 : Int32) (a1 : Addr) : entryFrame m #[(.int p0), (.ref a1), (.int (0 : Int32))] 4 = mkF m 0 #[.val (.int p0), .val (.ref a1), .val (.int (0 : Int32)), .unset] [] := by first | (simp [entryFrame, mkF, argsToLocals, Value.category]; done) | rfl
def Qrm1_0A (Z : State) (p0 : Int32) (a1 : Addr) (el0 : Int32) (el1 : Int32) (el2 : Int32) (el3 : Int32) (el4 : Int32) (el5 : Int32) (el6 : Int32) (el7 : Int32) (ka : ClassId) (wF : Addr) (kf : ClassId) (h0 : Heap) (n0 : Nat) (v : Option Value) (h : Heap) (L : List Loc) : Prop := v = some (.int (1 : Int32)) ∧ Fr n0 L ∧ Keep h0 h [a1] ∧ Arv Z h a1 ka .byte (8 : Int32) [(.int ((p0.toInt8.toInt32)).toInt8.toInt32), (.int el1), (.int el2), (.int el3), (.int el4), (.int el5), (.int el6), (.int el7)] (.int (0 : Int32))
set_option maxRecDepth 65536 in
set_option maxHeartbeats 40000000 in
theorem rm1_0A (l : Launch) (Z : State) (aw : Array Value) (hw : ∀ d ∈ tables_1, d.before aw Z = true) (ws : List Jvm.Cond) (p0 : Int32) (a1 : Addr) (el0 : Int32) (el1 : Int32) (el2 : Int32) (el3 : Int32) (el4 : Int32) (el5 : Int32) (el6 : Int32) (el7 : Int32) (ka : ClassId) (wF : Addr) (kf : ClassId) (h0 : Heap) (n0 : Nat) (Z0 : n0 ≤ h0.size) (S_FIRST_OF_LENGTH : Sta Z h0 "com/example/sevenfold/sevenfold/Natural" "FIRST_OF_LENGTH" "[J" (.ref wF)) (V_F : Arv Z h0 wF kf .long (10 : Int32) [(.long (0 : Int64)), (.long (0 : Int64)), (.long (128 : Int64)), (.long (16512 : Int64)), (.long (2113664 : Int64)), (.long (270549120 : Int64)), (.long (34630287488 : Int64)), (.long (4432676798592 : Int64)), (.long (567382630219904 : Int64)), (.long (72624976668147840 : Int64))] (.long (0 : Int64))) (V_a : Arv Z h0 a1 ka .byte (8 : Int32) [(.int el0), (.int el1), (.int el2), (.int el3), (.int el4), (.int el5), (.int el6), (.int el7)] (.int (0 : Int32))) (g_a1 : n0 ≤ a1) (hne : wF ≠ a1) (hA : ¬ ((127 : Int32) < p0)) :
    MetFree l (⟨"com/example/sevenfold/sevenfold/Natural", "writeCodePoint", "(I[BI)I"⟩ : MethodName) (head1 (Jvm.Cond.code (⟨"com/example/sevenfold/sevenfold/Natural", "writeCodePoint", "(I[BI)I"⟩ : MethodName) prog_5_method_8_code 4 (some .int) :: ws) ({ frames := 0, cells := 0, slots := 0, locals := 0 } : Room)) (fun a U => a = #[(.int p0), (.ref a1), (.int (0 : Int32))] ∧ Z.Warmed39 U.vm ∧ U.heap = h0) (fun _ _ _ _ _ => True) (fun _ U o U' => ∃ v L, o = .returned v ∧ Qrm1_0A Z p0 a1 el0 el1 el2 el3 el4 el5 el6 el7 ka wF kf h0 n0 v U'.heap L ∧ FrameEnd U o U' L ({ frames := 0, cells := 0, slots := 0, locals := 0 } : Room).cells ({ frames := 0, cells := 0, slots := 0, locals := 0 } : Room).slots) := by
  refine MetFree.of_bodySF (plainFor_of_name pn_0) hisR ?_
  intro p e s m args below meth c s₁ Bd hml0 hP hK
  obtain ⟨rfl, hZ, hh⟩ := hP
  have hx := Bd.exec
  have hby := Bd.bytes
  have hml : c.maxLocals = 4 := hml0
  have hown : s.vm.findClass "com/example/sevenfold/sevenfold/Natural" = some m.cls := findClass_of_methodNamed Bd.named
  have hnm := (name_of_methodNamed Bd.named Bd.method).1
  have X0 : Stand p l e ({ frames := 0, cells := 0, slots := 0, locals := 0 } : Room) s m #[(.int p0), (.ref a1), (.int (0 : Int32))] below meth c s₁ [] 0 0 := Stand.of_body Bd
  have e0 : s₁.heap = h0 := by rw [← hh, Bd.state]; rfl
  have N0 := Fr.nil n0
  have hlk := Bd.notSynchronized
  show OwnGo p.tables e below _ (s₁.setTop (entryFrame m #[(.int p0), (.ref a1), (.int (0 : Int32))] 4))
  rw [ef_rm1_0A m p0 a1]
  have K0 : Keep h0 h0 [a1] := Keep.refl _ _
  show OwnGo p.tables e below _ (s₁.setTop (mkF m 0 #[.val (.int p0), .val (.ref a1), .val (.int (0 : Int32)), .unset] []))
  refine OwnGo.of (A := s₁.setTop (mkF m 0 #[.val (.int p0), .val (.ref a1), .val (.int (0 : Int32)), .unset] [])) (B := s₁.setTop (mkF m 3 #[.val (.int p0), .val (.ref a1), .val (.int (0 : Int32)), .unset] [(.int (127 : Int32)), (.int p0)])) (fun t k => ?_) ?_
  · show Steps p.tables e below (s₁.setTop (mkF m 0 #[.val (.int p0), .val (.ref a1), .val (.int (0 : Int32)), .unset] [])) t
    refine XS.iloadN X0.here hx rfl (hb hby d1_0) rfl ?_
    show Steps p.tables e below (s₁.setTop (mkF m 1 #[.val (.int p0), .val (.ref a1), .val (.int (0 : Int32)), .unset] [(.int p0)])) t
    refine XS.bipush X0.here hx rfl (hb hby d1_1) ?_
    exact k
  have hc1 : ¬ ((127 : Int32) < p0) := hA
  refine OwnGo.of (A := s₁.setTop (mkF m 3 #[.val (.int p0), .val (.ref a1), .val (.int (0 : Int32)), .unset] [(.int (127 : Int32)), (.int p0)])) (B := s₁.setTop (mkF m 10 #[.val (.int p0), .val (.ref a1), .val (.int (0 : Int32)), .unset] [(.int (p0.toInt8.toInt32)), (.int (0 : Int32)), (.ref a1)])) (fun t k => ?_) ?_
  · show Steps p.tables e below (s₁.setTop (mkF m 3 #[.val (.int p0), .val (.ref a1), .val (.int (0 : Int32)), .unset] [(.int (127 : Int32)), (.int p0)])) t
    refine XS.icmpNo X0.here hx rfl (hb hby d1_3) rfl (flt hc1).2.2.1 ?_
    show Steps p.tables e below (s₁.setTop (mkF m 6 #[.val (.int p0), .val (.ref a1), .val (.int (0 : Int32)), .unset] [])) t
    refine XS.aloadN X0.here hx rfl (hb hby d1_6) rfl rfl ?_
    show Steps p.tables e below (s₁.setTop (mkF m 7 #[.val (.int p0), .val (.ref a1), .val (.int (0 : Int32)), .unset] [(.ref a1)])) t
    refine XS.iloadN X0.here hx rfl (hb hby d1_7) rfl ?_
    show Steps p.tables e below (s₁.setTop (mkF m 8 #[.val (.int p0), .val (.ref a1), .val (.int (0 : Int32)), .unset] [(.int (0 : Int32)), (.ref a1)])) t
    refine XS.iloadN X0.here hx rfl (hb hby d1_8) rfl ?_
    show Steps p.tables e below (s₁.setTop (mkF m 9 #[.val (.int p0), .val (.ref a1), .val (.int (0 : Int32)), .unset] [(.int p0), (.int (0 : Int32)), (.ref a1)])) t
    refine XS.i2b X0.here hx rfl (hb hby d1_9) rfl ?_
    exact k
  have cq2 := V_a
  obtain ⟨clq2, Arq2, qq2, Sq2, Nq2, Hq2, Gq2⟩ := cq2
  obtain ⟨T3, h3, X3, e3, W3, st3⟩ := stB X0 hx hZ e0 Arq2 (j := (0 : Int32)) (inb_of Sq2 ⟨by decide, by decide⟩) (g := (mkF m 10 #[.val (.int p0), .val (.ref a1), .val (.int (0 : Int32)), .unset] [(.int (p0.toInt8.toInt32)), (.int (0 : Int32)), (.ref a1)])) rfl rfl (hb hby d1_10)
  refine OwnGo.of st3 ?_
  have N3 := Fr.snoc X3 N0 g_a1
  have f4 : n0 ≤ h3.size := Nat.le_trans Z0 (Keep.of_wr W3).1
  have f5 : Keep h0 h3 [a1] := K0.wr W3 (Or.inl (List.mem_of_getElem? (i := 0) rfl))
  have f6 : Sta Z h3 "com/example/sevenfold/sevenfold/Natural" "FIRST_OF_LENGTH" "[J" (.ref wF) := S_FIRST_OF_LENGTH.wr W3
  have f7 : Arv Z h3 wF kf .long (10 : Int32) [(.long (0 : Int64)), (.long (0 : Int64)), (.long (128 : Int64)), (.long (16512 : Int64)), (.long (2113664 : Int64)), (.long (270549120 : Int64)), (.long (34630287488 : Int64)), (.long (4432676798592 : Int64)), (.long (567382630219904 : Int64)), (.long (72624976668147840 : Int64))] (.long (0 : Int64)) := V_F.other W3 hne
  have f8 : Arv Z h3 a1 ka .byte (8 : Int32) [(.int ((p0.toInt8.toInt32)).toInt8.toInt32), (.int el1), (.int el2), (.int el3), (.int el4), (.int el5), (.int el6), (.int el7)] (.int (0 : Int32)) := Arv.set Arq2 qq2 Sq2 Nq2 Hq2 Gq2 (fits_nar_byte _) W3 0 rfl (Nat.le_of_ble_eq_true rfl)
  show OwnGo p.tables e below _ (T3.setTop (mkF m 11 #[.val (.int p0), .val (.ref a1), .val (.int (0 : Int32)), .unset] []))
  refine OwnGo.of (A := T3.setTop (mkF m 11 #[.val (.int p0), .val (.ref a1), .val (.int (0 : Int32)), .unset] [])) (B := T3.setTop (mkF m 14 #[.val (.int p0), .val (.ref a1), .val (.int (0 : Int32)), .unset] [(.int ((0 : Int32) + (1 : Int32)))])) (fun t k => ?_) ?_
  · show Steps p.tables e below (T3.setTop (mkF m 11 #[.val (.int p0), .val (.ref a1), .val (.int (0 : Int32)), .unset] [])) t
    refine XS.iloadN X3.here hx rfl (hb hby d1_11) rfl ?_
    show Steps p.tables e below (T3.setTop (mkF m 12 #[.val (.int p0), .val (.ref a1), .val (.int (0 : Int32)), .unset] [(.int (0 : Int32))])) t
    refine XS.iconst X3.here hx rfl (hb hby d1_12) ?_
    show Steps p.tables e below (T3.setTop (mkF m 13 #[.val (.int p0), .val (.ref a1), .val (.int (0 : Int32)), .unset] [(.int (1 : Int32)), (.int (0 : Int32))])) t
    refine XS.iadd X3.here hx rfl (hb hby d1_13) rfl ?_
    exact k
  obtain ⟨fs, hr, hrun, hended, hW, hsame⟩ := X3.leave (v := some (.int ((0 : Int32) + (1 : Int32)))) (fun h => by rw [Bd.returns] at h; cases h) hlk
  refine ⟨_, _, ?_, hrun, hended, _, _, rfl, ?_, ⟨_, rfl⟩, hW, hsame.mono (by decide) (by decide)⟩
  · show Steps p.tables e below (T3.setTop (mkF m 14 #[.val (.int p0), .val (.ref a1), .val (.int (0 : Int32)), .unset] [(.int ((0 : Int32) + (1 : Int32)))])) _
    exact own_retI X3 hx Bd.returns (hb hby d1_14) hr
  · show Qrm1_0A Z p0 a1 el0 el1 el2 el3 el4 el5 el6 el7 ka wF kf h0 n0 _ (T3.setFrames fs).heap _
    rw [show (T3.setFrames fs).heap = h3 from e3]
    exact ⟨congrArg (fun z => some (Value.int z)) (by decide), N3, f5, f8⟩
theorem d1_15 : decode prog_5_method_8_code 15 = .ok (.iload_n 0, 1) := by decide +kernel
theorem d1_16 : decode prog_5_method_8_code 16 = .ok (.i2l, 1) := by decide +kernel
theorem d1_17 : decode prog_5_method_8_code 17 = .ok (.getstatic 58, 3) := by decide +kernel
theorem d1_20 : decode prog_5_method_8_code 20 = .ok (.iconst 3, 1) := by decide +kernel
theorem d1_21 : decode prog_5_method_8_code 21 = .ok (.laload, 1) := by decide +kernel
theorem d1_22 : decode prog_5_method_8_code 22 = .ok (.lcmp, 1) := by decide +kernel
theorem d1_23 : decode prog_5_method_8_code 23 = .ok (.ifCond .ge 38, 3) := by decide +kernel
theorem d1_26 : decode prog_5_method_8_code 26 = .ok (.iload_n 0, 1) := by decide +kernel
theorem d1_27 : decode prog_5_method_8_code 27 = .ok (.getstatic 58, 3) := by decide +kernel
theorem d1_30 : decode prog_5_method_8_code 30 = .ok (.iconst 2, 1) := by decide +kernel
theorem d1_31 : decode prog_5_method_8_code 31 = .ok (.laload, 1) := by decide +kernel
theorem d1_32 : decode prog_5_method_8_code 32 = .ok (.l2i, 1) := by decide +kernel
theorem d1_33 : decode prog_5_method_8_code 33 = .ok (.isub, 1) := by decide +kernel
theorem d1_34 : decode prog_5_method_8_code 34 = .ok (.istore_n 3, 1) := by decide +kernel
theorem d1_35 : decode prog_5_method_8_code 35 = .ok (.aload_n 1, 1) := by decide +kernel
theorem d1_36 : decode prog_5_method_8_code 36 = .ok (.iload_n 2, 1) := by decide +kernel
theorem d1_37 : decode prog_5_method_8_code 37 = .ok (.sipush 128, 3) := by decide +kernel
theorem d1_40 : decode prog_5_method_8_code 40 = .ok (.iload_n 3, 1) := by decide +kernel
theorem d1_41 : decode prog_5_method_8_code 41 = .ok (.bipush 7, 2) := by decide +kernel
theorem d1_43 : decode prog_5_method_8_code 43 = .ok (.iushr, 1) := by decide +kernel
theorem d1_44 : decode prog_5_method_8_code 44 = .ok (.ior, 1) := by decide +kernel
theorem d1_45 : decode prog_5_method_8_code 45 = .ok (.i2b, 1) := by decide +kernel
theorem d1_46 : decode prog_5_method_8_code 46 = .ok (.bastore, 1) := by decide +kernel
theorem d1_47 : decode prog_5_method_8_code 47 = .ok (.aload_n 1, 1) := by decide +kernel
theorem d1_48 : decode prog_5_method_8_code 48 = .ok (.iload_n 2, 1) := by decide +kernel
theorem d1_49 : decode prog_5_method_8_code 49 = .ok (.iconst 1, 1) := by decide +kernel
theorem d1_50 : decode prog_5_method_8_code 50 = .ok (.iadd, 1) := by decide +kernel
theorem d1_51 : decode prog_5_method_8_code 51 = .ok (.iload_n 3, 1) := by decide +kernel
theorem d1_52 : decode prog_5_method_8_code 52 = .ok (.bipush 127, 2) := by decide +kernel
theorem d1_54 : decode prog_5_method_8_code 54 = .ok (.iand, 1) := by decide +kernel
theorem d1_55 : decode prog_5_method_8_code 55 = .ok (.i2b, 1) := by decide +kernel
theorem d1_56 : decode prog_5_method_8_code 56 = .ok (.bastore, 1) := by decide +kernel
theorem d1_57 : decode prog_5_method_8_code 57 = .ok (.iload_n 2, 1) := by decide +kernel
theorem d1_58 : decode prog_5_method_8_code 58 = .ok (.iconst 2, 1) := by decide +kernel
theorem d1_59 : decode prog_5_method_8_code 59 = .ok (.iadd, 1) := by decide +kernel
theorem d1_60 : decode prog_5_method_8_code 60 = .ok (.ireturn, 1) := by decide +kernel
theorem ef_rm1_0B (m : MethodId) (p0 : Int32) (a1 : Addr) : entryFrame m #[(.int p0), (.ref a1), (.int (0 : Int32))] 4 = mkF m 0 #[.val (.int p0), .val (.ref a1), .val (.int (0 : Int32)), .unset] [] := by first | (simp [entryFrame, mkF, argsToLocals, Value.category]; done) | rfl
def Qrm1_0B (Z : State) (p0 : Int32) (a1 : Addr) (el0 : Int32) (el1 : Int32) (el2 : Int32) (el3 : Int32) (el4 : Int32) (el5 : Int32) (el6 : Int32) (el7 : Int32) (ka : ClassId) (wF : Addr) (kf : ClassId) (h0 : Heap) (n0 : Nat) (v : Option Value) (h : Heap) (L : List Loc) : Prop := v = some (.int (2 : Int32)) ∧ Fr n0 L ∧ Keep h0 h [a1] ∧ Arv Z h a1 ka .byte (8 : Int32) [(.int ((((128 : Int32) ||| (((p0 - ((128 : Int64).toInt32)).toUInt32 >>> ((7 : Int32) &&& 31).toUInt32).toInt32)).toInt8.toInt32)).toInt8.toInt32), (.int ((((p0 - ((128 : Int64).toInt32)) &&& (127 : Int32)).toInt8.toInt32)).toInt8.toInt32), (.int el2), (.int el3), (.int el4), (.int el5), (.int el6), (.int el7)] (.int (0 : Int32))
set_option maxRecDepth 65536 in
set_option maxHeartbeats 40000000 in
theorem rm1_0B (l : Launch) (Z : State) (aw : Array Value) (hw : ∀ d ∈ tables_1, d.before aw Z = true) (ws : List Jvm.Cond) (p0 : Int32) (a1 : Addr) (el0 : Int32) (el1 : Int32) (el2 : Int32) (el3 : Int32) (el4 : Int32) (el5 : Int32) (el6 : Int32) (el7 : Int32) (ka : ClassId) (wF : Addr) (kf : ClassId) (h0 : Heap) (n0 : Nat) (Z0 : n0 ≤ h0.size) (S_FIRST_OF_LENGTH : Sta Z h0 "com/example/sevenfold/sevenfold/Natural" "FIRST_OF_LENGTH" "[J" (.ref wF)) (V_F : Arv Z h0 wF kf .long (10 : Int32) [(.long (0 : Int64)), (.long (0 : Int64)), (.long (128 : Int64)), (.long (16512 : Int64)), (.long (2113664 : Int64)), (.long (270549120 : Int64)), (.long (34630287488 : Int64)), (.long (4432676798592 : Int64)), (.long (567382630219904 : Int64)), (.long (72624976668147840 : Int64))] (.long (0 : Int64))) (V_a : Arv Z h0 a1 ka .byte (8 : Int32) [(.int el0), (.int el1), (.int el2), (.int el3), (.int el4), (.int el5), (.int el6), (.int el7)] (.int (0 : Int32))) (g_a1 : n0 ≤ a1) (hne : wF ≠ a1) (hA : (127 : Int32) < p0) (hB : lcmpW (p0.toInt64) (16512 : Int64) < (0 : Int32)) :
    MetFree l (⟨"com/example/sevenfold/sevenfold/Natural", "writeCodePoint", "(I[BI)I"⟩ : MethodName) (head1 (Jvm.Cond.code (⟨"com/example/sevenfold/sevenfold/Natural", "writeCodePoint", "(I[BI)I"⟩ : MethodName) prog_5_method_8_code 4 (some .int) :: ws) ({ frames := 0, cells := 0, slots := 0, locals := 0 } : Room)) (fun a U => a = #[(.int p0), (.ref a1), (.int (0 : Int32))] ∧ Z.Warmed39 U.vm ∧ U.heap = h0) (fun _ _ _ _ _ => True) (fun _ U o U' => ∃ v L, o = .returned v ∧ Qrm1_0B Z p0 a1 el0 el1 el2 el3 el4 el5 el6 el7 ka wF kf h0 n0 v U'.heap L ∧ FrameEnd U o U' L ({ frames := 0, cells := 0, slots := 0, locals := 0 } : Room).cells ({ frames := 0, cells := 0, slots := 0, locals := 0 } : Room).slots) := by
  refine MetFree.of_bodySF (plainFor_of_name pn_0) hisR ?_
  intro p e s m args below meth c s₁ Bd hml0 hP hK
  obtain ⟨rfl, hZ, hh⟩ := hP
  have hx := Bd.exec
  have hby := Bd.bytes
  have hml : c.maxLocals = 4 := hml0
  have hown : s.vm.findClass "com/example/sevenfold/sevenfold/Natural" = some m.cls := findClass_of_methodNamed Bd.named
  have hnm := (name_of_methodNamed Bd.named Bd.method).1
  have X0 : Stand p l e ({ frames := 0, cells := 0, slots := 0, locals := 0 } : Room) s m #[(.int p0), (.ref a1), (.int (0 : Int32))] below meth c s₁ [] 0 0 := Stand.of_body Bd
  have e0 : s₁.heap = h0 := by rw [← hh, Bd.state]; rfl
  have N0 := Fr.nil n0
  have hlk := Bd.notSynchronized
  show OwnGo p.tables e below _ (s₁.setTop (entryFrame m #[(.int p0), (.ref a1), (.int (0 : Int32))] 4))
  rw [ef_rm1_0B m p0 a1]
  have K0 : Keep h0 h0 [a1] := Keep.refl _ _
  show OwnGo p.tables e below _ (s₁.setTop (mkF m 0 #[.val (.int p0), .val (.ref a1), .val (.int (0 : Int32)), .unset] []))
  refine OwnGo.of (A := s₁.setTop (mkF m 0 #[.val (.int p0), .val (.ref a1), .val (.int (0 : Int32)), .unset] [])) (B := s₁.setTop (mkF m 3 #[.val (.int p0), .val (.ref a1), .val (.int (0 : Int32)), .unset] [(.int (127 : Int32)), (.int p0)])) (fun t k => ?_) ?_
  · show Steps p.tables e below (s₁.setTop (mkF m 0 #[.val (.int p0), .val (.ref a1), .val (.int (0 : Int32)), .unset] [])) t
    refine XS.iloadN X0.here hx rfl (hb hby d1_0) rfl ?_
    show Steps p.tables e below (s₁.setTop (mkF m 1 #[.val (.int p0), .val (.ref a1), .val (.int (0 : Int32)), .unset] [(.int p0)])) t
    refine XS.bipush X0.here hx rfl (hb hby d1_1) ?_
    exact k
  have hc1 : (127 : Int32) < p0 := hA
  refine OwnGo.of (A := s₁.setTop (mkF m 3 #[.val (.int p0), .val (.ref a1), .val (.int (0 : Int32)), .unset] [(.int (127 : Int32)), (.int p0)])) (B := s₁.setTop (mkF m 17 #[.val (.int p0), .val (.ref a1), .val (.int (0 : Int32)), .unset] [(.long (p0.toInt64))])) (fun t k => ?_) ?_
  · show Steps p.tables e below (s₁.setTop (mkF m 3 #[.val (.int p0), .val (.ref a1), .val (.int (0 : Int32)), .unset] [(.int (127 : Int32)), (.int p0)])) t
    refine XS.icmpYes X0.here hx rfl (pc0 := 3) (pc' := 15) rfl (hb hby d1_3) rfl (tlt hc1).2.2.1 (by decide) (by decide) ?_
    show Steps p.tables e below (s₁.setTop (mkF m 15 #[.val (.int p0), .val (.ref a1), .val (.int (0 : Int32)), .unset] [])) t
    refine XS.iloadN X0.here hx rfl (hb hby d1_15) rfl ?_
    show Steps p.tables e below (s₁.setTop (mkF m 16 #[.val (.int p0), .val (.ref a1), .val (.int (0 : Int32)), .unset] [(.int p0)])) t
    refine XS.i2l X0.here hx rfl (hb hby d1_16) rfl ?_
    exact k
  obtain ⟨T2, X2, e2, st2⟩ := getS2 X0 hx hZ hown (host := "") (Or.inl (hw _ (List.mem_of_getElem? (i := 11) rfl))) Via.refl e0 S_FIRST_OF_LENGTH (g := (mkF m 17 #[.val (.int p0), .val (.ref a1), .val (.int (0 : Int32)), .unset] [(.long (p0.toInt64))])) rfl (hb hby d1_17)
  refine OwnGo.of st2 ?_
  show OwnGo p.tables e below _ (T2.setTop (mkF m 20 #[.val (.int p0), .val (.ref a1), .val (.int (0 : Int32)), .unset] [(.ref wF), (.long (p0.toInt64))]))
  refine OwnGo.of (A := T2.setTop (mkF m 20 #[.val (.int p0), .val (.ref a1), .val (.int (0 : Int32)), .unset] [(.ref wF), (.long (p0.toInt64))])) (B := T2.setTop (mkF m 21 #[.val (.int p0), .val (.ref a1), .val (.int (0 : Int32)), .unset] [(.int (3 : Int32)), (.ref wF), (.long (p0.toInt64))])) (fun t k => ?_) ?_
  · show Steps p.tables e below (T2.setTop (mkF m 20 #[.val (.int p0), .val (.ref a1), .val (.int (0 : Int32)), .unset] [(.ref wF), (.long (p0.toInt64))])) t
    refine XS.iconst X2.here hx rfl (hb hby d1_20) ?_
    exact k
  have cq3 := V_F
  obtain ⟨clq3, Arq3, qq3, Sq3, Nq3, Hq3, Gq3⟩ := cq3
  have hinq3 := inb_of (j := (3 : Int32)) Sq3 ⟨by decide, by decide⟩
  refine OwnGo.of (X2.laload hx (j := (3 : Int32)) (v := (.long (16512 : Int64))) (by rw [e2]; exact Arq3.1) (State.isArrayOf_alike hZ.alike Arq3.2.1) Arq3.2.2 hinq3 (Hq3.at hinq3 rfl) (g := (mkF m 21 #[.val (.int p0), .val (.ref a1), .val (.int (0 : Int32)), .unset] [(.int (3 : Int32)), (.ref wF), (.long (p0.toInt64))])) rfl rfl (hb hby d1_21)) ?_
  show OwnGo p.tables e below _ (T2.setTop (mkF m 22 #[.val (.int p0), .val (.ref a1), .val (.int (0 : Int32)), .unset] [(.long (16512 : Int64)), (.long (p0.toInt64))]))
  refine OwnGo.of (A := T2.setTop (mkF m 22 #[.val (.int p0), .val (.ref a1), .val (.int (0 : Int32)), .unset] [(.long (16512 : Int64)), (.long (p0.toInt64))])) (B := T2.setTop (mkF m 23 #[.val (.int p0), .val (.ref a1), .val (.int (0 : Int32)), .unset] [(.int (lcmpW (p0.toInt64) (16512 : Int64)))])) (fun t k => ?_) ?_
  · show Steps p.tables e below (T2.setTop (mkF m 22 #[.val (.int p0), .val (.ref a1), .val (.int (0 : Int32)), .unset] [(.long (16512 : Int64)), (.long (p0.toInt64))])) t
    refine XS.lcmp X2.here hx rfl (hb hby d1_22) rfl ?_
    exact k
  have hc4 : (lcmpW (p0.toInt64) (16512 : Int64)) < (0 : Int32) := hB
  refine OwnGo.of (A := T2.setTop (mkF m 23 #[.val (.int p0), .val (.ref a1), .val (.int (0 : Int32)), .unset] [(.int (lcmpW (p0.toInt64) (16512 : Int64)))])) (B := T2.setTop (mkF m 27 #[.val (.int p0), .val (.ref a1), .val (.int (0 : Int32)), .unset] [(.int p0)])) (fun t k => ?_) ?_
  · show Steps p.tables e below (T2.setTop (mkF m 23 #[.val (.int p0), .val (.ref a1), .val (.int (0 : Int32)), .unset] [(.int (lcmpW (p0.toInt64) (16512 : Int64)))])) t
    refine XS.ifNo X2.here hx rfl (hb hby d1_23) rfl ((if0 _ _).trans (tlt hc4).2.1) ?_
    show Steps p.tables e below (T2.setTop (mkF m 26 #[.val (.int p0), .val (.ref a1), .val (.int (0 : Int32)), .unset] [])) t
    refine XS.iloadN X2.here hx rfl (hb hby d1_26) rfl ?_
    exact k
  obtain ⟨T5, X5, e5, st5⟩ := getS2 X2 hx hZ hown (host := "") (Or.inl (hw _ (List.mem_of_getElem? (i := 11) rfl))) Via.refl e2 S_FIRST_OF_LENGTH (g := (mkF m 27 #[.val (.int p0), .val (.ref a1), .val (.int (0 : Int32)), .unset] [(.int p0)])) rfl (hb hby d1_27)
  refine OwnGo.of st5 ?_
  show OwnGo p.tables e below _ (T5.setTop (mkF m 30 #[.val (.int p0), .val (.ref a1), .val (.int (0 : Int32)), .unset] [(.ref wF), (.int p0)]))
  refine OwnGo.of (A := T5.setTop (mkF m 30 #[.val (.int p0), .val (.ref a1), .val (.int (0 : Int32)), .unset] [(.ref wF), (.int p0)])) (B := T5.setTop (mkF m 31 #[.val (.int p0), .val (.ref a1), .val (.int (0 : Int32)), .unset] [(.int (2 : Int32)), (.ref wF), (.int p0)])) (fun t k => ?_) ?_
  · show Steps p.tables e below (T5.setTop (mkF m 30 #[.val (.int p0), .val (.ref a1), .val (.int (0 : Int32)), .unset] [(.ref wF), (.int p0)])) t
    refine XS.iconst X5.here hx rfl (hb hby d1_30) ?_
    exact k
  have cq6 := V_F
  obtain ⟨clq6, Arq6, qq6, Sq6, Nq6, Hq6, Gq6⟩ := cq6
  have hinq6 := inb_of (j := (2 : Int32)) Sq6 ⟨by decide, by decide⟩
  refine OwnGo.of (X5.laload hx (j := (2 : Int32)) (v := (.long (128 : Int64))) (by rw [e5]; exact Arq6.1) (State.isArrayOf_alike hZ.alike Arq6.2.1) Arq6.2.2 hinq6 (Hq6.at hinq6 rfl) (g := (mkF m 31 #[.val (.int p0), .val (.ref a1), .val (.int (0 : Int32)), .unset] [(.int (2 : Int32)), (.ref wF), (.int p0)])) rfl rfl (hb hby d1_31)) ?_
  show OwnGo p.tables e below _ (T5.setTop (mkF m 32 #[.val (.int p0), .val (.ref a1), .val (.int (0 : Int32)), .unset] [(.long (128 : Int64)), (.int p0)]))
  refine OwnGo.of (A := T5.setTop (mkF m 32 #[.val (.int p0), .val (.ref a1), .val (.int (0 : Int32)), .unset] [(.long (128 : Int64)), (.int p0)])) (B := T5.setTop (mkF m 46 #[.val (.int p0), .val (.ref a1), .val (.int (0 : Int32)), .val (.int (p0 - ((128 : Int64).toInt32)))] [(.int (((128 : Int32) ||| (((p0 - ((128 : Int64).toInt32)).toUInt32 >>> ((7 : Int32) &&& 31).toUInt32).toInt32)).toInt8.toInt32)), (.int (0 : Int32)), (.ref a1)])) (fun t k => ?_) ?_
  · show Steps p.tables e below (T5.setTop (mkF m 32 #[.val (.int p0), .val (.ref a1), .val (.int (0 : Int32)), .unset] [(.long (128 : Int64)), (.int p0)])) t
    refine XS.l2i X5.here hx rfl (hb hby d1_32) rfl ?_
    show Steps p.tables e below (T5.setTop (mkF m 33 #[.val (.int p0), .val (.ref a1), .val (.int (0 : Int32)), .unset] [(.int ((128 : Int64).toInt32)), (.int p0)])) t
    refine XS.isub X5.here hx rfl (hb hby d1_33) rfl ?_
    show Steps p.tables e below (T5.setTop (mkF m 34 #[.val (.int p0), .val (.ref a1), .val (.int (0 : Int32)), .unset] [(.int (p0 - ((128 : Int64).toInt32)))])) t
    refine XS.istoreN X5.here hx rfl (hb hby d1_34) rfl (l' := #[.val (.int p0), .val (.ref a1), .val (.int (0 : Int32)), .val (.int (p0 - ((128 : Int64).toInt32)))]) rfl ?_
    show Steps p.tables e below (T5.setTop (mkF m 35 #[.val (.int p0), .val (.ref a1), .val (.int (0 : Int32)), .val (.int (p0 - ((128 : Int64).toInt32)))] [])) t
    refine XS.aloadN X5.here hx rfl (hb hby d1_35) rfl rfl ?_
    show Steps p.tables e below (T5.setTop (mkF m 36 #[.val (.int p0), .val (.ref a1), .val (.int (0 : Int32)), .val (.int (p0 - ((128 : Int64).toInt32)))] [(.ref a1)])) t
    refine XS.iloadN X5.here hx rfl (hb hby d1_36) rfl ?_
    show Steps p.tables e below (T5.setTop (mkF m 37 #[.val (.int p0), .val (.ref a1), .val (.int (0 : Int32)), .val (.int (p0 - ((128 : Int64).toInt32)))] [(.int (0 : Int32)), (.ref a1)])) t
    refine XS.sipush X5.here hx rfl (hb hby d1_37) ?_
    show Steps p.tables e below (T5.setTop (mkF m 40 #[.val (.int p0), .val (.ref a1), .val (.int (0 : Int32)), .val (.int (p0 - ((128 : Int64).toInt32)))] [(.int (128 : Int32)), (.int (0 : Int32)), (.ref a1)])) t
    refine XS.iloadN X5.here hx rfl (hb hby d1_40) rfl ?_
    show Steps p.tables e below (T5.setTop (mkF m 41 #[.val (.int p0), .val (.ref a1), .val (.int (0 : Int32)), .val (.int (p0 - ((128 : Int64).toInt32)))] [(.int (p0 - ((128 : Int64).toInt32))), (.int (128 : Int32)), (.int (0 : Int32)), (.ref a1)])) t
    refine XS.bipush X5.here hx rfl (hb hby d1_41) ?_
    show Steps p.tables e below (T5.setTop (mkF m 43 #[.val (.int p0), .val (.ref a1), .val (.int (0 : Int32)), .val (.int (p0 - ((128 : Int64).toInt32)))] [(.int (7 : Int32)), (.int (p0 - ((128 : Int64).toInt32))), (.int (128 : Int32)), (.int (0 : Int32)), (.ref a1)])) t
    refine XS.iushr X5.here hx rfl (hb hby d1_43) rfl ?_
    show Steps p.tables e below (T5.setTop (mkF m 44 #[.val (.int p0), .val (.ref a1), .val (.int (0 : Int32)), .val (.int (p0 - ((128 : Int64).toInt32)))] [(.int (((p0 - ((128 : Int64).toInt32)).toUInt32 >>> ((7 : Int32) &&& 31).toUInt32).toInt32)), (.int (128 : Int32)), (.int (0 : Int32)), (.ref a1)])) t
    refine XS.ior X5.here hx rfl (hb hby d1_44) rfl ?_
    show Steps p.tables e below (T5.setTop (mkF m 45 #[.val (.int p0), .val (.ref a1), .val (.int (0 : Int32)), .val (.int (p0 - ((128 : Int64).toInt32)))] [(.int ((128 : Int32) ||| (((p0 - ((128 : Int64).toInt32)).toUInt32 >>> ((7 : Int32) &&& 31).toUInt32).toInt32))), (.int (0 : Int32)), (.ref a1)])) t
    refine XS.i2b X5.here hx rfl (hb hby d1_45) rfl ?_
    exact k
  have cq7 := V_a
  obtain ⟨clq7, Arq7, qq7, Sq7, Nq7, Hq7, Gq7⟩ := cq7
  obtain ⟨T8, h8, X8, e8, W8, st8⟩ := stB X5 hx hZ e5 Arq7 (j := (0 : Int32)) (inb_of Sq7 ⟨by decide, by decide⟩) (g := (mkF m 46 #[.val (.int p0), .val (.ref a1), .val (.int (0 : Int32)), .val (.int (p0 - ((128 : Int64).toInt32)))] [(.int (((128 : Int32) ||| (((p0 - ((128 : Int64).toInt32)).toUInt32 >>> ((7 : Int32) &&& 31).toUInt32).toInt32)).toInt8.toInt32)), (.int (0 : Int32)), (.ref a1)])) rfl rfl (hb hby d1_46)
  refine OwnGo.of st8 ?_
  have N8 := Fr.snoc X8 N0 g_a1
  have f9 : n0 ≤ h8.size := Nat.le_trans Z0 (Keep.of_wr W8).1
  have f10 : Keep h0 h8 [a1] := K0.wr W8 (Or.inl (List.mem_of_getElem? (i := 0) rfl))
  have f11 : Sta Z h8 "com/example/sevenfold/sevenfold/Natural" "FIRST_OF_LENGTH" "[J" (.ref wF) := S_FIRST_OF_LENGTH.wr W8
  have f12 : Arv Z h8 wF kf .long (10 : Int32) [(.long (0 : Int64)), (.long (0 : Int64)), (.long (128 : Int64)), (.long (16512 : Int64)), (.long (2113664 : Int64)), (.long (270549120 : Int64)), (.long (34630287488 : Int64)), (.long (4432676798592 : Int64)), (.long (567382630219904 : Int64)), (.long (72624976668147840 : Int64))] (.long (0 : Int64)) := V_F.other W8 hne
  have f13 : Arv Z h8 a1 ka .byte (8 : Int32) [(.int ((((128 : Int32) ||| (((p0 - ((128 : Int64).toInt32)).toUInt32 >>> ((7 : Int32) &&& 31).toUInt32).toInt32)).toInt8.toInt32)).toInt8.toInt32), (.int el1), (.int el2), (.int el3), (.int el4), (.int el5), (.int el6), (.int el7)] (.int (0 : Int32)) := Arv.set Arq7 qq7 Sq7 Nq7 Hq7 Gq7 (fits_nar_byte _) W8 0 rfl (Nat.le_of_ble_eq_true rfl)
  show OwnGo p.tables e below _ (T8.setTop (mkF m 47 #[.val (.int p0), .val (.ref a1), .val (.int (0 : Int32)), .val (.int (p0 - ((128 : Int64).toInt32)))] []))
  refine OwnGo.of (A := T8.setTop (mkF m 47 #[.val (.int p0), .val (.ref a1), .val (.int (0 : Int32)), .val (.int (p0 - ((128 : Int64).toInt32)))] [])) (B := T8.setTop (mkF m 56 #[.val (.int p0), .val (.ref a1), .val (.int (0 : Int32)), .val (.int (p0 - ((128 : Int64).toInt32)))] [(.int (((p0 - ((128 : Int64).toInt32)) &&& (127 : Int32)).toInt8.toInt32)), (.int ((0 : Int32) + (1 : Int32))), (.ref a1)])) (fun t k => ?_) ?_
  · show Steps p.tables e below (T8.setTop (mkF m 47 #[.val (.int p0), .val (.ref a1), .val (.int (0 : Int32)), .val (.int (p0 - ((128 : Int64).toInt32)))] [])) t
    refine XS.aloadN X8.here hx rfl (hb hby d1_47) rfl rfl ?_
    show Steps p.tables e below (T8.setTop (mkF m 48 #[.val (.int p0), .val (.ref a1), .val (.int (0 : Int32)), .val (.int (p0 - ((128 : Int64).toInt32)))] [(.ref a1)])) t
    refine XS.iloadN X8.here hx rfl (hb hby d1_48) rfl ?_
    show Steps p.tables e below (T8.setTop (mkF m 49 #[.val (.int p0), .val (.ref a1), .val (.int (0 : Int32)), .val (.int (p0 - ((128 : Int64).toInt32)))] [(.int (0 : Int32)), (.ref a1)])) t
    refine XS.iconst X8.here hx rfl (hb hby d1_49) ?_
    show Steps p.tables e below (T8.setTop (mkF m 50 #[.val (.int p0), .val (.ref a1), .val (.int (0 : Int32)), .val (.int (p0 - ((128 : Int64).toInt32)))] [(.int (1 : Int32)), (.int (0 : Int32)), (.ref a1)])) t
    refine XS.iadd X8.here hx rfl (hb hby d1_50) rfl ?_
    show Steps p.tables e below (T8.setTop (mkF m 51 #[.val (.int p0), .val (.ref a1), .val (.int (0 : Int32)), .val (.int (p0 - ((128 : Int64).toInt32)))] [(.int ((0 : Int32) + (1 : Int32))), (.ref a1)])) t
    refine XS.iloadN X8.here hx rfl (hb hby d1_51) rfl ?_
    show Steps p.tables e below (T8.setTop (mkF m 52 #[.val (.int p0), .val (.ref a1), .val (.int (0 : Int32)), .val (.int (p0 - ((128 : Int64).toInt32)))] [(.int (p0 - ((128 : Int64).toInt32))), (.int ((0 : Int32) + (1 : Int32))), (.ref a1)])) t
    refine XS.bipush X8.here hx rfl (hb hby d1_52) ?_
    show Steps p.tables e below (T8.setTop (mkF m 54 #[.val (.int p0), .val (.ref a1), .val (.int (0 : Int32)), .val (.int (p0 - ((128 : Int64).toInt32)))] [(.int (127 : Int32)), (.int (p0 - ((128 : Int64).toInt32))), (.int ((0 : Int32) + (1 : Int32))), (.ref a1)])) t
    refine XS.iand X8.here hx rfl (hb hby d1_54) rfl ?_
    show Steps p.tables e below (T8.setTop (mkF m 55 #[.val (.int p0), .val (.ref a1), .val (.int (0 : Int32)), .val (.int (p0 - ((128 : Int64).toInt32)))] [(.int ((p0 - ((128 : Int64).toInt32)) &&& (127 : Int32))), (.int ((0 : Int32) + (1 : Int32))), (.ref a1)])) t
    refine XS.i2b X8.here hx rfl (hb hby d1_55) rfl ?_
    exact k
  rw [show ((0 : Int32) + (1 : Int32)) = (1 : Int32) from by decide]
  show OwnGo p.tables e below _ (T8.setTop (mkF m 56 #[.val (.int p0), .val (.ref a1), .val (.int (0 : Int32)), .val (.int (p0 - ((128 : Int64).toInt32)))] [(.int (((p0 - ((128 : Int64).toInt32)) &&& (127 : Int32)).toInt8.toInt32)), (.int (1 : Int32)), (.ref a1)]))
  have cq14 := f13
  obtain ⟨clq14, Arq14, qq14, Sq14, Nq14, Hq14, Gq14⟩ := cq14
  obtain ⟨T15, h15, X15, e15, W15, st15⟩ := stB X8 hx hZ e8 Arq14 (j := (1 : Int32)) (inb_of Sq14 ⟨by decide, by decide⟩) (g := (mkF m 56 #[.val (.int p0), .val (.ref a1), .val (.int (0 : Int32)), .val (.int (p0 - ((128 : Int64).toInt32)))] [(.int (((p0 - ((128 : Int64).toInt32)) &&& (127 : Int32)).toInt8.toInt32)), (.int (1 : Int32)), (.ref a1)])) rfl rfl (hb hby d1_56)
  refine OwnGo.of st15 ?_
  have N15 := Fr.snoc X15 N8 g_a1
  have f16 : n0 ≤ h15.size := Nat.le_trans f9 (Keep.of_wr W15).1
  have f17 : Keep h0 h15 [a1] := f10.wr W15 (Or.inl (List.mem_of_getElem? (i := 0) rfl))
  have f18 : Sta Z h15 "com/example/sevenfold/sevenfold/Natural" "FIRST_OF_LENGTH" "[J" (.ref wF) := f11.wr W15
  have f19 : Arv Z h15 wF kf .long (10 : Int32) [(.long (0 : Int64)), (.long (0 : Int64)), (.long (128 : Int64)), (.long (16512 : Int64)), (.long (2113664 : Int64)), (.long (270549120 : Int64)), (.long (34630287488 : Int64)), (.long (4432676798592 : Int64)), (.long (567382630219904 : Int64)), (.long (72624976668147840 : Int64))] (.long (0 : Int64)) := f12.other W15 hne
  have f20 : Arv Z h15 a1 ka .byte (8 : Int32) [(.int ((((128 : Int32) ||| (((p0 - ((128 : Int64).toInt32)).toUInt32 >>> ((7 : Int32) &&& 31).toUInt32).toInt32)).toInt8.toInt32)).toInt8.toInt32), (.int ((((p0 - ((128 : Int64).toInt32)) &&& (127 : Int32)).toInt8.toInt32)).toInt8.toInt32), (.int el2), (.int el3), (.int el4), (.int el5), (.int el6), (.int el7)] (.int (0 : Int32)) := Arv.set Arq14 qq14 Sq14 Nq14 Hq14 Gq14 (fits_nar_byte _) W15 1 rfl (Nat.le_of_ble_eq_true rfl)
  show OwnGo p.tables e below _ (T15.setTop (mkF m 57 #[.val (.int p0), .val (.ref a1), .val (.int (0 : Int32)), .val (.int (p0 - ((128 : Int64).toInt32)))] []))
  refine OwnGo.of (A := T15.setTop (mkF m 57 #[.val (.int p0), .val (.ref a1), .val (.int (0 : Int32)), .val (.int (p0 - ((128 : Int64).toInt32)))] [])) (B := T15.setTop (mkF m 60 #[.val (.int p0), .val (.ref a1), .val (.int (0 : Int32)), .val (.int (p0 - ((128 : Int64).toInt32)))] [(.int ((0 : Int32) + (2 : Int32)))])) (fun t k => ?_) ?_
  · show Steps p.tables e below (T15.setTop (mkF m 57 #[.val (.int p0), .val (.ref a1), .val (.int (0 : Int32)), .val (.int (p0 - ((128 : Int64).toInt32)))] [])) t
    refine XS.iloadN X15.here hx rfl (hb hby d1_57) rfl ?_
    show Steps p.tables e below (T15.setTop (mkF m 58 #[.val (.int p0), .val (.ref a1), .val (.int (0 : Int32)), .val (.int (p0 - ((128 : Int64).toInt32)))] [(.int (0 : Int32))])) t
    refine XS.iconst X15.here hx rfl (hb hby d1_58) ?_
    show Steps p.tables e below (T15.setTop (mkF m 59 #[.val (.int p0), .val (.ref a1), .val (.int (0 : Int32)), .val (.int (p0 - ((128 : Int64).toInt32)))] [(.int (2 : Int32)), (.int (0 : Int32))])) t
    refine XS.iadd X15.here hx rfl (hb hby d1_59) rfl ?_
    exact k
  obtain ⟨fs, hr, hrun, hended, hW, hsame⟩ := X15.leave (v := some (.int ((0 : Int32) + (2 : Int32)))) (fun h => by rw [Bd.returns] at h; cases h) hlk
  refine ⟨_, _, ?_, hrun, hended, _, _, rfl, ?_, ⟨_, rfl⟩, hW, hsame.mono (by decide) (by decide)⟩
  · show Steps p.tables e below (T15.setTop (mkF m 60 #[.val (.int p0), .val (.ref a1), .val (.int (0 : Int32)), .val (.int (p0 - ((128 : Int64).toInt32)))] [(.int ((0 : Int32) + (2 : Int32)))])) _
    exact own_retI X15 hx Bd.returns (hb hby d1_60) hr
  · show Qrm1_0B Z p0 a1 el0 el1 el2 el3 el4 el5 el6 el7 ka wF kf h0 n0 _ (T15.setFrames fs).heap _
    rw [show (T15.setFrames fs).heap = h15 from e15]
    exact ⟨congrArg (fun z => some (Value.int z)) (by decide), N15, f17, f20⟩
theorem d1_61 : decode prog_5_method_8_code 61 = .ok (.iload_n 0, 1) := by decide +kernel
theorem d1_62 : decode prog_5_method_8_code 62 = .ok (.getstatic 58, 3) := by decide +kernel
theorem d1_65 : decode prog_5_method_8_code 65 = .ok (.iconst 3, 1) := by decide +kernel
theorem d1_66 : decode prog_5_method_8_code 66 = .ok (.laload, 1) := by decide +kernel
theorem d1_67 : decode prog_5_method_8_code 67 = .ok (.l2i, 1) := by decide +kernel
theorem d1_68 : decode prog_5_method_8_code 68 = .ok (.isub, 1) := by decide +kernel
theorem d1_69 : decode prog_5_method_8_code 69 = .ok (.istore_n 3, 1) := by decide +kernel
theorem d1_70 : decode prog_5_method_8_code 70 = .ok (.aload_n 1, 1) := by decide +kernel
theorem d1_71 : decode prog_5_method_8_code 71 = .ok (.iload_n 2, 1) := by decide +kernel
theorem d1_72 : decode prog_5_method_8_code 72 = .ok (.sipush 128, 3) := by decide +kernel
theorem d1_75 : decode prog_5_method_8_code 75 = .ok (.iload_n 3, 1) := by decide +kernel
theorem d1_76 : decode prog_5_method_8_code 76 = .ok (.bipush 14, 2) := by decide +kernel
theorem d1_78 : decode prog_5_method_8_code 78 = .ok (.iushr, 1) := by decide +kernel
theorem d1_79 : decode prog_5_method_8_code 79 = .ok (.ior, 1) := by decide +kernel
theorem d1_80 : decode prog_5_method_8_code 80 = .ok (.i2b, 1) := by decide +kernel
theorem d1_81 : decode prog_5_method_8_code 81 = .ok (.bastore, 1) := by decide +kernel
theorem d1_82 : decode prog_5_method_8_code 82 = .ok (.aload_n 1, 1) := by decide +kernel
theorem d1_83 : decode prog_5_method_8_code 83 = .ok (.iload_n 2, 1) := by decide +kernel
theorem d1_84 : decode prog_5_method_8_code 84 = .ok (.iconst 1, 1) := by decide +kernel
theorem d1_85 : decode prog_5_method_8_code 85 = .ok (.iadd, 1) := by decide +kernel
theorem d1_86 : decode prog_5_method_8_code 86 = .ok (.sipush 128, 3) := by decide +kernel
theorem d1_89 : decode prog_5_method_8_code 89 = .ok (.iload_n 3, 1) := by decide +kernel
theorem d1_90 : decode prog_5_method_8_code 90 = .ok (.bipush 7, 2) := by decide +kernel
theorem d1_92 : decode prog_5_method_8_code 92 = .ok (.iushr, 1) := by decide +kernel
theorem d1_93 : decode prog_5_method_8_code 93 = .ok (.bipush 127, 2) := by decide +kernel
theorem d1_95 : decode prog_5_method_8_code 95 = .ok (.iand, 1) := by decide +kernel
theorem d1_96 : decode prog_5_method_8_code 96 = .ok (.ior, 1) := by decide +kernel
theorem d1_97 : decode prog_5_method_8_code 97 = .ok (.i2b, 1) := by decide +kernel
theorem d1_98 : decode prog_5_method_8_code 98 = .ok (.bastore, 1) := by decide +kernel
theorem d1_99 : decode prog_5_method_8_code 99 = .ok (.aload_n 1, 1) := by decide +kernel
theorem d1_100 : decode prog_5_method_8_code 100 = .ok (.iload_n 2, 1) := by decide +kernel
theorem d1_101 : decode prog_5_method_8_code 101 = .ok (.iconst 2, 1) := by decide +kernel
theorem d1_102 : decode prog_5_method_8_code 102 = .ok (.iadd, 1) := by decide +kernel
theorem d1_103 : decode prog_5_method_8_code 103 = .ok (.iload_n 3, 1) := by decide +kernel
theorem d1_104 : decode prog_5_method_8_code 104 = .ok (.bipush 127, 2) := by decide +kernel
theorem d1_106 : decode prog_5_method_8_code 106 = .ok (.iand, 1) := by decide +kernel
theorem d1_107 : decode prog_5_method_8_code 107 = .ok (.i2b, 1) := by decide +kernel
theorem d1_108 : decode prog_5_method_8_code 108 = .ok (.bastore, 1) := by decide +kernel
theorem d1_109 : decode prog_5_method_8_code 109 = .ok (.iload_n 2, 1) := by decide +kernel
theorem d1_110 : decode prog_5_method_8_code 110 = .ok (.iconst 3, 1) := by decide +kernel
theorem d1_111 : decode prog_5_method_8_code 111 = .ok (.iadd, 1) := by decide +kernel
theorem d1_112 : decode prog_5_method_8_code 112 = .ok (.ireturn, 1) := by decide +kernel
theorem ef_rm1_0C (m : MethodId) (p0 : Int32) (a1 : Addr) : entryFrame m #[(.int p0), (.ref a1), (.int (0 : Int32))] 4 = mkF m 0 #[.val (.int p0), .val (.ref a1), .val (.int (0 : Int32)), .unset] [] := by first | (simp [entryFrame, mkF, argsToLocals, Value.category]; done) | rfl
def Qrm1_0C (Z : State) (p0 : Int32) (a1 : Addr) (el0 : Int32) (el1 : Int32) (el2 : Int32) (el3 : Int32) (el4 : Int32) (el5 : Int32) (el6 : Int32) (el7 : Int32) (ka : ClassId) (wF : Addr) (kf : ClassId) (h0 : Heap) (n0 : Nat) (v : Option Value) (h : Heap) (L : List Loc) : Prop := v = some (.int (3 : Int32)) ∧ Fr n0 L ∧ Keep h0 h [a1] ∧ Arv Z h a1 ka .byte (8 : Int32) [(.int ((((128 : Int32) ||| (((p0 - ((16512 : Int64).toInt32)).toUInt32 >>> ((14 : Int32) &&& 31).toUInt32).toInt32)).toInt8.toInt32)).toInt8.toInt32), (.int ((((128 : Int32) ||| ((((p0 - ((16512 : Int64).toInt32)).toUInt32 >>> ((7 : Int32) &&& 31).toUInt32).toInt32) &&& (127 : Int32))).toInt8.toInt32)).toInt8.toInt32), (.int ((((p0 - ((16512 : Int64).toInt32)) &&& (127 : Int32)).toInt8.toInt32)).toInt8.toInt32), (.int el3), (.int el4), (.int el5), (.int el6), (.int el7)] (.int (0 : Int32))
set_option maxRecDepth 65536 in
set_option maxHeartbeats 40000000 in
theorem rm1_0C (l : Launch) (Z : State) (aw : Array Value) (hw : ∀ d ∈ tables_1, d.before aw Z = true) (ws : List Jvm.Cond) (p0 : Int32) (a1 : Addr) (el0 : Int32) (el1 : Int32) (el2 : Int32) (el3 : Int32) (el4 : Int32) (el5 : Int32) (el6 : Int32) (el7 : Int32) (ka : ClassId) (wF : Addr) (kf : ClassId) (h0 : Heap) (n0 : Nat) (Z0 : n0 ≤ h0.size) (S_FIRST_OF_LENGTH : Sta Z h0 "com/example/sevenfold/sevenfold/Natural" "FIRST_OF_LENGTH" "[J" (.ref wF)) (V_F : Arv Z h0 wF kf .long (10 : Int32) [(.long (0 : Int64)), (.long (0 : Int64)), (.long (128 : Int64)), (.long (16512 : Int64)), (.long (2113664 : Int64)), (.long (270549120 : Int64)), (.long (34630287488 : Int64)), (.long (4432676798592 : Int64)), (.long (567382630219904 : Int64)), (.long (72624976668147840 : Int64))] (.long (0 : Int64))) (V_a : Arv Z h0 a1 ka .byte (8 : Int32) [(.int el0), (.int el1), (.int el2), (.int el3), (.int el4), (.int el5), (.int el6), (.int el7)] (.int (0 : Int32))) (g_a1 : n0 ≤ a1) (hne : wF ≠ a1) (hA : (127 : Int32) < p0) (hB : ¬ (lcmpW (p0.toInt64) (16512 : Int64) < (0 : Int32))) :
    MetFree l (⟨"com/example/sevenfold/sevenfold/Natural", "writeCodePoint", "(I[BI)I"⟩ : MethodName) (head1 (Jvm.Cond.code (⟨"com/example/sevenfold/sevenfold/Natural", "writeCodePoint", "(I[BI)I"⟩ : MethodName) prog_5_method_8_code 4 (some .int) :: ws) ({ frames := 0, cells := 0, slots := 0, locals := 0 } : Room)) (fun a U => a = #[(.int p0), (.ref a1), (.int (0 : Int32))] ∧ Z.Warmed39 U.vm ∧ U.heap = h0) (fun _ _ _ _ _ => True) (fun _ U o U' => ∃ v L, o = .returned v ∧ Qrm1_0C Z p0 a1 el0 el1 el2 el3 el4 el5 el6 el7 ka wF kf h0 n0 v U'.heap L ∧ FrameEnd U o U' L ({ frames := 0, cells := 0, slots := 0, locals := 0 } : Room).cells ({ frames := 0, cells := 0, slots := 0, locals := 0 } : Room).slots) := by
  refine MetFree.of_bodySF (plainFor_of_name pn_0) hisR ?_
  intro p e s m args below meth c s₁ Bd hml0 hP hK
  obtain ⟨rfl, hZ, hh⟩ := hP
  have hx := Bd.exec
  have hby := Bd.bytes
  have hml : c.maxLocals = 4 := hml0
  have hown : s.vm.findClass "com/example/sevenfold/sevenfold/Natural" = some m.cls := findClass_of_methodNamed Bd.named
  have hnm := (name_of_methodNamed Bd.named Bd.method).1
  have X0 : Stand p l e ({ frames := 0, cells := 0, slots := 0, locals := 0 } : Room) s m #[(.int p0), (.ref a1), (.int (0 : Int32))] below meth c s₁ [] 0 0 := Stand.of_body Bd
  have e0 : s₁.heap = h0 := by rw [← hh, Bd.state]; rfl
  have N0 := Fr.nil n0
  have hlk := Bd.notSynchronized
  show OwnGo p.tables e below _ (s₁.setTop (entryFrame m #[(.int p0), (.ref a1), (.int (0 : Int32))] 4))
  rw [ef_rm1_0C m p0 a1]
  have K0 : Keep h0 h0 [a1] := Keep.refl _ _
  show OwnGo p.tables e below _ (s₁.setTop (mkF m 0 #[.val (.int p0), .val (.ref a1), .val (.int (0 : Int32)), .unset] []))
  refine OwnGo.of (A := s₁.setTop (mkF m 0 #[.val (.int p0), .val (.ref a1), .val (.int (0 : Int32)), .unset] [])) (B := s₁.setTop (mkF m 3 #[.val (.int p0), .val (.ref a1), .val (.int (0 : Int32)), .unset] [(.int (127 : Int32)), (.int p0)])) (fun t k => ?_) ?_
  · show Steps p.tables e below (s₁.setTop (mkF m 0 #[.val (.int p0), .val (.ref a1), .val (.int (0 : Int32)), .unset] [])) t
    refine XS.iloadN X0.here hx rfl (hb hby d1_0) rfl ?_
    show Steps p.tables e below (s₁.setTop (mkF m 1 #[.val (.int p0), .val (.ref a1), .val (.int (0 : Int32)), .unset] [(.int p0)])) t
    refine XS.bipush X0.here hx rfl (hb hby d1_1) ?_
    exact k
  have hc1 : (127 : Int32) < p0 := hA
  refine OwnGo.of (A := s₁.setTop (mkF m 3 #[.val (.int p0), .val (.ref a1), .val (.int (0 : Int32)), .unset] [(.int (127 : Int32)), (.int p0)])) (B := s₁.setTop (mkF m 17 #[.val (.int p0), .val (.ref a1), .val (.int (0 : Int32)), .unset] [(.long (p0.toInt64))])) (fun t k => ?_) ?_
  · show Steps p.tables e below (s₁.setTop (mkF m 3 #[.val (.int p0), .val (.ref a1), .val (.int (0 : Int32)), .unset] [(.int (127 : Int32)), (.int p0)])) t
    refine XS.icmpYes X0.here hx rfl (pc0 := 3) (pc' := 15) rfl (hb hby d1_3) rfl (tlt hc1).2.2.1 (by decide) (by decide) ?_
    show Steps p.tables e below (s₁.setTop (mkF m 15 #[.val (.int p0), .val (.ref a1), .val (.int (0 : Int32)), .unset] [])) t
    refine XS.iloadN X0.here hx rfl (hb hby d1_15) rfl ?_
    show Steps p.tables e below (s₁.setTop (mkF m 16 #[.val (.int p0), .val (.ref a1), .val (.int (0 : Int32)), .unset] [(.int p0)])) t
    refine XS.i2l X0.here hx rfl (hb hby d1_16) rfl ?_
    exact k
  obtain ⟨T2, X2, e2, st2⟩ := getS2 X0 hx hZ hown (host := "") (Or.inl (hw _ (List.mem_of_getElem? (i := 11) rfl))) Via.refl e0 S_FIRST_OF_LENGTH (g := (mkF m 17 #[.val (.int p0), .val (.ref a1), .val (.int (0 : Int32)), .unset] [(.long (p0.toInt64))])) rfl (hb hby d1_17)
  refine OwnGo.of st2 ?_
  show OwnGo p.tables e below _ (T2.setTop (mkF m 20 #[.val (.int p0), .val (.ref a1), .val (.int (0 : Int32)), .unset] [(.ref wF), (.long (p0.toInt64))]))
  refine OwnGo.of (A := T2.setTop (mkF m 20 #[.val (.int p0), .val (.ref a1), .val (.int (0 : Int32)), .unset] [(.ref wF), (.long (p0.toInt64))])) (B := T2.setTop (mkF m 21 #[.val (.int p0), .val (.ref a1), .val (.int (0 : Int32)), .unset] [(.int (3 : Int32)), (.ref wF), (.long (p0.toInt64))])) (fun t k => ?_) ?_
  · show Steps p.tables e below (T2.setTop (mkF m 20 #[.val (.int p0), .val (.ref a1), .val (.int (0 : Int32)), .unset] [(.ref wF), (.long (p0.toInt64))])) t
    refine XS.iconst X2.here hx rfl (hb hby d1_20) ?_
    exact k
  have cq3 := V_F
  obtain ⟨clq3, Arq3, qq3, Sq3, Nq3, Hq3, Gq3⟩ := cq3
  have hinq3 := inb_of (j := (3 : Int32)) Sq3 ⟨by decide, by decide⟩
  refine OwnGo.of (X2.laload hx (j := (3 : Int32)) (v := (.long (16512 : Int64))) (by rw [e2]; exact Arq3.1) (State.isArrayOf_alike hZ.alike Arq3.2.1) Arq3.2.2 hinq3 (Hq3.at hinq3 rfl) (g := (mkF m 21 #[.val (.int p0), .val (.ref a1), .val (.int (0 : Int32)), .unset] [(.int (3 : Int32)), (.ref wF), (.long (p0.toInt64))])) rfl rfl (hb hby d1_21)) ?_
  show OwnGo p.tables e below _ (T2.setTop (mkF m 22 #[.val (.int p0), .val (.ref a1), .val (.int (0 : Int32)), .unset] [(.long (16512 : Int64)), (.long (p0.toInt64))]))
  refine OwnGo.of (A := T2.setTop (mkF m 22 #[.val (.int p0), .val (.ref a1), .val (.int (0 : Int32)), .unset] [(.long (16512 : Int64)), (.long (p0.toInt64))])) (B := T2.setTop (mkF m 23 #[.val (.int p0), .val (.ref a1), .val (.int (0 : Int32)), .unset] [(.int (lcmpW (p0.toInt64) (16512 : Int64)))])) (fun t k => ?_) ?_
  · show Steps p.tables e below (T2.setTop (mkF m 22 #[.val (.int p0), .val (.ref a1), .val (.int (0 : Int32)), .unset] [(.long (16512 : Int64)), (.long (p0.toInt64))])) t
    refine XS.lcmp X2.here hx rfl (hb hby d1_22) rfl ?_
    exact k
  have hc4 : ¬ ((lcmpW (p0.toInt64) (16512 : Int64)) < (0 : Int32)) := hB
  refine OwnGo.of (A := T2.setTop (mkF m 23 #[.val (.int p0), .val (.ref a1), .val (.int (0 : Int32)), .unset] [(.int (lcmpW (p0.toInt64) (16512 : Int64)))])) (B := T2.setTop (mkF m 62 #[.val (.int p0), .val (.ref a1), .val (.int (0 : Int32)), .unset] [(.int p0)])) (fun t k => ?_) ?_
  · show Steps p.tables e below (T2.setTop (mkF m 23 #[.val (.int p0), .val (.ref a1), .val (.int (0 : Int32)), .unset] [(.int (lcmpW (p0.toInt64) (16512 : Int64)))])) t
    refine XS.ifYes X2.here hx rfl (pc0 := 23) (pc' := 61) rfl (hb hby d1_23) rfl ((if0 _ _).trans (flt hc4).2.1) (by decide) (by decide) ?_
    show Steps p.tables e below (T2.setTop (mkF m 61 #[.val (.int p0), .val (.ref a1), .val (.int (0 : Int32)), .unset] [])) t
    refine XS.iloadN X2.here hx rfl (hb hby d1_61) rfl ?_
    exact k
  obtain ⟨T5, X5, e5, st5⟩ := getS2 X2 hx hZ hown (host := "") (Or.inl (hw _ (List.mem_of_getElem? (i := 11) rfl))) Via.refl e2 S_FIRST_OF_LENGTH (g := (mkF m 62 #[.val (.int p0), .val (.ref a1), .val (.int (0 : Int32)), .unset] [(.int p0)])) rfl (hb hby d1_62)
  refine OwnGo.of st5 ?_
  show OwnGo p.tables e below _ (T5.setTop (mkF m 65 #[.val (.int p0), .val (.ref a1), .val (.int (0 : Int32)), .unset] [(.ref wF), (.int p0)]))
  refine OwnGo.of (A := T5.setTop (mkF m 65 #[.val (.int p0), .val (.ref a1), .val (.int (0 : Int32)), .unset] [(.ref wF), (.int p0)])) (B := T5.setTop (mkF m 66 #[.val (.int p0), .val (.ref a1), .val (.int (0 : Int32)), .unset] [(.int (3 : Int32)), (.ref wF), (.int p0)])) (fun t k => ?_) ?_
  · show Steps p.tables e below (T5.setTop (mkF m 65 #[.val (.int p0), .val (.ref a1), .val (.int (0 : Int32)), .unset] [(.ref wF), (.int p0)])) t
    refine XS.iconst X5.here hx rfl (hb hby d1_65) ?_
    exact k
  have cq6 := V_F
  obtain ⟨clq6, Arq6, qq6, Sq6, Nq6, Hq6, Gq6⟩ := cq6
  have hinq6 := inb_of (j := (3 : Int32)) Sq6 ⟨by decide, by decide⟩
  refine OwnGo.of (X5.laload hx (j := (3 : Int32)) (v := (.long (16512 : Int64))) (by rw [e5]; exact Arq6.1) (State.isArrayOf_alike hZ.alike Arq6.2.1) Arq6.2.2 hinq6 (Hq6.at hinq6 rfl) (g := (mkF m 66 #[.val (.int p0), .val (.ref a1), .val (.int (0 : Int32)), .unset] [(.int (3 : Int32)), (.ref wF), (.int p0)])) rfl rfl (hb hby d1_66)) ?_
  show OwnGo p.tables e below _ (T5.setTop (mkF m 67 #[.val (.int p0), .val (.ref a1), .val (.int (0 : Int32)), .unset] [(.long (16512 : Int64)), (.int p0)]))
  refine OwnGo.of (A := T5.setTop (mkF m 67 #[.val (.int p0), .val (.ref a1), .val (.int (0 : Int32)), .unset] [(.long (16512 : Int64)), (.int p0)])) (B := T5.setTop (mkF m 81 #[.val (.int p0), .val (.ref a1), .val (.int (0 : Int32)), .val (.int (p0 - ((16512 : Int64).toInt32)))] [(.int (((128 : Int32) ||| (((p0 - ((16512 : Int64).toInt32)).toUInt32 >>> ((14 : Int32) &&& 31).toUInt32).toInt32)).toInt8.toInt32)), (.int (0 : Int32)), (.ref a1)])) (fun t k => ?_) ?_
  · show Steps p.tables e below (T5.setTop (mkF m 67 #[.val (.int p0), .val (.ref a1), .val (.int (0 : Int32)), .unset] [(.long (16512 : Int64)), (.int p0)])) t
    refine XS.l2i X5.here hx rfl (hb hby d1_67) rfl ?_
    show Steps p.tables e below (T5.setTop (mkF m 68 #[.val (.int p0), .val (.ref a1), .val (.int (0 : Int32)), .unset] [(.int ((16512 : Int64).toInt32)), (.int p0)])) t
    refine XS.isub X5.here hx rfl (hb hby d1_68) rfl ?_
    show Steps p.tables e below (T5.setTop (mkF m 69 #[.val (.int p0), .val (.ref a1), .val (.int (0 : Int32)), .unset] [(.int (p0 - ((16512 : Int64).toInt32)))])) t
    refine XS.istoreN X5.here hx rfl (hb hby d1_69) rfl (l' := #[.val (.int p0), .val (.ref a1), .val (.int (0 : Int32)), .val (.int (p0 - ((16512 : Int64).toInt32)))]) rfl ?_
    show Steps p.tables e below (T5.setTop (mkF m 70 #[.val (.int p0), .val (.ref a1), .val (.int (0 : Int32)), .val (.int (p0 - ((16512 : Int64).toInt32)))] [])) t
    refine XS.aloadN X5.here hx rfl (hb hby d1_70) rfl rfl ?_
    show Steps p.tables e below (T5.setTop (mkF m 71 #[.val (.int p0), .val (.ref a1), .val (.int (0 : Int32)), .val (.int (p0 - ((16512 : Int64).toInt32)))] [(.ref a1)])) t
    refine XS.iloadN X5.here hx rfl (hb hby d1_71) rfl ?_
    show Steps p.tables e below (T5.setTop (mkF m 72 #[.val (.int p0), .val (.ref a1), .val (.int (0 : Int32)), .val (.int (p0 - ((16512 : Int64).toInt32)))] [(.int (0 : Int32)), (.ref a1)])) t
    refine XS.sipush X5.here hx rfl (hb hby d1_72) ?_
    show Steps p.tables e below (T5.setTop (mkF m 75 #[.val (.int p0), .val (.ref a1), .val (.int (0 : Int32)), .val (.int (p0 - ((16512 : Int64).toInt32)))] [(.int (128 : Int32)), (.int (0 : Int32)), (.ref a1)])) t
    refine XS.iloadN X5.here hx rfl (hb hby d1_75) rfl ?_
    show Steps p.tables e below (T5.setTop (mkF m 76 #[.val (.int p0), .val (.ref a1), .val (.int (0 : Int32)), .val (.int (p0 - ((16512 : Int64).toInt32)))] [(.int (p0 - ((16512 : Int64).toInt32))), (.int (128 : Int32)), (.int (0 : Int32)), (.ref a1)])) t
    refine XS.bipush X5.here hx rfl (hb hby d1_76) ?_
    show Steps p.tables e below (T5.setTop (mkF m 78 #[.val (.int p0), .val (.ref a1), .val (.int (0 : Int32)), .val (.int (p0 - ((16512 : Int64).toInt32)))] [(.int (14 : Int32)), (.int (p0 - ((16512 : Int64).toInt32))), (.int (128 : Int32)), (.int (0 : Int32)), (.ref a1)])) t
    refine XS.iushr X5.here hx rfl (hb hby d1_78) rfl ?_
    show Steps p.tables e below (T5.setTop (mkF m 79 #[.val (.int p0), .val (.ref a1), .val (.int (0 : Int32)), .val (.int (p0 - ((16512 : Int64).toInt32)))] [(.int (((p0 - ((16512 : Int64).toInt32)).toUInt32 >>> ((14 : Int32) &&& 31).toUInt32).toInt32)), (.int (128 : Int32)), (.int (0 : Int32)), (.ref a1)])) t
    refine XS.ior X5.here hx rfl (hb hby d1_79) rfl ?_
    show Steps p.tables e below (T5.setTop (mkF m 80 #[.val (.int p0), .val (.ref a1), .val (.int (0 : Int32)), .val (.int (p0 - ((16512 : Int64).toInt32)))] [(.int ((128 : Int32) ||| (((p0 - ((16512 : Int64).toInt32)).toUInt32 >>> ((14 : Int32) &&& 31).toUInt32).toInt32))), (.int (0 : Int32)), (.ref a1)])) t
    refine XS.i2b X5.here hx rfl (hb hby d1_80) rfl ?_
    exact k
  have cq7 := V_a
  obtain ⟨clq7, Arq7, qq7, Sq7, Nq7, Hq7, Gq7⟩ := cq7
  obtain ⟨T8, h8, X8, e8, W8, st8⟩ := stB X5 hx hZ e5 Arq7 (j := (0 : Int32)) (inb_of Sq7 ⟨by decide, by decide⟩) (g := (mkF m 81 #[.val (.int p0), .val (.ref a1), .val (.int (0 : Int32)), .val (.int (p0 - ((16512 : Int64).toInt32)))] [(.int (((128 : Int32) ||| (((p0 - ((16512 : Int64).toInt32)).toUInt32 >>> ((14 : Int32) &&& 31).toUInt32).toInt32)).toInt8.toInt32)), (.int (0 : Int32)), (.ref a1)])) rfl rfl (hb hby d1_81)
  refine OwnGo.of st8 ?_
  have N8 := Fr.snoc X8 N0 g_a1
  have f9 : n0 ≤ h8.size := Nat.le_trans Z0 (Keep.of_wr W8).1
  have f10 : Keep h0 h8 [a1] := K0.wr W8 (Or.inl (List.mem_of_getElem? (i := 0) rfl))
  have f11 : Sta Z h8 "com/example/sevenfold/sevenfold/Natural" "FIRST_OF_LENGTH" "[J" (.ref wF) := S_FIRST_OF_LENGTH.wr W8
  have f12 : Arv Z h8 wF kf .long (10 : Int32) [(.long (0 : Int64)), (.long (0 : Int64)), (.long (128 : Int64)), (.long (16512 : Int64)), (.long (2113664 : Int64)), (.long (270549120 : Int64)), (.long (34630287488 : Int64)), (.long (4432676798592 : Int64)), (.long (567382630219904 : Int64)), (.long (72624976668147840 : Int64))] (.long (0 : Int64)) := V_F.other W8 hne
  have f13 : Arv Z h8 a1 ka .byte (8 : Int32) [(.int ((((128 : Int32) ||| (((p0 - ((16512 : Int64).toInt32)).toUInt32 >>> ((14 : Int32) &&& 31).toUInt32).toInt32)).toInt8.toInt32)).toInt8.toInt32), (.int el1), (.int el2), (.int el3), (.int el4), (.int el5), (.int el6), (.int el7)] (.int (0 : Int32)) := Arv.set Arq7 qq7 Sq7 Nq7 Hq7 Gq7 (fits_nar_byte _) W8 0 rfl (Nat.le_of_ble_eq_true rfl)
  show OwnGo p.tables e below _ (T8.setTop (mkF m 82 #[.val (.int p0), .val (.ref a1), .val (.int (0 : Int32)), .val (.int (p0 - ((16512 : Int64).toInt32)))] []))
  refine OwnGo.of (A := T8.setTop (mkF m 82 #[.val (.int p0), .val (.ref a1), .val (.int (0 : Int32)), .val (.int (p0 - ((16512 : Int64).toInt32)))] [])) (B := T8.setTop (mkF m 98 #[.val (.int p0), .val (.ref a1), .val (.int (0 : Int32)), .val (.int (p0 - ((16512 : Int64).toInt32)))] [(.int (((128 : Int32) ||| ((((p0 - ((16512 : Int64).toInt32)).toUInt32 >>> ((7 : Int32) &&& 31).toUInt32).toInt32) &&& (127 : Int32))).toInt8.toInt32)), (.int ((0 : Int32) + (1 : Int32))), (.ref a1)])) (fun t k => ?_) ?_
  · show Steps p.tables e below (T8.setTop (mkF m 82 #[.val (.int p0), .val (.ref a1), .val (.int (0 : Int32)), .val (.int (p0 - ((16512 : Int64).toInt32)))] [])) t
    refine XS.aloadN X8.here hx rfl (hb hby d1_82) rfl rfl ?_
    show Steps p.tables e below (T8.setTop (mkF m 83 #[.val (.int p0), .val (.ref a1), .val (.int (0 : Int32)), .val (.int (p0 - ((16512 : Int64).toInt32)))] [(.ref a1)])) t
    refine XS.iloadN X8.here hx rfl (hb hby d1_83) rfl ?_
    show Steps p.tables e below (T8.setTop (mkF m 84 #[.val (.int p0), .val (.ref a1), .val (.int (0 : Int32)), .val (.int (p0 - ((16512 : Int64).toInt32)))] [(.int (0 : Int32)), (.ref a1)])) t
    refine XS.iconst X8.here hx rfl (hb hby d1_84) ?_
    show Steps p.tables e below (T8.setTop (mkF m 85 #[.val (.int p0), .val (.ref a1), .val (.int (0 : Int32)), .val (.int (p0 - ((16512 : Int64).toInt32)))] [(.int (1 : Int32)), (.int (0 : Int32)), (.ref a1)])) t
    refine XS.iadd X8.here hx rfl (hb hby d1_85) rfl ?_
    show Steps p.tables e below (T8.setTop (mkF m 86 #[.val (.int p0), .val (.ref a1), .val (.int (0 : Int32)), .val (.int (p0 - ((16512 : Int64).toInt32)))] [(.int ((0 : Int32) + (1 : Int32))), (.ref a1)])) t
    refine XS.sipush X8.here hx rfl (hb hby d1_86) ?_
    show Steps p.tables e below (T8.setTop (mkF m 89 #[.val (.int p0), .val (.ref a1), .val (.int (0 : Int32)), .val (.int (p0 - ((16512 : Int64).toInt32)))] [(.int (128 : Int32)), (.int ((0 : Int32) + (1 : Int32))), (.ref a1)])) t
    refine XS.iloadN X8.here hx rfl (hb hby d1_89) rfl ?_
    show Steps p.tables e below (T8.setTop (mkF m 90 #[.val (.int p0), .val (.ref a1), .val (.int (0 : Int32)), .val (.int (p0 - ((16512 : Int64).toInt32)))] [(.int (p0 - ((16512 : Int64).toInt32))), (.int (128 : Int32)), (.int ((0 : Int32) + (1 : Int32))), (.ref a1)])) t
    refine XS.bipush X8.here hx rfl (hb hby d1_90) ?_
    show Steps p.tables e below (T8.setTop (mkF m 92 #[.val (.int p0), .val (.ref a1), .val (.int (0 : Int32)), .val (.int (p0 - ((16512 : Int64).toInt32)))] [(.int (7 : Int32)), (.int (p0 - ((16512 : Int64).toInt32))), (.int (128 : Int32)), (.int ((0 : Int32) + (1 : Int32))), (.ref a1)])) t
    refine XS.iushr X8.here hx rfl (hb hby d1_92) rfl ?_
    show Steps p.tables e below (T8.setTop (mkF m 93 #[.val (.int p0), .val (.ref a1), .val (.int (0 : Int32)), .val (.int (p0 - ((16512 : Int64).toInt32)))] [(.int (((p0 - ((16512 : Int64).toInt32)).toUInt32 >>> ((7 : Int32) &&& 31).toUInt32).toInt32)), (.int (128 : Int32)), (.int ((0 : Int32) + (1 : Int32))), (.ref a1)])) t
    refine XS.bipush X8.here hx rfl (hb hby d1_93) ?_
    show Steps p.tables e below (T8.setTop (mkF m 95 #[.val (.int p0), .val (.ref a1), .val (.int (0 : Int32)), .val (.int (p0 - ((16512 : Int64).toInt32)))] [(.int (127 : Int32)), (.int (((p0 - ((16512 : Int64).toInt32)).toUInt32 >>> ((7 : Int32) &&& 31).toUInt32).toInt32)), (.int (128 : Int32)), (.int ((0 : Int32) + (1 : Int32))), (.ref a1)])) t
    refine XS.iand X8.here hx rfl (hb hby d1_95) rfl ?_
    show Steps p.tables e below (T8.setTop (mkF m 96 #[.val (.int p0), .val (.ref a1), .val (.int (0 : Int32)), .val (.int (p0 - ((16512 : Int64).toInt32)))] [(.int ((((p0 - ((16512 : Int64).toInt32)).toUInt32 >>> ((7 : Int32) &&& 31).toUInt32).toInt32) &&& (127 : Int32))), (.int (128 : Int32)), (.int ((0 : Int32) + (1 : Int32))), (.ref a1)])) t
    refine XS.ior X8.here hx rfl (hb hby d1_96) rfl ?_
    show Steps p.tables e below (T8.setTop (mkF m 97 #[.val (.int p0), .val (.ref a1), .val (.int (0 : Int32)), .val (.int (p0 - ((16512 : Int64).toInt32)))] [(.int ((128 : Int32) ||| ((((p0 - ((16512 : Int64).toInt32)).toUInt32 >>> ((7 : Int32) &&& 31).toUInt32).toInt32) &&& (127 : Int32)))), (.int ((0 : Int32) + (1 : Int32))), (.ref a1)])) t
    refine XS.i2b X8.here hx rfl (hb hby d1_97) rfl ?_
    exact k
  rw [show ((0 : Int32) + (1 : Int32)) = (1 : Int32) from by decide]
  show OwnGo p.tables e below _ (T8.setTop (mkF m 98 #[.val (.int p0), .val (.ref a1), .val (.int (0 : Int32)), .val (.int (p0 - ((16512 : Int64).toInt32)))] [(.int (((128 : Int32) ||| ((((p0 - ((16512 : Int64).toInt32)).toUInt32 >>> ((7 : Int32) &&& 31).toUInt32).toInt32) &&& (127 : Int32))).toInt8.toInt32)), (.int (1 : Int32)), (.ref a1)]))
  have cq14 := f13
  obtain ⟨clq14, Arq14, qq14, Sq14, Nq14, Hq14, Gq14⟩ := cq14
  obtain ⟨T15, h15, X15, e15, W15, st15⟩ := stB X8 hx hZ e8 Arq14 (j := (1 : Int32)) (inb_of Sq14 ⟨by decide, by decide⟩) (g := (mkF m 98 #[.val (.int p0), .val (.ref a1), .val (.int (0 : Int32)), .val (.int (p0 - ((16512 : Int64).toInt32)))] [(.int (((128 : Int32) ||| ((((p0 - ((16512 : Int64).toInt32)).toUInt32 >>> ((7 : Int32) &&& 31).toUInt32).toInt32) &&& (127 : Int32))).toInt8.toInt32)), (.int (1 : Int32)), (.ref a1)])) rfl rfl (hb hby d1_98)
  refine OwnGo.of st15 ?_
  have N15 := Fr.snoc X15 N8 g_a1
  have f16 : n0 ≤ h15.size := Nat.le_trans f9 (Keep.of_wr W15).1
  have f17 : Keep h0 h15 [a1] := f10.wr W15 (Or.inl (List.mem_of_getElem? (i := 0) rfl))
  have f18 : Sta Z h15 "com/example/sevenfold/sevenfold/Natural" "FIRST_OF_LENGTH" "[J" (.ref wF) := f11.wr W15
  have f19 : Arv Z h15 wF kf .long (10 : Int32) [(.long (0 : Int64)), (.long (0 : Int64)), (.long (128 : Int64)), (.long (16512 : Int64)), (.long (2113664 : Int64)), (.long (270549120 : Int64)), (.long (34630287488 : Int64)), (.long (4432676798592 : Int64)), (.long (567382630219904 : Int64)), (.long (72624976668147840 : Int64))] (.long (0 : Int64)) := f12.other W15 hne
  have f20 : Arv Z h15 a1 ka .byte (8 : Int32) [(.int ((((128 : Int32) ||| (((p0 - ((16512 : Int64).toInt32)).toUInt32 >>> ((14 : Int32) &&& 31).toUInt32).toInt32)).toInt8.toInt32)).toInt8.toInt32), (.int ((((128 : Int32) ||| ((((p0 - ((16512 : Int64).toInt32)).toUInt32 >>> ((7 : Int32) &&& 31).toUInt32).toInt32) &&& (127 : Int32))).toInt8.toInt32)).toInt8.toInt32), (.int el2), (.int el3), (.int el4), (.int el5), (.int el6), (.int el7)] (.int (0 : Int32)) := Arv.set Arq14 qq14 Sq14 Nq14 Hq14 Gq14 (fits_nar_byte _) W15 1 rfl (Nat.le_of_ble_eq_true rfl)
  show OwnGo p.tables e below _ (T15.setTop (mkF m 99 #[.val (.int p0), .val (.ref a1), .val (.int (0 : Int32)), .val (.int (p0 - ((16512 : Int64).toInt32)))] []))
  refine OwnGo.of (A := T15.setTop (mkF m 99 #[.val (.int p0), .val (.ref a1), .val (.int (0 : Int32)), .val (.int (p0 - ((16512 : Int64).toInt32)))] [])) (B := T15.setTop (mkF m 108 #[.val (.int p0), .val (.ref a1), .val (.int (0 : Int32)), .val (.int (p0 - ((16512 : Int64).toInt32)))] [(.int (((p0 - ((16512 : Int64).toInt32)) &&& (127 : Int32)).toInt8.toInt32)), (.int ((0 : Int32) + (2 : Int32))), (.ref a1)])) (fun t k => ?_) ?_
  · show Steps p.tables e below (T15.setTop (mkF m 99 #[.val (.int p0), .val (.ref a1), .val (.int (0 : Int32)), .val (.int (p0 - ((16512 : Int64).toInt32)))] [])) t
    refine XS.aloadN X15.here hx rfl (hb hby d1_99) rfl rfl ?_
    show Steps p.tables e below (T15.setTop (mkF m 100 #[.val (.int p0), .val (.ref a1), .val (.int (0 : Int32)), .val (.int (p0 - ((16512 : Int64).toInt32)))] [(.ref a1)])) t
    refine XS.iloadN X15.here hx rfl (hb hby d1_100) rfl ?_
    show Steps p.tables e below (T15.setTop (mkF m 101 #[.val (.int p0), .val (.ref a1), .val (.int (0 : Int32)), .val (.int (p0 - ((16512 : Int64).toInt32)))] [(.int (0 : Int32)), (.ref a1)])) t
    refine XS.iconst X15.here hx rfl (hb hby d1_101) ?_
    show Steps p.tables e below (T15.setTop (mkF m 102 #[.val (.int p0), .val (.ref a1), .val (.int (0 : Int32)), .val (.int (p0 - ((16512 : Int64).toInt32)))] [(.int (2 : Int32)), (.int (0 : Int32)), (.ref a1)])) t
    refine XS.iadd X15.here hx rfl (hb hby d1_102) rfl ?_
    show Steps p.tables e below (T15.setTop (mkF m 103 #[.val (.int p0), .val (.ref a1), .val (.int (0 : Int32)), .val (.int (p0 - ((16512 : Int64).toInt32)))] [(.int ((0 : Int32) + (2 : Int32))), (.ref a1)])) t
    refine XS.iloadN X15.here hx rfl (hb hby d1_103) rfl ?_
    show Steps p.tables e below (T15.setTop (mkF m 104 #[.val (.int p0), .val (.ref a1), .val (.int (0 : Int32)), .val (.int (p0 - ((16512 : Int64).toInt32)))] [(.int (p0 - ((16512 : Int64).toInt32))), (.int ((0 : Int32) + (2 : Int32))), (.ref a1)])) t
    refine XS.bipush X15.here hx rfl (hb hby d1_104) ?_
    show Steps p.tables e below (T15.setTop (mkF m 106 #[.val (.int p0), .val (.ref a1), .val (.int (0 : Int32)), .val (.int (p0 - ((16512 : Int64).toInt32)))] [(.int (127 : Int32)), (.int (p0 - ((16512 : Int64).toInt32))), (.int ((0 : Int32) + (2 : Int32))), (.ref a1)])) t
    refine XS.iand X15.here hx rfl (hb hby d1_106) rfl ?_
    show Steps p.tables e below (T15.setTop (mkF m 107 #[.val (.int p0), .val (.ref a1), .val (.int (0 : Int32)), .val (.int (p0 - ((16512 : Int64).toInt32)))] [(.int ((p0 - ((16512 : Int64).toInt32)) &&& (127 : Int32))), (.int ((0 : Int32) + (2 : Int32))), (.ref a1)])) t
    refine XS.i2b X15.here hx rfl (hb hby d1_107) rfl ?_
    exact k
  rw [show ((0 : Int32) + (2 : Int32)) = (2 : Int32) from by decide]
  show OwnGo p.tables e below _ (T15.setTop (mkF m 108 #[.val (.int p0), .val (.ref a1), .val (.int (0 : Int32)), .val (.int (p0 - ((16512 : Int64).toInt32)))] [(.int (((p0 - ((16512 : Int64).toInt32)) &&& (127 : Int32)).toInt8.toInt32)), (.int (2 : Int32)), (.ref a1)]))
  have cq21 := f20
  obtain ⟨clq21, Arq21, qq21, Sq21, Nq21, Hq21, Gq21⟩ := cq21
  obtain ⟨T22, h22, X22, e22, W22, st22⟩ := stB X15 hx hZ e15 Arq21 (j := (2 : Int32)) (inb_of Sq21 ⟨by decide, by decide⟩) (g := (mkF m 108 #[.val (.int p0), .val (.ref a1), .val (.int (0 : Int32)), .val (.int (p0 - ((16512 : Int64).toInt32)))] [(.int (((p0 - ((16512 : Int64).toInt32)) &&& (127 : Int32)).toInt8.toInt32)), (.int (2 : Int32)), (.ref a1)])) rfl rfl (hb hby d1_108)
  refine OwnGo.of st22 ?_
  have N22 := Fr.snoc X22 N15 g_a1
  have f23 : n0 ≤ h22.size := Nat.le_trans f16 (Keep.of_wr W22).1
  have f24 : Keep h0 h22 [a1] := f17.wr W22 (Or.inl (List.mem_of_getElem? (i := 0) rfl))
  have f25 : Sta Z h22 "com/example/sevenfold/sevenfold/Natural" "FIRST_OF_LENGTH" "[J" (.ref wF) := f18.wr W22
  have f26 : Arv Z h22 wF kf .long (10 : Int32) [(.long (0 : Int64)), (.long (0 : Int64)), (.long (128 : Int64)), (.long (16512 : Int64)), (.long (2113664 : Int64)), (.long (270549120 : Int64)), (.long (34630287488 : Int64)), (.long (4432676798592 : Int64)), (.long (567382630219904 : Int64)), (.long (72624976668147840 : Int64))] (.long (0 : Int64)) := f19.other W22 hne
  have f27 : Arv Z h22 a1 ka .byte (8 : Int32) [(.int ((((128 : Int32) ||| (((p0 - ((16512 : Int64).toInt32)).toUInt32 >>> ((14 : Int32) &&& 31).toUInt32).toInt32)).toInt8.toInt32)).toInt8.toInt32), (.int ((((128 : Int32) ||| ((((p0 - ((16512 : Int64).toInt32)).toUInt32 >>> ((7 : Int32) &&& 31).toUInt32).toInt32) &&& (127 : Int32))).toInt8.toInt32)).toInt8.toInt32), (.int ((((p0 - ((16512 : Int64).toInt32)) &&& (127 : Int32)).toInt8.toInt32)).toInt8.toInt32), (.int el3), (.int el4), (.int el5), (.int el6), (.int el7)] (.int (0 : Int32)) := Arv.set Arq21 qq21 Sq21 Nq21 Hq21 Gq21 (fits_nar_byte _) W22 2 rfl (Nat.le_of_ble_eq_true rfl)
  show OwnGo p.tables e below _ (T22.setTop (mkF m 109 #[.val (.int p0), .val (.ref a1), .val (.int (0 : Int32)), .val (.int (p0 - ((16512 : Int64).toInt32)))] []))
  refine OwnGo.of (A := T22.setTop (mkF m 109 #[.val (.int p0), .val (.ref a1), .val (.int (0 : Int32)), .val (.int (p0 - ((16512 : Int64).toInt32)))] [])) (B := T22.setTop (mkF m 112 #[.val (.int p0), .val (.ref a1), .val (.int (0 : Int32)), .val (.int (p0 - ((16512 : Int64).toInt32)))] [(.int ((0 : Int32) + (3 : Int32)))])) (fun t k => ?_) ?_
  · show Steps p.tables e below (T22.setTop (mkF m 109 #[.val (.int p0), .val (.ref a1), .val (.int (0 : Int32)), .val (.int (p0 - ((16512 : Int64).toInt32)))] [])) t
    refine XS.iloadN X22.here hx rfl (hb hby d1_109) rfl ?_
    show Steps p.tables e below (T22.setTop (mkF m 110 #[.val (.int p0), .val (.ref a1), .val (.int (0 : Int32)), .val (.int (p0 - ((16512 : Int64).toInt32)))] [(.int (0 : Int32))])) t
    refine XS.iconst X22.here hx rfl (hb hby d1_110) ?_
    show Steps p.tables e below (T22.setTop (mkF m 111 #[.val (.int p0), .val (.ref a1), .val (.int (0 : Int32)), .val (.int (p0 - ((16512 : Int64).toInt32)))] [(.int (3 : Int32)), (.int (0 : Int32))])) t
    refine XS.iadd X22.here hx rfl (hb hby d1_111) rfl ?_
    exact k
  obtain ⟨fs, hr, hrun, hended, hW, hsame⟩ := X22.leave (v := some (.int ((0 : Int32) + (3 : Int32)))) (fun h => by rw [Bd.returns] at h; cases h) hlk
  refine ⟨_, _, ?_, hrun, hended, _, _, rfl, ?_, ⟨_, rfl⟩, hW, hsame.mono (by decide) (by decide)⟩
  · show Steps p.tables e below (T22.setTop (mkF m 112 #[.val (.int p0), .val (.ref a1), .val (.int (0 : Int32)), .val (.int (p0 - ((16512 : Int64).toInt32)))] [(.int ((0 : Int32) + (3 : Int32)))])) _
    exact own_retI X22 hx Bd.returns (hb hby d1_112) hr
  · show Qrm1_0C Z p0 a1 el0 el1 el2 el3 el4 el5 el6 el7 ka wF kf h0 n0 _ (T22.setFrames fs).heap _
    rw [show (T22.setFrames fs).heap = h22 from e22]
    exact ⟨congrArg (fun z => some (Value.int z)) (by decide), N22, f24, f27⟩
theorem ef_rm1_1A (m : MethodId) (p0 : Int32) (a1 : Addr) : entryFrame m #[(.int p0), (.ref a1), (.int (1 : Int32))] 4 = mkF m 0 #[.val (.int p0), .val (.ref a1), .val (.int (1 : Int32)), .unset] [] := by first | (simp [entryFrame, mkF, argsToLocals, Value.category]; done) | rfl
def Qrm1_1A (Z : State) (p0 : Int32) (a1 : Addr) (el0 : Int32) (el1 : Int32) (el2 : Int32) (el3 : Int32) (el4 : Int32) (el5 : Int32) (el6 : Int32) (el7 : Int32) (ka : ClassId) (wF : Addr) (kf : ClassId) (h0 : Heap) (n0 : Nat) (v : Option Value) (h : Heap) (L : List Loc) : Prop := v = some (.int (2 : Int32)) ∧ Fr n0 L ∧ Keep h0 h [a1] ∧ Arv Z h a1 ka .byte (8 : Int32) [(.int el0), (.int ((p0.toInt8.toInt32)).toInt8.toInt32), (.int el2), (.int el3), (.int el4), (.int el5), (.int el6), (.int el7)] (.int (0 : Int32))
set_option maxRecDepth 65536 in
set_option maxHeartbeats 40000000 in
theorem rm1_1A (l : Launch) (Z : State) (aw : Array Value) (hw : ∀ d ∈ tables_1, d.before aw Z = true) (ws : List Jvm.Cond) (p0 : Int32) (a1 : Addr) (el0 : Int32) (el1 : Int32) (el2 : Int32) (el3 : Int32) (el4 : Int32) (el5 : Int32) (el6 : Int32) (el7 : Int32) (ka : ClassId) (wF : Addr) (kf : ClassId) (h0 : Heap) (n0 : Nat) (Z0 : n0 ≤ h0.size) (S_FIRST_OF_LENGTH : Sta Z h0 "com/example/sevenfold/sevenfold/Natural" "FIRST_OF_LENGTH" "[J" (.ref wF)) (V_F : Arv Z h0 wF kf .long (10 : Int32) [(.long (0 : Int64)), (.long (0 : Int64)), (.long (128 : Int64)), (.long (16512 : Int64)), (.long (2113664 : Int64)), (.long (270549120 : Int64)), (.long (34630287488 : Int64)), (.long (4432676798592 : Int64)), (.long (567382630219904 : Int64)), (.long (72624976668147840 : Int64))] (.long (0 : Int64))) (V_a : Arv Z h0 a1 ka .byte (8 : Int32) [(.int el0), (.int el1), (.int el2), (.int el3), (.int el4), (.int el5), (.int el6), (.int el7)] (.int (0 : Int32))) (g_a1 : n0 ≤ a1) (hne : wF ≠ a1) (hA : ¬ ((127 : Int32) < p0)) :
    MetFree l (⟨"com/example/sevenfold/sevenfold/Natural", "writeCodePoint", "(I[BI)I"⟩ : MethodName) (head1 (Jvm.Cond.code (⟨"com/example/sevenfold/sevenfold/Natural", "writeCodePoint", "(I[BI)I"⟩ : MethodName) prog_5_method_8_code 4 (some .int) :: ws) ({ frames := 0, cells := 0, slots := 0, locals := 0 } : Room)) (fun a U => a = #[(.int p0), (.ref a1), (.int (1 : Int32))] ∧ Z.Warmed39 U.vm ∧ U.heap = h0) (fun _ _ _ _ _ => True) (fun _ U o U' => ∃ v L, o = .returned v ∧ Qrm1_1A Z p0 a1 el0 el1 el2 el3 el4 el5 el6 el7 ka wF kf h0 n0 v U'.heap L ∧ FrameEnd U o U' L ({ frames := 0, cells := 0, slots := 0, locals := 0 } : Room).cells ({ frames := 0, cells := 0, slots := 0, locals := 0 } : Room).slots) := by
  refine MetFree.of_bodySF (plainFor_of_name pn_0) hisR ?_
  intro p e s m args below meth c s₁ Bd hml0 hP hK
  obtain ⟨rfl, hZ, hh⟩ := hP
  have hx := Bd.exec
  have hby := Bd.bytes
  have hml : c.maxLocals = 4 := hml0
  have hown : s.vm.findClass "com/example/sevenfold/sevenfold/Natural" = some m.cls := findClass_of_methodNamed Bd.named
  have hnm := (name_of_methodNamed Bd.named Bd.method).1
  have X0 : Stand p l e ({ frames := 0, cells := 0, slots := 0, locals := 0 } : Room) s m #[(.int p0), (.ref a1), (.int (1 : Int32))] below meth c s₁ [] 0 0 := Stand.of_body Bd
  have e0 : s₁.heap = h0 := by rw [← hh, Bd.state]; rfl
  have N0 := Fr.nil n0
  have hlk := Bd.notSynchronized
  show OwnGo p.tables e below _ (s₁.setTop (entryFrame m #[(.int p0), (.ref a1), (.int (1 : Int32))] 4))
  rw [ef_rm1_1A m p0 a1]
  have K0 : Keep h0 h0 [a1] := Keep.refl _ _
  show OwnGo p.tables e below _ (s₁.setTop (mkF m 0 #[.val (.int p0), .val (.ref a1), .val (.int (1 : Int32)), .unset] []))
  refine OwnGo.of (A := s₁.setTop (mkF m 0 #[.val (.int p0), .val (.ref a1), .val (.int (1 : Int32)), .unset] [])) (B := s₁.setTop (mkF m 3 #[.val (.int p0), .val (.ref a1), .val (.int (1 : Int32)), .unset] [(.int (127 : Int32)), (.int p0)])) (fun t k => ?_) ?_
  · show Steps p.tables e below (s₁.setTop (mkF m 0 #[.val (.int p0), .val (.ref a1), .val (.int (1 : Int32)), .unset] [])) t
    refine XS.iloadN X0.here hx rfl (hb hby d1_0) rfl ?_
    show Steps p.tables e below (s₁.setTop (mkF m 1 #[.val (.int p0), .val (.ref a1), .val (.int (1 : Int32)), .unset] [(.int p0)])) t
    refine XS.bipush X0.here hx rfl (hb hby d1_1) ?_
    exact k
  have hc1 : ¬ ((127 : Int32) < p0) := hA
  refine OwnGo.of (A := s₁.setTop (mkF m 3 #[.val (.int p0), .val (.ref a1), .val (.int (1 : Int32)), .unset] [(.int (127 : Int32)), (.int p0)])) (B := s₁.setTop (mkF m 10 #[.val (.int p0), .val (.ref a1), .val (.int (1 : Int32)), .unset] [(.int (p0.toInt8.toInt32)), (.int (1 : Int32)), (.ref a1)])) (fun t k => ?_) ?_
  · show Steps p.tables e below (s₁.setTop (mkF m 3 #[.val (.int p0), .val (.ref a1), .val (.int (1 : Int32)), .unset] [(.int (127 : Int32)), (.int p0)])) t
    refine XS.icmpNo X0.here hx rfl (hb hby d1_3) rfl (flt hc1).2.2.1 ?_
    show Steps p.tables e below (s₁.setTop (mkF m 6 #[.val (.int p0), .val (.ref a1), .val (.int (1 : Int32)), .unset] [])) t
    refine XS.aloadN X0.here hx rfl (hb hby d1_6) rfl rfl ?_
    show Steps p.tables e below (s₁.setTop (mkF m 7 #[.val (.int p0), .val (.ref a1), .val (.int (1 : Int32)), .unset] [(.ref a1)])) t
    refine XS.iloadN X0.here hx rfl (hb hby d1_7) rfl ?_
    show Steps p.tables e below (s₁.setTop (mkF m 8 #[.val (.int p0), .val (.ref a1), .val (.int (1 : Int32)), .unset] [(.int (1 : Int32)), (.ref a1)])) t
    refine XS.iloadN X0.here hx rfl (hb hby d1_8) rfl ?_
    show Steps p.tables e below (s₁.setTop (mkF m 9 #[.val (.int p0), .val (.ref a1), .val (.int (1 : Int32)), .unset] [(.int p0), (.int (1 : Int32)), (.ref a1)])) t
    refine XS.i2b X0.here hx rfl (hb hby d1_9) rfl ?_
    exact k
  have cq2 := V_a
  obtain ⟨clq2, Arq2, qq2, Sq2, Nq2, Hq2, Gq2⟩ := cq2
  obtain ⟨T3, h3, X3, e3, W3, st3⟩ := stB X0 hx hZ e0 Arq2 (j := (1 : Int32)) (inb_of Sq2 ⟨by decide, by decide⟩) (g := (mkF m 10 #[.val (.int p0), .val (.ref a1), .val (.int (1 : Int32)), .unset] [(.int (p0.toInt8.toInt32)), (.int (1 : Int32)), (.ref a1)])) rfl rfl (hb hby d1_10)
  refine OwnGo.of st3 ?_
  have N3 := Fr.snoc X3 N0 g_a1
  have f4 : n0 ≤ h3.size := Nat.le_trans Z0 (Keep.of_wr W3).1
  have f5 : Keep h0 h3 [a1] := K0.wr W3 (Or.inl (List.mem_of_getElem? (i := 0) rfl))
  have f6 : Sta Z h3 "com/example/sevenfold/sevenfold/Natural" "FIRST_OF_LENGTH" "[J" (.ref wF) := S_FIRST_OF_LENGTH.wr W3
  have f7 : Arv Z h3 wF kf .long (10 : Int32) [(.long (0 : Int64)), (.long (0 : Int64)), (.long (128 : Int64)), (.long (16512 : Int64)), (.long (2113664 : Int64)), (.long (270549120 : Int64)), (.long (34630287488 : Int64)), (.long (4432676798592 : Int64)), (.long (567382630219904 : Int64)), (.long (72624976668147840 : Int64))] (.long (0 : Int64)) := V_F.other W3 hne
  have f8 : Arv Z h3 a1 ka .byte (8 : Int32) [(.int el0), (.int ((p0.toInt8.toInt32)).toInt8.toInt32), (.int el2), (.int el3), (.int el4), (.int el5), (.int el6), (.int el7)] (.int (0 : Int32)) := Arv.set Arq2 qq2 Sq2 Nq2 Hq2 Gq2 (fits_nar_byte _) W3 1 rfl (Nat.le_of_ble_eq_true rfl)
  show OwnGo p.tables e below _ (T3.setTop (mkF m 11 #[.val (.int p0), .val (.ref a1), .val (.int (1 : Int32)), .unset] []))
  refine OwnGo.of (A := T3.setTop (mkF m 11 #[.val (.int p0), .val (.ref a1), .val (.int (1 : Int32)), .unset] [])) (B := T3.setTop (mkF m 14 #[.val (.int p0), .val (.ref a1), .val (.int (1 : Int32)), .unset] [(.int ((1 : Int32) + (1 : Int32)))])) (fun t k => ?_) ?_
  · show Steps p.tables e below (T3.setTop (mkF m 11 #[.val (.int p0), .val (.ref a1), .val (.int (1 : Int32)), .unset] [])) t
    refine XS.iloadN X3.here hx rfl (hb hby d1_11) rfl ?_
    show Steps p.tables e below (T3.setTop (mkF m 12 #[.val (.int p0), .val (.ref a1), .val (.int (1 : Int32)), .unset] [(.int (1 : Int32))])) t
    refine XS.iconst X3.here hx rfl (hb hby d1_12) ?_
    show Steps p.tables e below (T3.setTop (mkF m 13 #[.val (.int p0), .val (.ref a1), .val (.int (1 : Int32)), .unset] [(.int (1 : Int32)), (.int (1 : Int32))])) t
    refine XS.iadd X3.here hx rfl (hb hby d1_13) rfl ?_
    exact k
  obtain ⟨fs, hr, hrun, hended, hW, hsame⟩ := X3.leave (v := some (.int ((1 : Int32) + (1 : Int32)))) (fun h => by rw [Bd.returns] at h; cases h) hlk
  refine ⟨_, _, ?_, hrun, hended, _, _, rfl, ?_, ⟨_, rfl⟩, hW, hsame.mono (by decide) (by decide)⟩
  · show Steps p.tables e below (T3.setTop (mkF m 14 #[.val (.int p0), .val (.ref a1), .val (.int (1 : Int32)), .unset] [(.int ((1 : Int32) + (1 : Int32)))])) _
    exact own_retI X3 hx Bd.returns (hb hby d1_14) hr
  · show Qrm1_1A Z p0 a1 el0 el1 el2 el3 el4 el5 el6 el7 ka wF kf h0 n0 _ (T3.setFrames fs).heap _
    rw [show (T3.setFrames fs).heap = h3 from e3]
    exact ⟨congrArg (fun z => some (Value.int z)) (by decide), N3, f5, f8⟩
theorem ef_rm1_1B (m : MethodId) (p0 : Int32) (a1 : Addr) : entryFrame m #[(.int p0), (.ref a1), (.int (1 : Int32))] 4 = mkF m 0 #[.val (.int p0), .val (.ref a1), .val (.int (1 : Int32)), .unset] [] := by first | (simp [entryFrame, mkF, argsToLocals, Value.category]; done) | rfl
def Qrm1_1B (Z : State) (p0 : Int32) (a1 : Addr) (el0 : Int32) (el1 : Int32) (el2 : Int32) (el3 : Int32) (el4 : Int32) (el5 : Int32) (el6 : Int32) (el7 : Int32) (ka : ClassId) (wF : Addr) (kf : ClassId) (h0 : Heap) (n0 : Nat) (v : Option Value) (h : Heap) (L : List Loc) : Prop := v = some (.int (3 : Int32)) ∧ Fr n0 L ∧ Keep h0 h [a1] ∧ Arv Z h a1 ka .byte (8 : Int32) [(.int el0), (.int ((((128 : Int32) ||| (((p0 - ((128 : Int64).toInt32)).toUInt32 >>> ((7 : Int32) &&& 31).toUInt32).toInt32)).toInt8.toInt32)).toInt8.toInt32), (.int ((((p0 - ((128 : Int64).toInt32)) &&& (127 : Int32)).toInt8.toInt32)).toInt8.toInt32), (.int el3), (.int el4), (.int el5), (.int el6), (.int el7)] (.int (0 : Int32))
set_option maxRecDepth 65536 in
set_option maxHeartbeats 40000000 in
theorem rm1_1B (l : Launch) (Z : State) (aw : Array Value) (hw : ∀ d ∈ tables_1, d.before aw Z = true) (ws : List Jvm.Cond) (p0 : Int32) (a1 : Addr) (el0 : Int32) (el1 : Int32) (el2 : Int32) (el3 : Int32) (el4 : Int32) (el5 : Int32) (el6 : Int32) (el7 : Int32) (ka : ClassId) (wF : Addr) (kf : ClassId) (h0 : Heap) (n0 : Nat) (Z0 : n0 ≤ h0.size) (S_FIRST_OF_LENGTH : Sta Z h0 "com/example/sevenfold/sevenfold/Natural" "FIRST_OF_LENGTH" "[J" (.ref wF)) (V_F : Arv Z h0 wF kf .long (10 : Int32) [(.long (0 : Int64)), (.long (0 : Int64)), (.long (128 : Int64)), (.long (16512 : Int64)), (.long (2113664 : Int64)), (.long (270549120 : Int64)), (.long (34630287488 : Int64)), (.long (4432676798592 : Int64)), (.long (567382630219904 : Int64)), (.long (72624976668147840 : Int64))] (.long (0 : Int64))) (V_a : Arv Z h0 a1 ka .byte (8 : Int32) [(.int el0), (.int el1), (.int el2), (.int el3), (.int el4), (.int el5), (.int el6), (.int el7)] (.int (0 : Int32))) (g_a1 : n0 ≤ a1) (hne : wF ≠ a1) (hA : (127 : Int32) < p0) (hB : lcmpW (p0.toInt64) (16512 : Int64) < (0 : Int32)) :
    MetFree l (⟨"com/example/sevenfold/sevenfold/Natural", "writeCodePoint", "(I[BI)I"⟩ : MethodName) (head1 (Jvm.Cond.code (⟨"com/example/sevenfold/sevenfold/Natural", "writeCodePoint", "(I[BI)I"⟩ : MethodName) prog_5_method_8_code 4 (some .int) :: ws) ({ frames := 0, cells := 0, slots := 0, locals := 0 } : Room)) (fun a U => a = #[(.int p0), (.ref a1), (.int (1 : Int32))] ∧ Z.Warmed39 U.vm ∧ U.heap = h0) (fun _ _ _ _ _ => True) (fun _ U o U' => ∃ v L, o = .returned v ∧ Qrm1_1B Z p0 a1 el0 el1 el2 el3 el4 el5 el6 el7 ka wF kf h0 n0 v U'.heap L ∧ FrameEnd U o U' L ({ frames := 0, cells := 0, slots := 0, locals := 0 } : Room).cells ({ frames := 0, cells := 0, slots := 0, locals := 0 } : Room).slots) := by
  refine MetFree.of_bodySF (plainFor_of_name pn_0) hisR ?_
  intro p e s m args below meth c s₁ Bd hml0 hP hK
  obtain ⟨rfl, hZ, hh⟩ := hP
  have hx := Bd.exec
  have hby := Bd.bytes
  have hml : c.maxLocals = 4 := hml0
  have hown : s.vm.findClass "com/example/sevenfold/sevenfold/Natural" = some m.cls := findClass_of_methodNamed Bd.named
  have hnm := (name_of_methodNamed Bd.named Bd.method).1
  have X0 : Stand p l e ({ frames := 0, cells := 0, slots := 0, locals := 0 } : Room) s m #[(.int p0), (.ref a1), (.int (1 : Int32))] below meth c s₁ [] 0 0 := Stand.of_body Bd
  have e0 : s₁.heap = h0 := by rw [← hh, Bd.state]; rfl
  have N0 := Fr.nil n0
  have hlk := Bd.notSynchronized
  show OwnGo p.tables e below _ (s₁.setTop (entryFrame m #[(.int p0), (.ref a1), (.int (1 : Int32))] 4))
  rw [ef_rm1_1B m p0 a1]
  have K0 : Keep h0 h0 [a1] := Keep.refl _ _
  show OwnGo p.tables e below _ (s₁.setTop (mkF m 0 #[.val (.int p0), .val (.ref a1), .val (.int (1 : Int32)), .unset] []))
  refine OwnGo.of (A := s₁.setTop (mkF m 0 #[.val (.int p0), .val (.ref a1), .val (.int (1 : Int32)), .unset] [])) (B := s₁.setTop (mkF m 3 #[.val (.int p0), .val (.ref a1), .val (.int (1 : Int32)), .unset] [(.int (127 : Int32)), (.int p0)])) (fun t k => ?_) ?_
  · show Steps p.tables e below (s₁.setTop (mkF m 0 #[.val (.int p0), .val (.ref a1), .val (.int (1 : Int32)), .unset] [])) t
    refine XS.iloadN X0.here hx rfl (hb hby d1_0) rfl ?_
    show Steps p.tables e below (s₁.setTop (mkF m 1 #[.val (.int p0), .val (.ref a1), .val (.int (1 : Int32)), .unset] [(.int p0)])) t
    refine XS.bipush X0.here hx rfl (hb hby d1_1) ?_
    exact k
  have hc1 : (127 : Int32) < p0 := hA
  refine OwnGo.of (A := s₁.setTop (mkF m 3 #[.val (.int p0), .val (.ref a1), .val (.int (1 : Int32)), .unset] [(.int (127 : Int32)), (.int p0)])) (B := s₁.setTop (mkF m 17 #[.val (.int p0), .val (.ref a1), .val (.int (1 : Int32)), .unset] [(.long (p0.toInt64))])) (fun t k => ?_) ?_
  · show Steps p.tables e below (s₁.setTop (mkF m 3 #[.val (.int p0), .val (.ref a1), .val (.int (1 : Int32)), .unset] [(.int (127 : Int32)), (.int p0)])) t
    refine XS.icmpYes X0.here hx rfl (pc0 := 3) (pc' := 15) rfl (hb hby d1_3) rfl (tlt hc1).2.2.1 (by decide) (by decide) ?_
    show Steps p.tables e below (s₁.setTop (mkF m 15 #[.val (.int p0), .val (.ref a1), .val (.int (1 : Int32)), .unset] [])) t
    refine XS.iloadN X0.here hx rfl (hb hby d1_15) rfl ?_
    show Steps p.tables e below (s₁.setTop (mkF m 16 #[.val (.int p0), .val (.ref a1), .val (.int (1 : Int32)), .unset] [(.int p0)])) t
    refine XS.i2l X0.here hx rfl (hb hby d1_16) rfl ?_
    exact k
  obtain ⟨T2, X2, e2, st2⟩ := getS2 X0 hx hZ hown (host := "") (Or.inl (hw _ (List.mem_of_getElem? (i := 11) rfl))) Via.refl e0 S_FIRST_OF_LENGTH (g := (mkF m 17 #[.val (.int p0), .val (.ref a1), .val (.int (1 : Int32)), .unset] [(.long (p0.toInt64))])) rfl (hb hby d1_17)
  refine OwnGo.of st2 ?_
  show OwnGo p.tables e below _ (T2.setTop (mkF m 20 #[.val (.int p0), .val (.ref a1), .val (.int (1 : Int32)), .unset] [(.ref wF), (.long (p0.toInt64))]))
  refine OwnGo.of (A := T2.setTop (mkF m 20 #[.val (.int p0), .val (.ref a1), .val (.int (1 : Int32)), .unset] [(.ref wF), (.long (p0.toInt64))])) (B := T2.setTop (mkF m 21 #[.val (.int p0), .val (.ref a1), .val (.int (1 : Int32)), .unset] [(.int (3 : Int32)), (.ref wF), (.long (p0.toInt64))])) (fun t k => ?_) ?_
  · show Steps p.tables e below (T2.setTop (mkF m 20 #[.val (.int p0), .val (.ref a1), .val (.int (1 : Int32)), .unset] [(.ref wF), (.long (p0.toInt64))])) t
    refine XS.iconst X2.here hx rfl (hb hby d1_20) ?_
    exact k
  have cq3 := V_F
  obtain ⟨clq3, Arq3, qq3, Sq3, Nq3, Hq3, Gq3⟩ := cq3
  have hinq3 := inb_of (j := (3 : Int32)) Sq3 ⟨by decide, by decide⟩
  refine OwnGo.of (X2.laload hx (j := (3 : Int32)) (v := (.long (16512 : Int64))) (by rw [e2]; exact Arq3.1) (State.isArrayOf_alike hZ.alike Arq3.2.1) Arq3.2.2 hinq3 (Hq3.at hinq3 rfl) (g := (mkF m 21 #[.val (.int p0), .val (.ref a1), .val (.int (1 : Int32)), .unset] [(.int (3 : Int32)), (.ref wF), (.long (p0.toInt64))])) rfl rfl (hb hby d1_21)) ?_
  show OwnGo p.tables e below _ (T2.setTop (mkF m 22 #[.val (.int p0), .val (.ref a1), .val (.int (1 : Int32)), .unset] [(.long (16512 : Int64)), (.long (p0.toInt64))]))
  refine OwnGo.of (A := T2.setTop (mkF m 22 #[.val (.int p0), .val (.ref a1), .val (.int (1 : Int32)), .unset] [(.long (16512 : Int64)), (.long (p0.toInt64))])) (B := T2.setTop (mkF m 23 #[.val (.int p0), .val (.ref a1), .val (.int (1 : Int32)), .unset] [(.int (lcmpW (p0.toInt64) (16512 : Int64)))])) (fun t k => ?_) ?_
  · show Steps p.tables e below (T2.setTop (mkF m 22 #[.val (.int p0), .val (.ref a1), .val (.int (1 : Int32)), .unset] [(.long (16512 : Int64)), (.long (p0.toInt64))])) t
    refine XS.lcmp X2.here hx rfl (hb hby d1_22) rfl ?_
    exact k
  have hc4 : (lcmpW (p0.toInt64) (16512 : Int64)) < (0 : Int32) := hB
  refine OwnGo.of (A := T2.setTop (mkF m 23 #[.val (.int p0), .val (.ref a1), .val (.int (1 : Int32)), .unset] [(.int (lcmpW (p0.toInt64) (16512 : Int64)))])) (B := T2.setTop (mkF m 27 #[.val (.int p0), .val (.ref a1), .val (.int (1 : Int32)), .unset] [(.int p0)])) (fun t k => ?_) ?_
  · show Steps p.tables e below (T2.setTop (mkF m 23 #[.val (.int p0), .val (.ref a1), .val (.int (1 : Int32)), .unset] [(.int (lcmpW (p0.toInt64) (16512 : Int64)))])) t
    refine XS.ifNo X2.here hx rfl (hb hby d1_23) rfl ((if0 _ _).trans (tlt hc4).2.1) ?_
    show Steps p.tables e below (T2.setTop (mkF m 26 #[.val (.int p0), .val (.ref a1), .val (.int (1 : Int32)), .unset] [])) t
    refine XS.iloadN X2.here hx rfl (hb hby d1_26) rfl ?_
    exact k
  obtain ⟨T5, X5, e5, st5⟩ := getS2 X2 hx hZ hown (host := "") (Or.inl (hw _ (List.mem_of_getElem? (i := 11) rfl))) Via.refl e2 S_FIRST_OF_LENGTH (g := (mkF m 27 #[.val (.int p0), .val (.ref a1), .val (.int (1 : Int32)), .unset] [(.int p0)])) rfl (hb hby d1_27)
  refine OwnGo.of st5 ?_
  show OwnGo p.tables e below _ (T5.setTop (mkF m 30 #[.val (.int p0), .val (.ref a1), .val (.int (1 : Int32)), .unset] [(.ref wF), (.int p0)]))
  refine OwnGo.of (A := T5.setTop (mkF m 30 #[.val (.int p0), .val (.ref a1), .val (.int (1 : Int32)), .unset] [(.ref wF), (.int p0)])) (B := T5.setTop (mkF m 31 #[.val (.int p0), .val (.ref a1), .val (.int (1 : Int32)), .unset] [(.int (2 : Int32)), (.ref wF), (.int p0)])) (fun t k => ?_) ?_
  · show Steps p.tables e below (T5.setTop (mkF m 30 #[.val (.int p0), .val (.ref a1), .val (.int (1 : Int32)), .unset] [(.ref wF), (.int p0)])) t
    refine XS.iconst X5.here hx rfl (hb hby d1_30) ?_
    exact k
  have cq6 := V_F
  obtain ⟨clq6, Arq6, qq6, Sq6, Nq6, Hq6, Gq6⟩ := cq6
  have hinq6 := inb_of (j := (2 : Int32)) Sq6 ⟨by decide, by decide⟩
  refine OwnGo.of (X5.laload hx (j := (2 : Int32)) (v := (.long (128 : Int64))) (by rw [e5]; exact Arq6.1) (State.isArrayOf_alike hZ.alike Arq6.2.1) Arq6.2.2 hinq6 (Hq6.at hinq6 rfl) (g := (mkF m 31 #[.val (.int p0), .val (.ref a1), .val (.int (1 : Int32)), .unset] [(.int (2 : Int32)), (.ref wF), (.int p0)])) rfl rfl (hb hby d1_31)) ?_
  show OwnGo p.tables e below _ (T5.setTop (mkF m 32 #[.val (.int p0), .val (.ref a1), .val (.int (1 : Int32)), .unset] [(.long (128 : Int64)), (.int p0)]))
  refine OwnGo.of (A := T5.setTop (mkF m 32 #[.val (.int p0), .val (.ref a1), .val (.int (1 : Int32)), .unset] [(.long (128 : Int64)), (.int p0)])) (B := T5.setTop (mkF m 46 #[.val (.int p0), .val (.ref a1), .val (.int (1 : Int32)), .val (.int (p0 - ((128 : Int64).toInt32)))] [(.int (((128 : Int32) ||| (((p0 - ((128 : Int64).toInt32)).toUInt32 >>> ((7 : Int32) &&& 31).toUInt32).toInt32)).toInt8.toInt32)), (.int (1 : Int32)), (.ref a1)])) (fun t k => ?_) ?_
  · show Steps p.tables e below (T5.setTop (mkF m 32 #[.val (.int p0), .val (.ref a1), .val (.int (1 : Int32)), .unset] [(.long (128 : Int64)), (.int p0)])) t
    refine XS.l2i X5.here hx rfl (hb hby d1_32) rfl ?_
    show Steps p.tables e below (T5.setTop (mkF m 33 #[.val (.int p0), .val (.ref a1), .val (.int (1 : Int32)), .unset] [(.int ((128 : Int64).toInt32)), (.int p0)])) t
    refine XS.isub X5.here hx rfl (hb hby d1_33) rfl ?_
    show Steps p.tables e below (T5.setTop (mkF m 34 #[.val (.int p0), .val (.ref a1), .val (.int (1 : Int32)), .unset] [(.int (p0 - ((128 : Int64).toInt32)))])) t
    refine XS.istoreN X5.here hx rfl (hb hby d1_34) rfl (l' := #[.val (.int p0), .val (.ref a1), .val (.int (1 : Int32)), .val (.int (p0 - ((128 : Int64).toInt32)))]) rfl ?_
    show Steps p.tables e below (T5.setTop (mkF m 35 #[.val (.int p0), .val (.ref a1), .val (.int (1 : Int32)), .val (.int (p0 - ((128 : Int64).toInt32)))] [])) t
    refine XS.aloadN X5.here hx rfl (hb hby d1_35) rfl rfl ?_
    show Steps p.tables e below (T5.setTop (mkF m 36 #[.val (.int p0), .val (.ref a1), .val (.int (1 : Int32)), .val (.int (p0 - ((128 : Int64).toInt32)))] [(.ref a1)])) t
    refine XS.iloadN X5.here hx rfl (hb hby d1_36) rfl ?_
    show Steps p.tables e below (T5.setTop (mkF m 37 #[.val (.int p0), .val (.ref a1), .val (.int (1 : Int32)), .val (.int (p0 - ((128 : Int64).toInt32)))] [(.int (1 : Int32)), (.ref a1)])) t
    refine XS.sipush X5.here hx rfl (hb hby d1_37) ?_
    show Steps p.tables e below (T5.setTop (mkF m 40 #[.val (.int p0), .val (.ref a1), .val (.int (1 : Int32)), .val (.int (p0 - ((128 : Int64).toInt32)))] [(.int (128 : Int32)), (.int (1 : Int32)), (.ref a1)])) t
    refine XS.iloadN X5.here hx rfl (hb hby d1_40) rfl ?_
    show Steps p.tables e below (T5.setTop (mkF m 41 #[.val (.int p0), .val (.ref a1), .val (.int (1 : Int32)), .val (.int (p0 - ((128 : Int64).toInt32)))] [(.int (p0 - ((128 : Int64).toInt32))), (.int (128 : Int32)), (.int (1 : Int32)), (.ref a1)])) t
    refine XS.bipush X5.here hx rfl (hb hby d1_41) ?_
    show Steps p.tables e below (T5.setTop (mkF m 43 #[.val (.int p0), .val (.ref a1), .val (.int (1 : Int32)), .val (.int (p0 - ((128 : Int64).toInt32)))] [(.int (7 : Int32)), (.int (p0 - ((128 : Int64).toInt32))), (.int (128 : Int32)), (.int (1 : Int32)), (.ref a1)])) t
    refine XS.iushr X5.here hx rfl (hb hby d1_43) rfl ?_
    show Steps p.tables e below (T5.setTop (mkF m 44 #[.val (.int p0), .val (.ref a1), .val (.int (1 : Int32)), .val (.int (p0 - ((128 : Int64).toInt32)))] [(.int (((p0 - ((128 : Int64).toInt32)).toUInt32 >>> ((7 : Int32) &&& 31).toUInt32).toInt32)), (.int (128 : Int32)), (.int (1 : Int32)), (.ref a1)])) t
    refine XS.ior X5.here hx rfl (hb hby d1_44) rfl ?_
    show Steps p.tables e below (T5.setTop (mkF m 45 #[.val (.int p0), .val (.ref a1), .val (.int (1 : Int32)), .val (.int (p0 - ((128 : Int64).toInt32)))] [(.int ((128 : Int32) ||| (((p0 - ((128 : Int64).toInt32)).toUInt32 >>> ((7 : Int32) &&& 31).toUInt32).toInt32))), (.int (1 : Int32)), (.ref a1)])) t
    refine XS.i2b X5.here hx rfl (hb hby d1_45) rfl ?_
    exact k
  have cq7 := V_a
  obtain ⟨clq7, Arq7, qq7, Sq7, Nq7, Hq7, Gq7⟩ := cq7
  obtain ⟨T8, h8, X8, e8, W8, st8⟩ := stB X5 hx hZ e5 Arq7 (j := (1 : Int32)) (inb_of Sq7 ⟨by decide, by decide⟩) (g := (mkF m 46 #[.val (.int p0), .val (.ref a1), .val (.int (1 : Int32)), .val (.int (p0 - ((128 : Int64).toInt32)))] [(.int (((128 : Int32) ||| (((p0 - ((128 : Int64).toInt32)).toUInt32 >>> ((7 : Int32) &&& 31).toUInt32).toInt32)).toInt8.toInt32)), (.int (1 : Int32)), (.ref a1)])) rfl rfl (hb hby d1_46)
  refine OwnGo.of st8 ?_
  have N8 := Fr.snoc X8 N0 g_a1
  have f9 : n0 ≤ h8.size := Nat.le_trans Z0 (Keep.of_wr W8).1
  have f10 : Keep h0 h8 [a1] := K0.wr W8 (Or.inl (List.mem_of_getElem? (i := 0) rfl))
  have f11 : Sta Z h8 "com/example/sevenfold/sevenfold/Natural" "FIRST_OF_LENGTH" "[J" (.ref wF) := S_FIRST_OF_LENGTH.wr W8
  have f12 : Arv Z h8 wF kf .long (10 : Int32) [(.long (0 : Int64)), (.long (0 : Int64)), (.long (128 : Int64)), (.long (16512 : Int64)), (.long (2113664 : Int64)), (.long (270549120 : Int64)), (.long (34630287488 : Int64)), (.long (4432676798592 : Int64)), (.long (567382630219904 : Int64)), (.long (72624976668147840 : Int64))] (.long (0 : Int64)) := V_F.other W8 hne
  have f13 : Arv Z h8 a1 ka .byte (8 : Int32) [(.int el0), (.int ((((128 : Int32) ||| (((p0 - ((128 : Int64).toInt32)).toUInt32 >>> ((7 : Int32) &&& 31).toUInt32).toInt32)).toInt8.toInt32)).toInt8.toInt32), (.int el2), (.int el3), (.int el4), (.int el5), (.int el6), (.int el7)] (.int (0 : Int32)) := Arv.set Arq7 qq7 Sq7 Nq7 Hq7 Gq7 (fits_nar_byte _) W8 1 rfl (Nat.le_of_ble_eq_true rfl)
  show OwnGo p.tables e below _ (T8.setTop (mkF m 47 #[.val (.int p0), .val (.ref a1), .val (.int (1 : Int32)), .val (.int (p0 - ((128 : Int64).toInt32)))] []))
  refine OwnGo.of (A := T8.setTop (mkF m 47 #[.val (.int p0), .val (.ref a1), .val (.int (1 : Int32)), .val (.int (p0 - ((128 : Int64).toInt32)))] [])) (B := T8.setTop (mkF m 56 #[.val (.int p0), .val (.ref a1), .val (.int (1 : Int32)), .val (.int (p0 - ((128 : Int64).toInt32)))] [(.int (((p0 - ((128 : Int64).toInt32)) &&& (127 : Int32)).toInt8.toInt32)), (.int ((1 : Int32) + (1 : Int32))), (.ref a1)])) (fun t k => ?_) ?_
  · show Steps p.tables e below (T8.setTop (mkF m 47 #[.val (.int p0), .val (.ref a1), .val (.int (1 : Int32)), .val (.int (p0 - ((128 : Int64).toInt32)))] [])) t
    refine XS.aloadN X8.here hx rfl (hb hby d1_47) rfl rfl ?_
    show Steps p.tables e below (T8.setTop (mkF m 48 #[.val (.int p0), .val (.ref a1), .val (.int (1 : Int32)), .val (.int (p0 - ((128 : Int64).toInt32)))] [(.ref a1)])) t
    refine XS.iloadN X8.here hx rfl (hb hby d1_48) rfl ?_
    show Steps p.tables e below (T8.setTop (mkF m 49 #[.val (.int p0), .val (.ref a1), .val (.int (1 : Int32)), .val (.int (p0 - ((128 : Int64).toInt32)))] [(.int (1 : Int32)), (.ref a1)])) t
    refine XS.iconst X8.here hx rfl (hb hby d1_49) ?_
    show Steps p.tables e below (T8.setTop (mkF m 50 #[.val (.int p0), .val (.ref a1), .val (.int (1 : Int32)), .val (.int (p0 - ((128 : Int64).toInt32)))] [(.int (1 : Int32)), (.int (1 : Int32)), (.ref a1)])) t
    refine XS.iadd X8.here hx rfl (hb hby d1_50) rfl ?_
    show Steps p.tables e below (T8.setTop (mkF m 51 #[.val (.int p0), .val (.ref a1), .val (.int (1 : Int32)), .val (.int (p0 - ((128 : Int64).toInt32)))] [(.int ((1 : Int32) + (1 : Int32))), (.ref a1)])) t
    refine XS.iloadN X8.here hx rfl (hb hby d1_51) rfl ?_
    show Steps p.tables e below (T8.setTop (mkF m 52 #[.val (.int p0), .val (.ref a1), .val (.int (1 : Int32)), .val (.int (p0 - ((128 : Int64).toInt32)))] [(.int (p0 - ((128 : Int64).toInt32))), (.int ((1 : Int32) + (1 : Int32))), (.ref a1)])) t
    refine XS.bipush X8.here hx rfl (hb hby d1_52) ?_
    show Steps p.tables e below (T8.setTop (mkF m 54 #[.val (.int p0), .val (.ref a1), .val (.int (1 : Int32)), .val (.int (p0 - ((128 : Int64).toInt32)))] [(.int (127 : Int32)), (.int (p0 - ((128 : Int64).toInt32))), (.int ((1 : Int32) + (1 : Int32))), (.ref a1)])) t
    refine XS.iand X8.here hx rfl (hb hby d1_54) rfl ?_
    show Steps p.tables e below (T8.setTop (mkF m 55 #[.val (.int p0), .val (.ref a1), .val (.int (1 : Int32)), .val (.int (p0 - ((128 : Int64).toInt32)))] [(.int ((p0 - ((128 : Int64).toInt32)) &&& (127 : Int32))), (.int ((1 : Int32) + (1 : Int32))), (.ref a1)])) t
    refine XS.i2b X8.here hx rfl (hb hby d1_55) rfl ?_
    exact k
  rw [show ((1 : Int32) + (1 : Int32)) = (2 : Int32) from by decide]
  show OwnGo p.tables e below _ (T8.setTop (mkF m 56 #[.val (.int p0), .val (.ref a1), .val (.int (1 : Int32)), .val (.int (p0 - ((128 : Int64).toInt32)))] [(.int (((p0 - ((128 : Int64).toInt32)) &&& (127 : Int32)).toInt8.toInt32)), (.int (2 : Int32)), (.ref a1)]))
  have cq14 := f13
  obtain ⟨clq14, Arq14, qq14, Sq14, Nq14, Hq14, Gq14⟩ := cq14
  obtain ⟨T15, h15, X15, e15, W15, st15⟩ := stB X8 hx hZ e8 Arq14 (j := (2 : Int32)) (inb_of Sq14 ⟨by decide, by decide⟩) (g := (mkF m 56 #[.val (.int p0), .val (.ref a1), .val (.int (1 : Int32)), .val (.int (p0 - ((128 : Int64).toInt32)))] [(.int (((p0 - ((128 : Int64).toInt32)) &&& (127 : Int32)).toInt8.toInt32)), (.int (2 : Int32)), (.ref a1)])) rfl rfl (hb hby d1_56)
  refine OwnGo.of st15 ?_
  have N15 := Fr.snoc X15 N8 g_a1
  have f16 : n0 ≤ h15.size := Nat.le_trans f9 (Keep.of_wr W15).1
  have f17 : Keep h0 h15 [a1] := f10.wr W15 (Or.inl (List.mem_of_getElem? (i := 0) rfl))
  have f18 : Sta Z h15 "com/example/sevenfold/sevenfold/Natural" "FIRST_OF_LENGTH" "[J" (.ref wF) := f11.wr W15
  have f19 : Arv Z h15 wF kf .long (10 : Int32) [(.long (0 : Int64)), (.long (0 : Int64)), (.long (128 : Int64)), (.long (16512 : Int64)), (.long (2113664 : Int64)), (.long (270549120 : Int64)), (.long (34630287488 : Int64)), (.long (4432676798592 : Int64)), (.long (567382630219904 : Int64)), (.long (72624976668147840 : Int64))] (.long (0 : Int64)) := f12.other W15 hne
  have f20 : Arv Z h15 a1 ka .byte (8 : Int32) [(.int el0), (.int ((((128 : Int32) ||| (((p0 - ((128 : Int64).toInt32)).toUInt32 >>> ((7 : Int32) &&& 31).toUInt32).toInt32)).toInt8.toInt32)).toInt8.toInt32), (.int ((((p0 - ((128 : Int64).toInt32)) &&& (127 : Int32)).toInt8.toInt32)).toInt8.toInt32), (.int el3), (.int el4), (.int el5), (.int el6), (.int el7)] (.int (0 : Int32)) := Arv.set Arq14 qq14 Sq14 Nq14 Hq14 Gq14 (fits_nar_byte _) W15 2 rfl (Nat.le_of_ble_eq_true rfl)
  show OwnGo p.tables e below _ (T15.setTop (mkF m 57 #[.val (.int p0), .val (.ref a1), .val (.int (1 : Int32)), .val (.int (p0 - ((128 : Int64).toInt32)))] []))
  refine OwnGo.of (A := T15.setTop (mkF m 57 #[.val (.int p0), .val (.ref a1), .val (.int (1 : Int32)), .val (.int (p0 - ((128 : Int64).toInt32)))] [])) (B := T15.setTop (mkF m 60 #[.val (.int p0), .val (.ref a1), .val (.int (1 : Int32)), .val (.int (p0 - ((128 : Int64).toInt32)))] [(.int ((1 : Int32) + (2 : Int32)))])) (fun t k => ?_) ?_
  · show Steps p.tables e below (T15.setTop (mkF m 57 #[.val (.int p0), .val (.ref a1), .val (.int (1 : Int32)), .val (.int (p0 - ((128 : Int64).toInt32)))] [])) t
    refine XS.iloadN X15.here hx rfl (hb hby d1_57) rfl ?_
    show Steps p.tables e below (T15.setTop (mkF m 58 #[.val (.int p0), .val (.ref a1), .val (.int (1 : Int32)), .val (.int (p0 - ((128 : Int64).toInt32)))] [(.int (1 : Int32))])) t
    refine XS.iconst X15.here hx rfl (hb hby d1_58) ?_
    show Steps p.tables e below (T15.setTop (mkF m 59 #[.val (.int p0), .val (.ref a1), .val (.int (1 : Int32)), .val (.int (p0 - ((128 : Int64).toInt32)))] [(.int (2 : Int32)), (.int (1 : Int32))])) t
    refine XS.iadd X15.here hx rfl (hb hby d1_59) rfl ?_
    exact k
  obtain ⟨fs, hr, hrun, hended, hW, hsame⟩ := X15.leave (v := some (.int ((1 : Int32) + (2 : Int32)))) (fun h => by rw [Bd.returns] at h; cases h) hlk
  refine ⟨_, _, ?_, hrun, hended, _, _, rfl, ?_, ⟨_, rfl⟩, hW, hsame.mono (by decide) (by decide)⟩
  · show Steps p.tables e below (T15.setTop (mkF m 60 #[.val (.int p0), .val (.ref a1), .val (.int (1 : Int32)), .val (.int (p0 - ((128 : Int64).toInt32)))] [(.int ((1 : Int32) + (2 : Int32)))])) _
    exact own_retI X15 hx Bd.returns (hb hby d1_60) hr
  · show Qrm1_1B Z p0 a1 el0 el1 el2 el3 el4 el5 el6 el7 ka wF kf h0 n0 _ (T15.setFrames fs).heap _
    rw [show (T15.setFrames fs).heap = h15 from e15]
    exact ⟨congrArg (fun z => some (Value.int z)) (by decide), N15, f17, f20⟩
theorem ef_rm1_1C (m : MethodId) (p0 : Int32) (a1 : Addr) : entryFrame m #[(.int p0), (.ref a1), (.int (1 : Int32))] 4 = mkF m 0 #[.val (.int p0), .val (.ref a1), .val (.int (1 : Int32)), .unset] [] := by first | (simp [entryFrame, mkF, argsToLocals, Value.category]; done) | rfl
def Qrm1_1C (Z : State) (p0 : Int32) (a1 : Addr) (el0 : Int32) (el1 : Int32) (el2 : Int32) (el3 : Int32) (el4 : Int32) (el5 : Int32) (el6 : Int32) (el7 : Int32) (ka : ClassId) (wF : Addr) (kf : ClassId) (h0 : Heap) (n0 : Nat) (v : Option Value) (h : Heap) (L : List Loc) : Prop := v = some (.int (4 : Int32)) ∧ Fr n0 L ∧ Keep h0 h [a1] ∧ Arv Z h a1 ka .byte (8 : Int32) [(.int el0), (.int ((((128 : Int32) ||| (((p0 - ((16512 : Int64).toInt32)).toUInt32 >>> ((14 : Int32) &&& 31).toUInt32).toInt32)).toInt8.toInt32)).toInt8.toInt32), (.int ((((128 : Int32) ||| ((((p0 - ((16512 : Int64).toInt32)).toUInt32 >>> ((7 : Int32) &&& 31).toUInt32).toInt32) &&& (127 : Int32))).toInt8.toInt32)).toInt8.toInt32), (.int ((((p0 - ((16512 : Int64).toInt32)) &&& (127 : Int32)).toInt8.toInt32)).toInt8.toInt32), (.int el4), (.int el5), (.int el6), (.int el7)] (.int (0 : Int32))
set_option maxRecDepth 65536 in
set_option maxHeartbeats 40000000 in
theorem rm1_1C (l : Launch) (Z : State) (aw : Array Value) (hw : ∀ d ∈ tables_1, d.before aw Z = true) (ws : List Jvm.Cond) (p0 : Int32) (a1 : Addr) (el0 : Int32) (el1 : Int32) (el2 : Int32) (el3 : Int32) (el4 : Int32) (el5 : Int32) (el6 : Int32) (el7 : Int32) (ka : ClassId) (wF : Addr) (kf : ClassId) (h0 : Heap) (n0 : Nat) (Z0 : n0 ≤ h0.size) (S_FIRST_OF_LENGTH : Sta Z h0 "com/example/sevenfold/sevenfold/Natural" "FIRST_OF_LENGTH" "[J" (.ref wF)) (V_F : Arv Z h0 wF kf .long (10 : Int32) [(.long (0 : Int64)), (.long (0 : Int64)), (.long (128 : Int64)), (.long (16512 : Int64)), (.long (2113664 : Int64)), (.long (270549120 : Int64)), (.long (34630287488 : Int64)), (.long (4432676798592 : Int64)), (.long (567382630219904 : Int64)), (.long (72624976668147840 : Int64))] (.long (0 : Int64))) (V_a : Arv Z h0 a1 ka .byte (8 : Int32) [(.int el0), (.int el1), (.int el2), (.int el3), (.int el4), (.int el5), (.int el6), (.int el7)] (.int (0 : Int32))) (g_a1 : n0 ≤ a1) (hne : wF ≠ a1) (hA : (127 : Int32) < p0) (hB : ¬ (lcmpW (p0.toInt64) (16512 : Int64) < (0 : Int32))) :
    MetFree l (⟨"com/example/sevenfold/sevenfold/Natural", "writeCodePoint", "(I[BI)I"⟩ : MethodName) (head1 (Jvm.Cond.code (⟨"com/example/sevenfold/sevenfold/Natural", "writeCodePoint", "(I[BI)I"⟩ : MethodName) prog_5_method_8_code 4 (some .int) :: ws) ({ frames := 0, cells := 0, slots := 0, locals := 0 } : Room)) (fun a U => a = #[(.int p0), (.ref a1), (.int (1 : Int32))] ∧ Z.Warmed39 U.vm ∧ U.heap = h0) (fun _ _ _ _ _ => True) (fun _ U o U' => ∃ v L, o = .returned v ∧ Qrm1_1C Z p0 a1 el0 el1 el2 el3 el4 el5 el6 el7 ka wF kf h0 n0 v U'.heap L ∧ FrameEnd U o U' L ({ frames := 0, cells := 0, slots := 0, locals := 0 } : Room).cells ({ frames := 0, cells := 0, slots := 0, locals := 0 } : Room).slots) := by
  refine MetFree.of_bodySF (plainFor_of_name pn_0) hisR ?_
  intro p e s m args below meth c s₁ Bd hml0 hP hK
  obtain ⟨rfl, hZ, hh⟩ := hP
  have hx := Bd.exec
  have hby := Bd.bytes
  have hml : c.maxLocals = 4 := hml0
  have hown : s.vm.findClass "com/example/sevenfold/sevenfold/Natural" = some m.cls := findClass_of_methodNamed Bd.named
  have hnm := (name_of_methodNamed Bd.named Bd.method).1
  have X0 : Stand p l e ({ frames := 0, cells := 0, slots := 0, locals := 0 } : Room) s m #[(.int p0), (.ref a1), (.int (1 : Int32))] below meth c s₁ [] 0 0 := Stand.of_body Bd
  have e0 : s₁.heap = h0 := by rw [← hh, Bd.state]; rfl
  have N0 := Fr.nil n0
  have hlk := Bd.notSynchronized
  show OwnGo p.tables e below _ (s₁.setTop (entryFrame m #[(.int p0), (.ref a1), (.int (1 : Int32))] 4))
  rw [ef_rm1_1C m p0 a1]
  have K0 : Keep h0 h0 [a1] := Keep.refl _ _
  show OwnGo p.tables e below _ (s₁.setTop (mkF m 0 #[.val (.int p0), .val (.ref a1), .val (.int (1 : Int32)), .unset] []))
  refine OwnGo.of (A := s₁.setTop (mkF m 0 #[.val (.int p0), .val (.ref a1), .val (.int (1 : Int32)), .unset] [])) (B := s₁.setTop (mkF m 3 #[.val (.int p0), .val (.ref a1), .val (.int (1 : Int32)), .unset] [(.int (127 : Int32)), (.int p0)])) (fun t k => ?_) ?_
  · show Steps p.tables e below (s₁.setTop (mkF m 0 #[.val (.int p0), .val (.ref a1), .val (.int (1 : Int32)), .unset] [])) t
    refine XS.iloadN X0.here hx rfl (hb hby d1_0) rfl ?_
    show Steps p.tables e below (s₁.setTop (mkF m 1 #[.val (.int p0), .val (.ref a1), .val (.int (1 : Int32)), .unset] [(.int p0)])) t
    refine XS.bipush X0.here hx rfl (hb hby d1_1) ?_
    exact k
  have hc1 : (127 : Int32) < p0 := hA
  refine OwnGo.of (A := s₁.setTop (mkF m 3 #[.val (.int p0), .val (.ref a1), .val (.int (1 : Int32)), .unset] [(.int (127 : Int32)), (.int p0)])) (B := s₁.setTop (mkF m 17 #[.val (.int p0), .val (.ref a1), .val (.int (1 : Int32)), .unset] [(.long (p0.toInt64))])) (fun t k => ?_) ?_
  · show Steps p.tables e below (s₁.setTop (mkF m 3 #[.val (.int p0), .val (.ref a1), .val (.int (1 : Int32)), .unset] [(.int (127 : Int32)), (.int p0)])) t
    refine XS.icmpYes X0.here hx rfl (pc0 := 3) (pc' := 15) rfl (hb hby d1_3) rfl (tlt hc1).2.2.1 (by decide) (by decide) ?_
    show Steps p.tables e below (s₁.setTop (mkF m 15 #[.val (.int p0), .val (.ref a1), .val (.int (1 : Int32)), .unset] [])) t
    refine XS.iloadN X0.here hx rfl (hb hby d1_15) rfl ?_
    show Steps p.tables e below (s₁.setTop (mkF m 16 #[.val (.int p0), .val (.ref a1), .val (.int (1 : Int32)), .unset] [(.int p0)])) t
    refine XS.i2l X0.here hx rfl (hb hby d1_16) rfl ?_
    exact k
  obtain ⟨T2, X2, e2, st2⟩ := getS2 X0 hx hZ hown (host := "") (Or.inl (hw _ (List.mem_of_getElem? (i := 11) rfl))) Via.refl e0 S_FIRST_OF_LENGTH (g := (mkF m 17 #[.val (.int p0), .val (.ref a1), .val (.int (1 : Int32)), .unset] [(.long (p0.toInt64))])) rfl (hb hby d1_17)
  refine OwnGo.of st2 ?_
  show OwnGo p.tables e below _ (T2.setTop (mkF m 20 #[.val (.int p0), .val (.ref a1), .val (.int (1 : Int32)), .unset] [(.ref wF), (.long (p0.toInt64))]))
  refine OwnGo.of (A := T2.setTop (mkF m 20 #[.val (.int p0), .val (.ref a1), .val (.int (1 : Int32)), .unset] [(.ref wF), (.long (p0.toInt64))])) (B := T2.setTop (mkF m 21 #[.val (.int p0), .val (.ref a1), .val (.int (1 : Int32)), .unset] [(.int (3 : Int32)), (.ref wF), (.long (p0.toInt64))])) (fun t k => ?_) ?_
  · show Steps p.tables e below (T2.setTop (mkF m 20 #[.val (.int p0), .val (.ref a1), .val (.int (1 : Int32)), .unset] [(.ref wF), (.long (p0.toInt64))])) t
    refine XS.iconst X2.here hx rfl (hb hby d1_20) ?_
    exact k
  have cq3 := V_F
  obtain ⟨clq3, Arq3, qq3, Sq3, Nq3, Hq3, Gq3⟩ := cq3
  have hinq3 := inb_of (j := (3 : Int32)) Sq3 ⟨by decide, by decide⟩
  refine OwnGo.of (X2.laload hx (j := (3 : Int32)) (v := (.long (16512 : Int64))) (by rw [e2]; exact Arq3.1) (State.isArrayOf_alike hZ.alike Arq3.2.1) Arq3.2.2 hinq3 (Hq3.at hinq3 rfl) (g := (mkF m 21 #[.val (.int p0), .val (.ref a1), .val (.int (1 : Int32)), .unset] [(.int (3 : Int32)), (.ref wF), (.long (p0.toInt64))])) rfl rfl (hb hby d1_21)) ?_
  show OwnGo p.tables e below _ (T2.setTop (mkF m 22 #[.val (.int p0), .val (.ref a1), .val (.int (1 : Int32)), .unset] [(.long (16512 : Int64)), (.long (p0.toInt64))]))
  refine OwnGo.of (A := T2.setTop (mkF m 22 #[.val (.int p0), .val (.ref a1), .val (.int (1 : Int32)), .unset] [(.long (16512 : Int64)), (.long (p0.toInt64))])) (B := T2.setTop (mkF m 23 #[.val (.int p0), .val (.ref a1), .val (.int (1 : Int32)), .unset] [(.int (lcmpW (p0.toInt64) (16512 : Int64)))])) (fun t k => ?_) ?_
  · show Steps p.tables e below (T2.setTop (mkF m 22 #[.val (.int p0), .val (.ref a1), .val (.int (1 : Int32)), .unset] [(.long (16512 : Int64)), (.long (p0.toInt64))])) t
    refine XS.lcmp X2.here hx rfl (hb hby d1_22) rfl ?_
    exact k
  have hc4 : ¬ ((lcmpW (p0.toInt64) (16512 : Int64)) < (0 : Int32)) := hB
  refine OwnGo.of (A := T2.setTop (mkF m 23 #[.val (.int p0), .val (.ref a1), .val (.int (1 : Int32)), .unset] [(.int (lcmpW (p0.toInt64) (16512 : Int64)))])) (B := T2.setTop (mkF m 62 #[.val (.int p0), .val (.ref a1), .val (.int (1 : Int32)), .unset] [(.int p0)])) (fun t k => ?_) ?_
  · show Steps p.tables e below (T2.setTop (mkF m 23 #[.val (.int p0), .val (.ref a1), .val (.int (1 : Int32)), .unset] [(.int (lcmpW (p0.toInt64) (16512 : Int64)))])) t
    refine XS.ifYes X2.here hx rfl (pc0 := 23) (pc' := 61) rfl (hb hby d1_23) rfl ((if0 _ _).trans (flt hc4).2.1) (by decide) (by decide) ?_
    show Steps p.tables e below (T2.setTop (mkF m 61 #[.val (.int p0), .val (.ref a1), .val (.int (1 : Int32)), .unset] [])) t
    refine XS.iloadN X2.here hx rfl (hb hby d1_61) rfl ?_
    exact k
  obtain ⟨T5, X5, e5, st5⟩ := getS2 X2 hx hZ hown (host := "") (Or.inl (hw _ (List.mem_of_getElem? (i := 11) rfl))) Via.refl e2 S_FIRST_OF_LENGTH (g := (mkF m 62 #[.val (.int p0), .val (.ref a1), .val (.int (1 : Int32)), .unset] [(.int p0)])) rfl (hb hby d1_62)
  refine OwnGo.of st5 ?_
  show OwnGo p.tables e below _ (T5.setTop (mkF m 65 #[.val (.int p0), .val (.ref a1), .val (.int (1 : Int32)), .unset] [(.ref wF), (.int p0)]))
  refine OwnGo.of (A := T5.setTop (mkF m 65 #[.val (.int p0), .val (.ref a1), .val (.int (1 : Int32)), .unset] [(.ref wF), (.int p0)])) (B := T5.setTop (mkF m 66 #[.val (.int p0), .val (.ref a1), .val (.int (1 : Int32)), .unset] [(.int (3 : Int32)), (.ref wF), (.int p0)])) (fun t k => ?_) ?_
  · show Steps p.tables e below (T5.setTop (mkF m 65 #[.val (.int p0), .val (.ref a1), .val (.int (1 : Int32)), .unset] [(.ref wF), (.int p0)])) t
    refine XS.iconst X5.here hx rfl (hb hby d1_65) ?_
    exact k
  have cq6 := V_F
  obtain ⟨clq6, Arq6, qq6, Sq6, Nq6, Hq6, Gq6⟩ := cq6
  have hinq6 := inb_of (j := (3 : Int32)) Sq6 ⟨by decide, by decide⟩
  refine OwnGo.of (X5.laload hx (j := (3 : Int32)) (v := (.long (16512 : Int64))) (by rw [e5]; exact Arq6.1) (State.isArrayOf_alike hZ.alike Arq6.2.1) Arq6.2.2 hinq6 (Hq6.at hinq6 rfl) (g := (mkF m 66 #[.val (.int p0), .val (.ref a1), .val (.int (1 : Int32)), .unset] [(.int (3 : Int32)), (.ref wF), (.int p0)])) rfl rfl (hb hby d1_66)) ?_
  show OwnGo p.tables e below _ (T5.setTop (mkF m 67 #[.val (.int p0), .val (.ref a1), .val (.int (1 : Int32)), .unset] [(.long (16512 : Int64)), (.int p0)]))
  refine OwnGo.of (A := T5.setTop (mkF m 67 #[.val (.int p0), .val (.ref a1), .val (.int (1 : Int32)), .unset] [(.long (16512 : Int64)), (.int p0)])) (B := T5.setTop (mkF m 81 #[.val (.int p0), .val (.ref a1), .val (.int (1 : Int32)), .val (.int (p0 - ((16512 : Int64).toInt32)))] [(.int (((128 : Int32) ||| (((p0 - ((16512 : Int64).toInt32)).toUInt32 >>> ((14 : Int32) &&& 31).toUInt32).toInt32)).toInt8.toInt32)), (.int (1 : Int32)), (.ref a1)])) (fun t k => ?_) ?_
  · show Steps p.tables e below (T5.setTop (mkF m 67 #[.val (.int p0), .val (.ref a1), .val (.int (1 : Int32)), .unset] [(.long (16512 : Int64)), (.int p0)])) t
    refine XS.l2i X5.here hx rfl (hb hby d1_67) rfl ?_
    show Steps p.tables e below (T5.setTop (mkF m 68 #[.val (.int p0), .val (.ref a1), .val (.int (1 : Int32)), .unset] [(.int ((16512 : Int64).toInt32)), (.int p0)])) t
    refine XS.isub X5.here hx rfl (hb hby d1_68) rfl ?_
    show Steps p.tables e below (T5.setTop (mkF m 69 #[.val (.int p0), .val (.ref a1), .val (.int (1 : Int32)), .unset] [(.int (p0 - ((16512 : Int64).toInt32)))])) t
    refine XS.istoreN X5.here hx rfl (hb hby d1_69) rfl (l' := #[.val (.int p0), .val (.ref a1), .val (.int (1 : Int32)), .val (.int (p0 - ((16512 : Int64).toInt32)))]) rfl ?_
    show Steps p.tables e below (T5.setTop (mkF m 70 #[.val (.int p0), .val (.ref a1), .val (.int (1 : Int32)), .val (.int (p0 - ((16512 : Int64).toInt32)))] [])) t
    refine XS.aloadN X5.here hx rfl (hb hby d1_70) rfl rfl ?_
    show Steps p.tables e below (T5.setTop (mkF m 71 #[.val (.int p0), .val (.ref a1), .val (.int (1 : Int32)), .val (.int (p0 - ((16512 : Int64).toInt32)))] [(.ref a1)])) t
    refine XS.iloadN X5.here hx rfl (hb hby d1_71) rfl ?_
    show Steps p.tables e below (T5.setTop (mkF m 72 #[.val (.int p0), .val (.ref a1), .val (.int (1 : Int32)), .val (.int (p0 - ((16512 : Int64).toInt32)))] [(.int (1 : Int32)), (.ref a1)])) t
    refine XS.sipush X5.here hx rfl (hb hby d1_72) ?_
    show Steps p.tables e below (T5.setTop (mkF m 75 #[.val (.int p0), .val (.ref a1), .val (.int (1 : Int32)), .val (.int (p0 - ((16512 : Int64).toInt32)))] [(.int (128 : Int32)), (.int (1 : Int32)), (.ref a1)])) t
    refine XS.iloadN X5.here hx rfl (hb hby d1_75) rfl ?_
    show Steps p.tables e below (T5.setTop (mkF m 76 #[.val (.int p0), .val (.ref a1), .val (.int (1 : Int32)), .val (.int (p0 - ((16512 : Int64).toInt32)))] [(.int (p0 - ((16512 : Int64).toInt32))), (.int (128 : Int32)), (.int (1 : Int32)), (.ref a1)])) t
    refine XS.bipush X5.here hx rfl (hb hby d1_76) ?_
    show Steps p.tables e below (T5.setTop (mkF m 78 #[.val (.int p0), .val (.ref a1), .val (.int (1 : Int32)), .val (.int (p0 - ((16512 : Int64).toInt32)))] [(.int (14 : Int32)), (.int (p0 - ((16512 : Int64).toInt32))), (.int (128 : Int32)), (.int (1 : Int32)), (.ref a1)])) t
    refine XS.iushr X5.here hx rfl (hb hby d1_78) rfl ?_
    show Steps p.tables e below (T5.setTop (mkF m 79 #[.val (.int p0), .val (.ref a1), .val (.int (1 : Int32)), .val (.int (p0 - ((16512 : Int64).toInt32)))] [(.int (((p0 - ((16512 : Int64).toInt32)).toUInt32 >>> ((14 : Int32) &&& 31).toUInt32).toInt32)), (.int (128 : Int32)), (.int (1 : Int32)), (.ref a1)])) t
    refine XS.ior X5.here hx rfl (hb hby d1_79) rfl ?_
    show Steps p.tables e below (T5.setTop (mkF m 80 #[.val (.int p0), .val (.ref a1), .val (.int (1 : Int32)), .val (.int (p0 - ((16512 : Int64).toInt32)))] [(.int ((128 : Int32) ||| (((p0 - ((16512 : Int64).toInt32)).toUInt32 >>> ((14 : Int32) &&& 31).toUInt32).toInt32))), (.int (1 : Int32)), (.ref a1)])) t
    refine XS.i2b X5.here hx rfl (hb hby d1_80) rfl ?_
    exact k
  have cq7 := V_a
  obtain ⟨clq7, Arq7, qq7, Sq7, Nq7, Hq7, Gq7⟩ := cq7
  obtain ⟨T8, h8, X8, e8, W8, st8⟩ := stB X5 hx hZ e5 Arq7 (j := (1 : Int32)) (inb_of Sq7 ⟨by decide, by decide⟩) (g := (mkF m 81 #[.val (.int p0), .val (.ref a1), .val (.int (1 : Int32)), .val (.int (p0 - ((16512 : Int64).toInt32)))] [(.int (((128 : Int32) ||| (((p0 - ((16512 : Int64).toInt32)).toUInt32 >>> ((14 : Int32) &&& 31).toUInt32).toInt32)).toInt8.toInt32)), (.int (1 : Int32)), (.ref a1)])) rfl rfl (hb hby d1_81)
  refine OwnGo.of st8 ?_
  have N8 := Fr.snoc X8 N0 g_a1
  have f9 : n0 ≤ h8.size := Nat.le_trans Z0 (Keep.of_wr W8).1
  have f10 : Keep h0 h8 [a1] := K0.wr W8 (Or.inl (List.mem_of_getElem? (i := 0) rfl))
  have f11 : Sta Z h8 "com/example/sevenfold/sevenfold/Natural" "FIRST_OF_LENGTH" "[J" (.ref wF) := S_FIRST_OF_LENGTH.wr W8
  have f12 : Arv Z h8 wF kf .long (10 : Int32) [(.long (0 : Int64)), (.long (0 : Int64)), (.long (128 : Int64)), (.long (16512 : Int64)), (.long (2113664 : Int64)), (.long (270549120 : Int64)), (.long (34630287488 : Int64)), (.long (4432676798592 : Int64)), (.long (567382630219904 : Int64)), (.long (72624976668147840 : Int64))] (.long (0 : Int64)) := V_F.other W8 hne
  have f13 : Arv Z h8 a1 ka .byte (8 : Int32) [(.int el0), (.int ((((128 : Int32) ||| (((p0 - ((16512 : Int64).toInt32)).toUInt32 >>> ((14 : Int32) &&& 31).toUInt32).toInt32)).toInt8.toInt32)).toInt8.toInt32), (.int el2), (.int el3), (.int el4), (.int el5), (.int el6), (.int el7)] (.int (0 : Int32)) := Arv.set Arq7 qq7 Sq7 Nq7 Hq7 Gq7 (fits_nar_byte _) W8 1 rfl (Nat.le_of_ble_eq_true rfl)
  show OwnGo p.tables e below _ (T8.setTop (mkF m 82 #[.val (.int p0), .val (.ref a1), .val (.int (1 : Int32)), .val (.int (p0 - ((16512 : Int64).toInt32)))] []))
  refine OwnGo.of (A := T8.setTop (mkF m 82 #[.val (.int p0), .val (.ref a1), .val (.int (1 : Int32)), .val (.int (p0 - ((16512 : Int64).toInt32)))] [])) (B := T8.setTop (mkF m 98 #[.val (.int p0), .val (.ref a1), .val (.int (1 : Int32)), .val (.int (p0 - ((16512 : Int64).toInt32)))] [(.int (((128 : Int32) ||| ((((p0 - ((16512 : Int64).toInt32)).toUInt32 >>> ((7 : Int32) &&& 31).toUInt32).toInt32) &&& (127 : Int32))).toInt8.toInt32)), (.int ((1 : Int32) + (1 : Int32))), (.ref a1)])) (fun t k => ?_) ?_
  · show Steps p.tables e below (T8.setTop (mkF m 82 #[.val (.int p0), .val (.ref a1), .val (.int (1 : Int32)), .val (.int (p0 - ((16512 : Int64).toInt32)))] [])) t
    refine XS.aloadN X8.here hx rfl (hb hby d1_82) rfl rfl ?_
    show Steps p.tables e below (T8.setTop (mkF m 83 #[.val (.int p0), .val (.ref a1), .val (.int (1 : Int32)), .val (.int (p0 - ((16512 : Int64).toInt32)))] [(.ref a1)])) t
    refine XS.iloadN X8.here hx rfl (hb hby d1_83) rfl ?_
    show Steps p.tables e below (T8.setTop (mkF m 84 #[.val (.int p0), .val (.ref a1), .val (.int (1 : Int32)), .val (.int (p0 - ((16512 : Int64).toInt32)))] [(.int (1 : Int32)), (.ref a1)])) t
    refine XS.iconst X8.here hx rfl (hb hby d1_84) ?_
    show Steps p.tables e below (T8.setTop (mkF m 85 #[.val (.int p0), .val (.ref a1), .val (.int (1 : Int32)), .val (.int (p0 - ((16512 : Int64).toInt32)))] [(.int (1 : Int32)), (.int (1 : Int32)), (.ref a1)])) t
    refine XS.iadd X8.here hx rfl (hb hby d1_85) rfl ?_
    show Steps p.tables e below (T8.setTop (mkF m 86 #[.val (.int p0), .val (.ref a1), .val (.int (1 : Int32)), .val (.int (p0 - ((16512 : Int64).toInt32)))] [(.int ((1 : Int32) + (1 : Int32))), (.ref a1)])) t
    refine XS.sipush X8.here hx rfl (hb hby d1_86) ?_
    show Steps p.tables e below (T8.setTop (mkF m 89 #[.val (.int p0), .val (.ref a1), .val (.int (1 : Int32)), .val (.int (p0 - ((16512 : Int64).toInt32)))] [(.int (128 : Int32)), (.int ((1 : Int32) + (1 : Int32))), (.ref a1)])) t
    refine XS.iloadN X8.here hx rfl (hb hby d1_89) rfl ?_
    show Steps p.tables e below (T8.setTop (mkF m 90 #[.val (.int p0), .val (.ref a1), .val (.int (1 : Int32)), .val (.int (p0 - ((16512 : Int64).toInt32)))] [(.int (p0 - ((16512 : Int64).toInt32))), (.int (128 : Int32)), (.int ((1 : Int32) + (1 : Int32))), (.ref a1)])) t
    refine XS.bipush X8.here hx rfl (hb hby d1_90) ?_
    show Steps p.tables e below (T8.setTop (mkF m 92 #[.val (.int p0), .val (.ref a1), .val (.int (1 : Int32)), .val (.int (p0 - ((16512 : Int64).toInt32)))] [(.int (7 : Int32)), (.int (p0 - ((16512 : Int64).toInt32))), (.int (128 : Int32)), (.int ((1 : Int32) + (1 : Int32))), (.ref a1)])) t
    refine XS.iushr X8.here hx rfl (hb hby d1_92) rfl ?_
    show Steps p.tables e below (T8.setTop (mkF m 93 #[.val (.int p0), .val (.ref a1), .val (.int (1 : Int32)), .val (.int (p0 - ((16512 : Int64).toInt32)))] [(.int (((p0 - ((16512 : Int64).toInt32)).toUInt32 >>> ((7 : Int32) &&& 31).toUInt32).toInt32)), (.int (128 : Int32)), (.int ((1 : Int32) + (1 : Int32))), (.ref a1)])) t
    refine XS.bipush X8.here hx rfl (hb hby d1_93) ?_
    show Steps p.tables e below (T8.setTop (mkF m 95 #[.val (.int p0), .val (.ref a1), .val (.int (1 : Int32)), .val (.int (p0 - ((16512 : Int64).toInt32)))] [(.int (127 : Int32)), (.int (((p0 - ((16512 : Int64).toInt32)).toUInt32 >>> ((7 : Int32) &&& 31).toUInt32).toInt32)), (.int (128 : Int32)), (.int ((1 : Int32) + (1 : Int32))), (.ref a1)])) t
    refine XS.iand X8.here hx rfl (hb hby d1_95) rfl ?_
    show Steps p.tables e below (T8.setTop (mkF m 96 #[.val (.int p0), .val (.ref a1), .val (.int (1 : Int32)), .val (.int (p0 - ((16512 : Int64).toInt32)))] [(.int ((((p0 - ((16512 : Int64).toInt32)).toUInt32 >>> ((7 : Int32) &&& 31).toUInt32).toInt32) &&& (127 : Int32))), (.int (128 : Int32)), (.int ((1 : Int32) + (1 : Int32))), (.ref a1)])) t
    refine XS.ior X8.here hx rfl (hb hby d1_96) rfl ?_
    show Steps p.tables e below (T8.setTop (mkF m 97 #[.val (.int p0), .val (.ref a1), .val (.int (1 : Int32)), .val (.int (p0 - ((16512 : Int64).toInt32)))] [(.int ((128 : Int32) ||| ((((p0 - ((16512 : Int64).toInt32)).toUInt32 >>> ((7 : Int32) &&& 31).toUInt32).toInt32) &&& (127 : Int32)))), (.int ((1 : Int32) + (1 : Int32))), (.ref a1)])) t
    refine XS.i2b X8.here hx rfl (hb hby d1_97) rfl ?_
    exact k
  rw [show ((1 : Int32) + (1 : Int32)) = (2 : Int32) from by decide]
  show OwnGo p.tables e below _ (T8.setTop (mkF m 98 #[.val (.int p0), .val (.ref a1), .val (.int (1 : Int32)), .val (.int (p0 - ((16512 : Int64).toInt32)))] [(.int (((128 : Int32) ||| ((((p0 - ((16512 : Int64).toInt32)).toUInt32 >>> ((7 : Int32) &&& 31).toUInt32).toInt32) &&& (127 : Int32))).toInt8.toInt32)), (.int (2 : Int32)), (.ref a1)]))
  have cq14 := f13
  obtain ⟨clq14, Arq14, qq14, Sq14, Nq14, Hq14, Gq14⟩ := cq14
  obtain ⟨T15, h15, X15, e15, W15, st15⟩ := stB X8 hx hZ e8 Arq14 (j := (2 : Int32)) (inb_of Sq14 ⟨by decide, by decide⟩) (g := (mkF m 98 #[.val (.int p0), .val (.ref a1), .val (.int (1 : Int32)), .val (.int (p0 - ((16512 : Int64).toInt32)))] [(.int (((128 : Int32) ||| ((((p0 - ((16512 : Int64).toInt32)).toUInt32 >>> ((7 : Int32) &&& 31).toUInt32).toInt32) &&& (127 : Int32))).toInt8.toInt32)), (.int (2 : Int32)), (.ref a1)])) rfl rfl (hb hby d1_98)
  refine OwnGo.of st15 ?_
  have N15 := Fr.snoc X15 N8 g_a1
  have f16 : n0 ≤ h15.size := Nat.le_trans f9 (Keep.of_wr W15).1
  have f17 : Keep h0 h15 [a1] := f10.wr W15 (Or.inl (List.mem_of_getElem? (i := 0) rfl))
  have f18 : Sta Z h15 "com/example/sevenfold/sevenfold/Natural" "FIRST_OF_LENGTH" "[J" (.ref wF) := f11.wr W15
  have f19 : Arv Z h15 wF kf .long (10 : Int32) [(.long (0 : Int64)), (.long (0 : Int64)), (.long (128 : Int64)), (.long (16512 : Int64)), (.long (2113664 : Int64)), (.long (270549120 : Int64)), (.long (34630287488 : Int64)), (.long (4432676798592 : Int64)), (.long (567382630219904 : Int64)), (.long (72624976668147840 : Int64))] (.long (0 : Int64)) := f12.other W15 hne
  have f20 : Arv Z h15 a1 ka .byte (8 : Int32) [(.int el0), (.int ((((128 : Int32) ||| (((p0 - ((16512 : Int64).toInt32)).toUInt32 >>> ((14 : Int32) &&& 31).toUInt32).toInt32)).toInt8.toInt32)).toInt8.toInt32), (.int ((((128 : Int32) ||| ((((p0 - ((16512 : Int64).toInt32)).toUInt32 >>> ((7 : Int32) &&& 31).toUInt32).toInt32) &&& (127 : Int32))).toInt8.toInt32)).toInt8.toInt32), (.int el3), (.int el4), (.int el5), (.int el6), (.int el7)] (.int (0 : Int32)) := Arv.set Arq14 qq14 Sq14 Nq14 Hq14 Gq14 (fits_nar_byte _) W15 2 rfl (Nat.le_of_ble_eq_true rfl)
  show OwnGo p.tables e below _ (T15.setTop (mkF m 99 #[.val (.int p0), .val (.ref a1), .val (.int (1 : Int32)), .val (.int (p0 - ((16512 : Int64).toInt32)))] []))
  refine OwnGo.of (A := T15.setTop (mkF m 99 #[.val (.int p0), .val (.ref a1), .val (.int (1 : Int32)), .val (.int (p0 - ((16512 : Int64).toInt32)))] [])) (B := T15.setTop (mkF m 108 #[.val (.int p0), .val (.ref a1), .val (.int (1 : Int32)), .val (.int (p0 - ((16512 : Int64).toInt32)))] [(.int (((p0 - ((16512 : Int64).toInt32)) &&& (127 : Int32)).toInt8.toInt32)), (.int ((1 : Int32) + (2 : Int32))), (.ref a1)])) (fun t k => ?_) ?_
  · show Steps p.tables e below (T15.setTop (mkF m 99 #[.val (.int p0), .val (.ref a1), .val (.int (1 : Int32)), .val (.int (p0 - ((16512 : Int64).toInt32)))] [])) t
    refine XS.aloadN X15.here hx rfl (hb hby d1_99) rfl rfl ?_
    show Steps p.tables e below (T15.setTop (mkF m 100 #[.val (.int p0), .val (.ref a1), .val (.int (1 : Int32)), .val (.int (p0 - ((16512 : Int64).toInt32)))] [(.ref a1)])) t
    refine XS.iloadN X15.here hx rfl (hb hby d1_100) rfl ?_
    show Steps p.tables e below (T15.setTop (mkF m 101 #[.val (.int p0), .val (.ref a1), .val (.int (1 : Int32)), .val (.int (p0 - ((16512 : Int64).toInt32)))] [(.int (1 : Int32)), (.ref a1)])) t
    refine XS.iconst X15.here hx rfl (hb hby d1_101) ?_
    show Steps p.tables e below (T15.setTop (mkF m 102 #[.val (.int p0), .val (.ref a1), .val (.int (1 : Int32)), .val (.int (p0 - ((16512 : Int64).toInt32)))] [(.int (2 : Int32)), (.int (1 : Int32)), (.ref a1)])) t
    refine XS.iadd X15.here hx rfl (hb hby d1_102) rfl ?_
    show Steps p.tables e below (T15.setTop (mkF m 103 #[.val (.int p0), .val (.ref a1), .val (.int (1 : Int32)), .val (.int (p0 - ((16512 : Int64).toInt32)))] [(.int ((1 : Int32) + (2 : Int32))), (.ref a1)])) t
    refine XS.iloadN X15.here hx rfl (hb hby d1_103) rfl ?_
    show Steps p.tables e below (T15.setTop (mkF m 104 #[.val (.int p0), .val (.ref a1), .val (.int (1 : Int32)), .val (.int (p0 - ((16512 : Int64).toInt32)))] [(.int (p0 - ((16512 : Int64).toInt32))), (.int ((1 : Int32) + (2 : Int32))), (.ref a1)])) t
    refine XS.bipush X15.here hx rfl (hb hby d1_104) ?_
    show Steps p.tables e below (T15.setTop (mkF m 106 #[.val (.int p0), .val (.ref a1), .val (.int (1 : Int32)), .val (.int (p0 - ((16512 : Int64).toInt32)))] [(.int (127 : Int32)), (.int (p0 - ((16512 : Int64).toInt32))), (.int ((1 : Int32) + (2 : Int32))), (.ref a1)])) t
    refine XS.iand X15.here hx rfl (hb hby d1_106) rfl ?_
    show Steps p.tables e below (T15.setTop (mkF m 107 #[.val (.int p0), .val (.ref a1), .val (.int (1 : Int32)), .val (.int (p0 - ((16512 : Int64).toInt32)))] [(.int ((p0 - ((16512 : Int64).toInt32)) &&& (127 : Int32))), (.int ((1 : Int32) + (2 : Int32))), (.ref a1)])) t
    refine XS.i2b X15.here hx rfl (hb hby d1_107) rfl ?_
    exact k
  rw [show ((1 : Int32) + (2 : Int32)) = (3 : Int32) from by decide]
  show OwnGo p.tables e below _ (T15.setTop (mkF m 108 #[.val (.int p0), .val (.ref a1), .val (.int (1 : Int32)), .val (.int (p0 - ((16512 : Int64).toInt32)))] [(.int (((p0 - ((16512 : Int64).toInt32)) &&& (127 : Int32)).toInt8.toInt32)), (.int (3 : Int32)), (.ref a1)]))
  have cq21 := f20
  obtain ⟨clq21, Arq21, qq21, Sq21, Nq21, Hq21, Gq21⟩ := cq21
  obtain ⟨T22, h22, X22, e22, W22, st22⟩ := stB X15 hx hZ e15 Arq21 (j := (3 : Int32)) (inb_of Sq21 ⟨by decide, by decide⟩) (g := (mkF m 108 #[.val (.int p0), .val (.ref a1), .val (.int (1 : Int32)), .val (.int (p0 - ((16512 : Int64).toInt32)))] [(.int (((p0 - ((16512 : Int64).toInt32)) &&& (127 : Int32)).toInt8.toInt32)), (.int (3 : Int32)), (.ref a1)])) rfl rfl (hb hby d1_108)
  refine OwnGo.of st22 ?_
  have N22 := Fr.snoc X22 N15 g_a1
  have f23 : n0 ≤ h22.size := Nat.le_trans f16 (Keep.of_wr W22).1
  have f24 : Keep h0 h22 [a1] := f17.wr W22 (Or.inl (List.mem_of_getElem? (i := 0) rfl))
  have f25 : Sta Z h22 "com/example/sevenfold/sevenfold/Natural" "FIRST_OF_LENGTH" "[J" (.ref wF) := f18.wr W22
  have f26 : Arv Z h22 wF kf .long (10 : Int32) [(.long (0 : Int64)), (.long (0 : Int64)), (.long (128 : Int64)), (.long (16512 : Int64)), (.long (2113664 : Int64)), (.long (270549120 : Int64)), (.long (34630287488 : Int64)), (.long (4432676798592 : Int64)), (.long (567382630219904 : Int64)), (.long (72624976668147840 : Int64))] (.long (0 : Int64)) := f19.other W22 hne
  have f27 : Arv Z h22 a1 ka .byte (8 : Int32) [(.int el0), (.int ((((128 : Int32) ||| (((p0 - ((16512 : Int64).toInt32)).toUInt32 >>> ((14 : Int32) &&& 31).toUInt32).toInt32)).toInt8.toInt32)).toInt8.toInt32), (.int ((((128 : Int32) ||| ((((p0 - ((16512 : Int64).toInt32)).toUInt32 >>> ((7 : Int32) &&& 31).toUInt32).toInt32) &&& (127 : Int32))).toInt8.toInt32)).toInt8.toInt32), (.int ((((p0 - ((16512 : Int64).toInt32)) &&& (127 : Int32)).toInt8.toInt32)).toInt8.toInt32), (.int el4), (.int el5), (.int el6), (.int el7)] (.int (0 : Int32)) := Arv.set Arq21 qq21 Sq21 Nq21 Hq21 Gq21 (fits_nar_byte _) W22 3 rfl (Nat.le_of_ble_eq_true rfl)
  show OwnGo p.tables e below _ (T22.setTop (mkF m 109 #[.val (.int p0), .val (.ref a1), .val (.int (1 : Int32)), .val (.int (p0 - ((16512 : Int64).toInt32)))] []))
  refine OwnGo.of (A := T22.setTop (mkF m 109 #[.val (.int p0), .val (.ref a1), .val (.int (1 : Int32)), .val (.int (p0 - ((16512 : Int64).toInt32)))] [])) (B := T22.setTop (mkF m 112 #[.val (.int p0), .val (.ref a1), .val (.int (1 : Int32)), .val (.int (p0 - ((16512 : Int64).toInt32)))] [(.int ((1 : Int32) + (3 : Int32)))])) (fun t k => ?_) ?_
  · show Steps p.tables e below (T22.setTop (mkF m 109 #[.val (.int p0), .val (.ref a1), .val (.int (1 : Int32)), .val (.int (p0 - ((16512 : Int64).toInt32)))] [])) t
    refine XS.iloadN X22.here hx rfl (hb hby d1_109) rfl ?_
    show Steps p.tables e below (T22.setTop (mkF m 110 #[.val (.int p0), .val (.ref a1), .val (.int (1 : Int32)), .val (.int (p0 - ((16512 : Int64).toInt32)))] [(.int (1 : Int32))])) t
    refine XS.iconst X22.here hx rfl (hb hby d1_110) ?_
    show Steps p.tables e below (T22.setTop (mkF m 111 #[.val (.int p0), .val (.ref a1), .val (.int (1 : Int32)), .val (.int (p0 - ((16512 : Int64).toInt32)))] [(.int (3 : Int32)), (.int (1 : Int32))])) t
    refine XS.iadd X22.here hx rfl (hb hby d1_111) rfl ?_
    exact k
  obtain ⟨fs, hr, hrun, hended, hW, hsame⟩ := X22.leave (v := some (.int ((1 : Int32) + (3 : Int32)))) (fun h => by rw [Bd.returns] at h; cases h) hlk
  refine ⟨_, _, ?_, hrun, hended, _, _, rfl, ?_, ⟨_, rfl⟩, hW, hsame.mono (by decide) (by decide)⟩
  · show Steps p.tables e below (T22.setTop (mkF m 112 #[.val (.int p0), .val (.ref a1), .val (.int (1 : Int32)), .val (.int (p0 - ((16512 : Int64).toInt32)))] [(.int ((1 : Int32) + (3 : Int32)))])) _
    exact own_retI X22 hx Bd.returns (hb hby d1_112) hr
  · show Qrm1_1C Z p0 a1 el0 el1 el2 el3 el4 el5 el6 el7 ka wF kf h0 n0 _ (T22.setFrames fs).heap _
    rw [show (T22.setFrames fs).heap = h22 from e22]
    exact ⟨congrArg (fun z => some (Value.int z)) (by decide), N22, f24, f27⟩
theorem ef_rm1_2A (m : MethodId) (p0 : Int32) (a1 : Addr) : entryFrame m #[(.int p0), (.ref a1), (.int (2 : Int32))] 4 = mkF m 0 #[.val (.int p0), .val (.ref a1), .val (.int (2 : Int32)), .unset] [] := by first | (simp [entryFrame, mkF, argsToLocals, Value.category]; done) | rfl
def Qrm1_2A (Z : State) (p0 : Int32) (a1 : Addr) (el0 : Int32) (el1 : Int32) (el2 : Int32) (el3 : Int32) (el4 : Int32) (el5 : Int32) (el6 : Int32) (el7 : Int32) (ka : ClassId) (wF : Addr) (kf : ClassId) (h0 : Heap) (n0 : Nat) (v : Option Value) (h : Heap) (L : List Loc) : Prop := v = some (.int (3 : Int32)) ∧ Fr n0 L ∧ Keep h0 h [a1] ∧ Arv Z h a1 ka .byte (8 : Int32) [(.int el0), (.int el1), (.int ((p0.toInt8.toInt32)).toInt8.toInt32), (.int el3), (.int el4), (.int el5), (.int el6), (.int el7)] (.int (0 : Int32))
set_option maxRecDepth 65536 in
set_option maxHeartbeats 40000000 in
theorem rm1_2A (l : Launch) (Z : State) (aw : Array Value) (hw : ∀ d ∈ tables_1, d.before aw Z = true) (ws : List Jvm.Cond) (p0 : Int32) (a1 : Addr) (el0 : Int32) (el1 : Int32) (el2 : Int32) (el3 : Int32) (el4 : Int32) (el5 : Int32) (el6 : Int32) (el7 : Int32) (ka : ClassId) (wF : Addr) (kf : ClassId) (h0 : Heap) (n0 : Nat) (Z0 : n0 ≤ h0.size) (S_FIRST_OF_LENGTH : Sta Z h0 "com/example/sevenfold/sevenfold/Natural" "FIRST_OF_LENGTH" "[J" (.ref wF)) (V_F : Arv Z h0 wF kf .long (10 : Int32) [(.long (0 : Int64)), (.long (0 : Int64)), (.long (128 : Int64)), (.long (16512 : Int64)), (.long (2113664 : Int64)), (.long (270549120 : Int64)), (.long (34630287488 : Int64)), (.long (4432676798592 : Int64)), (.long (567382630219904 : Int64)), (.long (72624976668147840 : Int64))] (.long (0 : Int64))) (V_a : Arv Z h0 a1 ka .byte (8 : Int32) [(.int el0), (.int el1), (.int el2), (.int el3), (.int el4), (.int el5), (.int el6), (.int el7)] (.int (0 : Int32))) (g_a1 : n0 ≤ a1) (hne : wF ≠ a1) (hA : ¬ ((127 : Int32) < p0)) :
    MetFree l (⟨"com/example/sevenfold/sevenfold/Natural", "writeCodePoint", "(I[BI)I"⟩ : MethodName) (head1 (Jvm.Cond.code (⟨"com/example/sevenfold/sevenfold/Natural", "writeCodePoint", "(I[BI)I"⟩ : MethodName) prog_5_method_8_code 4 (some .int) :: ws) ({ frames := 0, cells := 0, slots := 0, locals := 0 } : Room)) (fun a U => a = #[(.int p0), (.ref a1), (.int (2 : Int32))] ∧ Z.Warmed39 U.vm ∧ U.heap = h0) (fun _ _ _ _ _ => True) (fun _ U o U' => ∃ v L, o = .returned v ∧ Qrm1_2A Z p0 a1 el0 el1 el2 el3 el4 el5 el6 el7 ka wF kf h0 n0 v U'.heap L ∧ FrameEnd U o U' L ({ frames := 0, cells := 0, slots := 0, locals := 0 } : Room).cells ({ frames := 0, cells := 0, slots := 0, locals := 0 } : Room).slots) := by
  refine MetFree.of_bodySF (plainFor_of_name pn_0) hisR ?_
  intro p e s m args below meth c s₁ Bd hml0 hP hK
  obtain ⟨rfl, hZ, hh⟩ := hP
  have hx := Bd.exec
  have hby := Bd.bytes
  have hml : c.maxLocals = 4 := hml0
  have hown : s.vm.findClass "com/example/sevenfold/sevenfold/Natural" = some m.cls := findClass_of_methodNamed Bd.named
  have hnm := (name_of_methodNamed Bd.named Bd.method).1
  have X0 : Stand p l e ({ frames := 0, cells := 0, slots := 0, locals := 0 } : Room) s m #[(.int p0), (.ref a1), (.int (2 : Int32))] below meth c s₁ [] 0 0 := Stand.of_body Bd
  have e0 : s₁.heap = h0 := by rw [← hh, Bd.state]; rfl
  have N0 := Fr.nil n0
  have hlk := Bd.notSynchronized
  show OwnGo p.tables e below _ (s₁.setTop (entryFrame m #[(.int p0), (.ref a1), (.int (2 : Int32))] 4))
  rw [ef_rm1_2A m p0 a1]
  have K0 : Keep h0 h0 [a1] := Keep.refl _ _
  show OwnGo p.tables e below _ (s₁.setTop (mkF m 0 #[.val (.int p0), .val (.ref a1), .val (.int (2 : Int32)), .unset] []))
  refine OwnGo.of (A := s₁.setTop (mkF m 0 #[.val (.int p0), .val (.ref a1), .val (.int (2 : Int32)), .unset] [])) (B := s₁.setTop (mkF m 3 #[.val (.int p0), .val (.ref a1), .val (.int (2 : Int32)), .unset] [(.int (127 : Int32)), (.int p0)])) (fun t k => ?_) ?_
  · show Steps p.tables e below (s₁.setTop (mkF m 0 #[.val (.int p0), .val (.ref a1), .val (.int (2 : Int32)), .unset] [])) t
    refine XS.iloadN X0.here hx rfl (hb hby d1_0) rfl ?_
    show Steps p.tables e below (s₁.setTop (mkF m 1 #[.val (.int p0), .val (.ref a1), .val (.int (2 : Int32)), .unset] [(.int p0)])) t
    refine XS.bipush X0.here hx rfl (hb hby d1_1) ?_
    exact k
  have hc1 : ¬ ((127 : Int32) < p0) := hA
  refine OwnGo.of (A := s₁.setTop (mkF m 3 #[.val (.int p0), .val (.ref a1), .val (.int (2 : Int32)), .unset] [(.int (127 : Int32)), (.int p0)])) (B := s₁.setTop (mkF m 10 #[.val (.int p0), .val (.ref a1), .val (.int (2 : Int32)), .unset] [(.int (p0.toInt8.toInt32)), (.int (2 : Int32)), (.ref a1)])) (fun t k => ?_) ?_
  · show Steps p.tables e below (s₁.setTop (mkF m 3 #[.val (.int p0), .val (.ref a1), .val (.int (2 : Int32)), .unset] [(.int (127 : Int32)), (.int p0)])) t
    refine XS.icmpNo X0.here hx rfl (hb hby d1_3) rfl (flt hc1).2.2.1 ?_
    show Steps p.tables e below (s₁.setTop (mkF m 6 #[.val (.int p0), .val (.ref a1), .val (.int (2 : Int32)), .unset] [])) t
    refine XS.aloadN X0.here hx rfl (hb hby d1_6) rfl rfl ?_
    show Steps p.tables e below (s₁.setTop (mkF m 7 #[.val (.int p0), .val (.ref a1), .val (.int (2 : Int32)), .unset] [(.ref a1)])) t
    refine XS.iloadN X0.here hx rfl (hb hby d1_7) rfl ?_
    show Steps p.tables e below (s₁.setTop (mkF m 8 #[.val (.int p0), .val (.ref a1), .val (.int (2 : Int32)), .unset] [(.int (2 : Int32)), (.ref a1)])) t
    refine XS.iloadN X0.here hx rfl (hb hby d1_8) rfl ?_
    show Steps p.tables e below (s₁.setTop (mkF m 9 #[.val (.int p0), .val (.ref a1), .val (.int (2 : Int32)), .unset] [(.int p0), (.int (2 : Int32)), (.ref a1)])) t
    refine XS.i2b X0.here hx rfl (hb hby d1_9) rfl ?_
    exact k
  have cq2 := V_a
  obtain ⟨clq2, Arq2, qq2, Sq2, Nq2, Hq2, Gq2⟩ := cq2
  obtain ⟨T3, h3, X3, e3, W3, st3⟩ := stB X0 hx hZ e0 Arq2 (j := (2 : Int32)) (inb_of Sq2 ⟨by decide, by decide⟩) (g := (mkF m 10 #[.val (.int p0), .val (.ref a1), .val (.int (2 : Int32)), .unset] [(.int (p0.toInt8.toInt32)), (.int (2 : Int32)), (.ref a1)])) rfl rfl (hb hby d1_10)
  refine OwnGo.of st3 ?_
  have N3 := Fr.snoc X3 N0 g_a1
  have f4 : n0 ≤ h3.size := Nat.le_trans Z0 (Keep.of_wr W3).1
  have f5 : Keep h0 h3 [a1] := K0.wr W3 (Or.inl (List.mem_of_getElem? (i := 0) rfl))
  have f6 : Sta Z h3 "com/example/sevenfold/sevenfold/Natural" "FIRST_OF_LENGTH" "[J" (.ref wF) := S_FIRST_OF_LENGTH.wr W3
  have f7 : Arv Z h3 wF kf .long (10 : Int32) [(.long (0 : Int64)), (.long (0 : Int64)), (.long (128 : Int64)), (.long (16512 : Int64)), (.long (2113664 : Int64)), (.long (270549120 : Int64)), (.long (34630287488 : Int64)), (.long (4432676798592 : Int64)), (.long (567382630219904 : Int64)), (.long (72624976668147840 : Int64))] (.long (0 : Int64)) := V_F.other W3 hne
  have f8 : Arv Z h3 a1 ka .byte (8 : Int32) [(.int el0), (.int el1), (.int ((p0.toInt8.toInt32)).toInt8.toInt32), (.int el3), (.int el4), (.int el5), (.int el6), (.int el7)] (.int (0 : Int32)) := Arv.set Arq2 qq2 Sq2 Nq2 Hq2 Gq2 (fits_nar_byte _) W3 2 rfl (Nat.le_of_ble_eq_true rfl)
  show OwnGo p.tables e below _ (T3.setTop (mkF m 11 #[.val (.int p0), .val (.ref a1), .val (.int (2 : Int32)), .unset] []))
  refine OwnGo.of (A := T3.setTop (mkF m 11 #[.val (.int p0), .val (.ref a1), .val (.int (2 : Int32)), .unset] [])) (B := T3.setTop (mkF m 14 #[.val (.int p0), .val (.ref a1), .val (.int (2 : Int32)), .unset] [(.int ((2 : Int32) + (1 : Int32)))])) (fun t k => ?_) ?_
  · show Steps p.tables e below (T3.setTop (mkF m 11 #[.val (.int p0), .val (.ref a1), .val (.int (2 : Int32)), .unset] [])) t
    refine XS.iloadN X3.here hx rfl (hb hby d1_11) rfl ?_
    show Steps p.tables e below (T3.setTop (mkF m 12 #[.val (.int p0), .val (.ref a1), .val (.int (2 : Int32)), .unset] [(.int (2 : Int32))])) t
    refine XS.iconst X3.here hx rfl (hb hby d1_12) ?_
    show Steps p.tables e below (T3.setTop (mkF m 13 #[.val (.int p0), .val (.ref a1), .val (.int (2 : Int32)), .unset] [(.int (1 : Int32)), (.int (2 : Int32))])) t
    refine XS.iadd X3.here hx rfl (hb hby d1_13) rfl ?_
    exact k
  obtain ⟨fs, hr, hrun, hended, hW, hsame⟩ := X3.leave (v := some (.int ((2 : Int32) + (1 : Int32)))) (fun h => by rw [Bd.returns] at h; cases h) hlk
  refine ⟨_, _, ?_, hrun, hended, _, _, rfl, ?_, ⟨_, rfl⟩, hW, hsame.mono (by decide) (by decide)⟩
  · show Steps p.tables e below (T3.setTop (mkF m 14 #[.val (.int p0), .val (.ref a1), .val (.int (2 : Int32)), .unset] [(.int ((2 : Int32) + (1 : Int32)))])) _
    exact own_retI X3 hx Bd.returns (hb hby d1_14) hr
  · show Qrm1_2A Z p0 a1 el0 el1 el2 el3 el4 el5 el6 el7 ka wF kf h0 n0 _ (T3.setFrames fs).heap _
    rw [show (T3.setFrames fs).heap = h3 from e3]
    exact ⟨congrArg (fun z => some (Value.int z)) (by decide), N3, f5, f8⟩
theorem ef_rm1_2B (m : MethodId) (p0 : Int32) (a1 : Addr) : entryFrame m #[(.int p0), (.ref a1), (.int (2 : Int32))] 4 = mkF m 0 #[.val (.int p0), .val (.ref a1), .val (.int (2 : Int32)), .unset] [] := by first | (simp [entryFrame, mkF, argsToLocals, Value.category]; done) | rfl
def Qrm1_2B (Z : State) (p0 : Int32) (a1 : Addr) (el0 : Int32) (el1 : Int32) (el2 : Int32) (el3 : Int32) (el4 : Int32) (el5 : Int32) (el6 : Int32) (el7 : Int32) (ka : ClassId) (wF : Addr) (kf : ClassId) (h0 : Heap) (n0 : Nat) (v : Option Value) (h : Heap) (L : List Loc) : Prop := v = some (.int (4 : Int32)) ∧ Fr n0 L ∧ Keep h0 h [a1] ∧ Arv Z h a1 ka .byte (8 : Int32) [(.int el0), (.int el1), (.int ((((128 : Int32) ||| (((p0 - ((128 : Int64).toInt32)).toUInt32 >>> ((7 : Int32) &&& 31).toUInt32).toInt32)).toInt8.toInt32)).toInt8.toInt32), (.int ((((p0 - ((128 : Int64).toInt32)) &&& (127 : Int32)).toInt8.toInt32)).toInt8.toInt32), (.int el4), (.int el5), (.int el6), (.int el7)] (.int (0 : Int32))
set_option maxRecDepth 65536 in
set_option maxHeartbeats 40000000 in
theorem rm1_2B (l : Launch) (Z : State) (aw : Array Value) (hw : ∀ d ∈ tables_1, d.before aw Z = true) (ws : List Jvm.Cond) (p0 : Int32) (a1 : Addr) (el0 : Int32) (el1 : Int32) (el2 : Int32) (el3 : Int32) (el4 : Int32) (el5 : Int32) (el6 : Int32) (el7 : Int32) (ka : ClassId) (wF : Addr) (kf : ClassId) (h0 : Heap) (n0 : Nat) (Z0 : n0 ≤ h0.size) (S_FIRST_OF_LENGTH : Sta Z h0 "com/example/sevenfold/sevenfold/Natural" "FIRST_OF_LENGTH" "[J" (.ref wF)) (V_F : Arv Z h0 wF kf .long (10 : Int32) [(.long (0 : Int64)), (.long (0 : Int64)), (.long (128 : Int64)), (.long (16512 : Int64)), (.long (2113664 : Int64)), (.long (270549120 : Int64)), (.long (34630287488 : Int64)), (.long (4432676798592 : Int64)), (.long (567382630219904 : Int64)), (.long (72624976668147840 : Int64))] (.long (0 : Int64))) (V_a : Arv Z h0 a1 ka .byte (8 : Int32) [(.int el0), (.int el1), (.int el2), (.int el3), (.int el4), (.int el5), (.int el6), (.int el7)] (.int (0 : Int32))) (g_a1 : n0 ≤ a1) (hne : wF ≠ a1) (hA : (127 : Int32) < p0) (hB : lcmpW (p0.toInt64) (16512 : Int64) < (0 : Int32)) :
    MetFree l (⟨"com/example/sevenfold/sevenfold/Natural", "writeCodePoint", "(I[BI)I"⟩ : MethodName) (head1 (Jvm.Cond.code (⟨"com/example/sevenfold/sevenfold/Natural", "writeCodePoint", "(I[BI)I"⟩ : MethodName) prog_5_method_8_code 4 (some .int) :: ws) ({ frames := 0, cells := 0, slots := 0, locals := 0 } : Room)) (fun a U => a = #[(.int p0), (.ref a1), (.int (2 : Int32))] ∧ Z.Warmed39 U.vm ∧ U.heap = h0) (fun _ _ _ _ _ => True) (fun _ U o U' => ∃ v L, o = .returned v ∧ Qrm1_2B Z p0 a1 el0 el1 el2 el3 el4 el5 el6 el7 ka wF kf h0 n0 v U'.heap L ∧ FrameEnd U o U' L ({ frames := 0, cells := 0, slots := 0, locals := 0 } : Room).cells ({ frames := 0, cells := 0, slots := 0, locals := 0 } : Room).slots) := by
  refine MetFree.of_bodySF (plainFor_of_name pn_0) hisR ?_
  intro p e s m args below meth c s₁ Bd hml0 hP hK
  obtain ⟨rfl, hZ, hh⟩ := hP
  have hx := Bd.exec
  have hby := Bd.bytes
  have hml : c.maxLocals = 4 := hml0
  have hown : s.vm.findClass "com/example/sevenfold/sevenfold/Natural" = some m.cls := findClass_of_methodNamed Bd.named
  have hnm := (name_of_methodNamed Bd.named Bd.method).1
  have X0 : Stand p l e ({ frames := 0, cells := 0, slots := 0, locals := 0 } : Room) s m #[(.int p0), (.ref a1), (.int (2 : Int32))] below meth c s₁ [] 0 0 := Stand.of_body Bd
  have e0 : s₁.heap = h0 := by rw [← hh, Bd.state]; rfl
  have N0 := Fr.nil n0
  have hlk := Bd.notSynchronized
  show OwnGo p.tables e below _ (s₁.setTop (entryFrame m #[(.int p0), (.ref a1), (.int (2 : Int32))] 4))
  rw [ef_rm1_2B m p0 a1]
  have K0 : Keep h0 h0 [a1] := Keep.refl _ _
  show OwnGo p.tables e below _ (s₁.setTop (mkF m 0 #[.val (.int p0), .val (.ref a1), .val (.int (2 : Int32)), .unset] []))
  refine OwnGo.of (A := s₁.setTop (mkF m 0 #[.val (.int p0), .val (.ref a1), .val (.int (2 : Int32)), .unset] [])) (B := s₁.setTop (mkF m 3 #[.val (.int p0), .val (.ref a1), .val (.int (2 : Int32)), .unset] [(.int (127 : Int32)), (.int p0)])) (fun t k => ?_) ?_
  · show Steps p.tables e below (s₁.setTop (mkF m 0 #[.val (.int p0), .val (.ref a1), .val (.int (2 : Int32)), .unset] [])) t
    refine XS.iloadN X0.here hx rfl (hb hby d1_0) rfl ?_
    show Steps p.tables e below (s₁.setTop (mkF m 1 #[.val (.int p0), .val (.ref a1), .val (.int (2 : Int32)), .unset] [(.int p0)])) t
    refine XS.bipush X0.here hx rfl (hb hby d1_1) ?_
    exact k
  have hc1 : (127 : Int32) < p0 := hA
  refine OwnGo.of (A := s₁.setTop (mkF m 3 #[.val (.int p0), .val (.ref a1), .val (.int (2 : Int32)), .unset] [(.int (127 : Int32)), (.int p0)])) (B := s₁.setTop (mkF m 17 #[.val (.int p0), .val (.ref a1), .val (.int (2 : Int32)), .unset] [(.long (p0.toInt64))])) (fun t k => ?_) ?_
  · show Steps p.tables e below (s₁.setTop (mkF m 3 #[.val (.int p0), .val (.ref a1), .val (.int (2 : Int32)), .unset] [(.int (127 : Int32)), (.int p0)])) t
    refine XS.icmpYes X0.here hx rfl (pc0 := 3) (pc' := 15) rfl (hb hby d1_3) rfl (tlt hc1).2.2.1 (by decide) (by decide) ?_
    show Steps p.tables e below (s₁.setTop (mkF m 15 #[.val (.int p0), .val (.ref a1), .val (.int (2 : Int32)), .unset] [])) t
    refine XS.iloadN X0.here hx rfl (hb hby d1_15) rfl ?_
    show Steps p.tables e below (s₁.setTop (mkF m 16 #[.val (.int p0), .val (.ref a1), .val (.int (2 : Int32)), .unset] [(.int p0)])) t
    refine XS.i2l X0.here hx rfl (hb hby d1_16) rfl ?_
    exact k
  obtain ⟨T2, X2, e2, st2⟩ := getS2 X0 hx hZ hown (host := "") (Or.inl (hw _ (List.mem_of_getElem? (i := 11) rfl))) Via.refl e0 S_FIRST_OF_LENGTH (g := (mkF m 17 #[.val (.int p0), .val (.ref a1), .val (.int (2 : Int32)), .unset] [(.long (p0.toInt64))])) rfl (hb hby d1_17)
  refine OwnGo.of st2 ?_
  show OwnGo p.tables e below _ (T2.setTop (mkF m 20 #[.val (.int p0), .val (.ref a1), .val (.int (2 : Int32)), .unset] [(.ref wF), (.long (p0.toInt64))]))
  refine OwnGo.of (A := T2.setTop (mkF m 20 #[.val (.int p0), .val (.ref a1), .val (.int (2 : Int32)), .unset] [(.ref wF), (.long (p0.toInt64))])) (B := T2.setTop (mkF m 21 #[.val (.int p0), .val (.ref a1), .val (.int (2 : Int32)), .unset] [(.int (3 : Int32)), (.ref wF), (.long (p0.toInt64))])) (fun t k => ?_) ?_
  · show Steps p.tables e below (T2.setTop (mkF m 20 #[.val (.int p0), .val (.ref a1), .val (.int (2 : Int32)), .unset] [(.ref wF), (.long (p0.toInt64))])) t
    refine XS.iconst X2.here hx rfl (hb hby d1_20) ?_
    exact k
  have cq3 := V_F
  obtain ⟨clq3, Arq3, qq3, Sq3, Nq3, Hq3, Gq3⟩ := cq3
  have hinq3 := inb_of (j := (3 : Int32)) Sq3 ⟨by decide, by decide⟩
  refine OwnGo.of (X2.laload hx (j := (3 : Int32)) (v := (.long (16512 : Int64))) (by rw [e2]; exact Arq3.1) (State.isArrayOf_alike hZ.alike Arq3.2.1) Arq3.2.2 hinq3 (Hq3.at hinq3 rfl) (g := (mkF m 21 #[.val (.int p0), .val (.ref a1), .val (.int (2 : Int32)), .unset] [(.int (3 : Int32)), (.ref wF), (.long (p0.toInt64))])) rfl rfl (hb hby d1_21)) ?_
  show OwnGo p.tables e below _ (T2.setTop (mkF m 22 #[.val (.int p0), .val (.ref a1), .val (.int (2 : Int32)), .unset] [(.long (16512 : Int64)), (.long (p0.toInt64))]))
  refine OwnGo.of (A := T2.setTop (mkF m 22 #[.val (.int p0), .val (.ref a1), .val (.int (2 : Int32)), .unset] [(.long (16512 : Int64)), (.long (p0.toInt64))])) (B := T2.setTop (mkF m 23 #[.val (.int p0), .val (.ref a1), .val (.int (2 : Int32)), .unset] [(.int (lcmpW (p0.toInt64) (16512 : Int64)))])) (fun t k => ?_) ?_
  · show Steps p.tables e below (T2.setTop (mkF m 22 #[.val (.int p0), .val (.ref a1), .val (.int (2 : Int32)), .unset] [(.long (16512 : Int64)), (.long (p0.toInt64))])) t
    refine XS.lcmp X2.here hx rfl (hb hby d1_22) rfl ?_
    exact k
  have hc4 : (lcmpW (p0.toInt64) (16512 : Int64)) < (0 : Int32) := hB
  refine OwnGo.of (A := T2.setTop (mkF m 23 #[.val (.int p0), .val (.ref a1), .val (.int (2 : Int32)), .unset] [(.int (lcmpW (p0.toInt64) (16512 : Int64)))])) (B := T2.setTop (mkF m 27 #[.val (.int p0), .val (.ref a1), .val (.int (2 : Int32)), .unset] [(.int p0)])) (fun t k => ?_) ?_
  · show Steps p.tables e below (T2.setTop (mkF m 23 #[.val (.int p0), .val (.ref a1), .val (.int (2 : Int32)), .unset] [(.int (lcmpW (p0.toInt64) (16512 : Int64)))])) t
    refine XS.ifNo X2.here hx rfl (hb hby d1_23) rfl ((if0 _ _).trans (tlt hc4).2.1) ?_
    show Steps p.tables e below (T2.setTop (mkF m 26 #[.val (.int p0), .val (.ref a1), .val (.int (2 : Int32)), .unset] [])) t
    refine XS.iloadN X2.here hx rfl (hb hby d1_26) rfl ?_
    exact k
  obtain ⟨T5, X5, e5, st5⟩ := getS2 X2 hx hZ hown (host := "") (Or.inl (hw _ (List.mem_of_getElem? (i := 11) rfl))) Via.refl e2 S_FIRST_OF_LENGTH (g := (mkF m 27 #[.val (.int p0), .val (.ref a1), .val (.int (2 : Int32)), .unset] [(.int p0)])) rfl (hb hby d1_27)
  refine OwnGo.of st5 ?_
  show OwnGo p.tables e below _ (T5.setTop (mkF m 30 #[.val (.int p0), .val (.ref a1), .val (.int (2 : Int32)), .unset] [(.ref wF), (.int p0)]))
  refine OwnGo.of (A := T5.setTop (mkF m 30 #[.val (.int p0), .val (.ref a1), .val (.int (2 : Int32)), .unset] [(.ref wF), (.int p0)])) (B := T5.setTop (mkF m 31 #[.val (.int p0), .val (.ref a1), .val (.int (2 : Int32)), .unset] [(.int (2 : Int32)), (.ref wF), (.int p0)])) (fun t k => ?_) ?_
  · show Steps p.tables e below (T5.setTop (mkF m 30 #[.val (.int p0), .val (.ref a1), .val (.int (2 : Int32)), .unset] [(.ref wF), (.int p0)])) t
    refine XS.iconst X5.here hx rfl (hb hby d1_30) ?_
    exact k
  have cq6 := V_F
  obtain ⟨clq6, Arq6, qq6, Sq6, Nq6, Hq6, Gq6⟩ := cq6
  have hinq6 := inb_of (j := (2 : Int32)) Sq6 ⟨by decide, by decide⟩
  refine OwnGo.of (X5.laload hx (j := (2 : Int32)) (v := (.long (128 : Int64))) (by rw [e5]; exact Arq6.1) (State.isArrayOf_alike hZ.alike Arq6.2.1) Arq6.2.2 hinq6 (Hq6.at hinq6 rfl) (g := (mkF m 31 #[.val (.int p0), .val (.ref a1), .val (.int (2 : Int32)), .unset] [(.int (2 : Int32)), (.ref wF), (.int p0)])) rfl rfl (hb hby d1_31)) ?_
  show OwnGo p.tables e below _ (T5.setTop (mkF m 32 #[.val (.int p0), .val (.ref a1), .val (.int (2 : Int32)), .unset] [(.long (128 : Int64)), (.int p0)]))
  refine OwnGo.of (A := T5.setTop (mkF m 32 #[.val (.int p0), .val (.ref a1), .val (.int (2 : Int32)), .unset] [(.long (128 : Int64)), (.int p0)])) (B := T5.setTop (mkF m 46 #[.val (.int p0), .val (.ref a1), .val (.int (2 : Int32)), .val (.int (p0 - ((128 : Int64).toInt32)))] [(.int (((128 : Int32) ||| (((p0 - ((128 : Int64).toInt32)).toUInt32 >>> ((7 : Int32) &&& 31).toUInt32).toInt32)).toInt8.toInt32)), (.int (2 : Int32)), (.ref a1)])) (fun t k => ?_) ?_
  · show Steps p.tables e below (T5.setTop (mkF m 32 #[.val (.int p0), .val (.ref a1), .val (.int (2 : Int32)), .unset] [(.long (128 : Int64)), (.int p0)])) t
    refine XS.l2i X5.here hx rfl (hb hby d1_32) rfl ?_
    show Steps p.tables e below (T5.setTop (mkF m 33 #[.val (.int p0), .val (.ref a1), .val (.int (2 : Int32)), .unset] [(.int ((128 : Int64).toInt32)), (.int p0)])) t
    refine XS.isub X5.here hx rfl (hb hby d1_33) rfl ?_
    show Steps p.tables e below (T5.setTop (mkF m 34 #[.val (.int p0), .val (.ref a1), .val (.int (2 : Int32)), .unset] [(.int (p0 - ((128 : Int64).toInt32)))])) t
    refine XS.istoreN X5.here hx rfl (hb hby d1_34) rfl (l' := #[.val (.int p0), .val (.ref a1), .val (.int (2 : Int32)), .val (.int (p0 - ((128 : Int64).toInt32)))]) rfl ?_
    show Steps p.tables e below (T5.setTop (mkF m 35 #[.val (.int p0), .val (.ref a1), .val (.int (2 : Int32)), .val (.int (p0 - ((128 : Int64).toInt32)))] [])) t
    refine XS.aloadN X5.here hx rfl (hb hby d1_35) rfl rfl ?_
    show Steps p.tables e below (T5.setTop (mkF m 36 #[.val (.int p0), .val (.ref a1), .val (.int (2 : Int32)), .val (.int (p0 - ((128 : Int64).toInt32)))] [(.ref a1)])) t
    refine XS.iloadN X5.here hx rfl (hb hby d1_36) rfl ?_
    show Steps p.tables e below (T5.setTop (mkF m 37 #[.val (.int p0), .val (.ref a1), .val (.int (2 : Int32)), .val (.int (p0 - ((128 : Int64).toInt32)))] [(.int (2 : Int32)), (.ref a1)])) t
    refine XS.sipush X5.here hx rfl (hb hby d1_37) ?_
    show Steps p.tables e below (T5.setTop (mkF m 40 #[.val (.int p0), .val (.ref a1), .val (.int (2 : Int32)), .val (.int (p0 - ((128 : Int64).toInt32)))] [(.int (128 : Int32)), (.int (2 : Int32)), (.ref a1)])) t
    refine XS.iloadN X5.here hx rfl (hb hby d1_40) rfl ?_
    show Steps p.tables e below (T5.setTop (mkF m 41 #[.val (.int p0), .val (.ref a1), .val (.int (2 : Int32)), .val (.int (p0 - ((128 : Int64).toInt32)))] [(.int (p0 - ((128 : Int64).toInt32))), (.int (128 : Int32)), (.int (2 : Int32)), (.ref a1)])) t
    refine XS.bipush X5.here hx rfl (hb hby d1_41) ?_
    show Steps p.tables e below (T5.setTop (mkF m 43 #[.val (.int p0), .val (.ref a1), .val (.int (2 : Int32)), .val (.int (p0 - ((128 : Int64).toInt32)))] [(.int (7 : Int32)), (.int (p0 - ((128 : Int64).toInt32))), (.int (128 : Int32)), (.int (2 : Int32)), (.ref a1)])) t
    refine XS.iushr X5.here hx rfl (hb hby d1_43) rfl ?_
    show Steps p.tables e below (T5.setTop (mkF m 44 #[.val (.int p0), .val (.ref a1), .val (.int (2 : Int32)), .val (.int (p0 - ((128 : Int64).toInt32)))] [(.int (((p0 - ((128 : Int64).toInt32)).toUInt32 >>> ((7 : Int32) &&& 31).toUInt32).toInt32)), (.int (128 : Int32)), (.int (2 : Int32)), (.ref a1)])) t
    refine XS.ior X5.here hx rfl (hb hby d1_44) rfl ?_
    show Steps p.tables e below (T5.setTop (mkF m 45 #[.val (.int p0), .val (.ref a1), .val (.int (2 : Int32)), .val (.int (p0 - ((128 : Int64).toInt32)))] [(.int ((128 : Int32) ||| (((p0 - ((128 : Int64).toInt32)).toUInt32 >>> ((7 : Int32) &&& 31).toUInt32).toInt32))), (.int (2 : Int32)), (.ref a1)])) t
    refine XS.i2b X5.here hx rfl (hb hby d1_45) rfl ?_
    exact k
  have cq7 := V_a
  obtain ⟨clq7, Arq7, qq7, Sq7, Nq7, Hq7, Gq7⟩ := cq7
  obtain ⟨T8, h8, X8, e8, W8, st8⟩ := stB X5 hx hZ e5 Arq7 (j := (2 : Int32)) (inb_of Sq7 ⟨by decide, by decide⟩) (g := (mkF m 46 #[.val (.int p0), .val (.ref a1), .val (.int (2 : Int32)), .val (.int (p0 - ((128 : Int64).toInt32)))] [(.int (((128 : Int32) ||| (((p0 - ((128 : Int64).toInt32)).toUInt32 >>> ((7 : Int32) &&& 31).toUInt32).toInt32)).toInt8.toInt32)), (.int (2 : Int32)), (.ref a1)])) rfl rfl (hb hby d1_46)
  refine OwnGo.of st8 ?_
  have N8 := Fr.snoc X8 N0 g_a1
  have f9 : n0 ≤ h8.size := Nat.le_trans Z0 (Keep.of_wr W8).1
  have f10 : Keep h0 h8 [a1] := K0.wr W8 (Or.inl (List.mem_of_getElem? (i := 0) rfl))
  have f11 : Sta Z h8 "com/example/sevenfold/sevenfold/Natural" "FIRST_OF_LENGTH" "[J" (.ref wF) := S_FIRST_OF_LENGTH.wr W8
  have f12 : Arv Z h8 wF kf .long (10 : Int32) [(.long (0 : Int64)), (.long (0 : Int64)), (.long (128 : Int64)), (.long (16512 : Int64)), (.long (2113664 : Int64)), (.long (270549120 : Int64)), (.long (34630287488 : Int64)), (.long (4432676798592 : Int64)), (.long (567382630219904 : Int64)), (.long (72624976668147840 : Int64))] (.long (0 : Int64)) := V_F.other W8 hne
  have f13 : Arv Z h8 a1 ka .byte (8 : Int32) [(.int el0), (.int el1), (.int ((((128 : Int32) ||| (((p0 - ((128 : Int64).toInt32)).toUInt32 >>> ((7 : Int32) &&& 31).toUInt32).toInt32)).toInt8.toInt32)).toInt8.toInt32), (.int el3), (.int el4), (.int el5), (.int el6), (.int el7)] (.int (0 : Int32)) := Arv.set Arq7 qq7 Sq7 Nq7 Hq7 Gq7 (fits_nar_byte _) W8 2 rfl (Nat.le_of_ble_eq_true rfl)
  show OwnGo p.tables e below _ (T8.setTop (mkF m 47 #[.val (.int p0), .val (.ref a1), .val (.int (2 : Int32)), .val (.int (p0 - ((128 : Int64).toInt32)))] []))
  refine OwnGo.of (A := T8.setTop (mkF m 47 #[.val (.int p0), .val (.ref a1), .val (.int (2 : Int32)), .val (.int (p0 - ((128 : Int64).toInt32)))] [])) (B := T8.setTop (mkF m 56 #[.val (.int p0), .val (.ref a1), .val (.int (2 : Int32)), .val (.int (p0 - ((128 : Int64).toInt32)))] [(.int (((p0 - ((128 : Int64).toInt32)) &&& (127 : Int32)).toInt8.toInt32)), (.int ((2 : Int32) + (1 : Int32))), (.ref a1)])) (fun t k => ?_) ?_
  · show Steps p.tables e below (T8.setTop (mkF m 47 #[.val (.int p0), .val (.ref a1), .val (.int (2 : Int32)), .val (.int (p0 - ((128 : Int64).toInt32)))] [])) t
    refine XS.aloadN X8.here hx rfl (hb hby d1_47) rfl rfl ?_
    show Steps p.tables e below (T8.setTop (mkF m 48 #[.val (.int p0), .val (.ref a1), .val (.int (2 : Int32)), .val (.int (p0 - ((128 : Int64).toInt32)))] [(.ref a1)])) t
    refine XS.iloadN X8.here hx rfl (hb hby d1_48) rfl ?_
    show Steps p.tables e below (T8.setTop (mkF m 49 #[.val (.int p0), .val (.ref a1), .val (.int (2 : Int32)), .val (.int (p0 - ((128 : Int64).toInt32)))] [(.int (2 : Int32)), (.ref a1)])) t
    refine XS.iconst X8.here hx rfl (hb hby d1_49) ?_
    show Steps p.tables e below (T8.setTop (mkF m 50 #[.val (.int p0), .val (.ref a1), .val (.int (2 : Int32)), .val (.int (p0 - ((128 : Int64).toInt32)))] [(.int (1 : Int32)), (.int (2 : Int32)), (.ref a1)])) t
    refine XS.iadd X8.here hx rfl (hb hby d1_50) rfl ?_
    show Steps p.tables e below (T8.setTop (mkF m 51 #[.val (.int p0), .val (.ref a1), .val (.int (2 : Int32)), .val (.int (p0 - ((128 : Int64).toInt32)))] [(.int ((2 : Int32) + (1 : Int32))), (.ref a1)])) t
    refine XS.iloadN X8.here hx rfl (hb hby d1_51) rfl ?_
    show Steps p.tables e below (T8.setTop (mkF m 52 #[.val (.int p0), .val (.ref a1), .val (.int (2 : Int32)), .val (.int (p0 - ((128 : Int64).toInt32)))] [(.int (p0 - ((128 : Int64).toInt32))), (.int ((2 : Int32) + (1 : Int32))), (.ref a1)])) t
    refine XS.bipush X8.here hx rfl (hb hby d1_52) ?_
    show Steps p.tables e below (T8.setTop (mkF m 54 #[.val (.int p0), .val (.ref a1), .val (.int (2 : Int32)), .val (.int (p0 - ((128 : Int64).toInt32)))] [(.int (127 : Int32)), (.int (p0 - ((128 : Int64).toInt32))), (.int ((2 : Int32) + (1 : Int32))), (.ref a1)])) t
    refine XS.iand X8.here hx rfl (hb hby d1_54) rfl ?_
    show Steps p.tables e below (T8.setTop (mkF m 55 #[.val (.int p0), .val (.ref a1), .val (.int (2 : Int32)), .val (.int (p0 - ((128 : Int64).toInt32)))] [(.int ((p0 - ((128 : Int64).toInt32)) &&& (127 : Int32))), (.int ((2 : Int32) + (1 : Int32))), (.ref a1)])) t
    refine XS.i2b X8.here hx rfl (hb hby d1_55) rfl ?_
    exact k
  rw [show ((2 : Int32) + (1 : Int32)) = (3 : Int32) from by decide]
  show OwnGo p.tables e below _ (T8.setTop (mkF m 56 #[.val (.int p0), .val (.ref a1), .val (.int (2 : Int32)), .val (.int (p0 - ((128 : Int64).toInt32)))] [(.int (((p0 - ((128 : Int64).toInt32)) &&& (127 : Int32)).toInt8.toInt32)), (.int (3 : Int32)), (.ref a1)]))
  have cq14 := f13
  obtain ⟨clq14, Arq14, qq14, Sq14, Nq14, Hq14, Gq14⟩ := cq14
  obtain ⟨T15, h15, X15, e15, W15, st15⟩ := stB X8 hx hZ e8 Arq14 (j := (3 : Int32)) (inb_of Sq14 ⟨by decide, by decide⟩) (g := (mkF m 56 #[.val (.int p0), .val (.ref a1), .val (.int (2 : Int32)), .val (.int (p0 - ((128 : Int64).toInt32)))] [(.int (((p0 - ((128 : Int64).toInt32)) &&& (127 : Int32)).toInt8.toInt32)), (.int (3 : Int32)), (.ref a1)])) rfl rfl (hb hby d1_56)
  refine OwnGo.of st15 ?_
  have N15 := Fr.snoc X15 N8 g_a1
  have f16 : n0 ≤ h15.size := Nat.le_trans f9 (Keep.of_wr W15).1
  have f17 : Keep h0 h15 [a1] := f10.wr W15 (Or.inl (List.mem_of_getElem? (i := 0) rfl))
  have f18 : Sta Z h15 "com/example/sevenfold/sevenfold/Natural" "FIRST_OF_LENGTH" "[J" (.ref wF) := f11.wr W15
  have f19 : Arv Z h15 wF kf .long (10 : Int32) [(.long (0 : Int64)), (.long (0 : Int64)), (.long (128 : Int64)), (.long (16512 : Int64)), (.long (2113664 : Int64)), (.long (270549120 : Int64)), (.long (34630287488 : Int64)), (.long (4432676798592 : Int64)), (.long (567382630219904 : Int64)), (.long (72624976668147840 : Int64))] (.long (0 : Int64)) := f12.other W15 hne
  have f20 : Arv Z h15 a1 ka .byte (8 : Int32) [(.int el0), (.int el1), (.int ((((128 : Int32) ||| (((p0 - ((128 : Int64).toInt32)).toUInt32 >>> ((7 : Int32) &&& 31).toUInt32).toInt32)).toInt8.toInt32)).toInt8.toInt32), (.int ((((p0 - ((128 : Int64).toInt32)) &&& (127 : Int32)).toInt8.toInt32)).toInt8.toInt32), (.int el4), (.int el5), (.int el6), (.int el7)] (.int (0 : Int32)) := Arv.set Arq14 qq14 Sq14 Nq14 Hq14 Gq14 (fits_nar_byte _) W15 3 rfl (Nat.le_of_ble_eq_true rfl)
  show OwnGo p.tables e below _ (T15.setTop (mkF m 57 #[.val (.int p0), .val (.ref a1), .val (.int (2 : Int32)), .val (.int (p0 - ((128 : Int64).toInt32)))] []))
  refine OwnGo.of (A := T15.setTop (mkF m 57 #[.val (.int p0), .val (.ref a1), .val (.int (2 : Int32)), .val (.int (p0 - ((128 : Int64).toInt32)))] [])) (B := T15.setTop (mkF m 60 #[.val (.int p0), .val (.ref a1), .val (.int (2 : Int32)), .val (.int (p0 - ((128 : Int64).toInt32)))] [(.int ((2 : Int32) + (2 : Int32)))])) (fun t k => ?_) ?_
  · show Steps p.tables e below (T15.setTop (mkF m 57 #[.val (.int p0), .val (.ref a1), .val (.int (2 : Int32)), .val (.int (p0 - ((128 : Int64).toInt32)))] [])) t
    refine XS.iloadN X15.here hx rfl (hb hby d1_57) rfl ?_
    show Steps p.tables e below (T15.setTop (mkF m 58 #[.val (.int p0), .val (.ref a1), .val (.int (2 : Int32)), .val (.int (p0 - ((128 : Int64).toInt32)))] [(.int (2 : Int32))])) t
    refine XS.iconst X15.here hx rfl (hb hby d1_58) ?_
    show Steps p.tables e below (T15.setTop (mkF m 59 #[.val (.int p0), .val (.ref a1), .val (.int (2 : Int32)), .val (.int (p0 - ((128 : Int64).toInt32)))] [(.int (2 : Int32)), (.int (2 : Int32))])) t
    refine XS.iadd X15.here hx rfl (hb hby d1_59) rfl ?_
    exact k
  obtain ⟨fs, hr, hrun, hended, hW, hsame⟩ := X15.leave (v := some (.int ((2 : Int32) + (2 : Int32)))) (fun h => by rw [Bd.returns] at h; cases h) hlk
  refine ⟨_, _, ?_, hrun, hended, _, _, rfl, ?_, ⟨_, rfl⟩, hW, hsame.mono (by decide) (by decide)⟩
  · show Steps p.tables e below (T15.setTop (mkF m 60 #[.val (.int p0), .val (.ref a1), .val (.int (2 : Int32)), .val (.int (p0 - ((128 : Int64).toInt32)))] [(.int ((2 : Int32) + (2 : Int32)))])) _
    exact own_retI X15 hx Bd.returns (hb hby d1_60) hr
  · show Qrm1_2B Z p0 a1 el0 el1 el2 el3 el4 el5 el6 el7 ka wF kf h0 n0 _ (T15.setFrames fs).heap _
    rw [show (T15.setFrames fs).heap = h15 from e15]
    exact ⟨congrArg (fun z => some (Value.int z)) (by decide), N15, f17, f20⟩
theorem ef_rm1_2C (m : MethodId) (p0 : Int32) (a1 : Addr) : entryFrame m #[(.int p0), (.ref a1), (.int (2 : Int32))] 4 = mkF m 0 #[.val (.int p0), .val (.ref a1), .val (.int (2 : Int32)), .unset] [] := by first | (simp [entryFrame, mkF, argsToLocals, Value.category]; done) | rfl
def Qrm1_2C (Z : State) (p0 : Int32) (a1 : Addr) (el0 : Int32) (el1 : Int32) (el2 : Int32) (el3 : Int32) (el4 : Int32) (el5 : Int32) (el6 : Int32) (el7 : Int32) (ka : ClassId) (wF : Addr) (kf : ClassId) (h0 : Heap) (n0 : Nat) (v : Option Value) (h : Heap) (L : List Loc) : Prop := v = some (.int (5 : Int32)) ∧ Fr n0 L ∧ Keep h0 h [a1] ∧ Arv Z h a1 ka .byte (8 : Int32) [(.int el0), (.int el1), (.int ((((128 : Int32) ||| (((p0 - ((16512 : Int64).toInt32)).toUInt32 >>> ((14 : Int32) &&& 31).toUInt32).toInt32)).toInt8.toInt32)).toInt8.toInt32), (.int ((((128 : Int32) ||| ((((p0 - ((16512 : Int64).toInt32)).toUInt32 >>> ((7 : Int32) &&& 31).toUInt32).toInt32) &&& (127 : Int32))).toInt8.toInt32)).toInt8.toInt32), (.int ((((p0 - ((16512 : Int64).toInt32)) &&& (127 : Int32)).toInt8.toInt32)).toInt8.toInt32), (.int el5), (.int el6), (.int el7)] (.int (0 : Int32))
set_option maxRecDepth 65536 in
set_option maxHeartbeats 40000000 in
theorem rm1_2C (l : Launch) (Z : State) (aw : Array Value) (hw : ∀ d ∈ tables_1, d.before aw Z = true) (ws : List Jvm.Cond) (p0 : Int32) (a1 : Addr) (el0 : Int32) (el1 : Int32) (el2 : Int32) (el3 : Int32) (el4 : Int32) (el5 : Int32) (el6 : Int32) (el7 : Int32) (ka : ClassId) (wF : Addr) (kf : ClassId) (h0 : Heap) (n0 : Nat) (Z0 : n0 ≤ h0.size) (S_FIRST_OF_LENGTH : Sta Z h0 "com/example/sevenfold/sevenfold/Natural" "FIRST_OF_LENGTH" "[J" (.ref wF)) (V_F : Arv Z h0 wF kf .long (10 : Int32) [(.long (0 : Int64)), (.long (0 : Int64)), (.long (128 : Int64)), (.long (16512 : Int64)), (.long (2113664 : Int64)), (.long (270549120 : Int64)), (.long (34630287488 : Int64)), (.long (4432676798592 : Int64)), (.long (567382630219904 : Int64)), (.long (72624976668147840 : Int64))] (.long (0 : Int64))) (V_a : Arv Z h0 a1 ka .byte (8 : Int32) [(.int el0), (.int el1), (.int el2), (.int el3), (.int el4), (.int el5), (.int el6), (.int el7)] (.int (0 : Int32))) (g_a1 : n0 ≤ a1) (hne : wF ≠ a1) (hA : (127 : Int32) < p0) (hB : ¬ (lcmpW (p0.toInt64) (16512 : Int64) < (0 : Int32))) :
    MetFree l (⟨"com/example/sevenfold/sevenfold/Natural", "writeCodePoint", "(I[BI)I"⟩ : MethodName) (head1 (Jvm.Cond.code (⟨"com/example/sevenfold/sevenfold/Natural", "writeCodePoint", "(I[BI)I"⟩ : MethodName) prog_5_method_8_code 4 (some .int) :: ws) ({ frames := 0, cells := 0, slots := 0, locals := 0 } : Room)) (fun a U => a = #[(.int p0), (.ref a1), (.int (2 : Int32))] ∧ Z.Warmed39 U.vm ∧ U.heap = h0) (fun _ _ _ _ _ => True) (fun _ U o U' => ∃ v L, o = .returned v ∧ Qrm1_2C Z p0 a1 el0 el1 el2 el3 el4 el5 el6 el7 ka wF kf h0 n0 v U'.heap L ∧ FrameEnd U o U' L ({ frames := 0, cells := 0, slots := 0, locals := 0 } : Room).cells ({ frames := 0, cells := 0, slots := 0, locals := 0 } : Room).slots) := by
  refine MetFree.of_bodySF (plainFor_of_name pn_0) hisR ?_
  intro p e s m args below meth c s₁ Bd hml0 hP hK
  obtain ⟨rfl, hZ, hh⟩ := hP
  have hx := Bd.exec
  have hby := Bd.bytes
  have hml : c.maxLocals = 4 := hml0
  have hown : s.vm.findClass "com/example/sevenfold/sevenfold/Natural" = some m.cls := findClass_of_methodNamed Bd.named
  have hnm := (name_of_methodNamed Bd.named Bd.method).1
  have X0 : Stand p l e ({ frames := 0, cells := 0, slots := 0, locals := 0 } : Room) s m #[(.int p0), (.ref a1), (.int (2 : Int32))] below meth c s₁ [] 0 0 := Stand.of_body Bd
  have e0 : s₁.heap = h0 := by rw [← hh, Bd.state]; rfl
  have N0 := Fr.nil n0
  have hlk := Bd.notSynchronized
  show OwnGo p.tables e below _ (s₁.setTop (entryFrame m #[(.int p0), (.ref a1), (.int (2 : Int32))] 4))
  rw [ef_rm1_2C m p0 a1]
  have K0 : Keep h0 h0 [a1] := Keep.refl _ _
  show OwnGo p.tables e below _ (s₁.setTop (mkF m 0 #[.val (.int p0), .val (.ref a1), .val (.int (2 : Int32)), .unset] []))
  refine OwnGo.of (A := s₁.setTop (mkF m 0 #[.val (.int p0), .val (.ref a1), .val (.int (2 : Int32)), .unset] [])) (B := s₁.setTop (mkF m 3 #[.val (.int p0), .val (.ref a1), .val (.int (2 : Int32)), .unset] [(.int (127 : Int32)), (.int p0)])) (fun t k => ?_) ?_
  · show Steps p.tables e below (s₁.setTop (mkF m 0 #[.val (.int p0), .val (.ref a1), .val (.int (2 : Int32)), .unset] [])) t
    refine XS.iloadN X0.here hx rfl (hb hby d1_0) rfl ?_
    show Steps p.tables e below (s₁.setTop (mkF m 1 #[.val (.int p0), .val (.ref a1), .val (.int (2 : Int32)), .unset] [(.int p0)])) t
    refine XS.bipush X0.here hx rfl (hb hby d1_1) ?_
    exact k
  have hc1 : (127 : Int32) < p0 := hA
  refine OwnGo.of (A := s₁.setTop (mkF m 3 #[.val (.int p0), .val (.ref a1), .val (.int (2 : Int32)), .unset] [(.int (127 : Int32)), (.int p0)])) (B := s₁.setTop (mkF m 17 #[.val (.int p0), .val (.ref a1), .val (.int (2 : Int32)), .unset] [(.long (p0.toInt64))])) (fun t k => ?_) ?_
  · show Steps p.tables e below (s₁.setTop (mkF m 3 #[.val (.int p0), .val (.ref a1), .val (.int (2 : Int32)), .unset] [(.int (127 : Int32)), (.int p0)])) t
    refine XS.icmpYes X0.here hx rfl (pc0 := 3) (pc' := 15) rfl (hb hby d1_3) rfl (tlt hc1).2.2.1 (by decide) (by decide) ?_
    show Steps p.tables e below (s₁.setTop (mkF m 15 #[.val (.int p0), .val (.ref a1), .val (.int (2 : Int32)), .unset] [])) t
    refine XS.iloadN X0.here hx rfl (hb hby d1_15) rfl ?_
    show Steps p.tables e below (s₁.setTop (mkF m 16 #[.val (.int p0), .val (.ref a1), .val (.int (2 : Int32)), .unset] [(.int p0)])) t
    refine XS.i2l X0.here hx rfl (hb hby d1_16) rfl ?_
    exact k
  obtain ⟨T2, X2, e2, st2⟩ := getS2 X0 hx hZ hown (host := "") (Or.inl (hw _ (List.mem_of_getElem? (i := 11) rfl))) Via.refl e0 S_FIRST_OF_LENGTH (g := (mkF m 17 #[.val (.int p0), .val (.ref a1), .val (.int (2 : Int32)), .unset] [(.long (p0.toInt64))])) rfl (hb hby d1_17)
  refine OwnGo.of st2 ?_
  show OwnGo p.tables e below _ (T2.setTop (mkF m 20 #[.val (.int p0), .val (.ref a1), .val (.int (2 : Int32)), .unset] [(.ref wF), (.long (p0.toInt64))]))
  refine OwnGo.of (A := T2.setTop (mkF m 20 #[.val (.int p0), .val (.ref a1), .val (.int (2 : Int32)), .unset] [(.ref wF), (.long (p0.toInt64))])) (B := T2.setTop (mkF m 21 #[.val (.int p0), .val (.ref a1), .val (.int (2 : Int32)), .unset] [(.int (3 : Int32)), (.ref wF), (.long (p0.toInt64))])) (fun t k => ?_) ?_
  · show Steps p.tables e below (T2.setTop (mkF m 20 #[.val (.int p0), .val (.ref a1), .val (.int (2 : Int32)), .unset] [(.ref wF), (.long (p0.toInt64))])) t
    refine XS.iconst X2.here hx rfl (hb hby d1_20) ?_
    exact k
  have cq3 := V_F
  obtain ⟨clq3, Arq3, qq3, Sq3, Nq3, Hq3, Gq3⟩ := cq3
  have hinq3 := inb_of (j := (3 : Int32)) Sq3 ⟨by decide, by decide⟩
  refine OwnGo.of (X2.laload hx (j := (3 : Int32)) (v := (.long (16512 : Int64))) (by rw [e2]; exact Arq3.1) (State.isArrayOf_alike hZ.alike Arq3.2.1) Arq3.2.2 hinq3 (Hq3.at hinq3 rfl) (g := (mkF m 21 #[.val (.int p0), .val (.ref a1), .val (.int (2 : Int32)), .unset] [(.int (3 : Int32)), (.ref wF), (.long (p0.toInt64))])) rfl rfl (hb hby d1_21)) ?_
  show OwnGo p.tables e below _ (T2.setTop (mkF m 22 #[.val (.int p0), .val (.ref a1), .val (.int (2 : Int32)), .unset] [(.long (16512 : Int64)), (.long (p0.toInt64))]))
  refine OwnGo.of (A := T2.setTop (mkF m 22 #[.val (.int p0), .val (.ref a1), .val (.int (2 : Int32)), .unset] [(.long (16512 : Int64)), (.long (p0.toInt64))])) (B := T2.setTop (mkF m 23 #[.val (.int p0), .val (.ref a1), .val (.int (2 : Int32)), .unset] [(.int (lcmpW (p0.toInt64) (16512 : Int64)))])) (fun t k => ?_) ?_
  · show Steps p.tables e below (T2.setTop (mkF m 22 #[.val (.int p0), .val (.ref a1), .val (.int (2 : Int32)), .unset] [(.long (16512 : Int64)), (.long (p0.toInt64))])) t
    refine XS.lcmp X2.here hx rfl (hb hby d1_22) rfl ?_
    exact k
  have hc4 : ¬ ((lcmpW (p0.toInt64) (16512 : Int64)) < (0 : Int32)) := hB
  refine OwnGo.of (A := T2.setTop (mkF m 23 #[.val (.int p0), .val (.ref a1), .val (.int (2 : Int32)), .unset] [(.int (lcmpW (p0.toInt64) (16512 : Int64)))])) (B := T2.setTop (mkF m 62 #[.val (.int p0), .val (.ref a1), .val (.int (2 : Int32)), .unset] [(.int p0)])) (fun t k => ?_) ?_
  · show Steps p.tables e below (T2.setTop (mkF m 23 #[.val (.int p0), .val (.ref a1), .val (.int (2 : Int32)), .unset] [(.int (lcmpW (p0.toInt64) (16512 : Int64)))])) t
    refine XS.ifYes X2.here hx rfl (pc0 := 23) (pc' := 61) rfl (hb hby d1_23) rfl ((if0 _ _).trans (flt hc4).2.1) (by decide) (by decide) ?_
    show Steps p.tables e below (T2.setTop (mkF m 61 #[.val (.int p0), .val (.ref a1), .val (.int (2 : Int32)), .unset] [])) t
    refine XS.iloadN X2.here hx rfl (hb hby d1_61) rfl ?_
    exact k
  obtain ⟨T5, X5, e5, st5⟩ := getS2 X2 hx hZ hown (host := "") (Or.inl (hw _ (List.mem_of_getElem? (i := 11) rfl))) Via.refl e2 S_FIRST_OF_LENGTH (g := (mkF m 62 #[.val (.int p0), .val (.ref a1), .val (.int (2 : Int32)), .unset] [(.int p0)])) rfl (hb hby d1_62)
  refine OwnGo.of st5 ?_
  show OwnGo p.tables e below _ (T5.setTop (mkF m 65 #[.val (.int p0), .val (.ref a1), .val (.int (2 : Int32)), .unset] [(.ref wF), (.int p0)]))
  refine OwnGo.of (A := T5.setTop (mkF m 65 #[.val (.int p0), .val (.ref a1), .val (.int (2 : Int32)), .unset] [(.ref wF), (.int p0)])) (B := T5.setTop (mkF m 66 #[.val (.int p0), .val (.ref a1), .val (.int (2 : Int32)), .unset] [(.int (3 : Int32)), (.ref wF), (.int p0)])) (fun t k => ?_) ?_
  · show Steps p.tables e below (T5.setTop (mkF m 65 #[.val (.int p0), .val (.ref a1), .val (.int (2 : Int32)), .unset] [(.ref wF), (.int p0)])) t
    refine XS.iconst X5.here hx rfl (hb hby d1_65) ?_
    exact k
  have cq6 := V_F
  obtain ⟨clq6, Arq6, qq6, Sq6, Nq6, Hq6, Gq6⟩ := cq6
  have hinq6 := inb_of (j := (3 : Int32)) Sq6 ⟨by decide, by decide⟩
  refine OwnGo.of (X5.laload hx (j := (3 : Int32)) (v := (.long (16512 : Int64))) (by rw [e5]; exact Arq6.1) (State.isArrayOf_alike hZ.alike Arq6.2.1) Arq6.2.2 hinq6 (Hq6.at hinq6 rfl) (g := (mkF m 66 #[.val (.int p0), .val (.ref a1), .val (.int (2 : Int32)), .unset] [(.int (3 : Int32)), (.ref wF), (.int p0)])) rfl rfl (hb hby d1_66)) ?_
  show OwnGo p.tables e below _ (T5.setTop (mkF m 67 #[.val (.int p0), .val (.ref a1), .val (.int (2 : Int32)), .unset] [(.long (16512 : Int64)), (.int p0)]))
  refine OwnGo.of (A := T5.setTop (mkF m 67 #[.val (.int p0), .val (.ref a1), .val (.int (2 : Int32)), .unset] [(.long (16512 : Int64)), (.int p0)])) (B := T5.setTop (mkF m 81 #[.val (.int p0), .val (.ref a1), .val (.int (2 : Int32)), .val (.int (p0 - ((16512 : Int64).toInt32)))] [(.int (((128 : Int32) ||| (((p0 - ((16512 : Int64).toInt32)).toUInt32 >>> ((14 : Int32) &&& 31).toUInt32).toInt32)).toInt8.toInt32)), (.int (2 : Int32)), (.ref a1)])) (fun t k => ?_) ?_
  · show Steps p.tables e below (T5.setTop (mkF m 67 #[.val (.int p0), .val (.ref a1), .val (.int (2 : Int32)), .unset] [(.long (16512 : Int64)), (.int p0)])) t
    refine XS.l2i X5.here hx rfl (hb hby d1_67) rfl ?_
    show Steps p.tables e below (T5.setTop (mkF m 68 #[.val (.int p0), .val (.ref a1), .val (.int (2 : Int32)), .unset] [(.int ((16512 : Int64).toInt32)), (.int p0)])) t
    refine XS.isub X5.here hx rfl (hb hby d1_68) rfl ?_
    show Steps p.tables e below (T5.setTop (mkF m 69 #[.val (.int p0), .val (.ref a1), .val (.int (2 : Int32)), .unset] [(.int (p0 - ((16512 : Int64).toInt32)))])) t
    refine XS.istoreN X5.here hx rfl (hb hby d1_69) rfl (l' := #[.val (.int p0), .val (.ref a1), .val (.int (2 : Int32)), .val (.int (p0 - ((16512 : Int64).toInt32)))]) rfl ?_
    show Steps p.tables e below (T5.setTop (mkF m 70 #[.val (.int p0), .val (.ref a1), .val (.int (2 : Int32)), .val (.int (p0 - ((16512 : Int64).toInt32)))] [])) t
    refine XS.aloadN X5.here hx rfl (hb hby d1_70) rfl rfl ?_
    show Steps p.tables e below (T5.setTop (mkF m 71 #[.val (.int p0), .val (.ref a1), .val (.int (2 : Int32)), .val (.int (p0 - ((16512 : Int64).toInt32)))] [(.ref a1)])) t
    refine XS.iloadN X5.here hx rfl (hb hby d1_71) rfl ?_
    show Steps p.tables e below (T5.setTop (mkF m 72 #[.val (.int p0), .val (.ref a1), .val (.int (2 : Int32)), .val (.int (p0 - ((16512 : Int64).toInt32)))] [(.int (2 : Int32)), (.ref a1)])) t
    refine XS.sipush X5.here hx rfl (hb hby d1_72) ?_
    show Steps p.tables e below (T5.setTop (mkF m 75 #[.val (.int p0), .val (.ref a1), .val (.int (2 : Int32)), .val (.int (p0 - ((16512 : Int64).toInt32)))] [(.int (128 : Int32)), (.int (2 : Int32)), (.ref a1)])) t
    refine XS.iloadN X5.here hx rfl (hb hby d1_75) rfl ?_
    show Steps p.tables e below (T5.setTop (mkF m 76 #[.val (.int p0), .val (.ref a1), .val (.int (2 : Int32)), .val (.int (p0 - ((16512 : Int64).toInt32)))] [(.int (p0 - ((16512 : Int64).toInt32))), (.int (128 : Int32)), (.int (2 : Int32)), (.ref a1)])) t
    refine XS.bipush X5.here hx rfl (hb hby d1_76) ?_
    show Steps p.tables e below (T5.setTop (mkF m 78 #[.val (.int p0), .val (.ref a1), .val (.int (2 : Int32)), .val (.int (p0 - ((16512 : Int64).toInt32)))] [(.int (14 : Int32)), (.int (p0 - ((16512 : Int64).toInt32))), (.int (128 : Int32)), (.int (2 : Int32)), (.ref a1)])) t
    refine XS.iushr X5.here hx rfl (hb hby d1_78) rfl ?_
    show Steps p.tables e below (T5.setTop (mkF m 79 #[.val (.int p0), .val (.ref a1), .val (.int (2 : Int32)), .val (.int (p0 - ((16512 : Int64).toInt32)))] [(.int (((p0 - ((16512 : Int64).toInt32)).toUInt32 >>> ((14 : Int32) &&& 31).toUInt32).toInt32)), (.int (128 : Int32)), (.int (2 : Int32)), (.ref a1)])) t
    refine XS.ior X5.here hx rfl (hb hby d1_79) rfl ?_
    show Steps p.tables e below (T5.setTop (mkF m 80 #[.val (.int p0), .val (.ref a1), .val (.int (2 : Int32)), .val (.int (p0 - ((16512 : Int64).toInt32)))] [(.int ((128 : Int32) ||| (((p0 - ((16512 : Int64).toInt32)).toUInt32 >>> ((14 : Int32) &&& 31).toUInt32).toInt32))), (.int (2 : Int32)), (.ref a1)])) t
    refine XS.i2b X5.here hx rfl (hb hby d1_80) rfl ?_
    exact k
  have cq7 := V_a
  obtain ⟨clq7, Arq7, qq7, Sq7, Nq7, Hq7, Gq7⟩ := cq7
  obtain ⟨T8, h8, X8, e8, W8, st8⟩ := stB X5 hx hZ e5 Arq7 (j := (2 : Int32)) (inb_of Sq7 ⟨by decide, by decide⟩) (g := (mkF m 81 #[.val (.int p0), .val (.ref a1), .val (.int (2 : Int32)), .val (.int (p0 - ((16512 : Int64).toInt32)))] [(.int (((128 : Int32) ||| (((p0 - ((16512 : Int64).toInt32)).toUInt32 >>> ((14 : Int32) &&& 31).toUInt32).toInt32)).toInt8.toInt32)), (.int (2 : Int32)), (.ref a1)])) rfl rfl (hb hby d1_81)
  refine OwnGo.of st8 ?_
  have N8 := Fr.snoc X8 N0 g_a1
  have f9 : n0 ≤ h8.size := Nat.le_trans Z0 (Keep.of_wr W8).1
  have f10 : Keep h0 h8 [a1] := K0.wr W8 (Or.inl (List.mem_of_getElem? (i := 0) rfl))
  have f11 : Sta Z h8 "com/example/sevenfold/sevenfold/Natural" "FIRST_OF_LENGTH" "[J" (.ref wF) := S_FIRST_OF_LENGTH.wr W8
  have f12 : Arv Z h8 wF kf .long (10 : Int32) [(.long (0 : Int64)), (.long (0 : Int64)), (.long (128 : Int64)), (.long (16512 : Int64)), (.long (2113664 : Int64)), (.long (270549120 : Int64)), (.long (34630287488 : Int64)), (.long (4432676798592 : Int64)), (.long (567382630219904 : Int64)), (.long (72624976668147840 : Int64))] (.long (0 : Int64)) := V_F.other W8 hne
  have f13 : Arv Z h8 a1 ka .byte (8 : Int32) [(.int el0), (.int el1), (.int ((((128 : Int32) ||| (((p0 - ((16512 : Int64).toInt32)).toUInt32 >>> ((14 : Int32) &&& 31).toUInt32).toInt32)).toInt8.toInt32)).toInt8.toInt32), (.int el3), (.int el4), (.int el5), (.int el6), (.int el7)] (.int (0 : Int32)) := Arv.set Arq7 qq7 Sq7 Nq7 Hq7 Gq7 (fits_nar_byte _) W8 2 rfl (Nat.le_of_ble_eq_true rfl)
  show OwnGo p.tables e below _ (T8.setTop (mkF m 82 #[.val (.int p0), .val (.ref a1), .val (.int (2 : Int32)), .val (.int (p0 - ((16512 : Int64).toInt32)))] []))
  refine OwnGo.of (A := T8.setTop (mkF m 82 #[.val (.int p0), .val (.ref a1), .val (.int (2 : Int32)), .val (.int (p0 - ((16512 : Int64).toInt32)))] [])) (B := T8.setTop (mkF m 98 #[.val (.int p0), .val (.ref a1), .val (.int (2 : Int32)), .val (.int (p0 - ((16512 : Int64).toInt32)))] [(.int (((128 : Int32) ||| ((((p0 - ((16512 : Int64).toInt32)).toUInt32 >>> ((7 : Int32) &&& 31).toUInt32).toInt32) &&& (127 : Int32))).toInt8.toInt32)), (.int ((2 : Int32) + (1 : Int32))), (.ref a1)])) (fun t k => ?_) ?_
  · show Steps p.tables e below (T8.setTop (mkF m 82 #[.val (.int p0), .val (.ref a1), .val (.int (2 : Int32)), .val (.int (p0 - ((16512 : Int64).toInt32)))] [])) t
    refine XS.aloadN X8.here hx rfl (hb hby d1_82) rfl rfl ?_
    show Steps p.tables e below (T8.setTop (mkF m 83 #[.val (.int p0), .val (.ref a1), .val (.int (2 : Int32)), .val (.int (p0 - ((16512 : Int64).toInt32)))] [(.ref a1)])) t
    refine XS.iloadN X8.here hx rfl (hb hby d1_83) rfl ?_
    show Steps p.tables e below (T8.setTop (mkF m 84 #[.val (.int p0), .val (.ref a1), .val (.int (2 : Int32)), .val (.int (p0 - ((16512 : Int64).toInt32)))] [(.int (2 : Int32)), (.ref a1)])) t
    refine XS.iconst X8.here hx rfl (hb hby d1_84) ?_
    show Steps p.tables e below (T8.setTop (mkF m 85 #[.val (.int p0), .val (.ref a1), .val (.int (2 : Int32)), .val (.int (p0 - ((16512 : Int64).toInt32)))] [(.int (1 : Int32)), (.int (2 : Int32)), (.ref a1)])) t
    refine XS.iadd X8.here hx rfl (hb hby d1_85) rfl ?_
    show Steps p.tables e below (T8.setTop (mkF m 86 #[.val (.int p0), .val (.ref a1), .val (.int (2 : Int32)), .val (.int (p0 - ((16512 : Int64).toInt32)))] [(.int ((2 : Int32) + (1 : Int32))), (.ref a1)])) t
    refine XS.sipush X8.here hx rfl (hb hby d1_86) ?_
    show Steps p.tables e below (T8.setTop (mkF m 89 #[.val (.int p0), .val (.ref a1), .val (.int (2 : Int32)), .val (.int (p0 - ((16512 : Int64).toInt32)))] [(.int (128 : Int32)), (.int ((2 : Int32) + (1 : Int32))), (.ref a1)])) t
    refine XS.iloadN X8.here hx rfl (hb hby d1_89) rfl ?_
    show Steps p.tables e below (T8.setTop (mkF m 90 #[.val (.int p0), .val (.ref a1), .val (.int (2 : Int32)), .val (.int (p0 - ((16512 : Int64).toInt32)))] [(.int (p0 - ((16512 : Int64).toInt32))), (.int (128 : Int32)), (.int ((2 : Int32) + (1 : Int32))), (.ref a1)])) t
    refine XS.bipush X8.here hx rfl (hb hby d1_90) ?_
    show Steps p.tables e below (T8.setTop (mkF m 92 #[.val (.int p0), .val (.ref a1), .val (.int (2 : Int32)), .val (.int (p0 - ((16512 : Int64).toInt32)))] [(.int (7 : Int32)), (.int (p0 - ((16512 : Int64).toInt32))), (.int (128 : Int32)), (.int ((2 : Int32) + (1 : Int32))), (.ref a1)])) t
    refine XS.iushr X8.here hx rfl (hb hby d1_92) rfl ?_
    show Steps p.tables e below (T8.setTop (mkF m 93 #[.val (.int p0), .val (.ref a1), .val (.int (2 : Int32)), .val (.int (p0 - ((16512 : Int64).toInt32)))] [(.int (((p0 - ((16512 : Int64).toInt32)).toUInt32 >>> ((7 : Int32) &&& 31).toUInt32).toInt32)), (.int (128 : Int32)), (.int ((2 : Int32) + (1 : Int32))), (.ref a1)])) t
    refine XS.bipush X8.here hx rfl (hb hby d1_93) ?_
    show Steps p.tables e below (T8.setTop (mkF m 95 #[.val (.int p0), .val (.ref a1), .val (.int (2 : Int32)), .val (.int (p0 - ((16512 : Int64).toInt32)))] [(.int (127 : Int32)), (.int (((p0 - ((16512 : Int64).toInt32)).toUInt32 >>> ((7 : Int32) &&& 31).toUInt32).toInt32)), (.int (128 : Int32)), (.int ((2 : Int32) + (1 : Int32))), (.ref a1)])) t
    refine XS.iand X8.here hx rfl (hb hby d1_95) rfl ?_
    show Steps p.tables e below (T8.setTop (mkF m 96 #[.val (.int p0), .val (.ref a1), .val (.int (2 : Int32)), .val (.int (p0 - ((16512 : Int64).toInt32)))] [(.int ((((p0 - ((16512 : Int64).toInt32)).toUInt32 >>> ((7 : Int32) &&& 31).toUInt32).toInt32) &&& (127 : Int32))), (.int (128 : Int32)), (.int ((2 : Int32) + (1 : Int32))), (.ref a1)])) t
    refine XS.ior X8.here hx rfl (hb hby d1_96) rfl ?_
    show Steps p.tables e below (T8.setTop (mkF m 97 #[.val (.int p0), .val (.ref a1), .val (.int (2 : Int32)), .val (.int (p0 - ((16512 : Int64).toInt32)))] [(.int ((128 : Int32) ||| ((((p0 - ((16512 : Int64).toInt32)).toUInt32 >>> ((7 : Int32) &&& 31).toUInt32).toInt32) &&& (127 : Int32)))), (.int ((2 : Int32) + (1 : Int32))), (.ref a1)])) t
    refine XS.i2b X8.here hx rfl (hb hby d1_97) rfl ?_
    exact k
  rw [show ((2 : Int32) + (1 : Int32)) = (3 : Int32) from by decide]
  show OwnGo p.tables e below _ (T8.setTop (mkF m 98 #[.val (.int p0), .val (.ref a1), .val (.int (2 : Int32)), .val (.int (p0 - ((16512 : Int64).toInt32)))] [(.int (((128 : Int32) ||| ((((p0 - ((16512 : Int64).toInt32)).toUInt32 >>> ((7 : Int32) &&& 31).toUInt32).toInt32) &&& (127 : Int32))).toInt8.toInt32)), (.int (3 : Int32)), (.ref a1)]))
  have cq14 := f13
  obtain ⟨clq14, Arq14, qq14, Sq14, Nq14, Hq14, Gq14⟩ := cq14
  obtain ⟨T15, h15, X15, e15, W15, st15⟩ := stB X8 hx hZ e8 Arq14 (j := (3 : Int32)) (inb_of Sq14 ⟨by decide, by decide⟩) (g := (mkF m 98 #[.val (.int p0), .val (.ref a1), .val (.int (2 : Int32)), .val (.int (p0 - ((16512 : Int64).toInt32)))] [(.int (((128 : Int32) ||| ((((p0 - ((16512 : Int64).toInt32)).toUInt32 >>> ((7 : Int32) &&& 31).toUInt32).toInt32) &&& (127 : Int32))).toInt8.toInt32)), (.int (3 : Int32)), (.ref a1)])) rfl rfl (hb hby d1_98)
  refine OwnGo.of st15 ?_
  have N15 := Fr.snoc X15 N8 g_a1
  have f16 : n0 ≤ h15.size := Nat.le_trans f9 (Keep.of_wr W15).1
  have f17 : Keep h0 h15 [a1] := f10.wr W15 (Or.inl (List.mem_of_getElem? (i := 0) rfl))
  have f18 : Sta Z h15 "com/example/sevenfold/sevenfold/Natural" "FIRST_OF_LENGTH" "[J" (.ref wF) := f11.wr W15
  have f19 : Arv Z h15 wF kf .long (10 : Int32) [(.long (0 : Int64)), (.long (0 : Int64)), (.long (128 : Int64)), (.long (16512 : Int64)), (.long (2113664 : Int64)), (.long (270549120 : Int64)), (.long (34630287488 : Int64)), (.long (4432676798592 : Int64)), (.long (567382630219904 : Int64)), (.long (72624976668147840 : Int64))] (.long (0 : Int64)) := f12.other W15 hne
  have f20 : Arv Z h15 a1 ka .byte (8 : Int32) [(.int el0), (.int el1), (.int ((((128 : Int32) ||| (((p0 - ((16512 : Int64).toInt32)).toUInt32 >>> ((14 : Int32) &&& 31).toUInt32).toInt32)).toInt8.toInt32)).toInt8.toInt32), (.int ((((128 : Int32) ||| ((((p0 - ((16512 : Int64).toInt32)).toUInt32 >>> ((7 : Int32) &&& 31).toUInt32).toInt32) &&& (127 : Int32))).toInt8.toInt32)).toInt8.toInt32), (.int el4), (.int el5), (.int el6), (.int el7)] (.int (0 : Int32)) := Arv.set Arq14 qq14 Sq14 Nq14 Hq14 Gq14 (fits_nar_byte _) W15 3 rfl (Nat.le_of_ble_eq_true rfl)
  show OwnGo p.tables e below _ (T15.setTop (mkF m 99 #[.val (.int p0), .val (.ref a1), .val (.int (2 : Int32)), .val (.int (p0 - ((16512 : Int64).toInt32)))] []))
  refine OwnGo.of (A := T15.setTop (mkF m 99 #[.val (.int p0), .val (.ref a1), .val (.int (2 : Int32)), .val (.int (p0 - ((16512 : Int64).toInt32)))] [])) (B := T15.setTop (mkF m 108 #[.val (.int p0), .val (.ref a1), .val (.int (2 : Int32)), .val (.int (p0 - ((16512 : Int64).toInt32)))] [(.int (((p0 - ((16512 : Int64).toInt32)) &&& (127 : Int32)).toInt8.toInt32)), (.int ((2 : Int32) + (2 : Int32))), (.ref a1)])) (fun t k => ?_) ?_
  · show Steps p.tables e below (T15.setTop (mkF m 99 #[.val (.int p0), .val (.ref a1), .val (.int (2 : Int32)), .val (.int (p0 - ((16512 : Int64).toInt32)))] [])) t
    refine XS.aloadN X15.here hx rfl (hb hby d1_99) rfl rfl ?_
    show Steps p.tables e below (T15.setTop (mkF m 100 #[.val (.int p0), .val (.ref a1), .val (.int (2 : Int32)), .val (.int (p0 - ((16512 : Int64).toInt32)))] [(.ref a1)])) t
    refine XS.iloadN X15.here hx rfl (hb hby d1_100) rfl ?_
    show Steps p.tables e below (T15.setTop (mkF m 101 #[.val (.int p0), .val (.ref a1), .val (.int (2 : Int32)), .val (.int (p0 - ((16512 : Int64).toInt32)))] [(.int (2 : Int32)), (.ref a1)])) t
    refine XS.iconst X15.here hx rfl (hb hby d1_101) ?_
    show Steps p.tables e below (T15.setTop (mkF m 102 #[.val (.int p0), .val (.ref a1), .val (.int (2 : Int32)), .val (.int (p0 - ((16512 : Int64).toInt32)))] [(.int (2 : Int32)), (.int (2 : Int32)), (.ref a1)])) t
    refine XS.iadd X15.here hx rfl (hb hby d1_102) rfl ?_
    show Steps p.tables e below (T15.setTop (mkF m 103 #[.val (.int p0), .val (.ref a1), .val (.int (2 : Int32)), .val (.int (p0 - ((16512 : Int64).toInt32)))] [(.int ((2 : Int32) + (2 : Int32))), (.ref a1)])) t
    refine XS.iloadN X15.here hx rfl (hb hby d1_103) rfl ?_
    show Steps p.tables e below (T15.setTop (mkF m 104 #[.val (.int p0), .val (.ref a1), .val (.int (2 : Int32)), .val (.int (p0 - ((16512 : Int64).toInt32)))] [(.int (p0 - ((16512 : Int64).toInt32))), (.int ((2 : Int32) + (2 : Int32))), (.ref a1)])) t
    refine XS.bipush X15.here hx rfl (hb hby d1_104) ?_
    show Steps p.tables e below (T15.setTop (mkF m 106 #[.val (.int p0), .val (.ref a1), .val (.int (2 : Int32)), .val (.int (p0 - ((16512 : Int64).toInt32)))] [(.int (127 : Int32)), (.int (p0 - ((16512 : Int64).toInt32))), (.int ((2 : Int32) + (2 : Int32))), (.ref a1)])) t
    refine XS.iand X15.here hx rfl (hb hby d1_106) rfl ?_
    show Steps p.tables e below (T15.setTop (mkF m 107 #[.val (.int p0), .val (.ref a1), .val (.int (2 : Int32)), .val (.int (p0 - ((16512 : Int64).toInt32)))] [(.int ((p0 - ((16512 : Int64).toInt32)) &&& (127 : Int32))), (.int ((2 : Int32) + (2 : Int32))), (.ref a1)])) t
    refine XS.i2b X15.here hx rfl (hb hby d1_107) rfl ?_
    exact k
  rw [show ((2 : Int32) + (2 : Int32)) = (4 : Int32) from by decide]
  show OwnGo p.tables e below _ (T15.setTop (mkF m 108 #[.val (.int p0), .val (.ref a1), .val (.int (2 : Int32)), .val (.int (p0 - ((16512 : Int64).toInt32)))] [(.int (((p0 - ((16512 : Int64).toInt32)) &&& (127 : Int32)).toInt8.toInt32)), (.int (4 : Int32)), (.ref a1)]))
  have cq21 := f20
  obtain ⟨clq21, Arq21, qq21, Sq21, Nq21, Hq21, Gq21⟩ := cq21
  obtain ⟨T22, h22, X22, e22, W22, st22⟩ := stB X15 hx hZ e15 Arq21 (j := (4 : Int32)) (inb_of Sq21 ⟨by decide, by decide⟩) (g := (mkF m 108 #[.val (.int p0), .val (.ref a1), .val (.int (2 : Int32)), .val (.int (p0 - ((16512 : Int64).toInt32)))] [(.int (((p0 - ((16512 : Int64).toInt32)) &&& (127 : Int32)).toInt8.toInt32)), (.int (4 : Int32)), (.ref a1)])) rfl rfl (hb hby d1_108)
  refine OwnGo.of st22 ?_
  have N22 := Fr.snoc X22 N15 g_a1
  have f23 : n0 ≤ h22.size := Nat.le_trans f16 (Keep.of_wr W22).1
  have f24 : Keep h0 h22 [a1] := f17.wr W22 (Or.inl (List.mem_of_getElem? (i := 0) rfl))
  have f25 : Sta Z h22 "com/example/sevenfold/sevenfold/Natural" "FIRST_OF_LENGTH" "[J" (.ref wF) := f18.wr W22
  have f26 : Arv Z h22 wF kf .long (10 : Int32) [(.long (0 : Int64)), (.long (0 : Int64)), (.long (128 : Int64)), (.long (16512 : Int64)), (.long (2113664 : Int64)), (.long (270549120 : Int64)), (.long (34630287488 : Int64)), (.long (4432676798592 : Int64)), (.long (567382630219904 : Int64)), (.long (72624976668147840 : Int64))] (.long (0 : Int64)) := f19.other W22 hne
  have f27 : Arv Z h22 a1 ka .byte (8 : Int32) [(.int el0), (.int el1), (.int ((((128 : Int32) ||| (((p0 - ((16512 : Int64).toInt32)).toUInt32 >>> ((14 : Int32) &&& 31).toUInt32).toInt32)).toInt8.toInt32)).toInt8.toInt32), (.int ((((128 : Int32) ||| ((((p0 - ((16512 : Int64).toInt32)).toUInt32 >>> ((7 : Int32) &&& 31).toUInt32).toInt32) &&& (127 : Int32))).toInt8.toInt32)).toInt8.toInt32), (.int ((((p0 - ((16512 : Int64).toInt32)) &&& (127 : Int32)).toInt8.toInt32)).toInt8.toInt32), (.int el5), (.int el6), (.int el7)] (.int (0 : Int32)) := Arv.set Arq21 qq21 Sq21 Nq21 Hq21 Gq21 (fits_nar_byte _) W22 4 rfl (Nat.le_of_ble_eq_true rfl)
  show OwnGo p.tables e below _ (T22.setTop (mkF m 109 #[.val (.int p0), .val (.ref a1), .val (.int (2 : Int32)), .val (.int (p0 - ((16512 : Int64).toInt32)))] []))
  refine OwnGo.of (A := T22.setTop (mkF m 109 #[.val (.int p0), .val (.ref a1), .val (.int (2 : Int32)), .val (.int (p0 - ((16512 : Int64).toInt32)))] [])) (B := T22.setTop (mkF m 112 #[.val (.int p0), .val (.ref a1), .val (.int (2 : Int32)), .val (.int (p0 - ((16512 : Int64).toInt32)))] [(.int ((2 : Int32) + (3 : Int32)))])) (fun t k => ?_) ?_
  · show Steps p.tables e below (T22.setTop (mkF m 109 #[.val (.int p0), .val (.ref a1), .val (.int (2 : Int32)), .val (.int (p0 - ((16512 : Int64).toInt32)))] [])) t
    refine XS.iloadN X22.here hx rfl (hb hby d1_109) rfl ?_
    show Steps p.tables e below (T22.setTop (mkF m 110 #[.val (.int p0), .val (.ref a1), .val (.int (2 : Int32)), .val (.int (p0 - ((16512 : Int64).toInt32)))] [(.int (2 : Int32))])) t
    refine XS.iconst X22.here hx rfl (hb hby d1_110) ?_
    show Steps p.tables e below (T22.setTop (mkF m 111 #[.val (.int p0), .val (.ref a1), .val (.int (2 : Int32)), .val (.int (p0 - ((16512 : Int64).toInt32)))] [(.int (3 : Int32)), (.int (2 : Int32))])) t
    refine XS.iadd X22.here hx rfl (hb hby d1_111) rfl ?_
    exact k
  obtain ⟨fs, hr, hrun, hended, hW, hsame⟩ := X22.leave (v := some (.int ((2 : Int32) + (3 : Int32)))) (fun h => by rw [Bd.returns] at h; cases h) hlk
  refine ⟨_, _, ?_, hrun, hended, _, _, rfl, ?_, ⟨_, rfl⟩, hW, hsame.mono (by decide) (by decide)⟩
  · show Steps p.tables e below (T22.setTop (mkF m 112 #[.val (.int p0), .val (.ref a1), .val (.int (2 : Int32)), .val (.int (p0 - ((16512 : Int64).toInt32)))] [(.int ((2 : Int32) + (3 : Int32)))])) _
    exact own_retI X22 hx Bd.returns (hb hby d1_112) hr
  · show Qrm1_2C Z p0 a1 el0 el1 el2 el3 el4 el5 el6 el7 ka wF kf h0 n0 _ (T22.setFrames fs).heap _
    rw [show (T22.setFrames fs).heap = h22 from e22]
    exact ⟨congrArg (fun z => some (Value.int z)) (by decide), N22, f24, f27⟩
theorem ef_rm1_3A (m : MethodId) (p0 : Int32) (a1 : Addr) : entryFrame m #[(.int p0), (.ref a1), (.int (3 : Int32))] 4 = mkF m 0 #[.val (.int p0), .val (.ref a1), .val (.int (3 : Int32)), .unset] [] := by first | (simp [entryFrame, mkF, argsToLocals, Value.category]; done) | rfl
def Qrm1_3A (Z : State) (p0 : Int32) (a1 : Addr) (el0 : Int32) (el1 : Int32) (el2 : Int32) (el3 : Int32) (el4 : Int32) (el5 : Int32) (el6 : Int32) (el7 : Int32) (ka : ClassId) (wF : Addr) (kf : ClassId) (h0 : Heap) (n0 : Nat) (v : Option Value) (h : Heap) (L : List Loc) : Prop := v = some (.int (4 : Int32)) ∧ Fr n0 L ∧ Keep h0 h [a1] ∧ Arv Z h a1 ka .byte (8 : Int32) [(.int el0), (.int el1), (.int el2), (.int ((p0.toInt8.toInt32)).toInt8.toInt32), (.int el4), (.int el5), (.int el6), (.int el7)] (.int (0 : Int32))
set_option maxRecDepth 65536 in
set_option maxHeartbeats 40000000 in
theorem rm1_3A (l : Launch) (Z : State) (aw : Array Value) (hw : ∀ d ∈ tables_1, d.before aw Z = true) (ws : List Jvm.Cond) (p0 : Int32) (a1 : Addr) (el0 : Int32) (el1 : Int32) (el2 : Int32) (el3 : Int32) (el4 : Int32) (el5 : Int32) (el6 : Int32) (el7 : Int32) (ka : ClassId) (wF : Addr) (kf : ClassId) (h0 : Heap) (n0 : Nat) (Z0 : n0 ≤ h0.size) (S_FIRST_OF_LENGTH : Sta Z h0 "com/example/sevenfold/sevenfold/Natural" "FIRST_OF_LENGTH" "[J" (.ref wF)) (V_F : Arv Z h0 wF kf .long (10 : Int32) [(.long (0 : Int64)), (.long (0 : Int64)), (.long (128 : Int64)), (.long (16512 : Int64)), (.long (2113664 : Int64)), (.long (270549120 : Int64)), (.long (34630287488 : Int64)), (.long (4432676798592 : Int64)), (.long (567382630219904 : Int64)), (.long (72624976668147840 : Int64))] (.long (0 : Int64))) (V_a : Arv Z h0 a1 ka .byte (8 : Int32) [(.int el0), (.int el1), (.int el2), (.int el3), (.int el4), (.int el5), (.int el6), (.int el7)] (.int (0 : Int32))) (g_a1 : n0 ≤ a1) (hne : wF ≠ a1) (hA : ¬ ((127 : Int32) < p0)) :
    MetFree l (⟨"com/example/sevenfold/sevenfold/Natural", "writeCodePoint", "(I[BI)I"⟩ : MethodName) (head1 (Jvm.Cond.code (⟨"com/example/sevenfold/sevenfold/Natural", "writeCodePoint", "(I[BI)I"⟩ : MethodName) prog_5_method_8_code 4 (some .int) :: ws) ({ frames := 0, cells := 0, slots := 0, locals := 0 } : Room)) (fun a U => a = #[(.int p0), (.ref a1), (.int (3 : Int32))] ∧ Z.Warmed39 U.vm ∧ U.heap = h0) (fun _ _ _ _ _ => True) (fun _ U o U' => ∃ v L, o = .returned v ∧ Qrm1_3A Z p0 a1 el0 el1 el2 el3 el4 el5 el6 el7 ka wF kf h0 n0 v U'.heap L ∧ FrameEnd U o U' L ({ frames := 0, cells := 0, slots := 0, locals := 0 } : Room).cells ({ frames := 0, cells := 0, slots := 0, locals := 0 } : Room).slots) := by
  refine MetFree.of_bodySF (plainFor_of_name pn_0) hisR ?_
  intro p e s m args below meth c s₁ Bd hml0 hP hK
  obtain ⟨rfl, hZ, hh⟩ := hP
  have hx := Bd.exec
  have hby := Bd.bytes
  have hml : c.maxLocals = 4 := hml0
  have hown : s.vm.findClass "com/example/sevenfold/sevenfold/Natural" = some m.cls := findClass_of_methodNamed Bd.named
  have hnm := (name_of_methodNamed Bd.named Bd.method).1
  have X0 : Stand p l e ({ frames := 0, cells := 0, slots := 0, locals := 0 } : Room) s m #[(.int p0), (.ref a1), (.int (3 : Int32))] below meth c s₁ [] 0 0 := Stand.of_body Bd
  have e0 : s₁.heap = h0 := by rw [← hh, Bd.state]; rfl
  have N0 := Fr.nil n0
  have hlk := Bd.notSynchronized
  show OwnGo p.tables e below _ (s₁.setTop (entryFrame m #[(.int p0), (.ref a1), (.int (3 : Int32))] 4))
  rw [ef_rm1_3A m p0 a1]
  have K0 : Keep h0 h0 [a1] := Keep.refl _ _
  show OwnGo p.tables e below _ (s₁.setTop (mkF m 0 #[.val (.int p0), .val (.ref a1), .val (.int (3 : Int32)), .unset] []))
  refine OwnGo.of (A := s₁.setTop (mkF m 0 #[.val (.int p0), .val (.ref a1), .val (.int (3 : Int32)), .unset] [])) (B := s₁.setTop (mkF m 3 #[.val (.int p0), .val (.ref a1), .val (.int (3 : Int32)), .unset] [(.int (127 : Int32)), (.int p0)])) (fun t k => ?_) ?_
  · show Steps p.tables e below (s₁.setTop (mkF m 0 #[.val (.int p0), .val (.ref a1), .val (.int (3 : Int32)), .unset] [])) t
    refine XS.iloadN X0.here hx rfl (hb hby d1_0) rfl ?_
    show Steps p.tables e below (s₁.setTop (mkF m 1 #[.val (.int p0), .val (.ref a1), .val (.int (3 : Int32)), .unset] [(.int p0)])) t
    refine XS.bipush X0.here hx rfl (hb hby d1_1) ?_
    exact k
  have hc1 : ¬ ((127 : Int32) < p0) := hA
  refine OwnGo.of (A := s₁.setTop (mkF m 3 #[.val (.int p0), .val (.ref a1), .val (.int (3 : Int32)), .unset] [(.int (127 : Int32)), (.int p0)])) (B := s₁.setTop (mkF m 10 #[.val (.int p0), .val (.ref a1), .val (.int (3 : Int32)), .unset] [(.int (p0.toInt8.toInt32)), (.int (3 : Int32)), (.ref a1)])) (fun t k => ?_) ?_
  · show Steps p.tables e below (s₁.setTop (mkF m 3 #[.val (.int p0), .val (.ref a1), .val (.int (3 : Int32)), .unset] [(.int (127 : Int32)), (.int p0)])) t
    refine XS.icmpNo X0.here hx rfl (hb hby d1_3) rfl (flt hc1).2.2.1 ?_
    show Steps p.tables e below (s₁.setTop (mkF m 6 #[.val (.int p0), .val (.ref a1), .val (.int (3 : Int32)), .unset] [])) t
    refine XS.aloadN X0.here hx rfl (hb hby d1_6) rfl rfl ?_
    show Steps p.tables e below (s₁.setTop (mkF m 7 #[.val (.int p0), .val (.ref a1), .val (.int (3 : Int32)), .unset] [(.ref a1)])) t
    refine XS.iloadN X0.here hx rfl (hb hby d1_7) rfl ?_
    show Steps p.tables e below (s₁.setTop (mkF m 8 #[.val (.int p0), .val (.ref a1), .val (.int (3 : Int32)), .unset] [(.int (3 : Int32)), (.ref a1)])) t
    refine XS.iloadN X0.here hx rfl (hb hby d1_8) rfl ?_
    show Steps p.tables e below (s₁.setTop (mkF m 9 #[.val (.int p0), .val (.ref a1), .val (.int (3 : Int32)), .unset] [(.int p0), (.int (3 : Int32)), (.ref a1)])) t
    refine XS.i2b X0.here hx rfl (hb hby d1_9) rfl ?_
    exact k
  have cq2 := V_a
  obtain ⟨clq2, Arq2, qq2, Sq2, Nq2, Hq2, Gq2⟩ := cq2
  obtain ⟨T3, h3, X3, e3, W3, st3⟩ := stB X0 hx hZ e0 Arq2 (j := (3 : Int32)) (inb_of Sq2 ⟨by decide, by decide⟩) (g := (mkF m 10 #[.val (.int p0), .val (.ref a1), .val (.int (3 : Int32)), .unset] [(.int (p0.toInt8.toInt32)), (.int (3 : Int32)), (.ref a1)])) rfl rfl (hb hby d1_10)
  refine OwnGo.of st3 ?_
  have N3 := Fr.snoc X3 N0 g_a1
  have f4 : n0 ≤ h3.size := Nat.le_trans Z0 (Keep.of_wr W3).1
  have f5 : Keep h0 h3 [a1] := K0.wr W3 (Or.inl (List.mem_of_getElem? (i := 0) rfl))
  have f6 : Sta Z h3 "com/example/sevenfold/sevenfold/Natural" "FIRST_OF_LENGTH" "[J" (.ref wF) := S_FIRST_OF_LENGTH.wr W3
  have f7 : Arv Z h3 wF kf .long (10 : Int32) [(.long (0 : Int64)), (.long (0 : Int64)), (.long (128 : Int64)), (.long (16512 : Int64)), (.long (2113664 : Int64)), (.long (270549120 : Int64)), (.long (34630287488 : Int64)), (.long (4432676798592 : Int64)), (.long (567382630219904 : Int64)), (.long (72624976668147840 : Int64))] (.long (0 : Int64)) := V_F.other W3 hne
  have f8 : Arv Z h3 a1 ka .byte (8 : Int32) [(.int el0), (.int el1), (.int el2), (.int ((p0.toInt8.toInt32)).toInt8.toInt32), (.int el4), (.int el5), (.int el6), (.int el7)] (.int (0 : Int32)) := Arv.set Arq2 qq2 Sq2 Nq2 Hq2 Gq2 (fits_nar_byte _) W3 3 rfl (Nat.le_of_ble_eq_true rfl)
  show OwnGo p.tables e below _ (T3.setTop (mkF m 11 #[.val (.int p0), .val (.ref a1), .val (.int (3 : Int32)), .unset] []))
  refine OwnGo.of (A := T3.setTop (mkF m 11 #[.val (.int p0), .val (.ref a1), .val (.int (3 : Int32)), .unset] [])) (B := T3.setTop (mkF m 14 #[.val (.int p0), .val (.ref a1), .val (.int (3 : Int32)), .unset] [(.int ((3 : Int32) + (1 : Int32)))])) (fun t k => ?_) ?_
  · show Steps p.tables e below (T3.setTop (mkF m 11 #[.val (.int p0), .val (.ref a1), .val (.int (3 : Int32)), .unset] [])) t
    refine XS.iloadN X3.here hx rfl (hb hby d1_11) rfl ?_
    show Steps p.tables e below (T3.setTop (mkF m 12 #[.val (.int p0), .val (.ref a1), .val (.int (3 : Int32)), .unset] [(.int (3 : Int32))])) t
    refine XS.iconst X3.here hx rfl (hb hby d1_12) ?_
    show Steps p.tables e below (T3.setTop (mkF m 13 #[.val (.int p0), .val (.ref a1), .val (.int (3 : Int32)), .unset] [(.int (1 : Int32)), (.int (3 : Int32))])) t
    refine XS.iadd X3.here hx rfl (hb hby d1_13) rfl ?_
    exact k
  obtain ⟨fs, hr, hrun, hended, hW, hsame⟩ := X3.leave (v := some (.int ((3 : Int32) + (1 : Int32)))) (fun h => by rw [Bd.returns] at h; cases h) hlk
  refine ⟨_, _, ?_, hrun, hended, _, _, rfl, ?_, ⟨_, rfl⟩, hW, hsame.mono (by decide) (by decide)⟩
  · show Steps p.tables e below (T3.setTop (mkF m 14 #[.val (.int p0), .val (.ref a1), .val (.int (3 : Int32)), .unset] [(.int ((3 : Int32) + (1 : Int32)))])) _
    exact own_retI X3 hx Bd.returns (hb hby d1_14) hr
  · show Qrm1_3A Z p0 a1 el0 el1 el2 el3 el4 el5 el6 el7 ka wF kf h0 n0 _ (T3.setFrames fs).heap _
    rw [show (T3.setFrames fs).heap = h3 from e3]
    exact ⟨congrArg (fun z => some (Value.int z)) (by decide), N3, f5, f8⟩
theorem ef_rm1_3B (m : MethodId) (p0 : Int32) (a1 : Addr) : entryFrame m #[(.int p0), (.ref a1), (.int (3 : Int32))] 4 = mkF m 0 #[.val (.int p0), .val (.ref a1), .val (.int (3 : Int32)), .unset] [] := by first | (simp [entryFrame, mkF, argsToLocals, Value.category]; done) | rfl
def Qrm1_3B (Z : State) (p0 : Int32) (a1 : Addr) (el0 : Int32) (el1 : Int32) (el2 : Int32) (el3 : Int32) (el4 : Int32) (el5 : Int32) (el6 : Int32) (el7 : Int32) (ka : ClassId) (wF : Addr) (kf : ClassId) (h0 : Heap) (n0 : Nat) (v : Option Value) (h : Heap) (L : List Loc) : Prop := v = some (.int (5 : Int32)) ∧ Fr n0 L ∧ Keep h0 h [a1] ∧ Arv Z h a1 ka .byte (8 : Int32) [(.int el0), (.int el1), (.int el2), (.int ((((128 : Int32) ||| (((p0 - ((128 : Int64).toInt32)).toUInt32 >>> ((7 : Int32) &&& 31).toUInt32).toInt32)).toInt8.toInt32)).toInt8.toInt32), (.int ((((p0 - ((128 : Int64).toInt32)) &&& (127 : Int32)).toInt8.toInt32)).toInt8.toInt32), (.int el5), (.int el6), (.int el7)] (.int (0 : Int32))
set_option maxRecDepth 65536 in
set_option maxHeartbeats 40000000 in
theorem rm1_3B (l : Launch) (Z : State) (aw : Array Value) (hw : ∀ d ∈ tables_1, d.before aw Z = true) (ws : List Jvm.Cond) (p0 : Int32) (a1 : Addr) (el0 : Int32) (el1 : Int32) (el2 : Int32) (el3 : Int32) (el4 : Int32) (el5 : Int32) (el6 : Int32) (el7 : Int32) (ka : ClassId) (wF : Addr) (kf : ClassId) (h0 : Heap) (n0 : Nat) (Z0 : n0 ≤ h0.size) (S_FIRST_OF_LENGTH : Sta Z h0 "com/example/sevenfold/sevenfold/Natural" "FIRST_OF_LENGTH" "[J" (.ref wF)) (V_F : Arv Z h0 wF kf .long (10 : Int32) [(.long (0 : Int64)), (.long (0 : Int64)), (.long (128 : Int64)), (.long (16512 : Int64)), (.long (2113664 : Int64)), (.long (270549120 : Int64)), (.long (34630287488 : Int64)), (.long (4432676798592 : Int64)), (.long (567382630219904 : Int64)), (.long (72624976668147840 : Int64))] (.long (0 : Int64))) (V_a : Arv Z h0 a1 ka .byte (8 : Int32) [(.int el0), (.int el1), (.int el2), (.int el3), (.int el4), (.int el5), (.int el6), (.int el7)] (.int (0 : Int32))) (g_a1 : n0 ≤ a1) (hne : wF ≠ a1) (hA : (127 : Int32) < p0) (hB : lcmpW (p0.toInt64) (16512 : Int64) < (0 : Int32)) :
    MetFree l (⟨"com/example/sevenfold/sevenfold/Natural", "writeCodePoint", "(I[BI)I"⟩ : MethodName) (head1 (Jvm.Cond.code (⟨"com/example/sevenfold/sevenfold/Natural", "writeCodePoint", "(I[BI)I"⟩ : MethodName) prog_5_method_8_code 4 (some .int) :: ws) ({ frames := 0, cells := 0, slots := 0, locals := 0 } : Room)) (fun a U => a = #[(.int p0), (.ref a1), (.int (3 : Int32))] ∧ Z.Warmed39 U.vm ∧ U.heap = h0) (fun _ _ _ _ _ => True) (fun _ U o U' => ∃ v L, o = .returned v ∧ Qrm1_3B Z p0 a1 el0 el1 el2 el3 el4 el5 el6 el7 ka wF kf h0 n0 v U'.heap L ∧ FrameEnd U o U' L ({ frames := 0, cells := 0, slots := 0, locals := 0 } : Room).cells ({ frames := 0, cells := 0, slots := 0, locals := 0 } : Room).slots) := by
  refine MetFree.of_bodySF (plainFor_of_name pn_0) hisR ?_
  intro p e s m args below meth c s₁ Bd hml0 hP hK
  obtain ⟨rfl, hZ, hh⟩ := hP
  have hx := Bd.exec
  have hby := Bd.bytes
  have hml : c.maxLocals = 4 := hml0
  have hown : s.vm.findClass "com/example/sevenfold/sevenfold/Natural" = some m.cls := findClass_of_methodNamed Bd.named
  have hnm := (name_of_methodNamed Bd.named Bd.method).1
  have X0 : Stand p l e ({ frames := 0, cells := 0, slots := 0, locals := 0 } : Room) s m #[(.int p0), (.ref a1), (.int (3 : Int32))] below meth c s₁ [] 0 0 := Stand.of_body Bd
  have e0 : s₁.heap = h0 := by rw [← hh, Bd.state]; rfl
  have N0 := Fr.nil n0
  have hlk := Bd.notSynchronized
  show OwnGo p.tables e below _ (s₁.setTop (entryFrame m #[(.int p0), (.ref a1), (.int (3 : Int32))] 4))
  rw [ef_rm1_3B m p0 a1]
  have K0 : Keep h0 h0 [a1] := Keep.refl _ _
  show OwnGo p.tables e below _ (s₁.setTop (mkF m 0 #[.val (.int p0), .val (.ref a1), .val (.int (3 : Int32)), .unset] []))
  refine OwnGo.of (A := s₁.setTop (mkF m 0 #[.val (.int p0), .val (.ref a1), .val (.int (3 : Int32)), .unset] [])) (B := s₁.setTop (mkF m 3 #[.val (.int p0), .val (.ref a1), .val (.int (3 : Int32)), .unset] [(.int (127 : Int32)), (.int p0)])) (fun t k => ?_) ?_
  · show Steps p.tables e below (s₁.setTop (mkF m 0 #[.val (.int p0), .val (.ref a1), .val (.int (3 : Int32)), .unset] [])) t
    refine XS.iloadN X0.here hx rfl (hb hby d1_0) rfl ?_
    show Steps p.tables e below (s₁.setTop (mkF m 1 #[.val (.int p0), .val (.ref a1), .val (.int (3 : Int32)), .unset] [(.int p0)])) t
    refine XS.bipush X0.here hx rfl (hb hby d1_1) ?_
    exact k
  have hc1 : (127 : Int32) < p0 := hA
  refine OwnGo.of (A := s₁.setTop (mkF m 3 #[.val (.int p0), .val (.ref a1), .val (.int (3 : Int32)), .unset] [(.int (127 : Int32)), (.int p0)])) (B := s₁.setTop (mkF m 17 #[.val (.int p0), .val (.ref a1), .val (.int (3 : Int32)), .unset] [(.long (p0.toInt64))])) (fun t k => ?_) ?_
  · show Steps p.tables e below (s₁.setTop (mkF m 3 #[.val (.int p0), .val (.ref a1), .val (.int (3 : Int32)), .unset] [(.int (127 : Int32)), (.int p0)])) t
    refine XS.icmpYes X0.here hx rfl (pc0 := 3) (pc' := 15) rfl (hb hby d1_3) rfl (tlt hc1).2.2.1 (by decide) (by decide) ?_
    show Steps p.tables e below (s₁.setTop (mkF m 15 #[.val (.int p0), .val (.ref a1), .val (.int (3 : Int32)), .unset] [])) t
    refine XS.iloadN X0.here hx rfl (hb hby d1_15) rfl ?_
    show Steps p.tables e below (s₁.setTop (mkF m 16 #[.val (.int p0), .val (.ref a1), .val (.int (3 : Int32)), .unset] [(.int p0)])) t
    refine XS.i2l X0.here hx rfl (hb hby d1_16) rfl ?_
    exact k
  obtain ⟨T2, X2, e2, st2⟩ := getS2 X0 hx hZ hown (host := "") (Or.inl (hw _ (List.mem_of_getElem? (i := 11) rfl))) Via.refl e0 S_FIRST_OF_LENGTH (g := (mkF m 17 #[.val (.int p0), .val (.ref a1), .val (.int (3 : Int32)), .unset] [(.long (p0.toInt64))])) rfl (hb hby d1_17)
  refine OwnGo.of st2 ?_
  show OwnGo p.tables e below _ (T2.setTop (mkF m 20 #[.val (.int p0), .val (.ref a1), .val (.int (3 : Int32)), .unset] [(.ref wF), (.long (p0.toInt64))]))
  refine OwnGo.of (A := T2.setTop (mkF m 20 #[.val (.int p0), .val (.ref a1), .val (.int (3 : Int32)), .unset] [(.ref wF), (.long (p0.toInt64))])) (B := T2.setTop (mkF m 21 #[.val (.int p0), .val (.ref a1), .val (.int (3 : Int32)), .unset] [(.int (3 : Int32)), (.ref wF), (.long (p0.toInt64))])) (fun t k => ?_) ?_
  · show Steps p.tables e below (T2.setTop (mkF m 20 #[.val (.int p0), .val (.ref a1), .val (.int (3 : Int32)), .unset] [(.ref wF), (.long (p0.toInt64))])) t
    refine XS.iconst X2.here hx rfl (hb hby d1_20) ?_
    exact k
  have cq3 := V_F
  obtain ⟨clq3, Arq3, qq3, Sq3, Nq3, Hq3, Gq3⟩ := cq3
  have hinq3 := inb_of (j := (3 : Int32)) Sq3 ⟨by decide, by decide⟩
  refine OwnGo.of (X2.laload hx (j := (3 : Int32)) (v := (.long (16512 : Int64))) (by rw [e2]; exact Arq3.1) (State.isArrayOf_alike hZ.alike Arq3.2.1) Arq3.2.2 hinq3 (Hq3.at hinq3 rfl) (g := (mkF m 21 #[.val (.int p0), .val (.ref a1), .val (.int (3 : Int32)), .unset] [(.int (3 : Int32)), (.ref wF), (.long (p0.toInt64))])) rfl rfl (hb hby d1_21)) ?_
  show OwnGo p.tables e below _ (T2.setTop (mkF m 22 #[.val (.int p0), .val (.ref a1), .val (.int (3 : Int32)), .unset] [(.long (16512 : Int64)), (.long (p0.toInt64))]))
  refine OwnGo.of (A := T2.setTop (mkF m 22 #[.val (.int p0), .val (.ref a1), .val (.int (3 : Int32)), .unset] [(.long (16512 : Int64)), (.long (p0.toInt64))])) (B := T2.setTop (mkF m 23 #[.val (.int p0), .val (.ref a1), .val (.int (3 : Int32)), .unset] [(.int (lcmpW (p0.toInt64) (16512 : Int64)))])) (fun t k => ?_) ?_
  · show Steps p.tables e below (T2.setTop (mkF m 22 #[.val (.int p0), .val (.ref a1), .val (.int (3 : Int32)), .unset] [(.long (16512 : Int64)), (.long (p0.toInt64))])) t
    refine XS.lcmp X2.here hx rfl (hb hby d1_22) rfl ?_
    exact k
  have hc4 : (lcmpW (p0.toInt64) (16512 : Int64)) < (0 : Int32) := hB
  refine OwnGo.of (A := T2.setTop (mkF m 23 #[.val (.int p0), .val (.ref a1), .val (.int (3 : Int32)), .unset] [(.int (lcmpW (p0.toInt64) (16512 : Int64)))])) (B := T2.setTop (mkF m 27 #[.val (.int p0), .val (.ref a1), .val (.int (3 : Int32)), .unset] [(.int p0)])) (fun t k => ?_) ?_
  · show Steps p.tables e below (T2.setTop (mkF m 23 #[.val (.int p0), .val (.ref a1), .val (.int (3 : Int32)), .unset] [(.int (lcmpW (p0.toInt64) (16512 : Int64)))])) t
    refine XS.ifNo X2.here hx rfl (hb hby d1_23) rfl ((if0 _ _).trans (tlt hc4).2.1) ?_
    show Steps p.tables e below (T2.setTop (mkF m 26 #[.val (.int p0), .val (.ref a1), .val (.int (3 : Int32)), .unset] [])) t
    refine XS.iloadN X2.here hx rfl (hb hby d1_26) rfl ?_
    exact k
  obtain ⟨T5, X5, e5, st5⟩ := getS2 X2 hx hZ hown (host := "") (Or.inl (hw _ (List.mem_of_getElem? (i := 11) rfl))) Via.refl e2 S_FIRST_OF_LENGTH (g := (mkF m 27 #[.val (.int p0), .val (.ref a1), .val (.int (3 : Int32)), .unset] [(.int p0)])) rfl (hb hby d1_27)
  refine OwnGo.of st5 ?_
  show OwnGo p.tables e below _ (T5.setTop (mkF m 30 #[.val (.int p0), .val (.ref a1), .val (.int (3 : Int32)), .unset] [(.ref wF), (.int p0)]))
  refine OwnGo.of (A := T5.setTop (mkF m 30 #[.val (.int p0), .val (.ref a1), .val (.int (3 : Int32)), .unset] [(.ref wF), (.int p0)])) (B := T5.setTop (mkF m 31 #[.val (.int p0), .val (.ref a1), .val (.int (3 : Int32)), .unset] [(.int (2 : Int32)), (.ref wF), (.int p0)])) (fun t k => ?_) ?_
  · show Steps p.tables e below (T5.setTop (mkF m 30 #[.val (.int p0), .val (.ref a1), .val (.int (3 : Int32)), .unset] [(.ref wF), (.int p0)])) t
    refine XS.iconst X5.here hx rfl (hb hby d1_30) ?_
    exact k
  have cq6 := V_F
  obtain ⟨clq6, Arq6, qq6, Sq6, Nq6, Hq6, Gq6⟩ := cq6
  have hinq6 := inb_of (j := (2 : Int32)) Sq6 ⟨by decide, by decide⟩
  refine OwnGo.of (X5.laload hx (j := (2 : Int32)) (v := (.long (128 : Int64))) (by rw [e5]; exact Arq6.1) (State.isArrayOf_alike hZ.alike Arq6.2.1) Arq6.2.2 hinq6 (Hq6.at hinq6 rfl) (g := (mkF m 31 #[.val (.int p0), .val (.ref a1), .val (.int (3 : Int32)), .unset] [(.int (2 : Int32)), (.ref wF), (.int p0)])) rfl rfl (hb hby d1_31)) ?_
  show OwnGo p.tables e below _ (T5.setTop (mkF m 32 #[.val (.int p0), .val (.ref a1), .val (.int (3 : Int32)), .unset] [(.long (128 : Int64)), (.int p0)]))
  refine OwnGo.of (A := T5.setTop (mkF m 32 #[.val (.int p0), .val (.ref a1), .val (.int (3 : Int32)), .unset] [(.long (128 : Int64)), (.int p0)])) (B := T5.setTop (mkF m 46 #[.val (.int p0), .val (.ref a1), .val (.int (3 : Int32)), .val (.int (p0 - ((128 : Int64).toInt32)))] [(.int (((128 : Int32) ||| (((p0 - ((128 : Int64).toInt32)).toUInt32 >>> ((7 : Int32) &&& 31).toUInt32).toInt32)).toInt8.toInt32)), (.int (3 : Int32)), (.ref a1)])) (fun t k => ?_) ?_
  · show Steps p.tables e below (T5.setTop (mkF m 32 #[.val (.int p0), .val (.ref a1), .val (.int (3 : Int32)), .unset] [(.long (128 : Int64)), (.int p0)])) t
    refine XS.l2i X5.here hx rfl (hb hby d1_32) rfl ?_
    show Steps p.tables e below (T5.setTop (mkF m 33 #[.val (.int p0), .val (.ref a1), .val (.int (3 : Int32)), .unset] [(.int ((128 : Int64).toInt32)), (.int p0)])) t
    refine XS.isub X5.here hx rfl (hb hby d1_33) rfl ?_
    show Steps p.tables e below (T5.setTop (mkF m 34 #[.val (.int p0), .val (.ref a1), .val (.int (3 : Int32)), .unset] [(.int (p0 - ((128 : Int64).toInt32)))])) t
    refine XS.istoreN X5.here hx rfl (hb hby d1_34) rfl (l' := #[.val (.int p0), .val (.ref a1), .val (.int (3 : Int32)), .val (.int (p0 - ((128 : Int64).toInt32)))]) rfl ?_
    show Steps p.tables e below (T5.setTop (mkF m 35 #[.val (.int p0), .val (.ref a1), .val (.int (3 : Int32)), .val (.int (p0 - ((128 : Int64).toInt32)))] [])) t
    refine XS.aloadN X5.here hx rfl (hb hby d1_35) rfl rfl ?_
    show Steps p.tables e below (T5.setTop (mkF m 36 #[.val (.int p0), .val (.ref a1), .val (.int (3 : Int32)), .val (.int (p0 - ((128 : Int64).toInt32)))] [(.ref a1)])) t
    refine XS.iloadN X5.here hx rfl (hb hby d1_36) rfl ?_
    show Steps p.tables e below (T5.setTop (mkF m 37 #[.val (.int p0), .val (.ref a1), .val (.int (3 : Int32)), .val (.int (p0 - ((128 : Int64).toInt32)))] [(.int (3 : Int32)), (.ref a1)])) t
    refine XS.sipush X5.here hx rfl (hb hby d1_37) ?_
    show Steps p.tables e below (T5.setTop (mkF m 40 #[.val (.int p0), .val (.ref a1), .val (.int (3 : Int32)), .val (.int (p0 - ((128 : Int64).toInt32)))] [(.int (128 : Int32)), (.int (3 : Int32)), (.ref a1)])) t
    refine XS.iloadN X5.here hx rfl (hb hby d1_40) rfl ?_
    show Steps p.tables e below (T5.setTop (mkF m 41 #[.val (.int p0), .val (.ref a1), .val (.int (3 : Int32)), .val (.int (p0 - ((128 : Int64).toInt32)))] [(.int (p0 - ((128 : Int64).toInt32))), (.int (128 : Int32)), (.int (3 : Int32)), (.ref a1)])) t
    refine XS.bipush X5.here hx rfl (hb hby d1_41) ?_
    show Steps p.tables e below (T5.setTop (mkF m 43 #[.val (.int p0), .val (.ref a1), .val (.int (3 : Int32)), .val (.int (p0 - ((128 : Int64).toInt32)))] [(.int (7 : Int32)), (.int (p0 - ((128 : Int64).toInt32))), (.int (128 : Int32)), (.int (3 : Int32)), (.ref a1)])) t
    refine XS.iushr X5.here hx rfl (hb hby d1_43) rfl ?_
    show Steps p.tables e below (T5.setTop (mkF m 44 #[.val (.int p0), .val (.ref a1), .val (.int (3 : Int32)), .val (.int (p0 - ((128 : Int64).toInt32)))] [(.int (((p0 - ((128 : Int64).toInt32)).toUInt32 >>> ((7 : Int32) &&& 31).toUInt32).toInt32)), (.int (128 : Int32)), (.int (3 : Int32)), (.ref a1)])) t
    refine XS.ior X5.here hx rfl (hb hby d1_44) rfl ?_
    show Steps p.tables e below (T5.setTop (mkF m 45 #[.val (.int p0), .val (.ref a1), .val (.int (3 : Int32)), .val (.int (p0 - ((128 : Int64).toInt32)))] [(.int ((128 : Int32) ||| (((p0 - ((128 : Int64).toInt32)).toUInt32 >>> ((7 : Int32) &&& 31).toUInt32).toInt32))), (.int (3 : Int32)), (.ref a1)])) t
    refine XS.i2b X5.here hx rfl (hb hby d1_45) rfl ?_
    exact k
  have cq7 := V_a
  obtain ⟨clq7, Arq7, qq7, Sq7, Nq7, Hq7, Gq7⟩ := cq7
  obtain ⟨T8, h8, X8, e8, W8, st8⟩ := stB X5 hx hZ e5 Arq7 (j := (3 : Int32)) (inb_of Sq7 ⟨by decide, by decide⟩) (g := (mkF m 46 #[.val (.int p0), .val (.ref a1), .val (.int (3 : Int32)), .val (.int (p0 - ((128 : Int64).toInt32)))] [(.int (((128 : Int32) ||| (((p0 - ((128 : Int64).toInt32)).toUInt32 >>> ((7 : Int32) &&& 31).toUInt32).toInt32)).toInt8.toInt32)), (.int (3 : Int32)), (.ref a1)])) rfl rfl (hb hby d1_46)
  refine OwnGo.of st8 ?_
  have N8 := Fr.snoc X8 N0 g_a1
  have f9 : n0 ≤ h8.size := Nat.le_trans Z0 (Keep.of_wr W8).1
  have f10 : Keep h0 h8 [a1] := K0.wr W8 (Or.inl (List.mem_of_getElem? (i := 0) rfl))
  have f11 : Sta Z h8 "com/example/sevenfold/sevenfold/Natural" "FIRST_OF_LENGTH" "[J" (.ref wF) := S_FIRST_OF_LENGTH.wr W8
  have f12 : Arv Z h8 wF kf .long (10 : Int32) [(.long (0 : Int64)), (.long (0 : Int64)), (.long (128 : Int64)), (.long (16512 : Int64)), (.long (2113664 : Int64)), (.long (270549120 : Int64)), (.long (34630287488 : Int64)), (.long (4432676798592 : Int64)), (.long (567382630219904 : Int64)), (.long (72624976668147840 : Int64))] (.long (0 : Int64)) := V_F.other W8 hne
  have f13 : Arv Z h8 a1 ka .byte (8 : Int32) [(.int el0), (.int el1), (.int el2), (.int ((((128 : Int32) ||| (((p0 - ((128 : Int64).toInt32)).toUInt32 >>> ((7 : Int32) &&& 31).toUInt32).toInt32)).toInt8.toInt32)).toInt8.toInt32), (.int el4), (.int el5), (.int el6), (.int el7)] (.int (0 : Int32)) := Arv.set Arq7 qq7 Sq7 Nq7 Hq7 Gq7 (fits_nar_byte _) W8 3 rfl (Nat.le_of_ble_eq_true rfl)
  show OwnGo p.tables e below _ (T8.setTop (mkF m 47 #[.val (.int p0), .val (.ref a1), .val (.int (3 : Int32)), .val (.int (p0 - ((128 : Int64).toInt32)))] []))
  refine OwnGo.of (A := T8.setTop (mkF m 47 #[.val (.int p0), .val (.ref a1), .val (.int (3 : Int32)), .val (.int (p0 - ((128 : Int64).toInt32)))] [])) (B := T8.setTop (mkF m 56 #[.val (.int p0), .val (.ref a1), .val (.int (3 : Int32)), .val (.int (p0 - ((128 : Int64).toInt32)))] [(.int (((p0 - ((128 : Int64).toInt32)) &&& (127 : Int32)).toInt8.toInt32)), (.int ((3 : Int32) + (1 : Int32))), (.ref a1)])) (fun t k => ?_) ?_
  · show Steps p.tables e below (T8.setTop (mkF m 47 #[.val (.int p0), .val (.ref a1), .val (.int (3 : Int32)), .val (.int (p0 - ((128 : Int64).toInt32)))] [])) t
    refine XS.aloadN X8.here hx rfl (hb hby d1_47) rfl rfl ?_
    show Steps p.tables e below (T8.setTop (mkF m 48 #[.val (.int p0), .val (.ref a1), .val (.int (3 : Int32)), .val (.int (p0 - ((128 : Int64).toInt32)))] [(.ref a1)])) t
    refine XS.iloadN X8.here hx rfl (hb hby d1_48) rfl ?_
    show Steps p.tables e below (T8.setTop (mkF m 49 #[.val (.int p0), .val (.ref a1), .val (.int (3 : Int32)), .val (.int (p0 - ((128 : Int64).toInt32)))] [(.int (3 : Int32)), (.ref a1)])) t
    refine XS.iconst X8.here hx rfl (hb hby d1_49) ?_
    show Steps p.tables e below (T8.setTop (mkF m 50 #[.val (.int p0), .val (.ref a1), .val (.int (3 : Int32)), .val (.int (p0 - ((128 : Int64).toInt32)))] [(.int (1 : Int32)), (.int (3 : Int32)), (.ref a1)])) t
    refine XS.iadd X8.here hx rfl (hb hby d1_50) rfl ?_
    show Steps p.tables e below (T8.setTop (mkF m 51 #[.val (.int p0), .val (.ref a1), .val (.int (3 : Int32)), .val (.int (p0 - ((128 : Int64).toInt32)))] [(.int ((3 : Int32) + (1 : Int32))), (.ref a1)])) t
    refine XS.iloadN X8.here hx rfl (hb hby d1_51) rfl ?_
    show Steps p.tables e below (T8.setTop (mkF m 52 #[.val (.int p0), .val (.ref a1), .val (.int (3 : Int32)), .val (.int (p0 - ((128 : Int64).toInt32)))] [(.int (p0 - ((128 : Int64).toInt32))), (.int ((3 : Int32) + (1 : Int32))), (.ref a1)])) t
    refine XS.bipush X8.here hx rfl (hb hby d1_52) ?_
    show Steps p.tables e below (T8.setTop (mkF m 54 #[.val (.int p0), .val (.ref a1), .val (.int (3 : Int32)), .val (.int (p0 - ((128 : Int64).toInt32)))] [(.int (127 : Int32)), (.int (p0 - ((128 : Int64).toInt32))), (.int ((3 : Int32) + (1 : Int32))), (.ref a1)])) t
    refine XS.iand X8.here hx rfl (hb hby d1_54) rfl ?_
    show Steps p.tables e below (T8.setTop (mkF m 55 #[.val (.int p0), .val (.ref a1), .val (.int (3 : Int32)), .val (.int (p0 - ((128 : Int64).toInt32)))] [(.int ((p0 - ((128 : Int64).toInt32)) &&& (127 : Int32))), (.int ((3 : Int32) + (1 : Int32))), (.ref a1)])) t
    refine XS.i2b X8.here hx rfl (hb hby d1_55) rfl ?_
    exact k
  rw [show ((3 : Int32) + (1 : Int32)) = (4 : Int32) from by decide]
  show OwnGo p.tables e below _ (T8.setTop (mkF m 56 #[.val (.int p0), .val (.ref a1), .val (.int (3 : Int32)), .val (.int (p0 - ((128 : Int64).toInt32)))] [(.int (((p0 - ((128 : Int64).toInt32)) &&& (127 : Int32)).toInt8.toInt32)), (.int (4 : Int32)), (.ref a1)]))
  have cq14 := f13
  obtain ⟨clq14, Arq14, qq14, Sq14, Nq14, Hq14, Gq14⟩ := cq14
  obtain ⟨T15, h15, X15, e15, W15, st15⟩ := stB X8 hx hZ e8 Arq14 (j := (4 : Int32)) (inb_of Sq14 ⟨by decide, by decide⟩) (g := (mkF m 56 #[.val (.int p0), .val (.ref a1), .val (.int (3 : Int32)), .val (.int (p0 - ((128 : Int64).toInt32)))] [(.int (((p0 - ((128 : Int64).toInt32)) &&& (127 : Int32)).toInt8.toInt32)), (.int (4 : Int32)), (.ref a1)])) rfl rfl (hb hby d1_56)
  refine OwnGo.of st15 ?_
  have N15 := Fr.snoc X15 N8 g_a1
  have f16 : n0 ≤ h15.size := Nat.le_trans f9 (Keep.of_wr W15).1
  have f17 : Keep h0 h15 [a1] := f10.wr W15 (Or.inl (List.mem_of_getElem? (i := 0) rfl))
  have f18 : Sta Z h15 "com/example/sevenfold/sevenfold/Natural" "FIRST_OF_LENGTH" "[J" (.ref wF) := f11.wr W15
  have f19 : Arv Z h15 wF kf .long (10 : Int32) [(.long (0 : Int64)), (.long (0 : Int64)), (.long (128 : Int64)), (.long (16512 : Int64)), (.long (2113664 : Int64)), (.long (270549120 : Int64)), (.long (34630287488 : Int64)), (.long (4432676798592 : Int64)), (.long (567382630219904 : Int64)), (.long (72624976668147840 : Int64))] (.long (0 : Int64)) := f12.other W15 hne
  have f20 : Arv Z h15 a1 ka .byte (8 : Int32) [(.int el0), (.int el1), (.int el2), (.int ((((128 : Int32) ||| (((p0 - ((128 : Int64).toInt32)).toUInt32 >>> ((7 : Int32) &&& 31).toUInt32).toInt32)).toInt8.toInt32)).toInt8.toInt32), (.int ((((p0 - ((128 : Int64).toInt32)) &&& (127 : Int32)).toInt8.toInt32)).toInt8.toInt32), (.int el5), (.int el6), (.int el7)] (.int (0 : Int32)) := Arv.set Arq14 qq14 Sq14 Nq14 Hq14 Gq14 (fits_nar_byte _) W15 4 rfl (Nat.le_of_ble_eq_true rfl)
  show OwnGo p.tables e below _ (T15.setTop (mkF m 57 #[.val (.int p0), .val (.ref a1), .val (.int (3 : Int32)), .val (.int (p0 - ((128 : Int64).toInt32)))] []))
  refine OwnGo.of (A := T15.setTop (mkF m 57 #[.val (.int p0), .val (.ref a1), .val (.int (3 : Int32)), .val (.int (p0 - ((128 : Int64).toInt32)))] [])) (B := T15.setTop (mkF m 60 #[.val (.int p0), .val (.ref a1), .val (.int (3 : Int32)), .val (.int (p0 - ((128 : Int64).toInt32)))] [(.int ((3 : Int32) + (2 : Int32)))])) (fun t k => ?_) ?_
  · show Steps p.tables e below (T15.setTop (mkF m 57 #[.val (.int p0), .val (.ref a1), .val (.int (3 : Int32)), .val (.int (p0 - ((128 : Int64).toInt32)))] [])) t
    refine XS.iloadN X15.here hx rfl (hb hby d1_57) rfl ?_
    show Steps p.tables e below (T15.setTop (mkF m 58 #[.val (.int p0), .val (.ref a1), .val (.int (3 : Int32)), .val (.int (p0 - ((128 : Int64).toInt32)))] [(.int (3 : Int32))])) t
    refine XS.iconst X15.here hx rfl (hb hby d1_58) ?_
    show Steps p.tables e below (T15.setTop (mkF m 59 #[.val (.int p0), .val (.ref a1), .val (.int (3 : Int32)), .val (.int (p0 - ((128 : Int64).toInt32)))] [(.int (2 : Int32)), (.int (3 : Int32))])) t
    refine XS.iadd X15.here hx rfl (hb hby d1_59) rfl ?_
    exact k
  obtain ⟨fs, hr, hrun, hended, hW, hsame⟩ := X15.leave (v := some (.int ((3 : Int32) + (2 : Int32)))) (fun h => by rw [Bd.returns] at h; cases h) hlk
  refine ⟨_, _, ?_, hrun, hended, _, _, rfl, ?_, ⟨_, rfl⟩, hW, hsame.mono (by decide) (by decide)⟩
  · show Steps p.tables e below (T15.setTop (mkF m 60 #[.val (.int p0), .val (.ref a1), .val (.int (3 : Int32)), .val (.int (p0 - ((128 : Int64).toInt32)))] [(.int ((3 : Int32) + (2 : Int32)))])) _
    exact own_retI X15 hx Bd.returns (hb hby d1_60) hr
  · show Qrm1_3B Z p0 a1 el0 el1 el2 el3 el4 el5 el6 el7 ka wF kf h0 n0 _ (T15.setFrames fs).heap _
    rw [show (T15.setFrames fs).heap = h15 from e15]
    exact ⟨congrArg (fun z => some (Value.int z)) (by decide), N15, f17, f20⟩
theorem ef_rm1_3C (m : MethodId) (p0 : Int32) (a1 : Addr) : entryFrame m #[(.int p0), (.ref a1), (.int (3 : Int32))] 4 = mkF m 0 #[.val (.int p0), .val (.ref a1), .val (.int (3 : Int32)), .unset] [] := by first | (simp [entryFrame, mkF, argsToLocals, Value.category]; done) | rfl
def Qrm1_3C (Z : State) (p0 : Int32) (a1 : Addr) (el0 : Int32) (el1 : Int32) (el2 : Int32) (el3 : Int32) (el4 : Int32) (el5 : Int32) (el6 : Int32) (el7 : Int32) (ka : ClassId) (wF : Addr) (kf : ClassId) (h0 : Heap) (n0 : Nat) (v : Option Value) (h : Heap) (L : List Loc) : Prop := v = some (.int (6 : Int32)) ∧ Fr n0 L ∧ Keep h0 h [a1] ∧ Arv Z h a1 ka .byte (8 : Int32) [(.int el0), (.int el1), (.int el2), (.int ((((128 : Int32) ||| (((p0 - ((16512 : Int64).toInt32)).toUInt32 >>> ((14 : Int32) &&& 31).toUInt32).toInt32)).toInt8.toInt32)).toInt8.toInt32), (.int ((((128 : Int32) ||| ((((p0 - ((16512 : Int64).toInt32)).toUInt32 >>> ((7 : Int32) &&& 31).toUInt32).toInt32) &&& (127 : Int32))).toInt8.toInt32)).toInt8.toInt32), (.int ((((p0 - ((16512 : Int64).toInt32)) &&& (127 : Int32)).toInt8.toInt32)).toInt8.toInt32), (.int el6), (.int el7)] (.int (0 : Int32))
set_option maxRecDepth 65536 in
set_option maxHeartbeats 40000000 in
theorem rm1_3C (l : Launch) (Z : State) (aw : Array Value) (hw : ∀ d ∈ tables_1, d.before aw Z = true) (ws : List Jvm.Cond) (p0 : Int32) (a1 : Addr) (el0 : Int32) (el1 : Int32) (el2 : Int32) (el3 : Int32) (el4 : Int32) (el5 : Int32) (el6 : Int32) (el7 : Int32) (ka : ClassId) (wF : Addr) (kf : ClassId) (h0 : Heap) (n0 : Nat) (Z0 : n0 ≤ h0.size) (S_FIRST_OF_LENGTH : Sta Z h0 "com/example/sevenfold/sevenfold/Natural" "FIRST_OF_LENGTH" "[J" (.ref wF)) (V_F : Arv Z h0 wF kf .long (10 : Int32) [(.long (0 : Int64)), (.long (0 : Int64)), (.long (128 : Int64)), (.long (16512 : Int64)), (.long (2113664 : Int64)), (.long (270549120 : Int64)), (.long (34630287488 : Int64)), (.long (4432676798592 : Int64)), (.long (567382630219904 : Int64)), (.long (72624976668147840 : Int64))] (.long (0 : Int64))) (V_a : Arv Z h0 a1 ka .byte (8 : Int32) [(.int el0), (.int el1), (.int el2), (.int el3), (.int el4), (.int el5), (.int el6), (.int el7)] (.int (0 : Int32))) (g_a1 : n0 ≤ a1) (hne : wF ≠ a1) (hA : (127 : Int32) < p0) (hB : ¬ (lcmpW (p0.toInt64) (16512 : Int64) < (0 : Int32))) :
    MetFree l (⟨"com/example/sevenfold/sevenfold/Natural", "writeCodePoint", "(I[BI)I"⟩ : MethodName) (head1 (Jvm.Cond.code (⟨"com/example/sevenfold/sevenfold/Natural", "writeCodePoint", "(I[BI)I"⟩ : MethodName) prog_5_method_8_code 4 (some .int) :: ws) ({ frames := 0, cells := 0, slots := 0, locals := 0 } : Room)) (fun a U => a = #[(.int p0), (.ref a1), (.int (3 : Int32))] ∧ Z.Warmed39 U.vm ∧ U.heap = h0) (fun _ _ _ _ _ => True) (fun _ U o U' => ∃ v L, o = .returned v ∧ Qrm1_3C Z p0 a1 el0 el1 el2 el3 el4 el5 el6 el7 ka wF kf h0 n0 v U'.heap L ∧ FrameEnd U o U' L ({ frames := 0, cells := 0, slots := 0, locals := 0 } : Room).cells ({ frames := 0, cells := 0, slots := 0, locals := 0 } : Room).slots) := by
  refine MetFree.of_bodySF (plainFor_of_name pn_0) hisR ?_
  intro p e s m args below meth c s₁ Bd hml0 hP hK
  obtain ⟨rfl, hZ, hh⟩ := hP
  have hx := Bd.exec
  have hby := Bd.bytes
  have hml : c.maxLocals = 4 := hml0
  have hown : s.vm.findClass "com/example/sevenfold/sevenfold/Natural" = some m.cls := findClass_of_methodNamed Bd.named
  have hnm := (name_of_methodNamed Bd.named Bd.method).1
  have X0 : Stand p l e ({ frames := 0, cells := 0, slots := 0, locals := 0 } : Room) s m #[(.int p0), (.ref a1), (.int (3 : Int32))] below meth c s₁ [] 0 0 := Stand.of_body Bd
  have e0 : s₁.heap = h0 := by rw [← hh, Bd.state]; rfl
  have N0 := Fr.nil n0
  have hlk := Bd.notSynchronized
  show OwnGo p.tables e below _ (s₁.setTop (entryFrame m #[(.int p0), (.ref a1), (.int (3 : Int32))] 4))
  rw [ef_rm1_3C m p0 a1]
  have K0 : Keep h0 h0 [a1] := Keep.refl _ _
  show OwnGo p.tables e below _ (s₁.setTop (mkF m 0 #[.val (.int p0), .val (.ref a1), .val (.int (3 : Int32)), .unset] []))
  refine OwnGo.of (A := s₁.setTop (mkF m 0 #[.val (.int p0), .val (.ref a1), .val (.int (3 : Int32)), .unset] [])) (B := s₁.setTop (mkF m 3 #[.val (.int p0), .val (.ref a1), .val (.int (3 : Int32)), .unset] [(.int (127 : Int32)), (.int p0)])) (fun t k => ?_) ?_
  · show Steps p.tables e below (s₁.setTop (mkF m 0 #[.val (.int p0), .val (.ref a1), .val (.int (3 : Int32)), .unset] [])) t
    refine XS.iloadN X0.here hx rfl (hb hby d1_0) rfl ?_
    show Steps p.tables e below (s₁.setTop (mkF m 1 #[.val (.int p0), .val (.ref a1), .val (.int (3 : Int32)), .unset] [(.int p0)])) t
    refine XS.bipush X0.here hx rfl (hb hby d1_1) ?_
    exact k
  have hc1 : (127 : Int32) < p0 := hA
  refine OwnGo.of (A := s₁.setTop (mkF m 3 #[.val (.int p0), .val (.ref a1), .val (.int (3 : Int32)), .unset] [(.int (127 : Int32)), (.int p0)])) (B := s₁.setTop (mkF m 17 #[.val (.int p0), .val (.ref a1), .val (.int (3 : Int32)), .unset] [(.long (p0.toInt64))])) (fun t k => ?_) ?_
  · show Steps p.tables e below (s₁.setTop (mkF m 3 #[.val (.int p0), .val (.ref a1), .val (.int (3 : Int32)), .unset] [(.int (127 : Int32)), (.int p0)])) t
    refine XS.icmpYes X0.here hx rfl (pc0 := 3) (pc' := 15) rfl (hb hby d1_3) rfl (tlt hc1).2.2.1 (by decide) (by decide) ?_
    show Steps p.tables e below (s₁.setTop (mkF m 15 #[.val (.int p0), .val (.ref a1), .val (.int (3 : Int32)), .unset] [])) t
    refine XS.iloadN X0.here hx rfl (hb hby d1_15) rfl ?_
    show Steps p.tables e below (s₁.setTop (mkF m 16 #[.val (.int p0), .val (.ref a1), .val (.int (3 : Int32)), .unset] [(.int p0)])) t
    refine XS.i2l X0.here hx rfl (hb hby d1_16) rfl ?_
    exact k
  obtain ⟨T2, X2, e2, st2⟩ := getS2 X0 hx hZ hown (host := "") (Or.inl (hw _ (List.mem_of_getElem? (i := 11) rfl))) Via.refl e0 S_FIRST_OF_LENGTH (g := (mkF m 17 #[.val (.int p0), .val (.ref a1), .val (.int (3 : Int32)), .unset] [(.long (p0.toInt64))])) rfl (hb hby d1_17)
  refine OwnGo.of st2 ?_
  show OwnGo p.tables e below _ (T2.setTop (mkF m 20 #[.val (.int p0), .val (.ref a1), .val (.int (3 : Int32)), .unset] [(.ref wF), (.long (p0.toInt64))]))
  refine OwnGo.of (A := T2.setTop (mkF m 20 #[.val (.int p0), .val (.ref a1), .val (.int (3 : Int32)), .unset] [(.ref wF), (.long (p0.toInt64))])) (B := T2.setTop (mkF m 21 #[.val (.int p0), .val (.ref a1), .val (.int (3 : Int32)), .unset] [(.int (3 : Int32)), (.ref wF), (.long (p0.toInt64))])) (fun t k => ?_) ?_
  · show Steps p.tables e below (T2.setTop (mkF m 20 #[.val (.int p0), .val (.ref a1), .val (.int (3 : Int32)), .unset] [(.ref wF), (.long (p0.toInt64))])) t
    refine XS.iconst X2.here hx rfl (hb hby d1_20) ?_
    exact k
  have cq3 := V_F
  obtain ⟨clq3, Arq3, qq3, Sq3, Nq3, Hq3, Gq3⟩ := cq3
  have hinq3 := inb_of (j := (3 : Int32)) Sq3 ⟨by decide, by decide⟩
  refine OwnGo.of (X2.laload hx (j := (3 : Int32)) (v := (.long (16512 : Int64))) (by rw [e2]; exact Arq3.1) (State.isArrayOf_alike hZ.alike Arq3.2.1) Arq3.2.2 hinq3 (Hq3.at hinq3 rfl) (g := (mkF m 21 #[.val (.int p0), .val (.ref a1), .val (.int (3 : Int32)), .unset] [(.int (3 : Int32)), (.ref wF), (.long (p0.toInt64))])) rfl rfl (hb hby d1_21)) ?_
  show OwnGo p.tables e below _ (T2.setTop (mkF m 22 #[.val (.int p0), .val (.ref a1), .val (.int (3 : Int32)), .unset] [(.long (16512 : Int64)), (.long (p0.toInt64))]))
  refine OwnGo.of (A := T2.setTop (mkF m 22 #[.val (.int p0), .val (.ref a1), .val (.int (3 : Int32)), .unset] [(.long (16512 : Int64)), (.long (p0.toInt64))])) (B := T2.setTop (mkF m 23 #[.val (.int p0), .val (.ref a1), .val (.int (3 : Int32)), .unset] [(.int (lcmpW (p0.toInt64) (16512 : Int64)))])) (fun t k => ?_) ?_
  · show Steps p.tables e below (T2.setTop (mkF m 22 #[.val (.int p0), .val (.ref a1), .val (.int (3 : Int32)), .unset] [(.long (16512 : Int64)), (.long (p0.toInt64))])) t
    refine XS.lcmp X2.here hx rfl (hb hby d1_22) rfl ?_
    exact k
  have hc4 : ¬ ((lcmpW (p0.toInt64) (16512 : Int64)) < (0 : Int32)) := hB
  refine OwnGo.of (A := T2.setTop (mkF m 23 #[.val (.int p0), .val (.ref a1), .val (.int (3 : Int32)), .unset] [(.int (lcmpW (p0.toInt64) (16512 : Int64)))])) (B := T2.setTop (mkF m 62 #[.val (.int p0), .val (.ref a1), .val (.int (3 : Int32)), .unset] [(.int p0)])) (fun t k => ?_) ?_
  · show Steps p.tables e below (T2.setTop (mkF m 23 #[.val (.int p0), .val (.ref a1), .val (.int (3 : Int32)), .unset] [(.int (lcmpW (p0.toInt64) (16512 : Int64)))])) t
    refine XS.ifYes X2.here hx rfl (pc0 := 23) (pc' := 61) rfl (hb hby d1_23) rfl ((if0 _ _).trans (flt hc4).2.1) (by decide) (by decide) ?_
    show Steps p.tables e below (T2.setTop (mkF m 61 #[.val (.int p0), .val (.ref a1), .val (.int (3 : Int32)), .unset] [])) t
    refine XS.iloadN X2.here hx rfl (hb hby d1_61) rfl ?_
    exact k
  obtain ⟨T5, X5, e5, st5⟩ := getS2 X2 hx hZ hown (host := "") (Or.inl (hw _ (List.mem_of_getElem? (i := 11) rfl))) Via.refl e2 S_FIRST_OF_LENGTH (g := (mkF m 62 #[.val (.int p0), .val (.ref a1), .val (.int (3 : Int32)), .unset] [(.int p0)])) rfl (hb hby d1_62)
  refine OwnGo.of st5 ?_
  show OwnGo p.tables e below _ (T5.setTop (mkF m 65 #[.val (.int p0), .val (.ref a1), .val (.int (3 : Int32)), .unset] [(.ref wF), (.int p0)]))
  refine OwnGo.of (A := T5.setTop (mkF m 65 #[.val (.int p0), .val (.ref a1), .val (.int (3 : Int32)), .unset] [(.ref wF), (.int p0)])) (B := T5.setTop (mkF m 66 #[.val (.int p0), .val (.ref a1), .val (.int (3 : Int32)), .unset] [(.int (3 : Int32)), (.ref wF), (.int p0)])) (fun t k => ?_) ?_
  · show Steps p.tables e below (T5.setTop (mkF m 65 #[.val (.int p0), .val (.ref a1), .val (.int (3 : Int32)), .unset] [(.ref wF), (.int p0)])) t
    refine XS.iconst X5.here hx rfl (hb hby d1_65) ?_
    exact k
  have cq6 := V_F
  obtain ⟨clq6, Arq6, qq6, Sq6, Nq6, Hq6, Gq6⟩ := cq6
  have hinq6 := inb_of (j := (3 : Int32)) Sq6 ⟨by decide, by decide⟩
  refine OwnGo.of (X5.laload hx (j := (3 : Int32)) (v := (.long (16512 : Int64))) (by rw [e5]; exact Arq6.1) (State.isArrayOf_alike hZ.alike Arq6.2.1) Arq6.2.2 hinq6 (Hq6.at hinq6 rfl) (g := (mkF m 66 #[.val (.int p0), .val (.ref a1), .val (.int (3 : Int32)), .unset] [(.int (3 : Int32)), (.ref wF), (.int p0)])) rfl rfl (hb hby d1_66)) ?_
  show OwnGo p.tables e below _ (T5.setTop (mkF m 67 #[.val (.int p0), .val (.ref a1), .val (.int (3 : Int32)), .unset] [(.long (16512 : Int64)), (.int p0)]))
  refine OwnGo.of (A := T5.setTop (mkF m 67 #[.val (.int p0), .val (.ref a1), .val (.int (3 : Int32)), .unset] [(.long (16512 : Int64)), (.int p0)])) (B := T5.setTop (mkF m 81 #[.val (.int p0), .val (.ref a1), .val (.int (3 : Int32)), .val (.int (p0 - ((16512 : Int64).toInt32)))] [(.int (((128 : Int32) ||| (((p0 - ((16512 : Int64).toInt32)).toUInt32 >>> ((14 : Int32) &&& 31).toUInt32).toInt32)).toInt8.toInt32)), (.int (3 : Int32)), (.ref a1)])) (fun t k => ?_) ?_
  · show Steps p.tables e below (T5.setTop (mkF m 67 #[.val (.int p0), .val (.ref a1), .val (.int (3 : Int32)), .unset] [(.long (16512 : Int64)), (.int p0)])) t
    refine XS.l2i X5.here hx rfl (hb hby d1_67) rfl ?_
    show Steps p.tables e below (T5.setTop (mkF m 68 #[.val (.int p0), .val (.ref a1), .val (.int (3 : Int32)), .unset] [(.int ((16512 : Int64).toInt32)), (.int p0)])) t
    refine XS.isub X5.here hx rfl (hb hby d1_68) rfl ?_
    show Steps p.tables e below (T5.setTop (mkF m 69 #[.val (.int p0), .val (.ref a1), .val (.int (3 : Int32)), .unset] [(.int (p0 - ((16512 : Int64).toInt32)))])) t
    refine XS.istoreN X5.here hx rfl (hb hby d1_69) rfl (l' := #[.val (.int p0), .val (.ref a1), .val (.int (3 : Int32)), .val (.int (p0 - ((16512 : Int64).toInt32)))]) rfl ?_
    show Steps p.tables e below (T5.setTop (mkF m 70 #[.val (.int p0), .val (.ref a1), .val (.int (3 : Int32)), .val (.int (p0 - ((16512 : Int64).toInt32)))] [])) t
    refine XS.aloadN X5.here hx rfl (hb hby d1_70) rfl rfl ?_
    show Steps p.tables e below (T5.setTop (mkF m 71 #[.val (.int p0), .val (.ref a1), .val (.int (3 : Int32)), .val (.int (p0 - ((16512 : Int64).toInt32)))] [(.ref a1)])) t
    refine XS.iloadN X5.here hx rfl (hb hby d1_71) rfl ?_
    show Steps p.tables e below (T5.setTop (mkF m 72 #[.val (.int p0), .val (.ref a1), .val (.int (3 : Int32)), .val (.int (p0 - ((16512 : Int64).toInt32)))] [(.int (3 : Int32)), (.ref a1)])) t
    refine XS.sipush X5.here hx rfl (hb hby d1_72) ?_
    show Steps p.tables e below (T5.setTop (mkF m 75 #[.val (.int p0), .val (.ref a1), .val (.int (3 : Int32)), .val (.int (p0 - ((16512 : Int64).toInt32)))] [(.int (128 : Int32)), (.int (3 : Int32)), (.ref a1)])) t
    refine XS.iloadN X5.here hx rfl (hb hby d1_75) rfl ?_
    show Steps p.tables e below (T5.setTop (mkF m 76 #[.val (.int p0), .val (.ref a1), .val (.int (3 : Int32)), .val (.int (p0 - ((16512 : Int64).toInt32)))] [(.int (p0 - ((16512 : Int64).toInt32))), (.int (128 : Int32)), (.int (3 : Int32)), (.ref a1)])) t
    refine XS.bipush X5.here hx rfl (hb hby d1_76) ?_
    show Steps p.tables e below (T5.setTop (mkF m 78 #[.val (.int p0), .val (.ref a1), .val (.int (3 : Int32)), .val (.int (p0 - ((16512 : Int64).toInt32)))] [(.int (14 : Int32)), (.int (p0 - ((16512 : Int64).toInt32))), (.int (128 : Int32)), (.int (3 : Int32)), (.ref a1)])) t
    refine XS.iushr X5.here hx rfl (hb hby d1_78) rfl ?_
    show Steps p.tables e below (T5.setTop (mkF m 79 #[.val (.int p0), .val (.ref a1), .val (.int (3 : Int32)), .val (.int (p0 - ((16512 : Int64).toInt32)))] [(.int (((p0 - ((16512 : Int64).toInt32)).toUInt32 >>> ((14 : Int32) &&& 31).toUInt32).toInt32)), (.int (128 : Int32)), (.int (3 : Int32)), (.ref a1)])) t
    refine XS.ior X5.here hx rfl (hb hby d1_79) rfl ?_
    show Steps p.tables e below (T5.setTop (mkF m 80 #[.val (.int p0), .val (.ref a1), .val (.int (3 : Int32)), .val (.int (p0 - ((16512 : Int64).toInt32)))] [(.int ((128 : Int32) ||| (((p0 - ((16512 : Int64).toInt32)).toUInt32 >>> ((14 : Int32) &&& 31).toUInt32).toInt32))), (.int (3 : Int32)), (.ref a1)])) t
    refine XS.i2b X5.here hx rfl (hb hby d1_80) rfl ?_
    exact k
  have cq7 := V_a
  obtain ⟨clq7, Arq7, qq7, Sq7, Nq7, Hq7, Gq7⟩ := cq7
  obtain ⟨T8, h8, X8, e8, W8, st8⟩ := stB X5 hx hZ e5 Arq7 (j := (3 : Int32)) (inb_of Sq7 ⟨by decide, by decide⟩) (g := (mkF m 81 #[.val (.int p0), .val (.ref a1), .val (.int (3 : Int32)), .val (.int (p0 - ((16512 : Int64).toInt32)))] [(.int (((128 : Int32) ||| (((p0 - ((16512 : Int64).toInt32)).toUInt32 >>> ((14 : Int32) &&& 31).toUInt32).toInt32)).toInt8.toInt32)), (.int (3 : Int32)), (.ref a1)])) rfl rfl (hb hby d1_81)
  refine OwnGo.of st8 ?_
  have N8 := Fr.snoc X8 N0 g_a1
  have f9 : n0 ≤ h8.size := Nat.le_trans Z0 (Keep.of_wr W8).1
  have f10 : Keep h0 h8 [a1] := K0.wr W8 (Or.inl (List.mem_of_getElem? (i := 0) rfl))
  have f11 : Sta Z h8 "com/example/sevenfold/sevenfold/Natural" "FIRST_OF_LENGTH" "[J" (.ref wF) := S_FIRST_OF_LENGTH.wr W8
  have f12 : Arv Z h8 wF kf .long (10 : Int32) [(.long (0 : Int64)), (.long (0 : Int64)), (.long (128 : Int64)), (.long (16512 : Int64)), (.long (2113664 : Int64)), (.long (270549120 : Int64)), (.long (34630287488 : Int64)), (.long (4432676798592 : Int64)), (.long (567382630219904 : Int64)), (.long (72624976668147840 : Int64))] (.long (0 : Int64)) := V_F.other W8 hne
  have f13 : Arv Z h8 a1 ka .byte (8 : Int32) [(.int el0), (.int el1), (.int el2), (.int ((((128 : Int32) ||| (((p0 - ((16512 : Int64).toInt32)).toUInt32 >>> ((14 : Int32) &&& 31).toUInt32).toInt32)).toInt8.toInt32)).toInt8.toInt32), (.int el4), (.int el5), (.int el6), (.int el7)] (.int (0 : Int32)) := Arv.set Arq7 qq7 Sq7 Nq7 Hq7 Gq7 (fits_nar_byte _) W8 3 rfl (Nat.le_of_ble_eq_true rfl)
  show OwnGo p.tables e below _ (T8.setTop (mkF m 82 #[.val (.int p0), .val (.ref a1), .val (.int (3 : Int32)), .val (.int (p0 - ((16512 : Int64).toInt32)))] []))
  refine OwnGo.of (A := T8.setTop (mkF m 82 #[.val (.int p0), .val (.ref a1), .val (.int (3 : Int32)), .val (.int (p0 - ((16512 : Int64).toInt32)))] [])) (B := T8.setTop (mkF m 98 #[.val (.int p0), .val (.ref a1), .val (.int (3 : Int32)), .val (.int (p0 - ((16512 : Int64).toInt32)))] [(.int (((128 : Int32) ||| ((((p0 - ((16512 : Int64).toInt32)).toUInt32 >>> ((7 : Int32) &&& 31).toUInt32).toInt32) &&& (127 : Int32))).toInt8.toInt32)), (.int ((3 : Int32) + (1 : Int32))), (.ref a1)])) (fun t k => ?_) ?_
  · show Steps p.tables e below (T8.setTop (mkF m 82 #[.val (.int p0), .val (.ref a1), .val (.int (3 : Int32)), .val (.int (p0 - ((16512 : Int64).toInt32)))] [])) t
    refine XS.aloadN X8.here hx rfl (hb hby d1_82) rfl rfl ?_
    show Steps p.tables e below (T8.setTop (mkF m 83 #[.val (.int p0), .val (.ref a1), .val (.int (3 : Int32)), .val (.int (p0 - ((16512 : Int64).toInt32)))] [(.ref a1)])) t
    refine XS.iloadN X8.here hx rfl (hb hby d1_83) rfl ?_
    show Steps p.tables e below (T8.setTop (mkF m 84 #[.val (.int p0), .val (.ref a1), .val (.int (3 : Int32)), .val (.int (p0 - ((16512 : Int64).toInt32)))] [(.int (3 : Int32)), (.ref a1)])) t
    refine XS.iconst X8.here hx rfl (hb hby d1_84) ?_
    show Steps p.tables e below (T8.setTop (mkF m 85 #[.val (.int p0), .val (.ref a1), .val (.int (3 : Int32)), .val (.int (p0 - ((16512 : Int64).toInt32)))] [(.int (1 : Int32)), (.int (3 : Int32)), (.ref a1)])) t
    refine XS.iadd X8.here hx rfl (hb hby d1_85) rfl ?_
    show Steps p.tables e below (T8.setTop (mkF m 86 #[.val (.int p0), .val (.ref a1), .val (.int (3 : Int32)), .val (.int (p0 - ((16512 : Int64).toInt32)))] [(.int ((3 : Int32) + (1 : Int32))), (.ref a1)])) t
    refine XS.sipush X8.here hx rfl (hb hby d1_86) ?_
    show Steps p.tables e below (T8.setTop (mkF m 89 #[.val (.int p0), .val (.ref a1), .val (.int (3 : Int32)), .val (.int (p0 - ((16512 : Int64).toInt32)))] [(.int (128 : Int32)), (.int ((3 : Int32) + (1 : Int32))), (.ref a1)])) t
    refine XS.iloadN X8.here hx rfl (hb hby d1_89) rfl ?_
    show Steps p.tables e below (T8.setTop (mkF m 90 #[.val (.int p0), .val (.ref a1), .val (.int (3 : Int32)), .val (.int (p0 - ((16512 : Int64).toInt32)))] [(.int (p0 - ((16512 : Int64).toInt32))), (.int (128 : Int32)), (.int ((3 : Int32) + (1 : Int32))), (.ref a1)])) t
    refine XS.bipush X8.here hx rfl (hb hby d1_90) ?_
    show Steps p.tables e below (T8.setTop (mkF m 92 #[.val (.int p0), .val (.ref a1), .val (.int (3 : Int32)), .val (.int (p0 - ((16512 : Int64).toInt32)))] [(.int (7 : Int32)), (.int (p0 - ((16512 : Int64).toInt32))), (.int (128 : Int32)), (.int ((3 : Int32) + (1 : Int32))), (.ref a1)])) t
    refine XS.iushr X8.here hx rfl (hb hby d1_92) rfl ?_
    show Steps p.tables e below (T8.setTop (mkF m 93 #[.val (.int p0), .val (.ref a1), .val (.int (3 : Int32)), .val (.int (p0 - ((16512 : Int64).toInt32)))] [(.int (((p0 - ((16512 : Int64).toInt32)).toUInt32 >>> ((7 : Int32) &&& 31).toUInt32).toInt32)), (.int (128 : Int32)), (.int ((3 : Int32) + (1 : Int32))), (.ref a1)])) t
    refine XS.bipush X8.here hx rfl (hb hby d1_93) ?_
    show Steps p.tables e below (T8.setTop (mkF m 95 #[.val (.int p0), .val (.ref a1), .val (.int (3 : Int32)), .val (.int (p0 - ((16512 : Int64).toInt32)))] [(.int (127 : Int32)), (.int (((p0 - ((16512 : Int64).toInt32)).toUInt32 >>> ((7 : Int32) &&& 31).toUInt32).toInt32)), (.int (128 : Int32)), (.int ((3 : Int32) + (1 : Int32))), (.ref a1)])) t
    refine XS.iand X8.here hx rfl (hb hby d1_95) rfl ?_
    show Steps p.tables e below (T8.setTop (mkF m 96 #[.val (.int p0), .val (.ref a1), .val (.int (3 : Int32)), .val (.int (p0 - ((16512 : Int64).toInt32)))] [(.int ((((p0 - ((16512 : Int64).toInt32)).toUInt32 >>> ((7 : Int32) &&& 31).toUInt32).toInt32) &&& (127 : Int32))), (.int (128 : Int32)), (.int ((3 : Int32) + (1 : Int32))), (.ref a1)])) t
    refine XS.ior X8.here hx rfl (hb hby d1_96) rfl ?_
    show Steps p.tables e below (T8.setTop (mkF m 97 #[.val (.int p0), .val (.ref a1), .val (.int (3 : Int32)), .val (.int (p0 - ((16512 : Int64).toInt32)))] [(.int ((128 : Int32) ||| ((((p0 - ((16512 : Int64).toInt32)).toUInt32 >>> ((7 : Int32) &&& 31).toUInt32).toInt32) &&& (127 : Int32)))), (.int ((3 : Int32) + (1 : Int32))), (.ref a1)])) t
    refine XS.i2b X8.here hx rfl (hb hby d1_97) rfl ?_
    exact k
  rw [show ((3 : Int32) + (1 : Int32)) = (4 : Int32) from by decide]
  show OwnGo p.tables e below _ (T8.setTop (mkF m 98 #[.val (.int p0), .val (.ref a1), .val (.int (3 : Int32)), .val (.int (p0 - ((16512 : Int64).toInt32)))] [(.int (((128 : Int32) ||| ((((p0 - ((16512 : Int64).toInt32)).toUInt32 >>> ((7 : Int32) &&& 31).toUInt32).toInt32) &&& (127 : Int32))).toInt8.toInt32)), (.int (4 : Int32)), (.ref a1)]))
  have cq14 := f13
  obtain ⟨clq14, Arq14, qq14, Sq14, Nq14, Hq14, Gq14⟩ := cq14
  obtain ⟨T15, h15, X15, e15, W15, st15⟩ := stB X8 hx hZ e8 Arq14 (j := (4 : Int32)) (inb_of Sq14 ⟨by decide, by decide⟩) (g := (mkF m 98 #[.val (.int p0), .val (.ref a1), .val (.int (3 : Int32)), .val (.int (p0 - ((16512 : Int64).toInt32)))] [(.int (((128 : Int32) ||| ((((p0 - ((16512 : Int64).toInt32)).toUInt32 >>> ((7 : Int32) &&& 31).toUInt32).toInt32) &&& (127 : Int32))).toInt8.toInt32)), (.int (4 : Int32)), (.ref a1)])) rfl rfl (hb hby d1_98)
  refine OwnGo.of st15 ?_
  have N15 := Fr.snoc X15 N8 g_a1
  have f16 : n0 ≤ h15.size := Nat.le_trans f9 (Keep.of_wr W15).1
  have f17 : Keep h0 h15 [a1] := f10.wr W15 (Or.inl (List.mem_of_getElem? (i := 0) rfl))
  have f18 : Sta Z h15 "com/example/sevenfold/sevenfold/Natural" "FIRST_OF_LENGTH" "[J" (.ref wF) := f11.wr W15
  have f19 : Arv Z h15 wF kf .long (10 : Int32) [(.long (0 : Int64)), (.long (0 : Int64)), (.long (128 : Int64)), (.long (16512 : Int64)), (.long (2113664 : Int64)), (.long (270549120 : Int64)), (.long (34630287488 : Int64)), (.long (4432676798592 : Int64)), (.long (567382630219904 : Int64)), (.long (72624976668147840 : Int64))] (.long (0 : Int64)) := f12.other W15 hne
  have f20 : Arv Z h15 a1 ka .byte (8 : Int32) [(.int el0), (.int el1), (.int el2), (.int ((((128 : Int32) ||| (((p0 - ((16512 : Int64).toInt32)).toUInt32 >>> ((14 : Int32) &&& 31).toUInt32).toInt32)).toInt8.toInt32)).toInt8.toInt32), (.int ((((128 : Int32) ||| ((((p0 - ((16512 : Int64).toInt32)).toUInt32 >>> ((7 : Int32) &&& 31).toUInt32).toInt32) &&& (127 : Int32))).toInt8.toInt32)).toInt8.toInt32), (.int el5), (.int el6), (.int el7)] (.int (0 : Int32)) := Arv.set Arq14 qq14 Sq14 Nq14 Hq14 Gq14 (fits_nar_byte _) W15 4 rfl (Nat.le_of_ble_eq_true rfl)
  show OwnGo p.tables e below _ (T15.setTop (mkF m 99 #[.val (.int p0), .val (.ref a1), .val (.int (3 : Int32)), .val (.int (p0 - ((16512 : Int64).toInt32)))] []))
  refine OwnGo.of (A := T15.setTop (mkF m 99 #[.val (.int p0), .val (.ref a1), .val (.int (3 : Int32)), .val (.int (p0 - ((16512 : Int64).toInt32)))] [])) (B := T15.setTop (mkF m 108 #[.val (.int p0), .val (.ref a1), .val (.int (3 : Int32)), .val (.int (p0 - ((16512 : Int64).toInt32)))] [(.int (((p0 - ((16512 : Int64).toInt32)) &&& (127 : Int32)).toInt8.toInt32)), (.int ((3 : Int32) + (2 : Int32))), (.ref a1)])) (fun t k => ?_) ?_
  · show Steps p.tables e below (T15.setTop (mkF m 99 #[.val (.int p0), .val (.ref a1), .val (.int (3 : Int32)), .val (.int (p0 - ((16512 : Int64).toInt32)))] [])) t
    refine XS.aloadN X15.here hx rfl (hb hby d1_99) rfl rfl ?_
    show Steps p.tables e below (T15.setTop (mkF m 100 #[.val (.int p0), .val (.ref a1), .val (.int (3 : Int32)), .val (.int (p0 - ((16512 : Int64).toInt32)))] [(.ref a1)])) t
    refine XS.iloadN X15.here hx rfl (hb hby d1_100) rfl ?_
    show Steps p.tables e below (T15.setTop (mkF m 101 #[.val (.int p0), .val (.ref a1), .val (.int (3 : Int32)), .val (.int (p0 - ((16512 : Int64).toInt32)))] [(.int (3 : Int32)), (.ref a1)])) t
    refine XS.iconst X15.here hx rfl (hb hby d1_101) ?_
    show Steps p.tables e below (T15.setTop (mkF m 102 #[.val (.int p0), .val (.ref a1), .val (.int (3 : Int32)), .val (.int (p0 - ((16512 : Int64).toInt32)))] [(.int (2 : Int32)), (.int (3 : Int32)), (.ref a1)])) t
    refine XS.iadd X15.here hx rfl (hb hby d1_102) rfl ?_
    show Steps p.tables e below (T15.setTop (mkF m 103 #[.val (.int p0), .val (.ref a1), .val (.int (3 : Int32)), .val (.int (p0 - ((16512 : Int64).toInt32)))] [(.int ((3 : Int32) + (2 : Int32))), (.ref a1)])) t
    refine XS.iloadN X15.here hx rfl (hb hby d1_103) rfl ?_
    show Steps p.tables e below (T15.setTop (mkF m 104 #[.val (.int p0), .val (.ref a1), .val (.int (3 : Int32)), .val (.int (p0 - ((16512 : Int64).toInt32)))] [(.int (p0 - ((16512 : Int64).toInt32))), (.int ((3 : Int32) + (2 : Int32))), (.ref a1)])) t
    refine XS.bipush X15.here hx rfl (hb hby d1_104) ?_
    show Steps p.tables e below (T15.setTop (mkF m 106 #[.val (.int p0), .val (.ref a1), .val (.int (3 : Int32)), .val (.int (p0 - ((16512 : Int64).toInt32)))] [(.int (127 : Int32)), (.int (p0 - ((16512 : Int64).toInt32))), (.int ((3 : Int32) + (2 : Int32))), (.ref a1)])) t
    refine XS.iand X15.here hx rfl (hb hby d1_106) rfl ?_
    show Steps p.tables e below (T15.setTop (mkF m 107 #[.val (.int p0), .val (.ref a1), .val (.int (3 : Int32)), .val (.int (p0 - ((16512 : Int64).toInt32)))] [(.int ((p0 - ((16512 : Int64).toInt32)) &&& (127 : Int32))), (.int ((3 : Int32) + (2 : Int32))), (.ref a1)])) t
    refine XS.i2b X15.here hx rfl (hb hby d1_107) rfl ?_
    exact k
  rw [show ((3 : Int32) + (2 : Int32)) = (5 : Int32) from by decide]
  show OwnGo p.tables e below _ (T15.setTop (mkF m 108 #[.val (.int p0), .val (.ref a1), .val (.int (3 : Int32)), .val (.int (p0 - ((16512 : Int64).toInt32)))] [(.int (((p0 - ((16512 : Int64).toInt32)) &&& (127 : Int32)).toInt8.toInt32)), (.int (5 : Int32)), (.ref a1)]))
  have cq21 := f20
  obtain ⟨clq21, Arq21, qq21, Sq21, Nq21, Hq21, Gq21⟩ := cq21
  obtain ⟨T22, h22, X22, e22, W22, st22⟩ := stB X15 hx hZ e15 Arq21 (j := (5 : Int32)) (inb_of Sq21 ⟨by decide, by decide⟩) (g := (mkF m 108 #[.val (.int p0), .val (.ref a1), .val (.int (3 : Int32)), .val (.int (p0 - ((16512 : Int64).toInt32)))] [(.int (((p0 - ((16512 : Int64).toInt32)) &&& (127 : Int32)).toInt8.toInt32)), (.int (5 : Int32)), (.ref a1)])) rfl rfl (hb hby d1_108)
  refine OwnGo.of st22 ?_
  have N22 := Fr.snoc X22 N15 g_a1
  have f23 : n0 ≤ h22.size := Nat.le_trans f16 (Keep.of_wr W22).1
  have f24 : Keep h0 h22 [a1] := f17.wr W22 (Or.inl (List.mem_of_getElem? (i := 0) rfl))
  have f25 : Sta Z h22 "com/example/sevenfold/sevenfold/Natural" "FIRST_OF_LENGTH" "[J" (.ref wF) := f18.wr W22
  have f26 : Arv Z h22 wF kf .long (10 : Int32) [(.long (0 : Int64)), (.long (0 : Int64)), (.long (128 : Int64)), (.long (16512 : Int64)), (.long (2113664 : Int64)), (.long (270549120 : Int64)), (.long (34630287488 : Int64)), (.long (4432676798592 : Int64)), (.long (567382630219904 : Int64)), (.long (72624976668147840 : Int64))] (.long (0 : Int64)) := f19.other W22 hne
  have f27 : Arv Z h22 a1 ka .byte (8 : Int32) [(.int el0), (.int el1), (.int el2), (.int ((((128 : Int32) ||| (((p0 - ((16512 : Int64).toInt32)).toUInt32 >>> ((14 : Int32) &&& 31).toUInt32).toInt32)).toInt8.toInt32)).toInt8.toInt32), (.int ((((128 : Int32) ||| ((((p0 - ((16512 : Int64).toInt32)).toUInt32 >>> ((7 : Int32) &&& 31).toUInt32).toInt32) &&& (127 : Int32))).toInt8.toInt32)).toInt8.toInt32), (.int ((((p0 - ((16512 : Int64).toInt32)) &&& (127 : Int32)).toInt8.toInt32)).toInt8.toInt32), (.int el6), (.int el7)] (.int (0 : Int32)) := Arv.set Arq21 qq21 Sq21 Nq21 Hq21 Gq21 (fits_nar_byte _) W22 5 rfl (Nat.le_of_ble_eq_true rfl)
  show OwnGo p.tables e below _ (T22.setTop (mkF m 109 #[.val (.int p0), .val (.ref a1), .val (.int (3 : Int32)), .val (.int (p0 - ((16512 : Int64).toInt32)))] []))
  refine OwnGo.of (A := T22.setTop (mkF m 109 #[.val (.int p0), .val (.ref a1), .val (.int (3 : Int32)), .val (.int (p0 - ((16512 : Int64).toInt32)))] [])) (B := T22.setTop (mkF m 112 #[.val (.int p0), .val (.ref a1), .val (.int (3 : Int32)), .val (.int (p0 - ((16512 : Int64).toInt32)))] [(.int ((3 : Int32) + (3 : Int32)))])) (fun t k => ?_) ?_
  · show Steps p.tables e below (T22.setTop (mkF m 109 #[.val (.int p0), .val (.ref a1), .val (.int (3 : Int32)), .val (.int (p0 - ((16512 : Int64).toInt32)))] [])) t
    refine XS.iloadN X22.here hx rfl (hb hby d1_109) rfl ?_
    show Steps p.tables e below (T22.setTop (mkF m 110 #[.val (.int p0), .val (.ref a1), .val (.int (3 : Int32)), .val (.int (p0 - ((16512 : Int64).toInt32)))] [(.int (3 : Int32))])) t
    refine XS.iconst X22.here hx rfl (hb hby d1_110) ?_
    show Steps p.tables e below (T22.setTop (mkF m 111 #[.val (.int p0), .val (.ref a1), .val (.int (3 : Int32)), .val (.int (p0 - ((16512 : Int64).toInt32)))] [(.int (3 : Int32)), (.int (3 : Int32))])) t
    refine XS.iadd X22.here hx rfl (hb hby d1_111) rfl ?_
    exact k
  obtain ⟨fs, hr, hrun, hended, hW, hsame⟩ := X22.leave (v := some (.int ((3 : Int32) + (3 : Int32)))) (fun h => by rw [Bd.returns] at h; cases h) hlk
  refine ⟨_, _, ?_, hrun, hended, _, _, rfl, ?_, ⟨_, rfl⟩, hW, hsame.mono (by decide) (by decide)⟩
  · show Steps p.tables e below (T22.setTop (mkF m 112 #[.val (.int p0), .val (.ref a1), .val (.int (3 : Int32)), .val (.int (p0 - ((16512 : Int64).toInt32)))] [(.int ((3 : Int32) + (3 : Int32)))])) _
    exact own_retI X22 hx Bd.returns (hb hby d1_112) hr
  · show Qrm1_3C Z p0 a1 el0 el1 el2 el3 el4 el5 el6 el7 ka wF kf h0 n0 _ (T22.setFrames fs).heap _
    rw [show (T22.setFrames fs).heap = h22 from e22]
    exact ⟨congrArg (fun z => some (Value.int z)) (by decide), N22, f24, f27⟩
def own_k0 (a0 : Addr) (p2 : Int32) (p3 : Int32) (p4 : Int32) (el0 : Int32) (el1 : Int32) (el2 : Int32) (el3 : Int32) (el4 : Int32) (el5 : Int32) (el6 : Int32) (el7 : Int32) (ka : ClassId) : Int32 := (if (0 : Int32) < p2 then (if el0 = p4 then (1 : Int32) else (0 : Int32)) else (if (0 : Int32) < p3 then (1 : Int32) else (if el0 = p4 then (1 : Int32) else (0 : Int32))))
theorem pn_1 : plainName "com/example/sevenfold/sevenfold/NaturalWriteCodePointPinLaw" = true := by first | (simp [plainName, overriddenIn]; done) | decide +kernel
theorem d2_0 : decode method_2_code 0 = .ok (.iload_n 1, 1) := by decide +kernel
theorem d2_1 : decode method_2_code 1 = .ok (.iload_n 2, 1) := by decide +kernel
theorem d2_2 : decode method_2_code 2 = .ok (.if_icmp .lt 8, 3) := by decide +kernel
theorem d2_5 : decode method_2_code 5 = .ok (.iload_n 1, 1) := by decide +kernel
theorem d2_6 : decode method_2_code 6 = .ok (.iload_n 3, 1) := by decide +kernel
theorem d2_7 : decode method_2_code 7 = .ok (.if_icmp .lt 11, 3) := by decide +kernel
theorem d2_10 : decode method_2_code 10 = .ok (.aload_n 0, 1) := by decide +kernel
theorem d2_11 : decode method_2_code 11 = .ok (.iload_n 1, 1) := by decide +kernel
theorem d2_12 : decode method_2_code 12 = .ok (.baload, 1) := by decide +kernel
theorem d2_13 : decode method_2_code 13 = .ok (.iload 4, 2) := by decide +kernel
theorem d2_15 : decode method_2_code 15 = .ok (.if_icmp .ne 7, 3) := by decide +kernel
theorem d2_18 : decode method_2_code 18 = .ok (.iconst 1, 1) := by decide +kernel
theorem d2_19 : decode method_2_code 19 = .ok (.goto 4, 3) := by decide +kernel
theorem d2_22 : decode method_2_code 22 = .ok (.iconst 0, 1) := by decide +kernel
theorem d2_23 : decode method_2_code 23 = .ok (.ireturn, 1) := by decide +kernel
theorem ef_rm2_0 (m : MethodId) (a0 : Addr) (p2 : Int32) (p3 : Int32) (p4 : Int32) : entryFrame m #[(.ref a0), (.int (0 : Int32)), (.int p2), (.int p3), (.int p4)] 5 = mkF m 0 #[.val (.ref a0), .val (.int (0 : Int32)), .val (.int p2), .val (.int p3), .val (.int p4)] [] := by first | (simp [entryFrame, mkF, argsToLocals, Value.category]; done) | rfl
def Qrm2_0 (Z : State) (a0 : Addr) (p2 : Int32) (p3 : Int32) (p4 : Int32) (el0 : Int32) (el1 : Int32) (el2 : Int32) (el3 : Int32) (el4 : Int32) (el5 : Int32) (el6 : Int32) (el7 : Int32) (ka : ClassId) (h0 : Heap) (n0 : Nat) (v : Option Value) (h : Heap) (L : List Loc) : Prop := v = some (.int (own_k0 a0 p2 p3 p4 el0 el1 el2 el3 el4 el5 el6 el7 ka)) ∧ Fr n0 L ∧ h = h0
set_option maxRecDepth 65536 in
set_option maxHeartbeats 40000000 in
theorem rm2_0 (l : Launch) (Z : State) (aw : Array Value) (hw : ∀ d ∈ tables_1, d.before aw Z = true) (ws : List Jvm.Cond) (a0 : Addr) (p2 : Int32) (p3 : Int32) (p4 : Int32) (el0 : Int32) (el1 : Int32) (el2 : Int32) (el3 : Int32) (el4 : Int32) (el5 : Int32) (el6 : Int32) (el7 : Int32) (ka : ClassId) (h0 : Heap) (n0 : Nat) (Z0 : n0 ≤ h0.size) (V_a : Arv Z h0 a0 ka .byte (8 : Int32) [(.int el0), (.int el1), (.int el2), (.int el3), (.int el4), (.int el5), (.int el6), (.int el7)] (.int (0 : Int32))) :
    MetFree l (⟨"com/example/sevenfold/sevenfold/NaturalWriteCodePointPinLaw", "kept", "([BIIIB)Z"⟩ : MethodName) (head1 (Jvm.Cond.code (⟨"com/example/sevenfold/sevenfold/NaturalWriteCodePointPinLaw", "kept", "([BIIIB)Z"⟩ : MethodName) method_2_code 5 (some .boolean) :: ws) ({ frames := 0, cells := 0, slots := 0, locals := 0 } : Room)) (fun a U => a = #[(.ref a0), (.int (0 : Int32)), (.int p2), (.int p3), (.int p4)] ∧ Z.Warmed39 U.vm ∧ U.heap = h0) (fun _ _ _ _ _ => True) (fun _ U o U' => ∃ v L, o = .returned v ∧ Qrm2_0 Z a0 p2 p3 p4 el0 el1 el2 el3 el4 el5 el6 el7 ka h0 n0 v U'.heap L ∧ FrameEnd U o U' L ({ frames := 0, cells := 0, slots := 0, locals := 0 } : Room).cells ({ frames := 0, cells := 0, slots := 0, locals := 0 } : Room).slots) := by
  refine MetFree.of_bodySF (plainFor_of_name pn_1) hisR ?_
  intro p e s m args below meth c s₁ Bd hml0 hP hK
  obtain ⟨rfl, hZ, hh⟩ := hP
  have hx := Bd.exec
  have hby := Bd.bytes
  have hml : c.maxLocals = 5 := hml0
  have hown : s.vm.findClass "com/example/sevenfold/sevenfold/NaturalWriteCodePointPinLaw" = some m.cls := findClass_of_methodNamed Bd.named
  have hnm := (name_of_methodNamed Bd.named Bd.method).1
  have X0 : Stand p l e ({ frames := 0, cells := 0, slots := 0, locals := 0 } : Room) s m #[(.ref a0), (.int (0 : Int32)), (.int p2), (.int p3), (.int p4)] below meth c s₁ [] 0 0 := Stand.of_body Bd
  have e0 : s₁.heap = h0 := by rw [← hh, Bd.state]; rfl
  have N0 := Fr.nil n0
  have hlk := Bd.notSynchronized
  show OwnGo p.tables e below _ (s₁.setTop (entryFrame m #[(.ref a0), (.int (0 : Int32)), (.int p2), (.int p3), (.int p4)] 5))
  rw [ef_rm2_0 m a0 p2 p3 p4]
  show OwnGo p.tables e below _ (s₁.setTop (mkF m 0 #[.val (.ref a0), .val (.int (0 : Int32)), .val (.int p2), .val (.int p3), .val (.int p4)] []))
  refine OwnGo.of (A := s₁.setTop (mkF m 0 #[.val (.ref a0), .val (.int (0 : Int32)), .val (.int p2), .val (.int p3), .val (.int p4)] [])) (B := s₁.setTop (mkF m 2 #[.val (.ref a0), .val (.int (0 : Int32)), .val (.int p2), .val (.int p3), .val (.int p4)] [(.int p2), (.int (0 : Int32))])) (fun t k => ?_) ?_
  · show Steps p.tables e below (s₁.setTop (mkF m 0 #[.val (.ref a0), .val (.int (0 : Int32)), .val (.int p2), .val (.int p3), .val (.int p4)] [])) t
    refine XS.iloadN X0.here hx rfl (hb hby d2_0) rfl ?_
    show Steps p.tables e below (s₁.setTop (mkF m 1 #[.val (.ref a0), .val (.int (0 : Int32)), .val (.int p2), .val (.int p3), .val (.int p4)] [(.int (0 : Int32))])) t
    refine XS.iloadN X0.here hx rfl (hb hby d2_1) rfl ?_
    exact k
  by_cases hc1 : (0 : Int32) < p2
  · refine OwnGo.of (A := s₁.setTop (mkF m 2 #[.val (.ref a0), .val (.int (0 : Int32)), .val (.int p2), .val (.int p3), .val (.int p4)] [(.int p2), (.int (0 : Int32))])) (B := s₁.setTop (mkF m 12 #[.val (.ref a0), .val (.int (0 : Int32)), .val (.int p2), .val (.int p3), .val (.int p4)] [(.int (0 : Int32)), (.ref a0)])) (fun t k => ?_) ?_
    · show Steps p.tables e below (s₁.setTop (mkF m 2 #[.val (.ref a0), .val (.int (0 : Int32)), .val (.int p2), .val (.int p3), .val (.int p4)] [(.int p2), (.int (0 : Int32))])) t
      refine XS.icmpYes X0.here hx rfl (pc0 := 2) (pc' := 10) rfl (hb hby d2_2) rfl (tlt hc1).1 (by decide) (by decide) ?_
      show Steps p.tables e below (s₁.setTop (mkF m 10 #[.val (.ref a0), .val (.int (0 : Int32)), .val (.int p2), .val (.int p3), .val (.int p4)] [])) t
      refine XS.aloadN X0.here hx rfl (hb hby d2_10) rfl rfl ?_
      show Steps p.tables e below (s₁.setTop (mkF m 11 #[.val (.ref a0), .val (.int (0 : Int32)), .val (.int p2), .val (.int p3), .val (.int p4)] [(.ref a0)])) t
      refine XS.iloadN X0.here hx rfl (hb hby d2_11) rfl ?_
      exact k
    have cq2 := V_a
    obtain ⟨clq2, Arq2, qq2, Sq2, Nq2, Hq2, Gq2⟩ := cq2
    have hinq2 := inb_of (j := (0 : Int32)) Sq2 ⟨by decide, by decide⟩
    refine OwnGo.of (X0.baloadBytes hx (j := (0 : Int32)) (v := (.int el0)) (by rw [e0]; exact Arq2.1) (State.isArrayOf_alike hZ.alike Arq2.2.1) Arq2.2.2 hinq2 (Hq2.at hinq2 rfl) (g := (mkF m 12 #[.val (.ref a0), .val (.int (0 : Int32)), .val (.int p2), .val (.int p3), .val (.int p4)] [(.int (0 : Int32)), (.ref a0)])) rfl rfl (hb hby d2_12)) ?_
    show OwnGo p.tables e below _ (s₁.setTop (mkF m 13 #[.val (.ref a0), .val (.int (0 : Int32)), .val (.int p2), .val (.int p3), .val (.int p4)] [(.int el0)]))
    refine OwnGo.of (A := s₁.setTop (mkF m 13 #[.val (.ref a0), .val (.int (0 : Int32)), .val (.int p2), .val (.int p3), .val (.int p4)] [(.int el0)])) (B := s₁.setTop (mkF m 15 #[.val (.ref a0), .val (.int (0 : Int32)), .val (.int p2), .val (.int p3), .val (.int p4)] [(.int p4), (.int el0)])) (fun t k => ?_) ?_
    · show Steps p.tables e below (s₁.setTop (mkF m 13 #[.val (.ref a0), .val (.int (0 : Int32)), .val (.int p2), .val (.int p3), .val (.int p4)] [(.int el0)])) t
      refine XS.iload X0.here hx rfl (hb hby d2_13) rfl ?_
      exact k
    by_cases hc3 : el0 = p4
    · refine OwnGo.of (A := s₁.setTop (mkF m 15 #[.val (.ref a0), .val (.int (0 : Int32)), .val (.int p2), .val (.int p3), .val (.int p4)] [(.int p4), (.int el0)])) (B := s₁.setTop (mkF m 23 #[.val (.ref a0), .val (.int (0 : Int32)), .val (.int p2), .val (.int p3), .val (.int p4)] [(.int (1 : Int32))])) (fun t k => ?_) ?_
      · show Steps p.tables e below (s₁.setTop (mkF m 15 #[.val (.ref a0), .val (.int (0 : Int32)), .val (.int p2), .val (.int p3), .val (.int p4)] [(.int p4), (.int el0)])) t
        refine XS.icmpNo X0.here hx rfl (hb hby d2_15) rfl (teq hc3).2 ?_
        show Steps p.tables e below (s₁.setTop (mkF m 18 #[.val (.ref a0), .val (.int (0 : Int32)), .val (.int p2), .val (.int p3), .val (.int p4)] [])) t
        refine XS.iconst X0.here hx rfl (hb hby d2_18) ?_
        show Steps p.tables e below (s₁.setTop (mkF m 19 #[.val (.ref a0), .val (.int (0 : Int32)), .val (.int p2), .val (.int p3), .val (.int p4)] [(.int (1 : Int32))])) t
        refine XS.goto X0.here hx rfl (pc0 := 19) (pc' := 23) rfl (hb hby d2_19) (by decide) (by decide) ?_
        exact k
      obtain ⟨fs, hr, hrun, hended, hW, hsame⟩ := X0.leave (v := some (.int (nar .boolean (1 : Int32)))) (fun h => by rw [Bd.returns] at h; cases h) hlk
      refine ⟨_, _, ?_, hrun, hended, _, _, rfl, ?_, ⟨_, rfl⟩, hW, hsame.mono (by decide) (by decide)⟩
      · show Steps p.tables e below (s₁.setTop (mkF m 23 #[.val (.ref a0), .val (.int (0 : Int32)), .val (.int p2), .val (.int p3), .val (.int p4)] [(.int (1 : Int32))])) _
        exact retN X0 hx (t := .boolean) Bd.returns (by simp) (hb hby d2_23) hr
      · show Qrm2_0 Z a0 p2 p3 p4 el0 el1 el2 el3 el4 el5 el6 el7 ka h0 n0 _ (s₁.setFrames fs).heap _
        rw [show (s₁.setFrames fs).heap = h0 from e0]
        exact ⟨congrArg (fun z => some (Value.int z)) (by rw [own_k0, if_pos hc1, if_pos hc3]; try rfl), N0, rfl⟩
    · refine OwnGo.of (A := s₁.setTop (mkF m 15 #[.val (.ref a0), .val (.int (0 : Int32)), .val (.int p2), .val (.int p3), .val (.int p4)] [(.int p4), (.int el0)])) (B := s₁.setTop (mkF m 23 #[.val (.ref a0), .val (.int (0 : Int32)), .val (.int p2), .val (.int p3), .val (.int p4)] [(.int (0 : Int32))])) (fun t k => ?_) ?_
      · show Steps p.tables e below (s₁.setTop (mkF m 15 #[.val (.ref a0), .val (.int (0 : Int32)), .val (.int p2), .val (.int p3), .val (.int p4)] [(.int p4), (.int el0)])) t
        refine XS.icmpYes X0.here hx rfl (pc0 := 15) (pc' := 22) rfl (hb hby d2_15) rfl (feq hc3).2 (by decide) (by decide) ?_
        show Steps p.tables e below (s₁.setTop (mkF m 22 #[.val (.ref a0), .val (.int (0 : Int32)), .val (.int p2), .val (.int p3), .val (.int p4)] [])) t
        refine XS.iconst X0.here hx rfl (hb hby d2_22) ?_
        exact k
      obtain ⟨fs, hr, hrun, hended, hW, hsame⟩ := X0.leave (v := some (.int (nar .boolean (0 : Int32)))) (fun h => by rw [Bd.returns] at h; cases h) hlk
      refine ⟨_, _, ?_, hrun, hended, _, _, rfl, ?_, ⟨_, rfl⟩, hW, hsame.mono (by decide) (by decide)⟩
      · show Steps p.tables e below (s₁.setTop (mkF m 23 #[.val (.ref a0), .val (.int (0 : Int32)), .val (.int p2), .val (.int p3), .val (.int p4)] [(.int (0 : Int32))])) _
        exact retN X0 hx (t := .boolean) Bd.returns (by simp) (hb hby d2_23) hr
      · show Qrm2_0 Z a0 p2 p3 p4 el0 el1 el2 el3 el4 el5 el6 el7 ka h0 n0 _ (s₁.setFrames fs).heap _
        rw [show (s₁.setFrames fs).heap = h0 from e0]
        exact ⟨congrArg (fun z => some (Value.int z)) (by rw [own_k0, if_pos hc1, if_neg hc3]; try rfl), N0, rfl⟩
  · refine OwnGo.of (A := s₁.setTop (mkF m 2 #[.val (.ref a0), .val (.int (0 : Int32)), .val (.int p2), .val (.int p3), .val (.int p4)] [(.int p2), (.int (0 : Int32))])) (B := s₁.setTop (mkF m 7 #[.val (.ref a0), .val (.int (0 : Int32)), .val (.int p2), .val (.int p3), .val (.int p4)] [(.int p3), (.int (0 : Int32))])) (fun t k => ?_) ?_
    · show Steps p.tables e below (s₁.setTop (mkF m 2 #[.val (.ref a0), .val (.int (0 : Int32)), .val (.int p2), .val (.int p3), .val (.int p4)] [(.int p2), (.int (0 : Int32))])) t
      refine XS.icmpNo X0.here hx rfl (hb hby d2_2) rfl (flt hc1).1 ?_
      show Steps p.tables e below (s₁.setTop (mkF m 5 #[.val (.ref a0), .val (.int (0 : Int32)), .val (.int p2), .val (.int p3), .val (.int p4)] [])) t
      refine XS.iloadN X0.here hx rfl (hb hby d2_5) rfl ?_
      show Steps p.tables e below (s₁.setTop (mkF m 6 #[.val (.ref a0), .val (.int (0 : Int32)), .val (.int p2), .val (.int p3), .val (.int p4)] [(.int (0 : Int32))])) t
      refine XS.iloadN X0.here hx rfl (hb hby d2_6) rfl ?_
      exact k
    by_cases hc6 : (0 : Int32) < p3
    · refine OwnGo.of (A := s₁.setTop (mkF m 7 #[.val (.ref a0), .val (.int (0 : Int32)), .val (.int p2), .val (.int p3), .val (.int p4)] [(.int p3), (.int (0 : Int32))])) (B := s₁.setTop (mkF m 23 #[.val (.ref a0), .val (.int (0 : Int32)), .val (.int p2), .val (.int p3), .val (.int p4)] [(.int (1 : Int32))])) (fun t k => ?_) ?_
      · show Steps p.tables e below (s₁.setTop (mkF m 7 #[.val (.ref a0), .val (.int (0 : Int32)), .val (.int p2), .val (.int p3), .val (.int p4)] [(.int p3), (.int (0 : Int32))])) t
        refine XS.icmpYes X0.here hx rfl (pc0 := 7) (pc' := 18) rfl (hb hby d2_7) rfl (tlt hc6).1 (by decide) (by decide) ?_
        show Steps p.tables e below (s₁.setTop (mkF m 18 #[.val (.ref a0), .val (.int (0 : Int32)), .val (.int p2), .val (.int p3), .val (.int p4)] [])) t
        refine XS.iconst X0.here hx rfl (hb hby d2_18) ?_
        show Steps p.tables e below (s₁.setTop (mkF m 19 #[.val (.ref a0), .val (.int (0 : Int32)), .val (.int p2), .val (.int p3), .val (.int p4)] [(.int (1 : Int32))])) t
        refine XS.goto X0.here hx rfl (pc0 := 19) (pc' := 23) rfl (hb hby d2_19) (by decide) (by decide) ?_
        exact k
      obtain ⟨fs, hr, hrun, hended, hW, hsame⟩ := X0.leave (v := some (.int (nar .boolean (1 : Int32)))) (fun h => by rw [Bd.returns] at h; cases h) hlk
      refine ⟨_, _, ?_, hrun, hended, _, _, rfl, ?_, ⟨_, rfl⟩, hW, hsame.mono (by decide) (by decide)⟩
      · show Steps p.tables e below (s₁.setTop (mkF m 23 #[.val (.ref a0), .val (.int (0 : Int32)), .val (.int p2), .val (.int p3), .val (.int p4)] [(.int (1 : Int32))])) _
        exact retN X0 hx (t := .boolean) Bd.returns (by simp) (hb hby d2_23) hr
      · show Qrm2_0 Z a0 p2 p3 p4 el0 el1 el2 el3 el4 el5 el6 el7 ka h0 n0 _ (s₁.setFrames fs).heap _
        rw [show (s₁.setFrames fs).heap = h0 from e0]
        exact ⟨congrArg (fun z => some (Value.int z)) (by rw [own_k0, if_neg hc1, if_pos hc6]; try rfl), N0, rfl⟩
    · refine OwnGo.of (A := s₁.setTop (mkF m 7 #[.val (.ref a0), .val (.int (0 : Int32)), .val (.int p2), .val (.int p3), .val (.int p4)] [(.int p3), (.int (0 : Int32))])) (B := s₁.setTop (mkF m 12 #[.val (.ref a0), .val (.int (0 : Int32)), .val (.int p2), .val (.int p3), .val (.int p4)] [(.int (0 : Int32)), (.ref a0)])) (fun t k => ?_) ?_
      · show Steps p.tables e below (s₁.setTop (mkF m 7 #[.val (.ref a0), .val (.int (0 : Int32)), .val (.int p2), .val (.int p3), .val (.int p4)] [(.int p3), (.int (0 : Int32))])) t
        refine XS.icmpNo X0.here hx rfl (hb hby d2_7) rfl (flt hc6).1 ?_
        show Steps p.tables e below (s₁.setTop (mkF m 10 #[.val (.ref a0), .val (.int (0 : Int32)), .val (.int p2), .val (.int p3), .val (.int p4)] [])) t
        refine XS.aloadN X0.here hx rfl (hb hby d2_10) rfl rfl ?_
        show Steps p.tables e below (s₁.setTop (mkF m 11 #[.val (.ref a0), .val (.int (0 : Int32)), .val (.int p2), .val (.int p3), .val (.int p4)] [(.ref a0)])) t
        refine XS.iloadN X0.here hx rfl (hb hby d2_11) rfl ?_
        exact k
      have cq8 := V_a
      obtain ⟨clq8, Arq8, qq8, Sq8, Nq8, Hq8, Gq8⟩ := cq8
      have hinq8 := inb_of (j := (0 : Int32)) Sq8 ⟨by decide, by decide⟩
      refine OwnGo.of (X0.baloadBytes hx (j := (0 : Int32)) (v := (.int el0)) (by rw [e0]; exact Arq8.1) (State.isArrayOf_alike hZ.alike Arq8.2.1) Arq8.2.2 hinq8 (Hq8.at hinq8 rfl) (g := (mkF m 12 #[.val (.ref a0), .val (.int (0 : Int32)), .val (.int p2), .val (.int p3), .val (.int p4)] [(.int (0 : Int32)), (.ref a0)])) rfl rfl (hb hby d2_12)) ?_
      show OwnGo p.tables e below _ (s₁.setTop (mkF m 13 #[.val (.ref a0), .val (.int (0 : Int32)), .val (.int p2), .val (.int p3), .val (.int p4)] [(.int el0)]))
      refine OwnGo.of (A := s₁.setTop (mkF m 13 #[.val (.ref a0), .val (.int (0 : Int32)), .val (.int p2), .val (.int p3), .val (.int p4)] [(.int el0)])) (B := s₁.setTop (mkF m 15 #[.val (.ref a0), .val (.int (0 : Int32)), .val (.int p2), .val (.int p3), .val (.int p4)] [(.int p4), (.int el0)])) (fun t k => ?_) ?_
      · show Steps p.tables e below (s₁.setTop (mkF m 13 #[.val (.ref a0), .val (.int (0 : Int32)), .val (.int p2), .val (.int p3), .val (.int p4)] [(.int el0)])) t
        refine XS.iload X0.here hx rfl (hb hby d2_13) rfl ?_
        exact k
      by_cases hc9 : el0 = p4
      · refine OwnGo.of (A := s₁.setTop (mkF m 15 #[.val (.ref a0), .val (.int (0 : Int32)), .val (.int p2), .val (.int p3), .val (.int p4)] [(.int p4), (.int el0)])) (B := s₁.setTop (mkF m 23 #[.val (.ref a0), .val (.int (0 : Int32)), .val (.int p2), .val (.int p3), .val (.int p4)] [(.int (1 : Int32))])) (fun t k => ?_) ?_
        · show Steps p.tables e below (s₁.setTop (mkF m 15 #[.val (.ref a0), .val (.int (0 : Int32)), .val (.int p2), .val (.int p3), .val (.int p4)] [(.int p4), (.int el0)])) t
          refine XS.icmpNo X0.here hx rfl (hb hby d2_15) rfl (teq hc9).2 ?_
          show Steps p.tables e below (s₁.setTop (mkF m 18 #[.val (.ref a0), .val (.int (0 : Int32)), .val (.int p2), .val (.int p3), .val (.int p4)] [])) t
          refine XS.iconst X0.here hx rfl (hb hby d2_18) ?_
          show Steps p.tables e below (s₁.setTop (mkF m 19 #[.val (.ref a0), .val (.int (0 : Int32)), .val (.int p2), .val (.int p3), .val (.int p4)] [(.int (1 : Int32))])) t
          refine XS.goto X0.here hx rfl (pc0 := 19) (pc' := 23) rfl (hb hby d2_19) (by decide) (by decide) ?_
          exact k
        obtain ⟨fs, hr, hrun, hended, hW, hsame⟩ := X0.leave (v := some (.int (nar .boolean (1 : Int32)))) (fun h => by rw [Bd.returns] at h; cases h) hlk
        refine ⟨_, _, ?_, hrun, hended, _, _, rfl, ?_, ⟨_, rfl⟩, hW, hsame.mono (by decide) (by decide)⟩
        · show Steps p.tables e below (s₁.setTop (mkF m 23 #[.val (.ref a0), .val (.int (0 : Int32)), .val (.int p2), .val (.int p3), .val (.int p4)] [(.int (1 : Int32))])) _
          exact retN X0 hx (t := .boolean) Bd.returns (by simp) (hb hby d2_23) hr
        · show Qrm2_0 Z a0 p2 p3 p4 el0 el1 el2 el3 el4 el5 el6 el7 ka h0 n0 _ (s₁.setFrames fs).heap _
          rw [show (s₁.setFrames fs).heap = h0 from e0]
          exact ⟨congrArg (fun z => some (Value.int z)) (by rw [own_k0, if_neg hc1, if_neg hc6, if_pos hc9]; try rfl), N0, rfl⟩
      · refine OwnGo.of (A := s₁.setTop (mkF m 15 #[.val (.ref a0), .val (.int (0 : Int32)), .val (.int p2), .val (.int p3), .val (.int p4)] [(.int p4), (.int el0)])) (B := s₁.setTop (mkF m 23 #[.val (.ref a0), .val (.int (0 : Int32)), .val (.int p2), .val (.int p3), .val (.int p4)] [(.int (0 : Int32))])) (fun t k => ?_) ?_
        · show Steps p.tables e below (s₁.setTop (mkF m 15 #[.val (.ref a0), .val (.int (0 : Int32)), .val (.int p2), .val (.int p3), .val (.int p4)] [(.int p4), (.int el0)])) t
          refine XS.icmpYes X0.here hx rfl (pc0 := 15) (pc' := 22) rfl (hb hby d2_15) rfl (feq hc9).2 (by decide) (by decide) ?_
          show Steps p.tables e below (s₁.setTop (mkF m 22 #[.val (.ref a0), .val (.int (0 : Int32)), .val (.int p2), .val (.int p3), .val (.int p4)] [])) t
          refine XS.iconst X0.here hx rfl (hb hby d2_22) ?_
          exact k
        obtain ⟨fs, hr, hrun, hended, hW, hsame⟩ := X0.leave (v := some (.int (nar .boolean (0 : Int32)))) (fun h => by rw [Bd.returns] at h; cases h) hlk
        refine ⟨_, _, ?_, hrun, hended, _, _, rfl, ?_, ⟨_, rfl⟩, hW, hsame.mono (by decide) (by decide)⟩
        · show Steps p.tables e below (s₁.setTop (mkF m 23 #[.val (.ref a0), .val (.int (0 : Int32)), .val (.int p2), .val (.int p3), .val (.int p4)] [(.int (0 : Int32))])) _
          exact retN X0 hx (t := .boolean) Bd.returns (by simp) (hb hby d2_23) hr
        · show Qrm2_0 Z a0 p2 p3 p4 el0 el1 el2 el3 el4 el5 el6 el7 ka h0 n0 _ (s₁.setFrames fs).heap _
          rw [show (s₁.setFrames fs).heap = h0 from e0]
          exact ⟨congrArg (fun z => some (Value.int z)) (by rw [own_k0, if_neg hc1, if_neg hc6, if_neg hc9]; try rfl), N0, rfl⟩
def own_k1 (a0 : Addr) (p2 : Int32) (p3 : Int32) (p4 : Int32) (el0 : Int32) (el1 : Int32) (el2 : Int32) (el3 : Int32) (el4 : Int32) (el5 : Int32) (el6 : Int32) (el7 : Int32) (ka : ClassId) : Int32 := (if (1 : Int32) < p2 then (if el1 = p4 then (1 : Int32) else (0 : Int32)) else (if (1 : Int32) < p3 then (1 : Int32) else (if el1 = p4 then (1 : Int32) else (0 : Int32))))
theorem ef_rm2_1 (m : MethodId) (a0 : Addr) (p2 : Int32) (p3 : Int32) (p4 : Int32) : entryFrame m #[(.ref a0), (.int (1 : Int32)), (.int p2), (.int p3), (.int p4)] 5 = mkF m 0 #[.val (.ref a0), .val (.int (1 : Int32)), .val (.int p2), .val (.int p3), .val (.int p4)] [] := by first | (simp [entryFrame, mkF, argsToLocals, Value.category]; done) | rfl
def Qrm2_1 (Z : State) (a0 : Addr) (p2 : Int32) (p3 : Int32) (p4 : Int32) (el0 : Int32) (el1 : Int32) (el2 : Int32) (el3 : Int32) (el4 : Int32) (el5 : Int32) (el6 : Int32) (el7 : Int32) (ka : ClassId) (h0 : Heap) (n0 : Nat) (v : Option Value) (h : Heap) (L : List Loc) : Prop := v = some (.int (own_k1 a0 p2 p3 p4 el0 el1 el2 el3 el4 el5 el6 el7 ka)) ∧ Fr n0 L ∧ h = h0
set_option maxRecDepth 65536 in
set_option maxHeartbeats 40000000 in
theorem rm2_1 (l : Launch) (Z : State) (aw : Array Value) (hw : ∀ d ∈ tables_1, d.before aw Z = true) (ws : List Jvm.Cond) (a0 : Addr) (p2 : Int32) (p3 : Int32) (p4 : Int32) (el0 : Int32) (el1 : Int32) (el2 : Int32) (el3 : Int32) (el4 : Int32) (el5 : Int32) (el6 : Int32) (el7 : Int32) (ka : ClassId) (h0 : Heap) (n0 : Nat) (Z0 : n0 ≤ h0.size) (V_a : Arv Z h0 a0 ka .byte (8 : Int32) [(.int el0), (.int el1), (.int el2), (.int el3), (.int el4), (.int el5), (.int el6), (.int el7)] (.int (0 : Int32))) :
    MetFree l (⟨"com/example/sevenfold/sevenfold/NaturalWriteCodePointPinLaw", "kept", "([BIIIB)Z"⟩ : MethodName) (head1 (Jvm.Cond.code (⟨"com/example/sevenfold/sevenfold/NaturalWriteCodePointPinLaw", "kept", "([BIIIB)Z"⟩ : MethodName) method_2_code 5 (some .boolean) :: ws) ({ frames := 0, cells := 0, slots := 0, locals := 0 } : Room)) (fun a U => a = #[(.ref a0), (.int (1 : Int32)), (.int p2), (.int p3), (.int p4)] ∧ Z.Warmed39 U.vm ∧ U.heap = h0) (fun _ _ _ _ _ => True) (fun _ U o U' => ∃ v L, o = .returned v ∧ Qrm2_1 Z a0 p2 p3 p4 el0 el1 el2 el3 el4 el5 el6 el7 ka h0 n0 v U'.heap L ∧ FrameEnd U o U' L ({ frames := 0, cells := 0, slots := 0, locals := 0 } : Room).cells ({ frames := 0, cells := 0, slots := 0, locals := 0 } : Room).slots) := by
  refine MetFree.of_bodySF (plainFor_of_name pn_1) hisR ?_
  intro p e s m args below meth c s₁ Bd hml0 hP hK
  obtain ⟨rfl, hZ, hh⟩ := hP
  have hx := Bd.exec
  have hby := Bd.bytes
  have hml : c.maxLocals = 5 := hml0
  have hown : s.vm.findClass "com/example/sevenfold/sevenfold/NaturalWriteCodePointPinLaw" = some m.cls := findClass_of_methodNamed Bd.named
  have hnm := (name_of_methodNamed Bd.named Bd.method).1
  have X0 : Stand p l e ({ frames := 0, cells := 0, slots := 0, locals := 0 } : Room) s m #[(.ref a0), (.int (1 : Int32)), (.int p2), (.int p3), (.int p4)] below meth c s₁ [] 0 0 := Stand.of_body Bd
  have e0 : s₁.heap = h0 := by rw [← hh, Bd.state]; rfl
  have N0 := Fr.nil n0
  have hlk := Bd.notSynchronized
  show OwnGo p.tables e below _ (s₁.setTop (entryFrame m #[(.ref a0), (.int (1 : Int32)), (.int p2), (.int p3), (.int p4)] 5))
  rw [ef_rm2_1 m a0 p2 p3 p4]
  show OwnGo p.tables e below _ (s₁.setTop (mkF m 0 #[.val (.ref a0), .val (.int (1 : Int32)), .val (.int p2), .val (.int p3), .val (.int p4)] []))
  refine OwnGo.of (A := s₁.setTop (mkF m 0 #[.val (.ref a0), .val (.int (1 : Int32)), .val (.int p2), .val (.int p3), .val (.int p4)] [])) (B := s₁.setTop (mkF m 2 #[.val (.ref a0), .val (.int (1 : Int32)), .val (.int p2), .val (.int p3), .val (.int p4)] [(.int p2), (.int (1 : Int32))])) (fun t k => ?_) ?_
  · show Steps p.tables e below (s₁.setTop (mkF m 0 #[.val (.ref a0), .val (.int (1 : Int32)), .val (.int p2), .val (.int p3), .val (.int p4)] [])) t
    refine XS.iloadN X0.here hx rfl (hb hby d2_0) rfl ?_
    show Steps p.tables e below (s₁.setTop (mkF m 1 #[.val (.ref a0), .val (.int (1 : Int32)), .val (.int p2), .val (.int p3), .val (.int p4)] [(.int (1 : Int32))])) t
    refine XS.iloadN X0.here hx rfl (hb hby d2_1) rfl ?_
    exact k
  by_cases hc1 : (1 : Int32) < p2
  · refine OwnGo.of (A := s₁.setTop (mkF m 2 #[.val (.ref a0), .val (.int (1 : Int32)), .val (.int p2), .val (.int p3), .val (.int p4)] [(.int p2), (.int (1 : Int32))])) (B := s₁.setTop (mkF m 12 #[.val (.ref a0), .val (.int (1 : Int32)), .val (.int p2), .val (.int p3), .val (.int p4)] [(.int (1 : Int32)), (.ref a0)])) (fun t k => ?_) ?_
    · show Steps p.tables e below (s₁.setTop (mkF m 2 #[.val (.ref a0), .val (.int (1 : Int32)), .val (.int p2), .val (.int p3), .val (.int p4)] [(.int p2), (.int (1 : Int32))])) t
      refine XS.icmpYes X0.here hx rfl (pc0 := 2) (pc' := 10) rfl (hb hby d2_2) rfl (tlt hc1).1 (by decide) (by decide) ?_
      show Steps p.tables e below (s₁.setTop (mkF m 10 #[.val (.ref a0), .val (.int (1 : Int32)), .val (.int p2), .val (.int p3), .val (.int p4)] [])) t
      refine XS.aloadN X0.here hx rfl (hb hby d2_10) rfl rfl ?_
      show Steps p.tables e below (s₁.setTop (mkF m 11 #[.val (.ref a0), .val (.int (1 : Int32)), .val (.int p2), .val (.int p3), .val (.int p4)] [(.ref a0)])) t
      refine XS.iloadN X0.here hx rfl (hb hby d2_11) rfl ?_
      exact k
    have cq2 := V_a
    obtain ⟨clq2, Arq2, qq2, Sq2, Nq2, Hq2, Gq2⟩ := cq2
    have hinq2 := inb_of (j := (1 : Int32)) Sq2 ⟨by decide, by decide⟩
    refine OwnGo.of (X0.baloadBytes hx (j := (1 : Int32)) (v := (.int el1)) (by rw [e0]; exact Arq2.1) (State.isArrayOf_alike hZ.alike Arq2.2.1) Arq2.2.2 hinq2 (Hq2.at hinq2 rfl) (g := (mkF m 12 #[.val (.ref a0), .val (.int (1 : Int32)), .val (.int p2), .val (.int p3), .val (.int p4)] [(.int (1 : Int32)), (.ref a0)])) rfl rfl (hb hby d2_12)) ?_
    show OwnGo p.tables e below _ (s₁.setTop (mkF m 13 #[.val (.ref a0), .val (.int (1 : Int32)), .val (.int p2), .val (.int p3), .val (.int p4)] [(.int el1)]))
    refine OwnGo.of (A := s₁.setTop (mkF m 13 #[.val (.ref a0), .val (.int (1 : Int32)), .val (.int p2), .val (.int p3), .val (.int p4)] [(.int el1)])) (B := s₁.setTop (mkF m 15 #[.val (.ref a0), .val (.int (1 : Int32)), .val (.int p2), .val (.int p3), .val (.int p4)] [(.int p4), (.int el1)])) (fun t k => ?_) ?_
    · show Steps p.tables e below (s₁.setTop (mkF m 13 #[.val (.ref a0), .val (.int (1 : Int32)), .val (.int p2), .val (.int p3), .val (.int p4)] [(.int el1)])) t
      refine XS.iload X0.here hx rfl (hb hby d2_13) rfl ?_
      exact k
    by_cases hc3 : el1 = p4
    · refine OwnGo.of (A := s₁.setTop (mkF m 15 #[.val (.ref a0), .val (.int (1 : Int32)), .val (.int p2), .val (.int p3), .val (.int p4)] [(.int p4), (.int el1)])) (B := s₁.setTop (mkF m 23 #[.val (.ref a0), .val (.int (1 : Int32)), .val (.int p2), .val (.int p3), .val (.int p4)] [(.int (1 : Int32))])) (fun t k => ?_) ?_
      · show Steps p.tables e below (s₁.setTop (mkF m 15 #[.val (.ref a0), .val (.int (1 : Int32)), .val (.int p2), .val (.int p3), .val (.int p4)] [(.int p4), (.int el1)])) t
        refine XS.icmpNo X0.here hx rfl (hb hby d2_15) rfl (teq hc3).2 ?_
        show Steps p.tables e below (s₁.setTop (mkF m 18 #[.val (.ref a0), .val (.int (1 : Int32)), .val (.int p2), .val (.int p3), .val (.int p4)] [])) t
        refine XS.iconst X0.here hx rfl (hb hby d2_18) ?_
        show Steps p.tables e below (s₁.setTop (mkF m 19 #[.val (.ref a0), .val (.int (1 : Int32)), .val (.int p2), .val (.int p3), .val (.int p4)] [(.int (1 : Int32))])) t
        refine XS.goto X0.here hx rfl (pc0 := 19) (pc' := 23) rfl (hb hby d2_19) (by decide) (by decide) ?_
        exact k
      obtain ⟨fs, hr, hrun, hended, hW, hsame⟩ := X0.leave (v := some (.int (nar .boolean (1 : Int32)))) (fun h => by rw [Bd.returns] at h; cases h) hlk
      refine ⟨_, _, ?_, hrun, hended, _, _, rfl, ?_, ⟨_, rfl⟩, hW, hsame.mono (by decide) (by decide)⟩
      · show Steps p.tables e below (s₁.setTop (mkF m 23 #[.val (.ref a0), .val (.int (1 : Int32)), .val (.int p2), .val (.int p3), .val (.int p4)] [(.int (1 : Int32))])) _
        exact retN X0 hx (t := .boolean) Bd.returns (by simp) (hb hby d2_23) hr
      · show Qrm2_1 Z a0 p2 p3 p4 el0 el1 el2 el3 el4 el5 el6 el7 ka h0 n0 _ (s₁.setFrames fs).heap _
        rw [show (s₁.setFrames fs).heap = h0 from e0]
        exact ⟨congrArg (fun z => some (Value.int z)) (by rw [own_k1, if_pos hc1, if_pos hc3]; try rfl), N0, rfl⟩
    · refine OwnGo.of (A := s₁.setTop (mkF m 15 #[.val (.ref a0), .val (.int (1 : Int32)), .val (.int p2), .val (.int p3), .val (.int p4)] [(.int p4), (.int el1)])) (B := s₁.setTop (mkF m 23 #[.val (.ref a0), .val (.int (1 : Int32)), .val (.int p2), .val (.int p3), .val (.int p4)] [(.int (0 : Int32))])) (fun t k => ?_) ?_
      · show Steps p.tables e below (s₁.setTop (mkF m 15 #[.val (.ref a0), .val (.int (1 : Int32)), .val (.int p2), .val (.int p3), .val (.int p4)] [(.int p4), (.int el1)])) t
        refine XS.icmpYes X0.here hx rfl (pc0 := 15) (pc' := 22) rfl (hb hby d2_15) rfl (feq hc3).2 (by decide) (by decide) ?_
        show Steps p.tables e below (s₁.setTop (mkF m 22 #[.val (.ref a0), .val (.int (1 : Int32)), .val (.int p2), .val (.int p3), .val (.int p4)] [])) t
        refine XS.iconst X0.here hx rfl (hb hby d2_22) ?_
        exact k
      obtain ⟨fs, hr, hrun, hended, hW, hsame⟩ := X0.leave (v := some (.int (nar .boolean (0 : Int32)))) (fun h => by rw [Bd.returns] at h; cases h) hlk
      refine ⟨_, _, ?_, hrun, hended, _, _, rfl, ?_, ⟨_, rfl⟩, hW, hsame.mono (by decide) (by decide)⟩
      · show Steps p.tables e below (s₁.setTop (mkF m 23 #[.val (.ref a0), .val (.int (1 : Int32)), .val (.int p2), .val (.int p3), .val (.int p4)] [(.int (0 : Int32))])) _
        exact retN X0 hx (t := .boolean) Bd.returns (by simp) (hb hby d2_23) hr
      · show Qrm2_1 Z a0 p2 p3 p4 el0 el1 el2 el3 el4 el5 el6 el7 ka h0 n0 _ (s₁.setFrames fs).heap _
        rw [show (s₁.setFrames fs).heap = h0 from e0]
        exact ⟨congrArg (fun z => some (Value.int z)) (by rw [own_k1, if_pos hc1, if_neg hc3]; try rfl), N0, rfl⟩
  · refine OwnGo.of (A := s₁.setTop (mkF m 2 #[.val (.ref a0), .val (.int (1 : Int32)), .val (.int p2), .val (.int p3), .val (.int p4)] [(.int p2), (.int (1 : Int32))])) (B := s₁.setTop (mkF m 7 #[.val (.ref a0), .val (.int (1 : Int32)), .val (.int p2), .val (.int p3), .val (.int p4)] [(.int p3), (.int (1 : Int32))])) (fun t k => ?_) ?_
    · show Steps p.tables e below (s₁.setTop (mkF m 2 #[.val (.ref a0), .val (.int (1 : Int32)), .val (.int p2), .val (.int p3), .val (.int p4)] [(.int p2), (.int (1 : Int32))])) t
      refine XS.icmpNo X0.here hx rfl (hb hby d2_2) rfl (flt hc1).1 ?_
      show Steps p.tables e below (s₁.setTop (mkF m 5 #[.val (.ref a0), .val (.int (1 : Int32)), .val (.int p2), .val (.int p3), .val (.int p4)] [])) t
      refine XS.iloadN X0.here hx rfl (hb hby d2_5) rfl ?_
      show Steps p.tables e below (s₁.setTop (mkF m 6 #[.val (.ref a0), .val (.int (1 : Int32)), .val (.int p2), .val (.int p3), .val (.int p4)] [(.int (1 : Int32))])) t
      refine XS.iloadN X0.here hx rfl (hb hby d2_6) rfl ?_
      exact k
    by_cases hc6 : (1 : Int32) < p3
    · refine OwnGo.of (A := s₁.setTop (mkF m 7 #[.val (.ref a0), .val (.int (1 : Int32)), .val (.int p2), .val (.int p3), .val (.int p4)] [(.int p3), (.int (1 : Int32))])) (B := s₁.setTop (mkF m 23 #[.val (.ref a0), .val (.int (1 : Int32)), .val (.int p2), .val (.int p3), .val (.int p4)] [(.int (1 : Int32))])) (fun t k => ?_) ?_
      · show Steps p.tables e below (s₁.setTop (mkF m 7 #[.val (.ref a0), .val (.int (1 : Int32)), .val (.int p2), .val (.int p3), .val (.int p4)] [(.int p3), (.int (1 : Int32))])) t
        refine XS.icmpYes X0.here hx rfl (pc0 := 7) (pc' := 18) rfl (hb hby d2_7) rfl (tlt hc6).1 (by decide) (by decide) ?_
        show Steps p.tables e below (s₁.setTop (mkF m 18 #[.val (.ref a0), .val (.int (1 : Int32)), .val (.int p2), .val (.int p3), .val (.int p4)] [])) t
        refine XS.iconst X0.here hx rfl (hb hby d2_18) ?_
        show Steps p.tables e below (s₁.setTop (mkF m 19 #[.val (.ref a0), .val (.int (1 : Int32)), .val (.int p2), .val (.int p3), .val (.int p4)] [(.int (1 : Int32))])) t
        refine XS.goto X0.here hx rfl (pc0 := 19) (pc' := 23) rfl (hb hby d2_19) (by decide) (by decide) ?_
        exact k
      obtain ⟨fs, hr, hrun, hended, hW, hsame⟩ := X0.leave (v := some (.int (nar .boolean (1 : Int32)))) (fun h => by rw [Bd.returns] at h; cases h) hlk
      refine ⟨_, _, ?_, hrun, hended, _, _, rfl, ?_, ⟨_, rfl⟩, hW, hsame.mono (by decide) (by decide)⟩
      · show Steps p.tables e below (s₁.setTop (mkF m 23 #[.val (.ref a0), .val (.int (1 : Int32)), .val (.int p2), .val (.int p3), .val (.int p4)] [(.int (1 : Int32))])) _
        exact retN X0 hx (t := .boolean) Bd.returns (by simp) (hb hby d2_23) hr
      · show Qrm2_1 Z a0 p2 p3 p4 el0 el1 el2 el3 el4 el5 el6 el7 ka h0 n0 _ (s₁.setFrames fs).heap _
        rw [show (s₁.setFrames fs).heap = h0 from e0]
        exact ⟨congrArg (fun z => some (Value.int z)) (by rw [own_k1, if_neg hc1, if_pos hc6]; try rfl), N0, rfl⟩
    · refine OwnGo.of (A := s₁.setTop (mkF m 7 #[.val (.ref a0), .val (.int (1 : Int32)), .val (.int p2), .val (.int p3), .val (.int p4)] [(.int p3), (.int (1 : Int32))])) (B := s₁.setTop (mkF m 12 #[.val (.ref a0), .val (.int (1 : Int32)), .val (.int p2), .val (.int p3), .val (.int p4)] [(.int (1 : Int32)), (.ref a0)])) (fun t k => ?_) ?_
      · show Steps p.tables e below (s₁.setTop (mkF m 7 #[.val (.ref a0), .val (.int (1 : Int32)), .val (.int p2), .val (.int p3), .val (.int p4)] [(.int p3), (.int (1 : Int32))])) t
        refine XS.icmpNo X0.here hx rfl (hb hby d2_7) rfl (flt hc6).1 ?_
        show Steps p.tables e below (s₁.setTop (mkF m 10 #[.val (.ref a0), .val (.int (1 : Int32)), .val (.int p2), .val (.int p3), .val (.int p4)] [])) t
        refine XS.aloadN X0.here hx rfl (hb hby d2_10) rfl rfl ?_
        show Steps p.tables e below (s₁.setTop (mkF m 11 #[.val (.ref a0), .val (.int (1 : Int32)), .val (.int p2), .val (.int p3), .val (.int p4)] [(.ref a0)])) t
        refine XS.iloadN X0.here hx rfl (hb hby d2_11) rfl ?_
        exact k
      have cq8 := V_a
      obtain ⟨clq8, Arq8, qq8, Sq8, Nq8, Hq8, Gq8⟩ := cq8
      have hinq8 := inb_of (j := (1 : Int32)) Sq8 ⟨by decide, by decide⟩
      refine OwnGo.of (X0.baloadBytes hx (j := (1 : Int32)) (v := (.int el1)) (by rw [e0]; exact Arq8.1) (State.isArrayOf_alike hZ.alike Arq8.2.1) Arq8.2.2 hinq8 (Hq8.at hinq8 rfl) (g := (mkF m 12 #[.val (.ref a0), .val (.int (1 : Int32)), .val (.int p2), .val (.int p3), .val (.int p4)] [(.int (1 : Int32)), (.ref a0)])) rfl rfl (hb hby d2_12)) ?_
      show OwnGo p.tables e below _ (s₁.setTop (mkF m 13 #[.val (.ref a0), .val (.int (1 : Int32)), .val (.int p2), .val (.int p3), .val (.int p4)] [(.int el1)]))
      refine OwnGo.of (A := s₁.setTop (mkF m 13 #[.val (.ref a0), .val (.int (1 : Int32)), .val (.int p2), .val (.int p3), .val (.int p4)] [(.int el1)])) (B := s₁.setTop (mkF m 15 #[.val (.ref a0), .val (.int (1 : Int32)), .val (.int p2), .val (.int p3), .val (.int p4)] [(.int p4), (.int el1)])) (fun t k => ?_) ?_
      · show Steps p.tables e below (s₁.setTop (mkF m 13 #[.val (.ref a0), .val (.int (1 : Int32)), .val (.int p2), .val (.int p3), .val (.int p4)] [(.int el1)])) t
        refine XS.iload X0.here hx rfl (hb hby d2_13) rfl ?_
        exact k
      by_cases hc9 : el1 = p4
      · refine OwnGo.of (A := s₁.setTop (mkF m 15 #[.val (.ref a0), .val (.int (1 : Int32)), .val (.int p2), .val (.int p3), .val (.int p4)] [(.int p4), (.int el1)])) (B := s₁.setTop (mkF m 23 #[.val (.ref a0), .val (.int (1 : Int32)), .val (.int p2), .val (.int p3), .val (.int p4)] [(.int (1 : Int32))])) (fun t k => ?_) ?_
        · show Steps p.tables e below (s₁.setTop (mkF m 15 #[.val (.ref a0), .val (.int (1 : Int32)), .val (.int p2), .val (.int p3), .val (.int p4)] [(.int p4), (.int el1)])) t
          refine XS.icmpNo X0.here hx rfl (hb hby d2_15) rfl (teq hc9).2 ?_
          show Steps p.tables e below (s₁.setTop (mkF m 18 #[.val (.ref a0), .val (.int (1 : Int32)), .val (.int p2), .val (.int p3), .val (.int p4)] [])) t
          refine XS.iconst X0.here hx rfl (hb hby d2_18) ?_
          show Steps p.tables e below (s₁.setTop (mkF m 19 #[.val (.ref a0), .val (.int (1 : Int32)), .val (.int p2), .val (.int p3), .val (.int p4)] [(.int (1 : Int32))])) t
          refine XS.goto X0.here hx rfl (pc0 := 19) (pc' := 23) rfl (hb hby d2_19) (by decide) (by decide) ?_
          exact k
        obtain ⟨fs, hr, hrun, hended, hW, hsame⟩ := X0.leave (v := some (.int (nar .boolean (1 : Int32)))) (fun h => by rw [Bd.returns] at h; cases h) hlk
        refine ⟨_, _, ?_, hrun, hended, _, _, rfl, ?_, ⟨_, rfl⟩, hW, hsame.mono (by decide) (by decide)⟩
        · show Steps p.tables e below (s₁.setTop (mkF m 23 #[.val (.ref a0), .val (.int (1 : Int32)), .val (.int p2), .val (.int p3), .val (.int p4)] [(.int (1 : Int32))])) _
          exact retN X0 hx (t := .boolean) Bd.returns (by simp) (hb hby d2_23) hr
        · show Qrm2_1 Z a0 p2 p3 p4 el0 el1 el2 el3 el4 el5 el6 el7 ka h0 n0 _ (s₁.setFrames fs).heap _
          rw [show (s₁.setFrames fs).heap = h0 from e0]
          exact ⟨congrArg (fun z => some (Value.int z)) (by rw [own_k1, if_neg hc1, if_neg hc6, if_pos hc9]; try rfl), N0, rfl⟩
      · refine OwnGo.of (A := s₁.setTop (mkF m 15 #[.val (.ref a0), .val (.int (1 : Int32)), .val (.int p2), .val (.int p3), .val (.int p4)] [(.int p4), (.int el1)])) (B := s₁.setTop (mkF m 23 #[.val (.ref a0), .val (.int (1 : Int32)), .val (.int p2), .val (.int p3), .val (.int p4)] [(.int (0 : Int32))])) (fun t k => ?_) ?_
        · show Steps p.tables e below (s₁.setTop (mkF m 15 #[.val (.ref a0), .val (.int (1 : Int32)), .val (.int p2), .val (.int p3), .val (.int p4)] [(.int p4), (.int el1)])) t
          refine XS.icmpYes X0.here hx rfl (pc0 := 15) (pc' := 22) rfl (hb hby d2_15) rfl (feq hc9).2 (by decide) (by decide) ?_
          show Steps p.tables e below (s₁.setTop (mkF m 22 #[.val (.ref a0), .val (.int (1 : Int32)), .val (.int p2), .val (.int p3), .val (.int p4)] [])) t
          refine XS.iconst X0.here hx rfl (hb hby d2_22) ?_
          exact k
        obtain ⟨fs, hr, hrun, hended, hW, hsame⟩ := X0.leave (v := some (.int (nar .boolean (0 : Int32)))) (fun h => by rw [Bd.returns] at h; cases h) hlk
        refine ⟨_, _, ?_, hrun, hended, _, _, rfl, ?_, ⟨_, rfl⟩, hW, hsame.mono (by decide) (by decide)⟩
        · show Steps p.tables e below (s₁.setTop (mkF m 23 #[.val (.ref a0), .val (.int (1 : Int32)), .val (.int p2), .val (.int p3), .val (.int p4)] [(.int (0 : Int32))])) _
          exact retN X0 hx (t := .boolean) Bd.returns (by simp) (hb hby d2_23) hr
        · show Qrm2_1 Z a0 p2 p3 p4 el0 el1 el2 el3 el4 el5 el6 el7 ka h0 n0 _ (s₁.setFrames fs).heap _
          rw [show (s₁.setFrames fs).heap = h0 from e0]
          exact ⟨congrArg (fun z => some (Value.int z)) (by rw [own_k1, if_neg hc1, if_neg hc6, if_neg hc9]; try rfl), N0, rfl⟩
def own_k2 (a0 : Addr) (p2 : Int32) (p3 : Int32) (p4 : Int32) (el0 : Int32) (el1 : Int32) (el2 : Int32) (el3 : Int32) (el4 : Int32) (el5 : Int32) (el6 : Int32) (el7 : Int32) (ka : ClassId) : Int32 := (if (2 : Int32) < p2 then (if el2 = p4 then (1 : Int32) else (0 : Int32)) else (if (2 : Int32) < p3 then (1 : Int32) else (if el2 = p4 then (1 : Int32) else (0 : Int32))))
theorem ef_rm2_2 (m : MethodId) (a0 : Addr) (p2 : Int32) (p3 : Int32) (p4 : Int32) : entryFrame m #[(.ref a0), (.int (2 : Int32)), (.int p2), (.int p3), (.int p4)] 5 = mkF m 0 #[.val (.ref a0), .val (.int (2 : Int32)), .val (.int p2), .val (.int p3), .val (.int p4)] [] := by first | (simp [entryFrame, mkF, argsToLocals, Value.category]; done) | rfl
def Qrm2_2 (Z : State) (a0 : Addr) (p2 : Int32) (p3 : Int32) (p4 : Int32) (el0 : Int32) (el1 : Int32) (el2 : Int32) (el3 : Int32) (el4 : Int32) (el5 : Int32) (el6 : Int32) (el7 : Int32) (ka : ClassId) (h0 : Heap) (n0 : Nat) (v : Option Value) (h : Heap) (L : List Loc) : Prop := v = some (.int (own_k2 a0 p2 p3 p4 el0 el1 el2 el3 el4 el5 el6 el7 ka)) ∧ Fr n0 L ∧ h = h0
set_option maxRecDepth 65536 in
set_option maxHeartbeats 40000000 in
theorem rm2_2 (l : Launch) (Z : State) (aw : Array Value) (hw : ∀ d ∈ tables_1, d.before aw Z = true) (ws : List Jvm.Cond) (a0 : Addr) (p2 : Int32) (p3 : Int32) (p4 : Int32) (el0 : Int32) (el1 : Int32) (el2 : Int32) (el3 : Int32) (el4 : Int32) (el5 : Int32) (el6 : Int32) (el7 : Int32) (ka : ClassId) (h0 : Heap) (n0 : Nat) (Z0 : n0 ≤ h0.size) (V_a : Arv Z h0 a0 ka .byte (8 : Int32) [(.int el0), (.int el1), (.int el2), (.int el3), (.int el4), (.int el5), (.int el6), (.int el7)] (.int (0 : Int32))) :
    MetFree l (⟨"com/example/sevenfold/sevenfold/NaturalWriteCodePointPinLaw", "kept", "([BIIIB)Z"⟩ : MethodName) (head1 (Jvm.Cond.code (⟨"com/example/sevenfold/sevenfold/NaturalWriteCodePointPinLaw", "kept", "([BIIIB)Z"⟩ : MethodName) method_2_code 5 (some .boolean) :: ws) ({ frames := 0, cells := 0, slots := 0, locals := 0 } : Room)) (fun a U => a = #[(.ref a0), (.int (2 : Int32)), (.int p2), (.int p3), (.int p4)] ∧ Z.Warmed39 U.vm ∧ U.heap = h0) (fun _ _ _ _ _ => True) (fun _ U o U' => ∃ v L, o = .returned v ∧ Qrm2_2 Z a0 p2 p3 p4 el0 el1 el2 el3 el4 el5 el6 el7 ka h0 n0 v U'.heap L ∧ FrameEnd U o U' L ({ frames := 0, cells := 0, slots := 0, locals := 0 } : Room).cells ({ frames := 0, cells := 0, slots := 0, locals := 0 } : Room).slots) := by
  refine MetFree.of_bodySF (plainFor_of_name pn_1) hisR ?_
  intro p e s m args below meth c s₁ Bd hml0 hP hK
  obtain ⟨rfl, hZ, hh⟩ := hP
  have hx := Bd.exec
  have hby := Bd.bytes
  have hml : c.maxLocals = 5 := hml0
  have hown : s.vm.findClass "com/example/sevenfold/sevenfold/NaturalWriteCodePointPinLaw" = some m.cls := findClass_of_methodNamed Bd.named
  have hnm := (name_of_methodNamed Bd.named Bd.method).1
  have X0 : Stand p l e ({ frames := 0, cells := 0, slots := 0, locals := 0 } : Room) s m #[(.ref a0), (.int (2 : Int32)), (.int p2), (.int p3), (.int p4)] below meth c s₁ [] 0 0 := Stand.of_body Bd
  have e0 : s₁.heap = h0 := by rw [← hh, Bd.state]; rfl
  have N0 := Fr.nil n0
  have hlk := Bd.notSynchronized
  show OwnGo p.tables e below _ (s₁.setTop (entryFrame m #[(.ref a0), (.int (2 : Int32)), (.int p2), (.int p3), (.int p4)] 5))
  rw [ef_rm2_2 m a0 p2 p3 p4]
  show OwnGo p.tables e below _ (s₁.setTop (mkF m 0 #[.val (.ref a0), .val (.int (2 : Int32)), .val (.int p2), .val (.int p3), .val (.int p4)] []))
  refine OwnGo.of (A := s₁.setTop (mkF m 0 #[.val (.ref a0), .val (.int (2 : Int32)), .val (.int p2), .val (.int p3), .val (.int p4)] [])) (B := s₁.setTop (mkF m 2 #[.val (.ref a0), .val (.int (2 : Int32)), .val (.int p2), .val (.int p3), .val (.int p4)] [(.int p2), (.int (2 : Int32))])) (fun t k => ?_) ?_
  · show Steps p.tables e below (s₁.setTop (mkF m 0 #[.val (.ref a0), .val (.int (2 : Int32)), .val (.int p2), .val (.int p3), .val (.int p4)] [])) t
    refine XS.iloadN X0.here hx rfl (hb hby d2_0) rfl ?_
    show Steps p.tables e below (s₁.setTop (mkF m 1 #[.val (.ref a0), .val (.int (2 : Int32)), .val (.int p2), .val (.int p3), .val (.int p4)] [(.int (2 : Int32))])) t
    refine XS.iloadN X0.here hx rfl (hb hby d2_1) rfl ?_
    exact k
  by_cases hc1 : (2 : Int32) < p2
  · refine OwnGo.of (A := s₁.setTop (mkF m 2 #[.val (.ref a0), .val (.int (2 : Int32)), .val (.int p2), .val (.int p3), .val (.int p4)] [(.int p2), (.int (2 : Int32))])) (B := s₁.setTop (mkF m 12 #[.val (.ref a0), .val (.int (2 : Int32)), .val (.int p2), .val (.int p3), .val (.int p4)] [(.int (2 : Int32)), (.ref a0)])) (fun t k => ?_) ?_
    · show Steps p.tables e below (s₁.setTop (mkF m 2 #[.val (.ref a0), .val (.int (2 : Int32)), .val (.int p2), .val (.int p3), .val (.int p4)] [(.int p2), (.int (2 : Int32))])) t
      refine XS.icmpYes X0.here hx rfl (pc0 := 2) (pc' := 10) rfl (hb hby d2_2) rfl (tlt hc1).1 (by decide) (by decide) ?_
      show Steps p.tables e below (s₁.setTop (mkF m 10 #[.val (.ref a0), .val (.int (2 : Int32)), .val (.int p2), .val (.int p3), .val (.int p4)] [])) t
      refine XS.aloadN X0.here hx rfl (hb hby d2_10) rfl rfl ?_
      show Steps p.tables e below (s₁.setTop (mkF m 11 #[.val (.ref a0), .val (.int (2 : Int32)), .val (.int p2), .val (.int p3), .val (.int p4)] [(.ref a0)])) t
      refine XS.iloadN X0.here hx rfl (hb hby d2_11) rfl ?_
      exact k
    have cq2 := V_a
    obtain ⟨clq2, Arq2, qq2, Sq2, Nq2, Hq2, Gq2⟩ := cq2
    have hinq2 := inb_of (j := (2 : Int32)) Sq2 ⟨by decide, by decide⟩
    refine OwnGo.of (X0.baloadBytes hx (j := (2 : Int32)) (v := (.int el2)) (by rw [e0]; exact Arq2.1) (State.isArrayOf_alike hZ.alike Arq2.2.1) Arq2.2.2 hinq2 (Hq2.at hinq2 rfl) (g := (mkF m 12 #[.val (.ref a0), .val (.int (2 : Int32)), .val (.int p2), .val (.int p3), .val (.int p4)] [(.int (2 : Int32)), (.ref a0)])) rfl rfl (hb hby d2_12)) ?_
    show OwnGo p.tables e below _ (s₁.setTop (mkF m 13 #[.val (.ref a0), .val (.int (2 : Int32)), .val (.int p2), .val (.int p3), .val (.int p4)] [(.int el2)]))
    refine OwnGo.of (A := s₁.setTop (mkF m 13 #[.val (.ref a0), .val (.int (2 : Int32)), .val (.int p2), .val (.int p3), .val (.int p4)] [(.int el2)])) (B := s₁.setTop (mkF m 15 #[.val (.ref a0), .val (.int (2 : Int32)), .val (.int p2), .val (.int p3), .val (.int p4)] [(.int p4), (.int el2)])) (fun t k => ?_) ?_
    · show Steps p.tables e below (s₁.setTop (mkF m 13 #[.val (.ref a0), .val (.int (2 : Int32)), .val (.int p2), .val (.int p3), .val (.int p4)] [(.int el2)])) t
      refine XS.iload X0.here hx rfl (hb hby d2_13) rfl ?_
      exact k
    by_cases hc3 : el2 = p4
    · refine OwnGo.of (A := s₁.setTop (mkF m 15 #[.val (.ref a0), .val (.int (2 : Int32)), .val (.int p2), .val (.int p3), .val (.int p4)] [(.int p4), (.int el2)])) (B := s₁.setTop (mkF m 23 #[.val (.ref a0), .val (.int (2 : Int32)), .val (.int p2), .val (.int p3), .val (.int p4)] [(.int (1 : Int32))])) (fun t k => ?_) ?_
      · show Steps p.tables e below (s₁.setTop (mkF m 15 #[.val (.ref a0), .val (.int (2 : Int32)), .val (.int p2), .val (.int p3), .val (.int p4)] [(.int p4), (.int el2)])) t
        refine XS.icmpNo X0.here hx rfl (hb hby d2_15) rfl (teq hc3).2 ?_
        show Steps p.tables e below (s₁.setTop (mkF m 18 #[.val (.ref a0), .val (.int (2 : Int32)), .val (.int p2), .val (.int p3), .val (.int p4)] [])) t
        refine XS.iconst X0.here hx rfl (hb hby d2_18) ?_
        show Steps p.tables e below (s₁.setTop (mkF m 19 #[.val (.ref a0), .val (.int (2 : Int32)), .val (.int p2), .val (.int p3), .val (.int p4)] [(.int (1 : Int32))])) t
        refine XS.goto X0.here hx rfl (pc0 := 19) (pc' := 23) rfl (hb hby d2_19) (by decide) (by decide) ?_
        exact k
      obtain ⟨fs, hr, hrun, hended, hW, hsame⟩ := X0.leave (v := some (.int (nar .boolean (1 : Int32)))) (fun h => by rw [Bd.returns] at h; cases h) hlk
      refine ⟨_, _, ?_, hrun, hended, _, _, rfl, ?_, ⟨_, rfl⟩, hW, hsame.mono (by decide) (by decide)⟩
      · show Steps p.tables e below (s₁.setTop (mkF m 23 #[.val (.ref a0), .val (.int (2 : Int32)), .val (.int p2), .val (.int p3), .val (.int p4)] [(.int (1 : Int32))])) _
        exact retN X0 hx (t := .boolean) Bd.returns (by simp) (hb hby d2_23) hr
      · show Qrm2_2 Z a0 p2 p3 p4 el0 el1 el2 el3 el4 el5 el6 el7 ka h0 n0 _ (s₁.setFrames fs).heap _
        rw [show (s₁.setFrames fs).heap = h0 from e0]
        exact ⟨congrArg (fun z => some (Value.int z)) (by rw [own_k2, if_pos hc1, if_pos hc3]; try rfl), N0, rfl⟩
    · refine OwnGo.of (A := s₁.setTop (mkF m 15 #[.val (.ref a0), .val (.int (2 : Int32)), .val (.int p2), .val (.int p3), .val (.int p4)] [(.int p4), (.int el2)])) (B := s₁.setTop (mkF m 23 #[.val (.ref a0), .val (.int (2 : Int32)), .val (.int p2), .val (.int p3), .val (.int p4)] [(.int (0 : Int32))])) (fun t k => ?_) ?_
      · show Steps p.tables e below (s₁.setTop (mkF m 15 #[.val (.ref a0), .val (.int (2 : Int32)), .val (.int p2), .val (.int p3), .val (.int p4)] [(.int p4), (.int el2)])) t
        refine XS.icmpYes X0.here hx rfl (pc0 := 15) (pc' := 22) rfl (hb hby d2_15) rfl (feq hc3).2 (by decide) (by decide) ?_
        show Steps p.tables e below (s₁.setTop (mkF m 22 #[.val (.ref a0), .val (.int (2 : Int32)), .val (.int p2), .val (.int p3), .val (.int p4)] [])) t
        refine XS.iconst X0.here hx rfl (hb hby d2_22) ?_
        exact k
      obtain ⟨fs, hr, hrun, hended, hW, hsame⟩ := X0.leave (v := some (.int (nar .boolean (0 : Int32)))) (fun h => by rw [Bd.returns] at h; cases h) hlk
      refine ⟨_, _, ?_, hrun, hended, _, _, rfl, ?_, ⟨_, rfl⟩, hW, hsame.mono (by decide) (by decide)⟩
      · show Steps p.tables e below (s₁.setTop (mkF m 23 #[.val (.ref a0), .val (.int (2 : Int32)), .val (.int p2), .val (.int p3), .val (.int p4)] [(.int (0 : Int32))])) _
        exact retN X0 hx (t := .boolean) Bd.returns (by simp) (hb hby d2_23) hr
      · show Qrm2_2 Z a0 p2 p3 p4 el0 el1 el2 el3 el4 el5 el6 el7 ka h0 n0 _ (s₁.setFrames fs).heap _
        rw [show (s₁.setFrames fs).heap = h0 from e0]
        exact ⟨congrArg (fun z => some (Value.int z)) (by rw [own_k2, if_pos hc1, if_neg hc3]; try rfl), N0, rfl⟩
  · refine OwnGo.of (A := s₁.setTop (mkF m 2 #[.val (.ref a0), .val (.int (2 : Int32)), .val (.int p2), .val (.int p3), .val (.int p4)] [(.int p2), (.int (2 : Int32))])) (B := s₁.setTop (mkF m 7 #[.val (.ref a0), .val (.int (2 : Int32)), .val (.int p2), .val (.int p3), .val (.int p4)] [(.int p3), (.int (2 : Int32))])) (fun t k => ?_) ?_
    · show Steps p.tables e below (s₁.setTop (mkF m 2 #[.val (.ref a0), .val (.int (2 : Int32)), .val (.int p2), .val (.int p3), .val (.int p4)] [(.int p2), (.int (2 : Int32))])) t
      refine XS.icmpNo X0.here hx rfl (hb hby d2_2) rfl (flt hc1).1 ?_
      show Steps p.tables e below (s₁.setTop (mkF m 5 #[.val (.ref a0), .val (.int (2 : Int32)), .val (.int p2), .val (.int p3), .val (.int p4)] [])) t
      refine XS.iloadN X0.here hx rfl (hb hby d2_5) rfl ?_
      show Steps p.tables e below (s₁.setTop (mkF m 6 #[.val (.ref a0), .val (.int (2 : Int32)), .val (.int p2), .val (.int p3), .val (.int p4)] [(.int (2 : Int32))])) t
      refine XS.iloadN X0.here hx rfl (hb hby d2_6) rfl ?_
      exact k
    by_cases hc6 : (2 : Int32) < p3
    · refine OwnGo.of (A := s₁.setTop (mkF m 7 #[.val (.ref a0), .val (.int (2 : Int32)), .val (.int p2), .val (.int p3), .val (.int p4)] [(.int p3), (.int (2 : Int32))])) (B := s₁.setTop (mkF m 23 #[.val (.ref a0), .val (.int (2 : Int32)), .val (.int p2), .val (.int p3), .val (.int p4)] [(.int (1 : Int32))])) (fun t k => ?_) ?_
      · show Steps p.tables e below (s₁.setTop (mkF m 7 #[.val (.ref a0), .val (.int (2 : Int32)), .val (.int p2), .val (.int p3), .val (.int p4)] [(.int p3), (.int (2 : Int32))])) t
        refine XS.icmpYes X0.here hx rfl (pc0 := 7) (pc' := 18) rfl (hb hby d2_7) rfl (tlt hc6).1 (by decide) (by decide) ?_
        show Steps p.tables e below (s₁.setTop (mkF m 18 #[.val (.ref a0), .val (.int (2 : Int32)), .val (.int p2), .val (.int p3), .val (.int p4)] [])) t
        refine XS.iconst X0.here hx rfl (hb hby d2_18) ?_
        show Steps p.tables e below (s₁.setTop (mkF m 19 #[.val (.ref a0), .val (.int (2 : Int32)), .val (.int p2), .val (.int p3), .val (.int p4)] [(.int (1 : Int32))])) t
        refine XS.goto X0.here hx rfl (pc0 := 19) (pc' := 23) rfl (hb hby d2_19) (by decide) (by decide) ?_
        exact k
      obtain ⟨fs, hr, hrun, hended, hW, hsame⟩ := X0.leave (v := some (.int (nar .boolean (1 : Int32)))) (fun h => by rw [Bd.returns] at h; cases h) hlk
      refine ⟨_, _, ?_, hrun, hended, _, _, rfl, ?_, ⟨_, rfl⟩, hW, hsame.mono (by decide) (by decide)⟩
      · show Steps p.tables e below (s₁.setTop (mkF m 23 #[.val (.ref a0), .val (.int (2 : Int32)), .val (.int p2), .val (.int p3), .val (.int p4)] [(.int (1 : Int32))])) _
        exact retN X0 hx (t := .boolean) Bd.returns (by simp) (hb hby d2_23) hr
      · show Qrm2_2 Z a0 p2 p3 p4 el0 el1 el2 el3 el4 el5 el6 el7 ka h0 n0 _ (s₁.setFrames fs).heap _
        rw [show (s₁.setFrames fs).heap = h0 from e0]
        exact ⟨congrArg (fun z => some (Value.int z)) (by rw [own_k2, if_neg hc1, if_pos hc6]; try rfl), N0, rfl⟩
    · refine OwnGo.of (A := s₁.setTop (mkF m 7 #[.val (.ref a0), .val (.int (2 : Int32)), .val (.int p2), .val (.int p3), .val (.int p4)] [(.int p3), (.int (2 : Int32))])) (B := s₁.setTop (mkF m 12 #[.val (.ref a0), .val (.int (2 : Int32)), .val (.int p2), .val (.int p3), .val (.int p4)] [(.int (2 : Int32)), (.ref a0)])) (fun t k => ?_) ?_
      · show Steps p.tables e below (s₁.setTop (mkF m 7 #[.val (.ref a0), .val (.int (2 : Int32)), .val (.int p2), .val (.int p3), .val (.int p4)] [(.int p3), (.int (2 : Int32))])) t
        refine XS.icmpNo X0.here hx rfl (hb hby d2_7) rfl (flt hc6).1 ?_
        show Steps p.tables e below (s₁.setTop (mkF m 10 #[.val (.ref a0), .val (.int (2 : Int32)), .val (.int p2), .val (.int p3), .val (.int p4)] [])) t
        refine XS.aloadN X0.here hx rfl (hb hby d2_10) rfl rfl ?_
        show Steps p.tables e below (s₁.setTop (mkF m 11 #[.val (.ref a0), .val (.int (2 : Int32)), .val (.int p2), .val (.int p3), .val (.int p4)] [(.ref a0)])) t
        refine XS.iloadN X0.here hx rfl (hb hby d2_11) rfl ?_
        exact k
      have cq8 := V_a
      obtain ⟨clq8, Arq8, qq8, Sq8, Nq8, Hq8, Gq8⟩ := cq8
      have hinq8 := inb_of (j := (2 : Int32)) Sq8 ⟨by decide, by decide⟩
      refine OwnGo.of (X0.baloadBytes hx (j := (2 : Int32)) (v := (.int el2)) (by rw [e0]; exact Arq8.1) (State.isArrayOf_alike hZ.alike Arq8.2.1) Arq8.2.2 hinq8 (Hq8.at hinq8 rfl) (g := (mkF m 12 #[.val (.ref a0), .val (.int (2 : Int32)), .val (.int p2), .val (.int p3), .val (.int p4)] [(.int (2 : Int32)), (.ref a0)])) rfl rfl (hb hby d2_12)) ?_
      show OwnGo p.tables e below _ (s₁.setTop (mkF m 13 #[.val (.ref a0), .val (.int (2 : Int32)), .val (.int p2), .val (.int p3), .val (.int p4)] [(.int el2)]))
      refine OwnGo.of (A := s₁.setTop (mkF m 13 #[.val (.ref a0), .val (.int (2 : Int32)), .val (.int p2), .val (.int p3), .val (.int p4)] [(.int el2)])) (B := s₁.setTop (mkF m 15 #[.val (.ref a0), .val (.int (2 : Int32)), .val (.int p2), .val (.int p3), .val (.int p4)] [(.int p4), (.int el2)])) (fun t k => ?_) ?_
      · show Steps p.tables e below (s₁.setTop (mkF m 13 #[.val (.ref a0), .val (.int (2 : Int32)), .val (.int p2), .val (.int p3), .val (.int p4)] [(.int el2)])) t
        refine XS.iload X0.here hx rfl (hb hby d2_13) rfl ?_
        exact k
      by_cases hc9 : el2 = p4
      · refine OwnGo.of (A := s₁.setTop (mkF m 15 #[.val (.ref a0), .val (.int (2 : Int32)), .val (.int p2), .val (.int p3), .val (.int p4)] [(.int p4), (.int el2)])) (B := s₁.setTop (mkF m 23 #[.val (.ref a0), .val (.int (2 : Int32)), .val (.int p2), .val (.int p3), .val (.int p4)] [(.int (1 : Int32))])) (fun t k => ?_) ?_
        · show Steps p.tables e below (s₁.setTop (mkF m 15 #[.val (.ref a0), .val (.int (2 : Int32)), .val (.int p2), .val (.int p3), .val (.int p4)] [(.int p4), (.int el2)])) t
          refine XS.icmpNo X0.here hx rfl (hb hby d2_15) rfl (teq hc9).2 ?_
          show Steps p.tables e below (s₁.setTop (mkF m 18 #[.val (.ref a0), .val (.int (2 : Int32)), .val (.int p2), .val (.int p3), .val (.int p4)] [])) t
          refine XS.iconst X0.here hx rfl (hb hby d2_18) ?_
          show Steps p.tables e below (s₁.setTop (mkF m 19 #[.val (.ref a0), .val (.int (2 : Int32)), .val (.int p2), .val (.int p3), .val (.int p4)] [(.int (1 : Int32))])) t
          refine XS.goto X0.here hx rfl (pc0 := 19) (pc' := 23) rfl (hb hby d2_19) (by decide) (by decide) ?_
          exact k
        obtain ⟨fs, hr, hrun, hended, hW, hsame⟩ := X0.leave (v := some (.int (nar .boolean (1 : Int32)))) (fun h => by rw [Bd.returns] at h; cases h) hlk
        refine ⟨_, _, ?_, hrun, hended, _, _, rfl, ?_, ⟨_, rfl⟩, hW, hsame.mono (by decide) (by decide)⟩
        · show Steps p.tables e below (s₁.setTop (mkF m 23 #[.val (.ref a0), .val (.int (2 : Int32)), .val (.int p2), .val (.int p3), .val (.int p4)] [(.int (1 : Int32))])) _
          exact retN X0 hx (t := .boolean) Bd.returns (by simp) (hb hby d2_23) hr
        · show Qrm2_2 Z a0 p2 p3 p4 el0 el1 el2 el3 el4 el5 el6 el7 ka h0 n0 _ (s₁.setFrames fs).heap _
          rw [show (s₁.setFrames fs).heap = h0 from e0]
          exact ⟨congrArg (fun z => some (Value.int z)) (by rw [own_k2, if_neg hc1, if_neg hc6, if_pos hc9]; try rfl), N0, rfl⟩
      · refine OwnGo.of (A := s₁.setTop (mkF m 15 #[.val (.ref a0), .val (.int (2 : Int32)), .val (.int p2), .val (.int p3), .val (.int p4)] [(.int p4), (.int el2)])) (B := s₁.setTop (mkF m 23 #[.val (.ref a0), .val (.int (2 : Int32)), .val (.int p2), .val (.int p3), .val (.int p4)] [(.int (0 : Int32))])) (fun t k => ?_) ?_
        · show Steps p.tables e below (s₁.setTop (mkF m 15 #[.val (.ref a0), .val (.int (2 : Int32)), .val (.int p2), .val (.int p3), .val (.int p4)] [(.int p4), (.int el2)])) t
          refine XS.icmpYes X0.here hx rfl (pc0 := 15) (pc' := 22) rfl (hb hby d2_15) rfl (feq hc9).2 (by decide) (by decide) ?_
          show Steps p.tables e below (s₁.setTop (mkF m 22 #[.val (.ref a0), .val (.int (2 : Int32)), .val (.int p2), .val (.int p3), .val (.int p4)] [])) t
          refine XS.iconst X0.here hx rfl (hb hby d2_22) ?_
          exact k
        obtain ⟨fs, hr, hrun, hended, hW, hsame⟩ := X0.leave (v := some (.int (nar .boolean (0 : Int32)))) (fun h => by rw [Bd.returns] at h; cases h) hlk
        refine ⟨_, _, ?_, hrun, hended, _, _, rfl, ?_, ⟨_, rfl⟩, hW, hsame.mono (by decide) (by decide)⟩
        · show Steps p.tables e below (s₁.setTop (mkF m 23 #[.val (.ref a0), .val (.int (2 : Int32)), .val (.int p2), .val (.int p3), .val (.int p4)] [(.int (0 : Int32))])) _
          exact retN X0 hx (t := .boolean) Bd.returns (by simp) (hb hby d2_23) hr
        · show Qrm2_2 Z a0 p2 p3 p4 el0 el1 el2 el3 el4 el5 el6 el7 ka h0 n0 _ (s₁.setFrames fs).heap _
          rw [show (s₁.setFrames fs).heap = h0 from e0]
          exact ⟨congrArg (fun z => some (Value.int z)) (by rw [own_k2, if_neg hc1, if_neg hc6, if_neg hc9]; try rfl), N0, rfl⟩
def own_k3 (a0 : Addr) (p2 : Int32) (p3 : Int32) (p4 : Int32) (el0 : Int32) (el1 : Int32) (el2 : Int32) (el3 : Int32) (el4 : Int32) (el5 : Int32) (el6 : Int32) (el7 : Int32) (ka : ClassId) : Int32 := (if (3 : Int32) < p2 then (if el3 = p4 then (1 : Int32) else (0 : Int32)) else (if (3 : Int32) < p3 then (1 : Int32) else (if el3 = p4 then (1 : Int32) else (0 : Int32))))
theorem ef_rm2_3 (m : MethodId) (a0 : Addr) (p2 : Int32) (p3 : Int32) (p4 : Int32) : entryFrame m #[(.ref a0), (.int (3 : Int32)), (.int p2), (.int p3), (.int p4)] 5 = mkF m 0 #[.val (.ref a0), .val (.int (3 : Int32)), .val (.int p2), .val (.int p3), .val (.int p4)] [] := by first | (simp [entryFrame, mkF, argsToLocals, Value.category]; done) | rfl
def Qrm2_3 (Z : State) (a0 : Addr) (p2 : Int32) (p3 : Int32) (p4 : Int32) (el0 : Int32) (el1 : Int32) (el2 : Int32) (el3 : Int32) (el4 : Int32) (el5 : Int32) (el6 : Int32) (el7 : Int32) (ka : ClassId) (h0 : Heap) (n0 : Nat) (v : Option Value) (h : Heap) (L : List Loc) : Prop := v = some (.int (own_k3 a0 p2 p3 p4 el0 el1 el2 el3 el4 el5 el6 el7 ka)) ∧ Fr n0 L ∧ h = h0
set_option maxRecDepth 65536 in
set_option maxHeartbeats 40000000 in
theorem rm2_3 (l : Launch) (Z : State) (aw : Array Value) (hw : ∀ d ∈ tables_1, d.before aw Z = true) (ws : List Jvm.Cond) (a0 : Addr) (p2 : Int32) (p3 : Int32) (p4 : Int32) (el0 : Int32) (el1 : Int32) (el2 : Int32) (el3 : Int32) (el4 : Int32) (el5 : Int32) (el6 : Int32) (el7 : Int32) (ka : ClassId) (h0 : Heap) (n0 : Nat) (Z0 : n0 ≤ h0.size) (V_a : Arv Z h0 a0 ka .byte (8 : Int32) [(.int el0), (.int el1), (.int el2), (.int el3), (.int el4), (.int el5), (.int el6), (.int el7)] (.int (0 : Int32))) :
    MetFree l (⟨"com/example/sevenfold/sevenfold/NaturalWriteCodePointPinLaw", "kept", "([BIIIB)Z"⟩ : MethodName) (head1 (Jvm.Cond.code (⟨"com/example/sevenfold/sevenfold/NaturalWriteCodePointPinLaw", "kept", "([BIIIB)Z"⟩ : MethodName) method_2_code 5 (some .boolean) :: ws) ({ frames := 0, cells := 0, slots := 0, locals := 0 } : Room)) (fun a U => a = #[(.ref a0), (.int (3 : Int32)), (.int p2), (.int p3), (.int p4)] ∧ Z.Warmed39 U.vm ∧ U.heap = h0) (fun _ _ _ _ _ => True) (fun _ U o U' => ∃ v L, o = .returned v ∧ Qrm2_3 Z a0 p2 p3 p4 el0 el1 el2 el3 el4 el5 el6 el7 ka h0 n0 v U'.heap L ∧ FrameEnd U o U' L ({ frames := 0, cells := 0, slots := 0, locals := 0 } : Room).cells ({ frames := 0, cells := 0, slots := 0, locals := 0 } : Room).slots) := by
  refine MetFree.of_bodySF (plainFor_of_name pn_1) hisR ?_
  intro p e s m args below meth c s₁ Bd hml0 hP hK
  obtain ⟨rfl, hZ, hh⟩ := hP
  have hx := Bd.exec
  have hby := Bd.bytes
  have hml : c.maxLocals = 5 := hml0
  have hown : s.vm.findClass "com/example/sevenfold/sevenfold/NaturalWriteCodePointPinLaw" = some m.cls := findClass_of_methodNamed Bd.named
  have hnm := (name_of_methodNamed Bd.named Bd.method).1
  have X0 : Stand p l e ({ frames := 0, cells := 0, slots := 0, locals := 0 } : Room) s m #[(.ref a0), (.int (3 : Int32)), (.int p2), (.int p3), (.int p4)] below meth c s₁ [] 0 0 := Stand.of_body Bd
  have e0 : s₁.heap = h0 := by rw [← hh, Bd.state]; rfl
  have N0 := Fr.nil n0
  have hlk := Bd.notSynchronized
  show OwnGo p.tables e below _ (s₁.setTop (entryFrame m #[(.ref a0), (.int (3 : Int32)), (.int p2), (.int p3), (.int p4)] 5))
  rw [ef_rm2_3 m a0 p2 p3 p4]
  show OwnGo p.tables e below _ (s₁.setTop (mkF m 0 #[.val (.ref a0), .val (.int (3 : Int32)), .val (.int p2), .val (.int p3), .val (.int p4)] []))
  refine OwnGo.of (A := s₁.setTop (mkF m 0 #[.val (.ref a0), .val (.int (3 : Int32)), .val (.int p2), .val (.int p3), .val (.int p4)] [])) (B := s₁.setTop (mkF m 2 #[.val (.ref a0), .val (.int (3 : Int32)), .val (.int p2), .val (.int p3), .val (.int p4)] [(.int p2), (.int (3 : Int32))])) (fun t k => ?_) ?_
  · show Steps p.tables e below (s₁.setTop (mkF m 0 #[.val (.ref a0), .val (.int (3 : Int32)), .val (.int p2), .val (.int p3), .val (.int p4)] [])) t
    refine XS.iloadN X0.here hx rfl (hb hby d2_0) rfl ?_
    show Steps p.tables e below (s₁.setTop (mkF m 1 #[.val (.ref a0), .val (.int (3 : Int32)), .val (.int p2), .val (.int p3), .val (.int p4)] [(.int (3 : Int32))])) t
    refine XS.iloadN X0.here hx rfl (hb hby d2_1) rfl ?_
    exact k
  by_cases hc1 : (3 : Int32) < p2
  · refine OwnGo.of (A := s₁.setTop (mkF m 2 #[.val (.ref a0), .val (.int (3 : Int32)), .val (.int p2), .val (.int p3), .val (.int p4)] [(.int p2), (.int (3 : Int32))])) (B := s₁.setTop (mkF m 12 #[.val (.ref a0), .val (.int (3 : Int32)), .val (.int p2), .val (.int p3), .val (.int p4)] [(.int (3 : Int32)), (.ref a0)])) (fun t k => ?_) ?_
    · show Steps p.tables e below (s₁.setTop (mkF m 2 #[.val (.ref a0), .val (.int (3 : Int32)), .val (.int p2), .val (.int p3), .val (.int p4)] [(.int p2), (.int (3 : Int32))])) t
      refine XS.icmpYes X0.here hx rfl (pc0 := 2) (pc' := 10) rfl (hb hby d2_2) rfl (tlt hc1).1 (by decide) (by decide) ?_
      show Steps p.tables e below (s₁.setTop (mkF m 10 #[.val (.ref a0), .val (.int (3 : Int32)), .val (.int p2), .val (.int p3), .val (.int p4)] [])) t
      refine XS.aloadN X0.here hx rfl (hb hby d2_10) rfl rfl ?_
      show Steps p.tables e below (s₁.setTop (mkF m 11 #[.val (.ref a0), .val (.int (3 : Int32)), .val (.int p2), .val (.int p3), .val (.int p4)] [(.ref a0)])) t
      refine XS.iloadN X0.here hx rfl (hb hby d2_11) rfl ?_
      exact k
    have cq2 := V_a
    obtain ⟨clq2, Arq2, qq2, Sq2, Nq2, Hq2, Gq2⟩ := cq2
    have hinq2 := inb_of (j := (3 : Int32)) Sq2 ⟨by decide, by decide⟩
    refine OwnGo.of (X0.baloadBytes hx (j := (3 : Int32)) (v := (.int el3)) (by rw [e0]; exact Arq2.1) (State.isArrayOf_alike hZ.alike Arq2.2.1) Arq2.2.2 hinq2 (Hq2.at hinq2 rfl) (g := (mkF m 12 #[.val (.ref a0), .val (.int (3 : Int32)), .val (.int p2), .val (.int p3), .val (.int p4)] [(.int (3 : Int32)), (.ref a0)])) rfl rfl (hb hby d2_12)) ?_
    show OwnGo p.tables e below _ (s₁.setTop (mkF m 13 #[.val (.ref a0), .val (.int (3 : Int32)), .val (.int p2), .val (.int p3), .val (.int p4)] [(.int el3)]))
    refine OwnGo.of (A := s₁.setTop (mkF m 13 #[.val (.ref a0), .val (.int (3 : Int32)), .val (.int p2), .val (.int p3), .val (.int p4)] [(.int el3)])) (B := s₁.setTop (mkF m 15 #[.val (.ref a0), .val (.int (3 : Int32)), .val (.int p2), .val (.int p3), .val (.int p4)] [(.int p4), (.int el3)])) (fun t k => ?_) ?_
    · show Steps p.tables e below (s₁.setTop (mkF m 13 #[.val (.ref a0), .val (.int (3 : Int32)), .val (.int p2), .val (.int p3), .val (.int p4)] [(.int el3)])) t
      refine XS.iload X0.here hx rfl (hb hby d2_13) rfl ?_
      exact k
    by_cases hc3 : el3 = p4
    · refine OwnGo.of (A := s₁.setTop (mkF m 15 #[.val (.ref a0), .val (.int (3 : Int32)), .val (.int p2), .val (.int p3), .val (.int p4)] [(.int p4), (.int el3)])) (B := s₁.setTop (mkF m 23 #[.val (.ref a0), .val (.int (3 : Int32)), .val (.int p2), .val (.int p3), .val (.int p4)] [(.int (1 : Int32))])) (fun t k => ?_) ?_
      · show Steps p.tables e below (s₁.setTop (mkF m 15 #[.val (.ref a0), .val (.int (3 : Int32)), .val (.int p2), .val (.int p3), .val (.int p4)] [(.int p4), (.int el3)])) t
        refine XS.icmpNo X0.here hx rfl (hb hby d2_15) rfl (teq hc3).2 ?_
        show Steps p.tables e below (s₁.setTop (mkF m 18 #[.val (.ref a0), .val (.int (3 : Int32)), .val (.int p2), .val (.int p3), .val (.int p4)] [])) t
        refine XS.iconst X0.here hx rfl (hb hby d2_18) ?_
        show Steps p.tables e below (s₁.setTop (mkF m 19 #[.val (.ref a0), .val (.int (3 : Int32)), .val (.int p2), .val (.int p3), .val (.int p4)] [(.int (1 : Int32))])) t
        refine XS.goto X0.here hx rfl (pc0 := 19) (pc' := 23) rfl (hb hby d2_19) (by decide) (by decide) ?_
        exact k
      obtain ⟨fs, hr, hrun, hended, hW, hsame⟩ := X0.leave (v := some (.int (nar .boolean (1 : Int32)))) (fun h => by rw [Bd.returns] at h; cases h) hlk
      refine ⟨_, _, ?_, hrun, hended, _, _, rfl, ?_, ⟨_, rfl⟩, hW, hsame.mono (by decide) (by decide)⟩
      · show Steps p.tables e below (s₁.setTop (mkF m 23 #[.val (.ref a0), .val (.int (3 : Int32)), .val (.int p2), .val (.int p3), .val (.int p4)] [(.int (1 : Int32))])) _
        exact retN X0 hx (t := .boolean) Bd.returns (by simp) (hb hby d2_23) hr
      · show Qrm2_3 Z a0 p2 p3 p4 el0 el1 el2 el3 el4 el5 el6 el7 ka h0 n0 _ (s₁.setFrames fs).heap _
        rw [show (s₁.setFrames fs).heap = h0 from e0]
        exact ⟨congrArg (fun z => some (Value.int z)) (by rw [own_k3, if_pos hc1, if_pos hc3]; try rfl), N0, rfl⟩
    · refine OwnGo.of (A := s₁.setTop (mkF m 15 #[.val (.ref a0), .val (.int (3 : Int32)), .val (.int p2), .val (.int p3), .val (.int p4)] [(.int p4), (.int el3)])) (B := s₁.setTop (mkF m 23 #[.val (.ref a0), .val (.int (3 : Int32)), .val (.int p2), .val (.int p3), .val (.int p4)] [(.int (0 : Int32))])) (fun t k => ?_) ?_
      · show Steps p.tables e below (s₁.setTop (mkF m 15 #[.val (.ref a0), .val (.int (3 : Int32)), .val (.int p2), .val (.int p3), .val (.int p4)] [(.int p4), (.int el3)])) t
        refine XS.icmpYes X0.here hx rfl (pc0 := 15) (pc' := 22) rfl (hb hby d2_15) rfl (feq hc3).2 (by decide) (by decide) ?_
        show Steps p.tables e below (s₁.setTop (mkF m 22 #[.val (.ref a0), .val (.int (3 : Int32)), .val (.int p2), .val (.int p3), .val (.int p4)] [])) t
        refine XS.iconst X0.here hx rfl (hb hby d2_22) ?_
        exact k
      obtain ⟨fs, hr, hrun, hended, hW, hsame⟩ := X0.leave (v := some (.int (nar .boolean (0 : Int32)))) (fun h => by rw [Bd.returns] at h; cases h) hlk
      refine ⟨_, _, ?_, hrun, hended, _, _, rfl, ?_, ⟨_, rfl⟩, hW, hsame.mono (by decide) (by decide)⟩
      · show Steps p.tables e below (s₁.setTop (mkF m 23 #[.val (.ref a0), .val (.int (3 : Int32)), .val (.int p2), .val (.int p3), .val (.int p4)] [(.int (0 : Int32))])) _
        exact retN X0 hx (t := .boolean) Bd.returns (by simp) (hb hby d2_23) hr
      · show Qrm2_3 Z a0 p2 p3 p4 el0 el1 el2 el3 el4 el5 el6 el7 ka h0 n0 _ (s₁.setFrames fs).heap _
        rw [show (s₁.setFrames fs).heap = h0 from e0]
        exact ⟨congrArg (fun z => some (Value.int z)) (by rw [own_k3, if_pos hc1, if_neg hc3]; try rfl), N0, rfl⟩
  · refine OwnGo.of (A := s₁.setTop (mkF m 2 #[.val (.ref a0), .val (.int (3 : Int32)), .val (.int p2), .val (.int p3), .val (.int p4)] [(.int p2), (.int (3 : Int32))])) (B := s₁.setTop (mkF m 7 #[.val (.ref a0), .val (.int (3 : Int32)), .val (.int p2), .val (.int p3), .val (.int p4)] [(.int p3), (.int (3 : Int32))])) (fun t k => ?_) ?_
    · show Steps p.tables e below (s₁.setTop (mkF m 2 #[.val (.ref a0), .val (.int (3 : Int32)), .val (.int p2), .val (.int p3), .val (.int p4)] [(.int p2), (.int (3 : Int32))])) t
      refine XS.icmpNo X0.here hx rfl (hb hby d2_2) rfl (flt hc1).1 ?_
      show Steps p.tables e below (s₁.setTop (mkF m 5 #[.val (.ref a0), .val (.int (3 : Int32)), .val (.int p2), .val (.int p3), .val (.int p4)] [])) t
      refine XS.iloadN X0.here hx rfl (hb hby d2_5) rfl ?_
      show Steps p.tables e below (s₁.setTop (mkF m 6 #[.val (.ref a0), .val (.int (3 : Int32)), .val (.int p2), .val (.int p3), .val (.int p4)] [(.int (3 : Int32))])) t
      refine XS.iloadN X0.here hx rfl (hb hby d2_6) rfl ?_
      exact k
    by_cases hc6 : (3 : Int32) < p3
    · refine OwnGo.of (A := s₁.setTop (mkF m 7 #[.val (.ref a0), .val (.int (3 : Int32)), .val (.int p2), .val (.int p3), .val (.int p4)] [(.int p3), (.int (3 : Int32))])) (B := s₁.setTop (mkF m 23 #[.val (.ref a0), .val (.int (3 : Int32)), .val (.int p2), .val (.int p3), .val (.int p4)] [(.int (1 : Int32))])) (fun t k => ?_) ?_
      · show Steps p.tables e below (s₁.setTop (mkF m 7 #[.val (.ref a0), .val (.int (3 : Int32)), .val (.int p2), .val (.int p3), .val (.int p4)] [(.int p3), (.int (3 : Int32))])) t
        refine XS.icmpYes X0.here hx rfl (pc0 := 7) (pc' := 18) rfl (hb hby d2_7) rfl (tlt hc6).1 (by decide) (by decide) ?_
        show Steps p.tables e below (s₁.setTop (mkF m 18 #[.val (.ref a0), .val (.int (3 : Int32)), .val (.int p2), .val (.int p3), .val (.int p4)] [])) t
        refine XS.iconst X0.here hx rfl (hb hby d2_18) ?_
        show Steps p.tables e below (s₁.setTop (mkF m 19 #[.val (.ref a0), .val (.int (3 : Int32)), .val (.int p2), .val (.int p3), .val (.int p4)] [(.int (1 : Int32))])) t
        refine XS.goto X0.here hx rfl (pc0 := 19) (pc' := 23) rfl (hb hby d2_19) (by decide) (by decide) ?_
        exact k
      obtain ⟨fs, hr, hrun, hended, hW, hsame⟩ := X0.leave (v := some (.int (nar .boolean (1 : Int32)))) (fun h => by rw [Bd.returns] at h; cases h) hlk
      refine ⟨_, _, ?_, hrun, hended, _, _, rfl, ?_, ⟨_, rfl⟩, hW, hsame.mono (by decide) (by decide)⟩
      · show Steps p.tables e below (s₁.setTop (mkF m 23 #[.val (.ref a0), .val (.int (3 : Int32)), .val (.int p2), .val (.int p3), .val (.int p4)] [(.int (1 : Int32))])) _
        exact retN X0 hx (t := .boolean) Bd.returns (by simp) (hb hby d2_23) hr
      · show Qrm2_3 Z a0 p2 p3 p4 el0 el1 el2 el3 el4 el5 el6 el7 ka h0 n0 _ (s₁.setFrames fs).heap _
        rw [show (s₁.setFrames fs).heap = h0 from e0]
        exact ⟨congrArg (fun z => some (Value.int z)) (by rw [own_k3, if_neg hc1, if_pos hc6]; try rfl), N0, rfl⟩
    · refine OwnGo.of (A := s₁.setTop (mkF m 7 #[.val (.ref a0), .val (.int (3 : Int32)), .val (.int p2), .val (.int p3), .val (.int p4)] [(.int p3), (.int (3 : Int32))])) (B := s₁.setTop (mkF m 12 #[.val (.ref a0), .val (.int (3 : Int32)), .val (.int p2), .val (.int p3), .val (.int p4)] [(.int (3 : Int32)), (.ref a0)])) (fun t k => ?_) ?_
      · show Steps p.tables e below (s₁.setTop (mkF m 7 #[.val (.ref a0), .val (.int (3 : Int32)), .val (.int p2), .val (.int p3), .val (.int p4)] [(.int p3), (.int (3 : Int32))])) t
        refine XS.icmpNo X0.here hx rfl (hb hby d2_7) rfl (flt hc6).1 ?_
        show Steps p.tables e below (s₁.setTop (mkF m 10 #[.val (.ref a0), .val (.int (3 : Int32)), .val (.int p2), .val (.int p3), .val (.int p4)] [])) t
        refine XS.aloadN X0.here hx rfl (hb hby d2_10) rfl rfl ?_
        show Steps p.tables e below (s₁.setTop (mkF m 11 #[.val (.ref a0), .val (.int (3 : Int32)), .val (.int p2), .val (.int p3), .val (.int p4)] [(.ref a0)])) t
        refine XS.iloadN X0.here hx rfl (hb hby d2_11) rfl ?_
        exact k
      have cq8 := V_a
      obtain ⟨clq8, Arq8, qq8, Sq8, Nq8, Hq8, Gq8⟩ := cq8
      have hinq8 := inb_of (j := (3 : Int32)) Sq8 ⟨by decide, by decide⟩
      refine OwnGo.of (X0.baloadBytes hx (j := (3 : Int32)) (v := (.int el3)) (by rw [e0]; exact Arq8.1) (State.isArrayOf_alike hZ.alike Arq8.2.1) Arq8.2.2 hinq8 (Hq8.at hinq8 rfl) (g := (mkF m 12 #[.val (.ref a0), .val (.int (3 : Int32)), .val (.int p2), .val (.int p3), .val (.int p4)] [(.int (3 : Int32)), (.ref a0)])) rfl rfl (hb hby d2_12)) ?_
      show OwnGo p.tables e below _ (s₁.setTop (mkF m 13 #[.val (.ref a0), .val (.int (3 : Int32)), .val (.int p2), .val (.int p3), .val (.int p4)] [(.int el3)]))
      refine OwnGo.of (A := s₁.setTop (mkF m 13 #[.val (.ref a0), .val (.int (3 : Int32)), .val (.int p2), .val (.int p3), .val (.int p4)] [(.int el3)])) (B := s₁.setTop (mkF m 15 #[.val (.ref a0), .val (.int (3 : Int32)), .val (.int p2), .val (.int p3), .val (.int p4)] [(.int p4), (.int el3)])) (fun t k => ?_) ?_
      · show Steps p.tables e below (s₁.setTop (mkF m 13 #[.val (.ref a0), .val (.int (3 : Int32)), .val (.int p2), .val (.int p3), .val (.int p4)] [(.int el3)])) t
        refine XS.iload X0.here hx rfl (hb hby d2_13) rfl ?_
        exact k
      by_cases hc9 : el3 = p4
      · refine OwnGo.of (A := s₁.setTop (mkF m 15 #[.val (.ref a0), .val (.int (3 : Int32)), .val (.int p2), .val (.int p3), .val (.int p4)] [(.int p4), (.int el3)])) (B := s₁.setTop (mkF m 23 #[.val (.ref a0), .val (.int (3 : Int32)), .val (.int p2), .val (.int p3), .val (.int p4)] [(.int (1 : Int32))])) (fun t k => ?_) ?_
        · show Steps p.tables e below (s₁.setTop (mkF m 15 #[.val (.ref a0), .val (.int (3 : Int32)), .val (.int p2), .val (.int p3), .val (.int p4)] [(.int p4), (.int el3)])) t
          refine XS.icmpNo X0.here hx rfl (hb hby d2_15) rfl (teq hc9).2 ?_
          show Steps p.tables e below (s₁.setTop (mkF m 18 #[.val (.ref a0), .val (.int (3 : Int32)), .val (.int p2), .val (.int p3), .val (.int p4)] [])) t
          refine XS.iconst X0.here hx rfl (hb hby d2_18) ?_
          show Steps p.tables e below (s₁.setTop (mkF m 19 #[.val (.ref a0), .val (.int (3 : Int32)), .val (.int p2), .val (.int p3), .val (.int p4)] [(.int (1 : Int32))])) t
          refine XS.goto X0.here hx rfl (pc0 := 19) (pc' := 23) rfl (hb hby d2_19) (by decide) (by decide) ?_
          exact k
        obtain ⟨fs, hr, hrun, hended, hW, hsame⟩ := X0.leave (v := some (.int (nar .boolean (1 : Int32)))) (fun h => by rw [Bd.returns] at h; cases h) hlk
        refine ⟨_, _, ?_, hrun, hended, _, _, rfl, ?_, ⟨_, rfl⟩, hW, hsame.mono (by decide) (by decide)⟩
        · show Steps p.tables e below (s₁.setTop (mkF m 23 #[.val (.ref a0), .val (.int (3 : Int32)), .val (.int p2), .val (.int p3), .val (.int p4)] [(.int (1 : Int32))])) _
          exact retN X0 hx (t := .boolean) Bd.returns (by simp) (hb hby d2_23) hr
        · show Qrm2_3 Z a0 p2 p3 p4 el0 el1 el2 el3 el4 el5 el6 el7 ka h0 n0 _ (s₁.setFrames fs).heap _
          rw [show (s₁.setFrames fs).heap = h0 from e0]
          exact ⟨congrArg (fun z => some (Value.int z)) (by rw [own_k3, if_neg hc1, if_neg hc6, if_pos hc9]; try rfl), N0, rfl⟩
      · refine OwnGo.of (A := s₁.setTop (mkF m 15 #[.val (.ref a0), .val (.int (3 : Int32)), .val (.int p2), .val (.int p3), .val (.int p4)] [(.int p4), (.int el3)])) (B := s₁.setTop (mkF m 23 #[.val (.ref a0), .val (.int (3 : Int32)), .val (.int p2), .val (.int p3), .val (.int p4)] [(.int (0 : Int32))])) (fun t k => ?_) ?_
        · show Steps p.tables e below (s₁.setTop (mkF m 15 #[.val (.ref a0), .val (.int (3 : Int32)), .val (.int p2), .val (.int p3), .val (.int p4)] [(.int p4), (.int el3)])) t
          refine XS.icmpYes X0.here hx rfl (pc0 := 15) (pc' := 22) rfl (hb hby d2_15) rfl (feq hc9).2 (by decide) (by decide) ?_
          show Steps p.tables e below (s₁.setTop (mkF m 22 #[.val (.ref a0), .val (.int (3 : Int32)), .val (.int p2), .val (.int p3), .val (.int p4)] [])) t
          refine XS.iconst X0.here hx rfl (hb hby d2_22) ?_
          exact k
        obtain ⟨fs, hr, hrun, hended, hW, hsame⟩ := X0.leave (v := some (.int (nar .boolean (0 : Int32)))) (fun h => by rw [Bd.returns] at h; cases h) hlk
        refine ⟨_, _, ?_, hrun, hended, _, _, rfl, ?_, ⟨_, rfl⟩, hW, hsame.mono (by decide) (by decide)⟩
        · show Steps p.tables e below (s₁.setTop (mkF m 23 #[.val (.ref a0), .val (.int (3 : Int32)), .val (.int p2), .val (.int p3), .val (.int p4)] [(.int (0 : Int32))])) _
          exact retN X0 hx (t := .boolean) Bd.returns (by simp) (hb hby d2_23) hr
        · show Qrm2_3 Z a0 p2 p3 p4 el0 el1 el2 el3 el4 el5 el6 el7 ka h0 n0 _ (s₁.setFrames fs).heap _
          rw [show (s₁.setFrames fs).heap = h0 from e0]
          exact ⟨congrArg (fun z => some (Value.int z)) (by rw [own_k3, if_neg hc1, if_neg hc6, if_neg hc9]; try rfl), N0, rfl⟩
def own_k4 (a0 : Addr) (p2 : Int32) (p3 : Int32) (p4 : Int32) (el0 : Int32) (el1 : Int32) (el2 : Int32) (el3 : Int32) (el4 : Int32) (el5 : Int32) (el6 : Int32) (el7 : Int32) (ka : ClassId) : Int32 := (if (4 : Int32) < p2 then (if el4 = p4 then (1 : Int32) else (0 : Int32)) else (if (4 : Int32) < p3 then (1 : Int32) else (if el4 = p4 then (1 : Int32) else (0 : Int32))))
theorem ef_rm2_4 (m : MethodId) (a0 : Addr) (p2 : Int32) (p3 : Int32) (p4 : Int32) : entryFrame m #[(.ref a0), (.int (4 : Int32)), (.int p2), (.int p3), (.int p4)] 5 = mkF m 0 #[.val (.ref a0), .val (.int (4 : Int32)), .val (.int p2), .val (.int p3), .val (.int p4)] [] := by first | (simp [entryFrame, mkF, argsToLocals, Value.category]; done) | rfl
def Qrm2_4 (Z : State) (a0 : Addr) (p2 : Int32) (p3 : Int32) (p4 : Int32) (el0 : Int32) (el1 : Int32) (el2 : Int32) (el3 : Int32) (el4 : Int32) (el5 : Int32) (el6 : Int32) (el7 : Int32) (ka : ClassId) (h0 : Heap) (n0 : Nat) (v : Option Value) (h : Heap) (L : List Loc) : Prop := v = some (.int (own_k4 a0 p2 p3 p4 el0 el1 el2 el3 el4 el5 el6 el7 ka)) ∧ Fr n0 L ∧ h = h0
set_option maxRecDepth 65536 in
set_option maxHeartbeats 40000000 in
theorem rm2_4 (l : Launch) (Z : State) (aw : Array Value) (hw : ∀ d ∈ tables_1, d.before aw Z = true) (ws : List Jvm.Cond) (a0 : Addr) (p2 : Int32) (p3 : Int32) (p4 : Int32) (el0 : Int32) (el1 : Int32) (el2 : Int32) (el3 : Int32) (el4 : Int32) (el5 : Int32) (el6 : Int32) (el7 : Int32) (ka : ClassId) (h0 : Heap) (n0 : Nat) (Z0 : n0 ≤ h0.size) (V_a : Arv Z h0 a0 ka .byte (8 : Int32) [(.int el0), (.int el1), (.int el2), (.int el3), (.int el4), (.int el5), (.int el6), (.int el7)] (.int (0 : Int32))) :
    MetFree l (⟨"com/example/sevenfold/sevenfold/NaturalWriteCodePointPinLaw", "kept", "([BIIIB)Z"⟩ : MethodName) (head1 (Jvm.Cond.code (⟨"com/example/sevenfold/sevenfold/NaturalWriteCodePointPinLaw", "kept", "([BIIIB)Z"⟩ : MethodName) method_2_code 5 (some .boolean) :: ws) ({ frames := 0, cells := 0, slots := 0, locals := 0 } : Room)) (fun a U => a = #[(.ref a0), (.int (4 : Int32)), (.int p2), (.int p3), (.int p4)] ∧ Z.Warmed39 U.vm ∧ U.heap = h0) (fun _ _ _ _ _ => True) (fun _ U o U' => ∃ v L, o = .returned v ∧ Qrm2_4 Z a0 p2 p3 p4 el0 el1 el2 el3 el4 el5 el6 el7 ka h0 n0 v U'.heap L ∧ FrameEnd U o U' L ({ frames := 0, cells := 0, slots := 0, locals := 0 } : Room).cells ({ frames := 0, cells := 0, slots := 0, locals := 0 } : Room).slots) := by
  refine MetFree.of_bodySF (plainFor_of_name pn_1) hisR ?_
  intro p e s m args below meth c s₁ Bd hml0 hP hK
  obtain ⟨rfl, hZ, hh⟩ := hP
  have hx := Bd.exec
  have hby := Bd.bytes
  have hml : c.maxLocals = 5 := hml0
  have hown : s.vm.findClass "com/example/sevenfold/sevenfold/NaturalWriteCodePointPinLaw" = some m.cls := findClass_of_methodNamed Bd.named
  have hnm := (name_of_methodNamed Bd.named Bd.method).1
  have X0 : Stand p l e ({ frames := 0, cells := 0, slots := 0, locals := 0 } : Room) s m #[(.ref a0), (.int (4 : Int32)), (.int p2), (.int p3), (.int p4)] below meth c s₁ [] 0 0 := Stand.of_body Bd
  have e0 : s₁.heap = h0 := by rw [← hh, Bd.state]; rfl
  have N0 := Fr.nil n0
  have hlk := Bd.notSynchronized
  show OwnGo p.tables e below _ (s₁.setTop (entryFrame m #[(.ref a0), (.int (4 : Int32)), (.int p2), (.int p3), (.int p4)] 5))
  rw [ef_rm2_4 m a0 p2 p3 p4]
  show OwnGo p.tables e below _ (s₁.setTop (mkF m 0 #[.val (.ref a0), .val (.int (4 : Int32)), .val (.int p2), .val (.int p3), .val (.int p4)] []))
  refine OwnGo.of (A := s₁.setTop (mkF m 0 #[.val (.ref a0), .val (.int (4 : Int32)), .val (.int p2), .val (.int p3), .val (.int p4)] [])) (B := s₁.setTop (mkF m 2 #[.val (.ref a0), .val (.int (4 : Int32)), .val (.int p2), .val (.int p3), .val (.int p4)] [(.int p2), (.int (4 : Int32))])) (fun t k => ?_) ?_
  · show Steps p.tables e below (s₁.setTop (mkF m 0 #[.val (.ref a0), .val (.int (4 : Int32)), .val (.int p2), .val (.int p3), .val (.int p4)] [])) t
    refine XS.iloadN X0.here hx rfl (hb hby d2_0) rfl ?_
    show Steps p.tables e below (s₁.setTop (mkF m 1 #[.val (.ref a0), .val (.int (4 : Int32)), .val (.int p2), .val (.int p3), .val (.int p4)] [(.int (4 : Int32))])) t
    refine XS.iloadN X0.here hx rfl (hb hby d2_1) rfl ?_
    exact k
  by_cases hc1 : (4 : Int32) < p2
  · refine OwnGo.of (A := s₁.setTop (mkF m 2 #[.val (.ref a0), .val (.int (4 : Int32)), .val (.int p2), .val (.int p3), .val (.int p4)] [(.int p2), (.int (4 : Int32))])) (B := s₁.setTop (mkF m 12 #[.val (.ref a0), .val (.int (4 : Int32)), .val (.int p2), .val (.int p3), .val (.int p4)] [(.int (4 : Int32)), (.ref a0)])) (fun t k => ?_) ?_
    · show Steps p.tables e below (s₁.setTop (mkF m 2 #[.val (.ref a0), .val (.int (4 : Int32)), .val (.int p2), .val (.int p3), .val (.int p4)] [(.int p2), (.int (4 : Int32))])) t
      refine XS.icmpYes X0.here hx rfl (pc0 := 2) (pc' := 10) rfl (hb hby d2_2) rfl (tlt hc1).1 (by decide) (by decide) ?_
      show Steps p.tables e below (s₁.setTop (mkF m 10 #[.val (.ref a0), .val (.int (4 : Int32)), .val (.int p2), .val (.int p3), .val (.int p4)] [])) t
      refine XS.aloadN X0.here hx rfl (hb hby d2_10) rfl rfl ?_
      show Steps p.tables e below (s₁.setTop (mkF m 11 #[.val (.ref a0), .val (.int (4 : Int32)), .val (.int p2), .val (.int p3), .val (.int p4)] [(.ref a0)])) t
      refine XS.iloadN X0.here hx rfl (hb hby d2_11) rfl ?_
      exact k
    have cq2 := V_a
    obtain ⟨clq2, Arq2, qq2, Sq2, Nq2, Hq2, Gq2⟩ := cq2
    have hinq2 := inb_of (j := (4 : Int32)) Sq2 ⟨by decide, by decide⟩
    refine OwnGo.of (X0.baloadBytes hx (j := (4 : Int32)) (v := (.int el4)) (by rw [e0]; exact Arq2.1) (State.isArrayOf_alike hZ.alike Arq2.2.1) Arq2.2.2 hinq2 (Hq2.at hinq2 rfl) (g := (mkF m 12 #[.val (.ref a0), .val (.int (4 : Int32)), .val (.int p2), .val (.int p3), .val (.int p4)] [(.int (4 : Int32)), (.ref a0)])) rfl rfl (hb hby d2_12)) ?_
    show OwnGo p.tables e below _ (s₁.setTop (mkF m 13 #[.val (.ref a0), .val (.int (4 : Int32)), .val (.int p2), .val (.int p3), .val (.int p4)] [(.int el4)]))
    refine OwnGo.of (A := s₁.setTop (mkF m 13 #[.val (.ref a0), .val (.int (4 : Int32)), .val (.int p2), .val (.int p3), .val (.int p4)] [(.int el4)])) (B := s₁.setTop (mkF m 15 #[.val (.ref a0), .val (.int (4 : Int32)), .val (.int p2), .val (.int p3), .val (.int p4)] [(.int p4), (.int el4)])) (fun t k => ?_) ?_
    · show Steps p.tables e below (s₁.setTop (mkF m 13 #[.val (.ref a0), .val (.int (4 : Int32)), .val (.int p2), .val (.int p3), .val (.int p4)] [(.int el4)])) t
      refine XS.iload X0.here hx rfl (hb hby d2_13) rfl ?_
      exact k
    by_cases hc3 : el4 = p4
    · refine OwnGo.of (A := s₁.setTop (mkF m 15 #[.val (.ref a0), .val (.int (4 : Int32)), .val (.int p2), .val (.int p3), .val (.int p4)] [(.int p4), (.int el4)])) (B := s₁.setTop (mkF m 23 #[.val (.ref a0), .val (.int (4 : Int32)), .val (.int p2), .val (.int p3), .val (.int p4)] [(.int (1 : Int32))])) (fun t k => ?_) ?_
      · show Steps p.tables e below (s₁.setTop (mkF m 15 #[.val (.ref a0), .val (.int (4 : Int32)), .val (.int p2), .val (.int p3), .val (.int p4)] [(.int p4), (.int el4)])) t
        refine XS.icmpNo X0.here hx rfl (hb hby d2_15) rfl (teq hc3).2 ?_
        show Steps p.tables e below (s₁.setTop (mkF m 18 #[.val (.ref a0), .val (.int (4 : Int32)), .val (.int p2), .val (.int p3), .val (.int p4)] [])) t
        refine XS.iconst X0.here hx rfl (hb hby d2_18) ?_
        show Steps p.tables e below (s₁.setTop (mkF m 19 #[.val (.ref a0), .val (.int (4 : Int32)), .val (.int p2), .val (.int p3), .val (.int p4)] [(.int (1 : Int32))])) t
        refine XS.goto X0.here hx rfl (pc0 := 19) (pc' := 23) rfl (hb hby d2_19) (by decide) (by decide) ?_
        exact k
      obtain ⟨fs, hr, hrun, hended, hW, hsame⟩ := X0.leave (v := some (.int (nar .boolean (1 : Int32)))) (fun h => by rw [Bd.returns] at h; cases h) hlk
      refine ⟨_, _, ?_, hrun, hended, _, _, rfl, ?_, ⟨_, rfl⟩, hW, hsame.mono (by decide) (by decide)⟩
      · show Steps p.tables e below (s₁.setTop (mkF m 23 #[.val (.ref a0), .val (.int (4 : Int32)), .val (.int p2), .val (.int p3), .val (.int p4)] [(.int (1 : Int32))])) _
        exact retN X0 hx (t := .boolean) Bd.returns (by simp) (hb hby d2_23) hr
      · show Qrm2_4 Z a0 p2 p3 p4 el0 el1 el2 el3 el4 el5 el6 el7 ka h0 n0 _ (s₁.setFrames fs).heap _
        rw [show (s₁.setFrames fs).heap = h0 from e0]
        exact ⟨congrArg (fun z => some (Value.int z)) (by rw [own_k4, if_pos hc1, if_pos hc3]; try rfl), N0, rfl⟩
    · refine OwnGo.of (A := s₁.setTop (mkF m 15 #[.val (.ref a0), .val (.int (4 : Int32)), .val (.int p2), .val (.int p3), .val (.int p4)] [(.int p4), (.int el4)])) (B := s₁.setTop (mkF m 23 #[.val (.ref a0), .val (.int (4 : Int32)), .val (.int p2), .val (.int p3), .val (.int p4)] [(.int (0 : Int32))])) (fun t k => ?_) ?_
      · show Steps p.tables e below (s₁.setTop (mkF m 15 #[.val (.ref a0), .val (.int (4 : Int32)), .val (.int p2), .val (.int p3), .val (.int p4)] [(.int p4), (.int el4)])) t
        refine XS.icmpYes X0.here hx rfl (pc0 := 15) (pc' := 22) rfl (hb hby d2_15) rfl (feq hc3).2 (by decide) (by decide) ?_
        show Steps p.tables e below (s₁.setTop (mkF m 22 #[.val (.ref a0), .val (.int (4 : Int32)), .val (.int p2), .val (.int p3), .val (.int p4)] [])) t
        refine XS.iconst X0.here hx rfl (hb hby d2_22) ?_
        exact k
      obtain ⟨fs, hr, hrun, hended, hW, hsame⟩ := X0.leave (v := some (.int (nar .boolean (0 : Int32)))) (fun h => by rw [Bd.returns] at h; cases h) hlk
      refine ⟨_, _, ?_, hrun, hended, _, _, rfl, ?_, ⟨_, rfl⟩, hW, hsame.mono (by decide) (by decide)⟩
      · show Steps p.tables e below (s₁.setTop (mkF m 23 #[.val (.ref a0), .val (.int (4 : Int32)), .val (.int p2), .val (.int p3), .val (.int p4)] [(.int (0 : Int32))])) _
        exact retN X0 hx (t := .boolean) Bd.returns (by simp) (hb hby d2_23) hr
      · show Qrm2_4 Z a0 p2 p3 p4 el0 el1 el2 el3 el4 el5 el6 el7 ka h0 n0 _ (s₁.setFrames fs).heap _
        rw [show (s₁.setFrames fs).heap = h0 from e0]
        exact ⟨congrArg (fun z => some (Value.int z)) (by rw [own_k4, if_pos hc1, if_neg hc3]; try rfl), N0, rfl⟩
  · refine OwnGo.of (A := s₁.setTop (mkF m 2 #[.val (.ref a0), .val (.int (4 : Int32)), .val (.int p2), .val (.int p3), .val (.int p4)] [(.int p2), (.int (4 : Int32))])) (B := s₁.setTop (mkF m 7 #[.val (.ref a0), .val (.int (4 : Int32)), .val (.int p2), .val (.int p3), .val (.int p4)] [(.int p3), (.int (4 : Int32))])) (fun t k => ?_) ?_
    · show Steps p.tables e below (s₁.setTop (mkF m 2 #[.val (.ref a0), .val (.int (4 : Int32)), .val (.int p2), .val (.int p3), .val (.int p4)] [(.int p2), (.int (4 : Int32))])) t
      refine XS.icmpNo X0.here hx rfl (hb hby d2_2) rfl (flt hc1).1 ?_
      show Steps p.tables e below (s₁.setTop (mkF m 5 #[.val (.ref a0), .val (.int (4 : Int32)), .val (.int p2), .val (.int p3), .val (.int p4)] [])) t
      refine XS.iloadN X0.here hx rfl (hb hby d2_5) rfl ?_
      show Steps p.tables e below (s₁.setTop (mkF m 6 #[.val (.ref a0), .val (.int (4 : Int32)), .val (.int p2), .val (.int p3), .val (.int p4)] [(.int (4 : Int32))])) t
      refine XS.iloadN X0.here hx rfl (hb hby d2_6) rfl ?_
      exact k
    by_cases hc6 : (4 : Int32) < p3
    · refine OwnGo.of (A := s₁.setTop (mkF m 7 #[.val (.ref a0), .val (.int (4 : Int32)), .val (.int p2), .val (.int p3), .val (.int p4)] [(.int p3), (.int (4 : Int32))])) (B := s₁.setTop (mkF m 23 #[.val (.ref a0), .val (.int (4 : Int32)), .val (.int p2), .val (.int p3), .val (.int p4)] [(.int (1 : Int32))])) (fun t k => ?_) ?_
      · show Steps p.tables e below (s₁.setTop (mkF m 7 #[.val (.ref a0), .val (.int (4 : Int32)), .val (.int p2), .val (.int p3), .val (.int p4)] [(.int p3), (.int (4 : Int32))])) t
        refine XS.icmpYes X0.here hx rfl (pc0 := 7) (pc' := 18) rfl (hb hby d2_7) rfl (tlt hc6).1 (by decide) (by decide) ?_
        show Steps p.tables e below (s₁.setTop (mkF m 18 #[.val (.ref a0), .val (.int (4 : Int32)), .val (.int p2), .val (.int p3), .val (.int p4)] [])) t
        refine XS.iconst X0.here hx rfl (hb hby d2_18) ?_
        show Steps p.tables e below (s₁.setTop (mkF m 19 #[.val (.ref a0), .val (.int (4 : Int32)), .val (.int p2), .val (.int p3), .val (.int p4)] [(.int (1 : Int32))])) t
        refine XS.goto X0.here hx rfl (pc0 := 19) (pc' := 23) rfl (hb hby d2_19) (by decide) (by decide) ?_
        exact k
      obtain ⟨fs, hr, hrun, hended, hW, hsame⟩ := X0.leave (v := some (.int (nar .boolean (1 : Int32)))) (fun h => by rw [Bd.returns] at h; cases h) hlk
      refine ⟨_, _, ?_, hrun, hended, _, _, rfl, ?_, ⟨_, rfl⟩, hW, hsame.mono (by decide) (by decide)⟩
      · show Steps p.tables e below (s₁.setTop (mkF m 23 #[.val (.ref a0), .val (.int (4 : Int32)), .val (.int p2), .val (.int p3), .val (.int p4)] [(.int (1 : Int32))])) _
        exact retN X0 hx (t := .boolean) Bd.returns (by simp) (hb hby d2_23) hr
      · show Qrm2_4 Z a0 p2 p3 p4 el0 el1 el2 el3 el4 el5 el6 el7 ka h0 n0 _ (s₁.setFrames fs).heap _
        rw [show (s₁.setFrames fs).heap = h0 from e0]
        exact ⟨congrArg (fun z => some (Value.int z)) (by rw [own_k4, if_neg hc1, if_pos hc6]; try rfl), N0, rfl⟩
    · refine OwnGo.of (A := s₁.setTop (mkF m 7 #[.val (.ref a0), .val (.int (4 : Int32)), .val (.int p2), .val (.int p3), .val (.int p4)] [(.int p3), (.int (4 : Int32))])) (B := s₁.setTop (mkF m 12 #[.val (.ref a0), .val (.int (4 : Int32)), .val (.int p2), .val (.int p3), .val (.int p4)] [(.int (4 : Int32)), (.ref a0)])) (fun t k => ?_) ?_
      · show Steps p.tables e below (s₁.setTop (mkF m 7 #[.val (.ref a0), .val (.int (4 : Int32)), .val (.int p2), .val (.int p3), .val (.int p4)] [(.int p3), (.int (4 : Int32))])) t
        refine XS.icmpNo X0.here hx rfl (hb hby d2_7) rfl (flt hc6).1 ?_
        show Steps p.tables e below (s₁.setTop (mkF m 10 #[.val (.ref a0), .val (.int (4 : Int32)), .val (.int p2), .val (.int p3), .val (.int p4)] [])) t
        refine XS.aloadN X0.here hx rfl (hb hby d2_10) rfl rfl ?_
        show Steps p.tables e below (s₁.setTop (mkF m 11 #[.val (.ref a0), .val (.int (4 : Int32)), .val (.int p2), .val (.int p3), .val (.int p4)] [(.ref a0)])) t
        refine XS.iloadN X0.here hx rfl (hb hby d2_11) rfl ?_
        exact k
      have cq8 := V_a
      obtain ⟨clq8, Arq8, qq8, Sq8, Nq8, Hq8, Gq8⟩ := cq8
      have hinq8 := inb_of (j := (4 : Int32)) Sq8 ⟨by decide, by decide⟩
      refine OwnGo.of (X0.baloadBytes hx (j := (4 : Int32)) (v := (.int el4)) (by rw [e0]; exact Arq8.1) (State.isArrayOf_alike hZ.alike Arq8.2.1) Arq8.2.2 hinq8 (Hq8.at hinq8 rfl) (g := (mkF m 12 #[.val (.ref a0), .val (.int (4 : Int32)), .val (.int p2), .val (.int p3), .val (.int p4)] [(.int (4 : Int32)), (.ref a0)])) rfl rfl (hb hby d2_12)) ?_
      show OwnGo p.tables e below _ (s₁.setTop (mkF m 13 #[.val (.ref a0), .val (.int (4 : Int32)), .val (.int p2), .val (.int p3), .val (.int p4)] [(.int el4)]))
      refine OwnGo.of (A := s₁.setTop (mkF m 13 #[.val (.ref a0), .val (.int (4 : Int32)), .val (.int p2), .val (.int p3), .val (.int p4)] [(.int el4)])) (B := s₁.setTop (mkF m 15 #[.val (.ref a0), .val (.int (4 : Int32)), .val (.int p2), .val (.int p3), .val (.int p4)] [(.int p4), (.int el4)])) (fun t k => ?_) ?_
      · show Steps p.tables e below (s₁.setTop (mkF m 13 #[.val (.ref a0), .val (.int (4 : Int32)), .val (.int p2), .val (.int p3), .val (.int p4)] [(.int el4)])) t
        refine XS.iload X0.here hx rfl (hb hby d2_13) rfl ?_
        exact k
      by_cases hc9 : el4 = p4
      · refine OwnGo.of (A := s₁.setTop (mkF m 15 #[.val (.ref a0), .val (.int (4 : Int32)), .val (.int p2), .val (.int p3), .val (.int p4)] [(.int p4), (.int el4)])) (B := s₁.setTop (mkF m 23 #[.val (.ref a0), .val (.int (4 : Int32)), .val (.int p2), .val (.int p3), .val (.int p4)] [(.int (1 : Int32))])) (fun t k => ?_) ?_
        · show Steps p.tables e below (s₁.setTop (mkF m 15 #[.val (.ref a0), .val (.int (4 : Int32)), .val (.int p2), .val (.int p3), .val (.int p4)] [(.int p4), (.int el4)])) t
          refine XS.icmpNo X0.here hx rfl (hb hby d2_15) rfl (teq hc9).2 ?_
          show Steps p.tables e below (s₁.setTop (mkF m 18 #[.val (.ref a0), .val (.int (4 : Int32)), .val (.int p2), .val (.int p3), .val (.int p4)] [])) t
          refine XS.iconst X0.here hx rfl (hb hby d2_18) ?_
          show Steps p.tables e below (s₁.setTop (mkF m 19 #[.val (.ref a0), .val (.int (4 : Int32)), .val (.int p2), .val (.int p3), .val (.int p4)] [(.int (1 : Int32))])) t
          refine XS.goto X0.here hx rfl (pc0 := 19) (pc' := 23) rfl (hb hby d2_19) (by decide) (by decide) ?_
          exact k
        obtain ⟨fs, hr, hrun, hended, hW, hsame⟩ := X0.leave (v := some (.int (nar .boolean (1 : Int32)))) (fun h => by rw [Bd.returns] at h; cases h) hlk
        refine ⟨_, _, ?_, hrun, hended, _, _, rfl, ?_, ⟨_, rfl⟩, hW, hsame.mono (by decide) (by decide)⟩
        · show Steps p.tables e below (s₁.setTop (mkF m 23 #[.val (.ref a0), .val (.int (4 : Int32)), .val (.int p2), .val (.int p3), .val (.int p4)] [(.int (1 : Int32))])) _
          exact retN X0 hx (t := .boolean) Bd.returns (by simp) (hb hby d2_23) hr
        · show Qrm2_4 Z a0 p2 p3 p4 el0 el1 el2 el3 el4 el5 el6 el7 ka h0 n0 _ (s₁.setFrames fs).heap _
          rw [show (s₁.setFrames fs).heap = h0 from e0]
          exact ⟨congrArg (fun z => some (Value.int z)) (by rw [own_k4, if_neg hc1, if_neg hc6, if_pos hc9]; try rfl), N0, rfl⟩
      · refine OwnGo.of (A := s₁.setTop (mkF m 15 #[.val (.ref a0), .val (.int (4 : Int32)), .val (.int p2), .val (.int p3), .val (.int p4)] [(.int p4), (.int el4)])) (B := s₁.setTop (mkF m 23 #[.val (.ref a0), .val (.int (4 : Int32)), .val (.int p2), .val (.int p3), .val (.int p4)] [(.int (0 : Int32))])) (fun t k => ?_) ?_
        · show Steps p.tables e below (s₁.setTop (mkF m 15 #[.val (.ref a0), .val (.int (4 : Int32)), .val (.int p2), .val (.int p3), .val (.int p4)] [(.int p4), (.int el4)])) t
          refine XS.icmpYes X0.here hx rfl (pc0 := 15) (pc' := 22) rfl (hb hby d2_15) rfl (feq hc9).2 (by decide) (by decide) ?_
          show Steps p.tables e below (s₁.setTop (mkF m 22 #[.val (.ref a0), .val (.int (4 : Int32)), .val (.int p2), .val (.int p3), .val (.int p4)] [])) t
          refine XS.iconst X0.here hx rfl (hb hby d2_22) ?_
          exact k
        obtain ⟨fs, hr, hrun, hended, hW, hsame⟩ := X0.leave (v := some (.int (nar .boolean (0 : Int32)))) (fun h => by rw [Bd.returns] at h; cases h) hlk
        refine ⟨_, _, ?_, hrun, hended, _, _, rfl, ?_, ⟨_, rfl⟩, hW, hsame.mono (by decide) (by decide)⟩
        · show Steps p.tables e below (s₁.setTop (mkF m 23 #[.val (.ref a0), .val (.int (4 : Int32)), .val (.int p2), .val (.int p3), .val (.int p4)] [(.int (0 : Int32))])) _
          exact retN X0 hx (t := .boolean) Bd.returns (by simp) (hb hby d2_23) hr
        · show Qrm2_4 Z a0 p2 p3 p4 el0 el1 el2 el3 el4 el5 el6 el7 ka h0 n0 _ (s₁.setFrames fs).heap _
          rw [show (s₁.setFrames fs).heap = h0 from e0]
          exact ⟨congrArg (fun z => some (Value.int z)) (by rw [own_k4, if_neg hc1, if_neg hc6, if_neg hc9]; try rfl), N0, rfl⟩
def own_k5 (a0 : Addr) (p2 : Int32) (p3 : Int32) (p4 : Int32) (el0 : Int32) (el1 : Int32) (el2 : Int32) (el3 : Int32) (el4 : Int32) (el5 : Int32) (el6 : Int32) (el7 : Int32) (ka : ClassId) : Int32 := (if (5 : Int32) < p2 then (if el5 = p4 then (1 : Int32) else (0 : Int32)) else (if (5 : Int32) < p3 then (1 : Int32) else (if el5 = p4 then (1 : Int32) else (0 : Int32))))
theorem ef_rm2_5 (m : MethodId) (a0 : Addr) (p2 : Int32) (p3 : Int32) (p4 : Int32) : entryFrame m #[(.ref a0), (.int (5 : Int32)), (.int p2), (.int p3), (.int p4)] 5 = mkF m 0 #[.val (.ref a0), .val (.int (5 : Int32)), .val (.int p2), .val (.int p3), .val (.int p4)] [] := by first | (simp [entryFrame, mkF, argsToLocals, Value.category]; done) | rfl
def Qrm2_5 (Z : State) (a0 : Addr) (p2 : Int32) (p3 : Int32) (p4 : Int32) (el0 : Int32) (el1 : Int32) (el2 : Int32) (el3 : Int32) (el4 : Int32) (el5 : Int32) (el6 : Int32) (el7 : Int32) (ka : ClassId) (h0 : Heap) (n0 : Nat) (v : Option Value) (h : Heap) (L : List Loc) : Prop := v = some (.int (own_k5 a0 p2 p3 p4 el0 el1 el2 el3 el4 el5 el6 el7 ka)) ∧ Fr n0 L ∧ h = h0
set_option maxRecDepth 65536 in
set_option maxHeartbeats 40000000 in
theorem rm2_5 (l : Launch) (Z : State) (aw : Array Value) (hw : ∀ d ∈ tables_1, d.before aw Z = true) (ws : List Jvm.Cond) (a0 : Addr) (p2 : Int32) (p3 : Int32) (p4 : Int32) (el0 : Int32) (el1 : Int32) (el2 : Int32) (el3 : Int32) (el4 : Int32) (el5 : Int32) (el6 : Int32) (el7 : Int32) (ka : ClassId) (h0 : Heap) (n0 : Nat) (Z0 : n0 ≤ h0.size) (V_a : Arv Z h0 a0 ka .byte (8 : Int32) [(.int el0), (.int el1), (.int el2), (.int el3), (.int el4), (.int el5), (.int el6), (.int el7)] (.int (0 : Int32))) :
    MetFree l (⟨"com/example/sevenfold/sevenfold/NaturalWriteCodePointPinLaw", "kept", "([BIIIB)Z"⟩ : MethodName) (head1 (Jvm.Cond.code (⟨"com/example/sevenfold/sevenfold/NaturalWriteCodePointPinLaw", "kept", "([BIIIB)Z"⟩ : MethodName) method_2_code 5 (some .boolean) :: ws) ({ frames := 0, cells := 0, slots := 0, locals := 0 } : Room)) (fun a U => a = #[(.ref a0), (.int (5 : Int32)), (.int p2), (.int p3), (.int p4)] ∧ Z.Warmed39 U.vm ∧ U.heap = h0) (fun _ _ _ _ _ => True) (fun _ U o U' => ∃ v L, o = .returned v ∧ Qrm2_5 Z a0 p2 p3 p4 el0 el1 el2 el3 el4 el5 el6 el7 ka h0 n0 v U'.heap L ∧ FrameEnd U o U' L ({ frames := 0, cells := 0, slots := 0, locals := 0 } : Room).cells ({ frames := 0, cells := 0, slots := 0, locals := 0 } : Room).slots) := by
  refine MetFree.of_bodySF (plainFor_of_name pn_1) hisR ?_
  intro p e s m args below meth c s₁ Bd hml0 hP hK
  obtain ⟨rfl, hZ, hh⟩ := hP
  have hx := Bd.exec
  have hby := Bd.bytes
  have hml : c.maxLocals = 5 := hml0
  have hown : s.vm.findClass "com/example/sevenfold/sevenfold/NaturalWriteCodePointPinLaw" = some m.cls := findClass_of_methodNamed Bd.named
  have hnm := (name_of_methodNamed Bd.named Bd.method).1
  have X0 : Stand p l e ({ frames := 0, cells := 0, slots := 0, locals := 0 } : Room) s m #[(.ref a0), (.int (5 : Int32)), (.int p2), (.int p3), (.int p4)] below meth c s₁ [] 0 0 := Stand.of_body Bd
  have e0 : s₁.heap = h0 := by rw [← hh, Bd.state]; rfl
  have N0 := Fr.nil n0
  have hlk := Bd.notSynchronized
  show OwnGo p.tables e below _ (s₁.setTop (entryFrame m #[(.ref a0), (.int (5 : Int32)), (.int p2), (.int p3), (.int p4)] 5))
  rw [ef_rm2_5 m a0 p2 p3 p4]
  show OwnGo p.tables e below _ (s₁.setTop (mkF m 0 #[.val (.ref a0), .val (.int (5 : Int32)), .val (.int p2), .val (.int p3), .val (.int p4)] []))
  refine OwnGo.of (A := s₁.setTop (mkF m 0 #[.val (.ref a0), .val (.int (5 : Int32)), .val (.int p2), .val (.int p3), .val (.int p4)] [])) (B := s₁.setTop (mkF m 2 #[.val (.ref a0), .val (.int (5 : Int32)), .val (.int p2), .val (.int p3), .val (.int p4)] [(.int p2), (.int (5 : Int32))])) (fun t k => ?_) ?_
  · show Steps p.tables e below (s₁.setTop (mkF m 0 #[.val (.ref a0), .val (.int (5 : Int32)), .val (.int p2), .val (.int p3), .val (.int p4)] [])) t
    refine XS.iloadN X0.here hx rfl (hb hby d2_0) rfl ?_
    show Steps p.tables e below (s₁.setTop (mkF m 1 #[.val (.ref a0), .val (.int (5 : Int32)), .val (.int p2), .val (.int p3), .val (.int p4)] [(.int (5 : Int32))])) t
    refine XS.iloadN X0.here hx rfl (hb hby d2_1) rfl ?_
    exact k
  by_cases hc1 : (5 : Int32) < p2
  · refine OwnGo.of (A := s₁.setTop (mkF m 2 #[.val (.ref a0), .val (.int (5 : Int32)), .val (.int p2), .val (.int p3), .val (.int p4)] [(.int p2), (.int (5 : Int32))])) (B := s₁.setTop (mkF m 12 #[.val (.ref a0), .val (.int (5 : Int32)), .val (.int p2), .val (.int p3), .val (.int p4)] [(.int (5 : Int32)), (.ref a0)])) (fun t k => ?_) ?_
    · show Steps p.tables e below (s₁.setTop (mkF m 2 #[.val (.ref a0), .val (.int (5 : Int32)), .val (.int p2), .val (.int p3), .val (.int p4)] [(.int p2), (.int (5 : Int32))])) t
      refine XS.icmpYes X0.here hx rfl (pc0 := 2) (pc' := 10) rfl (hb hby d2_2) rfl (tlt hc1).1 (by decide) (by decide) ?_
      show Steps p.tables e below (s₁.setTop (mkF m 10 #[.val (.ref a0), .val (.int (5 : Int32)), .val (.int p2), .val (.int p3), .val (.int p4)] [])) t
      refine XS.aloadN X0.here hx rfl (hb hby d2_10) rfl rfl ?_
      show Steps p.tables e below (s₁.setTop (mkF m 11 #[.val (.ref a0), .val (.int (5 : Int32)), .val (.int p2), .val (.int p3), .val (.int p4)] [(.ref a0)])) t
      refine XS.iloadN X0.here hx rfl (hb hby d2_11) rfl ?_
      exact k
    have cq2 := V_a
    obtain ⟨clq2, Arq2, qq2, Sq2, Nq2, Hq2, Gq2⟩ := cq2
    have hinq2 := inb_of (j := (5 : Int32)) Sq2 ⟨by decide, by decide⟩
    refine OwnGo.of (X0.baloadBytes hx (j := (5 : Int32)) (v := (.int el5)) (by rw [e0]; exact Arq2.1) (State.isArrayOf_alike hZ.alike Arq2.2.1) Arq2.2.2 hinq2 (Hq2.at hinq2 rfl) (g := (mkF m 12 #[.val (.ref a0), .val (.int (5 : Int32)), .val (.int p2), .val (.int p3), .val (.int p4)] [(.int (5 : Int32)), (.ref a0)])) rfl rfl (hb hby d2_12)) ?_
    show OwnGo p.tables e below _ (s₁.setTop (mkF m 13 #[.val (.ref a0), .val (.int (5 : Int32)), .val (.int p2), .val (.int p3), .val (.int p4)] [(.int el5)]))
    refine OwnGo.of (A := s₁.setTop (mkF m 13 #[.val (.ref a0), .val (.int (5 : Int32)), .val (.int p2), .val (.int p3), .val (.int p4)] [(.int el5)])) (B := s₁.setTop (mkF m 15 #[.val (.ref a0), .val (.int (5 : Int32)), .val (.int p2), .val (.int p3), .val (.int p4)] [(.int p4), (.int el5)])) (fun t k => ?_) ?_
    · show Steps p.tables e below (s₁.setTop (mkF m 13 #[.val (.ref a0), .val (.int (5 : Int32)), .val (.int p2), .val (.int p3), .val (.int p4)] [(.int el5)])) t
      refine XS.iload X0.here hx rfl (hb hby d2_13) rfl ?_
      exact k
    by_cases hc3 : el5 = p4
    · refine OwnGo.of (A := s₁.setTop (mkF m 15 #[.val (.ref a0), .val (.int (5 : Int32)), .val (.int p2), .val (.int p3), .val (.int p4)] [(.int p4), (.int el5)])) (B := s₁.setTop (mkF m 23 #[.val (.ref a0), .val (.int (5 : Int32)), .val (.int p2), .val (.int p3), .val (.int p4)] [(.int (1 : Int32))])) (fun t k => ?_) ?_
      · show Steps p.tables e below (s₁.setTop (mkF m 15 #[.val (.ref a0), .val (.int (5 : Int32)), .val (.int p2), .val (.int p3), .val (.int p4)] [(.int p4), (.int el5)])) t
        refine XS.icmpNo X0.here hx rfl (hb hby d2_15) rfl (teq hc3).2 ?_
        show Steps p.tables e below (s₁.setTop (mkF m 18 #[.val (.ref a0), .val (.int (5 : Int32)), .val (.int p2), .val (.int p3), .val (.int p4)] [])) t
        refine XS.iconst X0.here hx rfl (hb hby d2_18) ?_
        show Steps p.tables e below (s₁.setTop (mkF m 19 #[.val (.ref a0), .val (.int (5 : Int32)), .val (.int p2), .val (.int p3), .val (.int p4)] [(.int (1 : Int32))])) t
        refine XS.goto X0.here hx rfl (pc0 := 19) (pc' := 23) rfl (hb hby d2_19) (by decide) (by decide) ?_
        exact k
      obtain ⟨fs, hr, hrun, hended, hW, hsame⟩ := X0.leave (v := some (.int (nar .boolean (1 : Int32)))) (fun h => by rw [Bd.returns] at h; cases h) hlk
      refine ⟨_, _, ?_, hrun, hended, _, _, rfl, ?_, ⟨_, rfl⟩, hW, hsame.mono (by decide) (by decide)⟩
      · show Steps p.tables e below (s₁.setTop (mkF m 23 #[.val (.ref a0), .val (.int (5 : Int32)), .val (.int p2), .val (.int p3), .val (.int p4)] [(.int (1 : Int32))])) _
        exact retN X0 hx (t := .boolean) Bd.returns (by simp) (hb hby d2_23) hr
      · show Qrm2_5 Z a0 p2 p3 p4 el0 el1 el2 el3 el4 el5 el6 el7 ka h0 n0 _ (s₁.setFrames fs).heap _
        rw [show (s₁.setFrames fs).heap = h0 from e0]
        exact ⟨congrArg (fun z => some (Value.int z)) (by rw [own_k5, if_pos hc1, if_pos hc3]; try rfl), N0, rfl⟩
    · refine OwnGo.of (A := s₁.setTop (mkF m 15 #[.val (.ref a0), .val (.int (5 : Int32)), .val (.int p2), .val (.int p3), .val (.int p4)] [(.int p4), (.int el5)])) (B := s₁.setTop (mkF m 23 #[.val (.ref a0), .val (.int (5 : Int32)), .val (.int p2), .val (.int p3), .val (.int p4)] [(.int (0 : Int32))])) (fun t k => ?_) ?_
      · show Steps p.tables e below (s₁.setTop (mkF m 15 #[.val (.ref a0), .val (.int (5 : Int32)), .val (.int p2), .val (.int p3), .val (.int p4)] [(.int p4), (.int el5)])) t
        refine XS.icmpYes X0.here hx rfl (pc0 := 15) (pc' := 22) rfl (hb hby d2_15) rfl (feq hc3).2 (by decide) (by decide) ?_
        show Steps p.tables e below (s₁.setTop (mkF m 22 #[.val (.ref a0), .val (.int (5 : Int32)), .val (.int p2), .val (.int p3), .val (.int p4)] [])) t
        refine XS.iconst X0.here hx rfl (hb hby d2_22) ?_
        exact k
      obtain ⟨fs, hr, hrun, hended, hW, hsame⟩ := X0.leave (v := some (.int (nar .boolean (0 : Int32)))) (fun h => by rw [Bd.returns] at h; cases h) hlk
      refine ⟨_, _, ?_, hrun, hended, _, _, rfl, ?_, ⟨_, rfl⟩, hW, hsame.mono (by decide) (by decide)⟩
      · show Steps p.tables e below (s₁.setTop (mkF m 23 #[.val (.ref a0), .val (.int (5 : Int32)), .val (.int p2), .val (.int p3), .val (.int p4)] [(.int (0 : Int32))])) _
        exact retN X0 hx (t := .boolean) Bd.returns (by simp) (hb hby d2_23) hr
      · show Qrm2_5 Z a0 p2 p3 p4 el0 el1 el2 el3 el4 el5 el6 el7 ka h0 n0 _ (s₁.setFrames fs).heap _
        rw [show (s₁.setFrames fs).heap = h0 from e0]
        exact ⟨congrArg (fun z => some (Value.int z)) (by rw [own_k5, if_pos hc1, if_neg hc3]; try rfl), N0, rfl⟩
  · refine OwnGo.of (A := s₁.setTop (mkF m 2 #[.val (.ref a0), .val (.int (5 : Int32)), .val (.int p2), .val (.int p3), .val (.int p4)] [(.int p2), (.int (5 : Int32))])) (B := s₁.setTop (mkF m 7 #[.val (.ref a0), .val (.int (5 : Int32)), .val (.int p2), .val (.int p3), .val (.int p4)] [(.int p3), (.int (5 : Int32))])) (fun t k => ?_) ?_
    · show Steps p.tables e below (s₁.setTop (mkF m 2 #[.val (.ref a0), .val (.int (5 : Int32)), .val (.int p2), .val (.int p3), .val (.int p4)] [(.int p2), (.int (5 : Int32))])) t
      refine XS.icmpNo X0.here hx rfl (hb hby d2_2) rfl (flt hc1).1 ?_
      show Steps p.tables e below (s₁.setTop (mkF m 5 #[.val (.ref a0), .val (.int (5 : Int32)), .val (.int p2), .val (.int p3), .val (.int p4)] [])) t
      refine XS.iloadN X0.here hx rfl (hb hby d2_5) rfl ?_
      show Steps p.tables e below (s₁.setTop (mkF m 6 #[.val (.ref a0), .val (.int (5 : Int32)), .val (.int p2), .val (.int p3), .val (.int p4)] [(.int (5 : Int32))])) t
      refine XS.iloadN X0.here hx rfl (hb hby d2_6) rfl ?_
      exact k
    by_cases hc6 : (5 : Int32) < p3
    · refine OwnGo.of (A := s₁.setTop (mkF m 7 #[.val (.ref a0), .val (.int (5 : Int32)), .val (.int p2), .val (.int p3), .val (.int p4)] [(.int p3), (.int (5 : Int32))])) (B := s₁.setTop (mkF m 23 #[.val (.ref a0), .val (.int (5 : Int32)), .val (.int p2), .val (.int p3), .val (.int p4)] [(.int (1 : Int32))])) (fun t k => ?_) ?_
      · show Steps p.tables e below (s₁.setTop (mkF m 7 #[.val (.ref a0), .val (.int (5 : Int32)), .val (.int p2), .val (.int p3), .val (.int p4)] [(.int p3), (.int (5 : Int32))])) t
        refine XS.icmpYes X0.here hx rfl (pc0 := 7) (pc' := 18) rfl (hb hby d2_7) rfl (tlt hc6).1 (by decide) (by decide) ?_
        show Steps p.tables e below (s₁.setTop (mkF m 18 #[.val (.ref a0), .val (.int (5 : Int32)), .val (.int p2), .val (.int p3), .val (.int p4)] [])) t
        refine XS.iconst X0.here hx rfl (hb hby d2_18) ?_
        show Steps p.tables e below (s₁.setTop (mkF m 19 #[.val (.ref a0), .val (.int (5 : Int32)), .val (.int p2), .val (.int p3), .val (.int p4)] [(.int (1 : Int32))])) t
        refine XS.goto X0.here hx rfl (pc0 := 19) (pc' := 23) rfl (hb hby d2_19) (by decide) (by decide) ?_
        exact k
      obtain ⟨fs, hr, hrun, hended, hW, hsame⟩ := X0.leave (v := some (.int (nar .boolean (1 : Int32)))) (fun h => by rw [Bd.returns] at h; cases h) hlk
      refine ⟨_, _, ?_, hrun, hended, _, _, rfl, ?_, ⟨_, rfl⟩, hW, hsame.mono (by decide) (by decide)⟩
      · show Steps p.tables e below (s₁.setTop (mkF m 23 #[.val (.ref a0), .val (.int (5 : Int32)), .val (.int p2), .val (.int p3), .val (.int p4)] [(.int (1 : Int32))])) _
        exact retN X0 hx (t := .boolean) Bd.returns (by simp) (hb hby d2_23) hr
      · show Qrm2_5 Z a0 p2 p3 p4 el0 el1 el2 el3 el4 el5 el6 el7 ka h0 n0 _ (s₁.setFrames fs).heap _
        rw [show (s₁.setFrames fs).heap = h0 from e0]
        exact ⟨congrArg (fun z => some (Value.int z)) (by rw [own_k5, if_neg hc1, if_pos hc6]; try rfl), N0, rfl⟩
    · refine OwnGo.of (A := s₁.setTop (mkF m 7 #[.val (.ref a0), .val (.int (5 : Int32)), .val (.int p2), .val (.int p3), .val (.int p4)] [(.int p3), (.int (5 : Int32))])) (B := s₁.setTop (mkF m 12 #[.val (.ref a0), .val (.int (5 : Int32)), .val (.int p2), .val (.int p3), .val (.int p4)] [(.int (5 : Int32)), (.ref a0)])) (fun t k => ?_) ?_
      · show Steps p.tables e below (s₁.setTop (mkF m 7 #[.val (.ref a0), .val (.int (5 : Int32)), .val (.int p2), .val (.int p3), .val (.int p4)] [(.int p3), (.int (5 : Int32))])) t
        refine XS.icmpNo X0.here hx rfl (hb hby d2_7) rfl (flt hc6).1 ?_
        show Steps p.tables e below (s₁.setTop (mkF m 10 #[.val (.ref a0), .val (.int (5 : Int32)), .val (.int p2), .val (.int p3), .val (.int p4)] [])) t
        refine XS.aloadN X0.here hx rfl (hb hby d2_10) rfl rfl ?_
        show Steps p.tables e below (s₁.setTop (mkF m 11 #[.val (.ref a0), .val (.int (5 : Int32)), .val (.int p2), .val (.int p3), .val (.int p4)] [(.ref a0)])) t
        refine XS.iloadN X0.here hx rfl (hb hby d2_11) rfl ?_
        exact k
      have cq8 := V_a
      obtain ⟨clq8, Arq8, qq8, Sq8, Nq8, Hq8, Gq8⟩ := cq8
      have hinq8 := inb_of (j := (5 : Int32)) Sq8 ⟨by decide, by decide⟩
      refine OwnGo.of (X0.baloadBytes hx (j := (5 : Int32)) (v := (.int el5)) (by rw [e0]; exact Arq8.1) (State.isArrayOf_alike hZ.alike Arq8.2.1) Arq8.2.2 hinq8 (Hq8.at hinq8 rfl) (g := (mkF m 12 #[.val (.ref a0), .val (.int (5 : Int32)), .val (.int p2), .val (.int p3), .val (.int p4)] [(.int (5 : Int32)), (.ref a0)])) rfl rfl (hb hby d2_12)) ?_
      show OwnGo p.tables e below _ (s₁.setTop (mkF m 13 #[.val (.ref a0), .val (.int (5 : Int32)), .val (.int p2), .val (.int p3), .val (.int p4)] [(.int el5)]))
      refine OwnGo.of (A := s₁.setTop (mkF m 13 #[.val (.ref a0), .val (.int (5 : Int32)), .val (.int p2), .val (.int p3), .val (.int p4)] [(.int el5)])) (B := s₁.setTop (mkF m 15 #[.val (.ref a0), .val (.int (5 : Int32)), .val (.int p2), .val (.int p3), .val (.int p4)] [(.int p4), (.int el5)])) (fun t k => ?_) ?_
      · show Steps p.tables e below (s₁.setTop (mkF m 13 #[.val (.ref a0), .val (.int (5 : Int32)), .val (.int p2), .val (.int p3), .val (.int p4)] [(.int el5)])) t
        refine XS.iload X0.here hx rfl (hb hby d2_13) rfl ?_
        exact k
      by_cases hc9 : el5 = p4
      · refine OwnGo.of (A := s₁.setTop (mkF m 15 #[.val (.ref a0), .val (.int (5 : Int32)), .val (.int p2), .val (.int p3), .val (.int p4)] [(.int p4), (.int el5)])) (B := s₁.setTop (mkF m 23 #[.val (.ref a0), .val (.int (5 : Int32)), .val (.int p2), .val (.int p3), .val (.int p4)] [(.int (1 : Int32))])) (fun t k => ?_) ?_
        · show Steps p.tables e below (s₁.setTop (mkF m 15 #[.val (.ref a0), .val (.int (5 : Int32)), .val (.int p2), .val (.int p3), .val (.int p4)] [(.int p4), (.int el5)])) t
          refine XS.icmpNo X0.here hx rfl (hb hby d2_15) rfl (teq hc9).2 ?_
          show Steps p.tables e below (s₁.setTop (mkF m 18 #[.val (.ref a0), .val (.int (5 : Int32)), .val (.int p2), .val (.int p3), .val (.int p4)] [])) t
          refine XS.iconst X0.here hx rfl (hb hby d2_18) ?_
          show Steps p.tables e below (s₁.setTop (mkF m 19 #[.val (.ref a0), .val (.int (5 : Int32)), .val (.int p2), .val (.int p3), .val (.int p4)] [(.int (1 : Int32))])) t
          refine XS.goto X0.here hx rfl (pc0 := 19) (pc' := 23) rfl (hb hby d2_19) (by decide) (by decide) ?_
          exact k
        obtain ⟨fs, hr, hrun, hended, hW, hsame⟩ := X0.leave (v := some (.int (nar .boolean (1 : Int32)))) (fun h => by rw [Bd.returns] at h; cases h) hlk
        refine ⟨_, _, ?_, hrun, hended, _, _, rfl, ?_, ⟨_, rfl⟩, hW, hsame.mono (by decide) (by decide)⟩
        · show Steps p.tables e below (s₁.setTop (mkF m 23 #[.val (.ref a0), .val (.int (5 : Int32)), .val (.int p2), .val (.int p3), .val (.int p4)] [(.int (1 : Int32))])) _
          exact retN X0 hx (t := .boolean) Bd.returns (by simp) (hb hby d2_23) hr
        · show Qrm2_5 Z a0 p2 p3 p4 el0 el1 el2 el3 el4 el5 el6 el7 ka h0 n0 _ (s₁.setFrames fs).heap _
          rw [show (s₁.setFrames fs).heap = h0 from e0]
          exact ⟨congrArg (fun z => some (Value.int z)) (by rw [own_k5, if_neg hc1, if_neg hc6, if_pos hc9]; try rfl), N0, rfl⟩
      · refine OwnGo.of (A := s₁.setTop (mkF m 15 #[.val (.ref a0), .val (.int (5 : Int32)), .val (.int p2), .val (.int p3), .val (.int p4)] [(.int p4), (.int el5)])) (B := s₁.setTop (mkF m 23 #[.val (.ref a0), .val (.int (5 : Int32)), .val (.int p2), .val (.int p3), .val (.int p4)] [(.int (0 : Int32))])) (fun t k => ?_) ?_
        · show Steps p.tables e below (s₁.setTop (mkF m 15 #[.val (.ref a0), .val (.int (5 : Int32)), .val (.int p2), .val (.int p3), .val (.int p4)] [(.int p4), (.int el5)])) t
          refine XS.icmpYes X0.here hx rfl (pc0 := 15) (pc' := 22) rfl (hb hby d2_15) rfl (feq hc9).2 (by decide) (by decide) ?_
          show Steps p.tables e below (s₁.setTop (mkF m 22 #[.val (.ref a0), .val (.int (5 : Int32)), .val (.int p2), .val (.int p3), .val (.int p4)] [])) t
          refine XS.iconst X0.here hx rfl (hb hby d2_22) ?_
          exact k
        obtain ⟨fs, hr, hrun, hended, hW, hsame⟩ := X0.leave (v := some (.int (nar .boolean (0 : Int32)))) (fun h => by rw [Bd.returns] at h; cases h) hlk
        refine ⟨_, _, ?_, hrun, hended, _, _, rfl, ?_, ⟨_, rfl⟩, hW, hsame.mono (by decide) (by decide)⟩
        · show Steps p.tables e below (s₁.setTop (mkF m 23 #[.val (.ref a0), .val (.int (5 : Int32)), .val (.int p2), .val (.int p3), .val (.int p4)] [(.int (0 : Int32))])) _
          exact retN X0 hx (t := .boolean) Bd.returns (by simp) (hb hby d2_23) hr
        · show Qrm2_5 Z a0 p2 p3 p4 el0 el1 el2 el3 el4 el5 el6 el7 ka h0 n0 _ (s₁.setFrames fs).heap _
          rw [show (s₁.setFrames fs).heap = h0 from e0]
          exact ⟨congrArg (fun z => some (Value.int z)) (by rw [own_k5, if_neg hc1, if_neg hc6, if_neg hc9]; try rfl), N0, rfl⟩
def own_k6 (a0 : Addr) (p2 : Int32) (p3 : Int32) (p4 : Int32) (el0 : Int32) (el1 : Int32) (el2 : Int32) (el3 : Int32) (el4 : Int32) (el5 : Int32) (el6 : Int32) (el7 : Int32) (ka : ClassId) : Int32 := (if (6 : Int32) < p2 then (if el6 = p4 then (1 : Int32) else (0 : Int32)) else (if (6 : Int32) < p3 then (1 : Int32) else (if el6 = p4 then (1 : Int32) else (0 : Int32))))
theorem ef_rm2_6 (m : MethodId) (a0 : Addr) (p2 : Int32) (p3 : Int32) (p4 : Int32) : entryFrame m #[(.ref a0), (.int (6 : Int32)), (.int p2), (.int p3), (.int p4)] 5 = mkF m 0 #[.val (.ref a0), .val (.int (6 : Int32)), .val (.int p2), .val (.int p3), .val (.int p4)] [] := by first | (simp [entryFrame, mkF, argsToLocals, Value.category]; done) | rfl
def Qrm2_6 (Z : State) (a0 : Addr) (p2 : Int32) (p3 : Int32) (p4 : Int32) (el0 : Int32) (el1 : Int32) (el2 : Int32) (el3 : Int32) (el4 : Int32) (el5 : Int32) (el6 : Int32) (el7 : Int32) (ka : ClassId) (h0 : Heap) (n0 : Nat) (v : Option Value) (h : Heap) (L : List Loc) : Prop := v = some (.int (own_k6 a0 p2 p3 p4 el0 el1 el2 el3 el4 el5 el6 el7 ka)) ∧ Fr n0 L ∧ h = h0
set_option maxRecDepth 65536 in
set_option maxHeartbeats 40000000 in
theorem rm2_6 (l : Launch) (Z : State) (aw : Array Value) (hw : ∀ d ∈ tables_1, d.before aw Z = true) (ws : List Jvm.Cond) (a0 : Addr) (p2 : Int32) (p3 : Int32) (p4 : Int32) (el0 : Int32) (el1 : Int32) (el2 : Int32) (el3 : Int32) (el4 : Int32) (el5 : Int32) (el6 : Int32) (el7 : Int32) (ka : ClassId) (h0 : Heap) (n0 : Nat) (Z0 : n0 ≤ h0.size) (V_a : Arv Z h0 a0 ka .byte (8 : Int32) [(.int el0), (.int el1), (.int el2), (.int el3), (.int el4), (.int el5), (.int el6), (.int el7)] (.int (0 : Int32))) :
    MetFree l (⟨"com/example/sevenfold/sevenfold/NaturalWriteCodePointPinLaw", "kept", "([BIIIB)Z"⟩ : MethodName) (head1 (Jvm.Cond.code (⟨"com/example/sevenfold/sevenfold/NaturalWriteCodePointPinLaw", "kept", "([BIIIB)Z"⟩ : MethodName) method_2_code 5 (some .boolean) :: ws) ({ frames := 0, cells := 0, slots := 0, locals := 0 } : Room)) (fun a U => a = #[(.ref a0), (.int (6 : Int32)), (.int p2), (.int p3), (.int p4)] ∧ Z.Warmed39 U.vm ∧ U.heap = h0) (fun _ _ _ _ _ => True) (fun _ U o U' => ∃ v L, o = .returned v ∧ Qrm2_6 Z a0 p2 p3 p4 el0 el1 el2 el3 el4 el5 el6 el7 ka h0 n0 v U'.heap L ∧ FrameEnd U o U' L ({ frames := 0, cells := 0, slots := 0, locals := 0 } : Room).cells ({ frames := 0, cells := 0, slots := 0, locals := 0 } : Room).slots) := by
  refine MetFree.of_bodySF (plainFor_of_name pn_1) hisR ?_
  intro p e s m args below meth c s₁ Bd hml0 hP hK
  obtain ⟨rfl, hZ, hh⟩ := hP
  have hx := Bd.exec
  have hby := Bd.bytes
  have hml : c.maxLocals = 5 := hml0
  have hown : s.vm.findClass "com/example/sevenfold/sevenfold/NaturalWriteCodePointPinLaw" = some m.cls := findClass_of_methodNamed Bd.named
  have hnm := (name_of_methodNamed Bd.named Bd.method).1
  have X0 : Stand p l e ({ frames := 0, cells := 0, slots := 0, locals := 0 } : Room) s m #[(.ref a0), (.int (6 : Int32)), (.int p2), (.int p3), (.int p4)] below meth c s₁ [] 0 0 := Stand.of_body Bd
  have e0 : s₁.heap = h0 := by rw [← hh, Bd.state]; rfl
  have N0 := Fr.nil n0
  have hlk := Bd.notSynchronized
  show OwnGo p.tables e below _ (s₁.setTop (entryFrame m #[(.ref a0), (.int (6 : Int32)), (.int p2), (.int p3), (.int p4)] 5))
  rw [ef_rm2_6 m a0 p2 p3 p4]
  show OwnGo p.tables e below _ (s₁.setTop (mkF m 0 #[.val (.ref a0), .val (.int (6 : Int32)), .val (.int p2), .val (.int p3), .val (.int p4)] []))
  refine OwnGo.of (A := s₁.setTop (mkF m 0 #[.val (.ref a0), .val (.int (6 : Int32)), .val (.int p2), .val (.int p3), .val (.int p4)] [])) (B := s₁.setTop (mkF m 2 #[.val (.ref a0), .val (.int (6 : Int32)), .val (.int p2), .val (.int p3), .val (.int p4)] [(.int p2), (.int (6 : Int32))])) (fun t k => ?_) ?_
  · show Steps p.tables e below (s₁.setTop (mkF m 0 #[.val (.ref a0), .val (.int (6 : Int32)), .val (.int p2), .val (.int p3), .val (.int p4)] [])) t
    refine XS.iloadN X0.here hx rfl (hb hby d2_0) rfl ?_
    show Steps p.tables e below (s₁.setTop (mkF m 1 #[.val (.ref a0), .val (.int (6 : Int32)), .val (.int p2), .val (.int p3), .val (.int p4)] [(.int (6 : Int32))])) t
    refine XS.iloadN X0.here hx rfl (hb hby d2_1) rfl ?_
    exact k
  by_cases hc1 : (6 : Int32) < p2
  · refine OwnGo.of (A := s₁.setTop (mkF m 2 #[.val (.ref a0), .val (.int (6 : Int32)), .val (.int p2), .val (.int p3), .val (.int p4)] [(.int p2), (.int (6 : Int32))])) (B := s₁.setTop (mkF m 12 #[.val (.ref a0), .val (.int (6 : Int32)), .val (.int p2), .val (.int p3), .val (.int p4)] [(.int (6 : Int32)), (.ref a0)])) (fun t k => ?_) ?_
    · show Steps p.tables e below (s₁.setTop (mkF m 2 #[.val (.ref a0), .val (.int (6 : Int32)), .val (.int p2), .val (.int p3), .val (.int p4)] [(.int p2), (.int (6 : Int32))])) t
      refine XS.icmpYes X0.here hx rfl (pc0 := 2) (pc' := 10) rfl (hb hby d2_2) rfl (tlt hc1).1 (by decide) (by decide) ?_
      show Steps p.tables e below (s₁.setTop (mkF m 10 #[.val (.ref a0), .val (.int (6 : Int32)), .val (.int p2), .val (.int p3), .val (.int p4)] [])) t
      refine XS.aloadN X0.here hx rfl (hb hby d2_10) rfl rfl ?_
      show Steps p.tables e below (s₁.setTop (mkF m 11 #[.val (.ref a0), .val (.int (6 : Int32)), .val (.int p2), .val (.int p3), .val (.int p4)] [(.ref a0)])) t
      refine XS.iloadN X0.here hx rfl (hb hby d2_11) rfl ?_
      exact k
    have cq2 := V_a
    obtain ⟨clq2, Arq2, qq2, Sq2, Nq2, Hq2, Gq2⟩ := cq2
    have hinq2 := inb_of (j := (6 : Int32)) Sq2 ⟨by decide, by decide⟩
    refine OwnGo.of (X0.baloadBytes hx (j := (6 : Int32)) (v := (.int el6)) (by rw [e0]; exact Arq2.1) (State.isArrayOf_alike hZ.alike Arq2.2.1) Arq2.2.2 hinq2 (Hq2.at hinq2 rfl) (g := (mkF m 12 #[.val (.ref a0), .val (.int (6 : Int32)), .val (.int p2), .val (.int p3), .val (.int p4)] [(.int (6 : Int32)), (.ref a0)])) rfl rfl (hb hby d2_12)) ?_
    show OwnGo p.tables e below _ (s₁.setTop (mkF m 13 #[.val (.ref a0), .val (.int (6 : Int32)), .val (.int p2), .val (.int p3), .val (.int p4)] [(.int el6)]))
    refine OwnGo.of (A := s₁.setTop (mkF m 13 #[.val (.ref a0), .val (.int (6 : Int32)), .val (.int p2), .val (.int p3), .val (.int p4)] [(.int el6)])) (B := s₁.setTop (mkF m 15 #[.val (.ref a0), .val (.int (6 : Int32)), .val (.int p2), .val (.int p3), .val (.int p4)] [(.int p4), (.int el6)])) (fun t k => ?_) ?_
    · show Steps p.tables e below (s₁.setTop (mkF m 13 #[.val (.ref a0), .val (.int (6 : Int32)), .val (.int p2), .val (.int p3), .val (.int p4)] [(.int el6)])) t
      refine XS.iload X0.here hx rfl (hb hby d2_13) rfl ?_
      exact k
    by_cases hc3 : el6 = p4
    · refine OwnGo.of (A := s₁.setTop (mkF m 15 #[.val (.ref a0), .val (.int (6 : Int32)), .val (.int p2), .val (.int p3), .val (.int p4)] [(.int p4), (.int el6)])) (B := s₁.setTop (mkF m 23 #[.val (.ref a0), .val (.int (6 : Int32)), .val (.int p2), .val (.int p3), .val (.int p4)] [(.int (1 : Int32))])) (fun t k => ?_) ?_
      · show Steps p.tables e below (s₁.setTop (mkF m 15 #[.val (.ref a0), .val (.int (6 : Int32)), .val (.int p2), .val (.int p3), .val (.int p4)] [(.int p4), (.int el6)])) t
        refine XS.icmpNo X0.here hx rfl (hb hby d2_15) rfl (teq hc3).2 ?_
        show Steps p.tables e below (s₁.setTop (mkF m 18 #[.val (.ref a0), .val (.int (6 : Int32)), .val (.int p2), .val (.int p3), .val (.int p4)] [])) t
        refine XS.iconst X0.here hx rfl (hb hby d2_18) ?_
        show Steps p.tables e below (s₁.setTop (mkF m 19 #[.val (.ref a0), .val (.int (6 : Int32)), .val (.int p2), .val (.int p3), .val (.int p4)] [(.int (1 : Int32))])) t
        refine XS.goto X0.here hx rfl (pc0 := 19) (pc' := 23) rfl (hb hby d2_19) (by decide) (by decide) ?_
        exact k
      obtain ⟨fs, hr, hrun, hended, hW, hsame⟩ := X0.leave (v := some (.int (nar .boolean (1 : Int32)))) (fun h => by rw [Bd.returns] at h; cases h) hlk
      refine ⟨_, _, ?_, hrun, hended, _, _, rfl, ?_, ⟨_, rfl⟩, hW, hsame.mono (by decide) (by decide)⟩
      · show Steps p.tables e below (s₁.setTop (mkF m 23 #[.val (.ref a0), .val (.int (6 : Int32)), .val (.int p2), .val (.int p3), .val (.int p4)] [(.int (1 : Int32))])) _
        exact retN X0 hx (t := .boolean) Bd.returns (by simp) (hb hby d2_23) hr
      · show Qrm2_6 Z a0 p2 p3 p4 el0 el1 el2 el3 el4 el5 el6 el7 ka h0 n0 _ (s₁.setFrames fs).heap _
        rw [show (s₁.setFrames fs).heap = h0 from e0]
        exact ⟨congrArg (fun z => some (Value.int z)) (by rw [own_k6, if_pos hc1, if_pos hc3]; try rfl), N0, rfl⟩
    · refine OwnGo.of (A := s₁.setTop (mkF m 15 #[.val (.ref a0), .val (.int (6 : Int32)), .val (.int p2), .val (.int p3), .val (.int p4)] [(.int p4), (.int el6)])) (B := s₁.setTop (mkF m 23 #[.val (.ref a0), .val (.int (6 : Int32)), .val (.int p2), .val (.int p3), .val (.int p4)] [(.int (0 : Int32))])) (fun t k => ?_) ?_
      · show Steps p.tables e below (s₁.setTop (mkF m 15 #[.val (.ref a0), .val (.int (6 : Int32)), .val (.int p2), .val (.int p3), .val (.int p4)] [(.int p4), (.int el6)])) t
        refine XS.icmpYes X0.here hx rfl (pc0 := 15) (pc' := 22) rfl (hb hby d2_15) rfl (feq hc3).2 (by decide) (by decide) ?_
        show Steps p.tables e below (s₁.setTop (mkF m 22 #[.val (.ref a0), .val (.int (6 : Int32)), .val (.int p2), .val (.int p3), .val (.int p4)] [])) t
        refine XS.iconst X0.here hx rfl (hb hby d2_22) ?_
        exact k
      obtain ⟨fs, hr, hrun, hended, hW, hsame⟩ := X0.leave (v := some (.int (nar .boolean (0 : Int32)))) (fun h => by rw [Bd.returns] at h; cases h) hlk
      refine ⟨_, _, ?_, hrun, hended, _, _, rfl, ?_, ⟨_, rfl⟩, hW, hsame.mono (by decide) (by decide)⟩
      · show Steps p.tables e below (s₁.setTop (mkF m 23 #[.val (.ref a0), .val (.int (6 : Int32)), .val (.int p2), .val (.int p3), .val (.int p4)] [(.int (0 : Int32))])) _
        exact retN X0 hx (t := .boolean) Bd.returns (by simp) (hb hby d2_23) hr
      · show Qrm2_6 Z a0 p2 p3 p4 el0 el1 el2 el3 el4 el5 el6 el7 ka h0 n0 _ (s₁.setFrames fs).heap _
        rw [show (s₁.setFrames fs).heap = h0 from e0]
        exact ⟨congrArg (fun z => some (Value.int z)) (by rw [own_k6, if_pos hc1, if_neg hc3]; try rfl), N0, rfl⟩
  · refine OwnGo.of (A := s₁.setTop (mkF m 2 #[.val (.ref a0), .val (.int (6 : Int32)), .val (.int p2), .val (.int p3), .val (.int p4)] [(.int p2), (.int (6 : Int32))])) (B := s₁.setTop (mkF m 7 #[.val (.ref a0), .val (.int (6 : Int32)), .val (.int p2), .val (.int p3), .val (.int p4)] [(.int p3), (.int (6 : Int32))])) (fun t k => ?_) ?_
    · show Steps p.tables e below (s₁.setTop (mkF m 2 #[.val (.ref a0), .val (.int (6 : Int32)), .val (.int p2), .val (.int p3), .val (.int p4)] [(.int p2), (.int (6 : Int32))])) t
      refine XS.icmpNo X0.here hx rfl (hb hby d2_2) rfl (flt hc1).1 ?_
      show Steps p.tables e below (s₁.setTop (mkF m 5 #[.val (.ref a0), .val (.int (6 : Int32)), .val (.int p2), .val (.int p3), .val (.int p4)] [])) t
      refine XS.iloadN X0.here hx rfl (hb hby d2_5) rfl ?_
      show Steps p.tables e below (s₁.setTop (mkF m 6 #[.val (.ref a0), .val (.int (6 : Int32)), .val (.int p2), .val (.int p3), .val (.int p4)] [(.int (6 : Int32))])) t
      refine XS.iloadN X0.here hx rfl (hb hby d2_6) rfl ?_
      exact k
    by_cases hc6 : (6 : Int32) < p3
    · refine OwnGo.of (A := s₁.setTop (mkF m 7 #[.val (.ref a0), .val (.int (6 : Int32)), .val (.int p2), .val (.int p3), .val (.int p4)] [(.int p3), (.int (6 : Int32))])) (B := s₁.setTop (mkF m 23 #[.val (.ref a0), .val (.int (6 : Int32)), .val (.int p2), .val (.int p3), .val (.int p4)] [(.int (1 : Int32))])) (fun t k => ?_) ?_
      · show Steps p.tables e below (s₁.setTop (mkF m 7 #[.val (.ref a0), .val (.int (6 : Int32)), .val (.int p2), .val (.int p3), .val (.int p4)] [(.int p3), (.int (6 : Int32))])) t
        refine XS.icmpYes X0.here hx rfl (pc0 := 7) (pc' := 18) rfl (hb hby d2_7) rfl (tlt hc6).1 (by decide) (by decide) ?_
        show Steps p.tables e below (s₁.setTop (mkF m 18 #[.val (.ref a0), .val (.int (6 : Int32)), .val (.int p2), .val (.int p3), .val (.int p4)] [])) t
        refine XS.iconst X0.here hx rfl (hb hby d2_18) ?_
        show Steps p.tables e below (s₁.setTop (mkF m 19 #[.val (.ref a0), .val (.int (6 : Int32)), .val (.int p2), .val (.int p3), .val (.int p4)] [(.int (1 : Int32))])) t
        refine XS.goto X0.here hx rfl (pc0 := 19) (pc' := 23) rfl (hb hby d2_19) (by decide) (by decide) ?_
        exact k
      obtain ⟨fs, hr, hrun, hended, hW, hsame⟩ := X0.leave (v := some (.int (nar .boolean (1 : Int32)))) (fun h => by rw [Bd.returns] at h; cases h) hlk
      refine ⟨_, _, ?_, hrun, hended, _, _, rfl, ?_, ⟨_, rfl⟩, hW, hsame.mono (by decide) (by decide)⟩
      · show Steps p.tables e below (s₁.setTop (mkF m 23 #[.val (.ref a0), .val (.int (6 : Int32)), .val (.int p2), .val (.int p3), .val (.int p4)] [(.int (1 : Int32))])) _
        exact retN X0 hx (t := .boolean) Bd.returns (by simp) (hb hby d2_23) hr
      · show Qrm2_6 Z a0 p2 p3 p4 el0 el1 el2 el3 el4 el5 el6 el7 ka h0 n0 _ (s₁.setFrames fs).heap _
        rw [show (s₁.setFrames fs).heap = h0 from e0]
        exact ⟨congrArg (fun z => some (Value.int z)) (by rw [own_k6, if_neg hc1, if_pos hc6]; try rfl), N0, rfl⟩
    · refine OwnGo.of (A := s₁.setTop (mkF m 7 #[.val (.ref a0), .val (.int (6 : Int32)), .val (.int p2), .val (.int p3), .val (.int p4)] [(.int p3), (.int (6 : Int32))])) (B := s₁.setTop (mkF m 12 #[.val (.ref a0), .val (.int (6 : Int32)), .val (.int p2), .val (.int p3), .val (.int p4)] [(.int (6 : Int32)), (.ref a0)])) (fun t k => ?_) ?_
      · show Steps p.tables e below (s₁.setTop (mkF m 7 #[.val (.ref a0), .val (.int (6 : Int32)), .val (.int p2), .val (.int p3), .val (.int p4)] [(.int p3), (.int (6 : Int32))])) t
        refine XS.icmpNo X0.here hx rfl (hb hby d2_7) rfl (flt hc6).1 ?_
        show Steps p.tables e below (s₁.setTop (mkF m 10 #[.val (.ref a0), .val (.int (6 : Int32)), .val (.int p2), .val (.int p3), .val (.int p4)] [])) t
        refine XS.aloadN X0.here hx rfl (hb hby d2_10) rfl rfl ?_
        show Steps p.tables e below (s₁.setTop (mkF m 11 #[.val (.ref a0), .val (.int (6 : Int32)), .val (.int p2), .val (.int p3), .val (.int p4)] [(.ref a0)])) t
        refine XS.iloadN X0.here hx rfl (hb hby d2_11) rfl ?_
        exact k
      have cq8 := V_a
      obtain ⟨clq8, Arq8, qq8, Sq8, Nq8, Hq8, Gq8⟩ := cq8
      have hinq8 := inb_of (j := (6 : Int32)) Sq8 ⟨by decide, by decide⟩
      refine OwnGo.of (X0.baloadBytes hx (j := (6 : Int32)) (v := (.int el6)) (by rw [e0]; exact Arq8.1) (State.isArrayOf_alike hZ.alike Arq8.2.1) Arq8.2.2 hinq8 (Hq8.at hinq8 rfl) (g := (mkF m 12 #[.val (.ref a0), .val (.int (6 : Int32)), .val (.int p2), .val (.int p3), .val (.int p4)] [(.int (6 : Int32)), (.ref a0)])) rfl rfl (hb hby d2_12)) ?_
      show OwnGo p.tables e below _ (s₁.setTop (mkF m 13 #[.val (.ref a0), .val (.int (6 : Int32)), .val (.int p2), .val (.int p3), .val (.int p4)] [(.int el6)]))
      refine OwnGo.of (A := s₁.setTop (mkF m 13 #[.val (.ref a0), .val (.int (6 : Int32)), .val (.int p2), .val (.int p3), .val (.int p4)] [(.int el6)])) (B := s₁.setTop (mkF m 15 #[.val (.ref a0), .val (.int (6 : Int32)), .val (.int p2), .val (.int p3), .val (.int p4)] [(.int p4), (.int el6)])) (fun t k => ?_) ?_
      · show Steps p.tables e below (s₁.setTop (mkF m 13 #[.val (.ref a0), .val (.int (6 : Int32)), .val (.int p2), .val (.int p3), .val (.int p4)] [(.int el6)])) t
        refine XS.iload X0.here hx rfl (hb hby d2_13) rfl ?_
        exact k
      by_cases hc9 : el6 = p4
      · refine OwnGo.of (A := s₁.setTop (mkF m 15 #[.val (.ref a0), .val (.int (6 : Int32)), .val (.int p2), .val (.int p3), .val (.int p4)] [(.int p4), (.int el6)])) (B := s₁.setTop (mkF m 23 #[.val (.ref a0), .val (.int (6 : Int32)), .val (.int p2), .val (.int p3), .val (.int p4)] [(.int (1 : Int32))])) (fun t k => ?_) ?_
        · show Steps p.tables e below (s₁.setTop (mkF m 15 #[.val (.ref a0), .val (.int (6 : Int32)), .val (.int p2), .val (.int p3), .val (.int p4)] [(.int p4), (.int el6)])) t
          refine XS.icmpNo X0.here hx rfl (hb hby d2_15) rfl (teq hc9).2 ?_
          show Steps p.tables e below (s₁.setTop (mkF m 18 #[.val (.ref a0), .val (.int (6 : Int32)), .val (.int p2), .val (.int p3), .val (.int p4)] [])) t
          refine XS.iconst X0.here hx rfl (hb hby d2_18) ?_
          show Steps p.tables e below (s₁.setTop (mkF m 19 #[.val (.ref a0), .val (.int (6 : Int32)), .val (.int p2), .val (.int p3), .val (.int p4)] [(.int (1 : Int32))])) t
          refine XS.goto X0.here hx rfl (pc0 := 19) (pc' := 23) rfl (hb hby d2_19) (by decide) (by decide) ?_
          exact k
        obtain ⟨fs, hr, hrun, hended, hW, hsame⟩ := X0.leave (v := some (.int (nar .boolean (1 : Int32)))) (fun h => by rw [Bd.returns] at h; cases h) hlk
        refine ⟨_, _, ?_, hrun, hended, _, _, rfl, ?_, ⟨_, rfl⟩, hW, hsame.mono (by decide) (by decide)⟩
        · show Steps p.tables e below (s₁.setTop (mkF m 23 #[.val (.ref a0), .val (.int (6 : Int32)), .val (.int p2), .val (.int p3), .val (.int p4)] [(.int (1 : Int32))])) _
          exact retN X0 hx (t := .boolean) Bd.returns (by simp) (hb hby d2_23) hr
        · show Qrm2_6 Z a0 p2 p3 p4 el0 el1 el2 el3 el4 el5 el6 el7 ka h0 n0 _ (s₁.setFrames fs).heap _
          rw [show (s₁.setFrames fs).heap = h0 from e0]
          exact ⟨congrArg (fun z => some (Value.int z)) (by rw [own_k6, if_neg hc1, if_neg hc6, if_pos hc9]; try rfl), N0, rfl⟩
      · refine OwnGo.of (A := s₁.setTop (mkF m 15 #[.val (.ref a0), .val (.int (6 : Int32)), .val (.int p2), .val (.int p3), .val (.int p4)] [(.int p4), (.int el6)])) (B := s₁.setTop (mkF m 23 #[.val (.ref a0), .val (.int (6 : Int32)), .val (.int p2), .val (.int p3), .val (.int p4)] [(.int (0 : Int32))])) (fun t k => ?_) ?_
        · show Steps p.tables e below (s₁.setTop (mkF m 15 #[.val (.ref a0), .val (.int (6 : Int32)), .val (.int p2), .val (.int p3), .val (.int p4)] [(.int p4), (.int el6)])) t
          refine XS.icmpYes X0.here hx rfl (pc0 := 15) (pc' := 22) rfl (hb hby d2_15) rfl (feq hc9).2 (by decide) (by decide) ?_
          show Steps p.tables e below (s₁.setTop (mkF m 22 #[.val (.ref a0), .val (.int (6 : Int32)), .val (.int p2), .val (.int p3), .val (.int p4)] [])) t
          refine XS.iconst X0.here hx rfl (hb hby d2_22) ?_
          exact k
        obtain ⟨fs, hr, hrun, hended, hW, hsame⟩ := X0.leave (v := some (.int (nar .boolean (0 : Int32)))) (fun h => by rw [Bd.returns] at h; cases h) hlk
        refine ⟨_, _, ?_, hrun, hended, _, _, rfl, ?_, ⟨_, rfl⟩, hW, hsame.mono (by decide) (by decide)⟩
        · show Steps p.tables e below (s₁.setTop (mkF m 23 #[.val (.ref a0), .val (.int (6 : Int32)), .val (.int p2), .val (.int p3), .val (.int p4)] [(.int (0 : Int32))])) _
          exact retN X0 hx (t := .boolean) Bd.returns (by simp) (hb hby d2_23) hr
        · show Qrm2_6 Z a0 p2 p3 p4 el0 el1 el2 el3 el4 el5 el6 el7 ka h0 n0 _ (s₁.setFrames fs).heap _
          rw [show (s₁.setFrames fs).heap = h0 from e0]
          exact ⟨congrArg (fun z => some (Value.int z)) (by rw [own_k6, if_neg hc1, if_neg hc6, if_neg hc9]; try rfl), N0, rfl⟩
def own_k7 (a0 : Addr) (p2 : Int32) (p3 : Int32) (p4 : Int32) (el0 : Int32) (el1 : Int32) (el2 : Int32) (el3 : Int32) (el4 : Int32) (el5 : Int32) (el6 : Int32) (el7 : Int32) (ka : ClassId) : Int32 := (if (7 : Int32) < p2 then (if el7 = p4 then (1 : Int32) else (0 : Int32)) else (if (7 : Int32) < p3 then (1 : Int32) else (if el7 = p4 then (1 : Int32) else (0 : Int32))))
theorem ef_rm2_7 (m : MethodId) (a0 : Addr) (p2 : Int32) (p3 : Int32) (p4 : Int32) : entryFrame m #[(.ref a0), (.int (7 : Int32)), (.int p2), (.int p3), (.int p4)] 5 = mkF m 0 #[.val (.ref a0), .val (.int (7 : Int32)), .val (.int p2), .val (.int p3), .val (.int p4)] [] := by first | (simp [entryFrame, mkF, argsToLocals, Value.category]; done) | rfl
def Qrm2_7 (Z : State) (a0 : Addr) (p2 : Int32) (p3 : Int32) (p4 : Int32) (el0 : Int32) (el1 : Int32) (el2 : Int32) (el3 : Int32) (el4 : Int32) (el5 : Int32) (el6 : Int32) (el7 : Int32) (ka : ClassId) (h0 : Heap) (n0 : Nat) (v : Option Value) (h : Heap) (L : List Loc) : Prop := v = some (.int (own_k7 a0 p2 p3 p4 el0 el1 el2 el3 el4 el5 el6 el7 ka)) ∧ Fr n0 L ∧ h = h0
set_option maxRecDepth 65536 in
set_option maxHeartbeats 40000000 in
theorem rm2_7 (l : Launch) (Z : State) (aw : Array Value) (hw : ∀ d ∈ tables_1, d.before aw Z = true) (ws : List Jvm.Cond) (a0 : Addr) (p2 : Int32) (p3 : Int32) (p4 : Int32) (el0 : Int32) (el1 : Int32) (el2 : Int32) (el3 : Int32) (el4 : Int32) (el5 : Int32) (el6 : Int32) (el7 : Int32) (ka : ClassId) (h0 : Heap) (n0 : Nat) (Z0 : n0 ≤ h0.size) (V_a : Arv Z h0 a0 ka .byte (8 : Int32) [(.int el0), (.int el1), (.int el2), (.int el3), (.int el4), (.int el5), (.int el6), (.int el7)] (.int (0 : Int32))) :
    MetFree l (⟨"com/example/sevenfold/sevenfold/NaturalWriteCodePointPinLaw", "kept", "([BIIIB)Z"⟩ : MethodName) (head1 (Jvm.Cond.code (⟨"com/example/sevenfold/sevenfold/NaturalWriteCodePointPinLaw", "kept", "([BIIIB)Z"⟩ : MethodName) method_2_code 5 (some .boolean) :: ws) ({ frames := 0, cells := 0, slots := 0, locals := 0 } : Room)) (fun a U => a = #[(.ref a0), (.int (7 : Int32)), (.int p2), (.int p3), (.int p4)] ∧ Z.Warmed39 U.vm ∧ U.heap = h0) (fun _ _ _ _ _ => True) (fun _ U o U' => ∃ v L, o = .returned v ∧ Qrm2_7 Z a0 p2 p3 p4 el0 el1 el2 el3 el4 el5 el6 el7 ka h0 n0 v U'.heap L ∧ FrameEnd U o U' L ({ frames := 0, cells := 0, slots := 0, locals := 0 } : Room).cells ({ frames := 0, cells := 0, slots := 0, locals := 0 } : Room).slots) := by
  refine MetFree.of_bodySF (plainFor_of_name pn_1) hisR ?_
  intro p e s m args below meth c s₁ Bd hml0 hP hK
  obtain ⟨rfl, hZ, hh⟩ := hP
  have hx := Bd.exec
  have hby := Bd.bytes
  have hml : c.maxLocals = 5 := hml0
  have hown : s.vm.findClass "com/example/sevenfold/sevenfold/NaturalWriteCodePointPinLaw" = some m.cls := findClass_of_methodNamed Bd.named
  have hnm := (name_of_methodNamed Bd.named Bd.method).1
  have X0 : Stand p l e ({ frames := 0, cells := 0, slots := 0, locals := 0 } : Room) s m #[(.ref a0), (.int (7 : Int32)), (.int p2), (.int p3), (.int p4)] below meth c s₁ [] 0 0 := Stand.of_body Bd
  have e0 : s₁.heap = h0 := by rw [← hh, Bd.state]; rfl
  have N0 := Fr.nil n0
  have hlk := Bd.notSynchronized
  show OwnGo p.tables e below _ (s₁.setTop (entryFrame m #[(.ref a0), (.int (7 : Int32)), (.int p2), (.int p3), (.int p4)] 5))
  rw [ef_rm2_7 m a0 p2 p3 p4]
  show OwnGo p.tables e below _ (s₁.setTop (mkF m 0 #[.val (.ref a0), .val (.int (7 : Int32)), .val (.int p2), .val (.int p3), .val (.int p4)] []))
  refine OwnGo.of (A := s₁.setTop (mkF m 0 #[.val (.ref a0), .val (.int (7 : Int32)), .val (.int p2), .val (.int p3), .val (.int p4)] [])) (B := s₁.setTop (mkF m 2 #[.val (.ref a0), .val (.int (7 : Int32)), .val (.int p2), .val (.int p3), .val (.int p4)] [(.int p2), (.int (7 : Int32))])) (fun t k => ?_) ?_
  · show Steps p.tables e below (s₁.setTop (mkF m 0 #[.val (.ref a0), .val (.int (7 : Int32)), .val (.int p2), .val (.int p3), .val (.int p4)] [])) t
    refine XS.iloadN X0.here hx rfl (hb hby d2_0) rfl ?_
    show Steps p.tables e below (s₁.setTop (mkF m 1 #[.val (.ref a0), .val (.int (7 : Int32)), .val (.int p2), .val (.int p3), .val (.int p4)] [(.int (7 : Int32))])) t
    refine XS.iloadN X0.here hx rfl (hb hby d2_1) rfl ?_
    exact k
  by_cases hc1 : (7 : Int32) < p2
  · refine OwnGo.of (A := s₁.setTop (mkF m 2 #[.val (.ref a0), .val (.int (7 : Int32)), .val (.int p2), .val (.int p3), .val (.int p4)] [(.int p2), (.int (7 : Int32))])) (B := s₁.setTop (mkF m 12 #[.val (.ref a0), .val (.int (7 : Int32)), .val (.int p2), .val (.int p3), .val (.int p4)] [(.int (7 : Int32)), (.ref a0)])) (fun t k => ?_) ?_
    · show Steps p.tables e below (s₁.setTop (mkF m 2 #[.val (.ref a0), .val (.int (7 : Int32)), .val (.int p2), .val (.int p3), .val (.int p4)] [(.int p2), (.int (7 : Int32))])) t
      refine XS.icmpYes X0.here hx rfl (pc0 := 2) (pc' := 10) rfl (hb hby d2_2) rfl (tlt hc1).1 (by decide) (by decide) ?_
      show Steps p.tables e below (s₁.setTop (mkF m 10 #[.val (.ref a0), .val (.int (7 : Int32)), .val (.int p2), .val (.int p3), .val (.int p4)] [])) t
      refine XS.aloadN X0.here hx rfl (hb hby d2_10) rfl rfl ?_
      show Steps p.tables e below (s₁.setTop (mkF m 11 #[.val (.ref a0), .val (.int (7 : Int32)), .val (.int p2), .val (.int p3), .val (.int p4)] [(.ref a0)])) t
      refine XS.iloadN X0.here hx rfl (hb hby d2_11) rfl ?_
      exact k
    have cq2 := V_a
    obtain ⟨clq2, Arq2, qq2, Sq2, Nq2, Hq2, Gq2⟩ := cq2
    have hinq2 := inb_of (j := (7 : Int32)) Sq2 ⟨by decide, by decide⟩
    refine OwnGo.of (X0.baloadBytes hx (j := (7 : Int32)) (v := (.int el7)) (by rw [e0]; exact Arq2.1) (State.isArrayOf_alike hZ.alike Arq2.2.1) Arq2.2.2 hinq2 (Hq2.at hinq2 rfl) (g := (mkF m 12 #[.val (.ref a0), .val (.int (7 : Int32)), .val (.int p2), .val (.int p3), .val (.int p4)] [(.int (7 : Int32)), (.ref a0)])) rfl rfl (hb hby d2_12)) ?_
    show OwnGo p.tables e below _ (s₁.setTop (mkF m 13 #[.val (.ref a0), .val (.int (7 : Int32)), .val (.int p2), .val (.int p3), .val (.int p4)] [(.int el7)]))
    refine OwnGo.of (A := s₁.setTop (mkF m 13 #[.val (.ref a0), .val (.int (7 : Int32)), .val (.int p2), .val (.int p3), .val (.int p4)] [(.int el7)])) (B := s₁.setTop (mkF m 15 #[.val (.ref a0), .val (.int (7 : Int32)), .val (.int p2), .val (.int p3), .val (.int p4)] [(.int p4), (.int el7)])) (fun t k => ?_) ?_
    · show Steps p.tables e below (s₁.setTop (mkF m 13 #[.val (.ref a0), .val (.int (7 : Int32)), .val (.int p2), .val (.int p3), .val (.int p4)] [(.int el7)])) t
      refine XS.iload X0.here hx rfl (hb hby d2_13) rfl ?_
      exact k
    by_cases hc3 : el7 = p4
    · refine OwnGo.of (A := s₁.setTop (mkF m 15 #[.val (.ref a0), .val (.int (7 : Int32)), .val (.int p2), .val (.int p3), .val (.int p4)] [(.int p4), (.int el7)])) (B := s₁.setTop (mkF m 23 #[.val (.ref a0), .val (.int (7 : Int32)), .val (.int p2), .val (.int p3), .val (.int p4)] [(.int (1 : Int32))])) (fun t k => ?_) ?_
      · show Steps p.tables e below (s₁.setTop (mkF m 15 #[.val (.ref a0), .val (.int (7 : Int32)), .val (.int p2), .val (.int p3), .val (.int p4)] [(.int p4), (.int el7)])) t
        refine XS.icmpNo X0.here hx rfl (hb hby d2_15) rfl (teq hc3).2 ?_
        show Steps p.tables e below (s₁.setTop (mkF m 18 #[.val (.ref a0), .val (.int (7 : Int32)), .val (.int p2), .val (.int p3), .val (.int p4)] [])) t
        refine XS.iconst X0.here hx rfl (hb hby d2_18) ?_
        show Steps p.tables e below (s₁.setTop (mkF m 19 #[.val (.ref a0), .val (.int (7 : Int32)), .val (.int p2), .val (.int p3), .val (.int p4)] [(.int (1 : Int32))])) t
        refine XS.goto X0.here hx rfl (pc0 := 19) (pc' := 23) rfl (hb hby d2_19) (by decide) (by decide) ?_
        exact k
      obtain ⟨fs, hr, hrun, hended, hW, hsame⟩ := X0.leave (v := some (.int (nar .boolean (1 : Int32)))) (fun h => by rw [Bd.returns] at h; cases h) hlk
      refine ⟨_, _, ?_, hrun, hended, _, _, rfl, ?_, ⟨_, rfl⟩, hW, hsame.mono (by decide) (by decide)⟩
      · show Steps p.tables e below (s₁.setTop (mkF m 23 #[.val (.ref a0), .val (.int (7 : Int32)), .val (.int p2), .val (.int p3), .val (.int p4)] [(.int (1 : Int32))])) _
        exact retN X0 hx (t := .boolean) Bd.returns (by simp) (hb hby d2_23) hr
      · show Qrm2_7 Z a0 p2 p3 p4 el0 el1 el2 el3 el4 el5 el6 el7 ka h0 n0 _ (s₁.setFrames fs).heap _
        rw [show (s₁.setFrames fs).heap = h0 from e0]
        exact ⟨congrArg (fun z => some (Value.int z)) (by rw [own_k7, if_pos hc1, if_pos hc3]; try rfl), N0, rfl⟩
    · refine OwnGo.of (A := s₁.setTop (mkF m 15 #[.val (.ref a0), .val (.int (7 : Int32)), .val (.int p2), .val (.int p3), .val (.int p4)] [(.int p4), (.int el7)])) (B := s₁.setTop (mkF m 23 #[.val (.ref a0), .val (.int (7 : Int32)), .val (.int p2), .val (.int p3), .val (.int p4)] [(.int (0 : Int32))])) (fun t k => ?_) ?_
      · show Steps p.tables e below (s₁.setTop (mkF m 15 #[.val (.ref a0), .val (.int (7 : Int32)), .val (.int p2), .val (.int p3), .val (.int p4)] [(.int p4), (.int el7)])) t
        refine XS.icmpYes X0.here hx rfl (pc0 := 15) (pc' := 22) rfl (hb hby d2_15) rfl (feq hc3).2 (by decide) (by decide) ?_
        show Steps p.tables e below (s₁.setTop (mkF m 22 #[.val (.ref a0), .val (.int (7 : Int32)), .val (.int p2), .val (.int p3), .val (.int p4)] [])) t
        refine XS.iconst X0.here hx rfl (hb hby d2_22) ?_
        exact k
      obtain ⟨fs, hr, hrun, hended, hW, hsame⟩ := X0.leave (v := some (.int (nar .boolean (0 : Int32)))) (fun h => by rw [Bd.returns] at h; cases h) hlk
      refine ⟨_, _, ?_, hrun, hended, _, _, rfl, ?_, ⟨_, rfl⟩, hW, hsame.mono (by decide) (by decide)⟩
      · show Steps p.tables e below (s₁.setTop (mkF m 23 #[.val (.ref a0), .val (.int (7 : Int32)), .val (.int p2), .val (.int p3), .val (.int p4)] [(.int (0 : Int32))])) _
        exact retN X0 hx (t := .boolean) Bd.returns (by simp) (hb hby d2_23) hr
      · show Qrm2_7 Z a0 p2 p3 p4 el0 el1 el2 el3 el4 el5 el6 el7 ka h0 n0 _ (s₁.setFrames fs).heap _
        rw [show (s₁.setFrames fs).heap = h0 from e0]
        exact ⟨congrArg (fun z => some (Value.int z)) (by rw [own_k7, if_pos hc1, if_neg hc3]; try rfl), N0, rfl⟩
  · refine OwnGo.of (A := s₁.setTop (mkF m 2 #[.val (.ref a0), .val (.int (7 : Int32)), .val (.int p2), .val (.int p3), .val (.int p4)] [(.int p2), (.int (7 : Int32))])) (B := s₁.setTop (mkF m 7 #[.val (.ref a0), .val (.int (7 : Int32)), .val (.int p2), .val (.int p3), .val (.int p4)] [(.int p3), (.int (7 : Int32))])) (fun t k => ?_) ?_
    · show Steps p.tables e below (s₁.setTop (mkF m 2 #[.val (.ref a0), .val (.int (7 : Int32)), .val (.int p2), .val (.int p3), .val (.int p4)] [(.int p2), (.int (7 : Int32))])) t
      refine XS.icmpNo X0.here hx rfl (hb hby d2_2) rfl (flt hc1).1 ?_
      show Steps p.tables e below (s₁.setTop (mkF m 5 #[.val (.ref a0), .val (.int (7 : Int32)), .val (.int p2), .val (.int p3), .val (.int p4)] [])) t
      refine XS.iloadN X0.here hx rfl (hb hby d2_5) rfl ?_
      show Steps p.tables e below (s₁.setTop (mkF m 6 #[.val (.ref a0), .val (.int (7 : Int32)), .val (.int p2), .val (.int p3), .val (.int p4)] [(.int (7 : Int32))])) t
      refine XS.iloadN X0.here hx rfl (hb hby d2_6) rfl ?_
      exact k
    by_cases hc6 : (7 : Int32) < p3
    · refine OwnGo.of (A := s₁.setTop (mkF m 7 #[.val (.ref a0), .val (.int (7 : Int32)), .val (.int p2), .val (.int p3), .val (.int p4)] [(.int p3), (.int (7 : Int32))])) (B := s₁.setTop (mkF m 23 #[.val (.ref a0), .val (.int (7 : Int32)), .val (.int p2), .val (.int p3), .val (.int p4)] [(.int (1 : Int32))])) (fun t k => ?_) ?_
      · show Steps p.tables e below (s₁.setTop (mkF m 7 #[.val (.ref a0), .val (.int (7 : Int32)), .val (.int p2), .val (.int p3), .val (.int p4)] [(.int p3), (.int (7 : Int32))])) t
        refine XS.icmpYes X0.here hx rfl (pc0 := 7) (pc' := 18) rfl (hb hby d2_7) rfl (tlt hc6).1 (by decide) (by decide) ?_
        show Steps p.tables e below (s₁.setTop (mkF m 18 #[.val (.ref a0), .val (.int (7 : Int32)), .val (.int p2), .val (.int p3), .val (.int p4)] [])) t
        refine XS.iconst X0.here hx rfl (hb hby d2_18) ?_
        show Steps p.tables e below (s₁.setTop (mkF m 19 #[.val (.ref a0), .val (.int (7 : Int32)), .val (.int p2), .val (.int p3), .val (.int p4)] [(.int (1 : Int32))])) t
        refine XS.goto X0.here hx rfl (pc0 := 19) (pc' := 23) rfl (hb hby d2_19) (by decide) (by decide) ?_
        exact k
      obtain ⟨fs, hr, hrun, hended, hW, hsame⟩ := X0.leave (v := some (.int (nar .boolean (1 : Int32)))) (fun h => by rw [Bd.returns] at h; cases h) hlk
      refine ⟨_, _, ?_, hrun, hended, _, _, rfl, ?_, ⟨_, rfl⟩, hW, hsame.mono (by decide) (by decide)⟩
      · show Steps p.tables e below (s₁.setTop (mkF m 23 #[.val (.ref a0), .val (.int (7 : Int32)), .val (.int p2), .val (.int p3), .val (.int p4)] [(.int (1 : Int32))])) _
        exact retN X0 hx (t := .boolean) Bd.returns (by simp) (hb hby d2_23) hr
      · show Qrm2_7 Z a0 p2 p3 p4 el0 el1 el2 el3 el4 el5 el6 el7 ka h0 n0 _ (s₁.setFrames fs).heap _
        rw [show (s₁.setFrames fs).heap = h0 from e0]
        exact ⟨congrArg (fun z => some (Value.int z)) (by rw [own_k7, if_neg hc1, if_pos hc6]; try rfl), N0, rfl⟩
    · refine OwnGo.of (A := s₁.setTop (mkF m 7 #[.val (.ref a0), .val (.int (7 : Int32)), .val (.int p2), .val (.int p3), .val (.int p4)] [(.int p3), (.int (7 : Int32))])) (B := s₁.setTop (mkF m 12 #[.val (.ref a0), .val (.int (7 : Int32)), .val (.int p2), .val (.int p3), .val (.int p4)] [(.int (7 : Int32)), (.ref a0)])) (fun t k => ?_) ?_
      · show Steps p.tables e below (s₁.setTop (mkF m 7 #[.val (.ref a0), .val (.int (7 : Int32)), .val (.int p2), .val (.int p3), .val (.int p4)] [(.int p3), (.int (7 : Int32))])) t
        refine XS.icmpNo X0.here hx rfl (hb hby d2_7) rfl (flt hc6).1 ?_
        show Steps p.tables e below (s₁.setTop (mkF m 10 #[.val (.ref a0), .val (.int (7 : Int32)), .val (.int p2), .val (.int p3), .val (.int p4)] [])) t
        refine XS.aloadN X0.here hx rfl (hb hby d2_10) rfl rfl ?_
        show Steps p.tables e below (s₁.setTop (mkF m 11 #[.val (.ref a0), .val (.int (7 : Int32)), .val (.int p2), .val (.int p3), .val (.int p4)] [(.ref a0)])) t
        refine XS.iloadN X0.here hx rfl (hb hby d2_11) rfl ?_
        exact k
      have cq8 := V_a
      obtain ⟨clq8, Arq8, qq8, Sq8, Nq8, Hq8, Gq8⟩ := cq8
      have hinq8 := inb_of (j := (7 : Int32)) Sq8 ⟨by decide, by decide⟩
      refine OwnGo.of (X0.baloadBytes hx (j := (7 : Int32)) (v := (.int el7)) (by rw [e0]; exact Arq8.1) (State.isArrayOf_alike hZ.alike Arq8.2.1) Arq8.2.2 hinq8 (Hq8.at hinq8 rfl) (g := (mkF m 12 #[.val (.ref a0), .val (.int (7 : Int32)), .val (.int p2), .val (.int p3), .val (.int p4)] [(.int (7 : Int32)), (.ref a0)])) rfl rfl (hb hby d2_12)) ?_
      show OwnGo p.tables e below _ (s₁.setTop (mkF m 13 #[.val (.ref a0), .val (.int (7 : Int32)), .val (.int p2), .val (.int p3), .val (.int p4)] [(.int el7)]))
      refine OwnGo.of (A := s₁.setTop (mkF m 13 #[.val (.ref a0), .val (.int (7 : Int32)), .val (.int p2), .val (.int p3), .val (.int p4)] [(.int el7)])) (B := s₁.setTop (mkF m 15 #[.val (.ref a0), .val (.int (7 : Int32)), .val (.int p2), .val (.int p3), .val (.int p4)] [(.int p4), (.int el7)])) (fun t k => ?_) ?_
      · show Steps p.tables e below (s₁.setTop (mkF m 13 #[.val (.ref a0), .val (.int (7 : Int32)), .val (.int p2), .val (.int p3), .val (.int p4)] [(.int el7)])) t
        refine XS.iload X0.here hx rfl (hb hby d2_13) rfl ?_
        exact k
      by_cases hc9 : el7 = p4
      · refine OwnGo.of (A := s₁.setTop (mkF m 15 #[.val (.ref a0), .val (.int (7 : Int32)), .val (.int p2), .val (.int p3), .val (.int p4)] [(.int p4), (.int el7)])) (B := s₁.setTop (mkF m 23 #[.val (.ref a0), .val (.int (7 : Int32)), .val (.int p2), .val (.int p3), .val (.int p4)] [(.int (1 : Int32))])) (fun t k => ?_) ?_
        · show Steps p.tables e below (s₁.setTop (mkF m 15 #[.val (.ref a0), .val (.int (7 : Int32)), .val (.int p2), .val (.int p3), .val (.int p4)] [(.int p4), (.int el7)])) t
          refine XS.icmpNo X0.here hx rfl (hb hby d2_15) rfl (teq hc9).2 ?_
          show Steps p.tables e below (s₁.setTop (mkF m 18 #[.val (.ref a0), .val (.int (7 : Int32)), .val (.int p2), .val (.int p3), .val (.int p4)] [])) t
          refine XS.iconst X0.here hx rfl (hb hby d2_18) ?_
          show Steps p.tables e below (s₁.setTop (mkF m 19 #[.val (.ref a0), .val (.int (7 : Int32)), .val (.int p2), .val (.int p3), .val (.int p4)] [(.int (1 : Int32))])) t
          refine XS.goto X0.here hx rfl (pc0 := 19) (pc' := 23) rfl (hb hby d2_19) (by decide) (by decide) ?_
          exact k
        obtain ⟨fs, hr, hrun, hended, hW, hsame⟩ := X0.leave (v := some (.int (nar .boolean (1 : Int32)))) (fun h => by rw [Bd.returns] at h; cases h) hlk
        refine ⟨_, _, ?_, hrun, hended, _, _, rfl, ?_, ⟨_, rfl⟩, hW, hsame.mono (by decide) (by decide)⟩
        · show Steps p.tables e below (s₁.setTop (mkF m 23 #[.val (.ref a0), .val (.int (7 : Int32)), .val (.int p2), .val (.int p3), .val (.int p4)] [(.int (1 : Int32))])) _
          exact retN X0 hx (t := .boolean) Bd.returns (by simp) (hb hby d2_23) hr
        · show Qrm2_7 Z a0 p2 p3 p4 el0 el1 el2 el3 el4 el5 el6 el7 ka h0 n0 _ (s₁.setFrames fs).heap _
          rw [show (s₁.setFrames fs).heap = h0 from e0]
          exact ⟨congrArg (fun z => some (Value.int z)) (by rw [own_k7, if_neg hc1, if_neg hc6, if_pos hc9]; try rfl), N0, rfl⟩
      · refine OwnGo.of (A := s₁.setTop (mkF m 15 #[.val (.ref a0), .val (.int (7 : Int32)), .val (.int p2), .val (.int p3), .val (.int p4)] [(.int p4), (.int el7)])) (B := s₁.setTop (mkF m 23 #[.val (.ref a0), .val (.int (7 : Int32)), .val (.int p2), .val (.int p3), .val (.int p4)] [(.int (0 : Int32))])) (fun t k => ?_) ?_
        · show Steps p.tables e below (s₁.setTop (mkF m 15 #[.val (.ref a0), .val (.int (7 : Int32)), .val (.int p2), .val (.int p3), .val (.int p4)] [(.int p4), (.int el7)])) t
          refine XS.icmpYes X0.here hx rfl (pc0 := 15) (pc' := 22) rfl (hb hby d2_15) rfl (feq hc9).2 (by decide) (by decide) ?_
          show Steps p.tables e below (s₁.setTop (mkF m 22 #[.val (.ref a0), .val (.int (7 : Int32)), .val (.int p2), .val (.int p3), .val (.int p4)] [])) t
          refine XS.iconst X0.here hx rfl (hb hby d2_22) ?_
          exact k
        obtain ⟨fs, hr, hrun, hended, hW, hsame⟩ := X0.leave (v := some (.int (nar .boolean (0 : Int32)))) (fun h => by rw [Bd.returns] at h; cases h) hlk
        refine ⟨_, _, ?_, hrun, hended, _, _, rfl, ?_, ⟨_, rfl⟩, hW, hsame.mono (by decide) (by decide)⟩
        · show Steps p.tables e below (s₁.setTop (mkF m 23 #[.val (.ref a0), .val (.int (7 : Int32)), .val (.int p2), .val (.int p3), .val (.int p4)] [(.int (0 : Int32))])) _
          exact retN X0 hx (t := .boolean) Bd.returns (by simp) (hb hby d2_23) hr
        · show Qrm2_7 Z a0 p2 p3 p4 el0 el1 el2 el3 el4 el5 el6 el7 ka h0 n0 _ (s₁.setFrames fs).heap _
          rw [show (s₁.setFrames fs).heap = h0 from e0]
          exact ⟨congrArg (fun z => some (Value.int z)) (by rw [own_k7, if_neg hc1, if_neg hc6, if_neg hc9]; try rfl), N0, rfl⟩

theorem own_idem (x : Int32) : x.toInt8.toInt32.toInt8.toInt32 = x.toInt8.toInt32 := by
  have h1 := c_i2b x
  have h2 := c_i2b x.toInt8.toInt32
  apply Int32.toInt_inj.mp; omega
theorem own_cp (p : Int32) : 0 ≤ ((p &&& (2147483647 : Int32)) % (2113664 : Int32)).toInt ∧ ((p &&& (2147483647 : Int32)) % (2113664 : Int32)).toInt < 2113664 := by
  have h1 := c_mask p 2147483647 31 (by decide) (by decide)
  have h2 := (c_irem (p &&& 2147483647) 2113664 2113664 (by decide)).1
  omega
theorem own_at (p : Int32) : (p &&& (3 : Int32)) = 0 ∨ (p &&& (3 : Int32)) = 1 ∨ (p &&& (3 : Int32)) = 2 ∨ (p &&& (3 : Int32)) = 3 := by
  have h1 := c_mask p 3 2 (by decide) (by decide)
  have : (p &&& (3 : Int32)).toInt = 0 ∨ (p &&& (3 : Int32)).toInt = 1 ∨ (p &&& (3 : Int32)).toInt = 2 ∨ (p &&& (3 : Int32)).toInt = 3 := by omega
  rcases this with z | z | z | z
  · exact Or.inl (Int32.toInt_inj.mp (z.trans (by decide)))
  · exact Or.inr (Or.inl (Int32.toInt_inj.mp (z.trans (by decide))))
  · exact Or.inr (Or.inr (Or.inl (Int32.toInt_inj.mp (z.trans (by decide)))))
  · exact Or.inr (Or.inr (Or.inr (Int32.toInt_inj.mp (z.trans (by decide)))))
theorem own_l16 (cp : Int32) : lcmpW (cp.toInt64) (16512 : Int64) < (0 : Int32) ↔ cp.toInt < 16512 := by
  rw [lw_lt, Int64.lt_iff_toInt_lt, c_i2l, show (16512 : Int64).toInt = 16512 from by decide]
theorem own_127 (cp : Int32) : (127 : Int32) < cp ↔ 127 < cp.toInt := by
  rw [Int32.lt_iff_toInt_lt, show (127 : Int32).toInt = 127 from by decide]
theorem own_cases (cp : Int32) : ¬ ((127 : Int32) < cp) ∨ ((127 : Int32) < cp ∧ lcmpW (cp.toInt64) (16512 : Int64) < (0 : Int32)) ∨ ((127 : Int32) < cp ∧ ¬ (lcmpW (cp.toInt64) (16512 : Int64) < (0 : Int32))) := by
  by_cases h1 : (127 : Int32) < cp
  · by_cases h2 : lcmpW (cp.toInt64) (16512 : Int64) < (0 : Int32)
    · exact Or.inr (Or.inl ⟨h1, h2⟩)
    · exact Or.inr (Or.inr ⟨h1, h2⟩)
  · exact Or.inl h1
theorem own_ib (x : Int32) (h : 0 ≤ x.toInt ∧ x.toInt < 256) : ((((x.toInt8.toInt32)).toInt8.toInt32) &&& (255 : Int32)).toInt = x.toInt := by
  have h1 := c_i2b x
  have h2 := c_i2b x.toInt8.toInt32
  have h3 := c_mask (((x.toInt8.toInt32)).toInt8.toInt32) 255 8 (by decide) (by decide)
  omega
theorem own_or7 (y : Int32) (h : 0 ≤ y.toInt ∧ y.toInt < 128) : ((128 : Int32) ||| y).toInt = 128 + y.toInt := by
  have h1 := c_or 128 y 7 (by decide) 128 (by decide) (by decide) h.1 h.2
  have r := rng32 (128 ||| y)
  rw [show (128 : Int32).toInt = 128 from by decide] at h1
  omega
theorem own_nB (cp : Int32) (h : 0 ≤ cp.toInt ∧ cp.toInt < 2113664) : (cp - ((128 : Int64).toInt32)).toInt = cp.toInt - 128 := by
  have h1 := c_isub cp ((128 : Int64).toInt32)
  have r := rng32 (cp - ((128 : Int64).toInt32))
  rw [show ((128 : Int64).toInt32).toInt = 128 from by decide] at h1
  omega
theorem own_nC (cp : Int32) (h : 0 ≤ cp.toInt ∧ cp.toInt < 2113664) : (cp - ((16512 : Int64).toInt32)).toInt = cp.toInt - 16512 := by
  have h1 := c_isub cp ((16512 : Int64).toInt32)
  have r := rng32 (cp - ((16512 : Int64).toInt32))
  rw [show ((16512 : Int64).toInt32).toInt = 16512 from by decide] at h1
  omega
theorem own_s7 (n : Int32) (h : 0 ≤ n.toInt) : ((n.toUInt32 >>> ((7 : Int32) &&& 31).toUInt32).toInt32).toInt = n.toInt / 128 := by
  have h1 := c_iushr n 7 7 (by decide) (by decide)
  have r := rng32 n
  omega
theorem own_s14 (n : Int32) (h : 0 ≤ n.toInt) : ((n.toUInt32 >>> ((14 : Int32) &&& 31).toUInt32).toInt32).toInt = n.toInt / 16384 := by
  have h1 := c_iushr n 14 14 (by decide) (by decide)
  have r := rng32 n
  omega
theorem own_m7 (n : Int32) : (n &&& (127 : Int32)).toInt = n.toInt % 128 := by
  have h1 := c_mask n 127 7 (by decide) (by decide)
  omega
theorem own_A0 (cp : Int32) (h : 0 ≤ cp.toInt ∧ cp.toInt < 2113664) (hA : ¬ ((127 : Int32) < cp)) : (((((cp.toInt8.toInt32)).toInt8.toInt32)) &&& (255 : Int32)).toInt = cp.toInt := by
  rw [own_127] at hA; exact own_ib cp (by omega)
theorem own_B0 (cp : Int32) (h : 0 ≤ cp.toInt ∧ cp.toInt < 2113664) (hA : (127 : Int32) < cp) (hB : lcmpW (cp.toInt64) (16512 : Int64) < (0 : Int32)) : ((((((128 : Int32) ||| (((cp - ((128 : Int64).toInt32)).toUInt32 >>> ((7 : Int32) &&& 31).toUInt32).toInt32)).toInt8.toInt32)).toInt8.toInt32) &&& (255 : Int32)).toInt = 128 + (cp.toInt - 128) / 128 := by
  rw [own_127] at hA; rw [own_l16] at hB
  have h1 := own_nB cp h
  have h2 := own_s7 (cp - ((128 : Int64).toInt32)) (by omega)
  have h3 := own_or7 (((cp - ((128 : Int64).toInt32)).toUInt32 >>> ((7 : Int32) &&& 31).toUInt32).toInt32) (by omega)
  rw [own_ib _ (by omega)]; omega
theorem own_B1 (cp : Int32) (h : 0 ≤ cp.toInt ∧ cp.toInt < 2113664) (hA : (127 : Int32) < cp) : ((((((cp - ((128 : Int64).toInt32)) &&& (127 : Int32)).toInt8.toInt32)).toInt8.toInt32) &&& (255 : Int32)).toInt = (cp.toInt - 128) % 128 := by
  rw [own_127] at hA
  have h1 := own_nB cp h
  have h2 := own_m7 (cp - ((128 : Int64).toInt32))
  rw [own_ib _ (by omega)]; omega
theorem own_C0 (cp : Int32) (h : 0 ≤ cp.toInt ∧ cp.toInt < 2113664) (hB : ¬ (lcmpW (cp.toInt64) (16512 : Int64) < (0 : Int32))) : ((((((128 : Int32) ||| (((cp - ((16512 : Int64).toInt32)).toUInt32 >>> ((14 : Int32) &&& 31).toUInt32).toInt32)).toInt8.toInt32)).toInt8.toInt32) &&& (255 : Int32)).toInt = 128 + (cp.toInt - 16512) / 16384 := by
  rw [own_l16] at hB
  have h1 := own_nC cp h
  have h2 := own_s14 (cp - ((16512 : Int64).toInt32)) (by omega)
  have h3 := own_or7 (((cp - ((16512 : Int64).toInt32)).toUInt32 >>> ((14 : Int32) &&& 31).toUInt32).toInt32) (by omega)
  rw [own_ib _ (by omega)]; omega
theorem own_C1 (cp : Int32) (h : 0 ≤ cp.toInt ∧ cp.toInt < 2113664) (hB : ¬ (lcmpW (cp.toInt64) (16512 : Int64) < (0 : Int32))) : ((((((128 : Int32) ||| ((((cp - ((16512 : Int64).toInt32)).toUInt32 >>> ((7 : Int32) &&& 31).toUInt32).toInt32) &&& (127 : Int32))).toInt8.toInt32)).toInt8.toInt32) &&& (255 : Int32)).toInt = 128 + (cp.toInt - 16512) / 128 % 128 := by
  rw [own_l16] at hB
  have h1 := own_nC cp h
  have h2 := own_s7 (cp - ((16512 : Int64).toInt32)) (by omega)
  have h4 := own_m7 (((cp - ((16512 : Int64).toInt32)).toUInt32 >>> ((7 : Int32) &&& 31).toUInt32).toInt32)
  have h3 := own_or7 ((((cp - ((16512 : Int64).toInt32)).toUInt32 >>> ((7 : Int32) &&& 31).toUInt32).toInt32) &&& (127 : Int32)) (by omega)
  rw [own_ib _ (by omega)]; omega
theorem own_C2 (cp : Int32) (h : 0 ≤ cp.toInt ∧ cp.toInt < 2113664) (hB : ¬ (lcmpW (cp.toInt64) (16512 : Int64) < (0 : Int32))) : ((((((cp - ((16512 : Int64).toInt32)) &&& (127 : Int32)).toInt8.toInt32)).toInt8.toInt32) &&& (255 : Int32)).toInt = (cp.toInt - 16512) % 128 := by
  rw [own_l16] at hB
  have h1 := own_nC cp h
  have h2 := own_m7 (cp - ((16512 : Int64).toInt32))
  rw [own_ib _ (by omega)]; omega
theorem own_lt128 (b : Int32) : b < (128 : Int32) ↔ b.toInt < 128 := by
  rw [Int32.lt_iff_toInt_lt, show (128 : Int32).toInt = 128 from by decide]
theorem own_vB (cp b0 b1 : Int32) (h : 0 ≤ cp.toInt ∧ cp.toInt < 2113664) (t0 : b0.toInt = 128 + (cp.toInt - 128) / 128) (t1 : b1.toInt = (cp.toInt - 128) % 128) : (((128 : Int32) + ((b0 - (128 : Int32)) * (128 : Int32))) + b1) = cp := by
  have q1 := c_isub b0 128
  have q2 := c_imul (b0 - 128) 128
  have q3 := c_iadd 128 ((b0 - 128) * 128)
  have q4 := c_iadd (128 + (b0 - 128) * 128) b1
  have r1 := rng32 (128 + (b0 - 128) * 128 + b1)
  rw [show (128 : Int32).toInt = 128 from by decide] at q1 q2 q3
  apply Int32.toInt_inj.mp; omega
theorem own_vC (cp b0 b1 b2 : Int32) (h : 0 ≤ cp.toInt ∧ cp.toInt < 2113664) (t0 : b0.toInt = 128 + (cp.toInt - 16512) / 16384) (t1 : b1.toInt = 128 + (cp.toInt - 16512) / 128 % 128) (t2 : b2.toInt = (cp.toInt - 16512) % 128) : ((((16512 : Int32) + ((b0 - (128 : Int32)) * (16384 : Int32))) + ((b1 - (128 : Int32)) * (128 : Int32))) + b2) = cp := by
  have q1 := c_isub b0 128
  have q2 := c_imul (b0 - 128) 16384
  have q3 := c_iadd 16512 ((b0 - 128) * 16384)
  have q5 := c_isub b1 128
  have q6 := c_imul (b1 - 128) 128
  have q7 := c_iadd (16512 + (b0 - 128) * 16384) ((b1 - 128) * 128)
  have q4 := c_iadd (16512 + (b0 - 128) * 16384 + (b1 - 128) * 128) b2
  have r1 := rng32 (16512 + (b0 - 128) * 16384 + (b1 - 128) * 128 + b2)
  rw [show (128 : Int32).toInt = 128 from by decide] at q1 q5 q6
  rw [show (16384 : Int32).toInt = 16384 from by decide] at q2
  rw [show (16512 : Int32).toInt = 16512 from by decide] at q3
  apply Int32.toInt_inj.mp; omega
theorem pd_2 : parseMethodDescriptor "([BIIIB)Z" = some ⟨[(.array .byte), .int, .int, .int, .byte], some .boolean⟩ := by decide +kernel
theorem pd_3 : parseMethodDescriptor "(I[BI)I" = some ⟨[.int, (.array .byte), .int], some .int⟩ := by decide +kernel
theorem ef_rm0 (m : MethodId) (p0 : Int32) (p1 : Int32) (p2 : Int32) : entryFrame m #[(.int p0), (.int p1), (.int p2)] maxLocals = mkF m 0 #[.val (.int p0), .val (.int p1), .val (.int p2), .unset, .unset, .unset, .unset, .unset, .unset, .unset, .unset, .unset, .unset] [] := by first | (simp [entryFrame, mkF, argsToLocals, Value.category, maxLocals]; done) | rfl
def Qrm0 (Z : State) (p0 : Int32) (p1 : Int32) (p2 : Int32) (wF : Addr) (kf : ClassId) (h0 : Heap) (n0 : Nat) (v : Option Value) (h : Heap) (L : List Loc) : Prop := v = some (.int 1) ∧ Fr n0 L
set_option maxRecDepth 65536 in
set_option maxHeartbeats 40000000 in
theorem rm0 (l : Launch) (Z : State) (aw : Array Value) (hw : ∀ d ∈ tables_1, d.before aw Z = true) (ws : List Jvm.Cond) (p0 : Int32) (p1 : Int32) (p2 : Int32) (wF : Addr) (kf : ClassId) (h0 : Heap) (n0 : Nat) (Z0 : n0 ≤ h0.size) (S_FIRST_OF_LENGTH : Sta Z h0 "com/example/sevenfold/sevenfold/Natural" "FIRST_OF_LENGTH" "[J" (.ref wF)) (V_F : Arv Z h0 wF kf .long (10 : Int32) [(.long (0 : Int64)), (.long (0 : Int64)), (.long (128 : Int64)), (.long (16512 : Int64)), (.long (2113664 : Int64)), (.long (270549120 : Int64)), (.long (34630287488 : Int64)), (.long (4432676798592 : Int64)), (.long (567382630219904 : Int64)), (.long (72624976668147840 : Int64))] (.long (0 : Int64))) :
    MetFree l x (head1 (Jvm.Cond.code x code maxLocals ret :: ws) room_1) (fun a U => a = #[(.int p0), (.int p1), (.int p2)] ∧ Z.Warmed39 U.vm ∧ U.heap = h0) (fun _ _ _ _ _ => True) (fun _ U o U' => ∃ v L, o = .returned v ∧ Qrm0 Z p0 p1 p2 wF kf h0 n0 v U'.heap L ∧ FrameEnd U o U' L room_1.cells room_1.slots) := by
  refine MetFree.of_bodySF (plainFor_of_name pn_1) hisR ?_
  intro p e s m args below meth c s₁ Bd hml0 hP hK
  obtain ⟨rfl, hZ, hh⟩ := hP
  have hx := Bd.exec
  have hby := Bd.bytes
  have hml : c.maxLocals = 13 := hml0
  have hown : s.vm.findClass "com/example/sevenfold/sevenfold/NaturalWriteCodePointPinLaw" = some m.cls := findClass_of_methodNamed Bd.named
  have hnm := (name_of_methodNamed Bd.named Bd.method).1
  have X0 : Stand p l e room_1 s m #[(.int p0), (.int p1), (.int p2)] below meth c s₁ [] 0 0 := Stand.of_body Bd
  have e0 : s₁.heap = h0 := by rw [← hh, Bd.state]; rfl
  have N0 := Fr.nil n0
  have hlk := Bd.notSynchronized
  show OwnGo p.tables e below _ (s₁.setTop (entryFrame m #[(.int p0), (.int p1), (.int p2)] maxLocals))
  rw [ef_rm0 m p0 p1 p2]
  have J234 : ∀ (Tj : State) (Lo : List Loc) (hj : Heap) (sl0 sl1 sl2 sl3 sl8 sl9 sl10 sl11 sl12 : Slot) (at1 s1 en : Int32) (ar : Addr) (el0 el1 el2 el3 el4 el5 el6 el7 : Int32) (kb : ClassId) (Xj : Stand p l e room_1 s m #[(.int p0), (.int p1), (.int p2)] below meth c Tj Lo 1 8) (ej : Tj.heap = hj) (Nj : Fr n0 Lo) (Zj : n0 ≤ hj.size) (Vj : Arv Z hj ar kb .byte (8 : Int32) [(.int el0), (.int el1), (.int el2), (.int el3), (.int el4), (.int el5), (.int el6), (.int el7)] (.int (0 : Int32))) (hk0 : ¬ ((own_k0 ar at1 en s1 el0 el1 el2 el3 el4 el5 el6 el7 kb) = (0 : Int32))) (hk1 : ¬ ((own_k1 ar at1 en s1 el0 el1 el2 el3 el4 el5 el6 el7 kb) = (0 : Int32))) (hk2 : ¬ ((own_k2 ar at1 en s1 el0 el1 el2 el3 el4 el5 el6 el7 kb) = (0 : Int32))) (hk3 : ¬ ((own_k3 ar at1 en s1 el0 el1 el2 el3 el4 el5 el6 el7 kb) = (0 : Int32))) (hk4 : ¬ ((own_k4 ar at1 en s1 el0 el1 el2 el3 el4 el5 el6 el7 kb) = (0 : Int32))) (hk5 : ¬ ((own_k5 ar at1 en s1 el0 el1 el2 el3 el4 el5 el6 el7 kb) = (0 : Int32))) (hk6 : ¬ ((own_k6 ar at1 en s1 el0 el1 el2 el3 el4 el5 el6 el7 kb) = (0 : Int32))) (hk7 : ¬ ((own_k7 ar at1 en s1 el0 el1 el2 el3 el4 el5 el6 el7 kb) = (0 : Int32))), OwnGo p.tables e below (fun o U' => ∃ v L, o = .returned v ∧ Qrm0 Z p0 p1 p2 wF kf h0 n0 v U'.heap L ∧ FrameEnd s o U' L room_1.cells room_1.slots) (Tj.setTop (mkF m 234 #[sl0, sl1, sl2, sl3, .val (.int at1), .val (.int s1), .val (.ref ar), .val (.int en), sl8, sl9, sl10, sl11, sl12] [])) := by
    intro Tj Lo hj sl0 sl1 sl2 sl3 sl8 sl9 sl10 sl11 sl12 at1 s1 en ar el0 el1 el2 el3 el4 el5 el6 el7 kb Xj ej Nj Zj Vj hk0 hk1 hk2 hk3 hk4 hk5 hk6 hk7
    show OwnGo p.tables e below _ (Tj.setTop (mkF m 234 #[sl0, sl1, sl2, sl3, .val (.int at1), .val (.int s1), .val (.ref ar), .val (.int en), sl8, sl9, sl10, sl11, sl12] []))
    refine OwnGo.of (A := Tj.setTop (mkF m 234 #[sl0, sl1, sl2, sl3, .val (.int at1), .val (.int s1), .val (.ref ar), .val (.int en), sl8, sl9, sl10, sl11, sl12] [])) (B := Tj.setTop (mkF m 243 #[sl0, sl1, sl2, sl3, .val (.int at1), .val (.int s1), .val (.ref ar), .val (.int en), sl8, sl9, sl10, sl11, sl12] [(.int s1), (.int en), (.int at1), (.int (0 : Int32)), (.ref ar)])) (fun t k => ?_) ?_
    · show Steps p.tables e below (Tj.setTop (mkF m 234 #[sl0, sl1, sl2, sl3, .val (.int at1), .val (.int s1), .val (.ref ar), .val (.int en), sl8, sl9, sl10, sl11, sl12] [])) t
      refine XS.aload Xj.here hx rfl (hb hby at_234) rfl rfl ?_
      show Steps p.tables e below (Tj.setTop (mkF m 236 #[sl0, sl1, sl2, sl3, .val (.int at1), .val (.int s1), .val (.ref ar), .val (.int en), sl8, sl9, sl10, sl11, sl12] [(.ref ar)])) t
      refine XS.iconst Xj.here hx rfl (hb hby at_236) ?_
      show Steps p.tables e below (Tj.setTop (mkF m 237 #[sl0, sl1, sl2, sl3, .val (.int at1), .val (.int s1), .val (.ref ar), .val (.int en), sl8, sl9, sl10, sl11, sl12] [(.int (0 : Int32)), (.ref ar)])) t
      refine XS.iload Xj.here hx rfl (hb hby at_237) rfl ?_
      show Steps p.tables e below (Tj.setTop (mkF m 239 #[sl0, sl1, sl2, sl3, .val (.int at1), .val (.int s1), .val (.ref ar), .val (.int en), sl8, sl9, sl10, sl11, sl12] [(.int at1), (.int (0 : Int32)), (.ref ar)])) t
      refine XS.iload Xj.here hx rfl (hb hby at_239) rfl ?_
      show Steps p.tables e below (Tj.setTop (mkF m 241 #[sl0, sl1, sl2, sl3, .val (.int at1), .val (.int s1), .val (.ref ar), .val (.int en), sl8, sl9, sl10, sl11, sl12] [(.int en), (.int at1), (.int (0 : Int32)), (.ref ar)])) t
      refine XS.iload Xj.here hx rfl (hb hby at_241) rfl ?_
      exact k
    obtain ⟨_, _, ⟨T1, L1, k1, n1⟩, -, X1, ⟨Lc1, hQ1, l1, y1, z1⟩, st1⟩ := Jvm.LawKit.callS Xj hx (y := (⟨"com/example/sevenfold/sevenfold/NaturalWriteCodePointPinLaw", "kept", "([BIIIB)Z"⟩ : MethodName)) hown (mvT hZ (hw _ (List.mem_of_getElem? (i := 7) rfl))) (mvT hZ (hw _ (List.mem_of_getElem? (i := 8) rfl))) (mvT hZ (hw _ (List.mem_of_getElem? (i := 9) rfl))) (mvT hZ (hw _ (List.mem_of_getElem? (i := 10) rfl))) (by decide) (backOf (W := 0) (rm2_0 l Z aw hw [] ar at1 en s1 el0 el1 el2 el3 el4 el5 el6 el7 kb hj n0 Zj Vj) hZ (hw _ (List.mem_of_getElem? (i := 10) rfl)) (hw _ (List.mem_of_getElem? (i := 9) rfl)) (by decide) (by decide)) (g := (mkF m 243 #[sl0, sl1, sl2, sl3, .val (.int at1), .val (.int s1), .val (.ref ar), .val (.int en), sl8, sl9, sl10, sl11, sl12] [(.int s1), (.int en), (.int at1), (.int (0 : Int32)), (.ref ar)])) rfl (by rw [hml]; rfl) (argsL := [(.ref ar), (.int (0 : Int32)), (.int at1), (.int en), (.int s1)]) (rest := []) (lenOf pd_2 rfl) rfl (by show 2 * 0 + _ ≤ _; exact Nat.le_of_eq rfl) (hb hby at_243) (fun _ _ => ⟨rfl, ej, (by decide : 1 + 0 ≤ _), (by decide : 8 + 0 ≤ _)⟩)
    dsimp only [Pt.U, Pt.locs, Pt.cells, Pt.slots] at X1 l1 y1 z1 st1 hQ1
    subst l1 y1 z1
    obtain ⟨rfl, N1q, eq1⟩ := hQ1
    have N1 := Fr.app Nj N1q
    refine OwnGo.of st1 ?_
    show OwnGo p.tables e below _ (T1.setTop (mkF m 246 #[sl0, sl1, sl2, sl3, .val (.int at1), .val (.int s1), .val (.ref ar), .val (.int en), sl8, sl9, sl10, sl11, sl12] [(.int (own_k0 ar at1 en s1 el0 el1 el2 el3 el4 el5 el6 el7 kb))]))
    have hc2 : ¬ ((own_k0 ar at1 en s1 el0 el1 el2 el3 el4 el5 el6 el7 kb) = (0 : Int32)) := hk0
    refine OwnGo.of (A := T1.setTop (mkF m 246 #[sl0, sl1, sl2, sl3, .val (.int at1), .val (.int s1), .val (.ref ar), .val (.int en), sl8, sl9, sl10, sl11, sl12] [(.int (own_k0 ar at1 en s1 el0 el1 el2 el3 el4 el5 el6 el7 kb))])) (B := T1.setTop (mkF m 258 #[sl0, sl1, sl2, sl3, .val (.int at1), .val (.int s1), .val (.ref ar), .val (.int en), sl8, sl9, sl10, sl11, sl12] [(.int s1), (.int en), (.int at1), (.int (1 : Int32)), (.ref ar)])) (fun t k => ?_) ?_
    · show Steps p.tables e below (T1.setTop (mkF m 246 #[sl0, sl1, sl2, sl3, .val (.int at1), .val (.int s1), .val (.ref ar), .val (.int en), sl8, sl9, sl10, sl11, sl12] [(.int (own_k0 ar at1 en s1 el0 el1 el2 el3 el4 el5 el6 el7 kb))])) t
      refine XS.ifNo X1.here hx rfl (hb hby at_246) rfl ((if0 _ _).trans (feq hc2).1) ?_
      show Steps p.tables e below (T1.setTop (mkF m 249 #[sl0, sl1, sl2, sl3, .val (.int at1), .val (.int s1), .val (.ref ar), .val (.int en), sl8, sl9, sl10, sl11, sl12] [])) t
      refine XS.aload X1.here hx rfl (hb hby at_249) rfl rfl ?_
      show Steps p.tables e below (T1.setTop (mkF m 251 #[sl0, sl1, sl2, sl3, .val (.int at1), .val (.int s1), .val (.ref ar), .val (.int en), sl8, sl9, sl10, sl11, sl12] [(.ref ar)])) t
      refine XS.iconst X1.here hx rfl (hb hby at_251) ?_
      show Steps p.tables e below (T1.setTop (mkF m 252 #[sl0, sl1, sl2, sl3, .val (.int at1), .val (.int s1), .val (.ref ar), .val (.int en), sl8, sl9, sl10, sl11, sl12] [(.int (1 : Int32)), (.ref ar)])) t
      refine XS.iload X1.here hx rfl (hb hby at_252) rfl ?_
      show Steps p.tables e below (T1.setTop (mkF m 254 #[sl0, sl1, sl2, sl3, .val (.int at1), .val (.int s1), .val (.ref ar), .val (.int en), sl8, sl9, sl10, sl11, sl12] [(.int at1), (.int (1 : Int32)), (.ref ar)])) t
      refine XS.iload X1.here hx rfl (hb hby at_254) rfl ?_
      show Steps p.tables e below (T1.setTop (mkF m 256 #[sl0, sl1, sl2, sl3, .val (.int at1), .val (.int s1), .val (.ref ar), .val (.int en), sl8, sl9, sl10, sl11, sl12] [(.int en), (.int at1), (.int (1 : Int32)), (.ref ar)])) t
      refine XS.iload X1.here hx rfl (hb hby at_256) rfl ?_
      exact k
    obtain ⟨_, _, ⟨T3, L3, k3, n3⟩, -, X3, ⟨Lc3, hQ3, l3, y3, z3⟩, st3⟩ := Jvm.LawKit.callS X1 hx (y := (⟨"com/example/sevenfold/sevenfold/NaturalWriteCodePointPinLaw", "kept", "([BIIIB)Z"⟩ : MethodName)) hown (mvT hZ (hw _ (List.mem_of_getElem? (i := 7) rfl))) (mvT hZ (hw _ (List.mem_of_getElem? (i := 8) rfl))) (mvT hZ (hw _ (List.mem_of_getElem? (i := 9) rfl))) (mvT hZ (hw _ (List.mem_of_getElem? (i := 10) rfl))) (by decide) (backOf (W := 0) (rm2_1 l Z aw hw [] ar at1 en s1 el0 el1 el2 el3 el4 el5 el6 el7 kb hj n0 Zj Vj) hZ (hw _ (List.mem_of_getElem? (i := 10) rfl)) (hw _ (List.mem_of_getElem? (i := 9) rfl)) (by decide) (by decide)) (g := (mkF m 258 #[sl0, sl1, sl2, sl3, .val (.int at1), .val (.int s1), .val (.ref ar), .val (.int en), sl8, sl9, sl10, sl11, sl12] [(.int s1), (.int en), (.int at1), (.int (1 : Int32)), (.ref ar)])) rfl (by rw [hml]; rfl) (argsL := [(.ref ar), (.int (1 : Int32)), (.int at1), (.int en), (.int s1)]) (rest := []) (lenOf pd_2 rfl) rfl (by show 2 * 0 + _ ≤ _; exact Nat.le_of_eq rfl) (hb hby at_258) (fun _ _ => ⟨rfl, eq1, (by decide : 1 + 0 ≤ _), (by decide : 8 + 0 ≤ _)⟩)
    dsimp only [Pt.U, Pt.locs, Pt.cells, Pt.slots] at X3 l3 y3 z3 st3 hQ3
    subst l3 y3 z3
    obtain ⟨rfl, N3q, eq3⟩ := hQ3
    have N3 := Fr.app N1 N3q
    refine OwnGo.of st3 ?_
    show OwnGo p.tables e below _ (T3.setTop (mkF m 261 #[sl0, sl1, sl2, sl3, .val (.int at1), .val (.int s1), .val (.ref ar), .val (.int en), sl8, sl9, sl10, sl11, sl12] [(.int (own_k1 ar at1 en s1 el0 el1 el2 el3 el4 el5 el6 el7 kb))]))
    have hc4 : ¬ ((own_k1 ar at1 en s1 el0 el1 el2 el3 el4 el5 el6 el7 kb) = (0 : Int32)) := hk1
    refine OwnGo.of (A := T3.setTop (mkF m 261 #[sl0, sl1, sl2, sl3, .val (.int at1), .val (.int s1), .val (.ref ar), .val (.int en), sl8, sl9, sl10, sl11, sl12] [(.int (own_k1 ar at1 en s1 el0 el1 el2 el3 el4 el5 el6 el7 kb))])) (B := T3.setTop (mkF m 273 #[sl0, sl1, sl2, sl3, .val (.int at1), .val (.int s1), .val (.ref ar), .val (.int en), sl8, sl9, sl10, sl11, sl12] [(.int s1), (.int en), (.int at1), (.int (2 : Int32)), (.ref ar)])) (fun t k => ?_) ?_
    · show Steps p.tables e below (T3.setTop (mkF m 261 #[sl0, sl1, sl2, sl3, .val (.int at1), .val (.int s1), .val (.ref ar), .val (.int en), sl8, sl9, sl10, sl11, sl12] [(.int (own_k1 ar at1 en s1 el0 el1 el2 el3 el4 el5 el6 el7 kb))])) t
      refine XS.ifNo X3.here hx rfl (hb hby at_261) rfl ((if0 _ _).trans (feq hc4).1) ?_
      show Steps p.tables e below (T3.setTop (mkF m 264 #[sl0, sl1, sl2, sl3, .val (.int at1), .val (.int s1), .val (.ref ar), .val (.int en), sl8, sl9, sl10, sl11, sl12] [])) t
      refine XS.aload X3.here hx rfl (hb hby at_264) rfl rfl ?_
      show Steps p.tables e below (T3.setTop (mkF m 266 #[sl0, sl1, sl2, sl3, .val (.int at1), .val (.int s1), .val (.ref ar), .val (.int en), sl8, sl9, sl10, sl11, sl12] [(.ref ar)])) t
      refine XS.iconst X3.here hx rfl (hb hby at_266) ?_
      show Steps p.tables e below (T3.setTop (mkF m 267 #[sl0, sl1, sl2, sl3, .val (.int at1), .val (.int s1), .val (.ref ar), .val (.int en), sl8, sl9, sl10, sl11, sl12] [(.int (2 : Int32)), (.ref ar)])) t
      refine XS.iload X3.here hx rfl (hb hby at_267) rfl ?_
      show Steps p.tables e below (T3.setTop (mkF m 269 #[sl0, sl1, sl2, sl3, .val (.int at1), .val (.int s1), .val (.ref ar), .val (.int en), sl8, sl9, sl10, sl11, sl12] [(.int at1), (.int (2 : Int32)), (.ref ar)])) t
      refine XS.iload X3.here hx rfl (hb hby at_269) rfl ?_
      show Steps p.tables e below (T3.setTop (mkF m 271 #[sl0, sl1, sl2, sl3, .val (.int at1), .val (.int s1), .val (.ref ar), .val (.int en), sl8, sl9, sl10, sl11, sl12] [(.int en), (.int at1), (.int (2 : Int32)), (.ref ar)])) t
      refine XS.iload X3.here hx rfl (hb hby at_271) rfl ?_
      exact k
    obtain ⟨_, _, ⟨T5, L5, k5, n5⟩, -, X5, ⟨Lc5, hQ5, l5, y5, z5⟩, st5⟩ := Jvm.LawKit.callS X3 hx (y := (⟨"com/example/sevenfold/sevenfold/NaturalWriteCodePointPinLaw", "kept", "([BIIIB)Z"⟩ : MethodName)) hown (mvT hZ (hw _ (List.mem_of_getElem? (i := 7) rfl))) (mvT hZ (hw _ (List.mem_of_getElem? (i := 8) rfl))) (mvT hZ (hw _ (List.mem_of_getElem? (i := 9) rfl))) (mvT hZ (hw _ (List.mem_of_getElem? (i := 10) rfl))) (by decide) (backOf (W := 0) (rm2_2 l Z aw hw [] ar at1 en s1 el0 el1 el2 el3 el4 el5 el6 el7 kb hj n0 Zj Vj) hZ (hw _ (List.mem_of_getElem? (i := 10) rfl)) (hw _ (List.mem_of_getElem? (i := 9) rfl)) (by decide) (by decide)) (g := (mkF m 273 #[sl0, sl1, sl2, sl3, .val (.int at1), .val (.int s1), .val (.ref ar), .val (.int en), sl8, sl9, sl10, sl11, sl12] [(.int s1), (.int en), (.int at1), (.int (2 : Int32)), (.ref ar)])) rfl (by rw [hml]; rfl) (argsL := [(.ref ar), (.int (2 : Int32)), (.int at1), (.int en), (.int s1)]) (rest := []) (lenOf pd_2 rfl) rfl (by show 2 * 0 + _ ≤ _; exact Nat.le_of_eq rfl) (hb hby at_273) (fun _ _ => ⟨rfl, eq3, (by decide : 1 + 0 ≤ _), (by decide : 8 + 0 ≤ _)⟩)
    dsimp only [Pt.U, Pt.locs, Pt.cells, Pt.slots] at X5 l5 y5 z5 st5 hQ5
    subst l5 y5 z5
    obtain ⟨rfl, N5q, eq5⟩ := hQ5
    have N5 := Fr.app N3 N5q
    refine OwnGo.of st5 ?_
    show OwnGo p.tables e below _ (T5.setTop (mkF m 276 #[sl0, sl1, sl2, sl3, .val (.int at1), .val (.int s1), .val (.ref ar), .val (.int en), sl8, sl9, sl10, sl11, sl12] [(.int (own_k2 ar at1 en s1 el0 el1 el2 el3 el4 el5 el6 el7 kb))]))
    have hc6 : ¬ ((own_k2 ar at1 en s1 el0 el1 el2 el3 el4 el5 el6 el7 kb) = (0 : Int32)) := hk2
    refine OwnGo.of (A := T5.setTop (mkF m 276 #[sl0, sl1, sl2, sl3, .val (.int at1), .val (.int s1), .val (.ref ar), .val (.int en), sl8, sl9, sl10, sl11, sl12] [(.int (own_k2 ar at1 en s1 el0 el1 el2 el3 el4 el5 el6 el7 kb))])) (B := T5.setTop (mkF m 288 #[sl0, sl1, sl2, sl3, .val (.int at1), .val (.int s1), .val (.ref ar), .val (.int en), sl8, sl9, sl10, sl11, sl12] [(.int s1), (.int en), (.int at1), (.int (3 : Int32)), (.ref ar)])) (fun t k => ?_) ?_
    · show Steps p.tables e below (T5.setTop (mkF m 276 #[sl0, sl1, sl2, sl3, .val (.int at1), .val (.int s1), .val (.ref ar), .val (.int en), sl8, sl9, sl10, sl11, sl12] [(.int (own_k2 ar at1 en s1 el0 el1 el2 el3 el4 el5 el6 el7 kb))])) t
      refine XS.ifNo X5.here hx rfl (hb hby at_276) rfl ((if0 _ _).trans (feq hc6).1) ?_
      show Steps p.tables e below (T5.setTop (mkF m 279 #[sl0, sl1, sl2, sl3, .val (.int at1), .val (.int s1), .val (.ref ar), .val (.int en), sl8, sl9, sl10, sl11, sl12] [])) t
      refine XS.aload X5.here hx rfl (hb hby at_279) rfl rfl ?_
      show Steps p.tables e below (T5.setTop (mkF m 281 #[sl0, sl1, sl2, sl3, .val (.int at1), .val (.int s1), .val (.ref ar), .val (.int en), sl8, sl9, sl10, sl11, sl12] [(.ref ar)])) t
      refine XS.iconst X5.here hx rfl (hb hby at_281) ?_
      show Steps p.tables e below (T5.setTop (mkF m 282 #[sl0, sl1, sl2, sl3, .val (.int at1), .val (.int s1), .val (.ref ar), .val (.int en), sl8, sl9, sl10, sl11, sl12] [(.int (3 : Int32)), (.ref ar)])) t
      refine XS.iload X5.here hx rfl (hb hby at_282) rfl ?_
      show Steps p.tables e below (T5.setTop (mkF m 284 #[sl0, sl1, sl2, sl3, .val (.int at1), .val (.int s1), .val (.ref ar), .val (.int en), sl8, sl9, sl10, sl11, sl12] [(.int at1), (.int (3 : Int32)), (.ref ar)])) t
      refine XS.iload X5.here hx rfl (hb hby at_284) rfl ?_
      show Steps p.tables e below (T5.setTop (mkF m 286 #[sl0, sl1, sl2, sl3, .val (.int at1), .val (.int s1), .val (.ref ar), .val (.int en), sl8, sl9, sl10, sl11, sl12] [(.int en), (.int at1), (.int (3 : Int32)), (.ref ar)])) t
      refine XS.iload X5.here hx rfl (hb hby at_286) rfl ?_
      exact k
    obtain ⟨_, _, ⟨T7, L7, k7, n7⟩, -, X7, ⟨Lc7, hQ7, l7, y7, z7⟩, st7⟩ := Jvm.LawKit.callS X5 hx (y := (⟨"com/example/sevenfold/sevenfold/NaturalWriteCodePointPinLaw", "kept", "([BIIIB)Z"⟩ : MethodName)) hown (mvT hZ (hw _ (List.mem_of_getElem? (i := 7) rfl))) (mvT hZ (hw _ (List.mem_of_getElem? (i := 8) rfl))) (mvT hZ (hw _ (List.mem_of_getElem? (i := 9) rfl))) (mvT hZ (hw _ (List.mem_of_getElem? (i := 10) rfl))) (by decide) (backOf (W := 0) (rm2_3 l Z aw hw [] ar at1 en s1 el0 el1 el2 el3 el4 el5 el6 el7 kb hj n0 Zj Vj) hZ (hw _ (List.mem_of_getElem? (i := 10) rfl)) (hw _ (List.mem_of_getElem? (i := 9) rfl)) (by decide) (by decide)) (g := (mkF m 288 #[sl0, sl1, sl2, sl3, .val (.int at1), .val (.int s1), .val (.ref ar), .val (.int en), sl8, sl9, sl10, sl11, sl12] [(.int s1), (.int en), (.int at1), (.int (3 : Int32)), (.ref ar)])) rfl (by rw [hml]; rfl) (argsL := [(.ref ar), (.int (3 : Int32)), (.int at1), (.int en), (.int s1)]) (rest := []) (lenOf pd_2 rfl) rfl (by show 2 * 0 + _ ≤ _; exact Nat.le_of_eq rfl) (hb hby at_288) (fun _ _ => ⟨rfl, eq5, (by decide : 1 + 0 ≤ _), (by decide : 8 + 0 ≤ _)⟩)
    dsimp only [Pt.U, Pt.locs, Pt.cells, Pt.slots] at X7 l7 y7 z7 st7 hQ7
    subst l7 y7 z7
    obtain ⟨rfl, N7q, eq7⟩ := hQ7
    have N7 := Fr.app N5 N7q
    refine OwnGo.of st7 ?_
    show OwnGo p.tables e below _ (T7.setTop (mkF m 291 #[sl0, sl1, sl2, sl3, .val (.int at1), .val (.int s1), .val (.ref ar), .val (.int en), sl8, sl9, sl10, sl11, sl12] [(.int (own_k3 ar at1 en s1 el0 el1 el2 el3 el4 el5 el6 el7 kb))]))
    have hc8 : ¬ ((own_k3 ar at1 en s1 el0 el1 el2 el3 el4 el5 el6 el7 kb) = (0 : Int32)) := hk3
    refine OwnGo.of (A := T7.setTop (mkF m 291 #[sl0, sl1, sl2, sl3, .val (.int at1), .val (.int s1), .val (.ref ar), .val (.int en), sl8, sl9, sl10, sl11, sl12] [(.int (own_k3 ar at1 en s1 el0 el1 el2 el3 el4 el5 el6 el7 kb))])) (B := T7.setTop (mkF m 303 #[sl0, sl1, sl2, sl3, .val (.int at1), .val (.int s1), .val (.ref ar), .val (.int en), sl8, sl9, sl10, sl11, sl12] [(.int s1), (.int en), (.int at1), (.int (4 : Int32)), (.ref ar)])) (fun t k => ?_) ?_
    · show Steps p.tables e below (T7.setTop (mkF m 291 #[sl0, sl1, sl2, sl3, .val (.int at1), .val (.int s1), .val (.ref ar), .val (.int en), sl8, sl9, sl10, sl11, sl12] [(.int (own_k3 ar at1 en s1 el0 el1 el2 el3 el4 el5 el6 el7 kb))])) t
      refine XS.ifNo X7.here hx rfl (hb hby at_291) rfl ((if0 _ _).trans (feq hc8).1) ?_
      show Steps p.tables e below (T7.setTop (mkF m 294 #[sl0, sl1, sl2, sl3, .val (.int at1), .val (.int s1), .val (.ref ar), .val (.int en), sl8, sl9, sl10, sl11, sl12] [])) t
      refine XS.aload X7.here hx rfl (hb hby at_294) rfl rfl ?_
      show Steps p.tables e below (T7.setTop (mkF m 296 #[sl0, sl1, sl2, sl3, .val (.int at1), .val (.int s1), .val (.ref ar), .val (.int en), sl8, sl9, sl10, sl11, sl12] [(.ref ar)])) t
      refine XS.iconst X7.here hx rfl (hb hby at_296) ?_
      show Steps p.tables e below (T7.setTop (mkF m 297 #[sl0, sl1, sl2, sl3, .val (.int at1), .val (.int s1), .val (.ref ar), .val (.int en), sl8, sl9, sl10, sl11, sl12] [(.int (4 : Int32)), (.ref ar)])) t
      refine XS.iload X7.here hx rfl (hb hby at_297) rfl ?_
      show Steps p.tables e below (T7.setTop (mkF m 299 #[sl0, sl1, sl2, sl3, .val (.int at1), .val (.int s1), .val (.ref ar), .val (.int en), sl8, sl9, sl10, sl11, sl12] [(.int at1), (.int (4 : Int32)), (.ref ar)])) t
      refine XS.iload X7.here hx rfl (hb hby at_299) rfl ?_
      show Steps p.tables e below (T7.setTop (mkF m 301 #[sl0, sl1, sl2, sl3, .val (.int at1), .val (.int s1), .val (.ref ar), .val (.int en), sl8, sl9, sl10, sl11, sl12] [(.int en), (.int at1), (.int (4 : Int32)), (.ref ar)])) t
      refine XS.iload X7.here hx rfl (hb hby at_301) rfl ?_
      exact k
    obtain ⟨_, _, ⟨T9, L9, k9, n9⟩, -, X9, ⟨Lc9, hQ9, l9, y9, z9⟩, st9⟩ := Jvm.LawKit.callS X7 hx (y := (⟨"com/example/sevenfold/sevenfold/NaturalWriteCodePointPinLaw", "kept", "([BIIIB)Z"⟩ : MethodName)) hown (mvT hZ (hw _ (List.mem_of_getElem? (i := 7) rfl))) (mvT hZ (hw _ (List.mem_of_getElem? (i := 8) rfl))) (mvT hZ (hw _ (List.mem_of_getElem? (i := 9) rfl))) (mvT hZ (hw _ (List.mem_of_getElem? (i := 10) rfl))) (by decide) (backOf (W := 0) (rm2_4 l Z aw hw [] ar at1 en s1 el0 el1 el2 el3 el4 el5 el6 el7 kb hj n0 Zj Vj) hZ (hw _ (List.mem_of_getElem? (i := 10) rfl)) (hw _ (List.mem_of_getElem? (i := 9) rfl)) (by decide) (by decide)) (g := (mkF m 303 #[sl0, sl1, sl2, sl3, .val (.int at1), .val (.int s1), .val (.ref ar), .val (.int en), sl8, sl9, sl10, sl11, sl12] [(.int s1), (.int en), (.int at1), (.int (4 : Int32)), (.ref ar)])) rfl (by rw [hml]; rfl) (argsL := [(.ref ar), (.int (4 : Int32)), (.int at1), (.int en), (.int s1)]) (rest := []) (lenOf pd_2 rfl) rfl (by show 2 * 0 + _ ≤ _; exact Nat.le_of_eq rfl) (hb hby at_303) (fun _ _ => ⟨rfl, eq7, (by decide : 1 + 0 ≤ _), (by decide : 8 + 0 ≤ _)⟩)
    dsimp only [Pt.U, Pt.locs, Pt.cells, Pt.slots] at X9 l9 y9 z9 st9 hQ9
    subst l9 y9 z9
    obtain ⟨rfl, N9q, eq9⟩ := hQ9
    have N9 := Fr.app N7 N9q
    refine OwnGo.of st9 ?_
    show OwnGo p.tables e below _ (T9.setTop (mkF m 306 #[sl0, sl1, sl2, sl3, .val (.int at1), .val (.int s1), .val (.ref ar), .val (.int en), sl8, sl9, sl10, sl11, sl12] [(.int (own_k4 ar at1 en s1 el0 el1 el2 el3 el4 el5 el6 el7 kb))]))
    have hc10 : ¬ ((own_k4 ar at1 en s1 el0 el1 el2 el3 el4 el5 el6 el7 kb) = (0 : Int32)) := hk4
    refine OwnGo.of (A := T9.setTop (mkF m 306 #[sl0, sl1, sl2, sl3, .val (.int at1), .val (.int s1), .val (.ref ar), .val (.int en), sl8, sl9, sl10, sl11, sl12] [(.int (own_k4 ar at1 en s1 el0 el1 el2 el3 el4 el5 el6 el7 kb))])) (B := T9.setTop (mkF m 318 #[sl0, sl1, sl2, sl3, .val (.int at1), .val (.int s1), .val (.ref ar), .val (.int en), sl8, sl9, sl10, sl11, sl12] [(.int s1), (.int en), (.int at1), (.int (5 : Int32)), (.ref ar)])) (fun t k => ?_) ?_
    · show Steps p.tables e below (T9.setTop (mkF m 306 #[sl0, sl1, sl2, sl3, .val (.int at1), .val (.int s1), .val (.ref ar), .val (.int en), sl8, sl9, sl10, sl11, sl12] [(.int (own_k4 ar at1 en s1 el0 el1 el2 el3 el4 el5 el6 el7 kb))])) t
      refine XS.ifNo X9.here hx rfl (hb hby at_306) rfl ((if0 _ _).trans (feq hc10).1) ?_
      show Steps p.tables e below (T9.setTop (mkF m 309 #[sl0, sl1, sl2, sl3, .val (.int at1), .val (.int s1), .val (.ref ar), .val (.int en), sl8, sl9, sl10, sl11, sl12] [])) t
      refine XS.aload X9.here hx rfl (hb hby at_309) rfl rfl ?_
      show Steps p.tables e below (T9.setTop (mkF m 311 #[sl0, sl1, sl2, sl3, .val (.int at1), .val (.int s1), .val (.ref ar), .val (.int en), sl8, sl9, sl10, sl11, sl12] [(.ref ar)])) t
      refine XS.iconst X9.here hx rfl (hb hby at_311) ?_
      show Steps p.tables e below (T9.setTop (mkF m 312 #[sl0, sl1, sl2, sl3, .val (.int at1), .val (.int s1), .val (.ref ar), .val (.int en), sl8, sl9, sl10, sl11, sl12] [(.int (5 : Int32)), (.ref ar)])) t
      refine XS.iload X9.here hx rfl (hb hby at_312) rfl ?_
      show Steps p.tables e below (T9.setTop (mkF m 314 #[sl0, sl1, sl2, sl3, .val (.int at1), .val (.int s1), .val (.ref ar), .val (.int en), sl8, sl9, sl10, sl11, sl12] [(.int at1), (.int (5 : Int32)), (.ref ar)])) t
      refine XS.iload X9.here hx rfl (hb hby at_314) rfl ?_
      show Steps p.tables e below (T9.setTop (mkF m 316 #[sl0, sl1, sl2, sl3, .val (.int at1), .val (.int s1), .val (.ref ar), .val (.int en), sl8, sl9, sl10, sl11, sl12] [(.int en), (.int at1), (.int (5 : Int32)), (.ref ar)])) t
      refine XS.iload X9.here hx rfl (hb hby at_316) rfl ?_
      exact k
    obtain ⟨_, _, ⟨T11, L11, k11, n11⟩, -, X11, ⟨Lc11, hQ11, l11, y11, z11⟩, st11⟩ := Jvm.LawKit.callS X9 hx (y := (⟨"com/example/sevenfold/sevenfold/NaturalWriteCodePointPinLaw", "kept", "([BIIIB)Z"⟩ : MethodName)) hown (mvT hZ (hw _ (List.mem_of_getElem? (i := 7) rfl))) (mvT hZ (hw _ (List.mem_of_getElem? (i := 8) rfl))) (mvT hZ (hw _ (List.mem_of_getElem? (i := 9) rfl))) (mvT hZ (hw _ (List.mem_of_getElem? (i := 10) rfl))) (by decide) (backOf (W := 0) (rm2_5 l Z aw hw [] ar at1 en s1 el0 el1 el2 el3 el4 el5 el6 el7 kb hj n0 Zj Vj) hZ (hw _ (List.mem_of_getElem? (i := 10) rfl)) (hw _ (List.mem_of_getElem? (i := 9) rfl)) (by decide) (by decide)) (g := (mkF m 318 #[sl0, sl1, sl2, sl3, .val (.int at1), .val (.int s1), .val (.ref ar), .val (.int en), sl8, sl9, sl10, sl11, sl12] [(.int s1), (.int en), (.int at1), (.int (5 : Int32)), (.ref ar)])) rfl (by rw [hml]; rfl) (argsL := [(.ref ar), (.int (5 : Int32)), (.int at1), (.int en), (.int s1)]) (rest := []) (lenOf pd_2 rfl) rfl (by show 2 * 0 + _ ≤ _; exact Nat.le_of_eq rfl) (hb hby at_318) (fun _ _ => ⟨rfl, eq9, (by decide : 1 + 0 ≤ _), (by decide : 8 + 0 ≤ _)⟩)
    dsimp only [Pt.U, Pt.locs, Pt.cells, Pt.slots] at X11 l11 y11 z11 st11 hQ11
    subst l11 y11 z11
    obtain ⟨rfl, N11q, eq11⟩ := hQ11
    have N11 := Fr.app N9 N11q
    refine OwnGo.of st11 ?_
    show OwnGo p.tables e below _ (T11.setTop (mkF m 321 #[sl0, sl1, sl2, sl3, .val (.int at1), .val (.int s1), .val (.ref ar), .val (.int en), sl8, sl9, sl10, sl11, sl12] [(.int (own_k5 ar at1 en s1 el0 el1 el2 el3 el4 el5 el6 el7 kb))]))
    have hc12 : ¬ ((own_k5 ar at1 en s1 el0 el1 el2 el3 el4 el5 el6 el7 kb) = (0 : Int32)) := hk5
    refine OwnGo.of (A := T11.setTop (mkF m 321 #[sl0, sl1, sl2, sl3, .val (.int at1), .val (.int s1), .val (.ref ar), .val (.int en), sl8, sl9, sl10, sl11, sl12] [(.int (own_k5 ar at1 en s1 el0 el1 el2 el3 el4 el5 el6 el7 kb))])) (B := T11.setTop (mkF m 334 #[sl0, sl1, sl2, sl3, .val (.int at1), .val (.int s1), .val (.ref ar), .val (.int en), sl8, sl9, sl10, sl11, sl12] [(.int s1), (.int en), (.int at1), (.int (6 : Int32)), (.ref ar)])) (fun t k => ?_) ?_
    · show Steps p.tables e below (T11.setTop (mkF m 321 #[sl0, sl1, sl2, sl3, .val (.int at1), .val (.int s1), .val (.ref ar), .val (.int en), sl8, sl9, sl10, sl11, sl12] [(.int (own_k5 ar at1 en s1 el0 el1 el2 el3 el4 el5 el6 el7 kb))])) t
      refine XS.ifNo X11.here hx rfl (hb hby at_321) rfl ((if0 _ _).trans (feq hc12).1) ?_
      show Steps p.tables e below (T11.setTop (mkF m 324 #[sl0, sl1, sl2, sl3, .val (.int at1), .val (.int s1), .val (.ref ar), .val (.int en), sl8, sl9, sl10, sl11, sl12] [])) t
      refine XS.aload X11.here hx rfl (hb hby at_324) rfl rfl ?_
      show Steps p.tables e below (T11.setTop (mkF m 326 #[sl0, sl1, sl2, sl3, .val (.int at1), .val (.int s1), .val (.ref ar), .val (.int en), sl8, sl9, sl10, sl11, sl12] [(.ref ar)])) t
      refine XS.bipush X11.here hx rfl (hb hby at_326) ?_
      show Steps p.tables e below (T11.setTop (mkF m 328 #[sl0, sl1, sl2, sl3, .val (.int at1), .val (.int s1), .val (.ref ar), .val (.int en), sl8, sl9, sl10, sl11, sl12] [(.int (6 : Int32)), (.ref ar)])) t
      refine XS.iload X11.here hx rfl (hb hby at_328) rfl ?_
      show Steps p.tables e below (T11.setTop (mkF m 330 #[sl0, sl1, sl2, sl3, .val (.int at1), .val (.int s1), .val (.ref ar), .val (.int en), sl8, sl9, sl10, sl11, sl12] [(.int at1), (.int (6 : Int32)), (.ref ar)])) t
      refine XS.iload X11.here hx rfl (hb hby at_330) rfl ?_
      show Steps p.tables e below (T11.setTop (mkF m 332 #[sl0, sl1, sl2, sl3, .val (.int at1), .val (.int s1), .val (.ref ar), .val (.int en), sl8, sl9, sl10, sl11, sl12] [(.int en), (.int at1), (.int (6 : Int32)), (.ref ar)])) t
      refine XS.iload X11.here hx rfl (hb hby at_332) rfl ?_
      exact k
    obtain ⟨_, _, ⟨T13, L13, k13, n13⟩, -, X13, ⟨Lc13, hQ13, l13, y13, z13⟩, st13⟩ := Jvm.LawKit.callS X11 hx (y := (⟨"com/example/sevenfold/sevenfold/NaturalWriteCodePointPinLaw", "kept", "([BIIIB)Z"⟩ : MethodName)) hown (mvT hZ (hw _ (List.mem_of_getElem? (i := 7) rfl))) (mvT hZ (hw _ (List.mem_of_getElem? (i := 8) rfl))) (mvT hZ (hw _ (List.mem_of_getElem? (i := 9) rfl))) (mvT hZ (hw _ (List.mem_of_getElem? (i := 10) rfl))) (by decide) (backOf (W := 0) (rm2_6 l Z aw hw [] ar at1 en s1 el0 el1 el2 el3 el4 el5 el6 el7 kb hj n0 Zj Vj) hZ (hw _ (List.mem_of_getElem? (i := 10) rfl)) (hw _ (List.mem_of_getElem? (i := 9) rfl)) (by decide) (by decide)) (g := (mkF m 334 #[sl0, sl1, sl2, sl3, .val (.int at1), .val (.int s1), .val (.ref ar), .val (.int en), sl8, sl9, sl10, sl11, sl12] [(.int s1), (.int en), (.int at1), (.int (6 : Int32)), (.ref ar)])) rfl (by rw [hml]; rfl) (argsL := [(.ref ar), (.int (6 : Int32)), (.int at1), (.int en), (.int s1)]) (rest := []) (lenOf pd_2 rfl) rfl (by show 2 * 0 + _ ≤ _; exact Nat.le_of_eq rfl) (hb hby at_334) (fun _ _ => ⟨rfl, eq11, (by decide : 1 + 0 ≤ _), (by decide : 8 + 0 ≤ _)⟩)
    dsimp only [Pt.U, Pt.locs, Pt.cells, Pt.slots] at X13 l13 y13 z13 st13 hQ13
    subst l13 y13 z13
    obtain ⟨rfl, N13q, eq13⟩ := hQ13
    have N13 := Fr.app N11 N13q
    refine OwnGo.of st13 ?_
    show OwnGo p.tables e below _ (T13.setTop (mkF m 337 #[sl0, sl1, sl2, sl3, .val (.int at1), .val (.int s1), .val (.ref ar), .val (.int en), sl8, sl9, sl10, sl11, sl12] [(.int (own_k6 ar at1 en s1 el0 el1 el2 el3 el4 el5 el6 el7 kb))]))
    have hc14 : ¬ ((own_k6 ar at1 en s1 el0 el1 el2 el3 el4 el5 el6 el7 kb) = (0 : Int32)) := hk6
    refine OwnGo.of (A := T13.setTop (mkF m 337 #[sl0, sl1, sl2, sl3, .val (.int at1), .val (.int s1), .val (.ref ar), .val (.int en), sl8, sl9, sl10, sl11, sl12] [(.int (own_k6 ar at1 en s1 el0 el1 el2 el3 el4 el5 el6 el7 kb))])) (B := T13.setTop (mkF m 350 #[sl0, sl1, sl2, sl3, .val (.int at1), .val (.int s1), .val (.ref ar), .val (.int en), sl8, sl9, sl10, sl11, sl12] [(.int s1), (.int en), (.int at1), (.int (7 : Int32)), (.ref ar)])) (fun t k => ?_) ?_
    · show Steps p.tables e below (T13.setTop (mkF m 337 #[sl0, sl1, sl2, sl3, .val (.int at1), .val (.int s1), .val (.ref ar), .val (.int en), sl8, sl9, sl10, sl11, sl12] [(.int (own_k6 ar at1 en s1 el0 el1 el2 el3 el4 el5 el6 el7 kb))])) t
      refine XS.ifNo X13.here hx rfl (hb hby at_337) rfl ((if0 _ _).trans (feq hc14).1) ?_
      show Steps p.tables e below (T13.setTop (mkF m 340 #[sl0, sl1, sl2, sl3, .val (.int at1), .val (.int s1), .val (.ref ar), .val (.int en), sl8, sl9, sl10, sl11, sl12] [])) t
      refine XS.aload X13.here hx rfl (hb hby at_340) rfl rfl ?_
      show Steps p.tables e below (T13.setTop (mkF m 342 #[sl0, sl1, sl2, sl3, .val (.int at1), .val (.int s1), .val (.ref ar), .val (.int en), sl8, sl9, sl10, sl11, sl12] [(.ref ar)])) t
      refine XS.bipush X13.here hx rfl (hb hby at_342) ?_
      show Steps p.tables e below (T13.setTop (mkF m 344 #[sl0, sl1, sl2, sl3, .val (.int at1), .val (.int s1), .val (.ref ar), .val (.int en), sl8, sl9, sl10, sl11, sl12] [(.int (7 : Int32)), (.ref ar)])) t
      refine XS.iload X13.here hx rfl (hb hby at_344) rfl ?_
      show Steps p.tables e below (T13.setTop (mkF m 346 #[sl0, sl1, sl2, sl3, .val (.int at1), .val (.int s1), .val (.ref ar), .val (.int en), sl8, sl9, sl10, sl11, sl12] [(.int at1), (.int (7 : Int32)), (.ref ar)])) t
      refine XS.iload X13.here hx rfl (hb hby at_346) rfl ?_
      show Steps p.tables e below (T13.setTop (mkF m 348 #[sl0, sl1, sl2, sl3, .val (.int at1), .val (.int s1), .val (.ref ar), .val (.int en), sl8, sl9, sl10, sl11, sl12] [(.int en), (.int at1), (.int (7 : Int32)), (.ref ar)])) t
      refine XS.iload X13.here hx rfl (hb hby at_348) rfl ?_
      exact k
    obtain ⟨_, _, ⟨T15, L15, k15, n15⟩, -, X15, ⟨Lc15, hQ15, l15, y15, z15⟩, st15⟩ := Jvm.LawKit.callS X13 hx (y := (⟨"com/example/sevenfold/sevenfold/NaturalWriteCodePointPinLaw", "kept", "([BIIIB)Z"⟩ : MethodName)) hown (mvT hZ (hw _ (List.mem_of_getElem? (i := 7) rfl))) (mvT hZ (hw _ (List.mem_of_getElem? (i := 8) rfl))) (mvT hZ (hw _ (List.mem_of_getElem? (i := 9) rfl))) (mvT hZ (hw _ (List.mem_of_getElem? (i := 10) rfl))) (by decide) (backOf (W := 0) (rm2_7 l Z aw hw [] ar at1 en s1 el0 el1 el2 el3 el4 el5 el6 el7 kb hj n0 Zj Vj) hZ (hw _ (List.mem_of_getElem? (i := 10) rfl)) (hw _ (List.mem_of_getElem? (i := 9) rfl)) (by decide) (by decide)) (g := (mkF m 350 #[sl0, sl1, sl2, sl3, .val (.int at1), .val (.int s1), .val (.ref ar), .val (.int en), sl8, sl9, sl10, sl11, sl12] [(.int s1), (.int en), (.int at1), (.int (7 : Int32)), (.ref ar)])) rfl (by rw [hml]; rfl) (argsL := [(.ref ar), (.int (7 : Int32)), (.int at1), (.int en), (.int s1)]) (rest := []) (lenOf pd_2 rfl) rfl (by show 2 * 0 + _ ≤ _; exact Nat.le_of_eq rfl) (hb hby at_350) (fun _ _ => ⟨rfl, eq13, (by decide : 1 + 0 ≤ _), (by decide : 8 + 0 ≤ _)⟩)
    dsimp only [Pt.U, Pt.locs, Pt.cells, Pt.slots] at X15 l15 y15 z15 st15 hQ15
    subst l15 y15 z15
    obtain ⟨rfl, N15q, eq15⟩ := hQ15
    have N15 := Fr.app N13 N15q
    refine OwnGo.of st15 ?_
    show OwnGo p.tables e below _ (T15.setTop (mkF m 353 #[sl0, sl1, sl2, sl3, .val (.int at1), .val (.int s1), .val (.ref ar), .val (.int en), sl8, sl9, sl10, sl11, sl12] [(.int (own_k7 ar at1 en s1 el0 el1 el2 el3 el4 el5 el6 el7 kb))]))
    have hc16 : ¬ ((own_k7 ar at1 en s1 el0 el1 el2 el3 el4 el5 el6 el7 kb) = (0 : Int32)) := hk7
    refine OwnGo.of (A := T15.setTop (mkF m 353 #[sl0, sl1, sl2, sl3, .val (.int at1), .val (.int s1), .val (.ref ar), .val (.int en), sl8, sl9, sl10, sl11, sl12] [(.int (own_k7 ar at1 en s1 el0 el1 el2 el3 el4 el5 el6 el7 kb))])) (B := T15.setTop (mkF m 361 #[sl0, sl1, sl2, sl3, .val (.int at1), .val (.int s1), .val (.ref ar), .val (.int en), sl8, sl9, sl10, sl11, sl12] [(.int (1 : Int32))])) (fun t k => ?_) ?_
    · show Steps p.tables e below (T15.setTop (mkF m 353 #[sl0, sl1, sl2, sl3, .val (.int at1), .val (.int s1), .val (.ref ar), .val (.int en), sl8, sl9, sl10, sl11, sl12] [(.int (own_k7 ar at1 en s1 el0 el1 el2 el3 el4 el5 el6 el7 kb))])) t
      refine XS.ifNo X15.here hx rfl (hb hby at_353) rfl ((if0 _ _).trans (feq hc16).1) ?_
      show Steps p.tables e below (T15.setTop (mkF m 356 #[sl0, sl1, sl2, sl3, .val (.int at1), .val (.int s1), .val (.ref ar), .val (.int en), sl8, sl9, sl10, sl11, sl12] [])) t
      refine XS.iconst X15.here hx rfl (hb hby at_356) ?_
      show Steps p.tables e below (T15.setTop (mkF m 357 #[sl0, sl1, sl2, sl3, .val (.int at1), .val (.int s1), .val (.ref ar), .val (.int en), sl8, sl9, sl10, sl11, sl12] [(.int (1 : Int32))])) t
      refine XS.goto X15.here hx rfl (pc0 := 357) (pc' := 361) rfl (hb hby at_357) (by decide) (by decide) ?_
      exact k
    obtain ⟨fs, hr, hrun, hended, hW, hsame⟩ := X15.leave (v := some (.int (nar .boolean (1 : Int32)))) (fun h => by rw [Bd.returns] at h; cases h) hlk
    refine ⟨_, _, ?_, hrun, hended, _, _, rfl, ?_, ⟨_, rfl⟩, hW, hsame.mono (by decide) (by decide)⟩
    · show Steps p.tables e below (T15.setTop (mkF m 361 #[sl0, sl1, sl2, sl3, .val (.int at1), .val (.int s1), .val (.ref ar), .val (.int en), sl8, sl9, sl10, sl11, sl12] [(.int (1 : Int32))])) _
      exact retN X15 hx (t := .boolean) Bd.returns (by simp) (hb hby at_361) hr
    · show Qrm0 Z p0 p1 p2 wF kf h0 n0 _ (T15.setFrames fs).heap _
      rw [show (T15.setFrames fs).heap = hj from eq15]
      exact ⟨rfl, N15⟩
  show OwnGo p.tables e below _ (s₁.setTop (mkF m 0 #[.val (.int p0), .val (.int p1), .val (.int p2), .unset, .unset, .unset, .unset, .unset, .unset, .unset, .unset, .unset, .unset] []))
  refine OwnGo.of (A := s₁.setTop (mkF m 0 #[.val (.int p0), .val (.int p1), .val (.int p2), .unset, .unset, .unset, .unset, .unset, .unset, .unset, .unset, .unset, .unset] [])) (B := s₁.setTop (mkF m 8 #[.val (.int p0), .val (.int p1), .val (.int p2), .val (.int ((p0 &&& (2147483647 : Int32)) % (2113664 : Int32))), .unset, .unset, .unset, .unset, .unset, .unset, .unset, .unset, .unset] [])) (fun t k => ?_) ?_
  · show Steps p.tables e below (s₁.setTop (mkF m 0 #[.val (.int p0), .val (.int p1), .val (.int p2), .unset, .unset, .unset, .unset, .unset, .unset, .unset, .unset, .unset, .unset] [])) t
    refine XS.iloadN X0.here hx rfl (hb hby at_0) rfl ?_
    show Steps p.tables e below (s₁.setTop (mkF m 1 #[.val (.int p0), .val (.int p1), .val (.int p2), .unset, .unset, .unset, .unset, .unset, .unset, .unset, .unset, .unset, .unset] [(.int p0)])) t
    refine X0.ldcInt hx hown (mvT hZ (hw _ (List.mem_of_getElem? (i := 0) rfl))) (g := (mkF m 1 #[.val (.int p0), .val (.int p1), .val (.int p2), .unset, .unset, .unset, .unset, .unset, .unset, .unset, .unset, .unset, .unset] [(.int p0)])) rfl (hb hby at_1) _ ?_
    show Steps p.tables e below (s₁.setTop (mkF m 3 #[.val (.int p0), .val (.int p1), .val (.int p2), .unset, .unset, .unset, .unset, .unset, .unset, .unset, .unset, .unset, .unset] [(.int (2147483647 : Int32)), (.int p0)])) t
    refine XS.iand X0.here hx rfl (hb hby at_3) rfl ?_
    show Steps p.tables e below (s₁.setTop (mkF m 4 #[.val (.int p0), .val (.int p1), .val (.int p2), .unset, .unset, .unset, .unset, .unset, .unset, .unset, .unset, .unset, .unset] [(.int (p0 &&& (2147483647 : Int32)))])) t
    refine X0.ldcInt hx hown (mvT hZ (hw _ (List.mem_of_getElem? (i := 1) rfl))) (g := (mkF m 4 #[.val (.int p0), .val (.int p1), .val (.int p2), .unset, .unset, .unset, .unset, .unset, .unset, .unset, .unset, .unset, .unset] [(.int (p0 &&& (2147483647 : Int32)))])) rfl (hb hby at_4) _ ?_
    show Steps p.tables e below (s₁.setTop (mkF m 6 #[.val (.int p0), .val (.int p1), .val (.int p2), .unset, .unset, .unset, .unset, .unset, .unset, .unset, .unset, .unset, .unset] [(.int (2113664 : Int32)), (.int (p0 &&& (2147483647 : Int32)))])) t
    refine iremM X0 hx rfl (hb hby at_6) rfl (by decide) ?_
    show Steps p.tables e below (s₁.setTop (mkF m 7 #[.val (.int p0), .val (.int p1), .val (.int p2), .unset, .unset, .unset, .unset, .unset, .unset, .unset, .unset, .unset, .unset] [(.int ((p0 &&& (2147483647 : Int32)) % (2113664 : Int32)))])) t
    refine XS.istoreN X0.here hx rfl (hb hby at_7) rfl (l' := #[.val (.int p0), .val (.int p1), .val (.int p2), .val (.int ((p0 &&& (2147483647 : Int32)) % (2113664 : Int32))), .unset, .unset, .unset, .unset, .unset, .unset, .unset, .unset, .unset]) rfl ?_
    exact k
  obtain ⟨cp, hcp⟩ : ∃ z, z = ((p0 &&& (2147483647 : Int32)) % (2113664 : Int32)) := ⟨_, rfl⟩
  have hcb : 0 ≤ cp.toInt ∧ cp.toInt < 2113664 := by subst hcp; exact own_cp p0
  rw [← hcp]
  show OwnGo p.tables e below _ (s₁.setTop (mkF m 8 #[.val (.int p0), .val (.int p1), .val (.int p2), .val (.int cp), .unset, .unset, .unset, .unset, .unset, .unset, .unset, .unset, .unset] []))
  refine OwnGo.of (A := s₁.setTop (mkF m 8 #[.val (.int p0), .val (.int p1), .val (.int p2), .val (.int cp), .unset, .unset, .unset, .unset, .unset, .unset, .unset, .unset, .unset] [])) (B := s₁.setTop (mkF m 17 #[.val (.int p0), .val (.int p1), .val (.int p2), .val (.int cp), .val (.int (p1 &&& (3 : Int32))), .val (.int (p2.toInt8.toInt32)), .unset, .unset, .unset, .unset, .unset, .unset, .unset] [])) (fun t k => ?_) ?_
  · show Steps p.tables e below (s₁.setTop (mkF m 8 #[.val (.int p0), .val (.int p1), .val (.int p2), .val (.int cp), .unset, .unset, .unset, .unset, .unset, .unset, .unset, .unset, .unset] [])) t
    refine XS.iloadN X0.here hx rfl (hb hby at_8) rfl ?_
    show Steps p.tables e below (s₁.setTop (mkF m 9 #[.val (.int p0), .val (.int p1), .val (.int p2), .val (.int cp), .unset, .unset, .unset, .unset, .unset, .unset, .unset, .unset, .unset] [(.int p1)])) t
    refine XS.iconst X0.here hx rfl (hb hby at_9) ?_
    show Steps p.tables e below (s₁.setTop (mkF m 10 #[.val (.int p0), .val (.int p1), .val (.int p2), .val (.int cp), .unset, .unset, .unset, .unset, .unset, .unset, .unset, .unset, .unset] [(.int (3 : Int32)), (.int p1)])) t
    refine XS.iand X0.here hx rfl (hb hby at_10) rfl ?_
    show Steps p.tables e below (s₁.setTop (mkF m 11 #[.val (.int p0), .val (.int p1), .val (.int p2), .val (.int cp), .unset, .unset, .unset, .unset, .unset, .unset, .unset, .unset, .unset] [(.int (p1 &&& (3 : Int32)))])) t
    refine XS.istore X0.here hx rfl (hb hby at_11) rfl (l' := #[.val (.int p0), .val (.int p1), .val (.int p2), .val (.int cp), .val (.int (p1 &&& (3 : Int32))), .unset, .unset, .unset, .unset, .unset, .unset, .unset, .unset]) rfl ?_
    show Steps p.tables e below (s₁.setTop (mkF m 13 #[.val (.int p0), .val (.int p1), .val (.int p2), .val (.int cp), .val (.int (p1 &&& (3 : Int32))), .unset, .unset, .unset, .unset, .unset, .unset, .unset, .unset] [])) t
    refine XS.iloadN X0.here hx rfl (hb hby at_13) rfl ?_
    show Steps p.tables e below (s₁.setTop (mkF m 14 #[.val (.int p0), .val (.int p1), .val (.int p2), .val (.int cp), .val (.int (p1 &&& (3 : Int32))), .unset, .unset, .unset, .unset, .unset, .unset, .unset, .unset] [(.int p2)])) t
    refine XS.i2b X0.here hx rfl (hb hby at_14) rfl ?_
    show Steps p.tables e below (s₁.setTop (mkF m 15 #[.val (.int p0), .val (.int p1), .val (.int p2), .val (.int cp), .val (.int (p1 &&& (3 : Int32))), .unset, .unset, .unset, .unset, .unset, .unset, .unset, .unset] [(.int (p2.toInt8.toInt32))])) t
    refine XS.istore X0.here hx rfl (hb hby at_15) rfl (l' := #[.val (.int p0), .val (.int p1), .val (.int p2), .val (.int cp), .val (.int (p1 &&& (3 : Int32))), .val (.int (p2.toInt8.toInt32)), .unset, .unset, .unset, .unset, .unset, .unset, .unset]) rfl ?_
    exact k
  obtain ⟨s1, hs1⟩ : ∃ z, z = (p2.toInt8.toInt32) := ⟨_, rfl⟩
  have hs : s1.toInt8.toInt32 = s1 := by subst hs1; exact own_idem p2
  rw [← hs1]
  show OwnGo p.tables e below _ (s₁.setTop (mkF m 17 #[.val (.int p0), .val (.int p1), .val (.int p2), .val (.int cp), .val (.int (p1 &&& (3 : Int32))), .val (.int s1), .unset, .unset, .unset, .unset, .unset, .unset, .unset] []))
  refine OwnGo.of (A := s₁.setTop (mkF m 17 #[.val (.int p0), .val (.int p1), .val (.int p2), .val (.int cp), .val (.int (p1 &&& (3 : Int32))), .val (.int s1), .unset, .unset, .unset, .unset, .unset, .unset, .unset] [])) (B := s₁.setTop (mkF m 19 #[.val (.int p0), .val (.int p1), .val (.int p2), .val (.int cp), .val (.int (p1 &&& (3 : Int32))), .val (.int s1), .unset, .unset, .unset, .unset, .unset, .unset, .unset] [(.int (8 : Int32))])) (fun t k => ?_) ?_
  · show Steps p.tables e below (s₁.setTop (mkF m 17 #[.val (.int p0), .val (.int p1), .val (.int p2), .val (.int cp), .val (.int (p1 &&& (3 : Int32))), .val (.int s1), .unset, .unset, .unset, .unset, .unset, .unset, .unset] [])) t
    refine XS.bipush X0.here hx rfl (hb hby at_17) ?_
    exact k
  obtain ⟨T18, h18, k18, X18, e18, E18, A18, st18⟩ := newP X0 hx hZ (hw _ (List.mem_of_getElem? (i := 2) rfl)) e0 (g := (mkF m 19 #[.val (.int p0), .val (.int p1), .val (.int p2), .val (.int cp), .val (.int (p1 &&& (3 : Int32))), .val (.int s1), .unset, .unset, .unset, .unset, .unset, .unset, .unset] [(.int (8 : Int32))])) rfl (hb hby at_19) rfl (by decide) (cap := 8) (by decide) (by decide) (by decide) (by decide)
  obtain ⟨b18, g18⟩ : ∃ z, z = h0.size := ⟨_, rfl⟩
  rw [← g18] at A18 st18
  refine OwnGo.of st18 ?_
  have ne_wF_b18 : wF ≠ b18 := Nat.ne_of_lt (Nat.lt_of_lt_of_le V_F.lt (Nat.le_of_eq g18.symm))
  have g_b18 : n0 ≤ b18 := Nat.le_trans Z0 (Nat.le_of_eq g18.symm)
  have f19 : n0 ≤ h18.size := Nat.le_trans Z0 E18.1
  have f20 : Sta Z h18 "com/example/sevenfold/sevenfold/Natural" "FIRST_OF_LENGTH" "[J" (.ref wF) := S_FIRST_OF_LENGTH.ext E18
  have f21 : Arv Z h18 wF kf .long (10 : Int32) [(.long (0 : Int64)), (.long (0 : Int64)), (.long (128 : Int64)), (.long (16512 : Int64)), (.long (2113664 : Int64)), (.long (270549120 : Int64)), (.long (34630287488 : Int64)), (.long (4432676798592 : Int64)), (.long (567382630219904 : Int64)), (.long (72624976668147840 : Int64))] (.long (0 : Int64)) := V_F.ext E18
  have f22 : Arv Z h18 b18 k18 .byte (8 : Int32) [(.int (0 : Int32)), (.int (0 : Int32)), (.int (0 : Int32)), (.int (0 : Int32)), (.int (0 : Int32)), (.int (0 : Int32)), (.int (0 : Int32)), (.int (0 : Int32))] (.int (0 : Int32)) := (Arv.new A18 (by decide)).pad (pad_rep [] (.int (0 : Int32)) 8)
  show OwnGo p.tables e below _ (T18.setTop (mkF m 21 #[.val (.int p0), .val (.int p1), .val (.int p2), .val (.int cp), .val (.int (p1 &&& (3 : Int32))), .val (.int s1), .unset, .unset, .unset, .unset, .unset, .unset, .unset] [(.ref b18)]))
  refine OwnGo.of (A := T18.setTop (mkF m 21 #[.val (.int p0), .val (.int p1), .val (.int p2), .val (.int cp), .val (.int (p1 &&& (3 : Int32))), .val (.int s1), .unset, .unset, .unset, .unset, .unset, .unset, .unset] [(.ref b18)])) (B := T18.setTop (mkF m 28 #[.val (.int p0), .val (.int p1), .val (.int p2), .val (.int cp), .val (.int (p1 &&& (3 : Int32))), .val (.int s1), .val (.ref b18), .unset, .unset, .unset, .unset, .unset, .unset] [(.int s1), (.int (0 : Int32)), (.ref b18)])) (fun t k => ?_) ?_
  · show Steps p.tables e below (T18.setTop (mkF m 21 #[.val (.int p0), .val (.int p1), .val (.int p2), .val (.int cp), .val (.int (p1 &&& (3 : Int32))), .val (.int s1), .unset, .unset, .unset, .unset, .unset, .unset, .unset] [(.ref b18)])) t
    refine XS.astore X18.here hx rfl (hb hby at_21) rfl rfl (l' := #[.val (.int p0), .val (.int p1), .val (.int p2), .val (.int cp), .val (.int (p1 &&& (3 : Int32))), .val (.int s1), .val (.ref b18), .unset, .unset, .unset, .unset, .unset, .unset]) rfl ?_
    show Steps p.tables e below (T18.setTop (mkF m 23 #[.val (.int p0), .val (.int p1), .val (.int p2), .val (.int cp), .val (.int (p1 &&& (3 : Int32))), .val (.int s1), .val (.ref b18), .unset, .unset, .unset, .unset, .unset, .unset] [])) t
    refine XS.aload X18.here hx rfl (hb hby at_23) rfl rfl ?_
    show Steps p.tables e below (T18.setTop (mkF m 25 #[.val (.int p0), .val (.int p1), .val (.int p2), .val (.int cp), .val (.int (p1 &&& (3 : Int32))), .val (.int s1), .val (.ref b18), .unset, .unset, .unset, .unset, .unset, .unset] [(.ref b18)])) t
    refine XS.iconst X18.here hx rfl (hb hby at_25) ?_
    show Steps p.tables e below (T18.setTop (mkF m 26 #[.val (.int p0), .val (.int p1), .val (.int p2), .val (.int cp), .val (.int (p1 &&& (3 : Int32))), .val (.int s1), .val (.ref b18), .unset, .unset, .unset, .unset, .unset, .unset] [(.int (0 : Int32)), (.ref b18)])) t
    refine XS.iload X18.here hx rfl (hb hby at_26) rfl ?_
    exact k
  have cq23 := f22
  obtain ⟨clq23, Arq23, qq23, Sq23, Nq23, Hq23, Gq23⟩ := cq23
  obtain ⟨T24, h24, X24, e24, W24, st24⟩ := stB X18 hx hZ e18 Arq23 (j := (0 : Int32)) (inb_of Sq23 ⟨by decide, by decide⟩) (g := (mkF m 28 #[.val (.int p0), .val (.int p1), .val (.int p2), .val (.int cp), .val (.int (p1 &&& (3 : Int32))), .val (.int s1), .val (.ref b18), .unset, .unset, .unset, .unset, .unset, .unset] [(.int s1), (.int (0 : Int32)), (.ref b18)])) rfl rfl (hb hby at_28)
  refine OwnGo.of st24 ?_
  have N24 := Fr.snoc X24 N0 g_b18
  have f25 : n0 ≤ h24.size := Nat.le_trans f19 (Keep.of_wr W24).1
  have f26 : Sta Z h24 "com/example/sevenfold/sevenfold/Natural" "FIRST_OF_LENGTH" "[J" (.ref wF) := f20.wr W24
  have f27 : Arv Z h24 wF kf .long (10 : Int32) [(.long (0 : Int64)), (.long (0 : Int64)), (.long (128 : Int64)), (.long (16512 : Int64)), (.long (2113664 : Int64)), (.long (270549120 : Int64)), (.long (34630287488 : Int64)), (.long (4432676798592 : Int64)), (.long (567382630219904 : Int64)), (.long (72624976668147840 : Int64))] (.long (0 : Int64)) := f21.other W24 ne_wF_b18
  have f28 : Arv Z h24 b18 k18 .byte (8 : Int32) [(.int (s1).toInt8.toInt32), (.int (0 : Int32)), (.int (0 : Int32)), (.int (0 : Int32)), (.int (0 : Int32)), (.int (0 : Int32)), (.int (0 : Int32)), (.int (0 : Int32))] (.int (0 : Int32)) := Arv.set Arq23 qq23 Sq23 Nq23 Hq23 Gq23 (fits_nar_byte _) W24 0 rfl (Nat.le_of_ble_eq_true rfl)
  show OwnGo p.tables e below _ (T24.setTop (mkF m 29 #[.val (.int p0), .val (.int p1), .val (.int p2), .val (.int cp), .val (.int (p1 &&& (3 : Int32))), .val (.int s1), .val (.ref b18), .unset, .unset, .unset, .unset, .unset, .unset] []))
  refine OwnGo.of (A := T24.setTop (mkF m 29 #[.val (.int p0), .val (.int p1), .val (.int p2), .val (.int cp), .val (.int (p1 &&& (3 : Int32))), .val (.int s1), .val (.ref b18), .unset, .unset, .unset, .unset, .unset, .unset] [])) (B := T24.setTop (mkF m 34 #[.val (.int p0), .val (.int p1), .val (.int p2), .val (.int cp), .val (.int (p1 &&& (3 : Int32))), .val (.int s1), .val (.ref b18), .unset, .unset, .unset, .unset, .unset, .unset] [(.int s1), (.int (1 : Int32)), (.ref b18)])) (fun t k => ?_) ?_
  · show Steps p.tables e below (T24.setTop (mkF m 29 #[.val (.int p0), .val (.int p1), .val (.int p2), .val (.int cp), .val (.int (p1 &&& (3 : Int32))), .val (.int s1), .val (.ref b18), .unset, .unset, .unset, .unset, .unset, .unset] [])) t
    refine XS.aload X24.here hx rfl (hb hby at_29) rfl rfl ?_
    show Steps p.tables e below (T24.setTop (mkF m 31 #[.val (.int p0), .val (.int p1), .val (.int p2), .val (.int cp), .val (.int (p1 &&& (3 : Int32))), .val (.int s1), .val (.ref b18), .unset, .unset, .unset, .unset, .unset, .unset] [(.ref b18)])) t
    refine XS.iconst X24.here hx rfl (hb hby at_31) ?_
    show Steps p.tables e below (T24.setTop (mkF m 32 #[.val (.int p0), .val (.int p1), .val (.int p2), .val (.int cp), .val (.int (p1 &&& (3 : Int32))), .val (.int s1), .val (.ref b18), .unset, .unset, .unset, .unset, .unset, .unset] [(.int (1 : Int32)), (.ref b18)])) t
    refine XS.iload X24.here hx rfl (hb hby at_32) rfl ?_
    exact k
  have cq29 := f28
  obtain ⟨clq29, Arq29, qq29, Sq29, Nq29, Hq29, Gq29⟩ := cq29
  obtain ⟨T30, h30, X30, e30, W30, st30⟩ := stB X24 hx hZ e24 Arq29 (j := (1 : Int32)) (inb_of Sq29 ⟨by decide, by decide⟩) (g := (mkF m 34 #[.val (.int p0), .val (.int p1), .val (.int p2), .val (.int cp), .val (.int (p1 &&& (3 : Int32))), .val (.int s1), .val (.ref b18), .unset, .unset, .unset, .unset, .unset, .unset] [(.int s1), (.int (1 : Int32)), (.ref b18)])) rfl rfl (hb hby at_34)
  refine OwnGo.of st30 ?_
  have N30 := Fr.snoc X30 N24 g_b18
  have f31 : n0 ≤ h30.size := Nat.le_trans f25 (Keep.of_wr W30).1
  have f32 : Sta Z h30 "com/example/sevenfold/sevenfold/Natural" "FIRST_OF_LENGTH" "[J" (.ref wF) := f26.wr W30
  have f33 : Arv Z h30 wF kf .long (10 : Int32) [(.long (0 : Int64)), (.long (0 : Int64)), (.long (128 : Int64)), (.long (16512 : Int64)), (.long (2113664 : Int64)), (.long (270549120 : Int64)), (.long (34630287488 : Int64)), (.long (4432676798592 : Int64)), (.long (567382630219904 : Int64)), (.long (72624976668147840 : Int64))] (.long (0 : Int64)) := f27.other W30 ne_wF_b18
  have f34 : Arv Z h30 b18 k18 .byte (8 : Int32) [(.int (s1).toInt8.toInt32), (.int (s1).toInt8.toInt32), (.int (0 : Int32)), (.int (0 : Int32)), (.int (0 : Int32)), (.int (0 : Int32)), (.int (0 : Int32)), (.int (0 : Int32))] (.int (0 : Int32)) := Arv.set Arq29 qq29 Sq29 Nq29 Hq29 Gq29 (fits_nar_byte _) W30 1 rfl (Nat.le_of_ble_eq_true rfl)
  show OwnGo p.tables e below _ (T30.setTop (mkF m 35 #[.val (.int p0), .val (.int p1), .val (.int p2), .val (.int cp), .val (.int (p1 &&& (3 : Int32))), .val (.int s1), .val (.ref b18), .unset, .unset, .unset, .unset, .unset, .unset] []))
  refine OwnGo.of (A := T30.setTop (mkF m 35 #[.val (.int p0), .val (.int p1), .val (.int p2), .val (.int cp), .val (.int (p1 &&& (3 : Int32))), .val (.int s1), .val (.ref b18), .unset, .unset, .unset, .unset, .unset, .unset] [])) (B := T30.setTop (mkF m 40 #[.val (.int p0), .val (.int p1), .val (.int p2), .val (.int cp), .val (.int (p1 &&& (3 : Int32))), .val (.int s1), .val (.ref b18), .unset, .unset, .unset, .unset, .unset, .unset] [(.int s1), (.int (2 : Int32)), (.ref b18)])) (fun t k => ?_) ?_
  · show Steps p.tables e below (T30.setTop (mkF m 35 #[.val (.int p0), .val (.int p1), .val (.int p2), .val (.int cp), .val (.int (p1 &&& (3 : Int32))), .val (.int s1), .val (.ref b18), .unset, .unset, .unset, .unset, .unset, .unset] [])) t
    refine XS.aload X30.here hx rfl (hb hby at_35) rfl rfl ?_
    show Steps p.tables e below (T30.setTop (mkF m 37 #[.val (.int p0), .val (.int p1), .val (.int p2), .val (.int cp), .val (.int (p1 &&& (3 : Int32))), .val (.int s1), .val (.ref b18), .unset, .unset, .unset, .unset, .unset, .unset] [(.ref b18)])) t
    refine XS.iconst X30.here hx rfl (hb hby at_37) ?_
    show Steps p.tables e below (T30.setTop (mkF m 38 #[.val (.int p0), .val (.int p1), .val (.int p2), .val (.int cp), .val (.int (p1 &&& (3 : Int32))), .val (.int s1), .val (.ref b18), .unset, .unset, .unset, .unset, .unset, .unset] [(.int (2 : Int32)), (.ref b18)])) t
    refine XS.iload X30.here hx rfl (hb hby at_38) rfl ?_
    exact k
  have cq35 := f34
  obtain ⟨clq35, Arq35, qq35, Sq35, Nq35, Hq35, Gq35⟩ := cq35
  obtain ⟨T36, h36, X36, e36, W36, st36⟩ := stB X30 hx hZ e30 Arq35 (j := (2 : Int32)) (inb_of Sq35 ⟨by decide, by decide⟩) (g := (mkF m 40 #[.val (.int p0), .val (.int p1), .val (.int p2), .val (.int cp), .val (.int (p1 &&& (3 : Int32))), .val (.int s1), .val (.ref b18), .unset, .unset, .unset, .unset, .unset, .unset] [(.int s1), (.int (2 : Int32)), (.ref b18)])) rfl rfl (hb hby at_40)
  refine OwnGo.of st36 ?_
  have N36 := Fr.snoc X36 N30 g_b18
  have f37 : n0 ≤ h36.size := Nat.le_trans f31 (Keep.of_wr W36).1
  have f38 : Sta Z h36 "com/example/sevenfold/sevenfold/Natural" "FIRST_OF_LENGTH" "[J" (.ref wF) := f32.wr W36
  have f39 : Arv Z h36 wF kf .long (10 : Int32) [(.long (0 : Int64)), (.long (0 : Int64)), (.long (128 : Int64)), (.long (16512 : Int64)), (.long (2113664 : Int64)), (.long (270549120 : Int64)), (.long (34630287488 : Int64)), (.long (4432676798592 : Int64)), (.long (567382630219904 : Int64)), (.long (72624976668147840 : Int64))] (.long (0 : Int64)) := f33.other W36 ne_wF_b18
  have f40 : Arv Z h36 b18 k18 .byte (8 : Int32) [(.int (s1).toInt8.toInt32), (.int (s1).toInt8.toInt32), (.int (s1).toInt8.toInt32), (.int (0 : Int32)), (.int (0 : Int32)), (.int (0 : Int32)), (.int (0 : Int32)), (.int (0 : Int32))] (.int (0 : Int32)) := Arv.set Arq35 qq35 Sq35 Nq35 Hq35 Gq35 (fits_nar_byte _) W36 2 rfl (Nat.le_of_ble_eq_true rfl)
  show OwnGo p.tables e below _ (T36.setTop (mkF m 41 #[.val (.int p0), .val (.int p1), .val (.int p2), .val (.int cp), .val (.int (p1 &&& (3 : Int32))), .val (.int s1), .val (.ref b18), .unset, .unset, .unset, .unset, .unset, .unset] []))
  refine OwnGo.of (A := T36.setTop (mkF m 41 #[.val (.int p0), .val (.int p1), .val (.int p2), .val (.int cp), .val (.int (p1 &&& (3 : Int32))), .val (.int s1), .val (.ref b18), .unset, .unset, .unset, .unset, .unset, .unset] [])) (B := T36.setTop (mkF m 46 #[.val (.int p0), .val (.int p1), .val (.int p2), .val (.int cp), .val (.int (p1 &&& (3 : Int32))), .val (.int s1), .val (.ref b18), .unset, .unset, .unset, .unset, .unset, .unset] [(.int s1), (.int (3 : Int32)), (.ref b18)])) (fun t k => ?_) ?_
  · show Steps p.tables e below (T36.setTop (mkF m 41 #[.val (.int p0), .val (.int p1), .val (.int p2), .val (.int cp), .val (.int (p1 &&& (3 : Int32))), .val (.int s1), .val (.ref b18), .unset, .unset, .unset, .unset, .unset, .unset] [])) t
    refine XS.aload X36.here hx rfl (hb hby at_41) rfl rfl ?_
    show Steps p.tables e below (T36.setTop (mkF m 43 #[.val (.int p0), .val (.int p1), .val (.int p2), .val (.int cp), .val (.int (p1 &&& (3 : Int32))), .val (.int s1), .val (.ref b18), .unset, .unset, .unset, .unset, .unset, .unset] [(.ref b18)])) t
    refine XS.iconst X36.here hx rfl (hb hby at_43) ?_
    show Steps p.tables e below (T36.setTop (mkF m 44 #[.val (.int p0), .val (.int p1), .val (.int p2), .val (.int cp), .val (.int (p1 &&& (3 : Int32))), .val (.int s1), .val (.ref b18), .unset, .unset, .unset, .unset, .unset, .unset] [(.int (3 : Int32)), (.ref b18)])) t
    refine XS.iload X36.here hx rfl (hb hby at_44) rfl ?_
    exact k
  have cq41 := f40
  obtain ⟨clq41, Arq41, qq41, Sq41, Nq41, Hq41, Gq41⟩ := cq41
  obtain ⟨T42, h42, X42, e42, W42, st42⟩ := stB X36 hx hZ e36 Arq41 (j := (3 : Int32)) (inb_of Sq41 ⟨by decide, by decide⟩) (g := (mkF m 46 #[.val (.int p0), .val (.int p1), .val (.int p2), .val (.int cp), .val (.int (p1 &&& (3 : Int32))), .val (.int s1), .val (.ref b18), .unset, .unset, .unset, .unset, .unset, .unset] [(.int s1), (.int (3 : Int32)), (.ref b18)])) rfl rfl (hb hby at_46)
  refine OwnGo.of st42 ?_
  have N42 := Fr.snoc X42 N36 g_b18
  have f43 : n0 ≤ h42.size := Nat.le_trans f37 (Keep.of_wr W42).1
  have f44 : Sta Z h42 "com/example/sevenfold/sevenfold/Natural" "FIRST_OF_LENGTH" "[J" (.ref wF) := f38.wr W42
  have f45 : Arv Z h42 wF kf .long (10 : Int32) [(.long (0 : Int64)), (.long (0 : Int64)), (.long (128 : Int64)), (.long (16512 : Int64)), (.long (2113664 : Int64)), (.long (270549120 : Int64)), (.long (34630287488 : Int64)), (.long (4432676798592 : Int64)), (.long (567382630219904 : Int64)), (.long (72624976668147840 : Int64))] (.long (0 : Int64)) := f39.other W42 ne_wF_b18
  have f46 : Arv Z h42 b18 k18 .byte (8 : Int32) [(.int (s1).toInt8.toInt32), (.int (s1).toInt8.toInt32), (.int (s1).toInt8.toInt32), (.int (s1).toInt8.toInt32), (.int (0 : Int32)), (.int (0 : Int32)), (.int (0 : Int32)), (.int (0 : Int32))] (.int (0 : Int32)) := Arv.set Arq41 qq41 Sq41 Nq41 Hq41 Gq41 (fits_nar_byte _) W42 3 rfl (Nat.le_of_ble_eq_true rfl)
  show OwnGo p.tables e below _ (T42.setTop (mkF m 47 #[.val (.int p0), .val (.int p1), .val (.int p2), .val (.int cp), .val (.int (p1 &&& (3 : Int32))), .val (.int s1), .val (.ref b18), .unset, .unset, .unset, .unset, .unset, .unset] []))
  refine OwnGo.of (A := T42.setTop (mkF m 47 #[.val (.int p0), .val (.int p1), .val (.int p2), .val (.int cp), .val (.int (p1 &&& (3 : Int32))), .val (.int s1), .val (.ref b18), .unset, .unset, .unset, .unset, .unset, .unset] [])) (B := T42.setTop (mkF m 52 #[.val (.int p0), .val (.int p1), .val (.int p2), .val (.int cp), .val (.int (p1 &&& (3 : Int32))), .val (.int s1), .val (.ref b18), .unset, .unset, .unset, .unset, .unset, .unset] [(.int s1), (.int (4 : Int32)), (.ref b18)])) (fun t k => ?_) ?_
  · show Steps p.tables e below (T42.setTop (mkF m 47 #[.val (.int p0), .val (.int p1), .val (.int p2), .val (.int cp), .val (.int (p1 &&& (3 : Int32))), .val (.int s1), .val (.ref b18), .unset, .unset, .unset, .unset, .unset, .unset] [])) t
    refine XS.aload X42.here hx rfl (hb hby at_47) rfl rfl ?_
    show Steps p.tables e below (T42.setTop (mkF m 49 #[.val (.int p0), .val (.int p1), .val (.int p2), .val (.int cp), .val (.int (p1 &&& (3 : Int32))), .val (.int s1), .val (.ref b18), .unset, .unset, .unset, .unset, .unset, .unset] [(.ref b18)])) t
    refine XS.iconst X42.here hx rfl (hb hby at_49) ?_
    show Steps p.tables e below (T42.setTop (mkF m 50 #[.val (.int p0), .val (.int p1), .val (.int p2), .val (.int cp), .val (.int (p1 &&& (3 : Int32))), .val (.int s1), .val (.ref b18), .unset, .unset, .unset, .unset, .unset, .unset] [(.int (4 : Int32)), (.ref b18)])) t
    refine XS.iload X42.here hx rfl (hb hby at_50) rfl ?_
    exact k
  have cq47 := f46
  obtain ⟨clq47, Arq47, qq47, Sq47, Nq47, Hq47, Gq47⟩ := cq47
  obtain ⟨T48, h48, X48, e48, W48, st48⟩ := stB X42 hx hZ e42 Arq47 (j := (4 : Int32)) (inb_of Sq47 ⟨by decide, by decide⟩) (g := (mkF m 52 #[.val (.int p0), .val (.int p1), .val (.int p2), .val (.int cp), .val (.int (p1 &&& (3 : Int32))), .val (.int s1), .val (.ref b18), .unset, .unset, .unset, .unset, .unset, .unset] [(.int s1), (.int (4 : Int32)), (.ref b18)])) rfl rfl (hb hby at_52)
  refine OwnGo.of st48 ?_
  have N48 := Fr.snoc X48 N42 g_b18
  have f49 : n0 ≤ h48.size := Nat.le_trans f43 (Keep.of_wr W48).1
  have f50 : Sta Z h48 "com/example/sevenfold/sevenfold/Natural" "FIRST_OF_LENGTH" "[J" (.ref wF) := f44.wr W48
  have f51 : Arv Z h48 wF kf .long (10 : Int32) [(.long (0 : Int64)), (.long (0 : Int64)), (.long (128 : Int64)), (.long (16512 : Int64)), (.long (2113664 : Int64)), (.long (270549120 : Int64)), (.long (34630287488 : Int64)), (.long (4432676798592 : Int64)), (.long (567382630219904 : Int64)), (.long (72624976668147840 : Int64))] (.long (0 : Int64)) := f45.other W48 ne_wF_b18
  have f52 : Arv Z h48 b18 k18 .byte (8 : Int32) [(.int (s1).toInt8.toInt32), (.int (s1).toInt8.toInt32), (.int (s1).toInt8.toInt32), (.int (s1).toInt8.toInt32), (.int (s1).toInt8.toInt32), (.int (0 : Int32)), (.int (0 : Int32)), (.int (0 : Int32))] (.int (0 : Int32)) := Arv.set Arq47 qq47 Sq47 Nq47 Hq47 Gq47 (fits_nar_byte _) W48 4 rfl (Nat.le_of_ble_eq_true rfl)
  show OwnGo p.tables e below _ (T48.setTop (mkF m 53 #[.val (.int p0), .val (.int p1), .val (.int p2), .val (.int cp), .val (.int (p1 &&& (3 : Int32))), .val (.int s1), .val (.ref b18), .unset, .unset, .unset, .unset, .unset, .unset] []))
  refine OwnGo.of (A := T48.setTop (mkF m 53 #[.val (.int p0), .val (.int p1), .val (.int p2), .val (.int cp), .val (.int (p1 &&& (3 : Int32))), .val (.int s1), .val (.ref b18), .unset, .unset, .unset, .unset, .unset, .unset] [])) (B := T48.setTop (mkF m 58 #[.val (.int p0), .val (.int p1), .val (.int p2), .val (.int cp), .val (.int (p1 &&& (3 : Int32))), .val (.int s1), .val (.ref b18), .unset, .unset, .unset, .unset, .unset, .unset] [(.int s1), (.int (5 : Int32)), (.ref b18)])) (fun t k => ?_) ?_
  · show Steps p.tables e below (T48.setTop (mkF m 53 #[.val (.int p0), .val (.int p1), .val (.int p2), .val (.int cp), .val (.int (p1 &&& (3 : Int32))), .val (.int s1), .val (.ref b18), .unset, .unset, .unset, .unset, .unset, .unset] [])) t
    refine XS.aload X48.here hx rfl (hb hby at_53) rfl rfl ?_
    show Steps p.tables e below (T48.setTop (mkF m 55 #[.val (.int p0), .val (.int p1), .val (.int p2), .val (.int cp), .val (.int (p1 &&& (3 : Int32))), .val (.int s1), .val (.ref b18), .unset, .unset, .unset, .unset, .unset, .unset] [(.ref b18)])) t
    refine XS.iconst X48.here hx rfl (hb hby at_55) ?_
    show Steps p.tables e below (T48.setTop (mkF m 56 #[.val (.int p0), .val (.int p1), .val (.int p2), .val (.int cp), .val (.int (p1 &&& (3 : Int32))), .val (.int s1), .val (.ref b18), .unset, .unset, .unset, .unset, .unset, .unset] [(.int (5 : Int32)), (.ref b18)])) t
    refine XS.iload X48.here hx rfl (hb hby at_56) rfl ?_
    exact k
  have cq53 := f52
  obtain ⟨clq53, Arq53, qq53, Sq53, Nq53, Hq53, Gq53⟩ := cq53
  obtain ⟨T54, h54, X54, e54, W54, st54⟩ := stB X48 hx hZ e48 Arq53 (j := (5 : Int32)) (inb_of Sq53 ⟨by decide, by decide⟩) (g := (mkF m 58 #[.val (.int p0), .val (.int p1), .val (.int p2), .val (.int cp), .val (.int (p1 &&& (3 : Int32))), .val (.int s1), .val (.ref b18), .unset, .unset, .unset, .unset, .unset, .unset] [(.int s1), (.int (5 : Int32)), (.ref b18)])) rfl rfl (hb hby at_58)
  refine OwnGo.of st54 ?_
  have N54 := Fr.snoc X54 N48 g_b18
  have f55 : n0 ≤ h54.size := Nat.le_trans f49 (Keep.of_wr W54).1
  have f56 : Sta Z h54 "com/example/sevenfold/sevenfold/Natural" "FIRST_OF_LENGTH" "[J" (.ref wF) := f50.wr W54
  have f57 : Arv Z h54 wF kf .long (10 : Int32) [(.long (0 : Int64)), (.long (0 : Int64)), (.long (128 : Int64)), (.long (16512 : Int64)), (.long (2113664 : Int64)), (.long (270549120 : Int64)), (.long (34630287488 : Int64)), (.long (4432676798592 : Int64)), (.long (567382630219904 : Int64)), (.long (72624976668147840 : Int64))] (.long (0 : Int64)) := f51.other W54 ne_wF_b18
  have f58 : Arv Z h54 b18 k18 .byte (8 : Int32) [(.int (s1).toInt8.toInt32), (.int (s1).toInt8.toInt32), (.int (s1).toInt8.toInt32), (.int (s1).toInt8.toInt32), (.int (s1).toInt8.toInt32), (.int (s1).toInt8.toInt32), (.int (0 : Int32)), (.int (0 : Int32))] (.int (0 : Int32)) := Arv.set Arq53 qq53 Sq53 Nq53 Hq53 Gq53 (fits_nar_byte _) W54 5 rfl (Nat.le_of_ble_eq_true rfl)
  show OwnGo p.tables e below _ (T54.setTop (mkF m 59 #[.val (.int p0), .val (.int p1), .val (.int p2), .val (.int cp), .val (.int (p1 &&& (3 : Int32))), .val (.int s1), .val (.ref b18), .unset, .unset, .unset, .unset, .unset, .unset] []))
  refine OwnGo.of (A := T54.setTop (mkF m 59 #[.val (.int p0), .val (.int p1), .val (.int p2), .val (.int cp), .val (.int (p1 &&& (3 : Int32))), .val (.int s1), .val (.ref b18), .unset, .unset, .unset, .unset, .unset, .unset] [])) (B := T54.setTop (mkF m 65 #[.val (.int p0), .val (.int p1), .val (.int p2), .val (.int cp), .val (.int (p1 &&& (3 : Int32))), .val (.int s1), .val (.ref b18), .unset, .unset, .unset, .unset, .unset, .unset] [(.int s1), (.int (6 : Int32)), (.ref b18)])) (fun t k => ?_) ?_
  · show Steps p.tables e below (T54.setTop (mkF m 59 #[.val (.int p0), .val (.int p1), .val (.int p2), .val (.int cp), .val (.int (p1 &&& (3 : Int32))), .val (.int s1), .val (.ref b18), .unset, .unset, .unset, .unset, .unset, .unset] [])) t
    refine XS.aload X54.here hx rfl (hb hby at_59) rfl rfl ?_
    show Steps p.tables e below (T54.setTop (mkF m 61 #[.val (.int p0), .val (.int p1), .val (.int p2), .val (.int cp), .val (.int (p1 &&& (3 : Int32))), .val (.int s1), .val (.ref b18), .unset, .unset, .unset, .unset, .unset, .unset] [(.ref b18)])) t
    refine XS.bipush X54.here hx rfl (hb hby at_61) ?_
    show Steps p.tables e below (T54.setTop (mkF m 63 #[.val (.int p0), .val (.int p1), .val (.int p2), .val (.int cp), .val (.int (p1 &&& (3 : Int32))), .val (.int s1), .val (.ref b18), .unset, .unset, .unset, .unset, .unset, .unset] [(.int (6 : Int32)), (.ref b18)])) t
    refine XS.iload X54.here hx rfl (hb hby at_63) rfl ?_
    exact k
  have cq59 := f58
  obtain ⟨clq59, Arq59, qq59, Sq59, Nq59, Hq59, Gq59⟩ := cq59
  obtain ⟨T60, h60, X60, e60, W60, st60⟩ := stB X54 hx hZ e54 Arq59 (j := (6 : Int32)) (inb_of Sq59 ⟨by decide, by decide⟩) (g := (mkF m 65 #[.val (.int p0), .val (.int p1), .val (.int p2), .val (.int cp), .val (.int (p1 &&& (3 : Int32))), .val (.int s1), .val (.ref b18), .unset, .unset, .unset, .unset, .unset, .unset] [(.int s1), (.int (6 : Int32)), (.ref b18)])) rfl rfl (hb hby at_65)
  refine OwnGo.of st60 ?_
  have N60 := Fr.snoc X60 N54 g_b18
  have f61 : n0 ≤ h60.size := Nat.le_trans f55 (Keep.of_wr W60).1
  have f62 : Sta Z h60 "com/example/sevenfold/sevenfold/Natural" "FIRST_OF_LENGTH" "[J" (.ref wF) := f56.wr W60
  have f63 : Arv Z h60 wF kf .long (10 : Int32) [(.long (0 : Int64)), (.long (0 : Int64)), (.long (128 : Int64)), (.long (16512 : Int64)), (.long (2113664 : Int64)), (.long (270549120 : Int64)), (.long (34630287488 : Int64)), (.long (4432676798592 : Int64)), (.long (567382630219904 : Int64)), (.long (72624976668147840 : Int64))] (.long (0 : Int64)) := f57.other W60 ne_wF_b18
  have f64 : Arv Z h60 b18 k18 .byte (8 : Int32) [(.int (s1).toInt8.toInt32), (.int (s1).toInt8.toInt32), (.int (s1).toInt8.toInt32), (.int (s1).toInt8.toInt32), (.int (s1).toInt8.toInt32), (.int (s1).toInt8.toInt32), (.int (s1).toInt8.toInt32), (.int (0 : Int32))] (.int (0 : Int32)) := Arv.set Arq59 qq59 Sq59 Nq59 Hq59 Gq59 (fits_nar_byte _) W60 6 rfl (Nat.le_of_ble_eq_true rfl)
  show OwnGo p.tables e below _ (T60.setTop (mkF m 66 #[.val (.int p0), .val (.int p1), .val (.int p2), .val (.int cp), .val (.int (p1 &&& (3 : Int32))), .val (.int s1), .val (.ref b18), .unset, .unset, .unset, .unset, .unset, .unset] []))
  refine OwnGo.of (A := T60.setTop (mkF m 66 #[.val (.int p0), .val (.int p1), .val (.int p2), .val (.int cp), .val (.int (p1 &&& (3 : Int32))), .val (.int s1), .val (.ref b18), .unset, .unset, .unset, .unset, .unset, .unset] [])) (B := T60.setTop (mkF m 72 #[.val (.int p0), .val (.int p1), .val (.int p2), .val (.int cp), .val (.int (p1 &&& (3 : Int32))), .val (.int s1), .val (.ref b18), .unset, .unset, .unset, .unset, .unset, .unset] [(.int s1), (.int (7 : Int32)), (.ref b18)])) (fun t k => ?_) ?_
  · show Steps p.tables e below (T60.setTop (mkF m 66 #[.val (.int p0), .val (.int p1), .val (.int p2), .val (.int cp), .val (.int (p1 &&& (3 : Int32))), .val (.int s1), .val (.ref b18), .unset, .unset, .unset, .unset, .unset, .unset] [])) t
    refine XS.aload X60.here hx rfl (hb hby at_66) rfl rfl ?_
    show Steps p.tables e below (T60.setTop (mkF m 68 #[.val (.int p0), .val (.int p1), .val (.int p2), .val (.int cp), .val (.int (p1 &&& (3 : Int32))), .val (.int s1), .val (.ref b18), .unset, .unset, .unset, .unset, .unset, .unset] [(.ref b18)])) t
    refine XS.bipush X60.here hx rfl (hb hby at_68) ?_
    show Steps p.tables e below (T60.setTop (mkF m 70 #[.val (.int p0), .val (.int p1), .val (.int p2), .val (.int cp), .val (.int (p1 &&& (3 : Int32))), .val (.int s1), .val (.ref b18), .unset, .unset, .unset, .unset, .unset, .unset] [(.int (7 : Int32)), (.ref b18)])) t
    refine XS.iload X60.here hx rfl (hb hby at_70) rfl ?_
    exact k
  have cq65 := f64
  obtain ⟨clq65, Arq65, qq65, Sq65, Nq65, Hq65, Gq65⟩ := cq65
  obtain ⟨T66, h66, X66, e66, W66, st66⟩ := stB X60 hx hZ e60 Arq65 (j := (7 : Int32)) (inb_of Sq65 ⟨by decide, by decide⟩) (g := (mkF m 72 #[.val (.int p0), .val (.int p1), .val (.int p2), .val (.int cp), .val (.int (p1 &&& (3 : Int32))), .val (.int s1), .val (.ref b18), .unset, .unset, .unset, .unset, .unset, .unset] [(.int s1), (.int (7 : Int32)), (.ref b18)])) rfl rfl (hb hby at_72)
  refine OwnGo.of st66 ?_
  have N66 := Fr.snoc X66 N60 g_b18
  have f67 : n0 ≤ h66.size := Nat.le_trans f61 (Keep.of_wr W66).1
  have f68 : Sta Z h66 "com/example/sevenfold/sevenfold/Natural" "FIRST_OF_LENGTH" "[J" (.ref wF) := f62.wr W66
  have f69 : Arv Z h66 wF kf .long (10 : Int32) [(.long (0 : Int64)), (.long (0 : Int64)), (.long (128 : Int64)), (.long (16512 : Int64)), (.long (2113664 : Int64)), (.long (270549120 : Int64)), (.long (34630287488 : Int64)), (.long (4432676798592 : Int64)), (.long (567382630219904 : Int64)), (.long (72624976668147840 : Int64))] (.long (0 : Int64)) := f63.other W66 ne_wF_b18
  have f70 : Arv Z h66 b18 k18 .byte (8 : Int32) [(.int (s1).toInt8.toInt32), (.int (s1).toInt8.toInt32), (.int (s1).toInt8.toInt32), (.int (s1).toInt8.toInt32), (.int (s1).toInt8.toInt32), (.int (s1).toInt8.toInt32), (.int (s1).toInt8.toInt32), (.int (s1).toInt8.toInt32)] (.int (0 : Int32)) := Arv.set Arq65 qq65 Sq65 Nq65 Hq65 Gq65 (fits_nar_byte _) W66 7 rfl (Nat.le_of_ble_eq_true rfl)
  show OwnGo p.tables e below _ (T66.setTop (mkF m 73 #[.val (.int p0), .val (.int p1), .val (.int p2), .val (.int cp), .val (.int (p1 &&& (3 : Int32))), .val (.int s1), .val (.ref b18), .unset, .unset, .unset, .unset, .unset, .unset] []))
  rcases own_at p1 with qa | qa | qa | qa
  · rw [qa]
    show OwnGo p.tables e below _ (T66.setTop (mkF m 73 #[.val (.int p0), .val (.int p1), .val (.int p2), .val (.int cp), .val (.int (0 : Int32)), .val (.int s1), .val (.ref b18), .unset, .unset, .unset, .unset, .unset, .unset] []))
    refine OwnGo.of (A := T66.setTop (mkF m 73 #[.val (.int p0), .val (.int p1), .val (.int p2), .val (.int cp), .val (.int (0 : Int32)), .val (.int s1), .val (.ref b18), .unset, .unset, .unset, .unset, .unset, .unset] [])) (B := T66.setTop (mkF m 78 #[.val (.int p0), .val (.int p1), .val (.int p2), .val (.int cp), .val (.int (0 : Int32)), .val (.int s1), .val (.ref b18), .unset, .unset, .unset, .unset, .unset, .unset] [(.int (0 : Int32)), (.ref b18), (.int cp)])) (fun t k => ?_) ?_
    · show Steps p.tables e below (T66.setTop (mkF m 73 #[.val (.int p0), .val (.int p1), .val (.int p2), .val (.int cp), .val (.int (0 : Int32)), .val (.int s1), .val (.ref b18), .unset, .unset, .unset, .unset, .unset, .unset] [])) t
      refine XS.iloadN X66.here hx rfl (hb hby at_73) rfl ?_
      show Steps p.tables e below (T66.setTop (mkF m 74 #[.val (.int p0), .val (.int p1), .val (.int p2), .val (.int cp), .val (.int (0 : Int32)), .val (.int s1), .val (.ref b18), .unset, .unset, .unset, .unset, .unset, .unset] [(.int cp)])) t
      refine XS.aload X66.here hx rfl (hb hby at_74) rfl rfl ?_
      show Steps p.tables e below (T66.setTop (mkF m 76 #[.val (.int p0), .val (.int p1), .val (.int p2), .val (.int cp), .val (.int (0 : Int32)), .val (.int s1), .val (.ref b18), .unset, .unset, .unset, .unset, .unset, .unset] [(.ref b18), (.int cp)])) t
      refine XS.iload X66.here hx rfl (hb hby at_76) rfl ?_
      exact k
    rcases own_cases cp with hA | ⟨hA, hB⟩ | ⟨hA, hB⟩
    · show OwnGo p.tables e below _ (T66.setTop (mkF m 78 #[.val (.int p0), .val (.int p1), .val (.int p2), .val (.int cp), .val (.int (0 : Int32)), .val (.int s1), .val (.ref b18), .unset, .unset, .unset, .unset, .unset, .unset] [(.int (0 : Int32)), (.ref b18), (.int cp)]))
      obtain ⟨_, _, ⟨T71, L71, k71, n71⟩, -, X71, ⟨Lc71, hQ71, l71, y71, z71⟩, st71⟩ := Jvm.LawKit.callS X66 hx (y := (⟨"com/example/sevenfold/sevenfold/Natural", "writeCodePoint", "(I[BI)I"⟩ : MethodName)) hown (mvT hZ (hw _ (List.mem_of_getElem? (i := 3) rfl))) (mvT hZ (hw _ (List.mem_of_getElem? (i := 4) rfl))) (mvT hZ (hw _ (List.mem_of_getElem? (i := 5) rfl))) (mvT hZ (hw _ (List.mem_of_getElem? (i := 6) rfl))) (by decide) (backOf (W := 0) (rm1_0A l Z aw hw [] cp b18 (s1).toInt8.toInt32 (s1).toInt8.toInt32 (s1).toInt8.toInt32 (s1).toInt8.toInt32 (s1).toInt8.toInt32 (s1).toInt8.toInt32 (s1).toInt8.toInt32 (s1).toInt8.toInt32 k18 wF kf h66 n0 f67 f68 f69 f70 g_b18 ne_wF_b18 hA) hZ (hw _ (List.mem_of_getElem? (i := 6) rfl)) (hw _ (List.mem_of_getElem? (i := 5) rfl)) (by decide) (by decide)) (g := (mkF m 78 #[.val (.int p0), .val (.int p1), .val (.int p2), .val (.int cp), .val (.int (0 : Int32)), .val (.int s1), .val (.ref b18), .unset, .unset, .unset, .unset, .unset, .unset] [(.int (0 : Int32)), (.ref b18), (.int cp)])) rfl (by rw [hml]; rfl) (argsL := [(.int cp), (.ref b18), (.int (0 : Int32))]) (rest := []) (lenOf pd_3 rfl) rfl (by show 2 * 0 + _ ≤ _; exact Nat.le_of_eq rfl) (hb hby at_78) (fun _ _ => ⟨rfl, e66, (by decide : 1 + 0 ≤ _), (by decide : 8 + 0 ≤ _)⟩)
      dsimp only [Pt.U, Pt.locs, Pt.cells, Pt.slots] at X71 l71 y71 z71 st71 hQ71
      subst l71 y71 z71
      obtain ⟨rfl, N71q, K71, y71_0⟩ := hQ71
      have f72 : n0 ≤ T71.heap.size := Nat.le_trans f67 K71.1
      have f73 : Sta Z T71.heap "com/example/sevenfold/sevenfold/Natural" "FIRST_OF_LENGTH" "[J" (.ref wF) := own_sta_keep f68 K71 (allS (own_ns_arv f70) all0)
      have f74 : Arv Z T71.heap wF kf .long (10 : Int32) [(.long (0 : Int64)), (.long (0 : Int64)), (.long (128 : Int64)), (.long (16512 : Int64)), (.long (2113664 : Int64)), (.long (270549120 : Int64)), (.long (34630287488 : Int64)), (.long (4432676798592 : Int64)), (.long (567382630219904 : Int64)), (.long (72624976668147840 : Int64))] (.long (0 : Int64)) := f69.keep K71 (ninS ne_wF_b18 nin0)
      have N71 := Fr.app N66 N71q
      refine OwnGo.of st71 ?_
      show OwnGo p.tables e below _ (T71.setTop (mkF m 81 #[.val (.int p0), .val (.int p1), .val (.int p2), .val (.int cp), .val (.int (0 : Int32)), .val (.int s1), .val (.ref b18), .unset, .unset, .unset, .unset, .unset, .unset] [(.int (1 : Int32))]))
      refine OwnGo.of (A := T71.setTop (mkF m 81 #[.val (.int p0), .val (.int p1), .val (.int p2), .val (.int cp), .val (.int (0 : Int32)), .val (.int s1), .val (.ref b18), .unset, .unset, .unset, .unset, .unset, .unset] [(.int (1 : Int32))])) (B := T71.setTop (mkF m 87 #[.val (.int p0), .val (.int p1), .val (.int p2), .val (.int cp), .val (.int (0 : Int32)), .val (.int s1), .val (.ref b18), .val (.int (1 : Int32)), .unset, .unset, .unset, .unset, .unset] [(.int (0 : Int32)), (.ref b18)])) (fun t k => ?_) ?_
      · show Steps p.tables e below (T71.setTop (mkF m 81 #[.val (.int p0), .val (.int p1), .val (.int p2), .val (.int cp), .val (.int (0 : Int32)), .val (.int s1), .val (.ref b18), .unset, .unset, .unset, .unset, .unset, .unset] [(.int (1 : Int32))])) t
        refine XS.istore X71.here hx rfl (hb hby at_81) rfl (l' := #[.val (.int p0), .val (.int p1), .val (.int p2), .val (.int cp), .val (.int (0 : Int32)), .val (.int s1), .val (.ref b18), .val (.int (1 : Int32)), .unset, .unset, .unset, .unset, .unset]) rfl ?_
        show Steps p.tables e below (T71.setTop (mkF m 83 #[.val (.int p0), .val (.int p1), .val (.int p2), .val (.int cp), .val (.int (0 : Int32)), .val (.int s1), .val (.ref b18), .val (.int (1 : Int32)), .unset, .unset, .unset, .unset, .unset] [])) t
        refine XS.aload X71.here hx rfl (hb hby at_83) rfl rfl ?_
        show Steps p.tables e below (T71.setTop (mkF m 85 #[.val (.int p0), .val (.int p1), .val (.int p2), .val (.int cp), .val (.int (0 : Int32)), .val (.int s1), .val (.ref b18), .val (.int (1 : Int32)), .unset, .unset, .unset, .unset, .unset] [(.ref b18)])) t
        refine XS.iload X71.here hx rfl (hb hby at_85) rfl ?_
        exact k
      have cq75 := y71_0
      obtain ⟨clq75, Arq75, qq75, Sq75, Nq75, Hq75, Gq75⟩ := cq75
      have hinq75 := inb_of (j := (0 : Int32)) Sq75 ⟨by decide, by decide⟩
      refine OwnGo.of (X71.baloadBytes hx (j := (0 : Int32)) (v := (.int ((cp.toInt8.toInt32)).toInt8.toInt32)) Arq75.1 (State.isArrayOf_alike hZ.alike Arq75.2.1) Arq75.2.2 hinq75 (Hq75.at hinq75 rfl) (g := (mkF m 87 #[.val (.int p0), .val (.int p1), .val (.int p2), .val (.int cp), .val (.int (0 : Int32)), .val (.int s1), .val (.ref b18), .val (.int (1 : Int32)), .unset, .unset, .unset, .unset, .unset] [(.int (0 : Int32)), (.ref b18)])) rfl rfl (hb hby at_87)) ?_
      show OwnGo p.tables e below _ (T71.setTop (mkF m 88 #[.val (.int p0), .val (.int p1), .val (.int p2), .val (.int cp), .val (.int (0 : Int32)), .val (.int s1), .val (.ref b18), .val (.int (1 : Int32)), .unset, .unset, .unset, .unset, .unset] [(.int ((cp.toInt8.toInt32)).toInt8.toInt32)]))
      refine OwnGo.of (A := T71.setTop (mkF m 88 #[.val (.int p0), .val (.int p1), .val (.int p2), .val (.int cp), .val (.int (0 : Int32)), .val (.int s1), .val (.ref b18), .val (.int (1 : Int32)), .unset, .unset, .unset, .unset, .unset] [(.int ((cp.toInt8.toInt32)).toInt8.toInt32)])) (B := T71.setTop (mkF m 94 #[.val (.int p0), .val (.int p1), .val (.int p2), .val (.int cp), .val (.int (0 : Int32)), .val (.int s1), .val (.ref b18), .val (.int (1 : Int32)), .val (.int (((cp.toInt8.toInt32)).toInt8.toInt32 &&& (255 : Int32))), .unset, .unset, .unset, .unset] [])) (fun t k => ?_) ?_
      · show Steps p.tables e below (T71.setTop (mkF m 88 #[.val (.int p0), .val (.int p1), .val (.int p2), .val (.int cp), .val (.int (0 : Int32)), .val (.int s1), .val (.ref b18), .val (.int (1 : Int32)), .unset, .unset, .unset, .unset, .unset] [(.int ((cp.toInt8.toInt32)).toInt8.toInt32)])) t
        refine XS.sipush X71.here hx rfl (hb hby at_88) ?_
        show Steps p.tables e below (T71.setTop (mkF m 91 #[.val (.int p0), .val (.int p1), .val (.int p2), .val (.int cp), .val (.int (0 : Int32)), .val (.int s1), .val (.ref b18), .val (.int (1 : Int32)), .unset, .unset, .unset, .unset, .unset] [(.int (255 : Int32)), (.int ((cp.toInt8.toInt32)).toInt8.toInt32)])) t
        refine XS.iand X71.here hx rfl (hb hby at_91) rfl ?_
        show Steps p.tables e below (T71.setTop (mkF m 92 #[.val (.int p0), .val (.int p1), .val (.int p2), .val (.int cp), .val (.int (0 : Int32)), .val (.int s1), .val (.ref b18), .val (.int (1 : Int32)), .unset, .unset, .unset, .unset, .unset] [(.int (((cp.toInt8.toInt32)).toInt8.toInt32 &&& (255 : Int32)))])) t
        refine XS.istore X71.here hx rfl (hb hby at_92) rfl (l' := #[.val (.int p0), .val (.int p1), .val (.int p2), .val (.int cp), .val (.int (0 : Int32)), .val (.int s1), .val (.ref b18), .val (.int (1 : Int32)), .val (.int (((cp.toInt8.toInt32)).toInt8.toInt32 &&& (255 : Int32))), .unset, .unset, .unset, .unset]) rfl ?_
        exact k
      obtain ⟨b0, hb0⟩ : ∃ z, z = (((cp.toInt8.toInt32)).toInt8.toInt32 &&& (255 : Int32)) := ⟨_, rfl⟩
      have tb0 : b0.toInt = cp.toInt := by subst hb0; exact own_A0 cp hcb hA
      rw [← hb0]
      show OwnGo p.tables e below _ (T71.setTop (mkF m 94 #[.val (.int p0), .val (.int p1), .val (.int p2), .val (.int cp), .val (.int (0 : Int32)), .val (.int s1), .val (.ref b18), .val (.int (1 : Int32)), .val (.int b0), .unset, .unset, .unset, .unset] []))
      refine OwnGo.of (A := T71.setTop (mkF m 94 #[.val (.int p0), .val (.int p1), .val (.int p2), .val (.int cp), .val (.int (0 : Int32)), .val (.int s1), .val (.ref b18), .val (.int (1 : Int32)), .val (.int b0), .unset, .unset, .unset, .unset] [])) (B := T71.setTop (mkF m 99 #[.val (.int p0), .val (.int p1), .val (.int p2), .val (.int cp), .val (.int (0 : Int32)), .val (.int s1), .val (.ref b18), .val (.int (1 : Int32)), .val (.int b0), .unset, .unset, .unset, .unset] [(.int (128 : Int32)), (.int b0)])) (fun t k => ?_) ?_
      · show Steps p.tables e below (T71.setTop (mkF m 94 #[.val (.int p0), .val (.int p1), .val (.int p2), .val (.int cp), .val (.int (0 : Int32)), .val (.int s1), .val (.ref b18), .val (.int (1 : Int32)), .val (.int b0), .unset, .unset, .unset, .unset] [])) t
        refine XS.iload X71.here hx rfl (hb hby at_94) rfl ?_
        show Steps p.tables e below (T71.setTop (mkF m 96 #[.val (.int p0), .val (.int p1), .val (.int p2), .val (.int cp), .val (.int (0 : Int32)), .val (.int s1), .val (.ref b18), .val (.int (1 : Int32)), .val (.int b0), .unset, .unset, .unset, .unset] [(.int b0)])) t
        refine XS.sipush X71.here hx rfl (hb hby at_96) ?_
        exact k
      have hc76 : b0 < (128 : Int32) := by rw [own_lt128]; rw [own_127] at hA; omega
      refine OwnGo.of (A := T71.setTop (mkF m 99 #[.val (.int p0), .val (.int p1), .val (.int p2), .val (.int cp), .val (.int (0 : Int32)), .val (.int s1), .val (.ref b18), .val (.int (1 : Int32)), .val (.int b0), .unset, .unset, .unset, .unset] [(.int (128 : Int32)), (.int b0)])) (B := T71.setTop (mkF m 221 #[.val (.int p0), .val (.int p1), .val (.int p2), .val (.int cp), .val (.int (0 : Int32)), .val (.int s1), .val (.ref b18), .val (.int (1 : Int32)), .val (.int b0), .val (.int (1 : Int32)), .val (.int b0), .unset, .unset] [(.int ((0 : Int32) + (1 : Int32))), (.int (1 : Int32))])) (fun t k => ?_) ?_
      · show Steps p.tables e below (T71.setTop (mkF m 99 #[.val (.int p0), .val (.int p1), .val (.int p2), .val (.int cp), .val (.int (0 : Int32)), .val (.int s1), .val (.ref b18), .val (.int (1 : Int32)), .val (.int b0), .unset, .unset, .unset, .unset] [(.int (128 : Int32)), (.int b0)])) t
        refine XS.icmpNo X71.here hx rfl (hb hby at_99) rfl (tlt hc76).2.1 ?_
        show Steps p.tables e below (T71.setTop (mkF m 102 #[.val (.int p0), .val (.int p1), .val (.int p2), .val (.int cp), .val (.int (0 : Int32)), .val (.int s1), .val (.ref b18), .val (.int (1 : Int32)), .val (.int b0), .unset, .unset, .unset, .unset] [])) t
        refine XS.iconst X71.here hx rfl (hb hby at_102) ?_
        show Steps p.tables e below (T71.setTop (mkF m 103 #[.val (.int p0), .val (.int p1), .val (.int p2), .val (.int cp), .val (.int (0 : Int32)), .val (.int s1), .val (.ref b18), .val (.int (1 : Int32)), .val (.int b0), .unset, .unset, .unset, .unset] [(.int (1 : Int32))])) t
        refine XS.istore X71.here hx rfl (hb hby at_103) rfl (l' := #[.val (.int p0), .val (.int p1), .val (.int p2), .val (.int cp), .val (.int (0 : Int32)), .val (.int s1), .val (.ref b18), .val (.int (1 : Int32)), .val (.int b0), .val (.int (1 : Int32)), .unset, .unset, .unset]) rfl ?_
        show Steps p.tables e below (T71.setTop (mkF m 105 #[.val (.int p0), .val (.int p1), .val (.int p2), .val (.int cp), .val (.int (0 : Int32)), .val (.int s1), .val (.ref b18), .val (.int (1 : Int32)), .val (.int b0), .val (.int (1 : Int32)), .unset, .unset, .unset] [])) t
        refine XS.iload X71.here hx rfl (hb hby at_105) rfl ?_
        show Steps p.tables e below (T71.setTop (mkF m 107 #[.val (.int p0), .val (.int p1), .val (.int p2), .val (.int cp), .val (.int (0 : Int32)), .val (.int s1), .val (.ref b18), .val (.int (1 : Int32)), .val (.int b0), .val (.int (1 : Int32)), .unset, .unset, .unset] [(.int b0)])) t
        refine XS.istore X71.here hx rfl (hb hby at_107) rfl (l' := #[.val (.int p0), .val (.int p1), .val (.int p2), .val (.int cp), .val (.int (0 : Int32)), .val (.int s1), .val (.ref b18), .val (.int (1 : Int32)), .val (.int b0), .val (.int (1 : Int32)), .val (.int b0), .unset, .unset]) rfl ?_
        show Steps p.tables e below (T71.setTop (mkF m 109 #[.val (.int p0), .val (.int p1), .val (.int p2), .val (.int cp), .val (.int (0 : Int32)), .val (.int s1), .val (.ref b18), .val (.int (1 : Int32)), .val (.int b0), .val (.int (1 : Int32)), .val (.int b0), .unset, .unset] [])) t
        refine XS.goto X71.here hx rfl (pc0 := 109) (pc' := 214) rfl (hb hby at_109) (by decide) (by decide) ?_
        show Steps p.tables e below (T71.setTop (mkF m 214 #[.val (.int p0), .val (.int p1), .val (.int p2), .val (.int cp), .val (.int (0 : Int32)), .val (.int s1), .val (.ref b18), .val (.int (1 : Int32)), .val (.int b0), .val (.int (1 : Int32)), .val (.int b0), .unset, .unset] [])) t
        refine XS.iload X71.here hx rfl (hb hby at_214) rfl ?_
        show Steps p.tables e below (T71.setTop (mkF m 216 #[.val (.int p0), .val (.int p1), .val (.int p2), .val (.int cp), .val (.int (0 : Int32)), .val (.int s1), .val (.ref b18), .val (.int (1 : Int32)), .val (.int b0), .val (.int (1 : Int32)), .val (.int b0), .unset, .unset] [(.int (1 : Int32))])) t
        refine XS.iload X71.here hx rfl (hb hby at_216) rfl ?_
        show Steps p.tables e below (T71.setTop (mkF m 218 #[.val (.int p0), .val (.int p1), .val (.int p2), .val (.int cp), .val (.int (0 : Int32)), .val (.int s1), .val (.ref b18), .val (.int (1 : Int32)), .val (.int b0), .val (.int (1 : Int32)), .val (.int b0), .unset, .unset] [(.int (0 : Int32)), (.int (1 : Int32))])) t
        refine XS.iload X71.here hx rfl (hb hby at_218) rfl ?_
        show Steps p.tables e below (T71.setTop (mkF m 220 #[.val (.int p0), .val (.int p1), .val (.int p2), .val (.int cp), .val (.int (0 : Int32)), .val (.int s1), .val (.ref b18), .val (.int (1 : Int32)), .val (.int b0), .val (.int (1 : Int32)), .val (.int b0), .unset, .unset] [(.int (1 : Int32)), (.int (0 : Int32)), (.int (1 : Int32))])) t
        refine XS.iadd X71.here hx rfl (hb hby at_220) rfl ?_
        exact k
      have hc77 : (1 : Int32) = ((0 : Int32) + (1 : Int32)) := by decide
      refine OwnGo.of (A := T71.setTop (mkF m 221 #[.val (.int p0), .val (.int p1), .val (.int p2), .val (.int cp), .val (.int (0 : Int32)), .val (.int s1), .val (.ref b18), .val (.int (1 : Int32)), .val (.int b0), .val (.int (1 : Int32)), .val (.int b0), .unset, .unset] [(.int ((0 : Int32) + (1 : Int32))), (.int (1 : Int32))])) (B := T71.setTop (mkF m 229 #[.val (.int p0), .val (.int p1), .val (.int p2), .val (.int cp), .val (.int (0 : Int32)), .val (.int s1), .val (.ref b18), .val (.int (1 : Int32)), .val (.int b0), .val (.int (1 : Int32)), .val (.int b0), .unset, .unset] [(.int cp), (.int b0)])) (fun t k => ?_) ?_
      · show Steps p.tables e below (T71.setTop (mkF m 221 #[.val (.int p0), .val (.int p1), .val (.int p2), .val (.int cp), .val (.int (0 : Int32)), .val (.int s1), .val (.ref b18), .val (.int (1 : Int32)), .val (.int b0), .val (.int (1 : Int32)), .val (.int b0), .unset, .unset] [(.int ((0 : Int32) + (1 : Int32))), (.int (1 : Int32))])) t
        refine XS.icmpYes X71.here hx rfl (pc0 := 221) (pc' := 226) rfl (hb hby at_221) rfl (teq hc77).1 (by decide) (by decide) ?_
        show Steps p.tables e below (T71.setTop (mkF m 226 #[.val (.int p0), .val (.int p1), .val (.int p2), .val (.int cp), .val (.int (0 : Int32)), .val (.int s1), .val (.ref b18), .val (.int (1 : Int32)), .val (.int b0), .val (.int (1 : Int32)), .val (.int b0), .unset, .unset] [])) t
        refine XS.iload X71.here hx rfl (hb hby at_226) rfl ?_
        show Steps p.tables e below (T71.setTop (mkF m 228 #[.val (.int p0), .val (.int p1), .val (.int p2), .val (.int cp), .val (.int (0 : Int32)), .val (.int s1), .val (.ref b18), .val (.int (1 : Int32)), .val (.int b0), .val (.int (1 : Int32)), .val (.int b0), .unset, .unset] [(.int b0)])) t
        refine XS.iloadN X71.here hx rfl (hb hby at_228) rfl ?_
        exact k
      have hc78 : b0 = cp := Int32.toInt_inj.mp tb0
      refine OwnGo.of (A := T71.setTop (mkF m 229 #[.val (.int p0), .val (.int p1), .val (.int p2), .val (.int cp), .val (.int (0 : Int32)), .val (.int s1), .val (.ref b18), .val (.int (1 : Int32)), .val (.int b0), .val (.int (1 : Int32)), .val (.int b0), .unset, .unset] [(.int cp), (.int b0)])) (B := T71.setTop (mkF m 234 #[.val (.int p0), .val (.int p1), .val (.int p2), .val (.int cp), .val (.int (0 : Int32)), .val (.int s1), .val (.ref b18), .val (.int (1 : Int32)), .val (.int b0), .val (.int (1 : Int32)), .val (.int b0), .unset, .unset] [])) (fun t k => ?_) ?_
      · show Steps p.tables e below (T71.setTop (mkF m 229 #[.val (.int p0), .val (.int p1), .val (.int p2), .val (.int cp), .val (.int (0 : Int32)), .val (.int s1), .val (.ref b18), .val (.int (1 : Int32)), .val (.int b0), .val (.int (1 : Int32)), .val (.int b0), .unset, .unset] [(.int cp), (.int b0)])) t
        refine XS.icmpYes X71.here hx rfl (pc0 := 229) (pc' := 234) rfl (hb hby at_229) rfl (teq hc78).1 (by decide) (by decide) ?_
        exact k
      exact J234 T71 _ _ (.val (.int p0)) (.val (.int p1)) (.val (.int p2)) (.val (.int cp)) (.val (.int b0)) (.val (.int (1 : Int32))) (.val (.int b0)) (.unset) (.unset) (0 : Int32) s1 (1 : Int32) b18 (((cp.toInt8.toInt32)).toInt8.toInt32) ((s1).toInt8.toInt32) ((s1).toInt8.toInt32) ((s1).toInt8.toInt32) ((s1).toInt8.toInt32) ((s1).toInt8.toInt32) ((s1).toInt8.toInt32) ((s1).toInt8.toInt32) k18 X71 rfl N71 f72 y71_0 (by simp [own_k0, hs]) (by simp [own_k1, hs]) (by simp [own_k2, hs]) (by simp [own_k3, hs]) (by simp [own_k4, hs]) (by simp [own_k5, hs]) (by simp [own_k6, hs]) (by simp [own_k7, hs])
    · show OwnGo p.tables e below _ (T66.setTop (mkF m 78 #[.val (.int p0), .val (.int p1), .val (.int p2), .val (.int cp), .val (.int (0 : Int32)), .val (.int s1), .val (.ref b18), .unset, .unset, .unset, .unset, .unset, .unset] [(.int (0 : Int32)), (.ref b18), (.int cp)]))
      obtain ⟨_, _, ⟨T79, L79, k79, n79⟩, -, X79, ⟨Lc79, hQ79, l79, y79, z79⟩, st79⟩ := Jvm.LawKit.callS X66 hx (y := (⟨"com/example/sevenfold/sevenfold/Natural", "writeCodePoint", "(I[BI)I"⟩ : MethodName)) hown (mvT hZ (hw _ (List.mem_of_getElem? (i := 3) rfl))) (mvT hZ (hw _ (List.mem_of_getElem? (i := 4) rfl))) (mvT hZ (hw _ (List.mem_of_getElem? (i := 5) rfl))) (mvT hZ (hw _ (List.mem_of_getElem? (i := 6) rfl))) (by decide) (backOf (W := 0) (rm1_0B l Z aw hw [] cp b18 (s1).toInt8.toInt32 (s1).toInt8.toInt32 (s1).toInt8.toInt32 (s1).toInt8.toInt32 (s1).toInt8.toInt32 (s1).toInt8.toInt32 (s1).toInt8.toInt32 (s1).toInt8.toInt32 k18 wF kf h66 n0 f67 f68 f69 f70 g_b18 ne_wF_b18 hA hB) hZ (hw _ (List.mem_of_getElem? (i := 6) rfl)) (hw _ (List.mem_of_getElem? (i := 5) rfl)) (by decide) (by decide)) (g := (mkF m 78 #[.val (.int p0), .val (.int p1), .val (.int p2), .val (.int cp), .val (.int (0 : Int32)), .val (.int s1), .val (.ref b18), .unset, .unset, .unset, .unset, .unset, .unset] [(.int (0 : Int32)), (.ref b18), (.int cp)])) rfl (by rw [hml]; rfl) (argsL := [(.int cp), (.ref b18), (.int (0 : Int32))]) (rest := []) (lenOf pd_3 rfl) rfl (by show 2 * 0 + _ ≤ _; exact Nat.le_of_eq rfl) (hb hby at_78) (fun _ _ => ⟨rfl, e66, (by decide : 1 + 0 ≤ _), (by decide : 8 + 0 ≤ _)⟩)
      dsimp only [Pt.U, Pt.locs, Pt.cells, Pt.slots] at X79 l79 y79 z79 st79 hQ79
      subst l79 y79 z79
      obtain ⟨rfl, N79q, K79, y79_0⟩ := hQ79
      have f80 : n0 ≤ T79.heap.size := Nat.le_trans f67 K79.1
      have f81 : Sta Z T79.heap "com/example/sevenfold/sevenfold/Natural" "FIRST_OF_LENGTH" "[J" (.ref wF) := own_sta_keep f68 K79 (allS (own_ns_arv f70) all0)
      have f82 : Arv Z T79.heap wF kf .long (10 : Int32) [(.long (0 : Int64)), (.long (0 : Int64)), (.long (128 : Int64)), (.long (16512 : Int64)), (.long (2113664 : Int64)), (.long (270549120 : Int64)), (.long (34630287488 : Int64)), (.long (4432676798592 : Int64)), (.long (567382630219904 : Int64)), (.long (72624976668147840 : Int64))] (.long (0 : Int64)) := f69.keep K79 (ninS ne_wF_b18 nin0)
      have N79 := Fr.app N66 N79q
      refine OwnGo.of st79 ?_
      show OwnGo p.tables e below _ (T79.setTop (mkF m 81 #[.val (.int p0), .val (.int p1), .val (.int p2), .val (.int cp), .val (.int (0 : Int32)), .val (.int s1), .val (.ref b18), .unset, .unset, .unset, .unset, .unset, .unset] [(.int (2 : Int32))]))
      refine OwnGo.of (A := T79.setTop (mkF m 81 #[.val (.int p0), .val (.int p1), .val (.int p2), .val (.int cp), .val (.int (0 : Int32)), .val (.int s1), .val (.ref b18), .unset, .unset, .unset, .unset, .unset, .unset] [(.int (2 : Int32))])) (B := T79.setTop (mkF m 87 #[.val (.int p0), .val (.int p1), .val (.int p2), .val (.int cp), .val (.int (0 : Int32)), .val (.int s1), .val (.ref b18), .val (.int (2 : Int32)), .unset, .unset, .unset, .unset, .unset] [(.int (0 : Int32)), (.ref b18)])) (fun t k => ?_) ?_
      · show Steps p.tables e below (T79.setTop (mkF m 81 #[.val (.int p0), .val (.int p1), .val (.int p2), .val (.int cp), .val (.int (0 : Int32)), .val (.int s1), .val (.ref b18), .unset, .unset, .unset, .unset, .unset, .unset] [(.int (2 : Int32))])) t
        refine XS.istore X79.here hx rfl (hb hby at_81) rfl (l' := #[.val (.int p0), .val (.int p1), .val (.int p2), .val (.int cp), .val (.int (0 : Int32)), .val (.int s1), .val (.ref b18), .val (.int (2 : Int32)), .unset, .unset, .unset, .unset, .unset]) rfl ?_
        show Steps p.tables e below (T79.setTop (mkF m 83 #[.val (.int p0), .val (.int p1), .val (.int p2), .val (.int cp), .val (.int (0 : Int32)), .val (.int s1), .val (.ref b18), .val (.int (2 : Int32)), .unset, .unset, .unset, .unset, .unset] [])) t
        refine XS.aload X79.here hx rfl (hb hby at_83) rfl rfl ?_
        show Steps p.tables e below (T79.setTop (mkF m 85 #[.val (.int p0), .val (.int p1), .val (.int p2), .val (.int cp), .val (.int (0 : Int32)), .val (.int s1), .val (.ref b18), .val (.int (2 : Int32)), .unset, .unset, .unset, .unset, .unset] [(.ref b18)])) t
        refine XS.iload X79.here hx rfl (hb hby at_85) rfl ?_
        exact k
      have cq83 := y79_0
      obtain ⟨clq83, Arq83, qq83, Sq83, Nq83, Hq83, Gq83⟩ := cq83
      have hinq83 := inb_of (j := (0 : Int32)) Sq83 ⟨by decide, by decide⟩
      refine OwnGo.of (X79.baloadBytes hx (j := (0 : Int32)) (v := (.int ((((128 : Int32) ||| (((cp - ((128 : Int64).toInt32)).toUInt32 >>> ((7 : Int32) &&& 31).toUInt32).toInt32)).toInt8.toInt32)).toInt8.toInt32)) Arq83.1 (State.isArrayOf_alike hZ.alike Arq83.2.1) Arq83.2.2 hinq83 (Hq83.at hinq83 rfl) (g := (mkF m 87 #[.val (.int p0), .val (.int p1), .val (.int p2), .val (.int cp), .val (.int (0 : Int32)), .val (.int s1), .val (.ref b18), .val (.int (2 : Int32)), .unset, .unset, .unset, .unset, .unset] [(.int (0 : Int32)), (.ref b18)])) rfl rfl (hb hby at_87)) ?_
      show OwnGo p.tables e below _ (T79.setTop (mkF m 88 #[.val (.int p0), .val (.int p1), .val (.int p2), .val (.int cp), .val (.int (0 : Int32)), .val (.int s1), .val (.ref b18), .val (.int (2 : Int32)), .unset, .unset, .unset, .unset, .unset] [(.int ((((128 : Int32) ||| (((cp - ((128 : Int64).toInt32)).toUInt32 >>> ((7 : Int32) &&& 31).toUInt32).toInt32)).toInt8.toInt32)).toInt8.toInt32)]))
      refine OwnGo.of (A := T79.setTop (mkF m 88 #[.val (.int p0), .val (.int p1), .val (.int p2), .val (.int cp), .val (.int (0 : Int32)), .val (.int s1), .val (.ref b18), .val (.int (2 : Int32)), .unset, .unset, .unset, .unset, .unset] [(.int ((((128 : Int32) ||| (((cp - ((128 : Int64).toInt32)).toUInt32 >>> ((7 : Int32) &&& 31).toUInt32).toInt32)).toInt8.toInt32)).toInt8.toInt32)])) (B := T79.setTop (mkF m 94 #[.val (.int p0), .val (.int p1), .val (.int p2), .val (.int cp), .val (.int (0 : Int32)), .val (.int s1), .val (.ref b18), .val (.int (2 : Int32)), .val (.int (((((128 : Int32) ||| (((cp - ((128 : Int64).toInt32)).toUInt32 >>> ((7 : Int32) &&& 31).toUInt32).toInt32)).toInt8.toInt32)).toInt8.toInt32 &&& (255 : Int32))), .unset, .unset, .unset, .unset] [])) (fun t k => ?_) ?_
      · show Steps p.tables e below (T79.setTop (mkF m 88 #[.val (.int p0), .val (.int p1), .val (.int p2), .val (.int cp), .val (.int (0 : Int32)), .val (.int s1), .val (.ref b18), .val (.int (2 : Int32)), .unset, .unset, .unset, .unset, .unset] [(.int ((((128 : Int32) ||| (((cp - ((128 : Int64).toInt32)).toUInt32 >>> ((7 : Int32) &&& 31).toUInt32).toInt32)).toInt8.toInt32)).toInt8.toInt32)])) t
        refine XS.sipush X79.here hx rfl (hb hby at_88) ?_
        show Steps p.tables e below (T79.setTop (mkF m 91 #[.val (.int p0), .val (.int p1), .val (.int p2), .val (.int cp), .val (.int (0 : Int32)), .val (.int s1), .val (.ref b18), .val (.int (2 : Int32)), .unset, .unset, .unset, .unset, .unset] [(.int (255 : Int32)), (.int ((((128 : Int32) ||| (((cp - ((128 : Int64).toInt32)).toUInt32 >>> ((7 : Int32) &&& 31).toUInt32).toInt32)).toInt8.toInt32)).toInt8.toInt32)])) t
        refine XS.iand X79.here hx rfl (hb hby at_91) rfl ?_
        show Steps p.tables e below (T79.setTop (mkF m 92 #[.val (.int p0), .val (.int p1), .val (.int p2), .val (.int cp), .val (.int (0 : Int32)), .val (.int s1), .val (.ref b18), .val (.int (2 : Int32)), .unset, .unset, .unset, .unset, .unset] [(.int (((((128 : Int32) ||| (((cp - ((128 : Int64).toInt32)).toUInt32 >>> ((7 : Int32) &&& 31).toUInt32).toInt32)).toInt8.toInt32)).toInt8.toInt32 &&& (255 : Int32)))])) t
        refine XS.istore X79.here hx rfl (hb hby at_92) rfl (l' := #[.val (.int p0), .val (.int p1), .val (.int p2), .val (.int cp), .val (.int (0 : Int32)), .val (.int s1), .val (.ref b18), .val (.int (2 : Int32)), .val (.int (((((128 : Int32) ||| (((cp - ((128 : Int64).toInt32)).toUInt32 >>> ((7 : Int32) &&& 31).toUInt32).toInt32)).toInt8.toInt32)).toInt8.toInt32 &&& (255 : Int32))), .unset, .unset, .unset, .unset]) rfl ?_
        exact k
      obtain ⟨b0, hb0⟩ : ∃ z, z = (((((128 : Int32) ||| (((cp - ((128 : Int64).toInt32)).toUInt32 >>> ((7 : Int32) &&& 31).toUInt32).toInt32)).toInt8.toInt32)).toInt8.toInt32 &&& (255 : Int32)) := ⟨_, rfl⟩
      have tb0 : b0.toInt = 128 + (cp.toInt - 128) / 128 := by subst hb0; exact own_B0 cp hcb hA hB
      rw [← hb0]
      show OwnGo p.tables e below _ (T79.setTop (mkF m 94 #[.val (.int p0), .val (.int p1), .val (.int p2), .val (.int cp), .val (.int (0 : Int32)), .val (.int s1), .val (.ref b18), .val (.int (2 : Int32)), .val (.int b0), .unset, .unset, .unset, .unset] []))
      refine OwnGo.of (A := T79.setTop (mkF m 94 #[.val (.int p0), .val (.int p1), .val (.int p2), .val (.int cp), .val (.int (0 : Int32)), .val (.int s1), .val (.ref b18), .val (.int (2 : Int32)), .val (.int b0), .unset, .unset, .unset, .unset] [])) (B := T79.setTop (mkF m 99 #[.val (.int p0), .val (.int p1), .val (.int p2), .val (.int cp), .val (.int (0 : Int32)), .val (.int s1), .val (.ref b18), .val (.int (2 : Int32)), .val (.int b0), .unset, .unset, .unset, .unset] [(.int (128 : Int32)), (.int b0)])) (fun t k => ?_) ?_
      · show Steps p.tables e below (T79.setTop (mkF m 94 #[.val (.int p0), .val (.int p1), .val (.int p2), .val (.int cp), .val (.int (0 : Int32)), .val (.int s1), .val (.ref b18), .val (.int (2 : Int32)), .val (.int b0), .unset, .unset, .unset, .unset] [])) t
        refine XS.iload X79.here hx rfl (hb hby at_94) rfl ?_
        show Steps p.tables e below (T79.setTop (mkF m 96 #[.val (.int p0), .val (.int p1), .val (.int p2), .val (.int cp), .val (.int (0 : Int32)), .val (.int s1), .val (.ref b18), .val (.int (2 : Int32)), .val (.int b0), .unset, .unset, .unset, .unset] [(.int b0)])) t
        refine XS.sipush X79.here hx rfl (hb hby at_96) ?_
        exact k
      have hc84 : ¬ (b0 < (128 : Int32)) := by rw [own_lt128]; rw [own_127] at hA; rw [own_l16] at hB; omega
      refine OwnGo.of (A := T79.setTop (mkF m 99 #[.val (.int p0), .val (.int p1), .val (.int p2), .val (.int cp), .val (.int (0 : Int32)), .val (.int s1), .val (.ref b18), .val (.int (2 : Int32)), .val (.int b0), .unset, .unset, .unset, .unset] [(.int (128 : Int32)), (.int b0)])) (B := T79.setTop (mkF m 118 #[.val (.int p0), .val (.int p1), .val (.int p2), .val (.int cp), .val (.int (0 : Int32)), .val (.int s1), .val (.ref b18), .val (.int (2 : Int32)), .val (.int b0), .unset, .unset, .unset, .unset] [(.int ((0 : Int32) + (1 : Int32))), (.ref b18)])) (fun t k => ?_) ?_
      · show Steps p.tables e below (T79.setTop (mkF m 99 #[.val (.int p0), .val (.int p1), .val (.int p2), .val (.int cp), .val (.int (0 : Int32)), .val (.int s1), .val (.ref b18), .val (.int (2 : Int32)), .val (.int b0), .unset, .unset, .unset, .unset] [(.int (128 : Int32)), (.int b0)])) t
        refine XS.icmpYes X79.here hx rfl (pc0 := 99) (pc' := 112) rfl (hb hby at_99) rfl (flt hc84).2.1 (by decide) (by decide) ?_
        show Steps p.tables e below (T79.setTop (mkF m 112 #[.val (.int p0), .val (.int p1), .val (.int p2), .val (.int cp), .val (.int (0 : Int32)), .val (.int s1), .val (.ref b18), .val (.int (2 : Int32)), .val (.int b0), .unset, .unset, .unset, .unset] [])) t
        refine XS.aload X79.here hx rfl (hb hby at_112) rfl rfl ?_
        show Steps p.tables e below (T79.setTop (mkF m 114 #[.val (.int p0), .val (.int p1), .val (.int p2), .val (.int cp), .val (.int (0 : Int32)), .val (.int s1), .val (.ref b18), .val (.int (2 : Int32)), .val (.int b0), .unset, .unset, .unset, .unset] [(.ref b18)])) t
        refine XS.iload X79.here hx rfl (hb hby at_114) rfl ?_
        show Steps p.tables e below (T79.setTop (mkF m 116 #[.val (.int p0), .val (.int p1), .val (.int p2), .val (.int cp), .val (.int (0 : Int32)), .val (.int s1), .val (.ref b18), .val (.int (2 : Int32)), .val (.int b0), .unset, .unset, .unset, .unset] [(.int (0 : Int32)), (.ref b18)])) t
        refine XS.iconst X79.here hx rfl (hb hby at_116) ?_
        show Steps p.tables e below (T79.setTop (mkF m 117 #[.val (.int p0), .val (.int p1), .val (.int p2), .val (.int cp), .val (.int (0 : Int32)), .val (.int s1), .val (.ref b18), .val (.int (2 : Int32)), .val (.int b0), .unset, .unset, .unset, .unset] [(.int (1 : Int32)), (.int (0 : Int32)), (.ref b18)])) t
        refine XS.iadd X79.here hx rfl (hb hby at_117) rfl ?_
        exact k
      rw [show ((0 : Int32) + (1 : Int32)) = (1 : Int32) from by decide]
      show OwnGo p.tables e below _ (T79.setTop (mkF m 118 #[.val (.int p0), .val (.int p1), .val (.int p2), .val (.int cp), .val (.int (0 : Int32)), .val (.int s1), .val (.ref b18), .val (.int (2 : Int32)), .val (.int b0), .unset, .unset, .unset, .unset] [(.int (1 : Int32)), (.ref b18)]))
      have cq85 := y79_0
      obtain ⟨clq85, Arq85, qq85, Sq85, Nq85, Hq85, Gq85⟩ := cq85
      have hinq85 := inb_of (j := (1 : Int32)) Sq85 ⟨by decide, by decide⟩
      refine OwnGo.of (X79.baloadBytes hx (j := (1 : Int32)) (v := (.int ((((cp - ((128 : Int64).toInt32)) &&& (127 : Int32)).toInt8.toInt32)).toInt8.toInt32)) Arq85.1 (State.isArrayOf_alike hZ.alike Arq85.2.1) Arq85.2.2 hinq85 (Hq85.at hinq85 rfl) (g := (mkF m 118 #[.val (.int p0), .val (.int p1), .val (.int p2), .val (.int cp), .val (.int (0 : Int32)), .val (.int s1), .val (.ref b18), .val (.int (2 : Int32)), .val (.int b0), .unset, .unset, .unset, .unset] [(.int (1 : Int32)), (.ref b18)])) rfl rfl (hb hby at_118)) ?_
      show OwnGo p.tables e below _ (T79.setTop (mkF m 119 #[.val (.int p0), .val (.int p1), .val (.int p2), .val (.int cp), .val (.int (0 : Int32)), .val (.int s1), .val (.ref b18), .val (.int (2 : Int32)), .val (.int b0), .unset, .unset, .unset, .unset] [(.int ((((cp - ((128 : Int64).toInt32)) &&& (127 : Int32)).toInt8.toInt32)).toInt8.toInt32)]))
      refine OwnGo.of (A := T79.setTop (mkF m 119 #[.val (.int p0), .val (.int p1), .val (.int p2), .val (.int cp), .val (.int (0 : Int32)), .val (.int s1), .val (.ref b18), .val (.int (2 : Int32)), .val (.int b0), .unset, .unset, .unset, .unset] [(.int ((((cp - ((128 : Int64).toInt32)) &&& (127 : Int32)).toInt8.toInt32)).toInt8.toInt32)])) (B := T79.setTop (mkF m 125 #[.val (.int p0), .val (.int p1), .val (.int p2), .val (.int cp), .val (.int (0 : Int32)), .val (.int s1), .val (.ref b18), .val (.int (2 : Int32)), .val (.int b0), .unset, .unset, .val (.int (((((cp - ((128 : Int64).toInt32)) &&& (127 : Int32)).toInt8.toInt32)).toInt8.toInt32 &&& (255 : Int32))), .unset] [])) (fun t k => ?_) ?_
      · show Steps p.tables e below (T79.setTop (mkF m 119 #[.val (.int p0), .val (.int p1), .val (.int p2), .val (.int cp), .val (.int (0 : Int32)), .val (.int s1), .val (.ref b18), .val (.int (2 : Int32)), .val (.int b0), .unset, .unset, .unset, .unset] [(.int ((((cp - ((128 : Int64).toInt32)) &&& (127 : Int32)).toInt8.toInt32)).toInt8.toInt32)])) t
        refine XS.sipush X79.here hx rfl (hb hby at_119) ?_
        show Steps p.tables e below (T79.setTop (mkF m 122 #[.val (.int p0), .val (.int p1), .val (.int p2), .val (.int cp), .val (.int (0 : Int32)), .val (.int s1), .val (.ref b18), .val (.int (2 : Int32)), .val (.int b0), .unset, .unset, .unset, .unset] [(.int (255 : Int32)), (.int ((((cp - ((128 : Int64).toInt32)) &&& (127 : Int32)).toInt8.toInt32)).toInt8.toInt32)])) t
        refine XS.iand X79.here hx rfl (hb hby at_122) rfl ?_
        show Steps p.tables e below (T79.setTop (mkF m 123 #[.val (.int p0), .val (.int p1), .val (.int p2), .val (.int cp), .val (.int (0 : Int32)), .val (.int s1), .val (.ref b18), .val (.int (2 : Int32)), .val (.int b0), .unset, .unset, .unset, .unset] [(.int (((((cp - ((128 : Int64).toInt32)) &&& (127 : Int32)).toInt8.toInt32)).toInt8.toInt32 &&& (255 : Int32)))])) t
        refine XS.istore X79.here hx rfl (hb hby at_123) rfl (l' := #[.val (.int p0), .val (.int p1), .val (.int p2), .val (.int cp), .val (.int (0 : Int32)), .val (.int s1), .val (.ref b18), .val (.int (2 : Int32)), .val (.int b0), .unset, .unset, .val (.int (((((cp - ((128 : Int64).toInt32)) &&& (127 : Int32)).toInt8.toInt32)).toInt8.toInt32 &&& (255 : Int32))), .unset]) rfl ?_
        exact k
      obtain ⟨b1, hb1⟩ : ∃ z, z = (((((cp - ((128 : Int64).toInt32)) &&& (127 : Int32)).toInt8.toInt32)).toInt8.toInt32 &&& (255 : Int32)) := ⟨_, rfl⟩
      have tb1 : b1.toInt = (cp.toInt - 128) % 128 := by subst hb1; exact own_B1 cp hcb hA
      rw [← hb1]
      show OwnGo p.tables e below _ (T79.setTop (mkF m 125 #[.val (.int p0), .val (.int p1), .val (.int p2), .val (.int cp), .val (.int (0 : Int32)), .val (.int s1), .val (.ref b18), .val (.int (2 : Int32)), .val (.int b0), .unset, .unset, .val (.int b1), .unset] []))
      refine OwnGo.of (A := T79.setTop (mkF m 125 #[.val (.int p0), .val (.int p1), .val (.int p2), .val (.int cp), .val (.int (0 : Int32)), .val (.int s1), .val (.ref b18), .val (.int (2 : Int32)), .val (.int b0), .unset, .unset, .val (.int b1), .unset] [])) (B := T79.setTop (mkF m 130 #[.val (.int p0), .val (.int p1), .val (.int p2), .val (.int cp), .val (.int (0 : Int32)), .val (.int s1), .val (.ref b18), .val (.int (2 : Int32)), .val (.int b0), .unset, .unset, .val (.int b1), .unset] [(.int (128 : Int32)), (.int b1)])) (fun t k => ?_) ?_
      · show Steps p.tables e below (T79.setTop (mkF m 125 #[.val (.int p0), .val (.int p1), .val (.int p2), .val (.int cp), .val (.int (0 : Int32)), .val (.int s1), .val (.ref b18), .val (.int (2 : Int32)), .val (.int b0), .unset, .unset, .val (.int b1), .unset] [])) t
        refine XS.iload X79.here hx rfl (hb hby at_125) rfl ?_
        show Steps p.tables e below (T79.setTop (mkF m 127 #[.val (.int p0), .val (.int p1), .val (.int p2), .val (.int cp), .val (.int (0 : Int32)), .val (.int s1), .val (.ref b18), .val (.int (2 : Int32)), .val (.int b0), .unset, .unset, .val (.int b1), .unset] [(.int b1)])) t
        refine XS.sipush X79.here hx rfl (hb hby at_127) ?_
        exact k
      have hc86 : b1 < (128 : Int32) := by rw [own_lt128]; rw [own_127] at hA; rw [own_l16] at hB; omega
      refine OwnGo.of (A := T79.setTop (mkF m 130 #[.val (.int p0), .val (.int p1), .val (.int p2), .val (.int cp), .val (.int (0 : Int32)), .val (.int s1), .val (.ref b18), .val (.int (2 : Int32)), .val (.int b0), .unset, .unset, .val (.int b1), .unset] [(.int (128 : Int32)), (.int b1)])) (B := T79.setTop (mkF m 221 #[.val (.int p0), .val (.int p1), .val (.int p2), .val (.int cp), .val (.int (0 : Int32)), .val (.int s1), .val (.ref b18), .val (.int (2 : Int32)), .val (.int b0), .val (.int (2 : Int32)), .val (.int (((128 : Int32) + ((b0 - (128 : Int32)) * (128 : Int32))) + b1)), .val (.int b1), .unset] [(.int ((0 : Int32) + (2 : Int32))), (.int (2 : Int32))])) (fun t k => ?_) ?_
      · show Steps p.tables e below (T79.setTop (mkF m 130 #[.val (.int p0), .val (.int p1), .val (.int p2), .val (.int cp), .val (.int (0 : Int32)), .val (.int s1), .val (.ref b18), .val (.int (2 : Int32)), .val (.int b0), .unset, .unset, .val (.int b1), .unset] [(.int (128 : Int32)), (.int b1)])) t
        refine XS.icmpNo X79.here hx rfl (hb hby at_130) rfl (tlt hc86).2.1 ?_
        show Steps p.tables e below (T79.setTop (mkF m 133 #[.val (.int p0), .val (.int p1), .val (.int p2), .val (.int cp), .val (.int (0 : Int32)), .val (.int s1), .val (.ref b18), .val (.int (2 : Int32)), .val (.int b0), .unset, .unset, .val (.int b1), .unset] [])) t
        refine XS.iconst X79.here hx rfl (hb hby at_133) ?_
        show Steps p.tables e below (T79.setTop (mkF m 134 #[.val (.int p0), .val (.int p1), .val (.int p2), .val (.int cp), .val (.int (0 : Int32)), .val (.int s1), .val (.ref b18), .val (.int (2 : Int32)), .val (.int b0), .unset, .unset, .val (.int b1), .unset] [(.int (2 : Int32))])) t
        refine XS.istore X79.here hx rfl (hb hby at_134) rfl (l' := #[.val (.int p0), .val (.int p1), .val (.int p2), .val (.int cp), .val (.int (0 : Int32)), .val (.int s1), .val (.ref b18), .val (.int (2 : Int32)), .val (.int b0), .val (.int (2 : Int32)), .unset, .val (.int b1), .unset]) rfl ?_
        show Steps p.tables e below (T79.setTop (mkF m 136 #[.val (.int p0), .val (.int p1), .val (.int p2), .val (.int cp), .val (.int (0 : Int32)), .val (.int s1), .val (.ref b18), .val (.int (2 : Int32)), .val (.int b0), .val (.int (2 : Int32)), .unset, .val (.int b1), .unset] [])) t
        refine XS.sipush X79.here hx rfl (hb hby at_136) ?_
        show Steps p.tables e below (T79.setTop (mkF m 139 #[.val (.int p0), .val (.int p1), .val (.int p2), .val (.int cp), .val (.int (0 : Int32)), .val (.int s1), .val (.ref b18), .val (.int (2 : Int32)), .val (.int b0), .val (.int (2 : Int32)), .unset, .val (.int b1), .unset] [(.int (128 : Int32))])) t
        refine XS.iload X79.here hx rfl (hb hby at_139) rfl ?_
        show Steps p.tables e below (T79.setTop (mkF m 141 #[.val (.int p0), .val (.int p1), .val (.int p2), .val (.int cp), .val (.int (0 : Int32)), .val (.int s1), .val (.ref b18), .val (.int (2 : Int32)), .val (.int b0), .val (.int (2 : Int32)), .unset, .val (.int b1), .unset] [(.int b0), (.int (128 : Int32))])) t
        refine XS.sipush X79.here hx rfl (hb hby at_141) ?_
        show Steps p.tables e below (T79.setTop (mkF m 144 #[.val (.int p0), .val (.int p1), .val (.int p2), .val (.int cp), .val (.int (0 : Int32)), .val (.int s1), .val (.ref b18), .val (.int (2 : Int32)), .val (.int b0), .val (.int (2 : Int32)), .unset, .val (.int b1), .unset] [(.int (128 : Int32)), (.int b0), (.int (128 : Int32))])) t
        refine XS.isub X79.here hx rfl (hb hby at_144) rfl ?_
        show Steps p.tables e below (T79.setTop (mkF m 145 #[.val (.int p0), .val (.int p1), .val (.int p2), .val (.int cp), .val (.int (0 : Int32)), .val (.int s1), .val (.ref b18), .val (.int (2 : Int32)), .val (.int b0), .val (.int (2 : Int32)), .unset, .val (.int b1), .unset] [(.int (b0 - (128 : Int32))), (.int (128 : Int32))])) t
        refine XS.sipush X79.here hx rfl (hb hby at_145) ?_
        show Steps p.tables e below (T79.setTop (mkF m 148 #[.val (.int p0), .val (.int p1), .val (.int p2), .val (.int cp), .val (.int (0 : Int32)), .val (.int s1), .val (.ref b18), .val (.int (2 : Int32)), .val (.int b0), .val (.int (2 : Int32)), .unset, .val (.int b1), .unset] [(.int (128 : Int32)), (.int (b0 - (128 : Int32))), (.int (128 : Int32))])) t
        refine XS.imul X79.here hx rfl (hb hby at_148) rfl ?_
        show Steps p.tables e below (T79.setTop (mkF m 149 #[.val (.int p0), .val (.int p1), .val (.int p2), .val (.int cp), .val (.int (0 : Int32)), .val (.int s1), .val (.ref b18), .val (.int (2 : Int32)), .val (.int b0), .val (.int (2 : Int32)), .unset, .val (.int b1), .unset] [(.int ((b0 - (128 : Int32)) * (128 : Int32))), (.int (128 : Int32))])) t
        refine XS.iadd X79.here hx rfl (hb hby at_149) rfl ?_
        show Steps p.tables e below (T79.setTop (mkF m 150 #[.val (.int p0), .val (.int p1), .val (.int p2), .val (.int cp), .val (.int (0 : Int32)), .val (.int s1), .val (.ref b18), .val (.int (2 : Int32)), .val (.int b0), .val (.int (2 : Int32)), .unset, .val (.int b1), .unset] [(.int ((128 : Int32) + ((b0 - (128 : Int32)) * (128 : Int32))))])) t
        refine XS.iload X79.here hx rfl (hb hby at_150) rfl ?_
        show Steps p.tables e below (T79.setTop (mkF m 152 #[.val (.int p0), .val (.int p1), .val (.int p2), .val (.int cp), .val (.int (0 : Int32)), .val (.int s1), .val (.ref b18), .val (.int (2 : Int32)), .val (.int b0), .val (.int (2 : Int32)), .unset, .val (.int b1), .unset] [(.int b1), (.int ((128 : Int32) + ((b0 - (128 : Int32)) * (128 : Int32))))])) t
        refine XS.iadd X79.here hx rfl (hb hby at_152) rfl ?_
        show Steps p.tables e below (T79.setTop (mkF m 153 #[.val (.int p0), .val (.int p1), .val (.int p2), .val (.int cp), .val (.int (0 : Int32)), .val (.int s1), .val (.ref b18), .val (.int (2 : Int32)), .val (.int b0), .val (.int (2 : Int32)), .unset, .val (.int b1), .unset] [(.int (((128 : Int32) + ((b0 - (128 : Int32)) * (128 : Int32))) + b1))])) t
        refine XS.istore X79.here hx rfl (hb hby at_153) rfl (l' := #[.val (.int p0), .val (.int p1), .val (.int p2), .val (.int cp), .val (.int (0 : Int32)), .val (.int s1), .val (.ref b18), .val (.int (2 : Int32)), .val (.int b0), .val (.int (2 : Int32)), .val (.int (((128 : Int32) + ((b0 - (128 : Int32)) * (128 : Int32))) + b1)), .val (.int b1), .unset]) rfl ?_
        show Steps p.tables e below (T79.setTop (mkF m 155 #[.val (.int p0), .val (.int p1), .val (.int p2), .val (.int cp), .val (.int (0 : Int32)), .val (.int s1), .val (.ref b18), .val (.int (2 : Int32)), .val (.int b0), .val (.int (2 : Int32)), .val (.int (((128 : Int32) + ((b0 - (128 : Int32)) * (128 : Int32))) + b1)), .val (.int b1), .unset] [])) t
        refine XS.goto X79.here hx rfl (pc0 := 155) (pc' := 214) rfl (hb hby at_155) (by decide) (by decide) ?_
        show Steps p.tables e below (T79.setTop (mkF m 214 #[.val (.int p0), .val (.int p1), .val (.int p2), .val (.int cp), .val (.int (0 : Int32)), .val (.int s1), .val (.ref b18), .val (.int (2 : Int32)), .val (.int b0), .val (.int (2 : Int32)), .val (.int (((128 : Int32) + ((b0 - (128 : Int32)) * (128 : Int32))) + b1)), .val (.int b1), .unset] [])) t
        refine XS.iload X79.here hx rfl (hb hby at_214) rfl ?_
        show Steps p.tables e below (T79.setTop (mkF m 216 #[.val (.int p0), .val (.int p1), .val (.int p2), .val (.int cp), .val (.int (0 : Int32)), .val (.int s1), .val (.ref b18), .val (.int (2 : Int32)), .val (.int b0), .val (.int (2 : Int32)), .val (.int (((128 : Int32) + ((b0 - (128 : Int32)) * (128 : Int32))) + b1)), .val (.int b1), .unset] [(.int (2 : Int32))])) t
        refine XS.iload X79.here hx rfl (hb hby at_216) rfl ?_
        show Steps p.tables e below (T79.setTop (mkF m 218 #[.val (.int p0), .val (.int p1), .val (.int p2), .val (.int cp), .val (.int (0 : Int32)), .val (.int s1), .val (.ref b18), .val (.int (2 : Int32)), .val (.int b0), .val (.int (2 : Int32)), .val (.int (((128 : Int32) + ((b0 - (128 : Int32)) * (128 : Int32))) + b1)), .val (.int b1), .unset] [(.int (0 : Int32)), (.int (2 : Int32))])) t
        refine XS.iload X79.here hx rfl (hb hby at_218) rfl ?_
        show Steps p.tables e below (T79.setTop (mkF m 220 #[.val (.int p0), .val (.int p1), .val (.int p2), .val (.int cp), .val (.int (0 : Int32)), .val (.int s1), .val (.ref b18), .val (.int (2 : Int32)), .val (.int b0), .val (.int (2 : Int32)), .val (.int (((128 : Int32) + ((b0 - (128 : Int32)) * (128 : Int32))) + b1)), .val (.int b1), .unset] [(.int (2 : Int32)), (.int (0 : Int32)), (.int (2 : Int32))])) t
        refine XS.iadd X79.here hx rfl (hb hby at_220) rfl ?_
        exact k
      have hc87 : (2 : Int32) = ((0 : Int32) + (2 : Int32)) := by decide
      refine OwnGo.of (A := T79.setTop (mkF m 221 #[.val (.int p0), .val (.int p1), .val (.int p2), .val (.int cp), .val (.int (0 : Int32)), .val (.int s1), .val (.ref b18), .val (.int (2 : Int32)), .val (.int b0), .val (.int (2 : Int32)), .val (.int (((128 : Int32) + ((b0 - (128 : Int32)) * (128 : Int32))) + b1)), .val (.int b1), .unset] [(.int ((0 : Int32) + (2 : Int32))), (.int (2 : Int32))])) (B := T79.setTop (mkF m 229 #[.val (.int p0), .val (.int p1), .val (.int p2), .val (.int cp), .val (.int (0 : Int32)), .val (.int s1), .val (.ref b18), .val (.int (2 : Int32)), .val (.int b0), .val (.int (2 : Int32)), .val (.int (((128 : Int32) + ((b0 - (128 : Int32)) * (128 : Int32))) + b1)), .val (.int b1), .unset] [(.int cp), (.int (((128 : Int32) + ((b0 - (128 : Int32)) * (128 : Int32))) + b1))])) (fun t k => ?_) ?_
      · show Steps p.tables e below (T79.setTop (mkF m 221 #[.val (.int p0), .val (.int p1), .val (.int p2), .val (.int cp), .val (.int (0 : Int32)), .val (.int s1), .val (.ref b18), .val (.int (2 : Int32)), .val (.int b0), .val (.int (2 : Int32)), .val (.int (((128 : Int32) + ((b0 - (128 : Int32)) * (128 : Int32))) + b1)), .val (.int b1), .unset] [(.int ((0 : Int32) + (2 : Int32))), (.int (2 : Int32))])) t
        refine XS.icmpYes X79.here hx rfl (pc0 := 221) (pc' := 226) rfl (hb hby at_221) rfl (teq hc87).1 (by decide) (by decide) ?_
        show Steps p.tables e below (T79.setTop (mkF m 226 #[.val (.int p0), .val (.int p1), .val (.int p2), .val (.int cp), .val (.int (0 : Int32)), .val (.int s1), .val (.ref b18), .val (.int (2 : Int32)), .val (.int b0), .val (.int (2 : Int32)), .val (.int (((128 : Int32) + ((b0 - (128 : Int32)) * (128 : Int32))) + b1)), .val (.int b1), .unset] [])) t
        refine XS.iload X79.here hx rfl (hb hby at_226) rfl ?_
        show Steps p.tables e below (T79.setTop (mkF m 228 #[.val (.int p0), .val (.int p1), .val (.int p2), .val (.int cp), .val (.int (0 : Int32)), .val (.int s1), .val (.ref b18), .val (.int (2 : Int32)), .val (.int b0), .val (.int (2 : Int32)), .val (.int (((128 : Int32) + ((b0 - (128 : Int32)) * (128 : Int32))) + b1)), .val (.int b1), .unset] [(.int (((128 : Int32) + ((b0 - (128 : Int32)) * (128 : Int32))) + b1))])) t
        refine XS.iloadN X79.here hx rfl (hb hby at_228) rfl ?_
        exact k
      have hc88 : (((128 : Int32) + ((b0 - (128 : Int32)) * (128 : Int32))) + b1) = cp := own_vB cp b0 b1 hcb tb0 tb1
      refine OwnGo.of (A := T79.setTop (mkF m 229 #[.val (.int p0), .val (.int p1), .val (.int p2), .val (.int cp), .val (.int (0 : Int32)), .val (.int s1), .val (.ref b18), .val (.int (2 : Int32)), .val (.int b0), .val (.int (2 : Int32)), .val (.int (((128 : Int32) + ((b0 - (128 : Int32)) * (128 : Int32))) + b1)), .val (.int b1), .unset] [(.int cp), (.int (((128 : Int32) + ((b0 - (128 : Int32)) * (128 : Int32))) + b1))])) (B := T79.setTop (mkF m 234 #[.val (.int p0), .val (.int p1), .val (.int p2), .val (.int cp), .val (.int (0 : Int32)), .val (.int s1), .val (.ref b18), .val (.int (2 : Int32)), .val (.int b0), .val (.int (2 : Int32)), .val (.int (((128 : Int32) + ((b0 - (128 : Int32)) * (128 : Int32))) + b1)), .val (.int b1), .unset] [])) (fun t k => ?_) ?_
      · show Steps p.tables e below (T79.setTop (mkF m 229 #[.val (.int p0), .val (.int p1), .val (.int p2), .val (.int cp), .val (.int (0 : Int32)), .val (.int s1), .val (.ref b18), .val (.int (2 : Int32)), .val (.int b0), .val (.int (2 : Int32)), .val (.int (((128 : Int32) + ((b0 - (128 : Int32)) * (128 : Int32))) + b1)), .val (.int b1), .unset] [(.int cp), (.int (((128 : Int32) + ((b0 - (128 : Int32)) * (128 : Int32))) + b1))])) t
        refine XS.icmpYes X79.here hx rfl (pc0 := 229) (pc' := 234) rfl (hb hby at_229) rfl (teq hc88).1 (by decide) (by decide) ?_
        exact k
      exact J234 T79 _ _ (.val (.int p0)) (.val (.int p1)) (.val (.int p2)) (.val (.int cp)) (.val (.int b0)) (.val (.int (2 : Int32))) (.val (.int (((128 : Int32) + ((b0 - (128 : Int32)) * (128 : Int32))) + b1))) (.val (.int b1)) (.unset) (0 : Int32) s1 (2 : Int32) b18 (((((128 : Int32) ||| (((cp - ((128 : Int64).toInt32)).toUInt32 >>> ((7 : Int32) &&& 31).toUInt32).toInt32)).toInt8.toInt32)).toInt8.toInt32) (((((cp - ((128 : Int64).toInt32)) &&& (127 : Int32)).toInt8.toInt32)).toInt8.toInt32) ((s1).toInt8.toInt32) ((s1).toInt8.toInt32) ((s1).toInt8.toInt32) ((s1).toInt8.toInt32) ((s1).toInt8.toInt32) ((s1).toInt8.toInt32) k18 X79 rfl N79 f80 y79_0 (by simp [own_k0, hs]) (by simp [own_k1, hs]) (by simp [own_k2, hs]) (by simp [own_k3, hs]) (by simp [own_k4, hs]) (by simp [own_k5, hs]) (by simp [own_k6, hs]) (by simp [own_k7, hs])
    · show OwnGo p.tables e below _ (T66.setTop (mkF m 78 #[.val (.int p0), .val (.int p1), .val (.int p2), .val (.int cp), .val (.int (0 : Int32)), .val (.int s1), .val (.ref b18), .unset, .unset, .unset, .unset, .unset, .unset] [(.int (0 : Int32)), (.ref b18), (.int cp)]))
      obtain ⟨_, _, ⟨T89, L89, k89, n89⟩, -, X89, ⟨Lc89, hQ89, l89, y89, z89⟩, st89⟩ := Jvm.LawKit.callS X66 hx (y := (⟨"com/example/sevenfold/sevenfold/Natural", "writeCodePoint", "(I[BI)I"⟩ : MethodName)) hown (mvT hZ (hw _ (List.mem_of_getElem? (i := 3) rfl))) (mvT hZ (hw _ (List.mem_of_getElem? (i := 4) rfl))) (mvT hZ (hw _ (List.mem_of_getElem? (i := 5) rfl))) (mvT hZ (hw _ (List.mem_of_getElem? (i := 6) rfl))) (by decide) (backOf (W := 0) (rm1_0C l Z aw hw [] cp b18 (s1).toInt8.toInt32 (s1).toInt8.toInt32 (s1).toInt8.toInt32 (s1).toInt8.toInt32 (s1).toInt8.toInt32 (s1).toInt8.toInt32 (s1).toInt8.toInt32 (s1).toInt8.toInt32 k18 wF kf h66 n0 f67 f68 f69 f70 g_b18 ne_wF_b18 hA hB) hZ (hw _ (List.mem_of_getElem? (i := 6) rfl)) (hw _ (List.mem_of_getElem? (i := 5) rfl)) (by decide) (by decide)) (g := (mkF m 78 #[.val (.int p0), .val (.int p1), .val (.int p2), .val (.int cp), .val (.int (0 : Int32)), .val (.int s1), .val (.ref b18), .unset, .unset, .unset, .unset, .unset, .unset] [(.int (0 : Int32)), (.ref b18), (.int cp)])) rfl (by rw [hml]; rfl) (argsL := [(.int cp), (.ref b18), (.int (0 : Int32))]) (rest := []) (lenOf pd_3 rfl) rfl (by show 2 * 0 + _ ≤ _; exact Nat.le_of_eq rfl) (hb hby at_78) (fun _ _ => ⟨rfl, e66, (by decide : 1 + 0 ≤ _), (by decide : 8 + 0 ≤ _)⟩)
      dsimp only [Pt.U, Pt.locs, Pt.cells, Pt.slots] at X89 l89 y89 z89 st89 hQ89
      subst l89 y89 z89
      obtain ⟨rfl, N89q, K89, y89_0⟩ := hQ89
      have f90 : n0 ≤ T89.heap.size := Nat.le_trans f67 K89.1
      have f91 : Sta Z T89.heap "com/example/sevenfold/sevenfold/Natural" "FIRST_OF_LENGTH" "[J" (.ref wF) := own_sta_keep f68 K89 (allS (own_ns_arv f70) all0)
      have f92 : Arv Z T89.heap wF kf .long (10 : Int32) [(.long (0 : Int64)), (.long (0 : Int64)), (.long (128 : Int64)), (.long (16512 : Int64)), (.long (2113664 : Int64)), (.long (270549120 : Int64)), (.long (34630287488 : Int64)), (.long (4432676798592 : Int64)), (.long (567382630219904 : Int64)), (.long (72624976668147840 : Int64))] (.long (0 : Int64)) := f69.keep K89 (ninS ne_wF_b18 nin0)
      have N89 := Fr.app N66 N89q
      refine OwnGo.of st89 ?_
      show OwnGo p.tables e below _ (T89.setTop (mkF m 81 #[.val (.int p0), .val (.int p1), .val (.int p2), .val (.int cp), .val (.int (0 : Int32)), .val (.int s1), .val (.ref b18), .unset, .unset, .unset, .unset, .unset, .unset] [(.int (3 : Int32))]))
      refine OwnGo.of (A := T89.setTop (mkF m 81 #[.val (.int p0), .val (.int p1), .val (.int p2), .val (.int cp), .val (.int (0 : Int32)), .val (.int s1), .val (.ref b18), .unset, .unset, .unset, .unset, .unset, .unset] [(.int (3 : Int32))])) (B := T89.setTop (mkF m 87 #[.val (.int p0), .val (.int p1), .val (.int p2), .val (.int cp), .val (.int (0 : Int32)), .val (.int s1), .val (.ref b18), .val (.int (3 : Int32)), .unset, .unset, .unset, .unset, .unset] [(.int (0 : Int32)), (.ref b18)])) (fun t k => ?_) ?_
      · show Steps p.tables e below (T89.setTop (mkF m 81 #[.val (.int p0), .val (.int p1), .val (.int p2), .val (.int cp), .val (.int (0 : Int32)), .val (.int s1), .val (.ref b18), .unset, .unset, .unset, .unset, .unset, .unset] [(.int (3 : Int32))])) t
        refine XS.istore X89.here hx rfl (hb hby at_81) rfl (l' := #[.val (.int p0), .val (.int p1), .val (.int p2), .val (.int cp), .val (.int (0 : Int32)), .val (.int s1), .val (.ref b18), .val (.int (3 : Int32)), .unset, .unset, .unset, .unset, .unset]) rfl ?_
        show Steps p.tables e below (T89.setTop (mkF m 83 #[.val (.int p0), .val (.int p1), .val (.int p2), .val (.int cp), .val (.int (0 : Int32)), .val (.int s1), .val (.ref b18), .val (.int (3 : Int32)), .unset, .unset, .unset, .unset, .unset] [])) t
        refine XS.aload X89.here hx rfl (hb hby at_83) rfl rfl ?_
        show Steps p.tables e below (T89.setTop (mkF m 85 #[.val (.int p0), .val (.int p1), .val (.int p2), .val (.int cp), .val (.int (0 : Int32)), .val (.int s1), .val (.ref b18), .val (.int (3 : Int32)), .unset, .unset, .unset, .unset, .unset] [(.ref b18)])) t
        refine XS.iload X89.here hx rfl (hb hby at_85) rfl ?_
        exact k
      have cq93 := y89_0
      obtain ⟨clq93, Arq93, qq93, Sq93, Nq93, Hq93, Gq93⟩ := cq93
      have hinq93 := inb_of (j := (0 : Int32)) Sq93 ⟨by decide, by decide⟩
      refine OwnGo.of (X89.baloadBytes hx (j := (0 : Int32)) (v := (.int ((((128 : Int32) ||| (((cp - ((16512 : Int64).toInt32)).toUInt32 >>> ((14 : Int32) &&& 31).toUInt32).toInt32)).toInt8.toInt32)).toInt8.toInt32)) Arq93.1 (State.isArrayOf_alike hZ.alike Arq93.2.1) Arq93.2.2 hinq93 (Hq93.at hinq93 rfl) (g := (mkF m 87 #[.val (.int p0), .val (.int p1), .val (.int p2), .val (.int cp), .val (.int (0 : Int32)), .val (.int s1), .val (.ref b18), .val (.int (3 : Int32)), .unset, .unset, .unset, .unset, .unset] [(.int (0 : Int32)), (.ref b18)])) rfl rfl (hb hby at_87)) ?_
      show OwnGo p.tables e below _ (T89.setTop (mkF m 88 #[.val (.int p0), .val (.int p1), .val (.int p2), .val (.int cp), .val (.int (0 : Int32)), .val (.int s1), .val (.ref b18), .val (.int (3 : Int32)), .unset, .unset, .unset, .unset, .unset] [(.int ((((128 : Int32) ||| (((cp - ((16512 : Int64).toInt32)).toUInt32 >>> ((14 : Int32) &&& 31).toUInt32).toInt32)).toInt8.toInt32)).toInt8.toInt32)]))
      refine OwnGo.of (A := T89.setTop (mkF m 88 #[.val (.int p0), .val (.int p1), .val (.int p2), .val (.int cp), .val (.int (0 : Int32)), .val (.int s1), .val (.ref b18), .val (.int (3 : Int32)), .unset, .unset, .unset, .unset, .unset] [(.int ((((128 : Int32) ||| (((cp - ((16512 : Int64).toInt32)).toUInt32 >>> ((14 : Int32) &&& 31).toUInt32).toInt32)).toInt8.toInt32)).toInt8.toInt32)])) (B := T89.setTop (mkF m 94 #[.val (.int p0), .val (.int p1), .val (.int p2), .val (.int cp), .val (.int (0 : Int32)), .val (.int s1), .val (.ref b18), .val (.int (3 : Int32)), .val (.int (((((128 : Int32) ||| (((cp - ((16512 : Int64).toInt32)).toUInt32 >>> ((14 : Int32) &&& 31).toUInt32).toInt32)).toInt8.toInt32)).toInt8.toInt32 &&& (255 : Int32))), .unset, .unset, .unset, .unset] [])) (fun t k => ?_) ?_
      · show Steps p.tables e below (T89.setTop (mkF m 88 #[.val (.int p0), .val (.int p1), .val (.int p2), .val (.int cp), .val (.int (0 : Int32)), .val (.int s1), .val (.ref b18), .val (.int (3 : Int32)), .unset, .unset, .unset, .unset, .unset] [(.int ((((128 : Int32) ||| (((cp - ((16512 : Int64).toInt32)).toUInt32 >>> ((14 : Int32) &&& 31).toUInt32).toInt32)).toInt8.toInt32)).toInt8.toInt32)])) t
        refine XS.sipush X89.here hx rfl (hb hby at_88) ?_
        show Steps p.tables e below (T89.setTop (mkF m 91 #[.val (.int p0), .val (.int p1), .val (.int p2), .val (.int cp), .val (.int (0 : Int32)), .val (.int s1), .val (.ref b18), .val (.int (3 : Int32)), .unset, .unset, .unset, .unset, .unset] [(.int (255 : Int32)), (.int ((((128 : Int32) ||| (((cp - ((16512 : Int64).toInt32)).toUInt32 >>> ((14 : Int32) &&& 31).toUInt32).toInt32)).toInt8.toInt32)).toInt8.toInt32)])) t
        refine XS.iand X89.here hx rfl (hb hby at_91) rfl ?_
        show Steps p.tables e below (T89.setTop (mkF m 92 #[.val (.int p0), .val (.int p1), .val (.int p2), .val (.int cp), .val (.int (0 : Int32)), .val (.int s1), .val (.ref b18), .val (.int (3 : Int32)), .unset, .unset, .unset, .unset, .unset] [(.int (((((128 : Int32) ||| (((cp - ((16512 : Int64).toInt32)).toUInt32 >>> ((14 : Int32) &&& 31).toUInt32).toInt32)).toInt8.toInt32)).toInt8.toInt32 &&& (255 : Int32)))])) t
        refine XS.istore X89.here hx rfl (hb hby at_92) rfl (l' := #[.val (.int p0), .val (.int p1), .val (.int p2), .val (.int cp), .val (.int (0 : Int32)), .val (.int s1), .val (.ref b18), .val (.int (3 : Int32)), .val (.int (((((128 : Int32) ||| (((cp - ((16512 : Int64).toInt32)).toUInt32 >>> ((14 : Int32) &&& 31).toUInt32).toInt32)).toInt8.toInt32)).toInt8.toInt32 &&& (255 : Int32))), .unset, .unset, .unset, .unset]) rfl ?_
        exact k
      obtain ⟨b0, hb0⟩ : ∃ z, z = (((((128 : Int32) ||| (((cp - ((16512 : Int64).toInt32)).toUInt32 >>> ((14 : Int32) &&& 31).toUInt32).toInt32)).toInt8.toInt32)).toInt8.toInt32 &&& (255 : Int32)) := ⟨_, rfl⟩
      have tb0 : b0.toInt = 128 + (cp.toInt - 16512) / 16384 := by subst hb0; exact own_C0 cp hcb hB
      rw [← hb0]
      show OwnGo p.tables e below _ (T89.setTop (mkF m 94 #[.val (.int p0), .val (.int p1), .val (.int p2), .val (.int cp), .val (.int (0 : Int32)), .val (.int s1), .val (.ref b18), .val (.int (3 : Int32)), .val (.int b0), .unset, .unset, .unset, .unset] []))
      refine OwnGo.of (A := T89.setTop (mkF m 94 #[.val (.int p0), .val (.int p1), .val (.int p2), .val (.int cp), .val (.int (0 : Int32)), .val (.int s1), .val (.ref b18), .val (.int (3 : Int32)), .val (.int b0), .unset, .unset, .unset, .unset] [])) (B := T89.setTop (mkF m 99 #[.val (.int p0), .val (.int p1), .val (.int p2), .val (.int cp), .val (.int (0 : Int32)), .val (.int s1), .val (.ref b18), .val (.int (3 : Int32)), .val (.int b0), .unset, .unset, .unset, .unset] [(.int (128 : Int32)), (.int b0)])) (fun t k => ?_) ?_
      · show Steps p.tables e below (T89.setTop (mkF m 94 #[.val (.int p0), .val (.int p1), .val (.int p2), .val (.int cp), .val (.int (0 : Int32)), .val (.int s1), .val (.ref b18), .val (.int (3 : Int32)), .val (.int b0), .unset, .unset, .unset, .unset] [])) t
        refine XS.iload X89.here hx rfl (hb hby at_94) rfl ?_
        show Steps p.tables e below (T89.setTop (mkF m 96 #[.val (.int p0), .val (.int p1), .val (.int p2), .val (.int cp), .val (.int (0 : Int32)), .val (.int s1), .val (.ref b18), .val (.int (3 : Int32)), .val (.int b0), .unset, .unset, .unset, .unset] [(.int b0)])) t
        refine XS.sipush X89.here hx rfl (hb hby at_96) ?_
        exact k
      have hc94 : ¬ (b0 < (128 : Int32)) := by rw [own_lt128]; rw [own_127] at hA; rw [own_l16] at hB; omega
      refine OwnGo.of (A := T89.setTop (mkF m 99 #[.val (.int p0), .val (.int p1), .val (.int p2), .val (.int cp), .val (.int (0 : Int32)), .val (.int s1), .val (.ref b18), .val (.int (3 : Int32)), .val (.int b0), .unset, .unset, .unset, .unset] [(.int (128 : Int32)), (.int b0)])) (B := T89.setTop (mkF m 118 #[.val (.int p0), .val (.int p1), .val (.int p2), .val (.int cp), .val (.int (0 : Int32)), .val (.int s1), .val (.ref b18), .val (.int (3 : Int32)), .val (.int b0), .unset, .unset, .unset, .unset] [(.int ((0 : Int32) + (1 : Int32))), (.ref b18)])) (fun t k => ?_) ?_
      · show Steps p.tables e below (T89.setTop (mkF m 99 #[.val (.int p0), .val (.int p1), .val (.int p2), .val (.int cp), .val (.int (0 : Int32)), .val (.int s1), .val (.ref b18), .val (.int (3 : Int32)), .val (.int b0), .unset, .unset, .unset, .unset] [(.int (128 : Int32)), (.int b0)])) t
        refine XS.icmpYes X89.here hx rfl (pc0 := 99) (pc' := 112) rfl (hb hby at_99) rfl (flt hc94).2.1 (by decide) (by decide) ?_
        show Steps p.tables e below (T89.setTop (mkF m 112 #[.val (.int p0), .val (.int p1), .val (.int p2), .val (.int cp), .val (.int (0 : Int32)), .val (.int s1), .val (.ref b18), .val (.int (3 : Int32)), .val (.int b0), .unset, .unset, .unset, .unset] [])) t
        refine XS.aload X89.here hx rfl (hb hby at_112) rfl rfl ?_
        show Steps p.tables e below (T89.setTop (mkF m 114 #[.val (.int p0), .val (.int p1), .val (.int p2), .val (.int cp), .val (.int (0 : Int32)), .val (.int s1), .val (.ref b18), .val (.int (3 : Int32)), .val (.int b0), .unset, .unset, .unset, .unset] [(.ref b18)])) t
        refine XS.iload X89.here hx rfl (hb hby at_114) rfl ?_
        show Steps p.tables e below (T89.setTop (mkF m 116 #[.val (.int p0), .val (.int p1), .val (.int p2), .val (.int cp), .val (.int (0 : Int32)), .val (.int s1), .val (.ref b18), .val (.int (3 : Int32)), .val (.int b0), .unset, .unset, .unset, .unset] [(.int (0 : Int32)), (.ref b18)])) t
        refine XS.iconst X89.here hx rfl (hb hby at_116) ?_
        show Steps p.tables e below (T89.setTop (mkF m 117 #[.val (.int p0), .val (.int p1), .val (.int p2), .val (.int cp), .val (.int (0 : Int32)), .val (.int s1), .val (.ref b18), .val (.int (3 : Int32)), .val (.int b0), .unset, .unset, .unset, .unset] [(.int (1 : Int32)), (.int (0 : Int32)), (.ref b18)])) t
        refine XS.iadd X89.here hx rfl (hb hby at_117) rfl ?_
        exact k
      rw [show ((0 : Int32) + (1 : Int32)) = (1 : Int32) from by decide]
      show OwnGo p.tables e below _ (T89.setTop (mkF m 118 #[.val (.int p0), .val (.int p1), .val (.int p2), .val (.int cp), .val (.int (0 : Int32)), .val (.int s1), .val (.ref b18), .val (.int (3 : Int32)), .val (.int b0), .unset, .unset, .unset, .unset] [(.int (1 : Int32)), (.ref b18)]))
      have cq95 := y89_0
      obtain ⟨clq95, Arq95, qq95, Sq95, Nq95, Hq95, Gq95⟩ := cq95
      have hinq95 := inb_of (j := (1 : Int32)) Sq95 ⟨by decide, by decide⟩
      refine OwnGo.of (X89.baloadBytes hx (j := (1 : Int32)) (v := (.int ((((128 : Int32) ||| ((((cp - ((16512 : Int64).toInt32)).toUInt32 >>> ((7 : Int32) &&& 31).toUInt32).toInt32) &&& (127 : Int32))).toInt8.toInt32)).toInt8.toInt32)) Arq95.1 (State.isArrayOf_alike hZ.alike Arq95.2.1) Arq95.2.2 hinq95 (Hq95.at hinq95 rfl) (g := (mkF m 118 #[.val (.int p0), .val (.int p1), .val (.int p2), .val (.int cp), .val (.int (0 : Int32)), .val (.int s1), .val (.ref b18), .val (.int (3 : Int32)), .val (.int b0), .unset, .unset, .unset, .unset] [(.int (1 : Int32)), (.ref b18)])) rfl rfl (hb hby at_118)) ?_
      show OwnGo p.tables e below _ (T89.setTop (mkF m 119 #[.val (.int p0), .val (.int p1), .val (.int p2), .val (.int cp), .val (.int (0 : Int32)), .val (.int s1), .val (.ref b18), .val (.int (3 : Int32)), .val (.int b0), .unset, .unset, .unset, .unset] [(.int ((((128 : Int32) ||| ((((cp - ((16512 : Int64).toInt32)).toUInt32 >>> ((7 : Int32) &&& 31).toUInt32).toInt32) &&& (127 : Int32))).toInt8.toInt32)).toInt8.toInt32)]))
      refine OwnGo.of (A := T89.setTop (mkF m 119 #[.val (.int p0), .val (.int p1), .val (.int p2), .val (.int cp), .val (.int (0 : Int32)), .val (.int s1), .val (.ref b18), .val (.int (3 : Int32)), .val (.int b0), .unset, .unset, .unset, .unset] [(.int ((((128 : Int32) ||| ((((cp - ((16512 : Int64).toInt32)).toUInt32 >>> ((7 : Int32) &&& 31).toUInt32).toInt32) &&& (127 : Int32))).toInt8.toInt32)).toInt8.toInt32)])) (B := T89.setTop (mkF m 125 #[.val (.int p0), .val (.int p1), .val (.int p2), .val (.int cp), .val (.int (0 : Int32)), .val (.int s1), .val (.ref b18), .val (.int (3 : Int32)), .val (.int b0), .unset, .unset, .val (.int (((((128 : Int32) ||| ((((cp - ((16512 : Int64).toInt32)).toUInt32 >>> ((7 : Int32) &&& 31).toUInt32).toInt32) &&& (127 : Int32))).toInt8.toInt32)).toInt8.toInt32 &&& (255 : Int32))), .unset] [])) (fun t k => ?_) ?_
      · show Steps p.tables e below (T89.setTop (mkF m 119 #[.val (.int p0), .val (.int p1), .val (.int p2), .val (.int cp), .val (.int (0 : Int32)), .val (.int s1), .val (.ref b18), .val (.int (3 : Int32)), .val (.int b0), .unset, .unset, .unset, .unset] [(.int ((((128 : Int32) ||| ((((cp - ((16512 : Int64).toInt32)).toUInt32 >>> ((7 : Int32) &&& 31).toUInt32).toInt32) &&& (127 : Int32))).toInt8.toInt32)).toInt8.toInt32)])) t
        refine XS.sipush X89.here hx rfl (hb hby at_119) ?_
        show Steps p.tables e below (T89.setTop (mkF m 122 #[.val (.int p0), .val (.int p1), .val (.int p2), .val (.int cp), .val (.int (0 : Int32)), .val (.int s1), .val (.ref b18), .val (.int (3 : Int32)), .val (.int b0), .unset, .unset, .unset, .unset] [(.int (255 : Int32)), (.int ((((128 : Int32) ||| ((((cp - ((16512 : Int64).toInt32)).toUInt32 >>> ((7 : Int32) &&& 31).toUInt32).toInt32) &&& (127 : Int32))).toInt8.toInt32)).toInt8.toInt32)])) t
        refine XS.iand X89.here hx rfl (hb hby at_122) rfl ?_
        show Steps p.tables e below (T89.setTop (mkF m 123 #[.val (.int p0), .val (.int p1), .val (.int p2), .val (.int cp), .val (.int (0 : Int32)), .val (.int s1), .val (.ref b18), .val (.int (3 : Int32)), .val (.int b0), .unset, .unset, .unset, .unset] [(.int (((((128 : Int32) ||| ((((cp - ((16512 : Int64).toInt32)).toUInt32 >>> ((7 : Int32) &&& 31).toUInt32).toInt32) &&& (127 : Int32))).toInt8.toInt32)).toInt8.toInt32 &&& (255 : Int32)))])) t
        refine XS.istore X89.here hx rfl (hb hby at_123) rfl (l' := #[.val (.int p0), .val (.int p1), .val (.int p2), .val (.int cp), .val (.int (0 : Int32)), .val (.int s1), .val (.ref b18), .val (.int (3 : Int32)), .val (.int b0), .unset, .unset, .val (.int (((((128 : Int32) ||| ((((cp - ((16512 : Int64).toInt32)).toUInt32 >>> ((7 : Int32) &&& 31).toUInt32).toInt32) &&& (127 : Int32))).toInt8.toInt32)).toInt8.toInt32 &&& (255 : Int32))), .unset]) rfl ?_
        exact k
      obtain ⟨b1, hb1⟩ : ∃ z, z = (((((128 : Int32) ||| ((((cp - ((16512 : Int64).toInt32)).toUInt32 >>> ((7 : Int32) &&& 31).toUInt32).toInt32) &&& (127 : Int32))).toInt8.toInt32)).toInt8.toInt32 &&& (255 : Int32)) := ⟨_, rfl⟩
      have tb1 : b1.toInt = 128 + (cp.toInt - 16512) / 128 % 128 := by subst hb1; exact own_C1 cp hcb hB
      rw [← hb1]
      show OwnGo p.tables e below _ (T89.setTop (mkF m 125 #[.val (.int p0), .val (.int p1), .val (.int p2), .val (.int cp), .val (.int (0 : Int32)), .val (.int s1), .val (.ref b18), .val (.int (3 : Int32)), .val (.int b0), .unset, .unset, .val (.int b1), .unset] []))
      refine OwnGo.of (A := T89.setTop (mkF m 125 #[.val (.int p0), .val (.int p1), .val (.int p2), .val (.int cp), .val (.int (0 : Int32)), .val (.int s1), .val (.ref b18), .val (.int (3 : Int32)), .val (.int b0), .unset, .unset, .val (.int b1), .unset] [])) (B := T89.setTop (mkF m 130 #[.val (.int p0), .val (.int p1), .val (.int p2), .val (.int cp), .val (.int (0 : Int32)), .val (.int s1), .val (.ref b18), .val (.int (3 : Int32)), .val (.int b0), .unset, .unset, .val (.int b1), .unset] [(.int (128 : Int32)), (.int b1)])) (fun t k => ?_) ?_
      · show Steps p.tables e below (T89.setTop (mkF m 125 #[.val (.int p0), .val (.int p1), .val (.int p2), .val (.int cp), .val (.int (0 : Int32)), .val (.int s1), .val (.ref b18), .val (.int (3 : Int32)), .val (.int b0), .unset, .unset, .val (.int b1), .unset] [])) t
        refine XS.iload X89.here hx rfl (hb hby at_125) rfl ?_
        show Steps p.tables e below (T89.setTop (mkF m 127 #[.val (.int p0), .val (.int p1), .val (.int p2), .val (.int cp), .val (.int (0 : Int32)), .val (.int s1), .val (.ref b18), .val (.int (3 : Int32)), .val (.int b0), .unset, .unset, .val (.int b1), .unset] [(.int b1)])) t
        refine XS.sipush X89.here hx rfl (hb hby at_127) ?_
        exact k
      have hc96 : ¬ (b1 < (128 : Int32)) := by rw [own_lt128]; rw [own_127] at hA; rw [own_l16] at hB; omega
      refine OwnGo.of (A := T89.setTop (mkF m 130 #[.val (.int p0), .val (.int p1), .val (.int p2), .val (.int cp), .val (.int (0 : Int32)), .val (.int s1), .val (.ref b18), .val (.int (3 : Int32)), .val (.int b0), .unset, .unset, .val (.int b1), .unset] [(.int (128 : Int32)), (.int b1)])) (B := T89.setTop (mkF m 164 #[.val (.int p0), .val (.int p1), .val (.int p2), .val (.int cp), .val (.int (0 : Int32)), .val (.int s1), .val (.ref b18), .val (.int (3 : Int32)), .val (.int b0), .unset, .unset, .val (.int b1), .unset] [(.int ((0 : Int32) + (2 : Int32))), (.ref b18)])) (fun t k => ?_) ?_
      · show Steps p.tables e below (T89.setTop (mkF m 130 #[.val (.int p0), .val (.int p1), .val (.int p2), .val (.int cp), .val (.int (0 : Int32)), .val (.int s1), .val (.ref b18), .val (.int (3 : Int32)), .val (.int b0), .unset, .unset, .val (.int b1), .unset] [(.int (128 : Int32)), (.int b1)])) t
        refine XS.icmpYes X89.here hx rfl (pc0 := 130) (pc' := 158) rfl (hb hby at_130) rfl (flt hc96).2.1 (by decide) (by decide) ?_
        show Steps p.tables e below (T89.setTop (mkF m 158 #[.val (.int p0), .val (.int p1), .val (.int p2), .val (.int cp), .val (.int (0 : Int32)), .val (.int s1), .val (.ref b18), .val (.int (3 : Int32)), .val (.int b0), .unset, .unset, .val (.int b1), .unset] [])) t
        refine XS.aload X89.here hx rfl (hb hby at_158) rfl rfl ?_
        show Steps p.tables e below (T89.setTop (mkF m 160 #[.val (.int p0), .val (.int p1), .val (.int p2), .val (.int cp), .val (.int (0 : Int32)), .val (.int s1), .val (.ref b18), .val (.int (3 : Int32)), .val (.int b0), .unset, .unset, .val (.int b1), .unset] [(.ref b18)])) t
        refine XS.iload X89.here hx rfl (hb hby at_160) rfl ?_
        show Steps p.tables e below (T89.setTop (mkF m 162 #[.val (.int p0), .val (.int p1), .val (.int p2), .val (.int cp), .val (.int (0 : Int32)), .val (.int s1), .val (.ref b18), .val (.int (3 : Int32)), .val (.int b0), .unset, .unset, .val (.int b1), .unset] [(.int (0 : Int32)), (.ref b18)])) t
        refine XS.iconst X89.here hx rfl (hb hby at_162) ?_
        show Steps p.tables e below (T89.setTop (mkF m 163 #[.val (.int p0), .val (.int p1), .val (.int p2), .val (.int cp), .val (.int (0 : Int32)), .val (.int s1), .val (.ref b18), .val (.int (3 : Int32)), .val (.int b0), .unset, .unset, .val (.int b1), .unset] [(.int (2 : Int32)), (.int (0 : Int32)), (.ref b18)])) t
        refine XS.iadd X89.here hx rfl (hb hby at_163) rfl ?_
        exact k
      rw [show ((0 : Int32) + (2 : Int32)) = (2 : Int32) from by decide]
      show OwnGo p.tables e below _ (T89.setTop (mkF m 164 #[.val (.int p0), .val (.int p1), .val (.int p2), .val (.int cp), .val (.int (0 : Int32)), .val (.int s1), .val (.ref b18), .val (.int (3 : Int32)), .val (.int b0), .unset, .unset, .val (.int b1), .unset] [(.int (2 : Int32)), (.ref b18)]))
      have cq97 := y89_0
      obtain ⟨clq97, Arq97, qq97, Sq97, Nq97, Hq97, Gq97⟩ := cq97
      have hinq97 := inb_of (j := (2 : Int32)) Sq97 ⟨by decide, by decide⟩
      refine OwnGo.of (X89.baloadBytes hx (j := (2 : Int32)) (v := (.int ((((cp - ((16512 : Int64).toInt32)) &&& (127 : Int32)).toInt8.toInt32)).toInt8.toInt32)) Arq97.1 (State.isArrayOf_alike hZ.alike Arq97.2.1) Arq97.2.2 hinq97 (Hq97.at hinq97 rfl) (g := (mkF m 164 #[.val (.int p0), .val (.int p1), .val (.int p2), .val (.int cp), .val (.int (0 : Int32)), .val (.int s1), .val (.ref b18), .val (.int (3 : Int32)), .val (.int b0), .unset, .unset, .val (.int b1), .unset] [(.int (2 : Int32)), (.ref b18)])) rfl rfl (hb hby at_164)) ?_
      show OwnGo p.tables e below _ (T89.setTop (mkF m 165 #[.val (.int p0), .val (.int p1), .val (.int p2), .val (.int cp), .val (.int (0 : Int32)), .val (.int s1), .val (.ref b18), .val (.int (3 : Int32)), .val (.int b0), .unset, .unset, .val (.int b1), .unset] [(.int ((((cp - ((16512 : Int64).toInt32)) &&& (127 : Int32)).toInt8.toInt32)).toInt8.toInt32)]))
      refine OwnGo.of (A := T89.setTop (mkF m 165 #[.val (.int p0), .val (.int p1), .val (.int p2), .val (.int cp), .val (.int (0 : Int32)), .val (.int s1), .val (.ref b18), .val (.int (3 : Int32)), .val (.int b0), .unset, .unset, .val (.int b1), .unset] [(.int ((((cp - ((16512 : Int64).toInt32)) &&& (127 : Int32)).toInt8.toInt32)).toInt8.toInt32)])) (B := T89.setTop (mkF m 171 #[.val (.int p0), .val (.int p1), .val (.int p2), .val (.int cp), .val (.int (0 : Int32)), .val (.int s1), .val (.ref b18), .val (.int (3 : Int32)), .val (.int b0), .unset, .unset, .val (.int b1), .val (.int (((((cp - ((16512 : Int64).toInt32)) &&& (127 : Int32)).toInt8.toInt32)).toInt8.toInt32 &&& (255 : Int32)))] [])) (fun t k => ?_) ?_
      · show Steps p.tables e below (T89.setTop (mkF m 165 #[.val (.int p0), .val (.int p1), .val (.int p2), .val (.int cp), .val (.int (0 : Int32)), .val (.int s1), .val (.ref b18), .val (.int (3 : Int32)), .val (.int b0), .unset, .unset, .val (.int b1), .unset] [(.int ((((cp - ((16512 : Int64).toInt32)) &&& (127 : Int32)).toInt8.toInt32)).toInt8.toInt32)])) t
        refine XS.sipush X89.here hx rfl (hb hby at_165) ?_
        show Steps p.tables e below (T89.setTop (mkF m 168 #[.val (.int p0), .val (.int p1), .val (.int p2), .val (.int cp), .val (.int (0 : Int32)), .val (.int s1), .val (.ref b18), .val (.int (3 : Int32)), .val (.int b0), .unset, .unset, .val (.int b1), .unset] [(.int (255 : Int32)), (.int ((((cp - ((16512 : Int64).toInt32)) &&& (127 : Int32)).toInt8.toInt32)).toInt8.toInt32)])) t
        refine XS.iand X89.here hx rfl (hb hby at_168) rfl ?_
        show Steps p.tables e below (T89.setTop (mkF m 169 #[.val (.int p0), .val (.int p1), .val (.int p2), .val (.int cp), .val (.int (0 : Int32)), .val (.int s1), .val (.ref b18), .val (.int (3 : Int32)), .val (.int b0), .unset, .unset, .val (.int b1), .unset] [(.int (((((cp - ((16512 : Int64).toInt32)) &&& (127 : Int32)).toInt8.toInt32)).toInt8.toInt32 &&& (255 : Int32)))])) t
        refine XS.istore X89.here hx rfl (hb hby at_169) rfl (l' := #[.val (.int p0), .val (.int p1), .val (.int p2), .val (.int cp), .val (.int (0 : Int32)), .val (.int s1), .val (.ref b18), .val (.int (3 : Int32)), .val (.int b0), .unset, .unset, .val (.int b1), .val (.int (((((cp - ((16512 : Int64).toInt32)) &&& (127 : Int32)).toInt8.toInt32)).toInt8.toInt32 &&& (255 : Int32)))]) rfl ?_
        exact k
      obtain ⟨b2, hb2⟩ : ∃ z, z = (((((cp - ((16512 : Int64).toInt32)) &&& (127 : Int32)).toInt8.toInt32)).toInt8.toInt32 &&& (255 : Int32)) := ⟨_, rfl⟩
      have tb2 : b2.toInt = (cp.toInt - 16512) % 128 := by subst hb2; exact own_C2 cp hcb hB
      rw [← hb2]
      show OwnGo p.tables e below _ (T89.setTop (mkF m 171 #[.val (.int p0), .val (.int p1), .val (.int p2), .val (.int cp), .val (.int (0 : Int32)), .val (.int s1), .val (.ref b18), .val (.int (3 : Int32)), .val (.int b0), .unset, .unset, .val (.int b1), .val (.int b2)] []))
      refine OwnGo.of (A := T89.setTop (mkF m 171 #[.val (.int p0), .val (.int p1), .val (.int p2), .val (.int cp), .val (.int (0 : Int32)), .val (.int s1), .val (.ref b18), .val (.int (3 : Int32)), .val (.int b0), .unset, .unset, .val (.int b1), .val (.int b2)] [])) (B := T89.setTop (mkF m 176 #[.val (.int p0), .val (.int p1), .val (.int p2), .val (.int cp), .val (.int (0 : Int32)), .val (.int s1), .val (.ref b18), .val (.int (3 : Int32)), .val (.int b0), .unset, .unset, .val (.int b1), .val (.int b2)] [(.int (128 : Int32)), (.int b2)])) (fun t k => ?_) ?_
      · show Steps p.tables e below (T89.setTop (mkF m 171 #[.val (.int p0), .val (.int p1), .val (.int p2), .val (.int cp), .val (.int (0 : Int32)), .val (.int s1), .val (.ref b18), .val (.int (3 : Int32)), .val (.int b0), .unset, .unset, .val (.int b1), .val (.int b2)] [])) t
        refine XS.iload X89.here hx rfl (hb hby at_171) rfl ?_
        show Steps p.tables e below (T89.setTop (mkF m 173 #[.val (.int p0), .val (.int p1), .val (.int p2), .val (.int cp), .val (.int (0 : Int32)), .val (.int s1), .val (.ref b18), .val (.int (3 : Int32)), .val (.int b0), .unset, .unset, .val (.int b1), .val (.int b2)] [(.int b2)])) t
        refine XS.sipush X89.here hx rfl (hb hby at_173) ?_
        exact k
      have hc98 : b2 < (128 : Int32) := by rw [own_lt128]; rw [own_127] at hA; rw [own_l16] at hB; omega
      refine OwnGo.of (A := T89.setTop (mkF m 176 #[.val (.int p0), .val (.int p1), .val (.int p2), .val (.int cp), .val (.int (0 : Int32)), .val (.int s1), .val (.ref b18), .val (.int (3 : Int32)), .val (.int b0), .unset, .unset, .val (.int b1), .val (.int b2)] [(.int (128 : Int32)), (.int b2)])) (B := T89.setTop (mkF m 221 #[.val (.int p0), .val (.int p1), .val (.int p2), .val (.int cp), .val (.int (0 : Int32)), .val (.int s1), .val (.ref b18), .val (.int (3 : Int32)), .val (.int b0), .val (.int (3 : Int32)), .val (.int ((((16512 : Int32) + ((b0 - (128 : Int32)) * (16384 : Int32))) + ((b1 - (128 : Int32)) * (128 : Int32))) + b2)), .val (.int b1), .val (.int b2)] [(.int ((0 : Int32) + (3 : Int32))), (.int (3 : Int32))])) (fun t k => ?_) ?_
      · show Steps p.tables e below (T89.setTop (mkF m 176 #[.val (.int p0), .val (.int p1), .val (.int p2), .val (.int cp), .val (.int (0 : Int32)), .val (.int s1), .val (.ref b18), .val (.int (3 : Int32)), .val (.int b0), .unset, .unset, .val (.int b1), .val (.int b2)] [(.int (128 : Int32)), (.int b2)])) t
        refine XS.icmpYes X89.here hx rfl (pc0 := 176) (pc' := 181) rfl (hb hby at_176) rfl (tlt hc98).1 (by decide) (by decide) ?_
        show Steps p.tables e below (T89.setTop (mkF m 181 #[.val (.int p0), .val (.int p1), .val (.int p2), .val (.int cp), .val (.int (0 : Int32)), .val (.int s1), .val (.ref b18), .val (.int (3 : Int32)), .val (.int b0), .unset, .unset, .val (.int b1), .val (.int b2)] [])) t
        refine XS.iconst X89.here hx rfl (hb hby at_181) ?_
        show Steps p.tables e below (T89.setTop (mkF m 182 #[.val (.int p0), .val (.int p1), .val (.int p2), .val (.int cp), .val (.int (0 : Int32)), .val (.int s1), .val (.ref b18), .val (.int (3 : Int32)), .val (.int b0), .unset, .unset, .val (.int b1), .val (.int b2)] [(.int (3 : Int32))])) t
        refine XS.istore X89.here hx rfl (hb hby at_182) rfl (l' := #[.val (.int p0), .val (.int p1), .val (.int p2), .val (.int cp), .val (.int (0 : Int32)), .val (.int s1), .val (.ref b18), .val (.int (3 : Int32)), .val (.int b0), .val (.int (3 : Int32)), .unset, .val (.int b1), .val (.int b2)]) rfl ?_
        show Steps p.tables e below (T89.setTop (mkF m 184 #[.val (.int p0), .val (.int p1), .val (.int p2), .val (.int cp), .val (.int (0 : Int32)), .val (.int s1), .val (.ref b18), .val (.int (3 : Int32)), .val (.int b0), .val (.int (3 : Int32)), .unset, .val (.int b1), .val (.int b2)] [])) t
        refine XS.sipush X89.here hx rfl (hb hby at_184) ?_
        show Steps p.tables e below (T89.setTop (mkF m 187 #[.val (.int p0), .val (.int p1), .val (.int p2), .val (.int cp), .val (.int (0 : Int32)), .val (.int s1), .val (.ref b18), .val (.int (3 : Int32)), .val (.int b0), .val (.int (3 : Int32)), .unset, .val (.int b1), .val (.int b2)] [(.int (16512 : Int32))])) t
        refine XS.iload X89.here hx rfl (hb hby at_187) rfl ?_
        show Steps p.tables e below (T89.setTop (mkF m 189 #[.val (.int p0), .val (.int p1), .val (.int p2), .val (.int cp), .val (.int (0 : Int32)), .val (.int s1), .val (.ref b18), .val (.int (3 : Int32)), .val (.int b0), .val (.int (3 : Int32)), .unset, .val (.int b1), .val (.int b2)] [(.int b0), (.int (16512 : Int32))])) t
        refine XS.sipush X89.here hx rfl (hb hby at_189) ?_
        show Steps p.tables e below (T89.setTop (mkF m 192 #[.val (.int p0), .val (.int p1), .val (.int p2), .val (.int cp), .val (.int (0 : Int32)), .val (.int s1), .val (.ref b18), .val (.int (3 : Int32)), .val (.int b0), .val (.int (3 : Int32)), .unset, .val (.int b1), .val (.int b2)] [(.int (128 : Int32)), (.int b0), (.int (16512 : Int32))])) t
        refine XS.isub X89.here hx rfl (hb hby at_192) rfl ?_
        show Steps p.tables e below (T89.setTop (mkF m 193 #[.val (.int p0), .val (.int p1), .val (.int p2), .val (.int cp), .val (.int (0 : Int32)), .val (.int s1), .val (.ref b18), .val (.int (3 : Int32)), .val (.int b0), .val (.int (3 : Int32)), .unset, .val (.int b1), .val (.int b2)] [(.int (b0 - (128 : Int32))), (.int (16512 : Int32))])) t
        refine XS.sipush X89.here hx rfl (hb hby at_193) ?_
        show Steps p.tables e below (T89.setTop (mkF m 196 #[.val (.int p0), .val (.int p1), .val (.int p2), .val (.int cp), .val (.int (0 : Int32)), .val (.int s1), .val (.ref b18), .val (.int (3 : Int32)), .val (.int b0), .val (.int (3 : Int32)), .unset, .val (.int b1), .val (.int b2)] [(.int (16384 : Int32)), (.int (b0 - (128 : Int32))), (.int (16512 : Int32))])) t
        refine XS.imul X89.here hx rfl (hb hby at_196) rfl ?_
        show Steps p.tables e below (T89.setTop (mkF m 197 #[.val (.int p0), .val (.int p1), .val (.int p2), .val (.int cp), .val (.int (0 : Int32)), .val (.int s1), .val (.ref b18), .val (.int (3 : Int32)), .val (.int b0), .val (.int (3 : Int32)), .unset, .val (.int b1), .val (.int b2)] [(.int ((b0 - (128 : Int32)) * (16384 : Int32))), (.int (16512 : Int32))])) t
        refine XS.iadd X89.here hx rfl (hb hby at_197) rfl ?_
        show Steps p.tables e below (T89.setTop (mkF m 198 #[.val (.int p0), .val (.int p1), .val (.int p2), .val (.int cp), .val (.int (0 : Int32)), .val (.int s1), .val (.ref b18), .val (.int (3 : Int32)), .val (.int b0), .val (.int (3 : Int32)), .unset, .val (.int b1), .val (.int b2)] [(.int ((16512 : Int32) + ((b0 - (128 : Int32)) * (16384 : Int32))))])) t
        refine XS.iload X89.here hx rfl (hb hby at_198) rfl ?_
        show Steps p.tables e below (T89.setTop (mkF m 200 #[.val (.int p0), .val (.int p1), .val (.int p2), .val (.int cp), .val (.int (0 : Int32)), .val (.int s1), .val (.ref b18), .val (.int (3 : Int32)), .val (.int b0), .val (.int (3 : Int32)), .unset, .val (.int b1), .val (.int b2)] [(.int b1), (.int ((16512 : Int32) + ((b0 - (128 : Int32)) * (16384 : Int32))))])) t
        refine XS.sipush X89.here hx rfl (hb hby at_200) ?_
        show Steps p.tables e below (T89.setTop (mkF m 203 #[.val (.int p0), .val (.int p1), .val (.int p2), .val (.int cp), .val (.int (0 : Int32)), .val (.int s1), .val (.ref b18), .val (.int (3 : Int32)), .val (.int b0), .val (.int (3 : Int32)), .unset, .val (.int b1), .val (.int b2)] [(.int (128 : Int32)), (.int b1), (.int ((16512 : Int32) + ((b0 - (128 : Int32)) * (16384 : Int32))))])) t
        refine XS.isub X89.here hx rfl (hb hby at_203) rfl ?_
        show Steps p.tables e below (T89.setTop (mkF m 204 #[.val (.int p0), .val (.int p1), .val (.int p2), .val (.int cp), .val (.int (0 : Int32)), .val (.int s1), .val (.ref b18), .val (.int (3 : Int32)), .val (.int b0), .val (.int (3 : Int32)), .unset, .val (.int b1), .val (.int b2)] [(.int (b1 - (128 : Int32))), (.int ((16512 : Int32) + ((b0 - (128 : Int32)) * (16384 : Int32))))])) t
        refine XS.sipush X89.here hx rfl (hb hby at_204) ?_
        show Steps p.tables e below (T89.setTop (mkF m 207 #[.val (.int p0), .val (.int p1), .val (.int p2), .val (.int cp), .val (.int (0 : Int32)), .val (.int s1), .val (.ref b18), .val (.int (3 : Int32)), .val (.int b0), .val (.int (3 : Int32)), .unset, .val (.int b1), .val (.int b2)] [(.int (128 : Int32)), (.int (b1 - (128 : Int32))), (.int ((16512 : Int32) + ((b0 - (128 : Int32)) * (16384 : Int32))))])) t
        refine XS.imul X89.here hx rfl (hb hby at_207) rfl ?_
        show Steps p.tables e below (T89.setTop (mkF m 208 #[.val (.int p0), .val (.int p1), .val (.int p2), .val (.int cp), .val (.int (0 : Int32)), .val (.int s1), .val (.ref b18), .val (.int (3 : Int32)), .val (.int b0), .val (.int (3 : Int32)), .unset, .val (.int b1), .val (.int b2)] [(.int ((b1 - (128 : Int32)) * (128 : Int32))), (.int ((16512 : Int32) + ((b0 - (128 : Int32)) * (16384 : Int32))))])) t
        refine XS.iadd X89.here hx rfl (hb hby at_208) rfl ?_
        show Steps p.tables e below (T89.setTop (mkF m 209 #[.val (.int p0), .val (.int p1), .val (.int p2), .val (.int cp), .val (.int (0 : Int32)), .val (.int s1), .val (.ref b18), .val (.int (3 : Int32)), .val (.int b0), .val (.int (3 : Int32)), .unset, .val (.int b1), .val (.int b2)] [(.int (((16512 : Int32) + ((b0 - (128 : Int32)) * (16384 : Int32))) + ((b1 - (128 : Int32)) * (128 : Int32))))])) t
        refine XS.iload X89.here hx rfl (hb hby at_209) rfl ?_
        show Steps p.tables e below (T89.setTop (mkF m 211 #[.val (.int p0), .val (.int p1), .val (.int p2), .val (.int cp), .val (.int (0 : Int32)), .val (.int s1), .val (.ref b18), .val (.int (3 : Int32)), .val (.int b0), .val (.int (3 : Int32)), .unset, .val (.int b1), .val (.int b2)] [(.int b2), (.int (((16512 : Int32) + ((b0 - (128 : Int32)) * (16384 : Int32))) + ((b1 - (128 : Int32)) * (128 : Int32))))])) t
        refine XS.iadd X89.here hx rfl (hb hby at_211) rfl ?_
        show Steps p.tables e below (T89.setTop (mkF m 212 #[.val (.int p0), .val (.int p1), .val (.int p2), .val (.int cp), .val (.int (0 : Int32)), .val (.int s1), .val (.ref b18), .val (.int (3 : Int32)), .val (.int b0), .val (.int (3 : Int32)), .unset, .val (.int b1), .val (.int b2)] [(.int ((((16512 : Int32) + ((b0 - (128 : Int32)) * (16384 : Int32))) + ((b1 - (128 : Int32)) * (128 : Int32))) + b2))])) t
        refine XS.istore X89.here hx rfl (hb hby at_212) rfl (l' := #[.val (.int p0), .val (.int p1), .val (.int p2), .val (.int cp), .val (.int (0 : Int32)), .val (.int s1), .val (.ref b18), .val (.int (3 : Int32)), .val (.int b0), .val (.int (3 : Int32)), .val (.int ((((16512 : Int32) + ((b0 - (128 : Int32)) * (16384 : Int32))) + ((b1 - (128 : Int32)) * (128 : Int32))) + b2)), .val (.int b1), .val (.int b2)]) rfl ?_
        show Steps p.tables e below (T89.setTop (mkF m 214 #[.val (.int p0), .val (.int p1), .val (.int p2), .val (.int cp), .val (.int (0 : Int32)), .val (.int s1), .val (.ref b18), .val (.int (3 : Int32)), .val (.int b0), .val (.int (3 : Int32)), .val (.int ((((16512 : Int32) + ((b0 - (128 : Int32)) * (16384 : Int32))) + ((b1 - (128 : Int32)) * (128 : Int32))) + b2)), .val (.int b1), .val (.int b2)] [])) t
        refine XS.iload X89.here hx rfl (hb hby at_214) rfl ?_
        show Steps p.tables e below (T89.setTop (mkF m 216 #[.val (.int p0), .val (.int p1), .val (.int p2), .val (.int cp), .val (.int (0 : Int32)), .val (.int s1), .val (.ref b18), .val (.int (3 : Int32)), .val (.int b0), .val (.int (3 : Int32)), .val (.int ((((16512 : Int32) + ((b0 - (128 : Int32)) * (16384 : Int32))) + ((b1 - (128 : Int32)) * (128 : Int32))) + b2)), .val (.int b1), .val (.int b2)] [(.int (3 : Int32))])) t
        refine XS.iload X89.here hx rfl (hb hby at_216) rfl ?_
        show Steps p.tables e below (T89.setTop (mkF m 218 #[.val (.int p0), .val (.int p1), .val (.int p2), .val (.int cp), .val (.int (0 : Int32)), .val (.int s1), .val (.ref b18), .val (.int (3 : Int32)), .val (.int b0), .val (.int (3 : Int32)), .val (.int ((((16512 : Int32) + ((b0 - (128 : Int32)) * (16384 : Int32))) + ((b1 - (128 : Int32)) * (128 : Int32))) + b2)), .val (.int b1), .val (.int b2)] [(.int (0 : Int32)), (.int (3 : Int32))])) t
        refine XS.iload X89.here hx rfl (hb hby at_218) rfl ?_
        show Steps p.tables e below (T89.setTop (mkF m 220 #[.val (.int p0), .val (.int p1), .val (.int p2), .val (.int cp), .val (.int (0 : Int32)), .val (.int s1), .val (.ref b18), .val (.int (3 : Int32)), .val (.int b0), .val (.int (3 : Int32)), .val (.int ((((16512 : Int32) + ((b0 - (128 : Int32)) * (16384 : Int32))) + ((b1 - (128 : Int32)) * (128 : Int32))) + b2)), .val (.int b1), .val (.int b2)] [(.int (3 : Int32)), (.int (0 : Int32)), (.int (3 : Int32))])) t
        refine XS.iadd X89.here hx rfl (hb hby at_220) rfl ?_
        exact k
      have hc99 : (3 : Int32) = ((0 : Int32) + (3 : Int32)) := by decide
      refine OwnGo.of (A := T89.setTop (mkF m 221 #[.val (.int p0), .val (.int p1), .val (.int p2), .val (.int cp), .val (.int (0 : Int32)), .val (.int s1), .val (.ref b18), .val (.int (3 : Int32)), .val (.int b0), .val (.int (3 : Int32)), .val (.int ((((16512 : Int32) + ((b0 - (128 : Int32)) * (16384 : Int32))) + ((b1 - (128 : Int32)) * (128 : Int32))) + b2)), .val (.int b1), .val (.int b2)] [(.int ((0 : Int32) + (3 : Int32))), (.int (3 : Int32))])) (B := T89.setTop (mkF m 229 #[.val (.int p0), .val (.int p1), .val (.int p2), .val (.int cp), .val (.int (0 : Int32)), .val (.int s1), .val (.ref b18), .val (.int (3 : Int32)), .val (.int b0), .val (.int (3 : Int32)), .val (.int ((((16512 : Int32) + ((b0 - (128 : Int32)) * (16384 : Int32))) + ((b1 - (128 : Int32)) * (128 : Int32))) + b2)), .val (.int b1), .val (.int b2)] [(.int cp), (.int ((((16512 : Int32) + ((b0 - (128 : Int32)) * (16384 : Int32))) + ((b1 - (128 : Int32)) * (128 : Int32))) + b2))])) (fun t k => ?_) ?_
      · show Steps p.tables e below (T89.setTop (mkF m 221 #[.val (.int p0), .val (.int p1), .val (.int p2), .val (.int cp), .val (.int (0 : Int32)), .val (.int s1), .val (.ref b18), .val (.int (3 : Int32)), .val (.int b0), .val (.int (3 : Int32)), .val (.int ((((16512 : Int32) + ((b0 - (128 : Int32)) * (16384 : Int32))) + ((b1 - (128 : Int32)) * (128 : Int32))) + b2)), .val (.int b1), .val (.int b2)] [(.int ((0 : Int32) + (3 : Int32))), (.int (3 : Int32))])) t
        refine XS.icmpYes X89.here hx rfl (pc0 := 221) (pc' := 226) rfl (hb hby at_221) rfl (teq hc99).1 (by decide) (by decide) ?_
        show Steps p.tables e below (T89.setTop (mkF m 226 #[.val (.int p0), .val (.int p1), .val (.int p2), .val (.int cp), .val (.int (0 : Int32)), .val (.int s1), .val (.ref b18), .val (.int (3 : Int32)), .val (.int b0), .val (.int (3 : Int32)), .val (.int ((((16512 : Int32) + ((b0 - (128 : Int32)) * (16384 : Int32))) + ((b1 - (128 : Int32)) * (128 : Int32))) + b2)), .val (.int b1), .val (.int b2)] [])) t
        refine XS.iload X89.here hx rfl (hb hby at_226) rfl ?_
        show Steps p.tables e below (T89.setTop (mkF m 228 #[.val (.int p0), .val (.int p1), .val (.int p2), .val (.int cp), .val (.int (0 : Int32)), .val (.int s1), .val (.ref b18), .val (.int (3 : Int32)), .val (.int b0), .val (.int (3 : Int32)), .val (.int ((((16512 : Int32) + ((b0 - (128 : Int32)) * (16384 : Int32))) + ((b1 - (128 : Int32)) * (128 : Int32))) + b2)), .val (.int b1), .val (.int b2)] [(.int ((((16512 : Int32) + ((b0 - (128 : Int32)) * (16384 : Int32))) + ((b1 - (128 : Int32)) * (128 : Int32))) + b2))])) t
        refine XS.iloadN X89.here hx rfl (hb hby at_228) rfl ?_
        exact k
      have hc100 : ((((16512 : Int32) + ((b0 - (128 : Int32)) * (16384 : Int32))) + ((b1 - (128 : Int32)) * (128 : Int32))) + b2) = cp := own_vC cp b0 b1 b2 hcb tb0 tb1 tb2
      refine OwnGo.of (A := T89.setTop (mkF m 229 #[.val (.int p0), .val (.int p1), .val (.int p2), .val (.int cp), .val (.int (0 : Int32)), .val (.int s1), .val (.ref b18), .val (.int (3 : Int32)), .val (.int b0), .val (.int (3 : Int32)), .val (.int ((((16512 : Int32) + ((b0 - (128 : Int32)) * (16384 : Int32))) + ((b1 - (128 : Int32)) * (128 : Int32))) + b2)), .val (.int b1), .val (.int b2)] [(.int cp), (.int ((((16512 : Int32) + ((b0 - (128 : Int32)) * (16384 : Int32))) + ((b1 - (128 : Int32)) * (128 : Int32))) + b2))])) (B := T89.setTop (mkF m 234 #[.val (.int p0), .val (.int p1), .val (.int p2), .val (.int cp), .val (.int (0 : Int32)), .val (.int s1), .val (.ref b18), .val (.int (3 : Int32)), .val (.int b0), .val (.int (3 : Int32)), .val (.int ((((16512 : Int32) + ((b0 - (128 : Int32)) * (16384 : Int32))) + ((b1 - (128 : Int32)) * (128 : Int32))) + b2)), .val (.int b1), .val (.int b2)] [])) (fun t k => ?_) ?_
      · show Steps p.tables e below (T89.setTop (mkF m 229 #[.val (.int p0), .val (.int p1), .val (.int p2), .val (.int cp), .val (.int (0 : Int32)), .val (.int s1), .val (.ref b18), .val (.int (3 : Int32)), .val (.int b0), .val (.int (3 : Int32)), .val (.int ((((16512 : Int32) + ((b0 - (128 : Int32)) * (16384 : Int32))) + ((b1 - (128 : Int32)) * (128 : Int32))) + b2)), .val (.int b1), .val (.int b2)] [(.int cp), (.int ((((16512 : Int32) + ((b0 - (128 : Int32)) * (16384 : Int32))) + ((b1 - (128 : Int32)) * (128 : Int32))) + b2))])) t
        refine XS.icmpYes X89.here hx rfl (pc0 := 229) (pc' := 234) rfl (hb hby at_229) rfl (teq hc100).1 (by decide) (by decide) ?_
        exact k
      exact J234 T89 _ _ (.val (.int p0)) (.val (.int p1)) (.val (.int p2)) (.val (.int cp)) (.val (.int b0)) (.val (.int (3 : Int32))) (.val (.int ((((16512 : Int32) + ((b0 - (128 : Int32)) * (16384 : Int32))) + ((b1 - (128 : Int32)) * (128 : Int32))) + b2))) (.val (.int b1)) (.val (.int b2)) (0 : Int32) s1 (3 : Int32) b18 (((((128 : Int32) ||| (((cp - ((16512 : Int64).toInt32)).toUInt32 >>> ((14 : Int32) &&& 31).toUInt32).toInt32)).toInt8.toInt32)).toInt8.toInt32) (((((128 : Int32) ||| ((((cp - ((16512 : Int64).toInt32)).toUInt32 >>> ((7 : Int32) &&& 31).toUInt32).toInt32) &&& (127 : Int32))).toInt8.toInt32)).toInt8.toInt32) (((((cp - ((16512 : Int64).toInt32)) &&& (127 : Int32)).toInt8.toInt32)).toInt8.toInt32) ((s1).toInt8.toInt32) ((s1).toInt8.toInt32) ((s1).toInt8.toInt32) ((s1).toInt8.toInt32) ((s1).toInt8.toInt32) k18 X89 rfl N89 f90 y89_0 (by simp [own_k0, hs]) (by simp [own_k1, hs]) (by simp [own_k2, hs]) (by simp [own_k3, hs]) (by simp [own_k4, hs]) (by simp [own_k5, hs]) (by simp [own_k6, hs]) (by simp [own_k7, hs])
  · rw [qa]
    show OwnGo p.tables e below _ (T66.setTop (mkF m 73 #[.val (.int p0), .val (.int p1), .val (.int p2), .val (.int cp), .val (.int (1 : Int32)), .val (.int s1), .val (.ref b18), .unset, .unset, .unset, .unset, .unset, .unset] []))
    refine OwnGo.of (A := T66.setTop (mkF m 73 #[.val (.int p0), .val (.int p1), .val (.int p2), .val (.int cp), .val (.int (1 : Int32)), .val (.int s1), .val (.ref b18), .unset, .unset, .unset, .unset, .unset, .unset] [])) (B := T66.setTop (mkF m 78 #[.val (.int p0), .val (.int p1), .val (.int p2), .val (.int cp), .val (.int (1 : Int32)), .val (.int s1), .val (.ref b18), .unset, .unset, .unset, .unset, .unset, .unset] [(.int (1 : Int32)), (.ref b18), (.int cp)])) (fun t k => ?_) ?_
    · show Steps p.tables e below (T66.setTop (mkF m 73 #[.val (.int p0), .val (.int p1), .val (.int p2), .val (.int cp), .val (.int (1 : Int32)), .val (.int s1), .val (.ref b18), .unset, .unset, .unset, .unset, .unset, .unset] [])) t
      refine XS.iloadN X66.here hx rfl (hb hby at_73) rfl ?_
      show Steps p.tables e below (T66.setTop (mkF m 74 #[.val (.int p0), .val (.int p1), .val (.int p2), .val (.int cp), .val (.int (1 : Int32)), .val (.int s1), .val (.ref b18), .unset, .unset, .unset, .unset, .unset, .unset] [(.int cp)])) t
      refine XS.aload X66.here hx rfl (hb hby at_74) rfl rfl ?_
      show Steps p.tables e below (T66.setTop (mkF m 76 #[.val (.int p0), .val (.int p1), .val (.int p2), .val (.int cp), .val (.int (1 : Int32)), .val (.int s1), .val (.ref b18), .unset, .unset, .unset, .unset, .unset, .unset] [(.ref b18), (.int cp)])) t
      refine XS.iload X66.here hx rfl (hb hby at_76) rfl ?_
      exact k
    rcases own_cases cp with hA | ⟨hA, hB⟩ | ⟨hA, hB⟩
    · show OwnGo p.tables e below _ (T66.setTop (mkF m 78 #[.val (.int p0), .val (.int p1), .val (.int p2), .val (.int cp), .val (.int (1 : Int32)), .val (.int s1), .val (.ref b18), .unset, .unset, .unset, .unset, .unset, .unset] [(.int (1 : Int32)), (.ref b18), (.int cp)]))
      obtain ⟨_, _, ⟨T101, L101, k101, n101⟩, -, X101, ⟨Lc101, hQ101, l101, y101, z101⟩, st101⟩ := Jvm.LawKit.callS X66 hx (y := (⟨"com/example/sevenfold/sevenfold/Natural", "writeCodePoint", "(I[BI)I"⟩ : MethodName)) hown (mvT hZ (hw _ (List.mem_of_getElem? (i := 3) rfl))) (mvT hZ (hw _ (List.mem_of_getElem? (i := 4) rfl))) (mvT hZ (hw _ (List.mem_of_getElem? (i := 5) rfl))) (mvT hZ (hw _ (List.mem_of_getElem? (i := 6) rfl))) (by decide) (backOf (W := 0) (rm1_1A l Z aw hw [] cp b18 (s1).toInt8.toInt32 (s1).toInt8.toInt32 (s1).toInt8.toInt32 (s1).toInt8.toInt32 (s1).toInt8.toInt32 (s1).toInt8.toInt32 (s1).toInt8.toInt32 (s1).toInt8.toInt32 k18 wF kf h66 n0 f67 f68 f69 f70 g_b18 ne_wF_b18 hA) hZ (hw _ (List.mem_of_getElem? (i := 6) rfl)) (hw _ (List.mem_of_getElem? (i := 5) rfl)) (by decide) (by decide)) (g := (mkF m 78 #[.val (.int p0), .val (.int p1), .val (.int p2), .val (.int cp), .val (.int (1 : Int32)), .val (.int s1), .val (.ref b18), .unset, .unset, .unset, .unset, .unset, .unset] [(.int (1 : Int32)), (.ref b18), (.int cp)])) rfl (by rw [hml]; rfl) (argsL := [(.int cp), (.ref b18), (.int (1 : Int32))]) (rest := []) (lenOf pd_3 rfl) rfl (by show 2 * 0 + _ ≤ _; exact Nat.le_of_eq rfl) (hb hby at_78) (fun _ _ => ⟨rfl, e66, (by decide : 1 + 0 ≤ _), (by decide : 8 + 0 ≤ _)⟩)
      dsimp only [Pt.U, Pt.locs, Pt.cells, Pt.slots] at X101 l101 y101 z101 st101 hQ101
      subst l101 y101 z101
      obtain ⟨rfl, N101q, K101, y101_0⟩ := hQ101
      have f102 : n0 ≤ T101.heap.size := Nat.le_trans f67 K101.1
      have f103 : Sta Z T101.heap "com/example/sevenfold/sevenfold/Natural" "FIRST_OF_LENGTH" "[J" (.ref wF) := own_sta_keep f68 K101 (allS (own_ns_arv f70) all0)
      have f104 : Arv Z T101.heap wF kf .long (10 : Int32) [(.long (0 : Int64)), (.long (0 : Int64)), (.long (128 : Int64)), (.long (16512 : Int64)), (.long (2113664 : Int64)), (.long (270549120 : Int64)), (.long (34630287488 : Int64)), (.long (4432676798592 : Int64)), (.long (567382630219904 : Int64)), (.long (72624976668147840 : Int64))] (.long (0 : Int64)) := f69.keep K101 (ninS ne_wF_b18 nin0)
      have N101 := Fr.app N66 N101q
      refine OwnGo.of st101 ?_
      show OwnGo p.tables e below _ (T101.setTop (mkF m 81 #[.val (.int p0), .val (.int p1), .val (.int p2), .val (.int cp), .val (.int (1 : Int32)), .val (.int s1), .val (.ref b18), .unset, .unset, .unset, .unset, .unset, .unset] [(.int (2 : Int32))]))
      refine OwnGo.of (A := T101.setTop (mkF m 81 #[.val (.int p0), .val (.int p1), .val (.int p2), .val (.int cp), .val (.int (1 : Int32)), .val (.int s1), .val (.ref b18), .unset, .unset, .unset, .unset, .unset, .unset] [(.int (2 : Int32))])) (B := T101.setTop (mkF m 87 #[.val (.int p0), .val (.int p1), .val (.int p2), .val (.int cp), .val (.int (1 : Int32)), .val (.int s1), .val (.ref b18), .val (.int (2 : Int32)), .unset, .unset, .unset, .unset, .unset] [(.int (1 : Int32)), (.ref b18)])) (fun t k => ?_) ?_
      · show Steps p.tables e below (T101.setTop (mkF m 81 #[.val (.int p0), .val (.int p1), .val (.int p2), .val (.int cp), .val (.int (1 : Int32)), .val (.int s1), .val (.ref b18), .unset, .unset, .unset, .unset, .unset, .unset] [(.int (2 : Int32))])) t
        refine XS.istore X101.here hx rfl (hb hby at_81) rfl (l' := #[.val (.int p0), .val (.int p1), .val (.int p2), .val (.int cp), .val (.int (1 : Int32)), .val (.int s1), .val (.ref b18), .val (.int (2 : Int32)), .unset, .unset, .unset, .unset, .unset]) rfl ?_
        show Steps p.tables e below (T101.setTop (mkF m 83 #[.val (.int p0), .val (.int p1), .val (.int p2), .val (.int cp), .val (.int (1 : Int32)), .val (.int s1), .val (.ref b18), .val (.int (2 : Int32)), .unset, .unset, .unset, .unset, .unset] [])) t
        refine XS.aload X101.here hx rfl (hb hby at_83) rfl rfl ?_
        show Steps p.tables e below (T101.setTop (mkF m 85 #[.val (.int p0), .val (.int p1), .val (.int p2), .val (.int cp), .val (.int (1 : Int32)), .val (.int s1), .val (.ref b18), .val (.int (2 : Int32)), .unset, .unset, .unset, .unset, .unset] [(.ref b18)])) t
        refine XS.iload X101.here hx rfl (hb hby at_85) rfl ?_
        exact k
      have cq105 := y101_0
      obtain ⟨clq105, Arq105, qq105, Sq105, Nq105, Hq105, Gq105⟩ := cq105
      have hinq105 := inb_of (j := (1 : Int32)) Sq105 ⟨by decide, by decide⟩
      refine OwnGo.of (X101.baloadBytes hx (j := (1 : Int32)) (v := (.int ((cp.toInt8.toInt32)).toInt8.toInt32)) Arq105.1 (State.isArrayOf_alike hZ.alike Arq105.2.1) Arq105.2.2 hinq105 (Hq105.at hinq105 rfl) (g := (mkF m 87 #[.val (.int p0), .val (.int p1), .val (.int p2), .val (.int cp), .val (.int (1 : Int32)), .val (.int s1), .val (.ref b18), .val (.int (2 : Int32)), .unset, .unset, .unset, .unset, .unset] [(.int (1 : Int32)), (.ref b18)])) rfl rfl (hb hby at_87)) ?_
      show OwnGo p.tables e below _ (T101.setTop (mkF m 88 #[.val (.int p0), .val (.int p1), .val (.int p2), .val (.int cp), .val (.int (1 : Int32)), .val (.int s1), .val (.ref b18), .val (.int (2 : Int32)), .unset, .unset, .unset, .unset, .unset] [(.int ((cp.toInt8.toInt32)).toInt8.toInt32)]))
      refine OwnGo.of (A := T101.setTop (mkF m 88 #[.val (.int p0), .val (.int p1), .val (.int p2), .val (.int cp), .val (.int (1 : Int32)), .val (.int s1), .val (.ref b18), .val (.int (2 : Int32)), .unset, .unset, .unset, .unset, .unset] [(.int ((cp.toInt8.toInt32)).toInt8.toInt32)])) (B := T101.setTop (mkF m 94 #[.val (.int p0), .val (.int p1), .val (.int p2), .val (.int cp), .val (.int (1 : Int32)), .val (.int s1), .val (.ref b18), .val (.int (2 : Int32)), .val (.int (((cp.toInt8.toInt32)).toInt8.toInt32 &&& (255 : Int32))), .unset, .unset, .unset, .unset] [])) (fun t k => ?_) ?_
      · show Steps p.tables e below (T101.setTop (mkF m 88 #[.val (.int p0), .val (.int p1), .val (.int p2), .val (.int cp), .val (.int (1 : Int32)), .val (.int s1), .val (.ref b18), .val (.int (2 : Int32)), .unset, .unset, .unset, .unset, .unset] [(.int ((cp.toInt8.toInt32)).toInt8.toInt32)])) t
        refine XS.sipush X101.here hx rfl (hb hby at_88) ?_
        show Steps p.tables e below (T101.setTop (mkF m 91 #[.val (.int p0), .val (.int p1), .val (.int p2), .val (.int cp), .val (.int (1 : Int32)), .val (.int s1), .val (.ref b18), .val (.int (2 : Int32)), .unset, .unset, .unset, .unset, .unset] [(.int (255 : Int32)), (.int ((cp.toInt8.toInt32)).toInt8.toInt32)])) t
        refine XS.iand X101.here hx rfl (hb hby at_91) rfl ?_
        show Steps p.tables e below (T101.setTop (mkF m 92 #[.val (.int p0), .val (.int p1), .val (.int p2), .val (.int cp), .val (.int (1 : Int32)), .val (.int s1), .val (.ref b18), .val (.int (2 : Int32)), .unset, .unset, .unset, .unset, .unset] [(.int (((cp.toInt8.toInt32)).toInt8.toInt32 &&& (255 : Int32)))])) t
        refine XS.istore X101.here hx rfl (hb hby at_92) rfl (l' := #[.val (.int p0), .val (.int p1), .val (.int p2), .val (.int cp), .val (.int (1 : Int32)), .val (.int s1), .val (.ref b18), .val (.int (2 : Int32)), .val (.int (((cp.toInt8.toInt32)).toInt8.toInt32 &&& (255 : Int32))), .unset, .unset, .unset, .unset]) rfl ?_
        exact k
      obtain ⟨b0, hb0⟩ : ∃ z, z = (((cp.toInt8.toInt32)).toInt8.toInt32 &&& (255 : Int32)) := ⟨_, rfl⟩
      have tb0 : b0.toInt = cp.toInt := by subst hb0; exact own_A0 cp hcb hA
      rw [← hb0]
      show OwnGo p.tables e below _ (T101.setTop (mkF m 94 #[.val (.int p0), .val (.int p1), .val (.int p2), .val (.int cp), .val (.int (1 : Int32)), .val (.int s1), .val (.ref b18), .val (.int (2 : Int32)), .val (.int b0), .unset, .unset, .unset, .unset] []))
      refine OwnGo.of (A := T101.setTop (mkF m 94 #[.val (.int p0), .val (.int p1), .val (.int p2), .val (.int cp), .val (.int (1 : Int32)), .val (.int s1), .val (.ref b18), .val (.int (2 : Int32)), .val (.int b0), .unset, .unset, .unset, .unset] [])) (B := T101.setTop (mkF m 99 #[.val (.int p0), .val (.int p1), .val (.int p2), .val (.int cp), .val (.int (1 : Int32)), .val (.int s1), .val (.ref b18), .val (.int (2 : Int32)), .val (.int b0), .unset, .unset, .unset, .unset] [(.int (128 : Int32)), (.int b0)])) (fun t k => ?_) ?_
      · show Steps p.tables e below (T101.setTop (mkF m 94 #[.val (.int p0), .val (.int p1), .val (.int p2), .val (.int cp), .val (.int (1 : Int32)), .val (.int s1), .val (.ref b18), .val (.int (2 : Int32)), .val (.int b0), .unset, .unset, .unset, .unset] [])) t
        refine XS.iload X101.here hx rfl (hb hby at_94) rfl ?_
        show Steps p.tables e below (T101.setTop (mkF m 96 #[.val (.int p0), .val (.int p1), .val (.int p2), .val (.int cp), .val (.int (1 : Int32)), .val (.int s1), .val (.ref b18), .val (.int (2 : Int32)), .val (.int b0), .unset, .unset, .unset, .unset] [(.int b0)])) t
        refine XS.sipush X101.here hx rfl (hb hby at_96) ?_
        exact k
      have hc106 : b0 < (128 : Int32) := by rw [own_lt128]; rw [own_127] at hA; omega
      refine OwnGo.of (A := T101.setTop (mkF m 99 #[.val (.int p0), .val (.int p1), .val (.int p2), .val (.int cp), .val (.int (1 : Int32)), .val (.int s1), .val (.ref b18), .val (.int (2 : Int32)), .val (.int b0), .unset, .unset, .unset, .unset] [(.int (128 : Int32)), (.int b0)])) (B := T101.setTop (mkF m 221 #[.val (.int p0), .val (.int p1), .val (.int p2), .val (.int cp), .val (.int (1 : Int32)), .val (.int s1), .val (.ref b18), .val (.int (2 : Int32)), .val (.int b0), .val (.int (1 : Int32)), .val (.int b0), .unset, .unset] [(.int ((1 : Int32) + (1 : Int32))), (.int (2 : Int32))])) (fun t k => ?_) ?_
      · show Steps p.tables e below (T101.setTop (mkF m 99 #[.val (.int p0), .val (.int p1), .val (.int p2), .val (.int cp), .val (.int (1 : Int32)), .val (.int s1), .val (.ref b18), .val (.int (2 : Int32)), .val (.int b0), .unset, .unset, .unset, .unset] [(.int (128 : Int32)), (.int b0)])) t
        refine XS.icmpNo X101.here hx rfl (hb hby at_99) rfl (tlt hc106).2.1 ?_
        show Steps p.tables e below (T101.setTop (mkF m 102 #[.val (.int p0), .val (.int p1), .val (.int p2), .val (.int cp), .val (.int (1 : Int32)), .val (.int s1), .val (.ref b18), .val (.int (2 : Int32)), .val (.int b0), .unset, .unset, .unset, .unset] [])) t
        refine XS.iconst X101.here hx rfl (hb hby at_102) ?_
        show Steps p.tables e below (T101.setTop (mkF m 103 #[.val (.int p0), .val (.int p1), .val (.int p2), .val (.int cp), .val (.int (1 : Int32)), .val (.int s1), .val (.ref b18), .val (.int (2 : Int32)), .val (.int b0), .unset, .unset, .unset, .unset] [(.int (1 : Int32))])) t
        refine XS.istore X101.here hx rfl (hb hby at_103) rfl (l' := #[.val (.int p0), .val (.int p1), .val (.int p2), .val (.int cp), .val (.int (1 : Int32)), .val (.int s1), .val (.ref b18), .val (.int (2 : Int32)), .val (.int b0), .val (.int (1 : Int32)), .unset, .unset, .unset]) rfl ?_
        show Steps p.tables e below (T101.setTop (mkF m 105 #[.val (.int p0), .val (.int p1), .val (.int p2), .val (.int cp), .val (.int (1 : Int32)), .val (.int s1), .val (.ref b18), .val (.int (2 : Int32)), .val (.int b0), .val (.int (1 : Int32)), .unset, .unset, .unset] [])) t
        refine XS.iload X101.here hx rfl (hb hby at_105) rfl ?_
        show Steps p.tables e below (T101.setTop (mkF m 107 #[.val (.int p0), .val (.int p1), .val (.int p2), .val (.int cp), .val (.int (1 : Int32)), .val (.int s1), .val (.ref b18), .val (.int (2 : Int32)), .val (.int b0), .val (.int (1 : Int32)), .unset, .unset, .unset] [(.int b0)])) t
        refine XS.istore X101.here hx rfl (hb hby at_107) rfl (l' := #[.val (.int p0), .val (.int p1), .val (.int p2), .val (.int cp), .val (.int (1 : Int32)), .val (.int s1), .val (.ref b18), .val (.int (2 : Int32)), .val (.int b0), .val (.int (1 : Int32)), .val (.int b0), .unset, .unset]) rfl ?_
        show Steps p.tables e below (T101.setTop (mkF m 109 #[.val (.int p0), .val (.int p1), .val (.int p2), .val (.int cp), .val (.int (1 : Int32)), .val (.int s1), .val (.ref b18), .val (.int (2 : Int32)), .val (.int b0), .val (.int (1 : Int32)), .val (.int b0), .unset, .unset] [])) t
        refine XS.goto X101.here hx rfl (pc0 := 109) (pc' := 214) rfl (hb hby at_109) (by decide) (by decide) ?_
        show Steps p.tables e below (T101.setTop (mkF m 214 #[.val (.int p0), .val (.int p1), .val (.int p2), .val (.int cp), .val (.int (1 : Int32)), .val (.int s1), .val (.ref b18), .val (.int (2 : Int32)), .val (.int b0), .val (.int (1 : Int32)), .val (.int b0), .unset, .unset] [])) t
        refine XS.iload X101.here hx rfl (hb hby at_214) rfl ?_
        show Steps p.tables e below (T101.setTop (mkF m 216 #[.val (.int p0), .val (.int p1), .val (.int p2), .val (.int cp), .val (.int (1 : Int32)), .val (.int s1), .val (.ref b18), .val (.int (2 : Int32)), .val (.int b0), .val (.int (1 : Int32)), .val (.int b0), .unset, .unset] [(.int (2 : Int32))])) t
        refine XS.iload X101.here hx rfl (hb hby at_216) rfl ?_
        show Steps p.tables e below (T101.setTop (mkF m 218 #[.val (.int p0), .val (.int p1), .val (.int p2), .val (.int cp), .val (.int (1 : Int32)), .val (.int s1), .val (.ref b18), .val (.int (2 : Int32)), .val (.int b0), .val (.int (1 : Int32)), .val (.int b0), .unset, .unset] [(.int (1 : Int32)), (.int (2 : Int32))])) t
        refine XS.iload X101.here hx rfl (hb hby at_218) rfl ?_
        show Steps p.tables e below (T101.setTop (mkF m 220 #[.val (.int p0), .val (.int p1), .val (.int p2), .val (.int cp), .val (.int (1 : Int32)), .val (.int s1), .val (.ref b18), .val (.int (2 : Int32)), .val (.int b0), .val (.int (1 : Int32)), .val (.int b0), .unset, .unset] [(.int (1 : Int32)), (.int (1 : Int32)), (.int (2 : Int32))])) t
        refine XS.iadd X101.here hx rfl (hb hby at_220) rfl ?_
        exact k
      have hc107 : (2 : Int32) = ((1 : Int32) + (1 : Int32)) := by decide
      refine OwnGo.of (A := T101.setTop (mkF m 221 #[.val (.int p0), .val (.int p1), .val (.int p2), .val (.int cp), .val (.int (1 : Int32)), .val (.int s1), .val (.ref b18), .val (.int (2 : Int32)), .val (.int b0), .val (.int (1 : Int32)), .val (.int b0), .unset, .unset] [(.int ((1 : Int32) + (1 : Int32))), (.int (2 : Int32))])) (B := T101.setTop (mkF m 229 #[.val (.int p0), .val (.int p1), .val (.int p2), .val (.int cp), .val (.int (1 : Int32)), .val (.int s1), .val (.ref b18), .val (.int (2 : Int32)), .val (.int b0), .val (.int (1 : Int32)), .val (.int b0), .unset, .unset] [(.int cp), (.int b0)])) (fun t k => ?_) ?_
      · show Steps p.tables e below (T101.setTop (mkF m 221 #[.val (.int p0), .val (.int p1), .val (.int p2), .val (.int cp), .val (.int (1 : Int32)), .val (.int s1), .val (.ref b18), .val (.int (2 : Int32)), .val (.int b0), .val (.int (1 : Int32)), .val (.int b0), .unset, .unset] [(.int ((1 : Int32) + (1 : Int32))), (.int (2 : Int32))])) t
        refine XS.icmpYes X101.here hx rfl (pc0 := 221) (pc' := 226) rfl (hb hby at_221) rfl (teq hc107).1 (by decide) (by decide) ?_
        show Steps p.tables e below (T101.setTop (mkF m 226 #[.val (.int p0), .val (.int p1), .val (.int p2), .val (.int cp), .val (.int (1 : Int32)), .val (.int s1), .val (.ref b18), .val (.int (2 : Int32)), .val (.int b0), .val (.int (1 : Int32)), .val (.int b0), .unset, .unset] [])) t
        refine XS.iload X101.here hx rfl (hb hby at_226) rfl ?_
        show Steps p.tables e below (T101.setTop (mkF m 228 #[.val (.int p0), .val (.int p1), .val (.int p2), .val (.int cp), .val (.int (1 : Int32)), .val (.int s1), .val (.ref b18), .val (.int (2 : Int32)), .val (.int b0), .val (.int (1 : Int32)), .val (.int b0), .unset, .unset] [(.int b0)])) t
        refine XS.iloadN X101.here hx rfl (hb hby at_228) rfl ?_
        exact k
      have hc108 : b0 = cp := Int32.toInt_inj.mp tb0
      refine OwnGo.of (A := T101.setTop (mkF m 229 #[.val (.int p0), .val (.int p1), .val (.int p2), .val (.int cp), .val (.int (1 : Int32)), .val (.int s1), .val (.ref b18), .val (.int (2 : Int32)), .val (.int b0), .val (.int (1 : Int32)), .val (.int b0), .unset, .unset] [(.int cp), (.int b0)])) (B := T101.setTop (mkF m 234 #[.val (.int p0), .val (.int p1), .val (.int p2), .val (.int cp), .val (.int (1 : Int32)), .val (.int s1), .val (.ref b18), .val (.int (2 : Int32)), .val (.int b0), .val (.int (1 : Int32)), .val (.int b0), .unset, .unset] [])) (fun t k => ?_) ?_
      · show Steps p.tables e below (T101.setTop (mkF m 229 #[.val (.int p0), .val (.int p1), .val (.int p2), .val (.int cp), .val (.int (1 : Int32)), .val (.int s1), .val (.ref b18), .val (.int (2 : Int32)), .val (.int b0), .val (.int (1 : Int32)), .val (.int b0), .unset, .unset] [(.int cp), (.int b0)])) t
        refine XS.icmpYes X101.here hx rfl (pc0 := 229) (pc' := 234) rfl (hb hby at_229) rfl (teq hc108).1 (by decide) (by decide) ?_
        exact k
      exact J234 T101 _ _ (.val (.int p0)) (.val (.int p1)) (.val (.int p2)) (.val (.int cp)) (.val (.int b0)) (.val (.int (1 : Int32))) (.val (.int b0)) (.unset) (.unset) (1 : Int32) s1 (2 : Int32) b18 ((s1).toInt8.toInt32) (((cp.toInt8.toInt32)).toInt8.toInt32) ((s1).toInt8.toInt32) ((s1).toInt8.toInt32) ((s1).toInt8.toInt32) ((s1).toInt8.toInt32) ((s1).toInt8.toInt32) ((s1).toInt8.toInt32) k18 X101 rfl N101 f102 y101_0 (by simp [own_k0, hs]) (by simp [own_k1, hs]) (by simp [own_k2, hs]) (by simp [own_k3, hs]) (by simp [own_k4, hs]) (by simp [own_k5, hs]) (by simp [own_k6, hs]) (by simp [own_k7, hs])
    · show OwnGo p.tables e below _ (T66.setTop (mkF m 78 #[.val (.int p0), .val (.int p1), .val (.int p2), .val (.int cp), .val (.int (1 : Int32)), .val (.int s1), .val (.ref b18), .unset, .unset, .unset, .unset, .unset, .unset] [(.int (1 : Int32)), (.ref b18), (.int cp)]))
      obtain ⟨_, _, ⟨T109, L109, k109, n109⟩, -, X109, ⟨Lc109, hQ109, l109, y109, z109⟩, st109⟩ := Jvm.LawKit.callS X66 hx (y := (⟨"com/example/sevenfold/sevenfold/Natural", "writeCodePoint", "(I[BI)I"⟩ : MethodName)) hown (mvT hZ (hw _ (List.mem_of_getElem? (i := 3) rfl))) (mvT hZ (hw _ (List.mem_of_getElem? (i := 4) rfl))) (mvT hZ (hw _ (List.mem_of_getElem? (i := 5) rfl))) (mvT hZ (hw _ (List.mem_of_getElem? (i := 6) rfl))) (by decide) (backOf (W := 0) (rm1_1B l Z aw hw [] cp b18 (s1).toInt8.toInt32 (s1).toInt8.toInt32 (s1).toInt8.toInt32 (s1).toInt8.toInt32 (s1).toInt8.toInt32 (s1).toInt8.toInt32 (s1).toInt8.toInt32 (s1).toInt8.toInt32 k18 wF kf h66 n0 f67 f68 f69 f70 g_b18 ne_wF_b18 hA hB) hZ (hw _ (List.mem_of_getElem? (i := 6) rfl)) (hw _ (List.mem_of_getElem? (i := 5) rfl)) (by decide) (by decide)) (g := (mkF m 78 #[.val (.int p0), .val (.int p1), .val (.int p2), .val (.int cp), .val (.int (1 : Int32)), .val (.int s1), .val (.ref b18), .unset, .unset, .unset, .unset, .unset, .unset] [(.int (1 : Int32)), (.ref b18), (.int cp)])) rfl (by rw [hml]; rfl) (argsL := [(.int cp), (.ref b18), (.int (1 : Int32))]) (rest := []) (lenOf pd_3 rfl) rfl (by show 2 * 0 + _ ≤ _; exact Nat.le_of_eq rfl) (hb hby at_78) (fun _ _ => ⟨rfl, e66, (by decide : 1 + 0 ≤ _), (by decide : 8 + 0 ≤ _)⟩)
      dsimp only [Pt.U, Pt.locs, Pt.cells, Pt.slots] at X109 l109 y109 z109 st109 hQ109
      subst l109 y109 z109
      obtain ⟨rfl, N109q, K109, y109_0⟩ := hQ109
      have f110 : n0 ≤ T109.heap.size := Nat.le_trans f67 K109.1
      have f111 : Sta Z T109.heap "com/example/sevenfold/sevenfold/Natural" "FIRST_OF_LENGTH" "[J" (.ref wF) := own_sta_keep f68 K109 (allS (own_ns_arv f70) all0)
      have f112 : Arv Z T109.heap wF kf .long (10 : Int32) [(.long (0 : Int64)), (.long (0 : Int64)), (.long (128 : Int64)), (.long (16512 : Int64)), (.long (2113664 : Int64)), (.long (270549120 : Int64)), (.long (34630287488 : Int64)), (.long (4432676798592 : Int64)), (.long (567382630219904 : Int64)), (.long (72624976668147840 : Int64))] (.long (0 : Int64)) := f69.keep K109 (ninS ne_wF_b18 nin0)
      have N109 := Fr.app N66 N109q
      refine OwnGo.of st109 ?_
      show OwnGo p.tables e below _ (T109.setTop (mkF m 81 #[.val (.int p0), .val (.int p1), .val (.int p2), .val (.int cp), .val (.int (1 : Int32)), .val (.int s1), .val (.ref b18), .unset, .unset, .unset, .unset, .unset, .unset] [(.int (3 : Int32))]))
      refine OwnGo.of (A := T109.setTop (mkF m 81 #[.val (.int p0), .val (.int p1), .val (.int p2), .val (.int cp), .val (.int (1 : Int32)), .val (.int s1), .val (.ref b18), .unset, .unset, .unset, .unset, .unset, .unset] [(.int (3 : Int32))])) (B := T109.setTop (mkF m 87 #[.val (.int p0), .val (.int p1), .val (.int p2), .val (.int cp), .val (.int (1 : Int32)), .val (.int s1), .val (.ref b18), .val (.int (3 : Int32)), .unset, .unset, .unset, .unset, .unset] [(.int (1 : Int32)), (.ref b18)])) (fun t k => ?_) ?_
      · show Steps p.tables e below (T109.setTop (mkF m 81 #[.val (.int p0), .val (.int p1), .val (.int p2), .val (.int cp), .val (.int (1 : Int32)), .val (.int s1), .val (.ref b18), .unset, .unset, .unset, .unset, .unset, .unset] [(.int (3 : Int32))])) t
        refine XS.istore X109.here hx rfl (hb hby at_81) rfl (l' := #[.val (.int p0), .val (.int p1), .val (.int p2), .val (.int cp), .val (.int (1 : Int32)), .val (.int s1), .val (.ref b18), .val (.int (3 : Int32)), .unset, .unset, .unset, .unset, .unset]) rfl ?_
        show Steps p.tables e below (T109.setTop (mkF m 83 #[.val (.int p0), .val (.int p1), .val (.int p2), .val (.int cp), .val (.int (1 : Int32)), .val (.int s1), .val (.ref b18), .val (.int (3 : Int32)), .unset, .unset, .unset, .unset, .unset] [])) t
        refine XS.aload X109.here hx rfl (hb hby at_83) rfl rfl ?_
        show Steps p.tables e below (T109.setTop (mkF m 85 #[.val (.int p0), .val (.int p1), .val (.int p2), .val (.int cp), .val (.int (1 : Int32)), .val (.int s1), .val (.ref b18), .val (.int (3 : Int32)), .unset, .unset, .unset, .unset, .unset] [(.ref b18)])) t
        refine XS.iload X109.here hx rfl (hb hby at_85) rfl ?_
        exact k
      have cq113 := y109_0
      obtain ⟨clq113, Arq113, qq113, Sq113, Nq113, Hq113, Gq113⟩ := cq113
      have hinq113 := inb_of (j := (1 : Int32)) Sq113 ⟨by decide, by decide⟩
      refine OwnGo.of (X109.baloadBytes hx (j := (1 : Int32)) (v := (.int ((((128 : Int32) ||| (((cp - ((128 : Int64).toInt32)).toUInt32 >>> ((7 : Int32) &&& 31).toUInt32).toInt32)).toInt8.toInt32)).toInt8.toInt32)) Arq113.1 (State.isArrayOf_alike hZ.alike Arq113.2.1) Arq113.2.2 hinq113 (Hq113.at hinq113 rfl) (g := (mkF m 87 #[.val (.int p0), .val (.int p1), .val (.int p2), .val (.int cp), .val (.int (1 : Int32)), .val (.int s1), .val (.ref b18), .val (.int (3 : Int32)), .unset, .unset, .unset, .unset, .unset] [(.int (1 : Int32)), (.ref b18)])) rfl rfl (hb hby at_87)) ?_
      show OwnGo p.tables e below _ (T109.setTop (mkF m 88 #[.val (.int p0), .val (.int p1), .val (.int p2), .val (.int cp), .val (.int (1 : Int32)), .val (.int s1), .val (.ref b18), .val (.int (3 : Int32)), .unset, .unset, .unset, .unset, .unset] [(.int ((((128 : Int32) ||| (((cp - ((128 : Int64).toInt32)).toUInt32 >>> ((7 : Int32) &&& 31).toUInt32).toInt32)).toInt8.toInt32)).toInt8.toInt32)]))
      refine OwnGo.of (A := T109.setTop (mkF m 88 #[.val (.int p0), .val (.int p1), .val (.int p2), .val (.int cp), .val (.int (1 : Int32)), .val (.int s1), .val (.ref b18), .val (.int (3 : Int32)), .unset, .unset, .unset, .unset, .unset] [(.int ((((128 : Int32) ||| (((cp - ((128 : Int64).toInt32)).toUInt32 >>> ((7 : Int32) &&& 31).toUInt32).toInt32)).toInt8.toInt32)).toInt8.toInt32)])) (B := T109.setTop (mkF m 94 #[.val (.int p0), .val (.int p1), .val (.int p2), .val (.int cp), .val (.int (1 : Int32)), .val (.int s1), .val (.ref b18), .val (.int (3 : Int32)), .val (.int (((((128 : Int32) ||| (((cp - ((128 : Int64).toInt32)).toUInt32 >>> ((7 : Int32) &&& 31).toUInt32).toInt32)).toInt8.toInt32)).toInt8.toInt32 &&& (255 : Int32))), .unset, .unset, .unset, .unset] [])) (fun t k => ?_) ?_
      · show Steps p.tables e below (T109.setTop (mkF m 88 #[.val (.int p0), .val (.int p1), .val (.int p2), .val (.int cp), .val (.int (1 : Int32)), .val (.int s1), .val (.ref b18), .val (.int (3 : Int32)), .unset, .unset, .unset, .unset, .unset] [(.int ((((128 : Int32) ||| (((cp - ((128 : Int64).toInt32)).toUInt32 >>> ((7 : Int32) &&& 31).toUInt32).toInt32)).toInt8.toInt32)).toInt8.toInt32)])) t
        refine XS.sipush X109.here hx rfl (hb hby at_88) ?_
        show Steps p.tables e below (T109.setTop (mkF m 91 #[.val (.int p0), .val (.int p1), .val (.int p2), .val (.int cp), .val (.int (1 : Int32)), .val (.int s1), .val (.ref b18), .val (.int (3 : Int32)), .unset, .unset, .unset, .unset, .unset] [(.int (255 : Int32)), (.int ((((128 : Int32) ||| (((cp - ((128 : Int64).toInt32)).toUInt32 >>> ((7 : Int32) &&& 31).toUInt32).toInt32)).toInt8.toInt32)).toInt8.toInt32)])) t
        refine XS.iand X109.here hx rfl (hb hby at_91) rfl ?_
        show Steps p.tables e below (T109.setTop (mkF m 92 #[.val (.int p0), .val (.int p1), .val (.int p2), .val (.int cp), .val (.int (1 : Int32)), .val (.int s1), .val (.ref b18), .val (.int (3 : Int32)), .unset, .unset, .unset, .unset, .unset] [(.int (((((128 : Int32) ||| (((cp - ((128 : Int64).toInt32)).toUInt32 >>> ((7 : Int32) &&& 31).toUInt32).toInt32)).toInt8.toInt32)).toInt8.toInt32 &&& (255 : Int32)))])) t
        refine XS.istore X109.here hx rfl (hb hby at_92) rfl (l' := #[.val (.int p0), .val (.int p1), .val (.int p2), .val (.int cp), .val (.int (1 : Int32)), .val (.int s1), .val (.ref b18), .val (.int (3 : Int32)), .val (.int (((((128 : Int32) ||| (((cp - ((128 : Int64).toInt32)).toUInt32 >>> ((7 : Int32) &&& 31).toUInt32).toInt32)).toInt8.toInt32)).toInt8.toInt32 &&& (255 : Int32))), .unset, .unset, .unset, .unset]) rfl ?_
        exact k
      obtain ⟨b0, hb0⟩ : ∃ z, z = (((((128 : Int32) ||| (((cp - ((128 : Int64).toInt32)).toUInt32 >>> ((7 : Int32) &&& 31).toUInt32).toInt32)).toInt8.toInt32)).toInt8.toInt32 &&& (255 : Int32)) := ⟨_, rfl⟩
      have tb0 : b0.toInt = 128 + (cp.toInt - 128) / 128 := by subst hb0; exact own_B0 cp hcb hA hB
      rw [← hb0]
      show OwnGo p.tables e below _ (T109.setTop (mkF m 94 #[.val (.int p0), .val (.int p1), .val (.int p2), .val (.int cp), .val (.int (1 : Int32)), .val (.int s1), .val (.ref b18), .val (.int (3 : Int32)), .val (.int b0), .unset, .unset, .unset, .unset] []))
      refine OwnGo.of (A := T109.setTop (mkF m 94 #[.val (.int p0), .val (.int p1), .val (.int p2), .val (.int cp), .val (.int (1 : Int32)), .val (.int s1), .val (.ref b18), .val (.int (3 : Int32)), .val (.int b0), .unset, .unset, .unset, .unset] [])) (B := T109.setTop (mkF m 99 #[.val (.int p0), .val (.int p1), .val (.int p2), .val (.int cp), .val (.int (1 : Int32)), .val (.int s1), .val (.ref b18), .val (.int (3 : Int32)), .val (.int b0), .unset, .unset, .unset, .unset] [(.int (128 : Int32)), (.int b0)])) (fun t k => ?_) ?_
      · show Steps p.tables e below (T109.setTop (mkF m 94 #[.val (.int p0), .val (.int p1), .val (.int p2), .val (.int cp), .val (.int (1 : Int32)), .val (.int s1), .val (.ref b18), .val (.int (3 : Int32)), .val (.int b0), .unset, .unset, .unset, .unset] [])) t
        refine XS.iload X109.here hx rfl (hb hby at_94) rfl ?_
        show Steps p.tables e below (T109.setTop (mkF m 96 #[.val (.int p0), .val (.int p1), .val (.int p2), .val (.int cp), .val (.int (1 : Int32)), .val (.int s1), .val (.ref b18), .val (.int (3 : Int32)), .val (.int b0), .unset, .unset, .unset, .unset] [(.int b0)])) t
        refine XS.sipush X109.here hx rfl (hb hby at_96) ?_
        exact k
      have hc114 : ¬ (b0 < (128 : Int32)) := by rw [own_lt128]; rw [own_127] at hA; rw [own_l16] at hB; omega
      refine OwnGo.of (A := T109.setTop (mkF m 99 #[.val (.int p0), .val (.int p1), .val (.int p2), .val (.int cp), .val (.int (1 : Int32)), .val (.int s1), .val (.ref b18), .val (.int (3 : Int32)), .val (.int b0), .unset, .unset, .unset, .unset] [(.int (128 : Int32)), (.int b0)])) (B := T109.setTop (mkF m 118 #[.val (.int p0), .val (.int p1), .val (.int p2), .val (.int cp), .val (.int (1 : Int32)), .val (.int s1), .val (.ref b18), .val (.int (3 : Int32)), .val (.int b0), .unset, .unset, .unset, .unset] [(.int ((1 : Int32) + (1 : Int32))), (.ref b18)])) (fun t k => ?_) ?_
      · show Steps p.tables e below (T109.setTop (mkF m 99 #[.val (.int p0), .val (.int p1), .val (.int p2), .val (.int cp), .val (.int (1 : Int32)), .val (.int s1), .val (.ref b18), .val (.int (3 : Int32)), .val (.int b0), .unset, .unset, .unset, .unset] [(.int (128 : Int32)), (.int b0)])) t
        refine XS.icmpYes X109.here hx rfl (pc0 := 99) (pc' := 112) rfl (hb hby at_99) rfl (flt hc114).2.1 (by decide) (by decide) ?_
        show Steps p.tables e below (T109.setTop (mkF m 112 #[.val (.int p0), .val (.int p1), .val (.int p2), .val (.int cp), .val (.int (1 : Int32)), .val (.int s1), .val (.ref b18), .val (.int (3 : Int32)), .val (.int b0), .unset, .unset, .unset, .unset] [])) t
        refine XS.aload X109.here hx rfl (hb hby at_112) rfl rfl ?_
        show Steps p.tables e below (T109.setTop (mkF m 114 #[.val (.int p0), .val (.int p1), .val (.int p2), .val (.int cp), .val (.int (1 : Int32)), .val (.int s1), .val (.ref b18), .val (.int (3 : Int32)), .val (.int b0), .unset, .unset, .unset, .unset] [(.ref b18)])) t
        refine XS.iload X109.here hx rfl (hb hby at_114) rfl ?_
        show Steps p.tables e below (T109.setTop (mkF m 116 #[.val (.int p0), .val (.int p1), .val (.int p2), .val (.int cp), .val (.int (1 : Int32)), .val (.int s1), .val (.ref b18), .val (.int (3 : Int32)), .val (.int b0), .unset, .unset, .unset, .unset] [(.int (1 : Int32)), (.ref b18)])) t
        refine XS.iconst X109.here hx rfl (hb hby at_116) ?_
        show Steps p.tables e below (T109.setTop (mkF m 117 #[.val (.int p0), .val (.int p1), .val (.int p2), .val (.int cp), .val (.int (1 : Int32)), .val (.int s1), .val (.ref b18), .val (.int (3 : Int32)), .val (.int b0), .unset, .unset, .unset, .unset] [(.int (1 : Int32)), (.int (1 : Int32)), (.ref b18)])) t
        refine XS.iadd X109.here hx rfl (hb hby at_117) rfl ?_
        exact k
      rw [show ((1 : Int32) + (1 : Int32)) = (2 : Int32) from by decide]
      show OwnGo p.tables e below _ (T109.setTop (mkF m 118 #[.val (.int p0), .val (.int p1), .val (.int p2), .val (.int cp), .val (.int (1 : Int32)), .val (.int s1), .val (.ref b18), .val (.int (3 : Int32)), .val (.int b0), .unset, .unset, .unset, .unset] [(.int (2 : Int32)), (.ref b18)]))
      have cq115 := y109_0
      obtain ⟨clq115, Arq115, qq115, Sq115, Nq115, Hq115, Gq115⟩ := cq115
      have hinq115 := inb_of (j := (2 : Int32)) Sq115 ⟨by decide, by decide⟩
      refine OwnGo.of (X109.baloadBytes hx (j := (2 : Int32)) (v := (.int ((((cp - ((128 : Int64).toInt32)) &&& (127 : Int32)).toInt8.toInt32)).toInt8.toInt32)) Arq115.1 (State.isArrayOf_alike hZ.alike Arq115.2.1) Arq115.2.2 hinq115 (Hq115.at hinq115 rfl) (g := (mkF m 118 #[.val (.int p0), .val (.int p1), .val (.int p2), .val (.int cp), .val (.int (1 : Int32)), .val (.int s1), .val (.ref b18), .val (.int (3 : Int32)), .val (.int b0), .unset, .unset, .unset, .unset] [(.int (2 : Int32)), (.ref b18)])) rfl rfl (hb hby at_118)) ?_
      show OwnGo p.tables e below _ (T109.setTop (mkF m 119 #[.val (.int p0), .val (.int p1), .val (.int p2), .val (.int cp), .val (.int (1 : Int32)), .val (.int s1), .val (.ref b18), .val (.int (3 : Int32)), .val (.int b0), .unset, .unset, .unset, .unset] [(.int ((((cp - ((128 : Int64).toInt32)) &&& (127 : Int32)).toInt8.toInt32)).toInt8.toInt32)]))
      refine OwnGo.of (A := T109.setTop (mkF m 119 #[.val (.int p0), .val (.int p1), .val (.int p2), .val (.int cp), .val (.int (1 : Int32)), .val (.int s1), .val (.ref b18), .val (.int (3 : Int32)), .val (.int b0), .unset, .unset, .unset, .unset] [(.int ((((cp - ((128 : Int64).toInt32)) &&& (127 : Int32)).toInt8.toInt32)).toInt8.toInt32)])) (B := T109.setTop (mkF m 125 #[.val (.int p0), .val (.int p1), .val (.int p2), .val (.int cp), .val (.int (1 : Int32)), .val (.int s1), .val (.ref b18), .val (.int (3 : Int32)), .val (.int b0), .unset, .unset, .val (.int (((((cp - ((128 : Int64).toInt32)) &&& (127 : Int32)).toInt8.toInt32)).toInt8.toInt32 &&& (255 : Int32))), .unset] [])) (fun t k => ?_) ?_
      · show Steps p.tables e below (T109.setTop (mkF m 119 #[.val (.int p0), .val (.int p1), .val (.int p2), .val (.int cp), .val (.int (1 : Int32)), .val (.int s1), .val (.ref b18), .val (.int (3 : Int32)), .val (.int b0), .unset, .unset, .unset, .unset] [(.int ((((cp - ((128 : Int64).toInt32)) &&& (127 : Int32)).toInt8.toInt32)).toInt8.toInt32)])) t
        refine XS.sipush X109.here hx rfl (hb hby at_119) ?_
        show Steps p.tables e below (T109.setTop (mkF m 122 #[.val (.int p0), .val (.int p1), .val (.int p2), .val (.int cp), .val (.int (1 : Int32)), .val (.int s1), .val (.ref b18), .val (.int (3 : Int32)), .val (.int b0), .unset, .unset, .unset, .unset] [(.int (255 : Int32)), (.int ((((cp - ((128 : Int64).toInt32)) &&& (127 : Int32)).toInt8.toInt32)).toInt8.toInt32)])) t
        refine XS.iand X109.here hx rfl (hb hby at_122) rfl ?_
        show Steps p.tables e below (T109.setTop (mkF m 123 #[.val (.int p0), .val (.int p1), .val (.int p2), .val (.int cp), .val (.int (1 : Int32)), .val (.int s1), .val (.ref b18), .val (.int (3 : Int32)), .val (.int b0), .unset, .unset, .unset, .unset] [(.int (((((cp - ((128 : Int64).toInt32)) &&& (127 : Int32)).toInt8.toInt32)).toInt8.toInt32 &&& (255 : Int32)))])) t
        refine XS.istore X109.here hx rfl (hb hby at_123) rfl (l' := #[.val (.int p0), .val (.int p1), .val (.int p2), .val (.int cp), .val (.int (1 : Int32)), .val (.int s1), .val (.ref b18), .val (.int (3 : Int32)), .val (.int b0), .unset, .unset, .val (.int (((((cp - ((128 : Int64).toInt32)) &&& (127 : Int32)).toInt8.toInt32)).toInt8.toInt32 &&& (255 : Int32))), .unset]) rfl ?_
        exact k
      obtain ⟨b1, hb1⟩ : ∃ z, z = (((((cp - ((128 : Int64).toInt32)) &&& (127 : Int32)).toInt8.toInt32)).toInt8.toInt32 &&& (255 : Int32)) := ⟨_, rfl⟩
      have tb1 : b1.toInt = (cp.toInt - 128) % 128 := by subst hb1; exact own_B1 cp hcb hA
      rw [← hb1]
      show OwnGo p.tables e below _ (T109.setTop (mkF m 125 #[.val (.int p0), .val (.int p1), .val (.int p2), .val (.int cp), .val (.int (1 : Int32)), .val (.int s1), .val (.ref b18), .val (.int (3 : Int32)), .val (.int b0), .unset, .unset, .val (.int b1), .unset] []))
      refine OwnGo.of (A := T109.setTop (mkF m 125 #[.val (.int p0), .val (.int p1), .val (.int p2), .val (.int cp), .val (.int (1 : Int32)), .val (.int s1), .val (.ref b18), .val (.int (3 : Int32)), .val (.int b0), .unset, .unset, .val (.int b1), .unset] [])) (B := T109.setTop (mkF m 130 #[.val (.int p0), .val (.int p1), .val (.int p2), .val (.int cp), .val (.int (1 : Int32)), .val (.int s1), .val (.ref b18), .val (.int (3 : Int32)), .val (.int b0), .unset, .unset, .val (.int b1), .unset] [(.int (128 : Int32)), (.int b1)])) (fun t k => ?_) ?_
      · show Steps p.tables e below (T109.setTop (mkF m 125 #[.val (.int p0), .val (.int p1), .val (.int p2), .val (.int cp), .val (.int (1 : Int32)), .val (.int s1), .val (.ref b18), .val (.int (3 : Int32)), .val (.int b0), .unset, .unset, .val (.int b1), .unset] [])) t
        refine XS.iload X109.here hx rfl (hb hby at_125) rfl ?_
        show Steps p.tables e below (T109.setTop (mkF m 127 #[.val (.int p0), .val (.int p1), .val (.int p2), .val (.int cp), .val (.int (1 : Int32)), .val (.int s1), .val (.ref b18), .val (.int (3 : Int32)), .val (.int b0), .unset, .unset, .val (.int b1), .unset] [(.int b1)])) t
        refine XS.sipush X109.here hx rfl (hb hby at_127) ?_
        exact k
      have hc116 : b1 < (128 : Int32) := by rw [own_lt128]; rw [own_127] at hA; rw [own_l16] at hB; omega
      refine OwnGo.of (A := T109.setTop (mkF m 130 #[.val (.int p0), .val (.int p1), .val (.int p2), .val (.int cp), .val (.int (1 : Int32)), .val (.int s1), .val (.ref b18), .val (.int (3 : Int32)), .val (.int b0), .unset, .unset, .val (.int b1), .unset] [(.int (128 : Int32)), (.int b1)])) (B := T109.setTop (mkF m 221 #[.val (.int p0), .val (.int p1), .val (.int p2), .val (.int cp), .val (.int (1 : Int32)), .val (.int s1), .val (.ref b18), .val (.int (3 : Int32)), .val (.int b0), .val (.int (2 : Int32)), .val (.int (((128 : Int32) + ((b0 - (128 : Int32)) * (128 : Int32))) + b1)), .val (.int b1), .unset] [(.int ((1 : Int32) + (2 : Int32))), (.int (3 : Int32))])) (fun t k => ?_) ?_
      · show Steps p.tables e below (T109.setTop (mkF m 130 #[.val (.int p0), .val (.int p1), .val (.int p2), .val (.int cp), .val (.int (1 : Int32)), .val (.int s1), .val (.ref b18), .val (.int (3 : Int32)), .val (.int b0), .unset, .unset, .val (.int b1), .unset] [(.int (128 : Int32)), (.int b1)])) t
        refine XS.icmpNo X109.here hx rfl (hb hby at_130) rfl (tlt hc116).2.1 ?_
        show Steps p.tables e below (T109.setTop (mkF m 133 #[.val (.int p0), .val (.int p1), .val (.int p2), .val (.int cp), .val (.int (1 : Int32)), .val (.int s1), .val (.ref b18), .val (.int (3 : Int32)), .val (.int b0), .unset, .unset, .val (.int b1), .unset] [])) t
        refine XS.iconst X109.here hx rfl (hb hby at_133) ?_
        show Steps p.tables e below (T109.setTop (mkF m 134 #[.val (.int p0), .val (.int p1), .val (.int p2), .val (.int cp), .val (.int (1 : Int32)), .val (.int s1), .val (.ref b18), .val (.int (3 : Int32)), .val (.int b0), .unset, .unset, .val (.int b1), .unset] [(.int (2 : Int32))])) t
        refine XS.istore X109.here hx rfl (hb hby at_134) rfl (l' := #[.val (.int p0), .val (.int p1), .val (.int p2), .val (.int cp), .val (.int (1 : Int32)), .val (.int s1), .val (.ref b18), .val (.int (3 : Int32)), .val (.int b0), .val (.int (2 : Int32)), .unset, .val (.int b1), .unset]) rfl ?_
        show Steps p.tables e below (T109.setTop (mkF m 136 #[.val (.int p0), .val (.int p1), .val (.int p2), .val (.int cp), .val (.int (1 : Int32)), .val (.int s1), .val (.ref b18), .val (.int (3 : Int32)), .val (.int b0), .val (.int (2 : Int32)), .unset, .val (.int b1), .unset] [])) t
        refine XS.sipush X109.here hx rfl (hb hby at_136) ?_
        show Steps p.tables e below (T109.setTop (mkF m 139 #[.val (.int p0), .val (.int p1), .val (.int p2), .val (.int cp), .val (.int (1 : Int32)), .val (.int s1), .val (.ref b18), .val (.int (3 : Int32)), .val (.int b0), .val (.int (2 : Int32)), .unset, .val (.int b1), .unset] [(.int (128 : Int32))])) t
        refine XS.iload X109.here hx rfl (hb hby at_139) rfl ?_
        show Steps p.tables e below (T109.setTop (mkF m 141 #[.val (.int p0), .val (.int p1), .val (.int p2), .val (.int cp), .val (.int (1 : Int32)), .val (.int s1), .val (.ref b18), .val (.int (3 : Int32)), .val (.int b0), .val (.int (2 : Int32)), .unset, .val (.int b1), .unset] [(.int b0), (.int (128 : Int32))])) t
        refine XS.sipush X109.here hx rfl (hb hby at_141) ?_
        show Steps p.tables e below (T109.setTop (mkF m 144 #[.val (.int p0), .val (.int p1), .val (.int p2), .val (.int cp), .val (.int (1 : Int32)), .val (.int s1), .val (.ref b18), .val (.int (3 : Int32)), .val (.int b0), .val (.int (2 : Int32)), .unset, .val (.int b1), .unset] [(.int (128 : Int32)), (.int b0), (.int (128 : Int32))])) t
        refine XS.isub X109.here hx rfl (hb hby at_144) rfl ?_
        show Steps p.tables e below (T109.setTop (mkF m 145 #[.val (.int p0), .val (.int p1), .val (.int p2), .val (.int cp), .val (.int (1 : Int32)), .val (.int s1), .val (.ref b18), .val (.int (3 : Int32)), .val (.int b0), .val (.int (2 : Int32)), .unset, .val (.int b1), .unset] [(.int (b0 - (128 : Int32))), (.int (128 : Int32))])) t
        refine XS.sipush X109.here hx rfl (hb hby at_145) ?_
        show Steps p.tables e below (T109.setTop (mkF m 148 #[.val (.int p0), .val (.int p1), .val (.int p2), .val (.int cp), .val (.int (1 : Int32)), .val (.int s1), .val (.ref b18), .val (.int (3 : Int32)), .val (.int b0), .val (.int (2 : Int32)), .unset, .val (.int b1), .unset] [(.int (128 : Int32)), (.int (b0 - (128 : Int32))), (.int (128 : Int32))])) t
        refine XS.imul X109.here hx rfl (hb hby at_148) rfl ?_
        show Steps p.tables e below (T109.setTop (mkF m 149 #[.val (.int p0), .val (.int p1), .val (.int p2), .val (.int cp), .val (.int (1 : Int32)), .val (.int s1), .val (.ref b18), .val (.int (3 : Int32)), .val (.int b0), .val (.int (2 : Int32)), .unset, .val (.int b1), .unset] [(.int ((b0 - (128 : Int32)) * (128 : Int32))), (.int (128 : Int32))])) t
        refine XS.iadd X109.here hx rfl (hb hby at_149) rfl ?_
        show Steps p.tables e below (T109.setTop (mkF m 150 #[.val (.int p0), .val (.int p1), .val (.int p2), .val (.int cp), .val (.int (1 : Int32)), .val (.int s1), .val (.ref b18), .val (.int (3 : Int32)), .val (.int b0), .val (.int (2 : Int32)), .unset, .val (.int b1), .unset] [(.int ((128 : Int32) + ((b0 - (128 : Int32)) * (128 : Int32))))])) t
        refine XS.iload X109.here hx rfl (hb hby at_150) rfl ?_
        show Steps p.tables e below (T109.setTop (mkF m 152 #[.val (.int p0), .val (.int p1), .val (.int p2), .val (.int cp), .val (.int (1 : Int32)), .val (.int s1), .val (.ref b18), .val (.int (3 : Int32)), .val (.int b0), .val (.int (2 : Int32)), .unset, .val (.int b1), .unset] [(.int b1), (.int ((128 : Int32) + ((b0 - (128 : Int32)) * (128 : Int32))))])) t
        refine XS.iadd X109.here hx rfl (hb hby at_152) rfl ?_
        show Steps p.tables e below (T109.setTop (mkF m 153 #[.val (.int p0), .val (.int p1), .val (.int p2), .val (.int cp), .val (.int (1 : Int32)), .val (.int s1), .val (.ref b18), .val (.int (3 : Int32)), .val (.int b0), .val (.int (2 : Int32)), .unset, .val (.int b1), .unset] [(.int (((128 : Int32) + ((b0 - (128 : Int32)) * (128 : Int32))) + b1))])) t
        refine XS.istore X109.here hx rfl (hb hby at_153) rfl (l' := #[.val (.int p0), .val (.int p1), .val (.int p2), .val (.int cp), .val (.int (1 : Int32)), .val (.int s1), .val (.ref b18), .val (.int (3 : Int32)), .val (.int b0), .val (.int (2 : Int32)), .val (.int (((128 : Int32) + ((b0 - (128 : Int32)) * (128 : Int32))) + b1)), .val (.int b1), .unset]) rfl ?_
        show Steps p.tables e below (T109.setTop (mkF m 155 #[.val (.int p0), .val (.int p1), .val (.int p2), .val (.int cp), .val (.int (1 : Int32)), .val (.int s1), .val (.ref b18), .val (.int (3 : Int32)), .val (.int b0), .val (.int (2 : Int32)), .val (.int (((128 : Int32) + ((b0 - (128 : Int32)) * (128 : Int32))) + b1)), .val (.int b1), .unset] [])) t
        refine XS.goto X109.here hx rfl (pc0 := 155) (pc' := 214) rfl (hb hby at_155) (by decide) (by decide) ?_
        show Steps p.tables e below (T109.setTop (mkF m 214 #[.val (.int p0), .val (.int p1), .val (.int p2), .val (.int cp), .val (.int (1 : Int32)), .val (.int s1), .val (.ref b18), .val (.int (3 : Int32)), .val (.int b0), .val (.int (2 : Int32)), .val (.int (((128 : Int32) + ((b0 - (128 : Int32)) * (128 : Int32))) + b1)), .val (.int b1), .unset] [])) t
        refine XS.iload X109.here hx rfl (hb hby at_214) rfl ?_
        show Steps p.tables e below (T109.setTop (mkF m 216 #[.val (.int p0), .val (.int p1), .val (.int p2), .val (.int cp), .val (.int (1 : Int32)), .val (.int s1), .val (.ref b18), .val (.int (3 : Int32)), .val (.int b0), .val (.int (2 : Int32)), .val (.int (((128 : Int32) + ((b0 - (128 : Int32)) * (128 : Int32))) + b1)), .val (.int b1), .unset] [(.int (3 : Int32))])) t
        refine XS.iload X109.here hx rfl (hb hby at_216) rfl ?_
        show Steps p.tables e below (T109.setTop (mkF m 218 #[.val (.int p0), .val (.int p1), .val (.int p2), .val (.int cp), .val (.int (1 : Int32)), .val (.int s1), .val (.ref b18), .val (.int (3 : Int32)), .val (.int b0), .val (.int (2 : Int32)), .val (.int (((128 : Int32) + ((b0 - (128 : Int32)) * (128 : Int32))) + b1)), .val (.int b1), .unset] [(.int (1 : Int32)), (.int (3 : Int32))])) t
        refine XS.iload X109.here hx rfl (hb hby at_218) rfl ?_
        show Steps p.tables e below (T109.setTop (mkF m 220 #[.val (.int p0), .val (.int p1), .val (.int p2), .val (.int cp), .val (.int (1 : Int32)), .val (.int s1), .val (.ref b18), .val (.int (3 : Int32)), .val (.int b0), .val (.int (2 : Int32)), .val (.int (((128 : Int32) + ((b0 - (128 : Int32)) * (128 : Int32))) + b1)), .val (.int b1), .unset] [(.int (2 : Int32)), (.int (1 : Int32)), (.int (3 : Int32))])) t
        refine XS.iadd X109.here hx rfl (hb hby at_220) rfl ?_
        exact k
      have hc117 : (3 : Int32) = ((1 : Int32) + (2 : Int32)) := by decide
      refine OwnGo.of (A := T109.setTop (mkF m 221 #[.val (.int p0), .val (.int p1), .val (.int p2), .val (.int cp), .val (.int (1 : Int32)), .val (.int s1), .val (.ref b18), .val (.int (3 : Int32)), .val (.int b0), .val (.int (2 : Int32)), .val (.int (((128 : Int32) + ((b0 - (128 : Int32)) * (128 : Int32))) + b1)), .val (.int b1), .unset] [(.int ((1 : Int32) + (2 : Int32))), (.int (3 : Int32))])) (B := T109.setTop (mkF m 229 #[.val (.int p0), .val (.int p1), .val (.int p2), .val (.int cp), .val (.int (1 : Int32)), .val (.int s1), .val (.ref b18), .val (.int (3 : Int32)), .val (.int b0), .val (.int (2 : Int32)), .val (.int (((128 : Int32) + ((b0 - (128 : Int32)) * (128 : Int32))) + b1)), .val (.int b1), .unset] [(.int cp), (.int (((128 : Int32) + ((b0 - (128 : Int32)) * (128 : Int32))) + b1))])) (fun t k => ?_) ?_
      · show Steps p.tables e below (T109.setTop (mkF m 221 #[.val (.int p0), .val (.int p1), .val (.int p2), .val (.int cp), .val (.int (1 : Int32)), .val (.int s1), .val (.ref b18), .val (.int (3 : Int32)), .val (.int b0), .val (.int (2 : Int32)), .val (.int (((128 : Int32) + ((b0 - (128 : Int32)) * (128 : Int32))) + b1)), .val (.int b1), .unset] [(.int ((1 : Int32) + (2 : Int32))), (.int (3 : Int32))])) t
        refine XS.icmpYes X109.here hx rfl (pc0 := 221) (pc' := 226) rfl (hb hby at_221) rfl (teq hc117).1 (by decide) (by decide) ?_
        show Steps p.tables e below (T109.setTop (mkF m 226 #[.val (.int p0), .val (.int p1), .val (.int p2), .val (.int cp), .val (.int (1 : Int32)), .val (.int s1), .val (.ref b18), .val (.int (3 : Int32)), .val (.int b0), .val (.int (2 : Int32)), .val (.int (((128 : Int32) + ((b0 - (128 : Int32)) * (128 : Int32))) + b1)), .val (.int b1), .unset] [])) t
        refine XS.iload X109.here hx rfl (hb hby at_226) rfl ?_
        show Steps p.tables e below (T109.setTop (mkF m 228 #[.val (.int p0), .val (.int p1), .val (.int p2), .val (.int cp), .val (.int (1 : Int32)), .val (.int s1), .val (.ref b18), .val (.int (3 : Int32)), .val (.int b0), .val (.int (2 : Int32)), .val (.int (((128 : Int32) + ((b0 - (128 : Int32)) * (128 : Int32))) + b1)), .val (.int b1), .unset] [(.int (((128 : Int32) + ((b0 - (128 : Int32)) * (128 : Int32))) + b1))])) t
        refine XS.iloadN X109.here hx rfl (hb hby at_228) rfl ?_
        exact k
      have hc118 : (((128 : Int32) + ((b0 - (128 : Int32)) * (128 : Int32))) + b1) = cp := own_vB cp b0 b1 hcb tb0 tb1
      refine OwnGo.of (A := T109.setTop (mkF m 229 #[.val (.int p0), .val (.int p1), .val (.int p2), .val (.int cp), .val (.int (1 : Int32)), .val (.int s1), .val (.ref b18), .val (.int (3 : Int32)), .val (.int b0), .val (.int (2 : Int32)), .val (.int (((128 : Int32) + ((b0 - (128 : Int32)) * (128 : Int32))) + b1)), .val (.int b1), .unset] [(.int cp), (.int (((128 : Int32) + ((b0 - (128 : Int32)) * (128 : Int32))) + b1))])) (B := T109.setTop (mkF m 234 #[.val (.int p0), .val (.int p1), .val (.int p2), .val (.int cp), .val (.int (1 : Int32)), .val (.int s1), .val (.ref b18), .val (.int (3 : Int32)), .val (.int b0), .val (.int (2 : Int32)), .val (.int (((128 : Int32) + ((b0 - (128 : Int32)) * (128 : Int32))) + b1)), .val (.int b1), .unset] [])) (fun t k => ?_) ?_
      · show Steps p.tables e below (T109.setTop (mkF m 229 #[.val (.int p0), .val (.int p1), .val (.int p2), .val (.int cp), .val (.int (1 : Int32)), .val (.int s1), .val (.ref b18), .val (.int (3 : Int32)), .val (.int b0), .val (.int (2 : Int32)), .val (.int (((128 : Int32) + ((b0 - (128 : Int32)) * (128 : Int32))) + b1)), .val (.int b1), .unset] [(.int cp), (.int (((128 : Int32) + ((b0 - (128 : Int32)) * (128 : Int32))) + b1))])) t
        refine XS.icmpYes X109.here hx rfl (pc0 := 229) (pc' := 234) rfl (hb hby at_229) rfl (teq hc118).1 (by decide) (by decide) ?_
        exact k
      exact J234 T109 _ _ (.val (.int p0)) (.val (.int p1)) (.val (.int p2)) (.val (.int cp)) (.val (.int b0)) (.val (.int (2 : Int32))) (.val (.int (((128 : Int32) + ((b0 - (128 : Int32)) * (128 : Int32))) + b1))) (.val (.int b1)) (.unset) (1 : Int32) s1 (3 : Int32) b18 ((s1).toInt8.toInt32) (((((128 : Int32) ||| (((cp - ((128 : Int64).toInt32)).toUInt32 >>> ((7 : Int32) &&& 31).toUInt32).toInt32)).toInt8.toInt32)).toInt8.toInt32) (((((cp - ((128 : Int64).toInt32)) &&& (127 : Int32)).toInt8.toInt32)).toInt8.toInt32) ((s1).toInt8.toInt32) ((s1).toInt8.toInt32) ((s1).toInt8.toInt32) ((s1).toInt8.toInt32) ((s1).toInt8.toInt32) k18 X109 rfl N109 f110 y109_0 (by simp [own_k0, hs]) (by simp [own_k1, hs]) (by simp [own_k2, hs]) (by simp [own_k3, hs]) (by simp [own_k4, hs]) (by simp [own_k5, hs]) (by simp [own_k6, hs]) (by simp [own_k7, hs])
    · show OwnGo p.tables e below _ (T66.setTop (mkF m 78 #[.val (.int p0), .val (.int p1), .val (.int p2), .val (.int cp), .val (.int (1 : Int32)), .val (.int s1), .val (.ref b18), .unset, .unset, .unset, .unset, .unset, .unset] [(.int (1 : Int32)), (.ref b18), (.int cp)]))
      obtain ⟨_, _, ⟨T119, L119, k119, n119⟩, -, X119, ⟨Lc119, hQ119, l119, y119, z119⟩, st119⟩ := Jvm.LawKit.callS X66 hx (y := (⟨"com/example/sevenfold/sevenfold/Natural", "writeCodePoint", "(I[BI)I"⟩ : MethodName)) hown (mvT hZ (hw _ (List.mem_of_getElem? (i := 3) rfl))) (mvT hZ (hw _ (List.mem_of_getElem? (i := 4) rfl))) (mvT hZ (hw _ (List.mem_of_getElem? (i := 5) rfl))) (mvT hZ (hw _ (List.mem_of_getElem? (i := 6) rfl))) (by decide) (backOf (W := 0) (rm1_1C l Z aw hw [] cp b18 (s1).toInt8.toInt32 (s1).toInt8.toInt32 (s1).toInt8.toInt32 (s1).toInt8.toInt32 (s1).toInt8.toInt32 (s1).toInt8.toInt32 (s1).toInt8.toInt32 (s1).toInt8.toInt32 k18 wF kf h66 n0 f67 f68 f69 f70 g_b18 ne_wF_b18 hA hB) hZ (hw _ (List.mem_of_getElem? (i := 6) rfl)) (hw _ (List.mem_of_getElem? (i := 5) rfl)) (by decide) (by decide)) (g := (mkF m 78 #[.val (.int p0), .val (.int p1), .val (.int p2), .val (.int cp), .val (.int (1 : Int32)), .val (.int s1), .val (.ref b18), .unset, .unset, .unset, .unset, .unset, .unset] [(.int (1 : Int32)), (.ref b18), (.int cp)])) rfl (by rw [hml]; rfl) (argsL := [(.int cp), (.ref b18), (.int (1 : Int32))]) (rest := []) (lenOf pd_3 rfl) rfl (by show 2 * 0 + _ ≤ _; exact Nat.le_of_eq rfl) (hb hby at_78) (fun _ _ => ⟨rfl, e66, (by decide : 1 + 0 ≤ _), (by decide : 8 + 0 ≤ _)⟩)
      dsimp only [Pt.U, Pt.locs, Pt.cells, Pt.slots] at X119 l119 y119 z119 st119 hQ119
      subst l119 y119 z119
      obtain ⟨rfl, N119q, K119, y119_0⟩ := hQ119
      have f120 : n0 ≤ T119.heap.size := Nat.le_trans f67 K119.1
      have f121 : Sta Z T119.heap "com/example/sevenfold/sevenfold/Natural" "FIRST_OF_LENGTH" "[J" (.ref wF) := own_sta_keep f68 K119 (allS (own_ns_arv f70) all0)
      have f122 : Arv Z T119.heap wF kf .long (10 : Int32) [(.long (0 : Int64)), (.long (0 : Int64)), (.long (128 : Int64)), (.long (16512 : Int64)), (.long (2113664 : Int64)), (.long (270549120 : Int64)), (.long (34630287488 : Int64)), (.long (4432676798592 : Int64)), (.long (567382630219904 : Int64)), (.long (72624976668147840 : Int64))] (.long (0 : Int64)) := f69.keep K119 (ninS ne_wF_b18 nin0)
      have N119 := Fr.app N66 N119q
      refine OwnGo.of st119 ?_
      show OwnGo p.tables e below _ (T119.setTop (mkF m 81 #[.val (.int p0), .val (.int p1), .val (.int p2), .val (.int cp), .val (.int (1 : Int32)), .val (.int s1), .val (.ref b18), .unset, .unset, .unset, .unset, .unset, .unset] [(.int (4 : Int32))]))
      refine OwnGo.of (A := T119.setTop (mkF m 81 #[.val (.int p0), .val (.int p1), .val (.int p2), .val (.int cp), .val (.int (1 : Int32)), .val (.int s1), .val (.ref b18), .unset, .unset, .unset, .unset, .unset, .unset] [(.int (4 : Int32))])) (B := T119.setTop (mkF m 87 #[.val (.int p0), .val (.int p1), .val (.int p2), .val (.int cp), .val (.int (1 : Int32)), .val (.int s1), .val (.ref b18), .val (.int (4 : Int32)), .unset, .unset, .unset, .unset, .unset] [(.int (1 : Int32)), (.ref b18)])) (fun t k => ?_) ?_
      · show Steps p.tables e below (T119.setTop (mkF m 81 #[.val (.int p0), .val (.int p1), .val (.int p2), .val (.int cp), .val (.int (1 : Int32)), .val (.int s1), .val (.ref b18), .unset, .unset, .unset, .unset, .unset, .unset] [(.int (4 : Int32))])) t
        refine XS.istore X119.here hx rfl (hb hby at_81) rfl (l' := #[.val (.int p0), .val (.int p1), .val (.int p2), .val (.int cp), .val (.int (1 : Int32)), .val (.int s1), .val (.ref b18), .val (.int (4 : Int32)), .unset, .unset, .unset, .unset, .unset]) rfl ?_
        show Steps p.tables e below (T119.setTop (mkF m 83 #[.val (.int p0), .val (.int p1), .val (.int p2), .val (.int cp), .val (.int (1 : Int32)), .val (.int s1), .val (.ref b18), .val (.int (4 : Int32)), .unset, .unset, .unset, .unset, .unset] [])) t
        refine XS.aload X119.here hx rfl (hb hby at_83) rfl rfl ?_
        show Steps p.tables e below (T119.setTop (mkF m 85 #[.val (.int p0), .val (.int p1), .val (.int p2), .val (.int cp), .val (.int (1 : Int32)), .val (.int s1), .val (.ref b18), .val (.int (4 : Int32)), .unset, .unset, .unset, .unset, .unset] [(.ref b18)])) t
        refine XS.iload X119.here hx rfl (hb hby at_85) rfl ?_
        exact k
      have cq123 := y119_0
      obtain ⟨clq123, Arq123, qq123, Sq123, Nq123, Hq123, Gq123⟩ := cq123
      have hinq123 := inb_of (j := (1 : Int32)) Sq123 ⟨by decide, by decide⟩
      refine OwnGo.of (X119.baloadBytes hx (j := (1 : Int32)) (v := (.int ((((128 : Int32) ||| (((cp - ((16512 : Int64).toInt32)).toUInt32 >>> ((14 : Int32) &&& 31).toUInt32).toInt32)).toInt8.toInt32)).toInt8.toInt32)) Arq123.1 (State.isArrayOf_alike hZ.alike Arq123.2.1) Arq123.2.2 hinq123 (Hq123.at hinq123 rfl) (g := (mkF m 87 #[.val (.int p0), .val (.int p1), .val (.int p2), .val (.int cp), .val (.int (1 : Int32)), .val (.int s1), .val (.ref b18), .val (.int (4 : Int32)), .unset, .unset, .unset, .unset, .unset] [(.int (1 : Int32)), (.ref b18)])) rfl rfl (hb hby at_87)) ?_
      show OwnGo p.tables e below _ (T119.setTop (mkF m 88 #[.val (.int p0), .val (.int p1), .val (.int p2), .val (.int cp), .val (.int (1 : Int32)), .val (.int s1), .val (.ref b18), .val (.int (4 : Int32)), .unset, .unset, .unset, .unset, .unset] [(.int ((((128 : Int32) ||| (((cp - ((16512 : Int64).toInt32)).toUInt32 >>> ((14 : Int32) &&& 31).toUInt32).toInt32)).toInt8.toInt32)).toInt8.toInt32)]))
      refine OwnGo.of (A := T119.setTop (mkF m 88 #[.val (.int p0), .val (.int p1), .val (.int p2), .val (.int cp), .val (.int (1 : Int32)), .val (.int s1), .val (.ref b18), .val (.int (4 : Int32)), .unset, .unset, .unset, .unset, .unset] [(.int ((((128 : Int32) ||| (((cp - ((16512 : Int64).toInt32)).toUInt32 >>> ((14 : Int32) &&& 31).toUInt32).toInt32)).toInt8.toInt32)).toInt8.toInt32)])) (B := T119.setTop (mkF m 94 #[.val (.int p0), .val (.int p1), .val (.int p2), .val (.int cp), .val (.int (1 : Int32)), .val (.int s1), .val (.ref b18), .val (.int (4 : Int32)), .val (.int (((((128 : Int32) ||| (((cp - ((16512 : Int64).toInt32)).toUInt32 >>> ((14 : Int32) &&& 31).toUInt32).toInt32)).toInt8.toInt32)).toInt8.toInt32 &&& (255 : Int32))), .unset, .unset, .unset, .unset] [])) (fun t k => ?_) ?_
      · show Steps p.tables e below (T119.setTop (mkF m 88 #[.val (.int p0), .val (.int p1), .val (.int p2), .val (.int cp), .val (.int (1 : Int32)), .val (.int s1), .val (.ref b18), .val (.int (4 : Int32)), .unset, .unset, .unset, .unset, .unset] [(.int ((((128 : Int32) ||| (((cp - ((16512 : Int64).toInt32)).toUInt32 >>> ((14 : Int32) &&& 31).toUInt32).toInt32)).toInt8.toInt32)).toInt8.toInt32)])) t
        refine XS.sipush X119.here hx rfl (hb hby at_88) ?_
        show Steps p.tables e below (T119.setTop (mkF m 91 #[.val (.int p0), .val (.int p1), .val (.int p2), .val (.int cp), .val (.int (1 : Int32)), .val (.int s1), .val (.ref b18), .val (.int (4 : Int32)), .unset, .unset, .unset, .unset, .unset] [(.int (255 : Int32)), (.int ((((128 : Int32) ||| (((cp - ((16512 : Int64).toInt32)).toUInt32 >>> ((14 : Int32) &&& 31).toUInt32).toInt32)).toInt8.toInt32)).toInt8.toInt32)])) t
        refine XS.iand X119.here hx rfl (hb hby at_91) rfl ?_
        show Steps p.tables e below (T119.setTop (mkF m 92 #[.val (.int p0), .val (.int p1), .val (.int p2), .val (.int cp), .val (.int (1 : Int32)), .val (.int s1), .val (.ref b18), .val (.int (4 : Int32)), .unset, .unset, .unset, .unset, .unset] [(.int (((((128 : Int32) ||| (((cp - ((16512 : Int64).toInt32)).toUInt32 >>> ((14 : Int32) &&& 31).toUInt32).toInt32)).toInt8.toInt32)).toInt8.toInt32 &&& (255 : Int32)))])) t
        refine XS.istore X119.here hx rfl (hb hby at_92) rfl (l' := #[.val (.int p0), .val (.int p1), .val (.int p2), .val (.int cp), .val (.int (1 : Int32)), .val (.int s1), .val (.ref b18), .val (.int (4 : Int32)), .val (.int (((((128 : Int32) ||| (((cp - ((16512 : Int64).toInt32)).toUInt32 >>> ((14 : Int32) &&& 31).toUInt32).toInt32)).toInt8.toInt32)).toInt8.toInt32 &&& (255 : Int32))), .unset, .unset, .unset, .unset]) rfl ?_
        exact k
      obtain ⟨b0, hb0⟩ : ∃ z, z = (((((128 : Int32) ||| (((cp - ((16512 : Int64).toInt32)).toUInt32 >>> ((14 : Int32) &&& 31).toUInt32).toInt32)).toInt8.toInt32)).toInt8.toInt32 &&& (255 : Int32)) := ⟨_, rfl⟩
      have tb0 : b0.toInt = 128 + (cp.toInt - 16512) / 16384 := by subst hb0; exact own_C0 cp hcb hB
      rw [← hb0]
      show OwnGo p.tables e below _ (T119.setTop (mkF m 94 #[.val (.int p0), .val (.int p1), .val (.int p2), .val (.int cp), .val (.int (1 : Int32)), .val (.int s1), .val (.ref b18), .val (.int (4 : Int32)), .val (.int b0), .unset, .unset, .unset, .unset] []))
      refine OwnGo.of (A := T119.setTop (mkF m 94 #[.val (.int p0), .val (.int p1), .val (.int p2), .val (.int cp), .val (.int (1 : Int32)), .val (.int s1), .val (.ref b18), .val (.int (4 : Int32)), .val (.int b0), .unset, .unset, .unset, .unset] [])) (B := T119.setTop (mkF m 99 #[.val (.int p0), .val (.int p1), .val (.int p2), .val (.int cp), .val (.int (1 : Int32)), .val (.int s1), .val (.ref b18), .val (.int (4 : Int32)), .val (.int b0), .unset, .unset, .unset, .unset] [(.int (128 : Int32)), (.int b0)])) (fun t k => ?_) ?_
      · show Steps p.tables e below (T119.setTop (mkF m 94 #[.val (.int p0), .val (.int p1), .val (.int p2), .val (.int cp), .val (.int (1 : Int32)), .val (.int s1), .val (.ref b18), .val (.int (4 : Int32)), .val (.int b0), .unset, .unset, .unset, .unset] [])) t
        refine XS.iload X119.here hx rfl (hb hby at_94) rfl ?_
        show Steps p.tables e below (T119.setTop (mkF m 96 #[.val (.int p0), .val (.int p1), .val (.int p2), .val (.int cp), .val (.int (1 : Int32)), .val (.int s1), .val (.ref b18), .val (.int (4 : Int32)), .val (.int b0), .unset, .unset, .unset, .unset] [(.int b0)])) t
        refine XS.sipush X119.here hx rfl (hb hby at_96) ?_
        exact k
      have hc124 : ¬ (b0 < (128 : Int32)) := by rw [own_lt128]; rw [own_127] at hA; rw [own_l16] at hB; omega
      refine OwnGo.of (A := T119.setTop (mkF m 99 #[.val (.int p0), .val (.int p1), .val (.int p2), .val (.int cp), .val (.int (1 : Int32)), .val (.int s1), .val (.ref b18), .val (.int (4 : Int32)), .val (.int b0), .unset, .unset, .unset, .unset] [(.int (128 : Int32)), (.int b0)])) (B := T119.setTop (mkF m 118 #[.val (.int p0), .val (.int p1), .val (.int p2), .val (.int cp), .val (.int (1 : Int32)), .val (.int s1), .val (.ref b18), .val (.int (4 : Int32)), .val (.int b0), .unset, .unset, .unset, .unset] [(.int ((1 : Int32) + (1 : Int32))), (.ref b18)])) (fun t k => ?_) ?_
      · show Steps p.tables e below (T119.setTop (mkF m 99 #[.val (.int p0), .val (.int p1), .val (.int p2), .val (.int cp), .val (.int (1 : Int32)), .val (.int s1), .val (.ref b18), .val (.int (4 : Int32)), .val (.int b0), .unset, .unset, .unset, .unset] [(.int (128 : Int32)), (.int b0)])) t
        refine XS.icmpYes X119.here hx rfl (pc0 := 99) (pc' := 112) rfl (hb hby at_99) rfl (flt hc124).2.1 (by decide) (by decide) ?_
        show Steps p.tables e below (T119.setTop (mkF m 112 #[.val (.int p0), .val (.int p1), .val (.int p2), .val (.int cp), .val (.int (1 : Int32)), .val (.int s1), .val (.ref b18), .val (.int (4 : Int32)), .val (.int b0), .unset, .unset, .unset, .unset] [])) t
        refine XS.aload X119.here hx rfl (hb hby at_112) rfl rfl ?_
        show Steps p.tables e below (T119.setTop (mkF m 114 #[.val (.int p0), .val (.int p1), .val (.int p2), .val (.int cp), .val (.int (1 : Int32)), .val (.int s1), .val (.ref b18), .val (.int (4 : Int32)), .val (.int b0), .unset, .unset, .unset, .unset] [(.ref b18)])) t
        refine XS.iload X119.here hx rfl (hb hby at_114) rfl ?_
        show Steps p.tables e below (T119.setTop (mkF m 116 #[.val (.int p0), .val (.int p1), .val (.int p2), .val (.int cp), .val (.int (1 : Int32)), .val (.int s1), .val (.ref b18), .val (.int (4 : Int32)), .val (.int b0), .unset, .unset, .unset, .unset] [(.int (1 : Int32)), (.ref b18)])) t
        refine XS.iconst X119.here hx rfl (hb hby at_116) ?_
        show Steps p.tables e below (T119.setTop (mkF m 117 #[.val (.int p0), .val (.int p1), .val (.int p2), .val (.int cp), .val (.int (1 : Int32)), .val (.int s1), .val (.ref b18), .val (.int (4 : Int32)), .val (.int b0), .unset, .unset, .unset, .unset] [(.int (1 : Int32)), (.int (1 : Int32)), (.ref b18)])) t
        refine XS.iadd X119.here hx rfl (hb hby at_117) rfl ?_
        exact k
      rw [show ((1 : Int32) + (1 : Int32)) = (2 : Int32) from by decide]
      show OwnGo p.tables e below _ (T119.setTop (mkF m 118 #[.val (.int p0), .val (.int p1), .val (.int p2), .val (.int cp), .val (.int (1 : Int32)), .val (.int s1), .val (.ref b18), .val (.int (4 : Int32)), .val (.int b0), .unset, .unset, .unset, .unset] [(.int (2 : Int32)), (.ref b18)]))
      have cq125 := y119_0
      obtain ⟨clq125, Arq125, qq125, Sq125, Nq125, Hq125, Gq125⟩ := cq125
      have hinq125 := inb_of (j := (2 : Int32)) Sq125 ⟨by decide, by decide⟩
      refine OwnGo.of (X119.baloadBytes hx (j := (2 : Int32)) (v := (.int ((((128 : Int32) ||| ((((cp - ((16512 : Int64).toInt32)).toUInt32 >>> ((7 : Int32) &&& 31).toUInt32).toInt32) &&& (127 : Int32))).toInt8.toInt32)).toInt8.toInt32)) Arq125.1 (State.isArrayOf_alike hZ.alike Arq125.2.1) Arq125.2.2 hinq125 (Hq125.at hinq125 rfl) (g := (mkF m 118 #[.val (.int p0), .val (.int p1), .val (.int p2), .val (.int cp), .val (.int (1 : Int32)), .val (.int s1), .val (.ref b18), .val (.int (4 : Int32)), .val (.int b0), .unset, .unset, .unset, .unset] [(.int (2 : Int32)), (.ref b18)])) rfl rfl (hb hby at_118)) ?_
      show OwnGo p.tables e below _ (T119.setTop (mkF m 119 #[.val (.int p0), .val (.int p1), .val (.int p2), .val (.int cp), .val (.int (1 : Int32)), .val (.int s1), .val (.ref b18), .val (.int (4 : Int32)), .val (.int b0), .unset, .unset, .unset, .unset] [(.int ((((128 : Int32) ||| ((((cp - ((16512 : Int64).toInt32)).toUInt32 >>> ((7 : Int32) &&& 31).toUInt32).toInt32) &&& (127 : Int32))).toInt8.toInt32)).toInt8.toInt32)]))
      refine OwnGo.of (A := T119.setTop (mkF m 119 #[.val (.int p0), .val (.int p1), .val (.int p2), .val (.int cp), .val (.int (1 : Int32)), .val (.int s1), .val (.ref b18), .val (.int (4 : Int32)), .val (.int b0), .unset, .unset, .unset, .unset] [(.int ((((128 : Int32) ||| ((((cp - ((16512 : Int64).toInt32)).toUInt32 >>> ((7 : Int32) &&& 31).toUInt32).toInt32) &&& (127 : Int32))).toInt8.toInt32)).toInt8.toInt32)])) (B := T119.setTop (mkF m 125 #[.val (.int p0), .val (.int p1), .val (.int p2), .val (.int cp), .val (.int (1 : Int32)), .val (.int s1), .val (.ref b18), .val (.int (4 : Int32)), .val (.int b0), .unset, .unset, .val (.int (((((128 : Int32) ||| ((((cp - ((16512 : Int64).toInt32)).toUInt32 >>> ((7 : Int32) &&& 31).toUInt32).toInt32) &&& (127 : Int32))).toInt8.toInt32)).toInt8.toInt32 &&& (255 : Int32))), .unset] [])) (fun t k => ?_) ?_
      · show Steps p.tables e below (T119.setTop (mkF m 119 #[.val (.int p0), .val (.int p1), .val (.int p2), .val (.int cp), .val (.int (1 : Int32)), .val (.int s1), .val (.ref b18), .val (.int (4 : Int32)), .val (.int b0), .unset, .unset, .unset, .unset] [(.int ((((128 : Int32) ||| ((((cp - ((16512 : Int64).toInt32)).toUInt32 >>> ((7 : Int32) &&& 31).toUInt32).toInt32) &&& (127 : Int32))).toInt8.toInt32)).toInt8.toInt32)])) t
        refine XS.sipush X119.here hx rfl (hb hby at_119) ?_
        show Steps p.tables e below (T119.setTop (mkF m 122 #[.val (.int p0), .val (.int p1), .val (.int p2), .val (.int cp), .val (.int (1 : Int32)), .val (.int s1), .val (.ref b18), .val (.int (4 : Int32)), .val (.int b0), .unset, .unset, .unset, .unset] [(.int (255 : Int32)), (.int ((((128 : Int32) ||| ((((cp - ((16512 : Int64).toInt32)).toUInt32 >>> ((7 : Int32) &&& 31).toUInt32).toInt32) &&& (127 : Int32))).toInt8.toInt32)).toInt8.toInt32)])) t
        refine XS.iand X119.here hx rfl (hb hby at_122) rfl ?_
        show Steps p.tables e below (T119.setTop (mkF m 123 #[.val (.int p0), .val (.int p1), .val (.int p2), .val (.int cp), .val (.int (1 : Int32)), .val (.int s1), .val (.ref b18), .val (.int (4 : Int32)), .val (.int b0), .unset, .unset, .unset, .unset] [(.int (((((128 : Int32) ||| ((((cp - ((16512 : Int64).toInt32)).toUInt32 >>> ((7 : Int32) &&& 31).toUInt32).toInt32) &&& (127 : Int32))).toInt8.toInt32)).toInt8.toInt32 &&& (255 : Int32)))])) t
        refine XS.istore X119.here hx rfl (hb hby at_123) rfl (l' := #[.val (.int p0), .val (.int p1), .val (.int p2), .val (.int cp), .val (.int (1 : Int32)), .val (.int s1), .val (.ref b18), .val (.int (4 : Int32)), .val (.int b0), .unset, .unset, .val (.int (((((128 : Int32) ||| ((((cp - ((16512 : Int64).toInt32)).toUInt32 >>> ((7 : Int32) &&& 31).toUInt32).toInt32) &&& (127 : Int32))).toInt8.toInt32)).toInt8.toInt32 &&& (255 : Int32))), .unset]) rfl ?_
        exact k
      obtain ⟨b1, hb1⟩ : ∃ z, z = (((((128 : Int32) ||| ((((cp - ((16512 : Int64).toInt32)).toUInt32 >>> ((7 : Int32) &&& 31).toUInt32).toInt32) &&& (127 : Int32))).toInt8.toInt32)).toInt8.toInt32 &&& (255 : Int32)) := ⟨_, rfl⟩
      have tb1 : b1.toInt = 128 + (cp.toInt - 16512) / 128 % 128 := by subst hb1; exact own_C1 cp hcb hB
      rw [← hb1]
      show OwnGo p.tables e below _ (T119.setTop (mkF m 125 #[.val (.int p0), .val (.int p1), .val (.int p2), .val (.int cp), .val (.int (1 : Int32)), .val (.int s1), .val (.ref b18), .val (.int (4 : Int32)), .val (.int b0), .unset, .unset, .val (.int b1), .unset] []))
      refine OwnGo.of (A := T119.setTop (mkF m 125 #[.val (.int p0), .val (.int p1), .val (.int p2), .val (.int cp), .val (.int (1 : Int32)), .val (.int s1), .val (.ref b18), .val (.int (4 : Int32)), .val (.int b0), .unset, .unset, .val (.int b1), .unset] [])) (B := T119.setTop (mkF m 130 #[.val (.int p0), .val (.int p1), .val (.int p2), .val (.int cp), .val (.int (1 : Int32)), .val (.int s1), .val (.ref b18), .val (.int (4 : Int32)), .val (.int b0), .unset, .unset, .val (.int b1), .unset] [(.int (128 : Int32)), (.int b1)])) (fun t k => ?_) ?_
      · show Steps p.tables e below (T119.setTop (mkF m 125 #[.val (.int p0), .val (.int p1), .val (.int p2), .val (.int cp), .val (.int (1 : Int32)), .val (.int s1), .val (.ref b18), .val (.int (4 : Int32)), .val (.int b0), .unset, .unset, .val (.int b1), .unset] [])) t
        refine XS.iload X119.here hx rfl (hb hby at_125) rfl ?_
        show Steps p.tables e below (T119.setTop (mkF m 127 #[.val (.int p0), .val (.int p1), .val (.int p2), .val (.int cp), .val (.int (1 : Int32)), .val (.int s1), .val (.ref b18), .val (.int (4 : Int32)), .val (.int b0), .unset, .unset, .val (.int b1), .unset] [(.int b1)])) t
        refine XS.sipush X119.here hx rfl (hb hby at_127) ?_
        exact k
      have hc126 : ¬ (b1 < (128 : Int32)) := by rw [own_lt128]; rw [own_127] at hA; rw [own_l16] at hB; omega
      refine OwnGo.of (A := T119.setTop (mkF m 130 #[.val (.int p0), .val (.int p1), .val (.int p2), .val (.int cp), .val (.int (1 : Int32)), .val (.int s1), .val (.ref b18), .val (.int (4 : Int32)), .val (.int b0), .unset, .unset, .val (.int b1), .unset] [(.int (128 : Int32)), (.int b1)])) (B := T119.setTop (mkF m 164 #[.val (.int p0), .val (.int p1), .val (.int p2), .val (.int cp), .val (.int (1 : Int32)), .val (.int s1), .val (.ref b18), .val (.int (4 : Int32)), .val (.int b0), .unset, .unset, .val (.int b1), .unset] [(.int ((1 : Int32) + (2 : Int32))), (.ref b18)])) (fun t k => ?_) ?_
      · show Steps p.tables e below (T119.setTop (mkF m 130 #[.val (.int p0), .val (.int p1), .val (.int p2), .val (.int cp), .val (.int (1 : Int32)), .val (.int s1), .val (.ref b18), .val (.int (4 : Int32)), .val (.int b0), .unset, .unset, .val (.int b1), .unset] [(.int (128 : Int32)), (.int b1)])) t
        refine XS.icmpYes X119.here hx rfl (pc0 := 130) (pc' := 158) rfl (hb hby at_130) rfl (flt hc126).2.1 (by decide) (by decide) ?_
        show Steps p.tables e below (T119.setTop (mkF m 158 #[.val (.int p0), .val (.int p1), .val (.int p2), .val (.int cp), .val (.int (1 : Int32)), .val (.int s1), .val (.ref b18), .val (.int (4 : Int32)), .val (.int b0), .unset, .unset, .val (.int b1), .unset] [])) t
        refine XS.aload X119.here hx rfl (hb hby at_158) rfl rfl ?_
        show Steps p.tables e below (T119.setTop (mkF m 160 #[.val (.int p0), .val (.int p1), .val (.int p2), .val (.int cp), .val (.int (1 : Int32)), .val (.int s1), .val (.ref b18), .val (.int (4 : Int32)), .val (.int b0), .unset, .unset, .val (.int b1), .unset] [(.ref b18)])) t
        refine XS.iload X119.here hx rfl (hb hby at_160) rfl ?_
        show Steps p.tables e below (T119.setTop (mkF m 162 #[.val (.int p0), .val (.int p1), .val (.int p2), .val (.int cp), .val (.int (1 : Int32)), .val (.int s1), .val (.ref b18), .val (.int (4 : Int32)), .val (.int b0), .unset, .unset, .val (.int b1), .unset] [(.int (1 : Int32)), (.ref b18)])) t
        refine XS.iconst X119.here hx rfl (hb hby at_162) ?_
        show Steps p.tables e below (T119.setTop (mkF m 163 #[.val (.int p0), .val (.int p1), .val (.int p2), .val (.int cp), .val (.int (1 : Int32)), .val (.int s1), .val (.ref b18), .val (.int (4 : Int32)), .val (.int b0), .unset, .unset, .val (.int b1), .unset] [(.int (2 : Int32)), (.int (1 : Int32)), (.ref b18)])) t
        refine XS.iadd X119.here hx rfl (hb hby at_163) rfl ?_
        exact k
      rw [show ((1 : Int32) + (2 : Int32)) = (3 : Int32) from by decide]
      show OwnGo p.tables e below _ (T119.setTop (mkF m 164 #[.val (.int p0), .val (.int p1), .val (.int p2), .val (.int cp), .val (.int (1 : Int32)), .val (.int s1), .val (.ref b18), .val (.int (4 : Int32)), .val (.int b0), .unset, .unset, .val (.int b1), .unset] [(.int (3 : Int32)), (.ref b18)]))
      have cq127 := y119_0
      obtain ⟨clq127, Arq127, qq127, Sq127, Nq127, Hq127, Gq127⟩ := cq127
      have hinq127 := inb_of (j := (3 : Int32)) Sq127 ⟨by decide, by decide⟩
      refine OwnGo.of (X119.baloadBytes hx (j := (3 : Int32)) (v := (.int ((((cp - ((16512 : Int64).toInt32)) &&& (127 : Int32)).toInt8.toInt32)).toInt8.toInt32)) Arq127.1 (State.isArrayOf_alike hZ.alike Arq127.2.1) Arq127.2.2 hinq127 (Hq127.at hinq127 rfl) (g := (mkF m 164 #[.val (.int p0), .val (.int p1), .val (.int p2), .val (.int cp), .val (.int (1 : Int32)), .val (.int s1), .val (.ref b18), .val (.int (4 : Int32)), .val (.int b0), .unset, .unset, .val (.int b1), .unset] [(.int (3 : Int32)), (.ref b18)])) rfl rfl (hb hby at_164)) ?_
      show OwnGo p.tables e below _ (T119.setTop (mkF m 165 #[.val (.int p0), .val (.int p1), .val (.int p2), .val (.int cp), .val (.int (1 : Int32)), .val (.int s1), .val (.ref b18), .val (.int (4 : Int32)), .val (.int b0), .unset, .unset, .val (.int b1), .unset] [(.int ((((cp - ((16512 : Int64).toInt32)) &&& (127 : Int32)).toInt8.toInt32)).toInt8.toInt32)]))
      refine OwnGo.of (A := T119.setTop (mkF m 165 #[.val (.int p0), .val (.int p1), .val (.int p2), .val (.int cp), .val (.int (1 : Int32)), .val (.int s1), .val (.ref b18), .val (.int (4 : Int32)), .val (.int b0), .unset, .unset, .val (.int b1), .unset] [(.int ((((cp - ((16512 : Int64).toInt32)) &&& (127 : Int32)).toInt8.toInt32)).toInt8.toInt32)])) (B := T119.setTop (mkF m 171 #[.val (.int p0), .val (.int p1), .val (.int p2), .val (.int cp), .val (.int (1 : Int32)), .val (.int s1), .val (.ref b18), .val (.int (4 : Int32)), .val (.int b0), .unset, .unset, .val (.int b1), .val (.int (((((cp - ((16512 : Int64).toInt32)) &&& (127 : Int32)).toInt8.toInt32)).toInt8.toInt32 &&& (255 : Int32)))] [])) (fun t k => ?_) ?_
      · show Steps p.tables e below (T119.setTop (mkF m 165 #[.val (.int p0), .val (.int p1), .val (.int p2), .val (.int cp), .val (.int (1 : Int32)), .val (.int s1), .val (.ref b18), .val (.int (4 : Int32)), .val (.int b0), .unset, .unset, .val (.int b1), .unset] [(.int ((((cp - ((16512 : Int64).toInt32)) &&& (127 : Int32)).toInt8.toInt32)).toInt8.toInt32)])) t
        refine XS.sipush X119.here hx rfl (hb hby at_165) ?_
        show Steps p.tables e below (T119.setTop (mkF m 168 #[.val (.int p0), .val (.int p1), .val (.int p2), .val (.int cp), .val (.int (1 : Int32)), .val (.int s1), .val (.ref b18), .val (.int (4 : Int32)), .val (.int b0), .unset, .unset, .val (.int b1), .unset] [(.int (255 : Int32)), (.int ((((cp - ((16512 : Int64).toInt32)) &&& (127 : Int32)).toInt8.toInt32)).toInt8.toInt32)])) t
        refine XS.iand X119.here hx rfl (hb hby at_168) rfl ?_
        show Steps p.tables e below (T119.setTop (mkF m 169 #[.val (.int p0), .val (.int p1), .val (.int p2), .val (.int cp), .val (.int (1 : Int32)), .val (.int s1), .val (.ref b18), .val (.int (4 : Int32)), .val (.int b0), .unset, .unset, .val (.int b1), .unset] [(.int (((((cp - ((16512 : Int64).toInt32)) &&& (127 : Int32)).toInt8.toInt32)).toInt8.toInt32 &&& (255 : Int32)))])) t
        refine XS.istore X119.here hx rfl (hb hby at_169) rfl (l' := #[.val (.int p0), .val (.int p1), .val (.int p2), .val (.int cp), .val (.int (1 : Int32)), .val (.int s1), .val (.ref b18), .val (.int (4 : Int32)), .val (.int b0), .unset, .unset, .val (.int b1), .val (.int (((((cp - ((16512 : Int64).toInt32)) &&& (127 : Int32)).toInt8.toInt32)).toInt8.toInt32 &&& (255 : Int32)))]) rfl ?_
        exact k
      obtain ⟨b2, hb2⟩ : ∃ z, z = (((((cp - ((16512 : Int64).toInt32)) &&& (127 : Int32)).toInt8.toInt32)).toInt8.toInt32 &&& (255 : Int32)) := ⟨_, rfl⟩
      have tb2 : b2.toInt = (cp.toInt - 16512) % 128 := by subst hb2; exact own_C2 cp hcb hB
      rw [← hb2]
      show OwnGo p.tables e below _ (T119.setTop (mkF m 171 #[.val (.int p0), .val (.int p1), .val (.int p2), .val (.int cp), .val (.int (1 : Int32)), .val (.int s1), .val (.ref b18), .val (.int (4 : Int32)), .val (.int b0), .unset, .unset, .val (.int b1), .val (.int b2)] []))
      refine OwnGo.of (A := T119.setTop (mkF m 171 #[.val (.int p0), .val (.int p1), .val (.int p2), .val (.int cp), .val (.int (1 : Int32)), .val (.int s1), .val (.ref b18), .val (.int (4 : Int32)), .val (.int b0), .unset, .unset, .val (.int b1), .val (.int b2)] [])) (B := T119.setTop (mkF m 176 #[.val (.int p0), .val (.int p1), .val (.int p2), .val (.int cp), .val (.int (1 : Int32)), .val (.int s1), .val (.ref b18), .val (.int (4 : Int32)), .val (.int b0), .unset, .unset, .val (.int b1), .val (.int b2)] [(.int (128 : Int32)), (.int b2)])) (fun t k => ?_) ?_
      · show Steps p.tables e below (T119.setTop (mkF m 171 #[.val (.int p0), .val (.int p1), .val (.int p2), .val (.int cp), .val (.int (1 : Int32)), .val (.int s1), .val (.ref b18), .val (.int (4 : Int32)), .val (.int b0), .unset, .unset, .val (.int b1), .val (.int b2)] [])) t
        refine XS.iload X119.here hx rfl (hb hby at_171) rfl ?_
        show Steps p.tables e below (T119.setTop (mkF m 173 #[.val (.int p0), .val (.int p1), .val (.int p2), .val (.int cp), .val (.int (1 : Int32)), .val (.int s1), .val (.ref b18), .val (.int (4 : Int32)), .val (.int b0), .unset, .unset, .val (.int b1), .val (.int b2)] [(.int b2)])) t
        refine XS.sipush X119.here hx rfl (hb hby at_173) ?_
        exact k
      have hc128 : b2 < (128 : Int32) := by rw [own_lt128]; rw [own_127] at hA; rw [own_l16] at hB; omega
      refine OwnGo.of (A := T119.setTop (mkF m 176 #[.val (.int p0), .val (.int p1), .val (.int p2), .val (.int cp), .val (.int (1 : Int32)), .val (.int s1), .val (.ref b18), .val (.int (4 : Int32)), .val (.int b0), .unset, .unset, .val (.int b1), .val (.int b2)] [(.int (128 : Int32)), (.int b2)])) (B := T119.setTop (mkF m 221 #[.val (.int p0), .val (.int p1), .val (.int p2), .val (.int cp), .val (.int (1 : Int32)), .val (.int s1), .val (.ref b18), .val (.int (4 : Int32)), .val (.int b0), .val (.int (3 : Int32)), .val (.int ((((16512 : Int32) + ((b0 - (128 : Int32)) * (16384 : Int32))) + ((b1 - (128 : Int32)) * (128 : Int32))) + b2)), .val (.int b1), .val (.int b2)] [(.int ((1 : Int32) + (3 : Int32))), (.int (4 : Int32))])) (fun t k => ?_) ?_
      · show Steps p.tables e below (T119.setTop (mkF m 176 #[.val (.int p0), .val (.int p1), .val (.int p2), .val (.int cp), .val (.int (1 : Int32)), .val (.int s1), .val (.ref b18), .val (.int (4 : Int32)), .val (.int b0), .unset, .unset, .val (.int b1), .val (.int b2)] [(.int (128 : Int32)), (.int b2)])) t
        refine XS.icmpYes X119.here hx rfl (pc0 := 176) (pc' := 181) rfl (hb hby at_176) rfl (tlt hc128).1 (by decide) (by decide) ?_
        show Steps p.tables e below (T119.setTop (mkF m 181 #[.val (.int p0), .val (.int p1), .val (.int p2), .val (.int cp), .val (.int (1 : Int32)), .val (.int s1), .val (.ref b18), .val (.int (4 : Int32)), .val (.int b0), .unset, .unset, .val (.int b1), .val (.int b2)] [])) t
        refine XS.iconst X119.here hx rfl (hb hby at_181) ?_
        show Steps p.tables e below (T119.setTop (mkF m 182 #[.val (.int p0), .val (.int p1), .val (.int p2), .val (.int cp), .val (.int (1 : Int32)), .val (.int s1), .val (.ref b18), .val (.int (4 : Int32)), .val (.int b0), .unset, .unset, .val (.int b1), .val (.int b2)] [(.int (3 : Int32))])) t
        refine XS.istore X119.here hx rfl (hb hby at_182) rfl (l' := #[.val (.int p0), .val (.int p1), .val (.int p2), .val (.int cp), .val (.int (1 : Int32)), .val (.int s1), .val (.ref b18), .val (.int (4 : Int32)), .val (.int b0), .val (.int (3 : Int32)), .unset, .val (.int b1), .val (.int b2)]) rfl ?_
        show Steps p.tables e below (T119.setTop (mkF m 184 #[.val (.int p0), .val (.int p1), .val (.int p2), .val (.int cp), .val (.int (1 : Int32)), .val (.int s1), .val (.ref b18), .val (.int (4 : Int32)), .val (.int b0), .val (.int (3 : Int32)), .unset, .val (.int b1), .val (.int b2)] [])) t
        refine XS.sipush X119.here hx rfl (hb hby at_184) ?_
        show Steps p.tables e below (T119.setTop (mkF m 187 #[.val (.int p0), .val (.int p1), .val (.int p2), .val (.int cp), .val (.int (1 : Int32)), .val (.int s1), .val (.ref b18), .val (.int (4 : Int32)), .val (.int b0), .val (.int (3 : Int32)), .unset, .val (.int b1), .val (.int b2)] [(.int (16512 : Int32))])) t
        refine XS.iload X119.here hx rfl (hb hby at_187) rfl ?_
        show Steps p.tables e below (T119.setTop (mkF m 189 #[.val (.int p0), .val (.int p1), .val (.int p2), .val (.int cp), .val (.int (1 : Int32)), .val (.int s1), .val (.ref b18), .val (.int (4 : Int32)), .val (.int b0), .val (.int (3 : Int32)), .unset, .val (.int b1), .val (.int b2)] [(.int b0), (.int (16512 : Int32))])) t
        refine XS.sipush X119.here hx rfl (hb hby at_189) ?_
        show Steps p.tables e below (T119.setTop (mkF m 192 #[.val (.int p0), .val (.int p1), .val (.int p2), .val (.int cp), .val (.int (1 : Int32)), .val (.int s1), .val (.ref b18), .val (.int (4 : Int32)), .val (.int b0), .val (.int (3 : Int32)), .unset, .val (.int b1), .val (.int b2)] [(.int (128 : Int32)), (.int b0), (.int (16512 : Int32))])) t
        refine XS.isub X119.here hx rfl (hb hby at_192) rfl ?_
        show Steps p.tables e below (T119.setTop (mkF m 193 #[.val (.int p0), .val (.int p1), .val (.int p2), .val (.int cp), .val (.int (1 : Int32)), .val (.int s1), .val (.ref b18), .val (.int (4 : Int32)), .val (.int b0), .val (.int (3 : Int32)), .unset, .val (.int b1), .val (.int b2)] [(.int (b0 - (128 : Int32))), (.int (16512 : Int32))])) t
        refine XS.sipush X119.here hx rfl (hb hby at_193) ?_
        show Steps p.tables e below (T119.setTop (mkF m 196 #[.val (.int p0), .val (.int p1), .val (.int p2), .val (.int cp), .val (.int (1 : Int32)), .val (.int s1), .val (.ref b18), .val (.int (4 : Int32)), .val (.int b0), .val (.int (3 : Int32)), .unset, .val (.int b1), .val (.int b2)] [(.int (16384 : Int32)), (.int (b0 - (128 : Int32))), (.int (16512 : Int32))])) t
        refine XS.imul X119.here hx rfl (hb hby at_196) rfl ?_
        show Steps p.tables e below (T119.setTop (mkF m 197 #[.val (.int p0), .val (.int p1), .val (.int p2), .val (.int cp), .val (.int (1 : Int32)), .val (.int s1), .val (.ref b18), .val (.int (4 : Int32)), .val (.int b0), .val (.int (3 : Int32)), .unset, .val (.int b1), .val (.int b2)] [(.int ((b0 - (128 : Int32)) * (16384 : Int32))), (.int (16512 : Int32))])) t
        refine XS.iadd X119.here hx rfl (hb hby at_197) rfl ?_
        show Steps p.tables e below (T119.setTop (mkF m 198 #[.val (.int p0), .val (.int p1), .val (.int p2), .val (.int cp), .val (.int (1 : Int32)), .val (.int s1), .val (.ref b18), .val (.int (4 : Int32)), .val (.int b0), .val (.int (3 : Int32)), .unset, .val (.int b1), .val (.int b2)] [(.int ((16512 : Int32) + ((b0 - (128 : Int32)) * (16384 : Int32))))])) t
        refine XS.iload X119.here hx rfl (hb hby at_198) rfl ?_
        show Steps p.tables e below (T119.setTop (mkF m 200 #[.val (.int p0), .val (.int p1), .val (.int p2), .val (.int cp), .val (.int (1 : Int32)), .val (.int s1), .val (.ref b18), .val (.int (4 : Int32)), .val (.int b0), .val (.int (3 : Int32)), .unset, .val (.int b1), .val (.int b2)] [(.int b1), (.int ((16512 : Int32) + ((b0 - (128 : Int32)) * (16384 : Int32))))])) t
        refine XS.sipush X119.here hx rfl (hb hby at_200) ?_
        show Steps p.tables e below (T119.setTop (mkF m 203 #[.val (.int p0), .val (.int p1), .val (.int p2), .val (.int cp), .val (.int (1 : Int32)), .val (.int s1), .val (.ref b18), .val (.int (4 : Int32)), .val (.int b0), .val (.int (3 : Int32)), .unset, .val (.int b1), .val (.int b2)] [(.int (128 : Int32)), (.int b1), (.int ((16512 : Int32) + ((b0 - (128 : Int32)) * (16384 : Int32))))])) t
        refine XS.isub X119.here hx rfl (hb hby at_203) rfl ?_
        show Steps p.tables e below (T119.setTop (mkF m 204 #[.val (.int p0), .val (.int p1), .val (.int p2), .val (.int cp), .val (.int (1 : Int32)), .val (.int s1), .val (.ref b18), .val (.int (4 : Int32)), .val (.int b0), .val (.int (3 : Int32)), .unset, .val (.int b1), .val (.int b2)] [(.int (b1 - (128 : Int32))), (.int ((16512 : Int32) + ((b0 - (128 : Int32)) * (16384 : Int32))))])) t
        refine XS.sipush X119.here hx rfl (hb hby at_204) ?_
        show Steps p.tables e below (T119.setTop (mkF m 207 #[.val (.int p0), .val (.int p1), .val (.int p2), .val (.int cp), .val (.int (1 : Int32)), .val (.int s1), .val (.ref b18), .val (.int (4 : Int32)), .val (.int b0), .val (.int (3 : Int32)), .unset, .val (.int b1), .val (.int b2)] [(.int (128 : Int32)), (.int (b1 - (128 : Int32))), (.int ((16512 : Int32) + ((b0 - (128 : Int32)) * (16384 : Int32))))])) t
        refine XS.imul X119.here hx rfl (hb hby at_207) rfl ?_
        show Steps p.tables e below (T119.setTop (mkF m 208 #[.val (.int p0), .val (.int p1), .val (.int p2), .val (.int cp), .val (.int (1 : Int32)), .val (.int s1), .val (.ref b18), .val (.int (4 : Int32)), .val (.int b0), .val (.int (3 : Int32)), .unset, .val (.int b1), .val (.int b2)] [(.int ((b1 - (128 : Int32)) * (128 : Int32))), (.int ((16512 : Int32) + ((b0 - (128 : Int32)) * (16384 : Int32))))])) t
        refine XS.iadd X119.here hx rfl (hb hby at_208) rfl ?_
        show Steps p.tables e below (T119.setTop (mkF m 209 #[.val (.int p0), .val (.int p1), .val (.int p2), .val (.int cp), .val (.int (1 : Int32)), .val (.int s1), .val (.ref b18), .val (.int (4 : Int32)), .val (.int b0), .val (.int (3 : Int32)), .unset, .val (.int b1), .val (.int b2)] [(.int (((16512 : Int32) + ((b0 - (128 : Int32)) * (16384 : Int32))) + ((b1 - (128 : Int32)) * (128 : Int32))))])) t
        refine XS.iload X119.here hx rfl (hb hby at_209) rfl ?_
        show Steps p.tables e below (T119.setTop (mkF m 211 #[.val (.int p0), .val (.int p1), .val (.int p2), .val (.int cp), .val (.int (1 : Int32)), .val (.int s1), .val (.ref b18), .val (.int (4 : Int32)), .val (.int b0), .val (.int (3 : Int32)), .unset, .val (.int b1), .val (.int b2)] [(.int b2), (.int (((16512 : Int32) + ((b0 - (128 : Int32)) * (16384 : Int32))) + ((b1 - (128 : Int32)) * (128 : Int32))))])) t
        refine XS.iadd X119.here hx rfl (hb hby at_211) rfl ?_
        show Steps p.tables e below (T119.setTop (mkF m 212 #[.val (.int p0), .val (.int p1), .val (.int p2), .val (.int cp), .val (.int (1 : Int32)), .val (.int s1), .val (.ref b18), .val (.int (4 : Int32)), .val (.int b0), .val (.int (3 : Int32)), .unset, .val (.int b1), .val (.int b2)] [(.int ((((16512 : Int32) + ((b0 - (128 : Int32)) * (16384 : Int32))) + ((b1 - (128 : Int32)) * (128 : Int32))) + b2))])) t
        refine XS.istore X119.here hx rfl (hb hby at_212) rfl (l' := #[.val (.int p0), .val (.int p1), .val (.int p2), .val (.int cp), .val (.int (1 : Int32)), .val (.int s1), .val (.ref b18), .val (.int (4 : Int32)), .val (.int b0), .val (.int (3 : Int32)), .val (.int ((((16512 : Int32) + ((b0 - (128 : Int32)) * (16384 : Int32))) + ((b1 - (128 : Int32)) * (128 : Int32))) + b2)), .val (.int b1), .val (.int b2)]) rfl ?_
        show Steps p.tables e below (T119.setTop (mkF m 214 #[.val (.int p0), .val (.int p1), .val (.int p2), .val (.int cp), .val (.int (1 : Int32)), .val (.int s1), .val (.ref b18), .val (.int (4 : Int32)), .val (.int b0), .val (.int (3 : Int32)), .val (.int ((((16512 : Int32) + ((b0 - (128 : Int32)) * (16384 : Int32))) + ((b1 - (128 : Int32)) * (128 : Int32))) + b2)), .val (.int b1), .val (.int b2)] [])) t
        refine XS.iload X119.here hx rfl (hb hby at_214) rfl ?_
        show Steps p.tables e below (T119.setTop (mkF m 216 #[.val (.int p0), .val (.int p1), .val (.int p2), .val (.int cp), .val (.int (1 : Int32)), .val (.int s1), .val (.ref b18), .val (.int (4 : Int32)), .val (.int b0), .val (.int (3 : Int32)), .val (.int ((((16512 : Int32) + ((b0 - (128 : Int32)) * (16384 : Int32))) + ((b1 - (128 : Int32)) * (128 : Int32))) + b2)), .val (.int b1), .val (.int b2)] [(.int (4 : Int32))])) t
        refine XS.iload X119.here hx rfl (hb hby at_216) rfl ?_
        show Steps p.tables e below (T119.setTop (mkF m 218 #[.val (.int p0), .val (.int p1), .val (.int p2), .val (.int cp), .val (.int (1 : Int32)), .val (.int s1), .val (.ref b18), .val (.int (4 : Int32)), .val (.int b0), .val (.int (3 : Int32)), .val (.int ((((16512 : Int32) + ((b0 - (128 : Int32)) * (16384 : Int32))) + ((b1 - (128 : Int32)) * (128 : Int32))) + b2)), .val (.int b1), .val (.int b2)] [(.int (1 : Int32)), (.int (4 : Int32))])) t
        refine XS.iload X119.here hx rfl (hb hby at_218) rfl ?_
        show Steps p.tables e below (T119.setTop (mkF m 220 #[.val (.int p0), .val (.int p1), .val (.int p2), .val (.int cp), .val (.int (1 : Int32)), .val (.int s1), .val (.ref b18), .val (.int (4 : Int32)), .val (.int b0), .val (.int (3 : Int32)), .val (.int ((((16512 : Int32) + ((b0 - (128 : Int32)) * (16384 : Int32))) + ((b1 - (128 : Int32)) * (128 : Int32))) + b2)), .val (.int b1), .val (.int b2)] [(.int (3 : Int32)), (.int (1 : Int32)), (.int (4 : Int32))])) t
        refine XS.iadd X119.here hx rfl (hb hby at_220) rfl ?_
        exact k
      have hc129 : (4 : Int32) = ((1 : Int32) + (3 : Int32)) := by decide
      refine OwnGo.of (A := T119.setTop (mkF m 221 #[.val (.int p0), .val (.int p1), .val (.int p2), .val (.int cp), .val (.int (1 : Int32)), .val (.int s1), .val (.ref b18), .val (.int (4 : Int32)), .val (.int b0), .val (.int (3 : Int32)), .val (.int ((((16512 : Int32) + ((b0 - (128 : Int32)) * (16384 : Int32))) + ((b1 - (128 : Int32)) * (128 : Int32))) + b2)), .val (.int b1), .val (.int b2)] [(.int ((1 : Int32) + (3 : Int32))), (.int (4 : Int32))])) (B := T119.setTop (mkF m 229 #[.val (.int p0), .val (.int p1), .val (.int p2), .val (.int cp), .val (.int (1 : Int32)), .val (.int s1), .val (.ref b18), .val (.int (4 : Int32)), .val (.int b0), .val (.int (3 : Int32)), .val (.int ((((16512 : Int32) + ((b0 - (128 : Int32)) * (16384 : Int32))) + ((b1 - (128 : Int32)) * (128 : Int32))) + b2)), .val (.int b1), .val (.int b2)] [(.int cp), (.int ((((16512 : Int32) + ((b0 - (128 : Int32)) * (16384 : Int32))) + ((b1 - (128 : Int32)) * (128 : Int32))) + b2))])) (fun t k => ?_) ?_
      · show Steps p.tables e below (T119.setTop (mkF m 221 #[.val (.int p0), .val (.int p1), .val (.int p2), .val (.int cp), .val (.int (1 : Int32)), .val (.int s1), .val (.ref b18), .val (.int (4 : Int32)), .val (.int b0), .val (.int (3 : Int32)), .val (.int ((((16512 : Int32) + ((b0 - (128 : Int32)) * (16384 : Int32))) + ((b1 - (128 : Int32)) * (128 : Int32))) + b2)), .val (.int b1), .val (.int b2)] [(.int ((1 : Int32) + (3 : Int32))), (.int (4 : Int32))])) t
        refine XS.icmpYes X119.here hx rfl (pc0 := 221) (pc' := 226) rfl (hb hby at_221) rfl (teq hc129).1 (by decide) (by decide) ?_
        show Steps p.tables e below (T119.setTop (mkF m 226 #[.val (.int p0), .val (.int p1), .val (.int p2), .val (.int cp), .val (.int (1 : Int32)), .val (.int s1), .val (.ref b18), .val (.int (4 : Int32)), .val (.int b0), .val (.int (3 : Int32)), .val (.int ((((16512 : Int32) + ((b0 - (128 : Int32)) * (16384 : Int32))) + ((b1 - (128 : Int32)) * (128 : Int32))) + b2)), .val (.int b1), .val (.int b2)] [])) t
        refine XS.iload X119.here hx rfl (hb hby at_226) rfl ?_
        show Steps p.tables e below (T119.setTop (mkF m 228 #[.val (.int p0), .val (.int p1), .val (.int p2), .val (.int cp), .val (.int (1 : Int32)), .val (.int s1), .val (.ref b18), .val (.int (4 : Int32)), .val (.int b0), .val (.int (3 : Int32)), .val (.int ((((16512 : Int32) + ((b0 - (128 : Int32)) * (16384 : Int32))) + ((b1 - (128 : Int32)) * (128 : Int32))) + b2)), .val (.int b1), .val (.int b2)] [(.int ((((16512 : Int32) + ((b0 - (128 : Int32)) * (16384 : Int32))) + ((b1 - (128 : Int32)) * (128 : Int32))) + b2))])) t
        refine XS.iloadN X119.here hx rfl (hb hby at_228) rfl ?_
        exact k
      have hc130 : ((((16512 : Int32) + ((b0 - (128 : Int32)) * (16384 : Int32))) + ((b1 - (128 : Int32)) * (128 : Int32))) + b2) = cp := own_vC cp b0 b1 b2 hcb tb0 tb1 tb2
      refine OwnGo.of (A := T119.setTop (mkF m 229 #[.val (.int p0), .val (.int p1), .val (.int p2), .val (.int cp), .val (.int (1 : Int32)), .val (.int s1), .val (.ref b18), .val (.int (4 : Int32)), .val (.int b0), .val (.int (3 : Int32)), .val (.int ((((16512 : Int32) + ((b0 - (128 : Int32)) * (16384 : Int32))) + ((b1 - (128 : Int32)) * (128 : Int32))) + b2)), .val (.int b1), .val (.int b2)] [(.int cp), (.int ((((16512 : Int32) + ((b0 - (128 : Int32)) * (16384 : Int32))) + ((b1 - (128 : Int32)) * (128 : Int32))) + b2))])) (B := T119.setTop (mkF m 234 #[.val (.int p0), .val (.int p1), .val (.int p2), .val (.int cp), .val (.int (1 : Int32)), .val (.int s1), .val (.ref b18), .val (.int (4 : Int32)), .val (.int b0), .val (.int (3 : Int32)), .val (.int ((((16512 : Int32) + ((b0 - (128 : Int32)) * (16384 : Int32))) + ((b1 - (128 : Int32)) * (128 : Int32))) + b2)), .val (.int b1), .val (.int b2)] [])) (fun t k => ?_) ?_
      · show Steps p.tables e below (T119.setTop (mkF m 229 #[.val (.int p0), .val (.int p1), .val (.int p2), .val (.int cp), .val (.int (1 : Int32)), .val (.int s1), .val (.ref b18), .val (.int (4 : Int32)), .val (.int b0), .val (.int (3 : Int32)), .val (.int ((((16512 : Int32) + ((b0 - (128 : Int32)) * (16384 : Int32))) + ((b1 - (128 : Int32)) * (128 : Int32))) + b2)), .val (.int b1), .val (.int b2)] [(.int cp), (.int ((((16512 : Int32) + ((b0 - (128 : Int32)) * (16384 : Int32))) + ((b1 - (128 : Int32)) * (128 : Int32))) + b2))])) t
        refine XS.icmpYes X119.here hx rfl (pc0 := 229) (pc' := 234) rfl (hb hby at_229) rfl (teq hc130).1 (by decide) (by decide) ?_
        exact k
      exact J234 T119 _ _ (.val (.int p0)) (.val (.int p1)) (.val (.int p2)) (.val (.int cp)) (.val (.int b0)) (.val (.int (3 : Int32))) (.val (.int ((((16512 : Int32) + ((b0 - (128 : Int32)) * (16384 : Int32))) + ((b1 - (128 : Int32)) * (128 : Int32))) + b2))) (.val (.int b1)) (.val (.int b2)) (1 : Int32) s1 (4 : Int32) b18 ((s1).toInt8.toInt32) (((((128 : Int32) ||| (((cp - ((16512 : Int64).toInt32)).toUInt32 >>> ((14 : Int32) &&& 31).toUInt32).toInt32)).toInt8.toInt32)).toInt8.toInt32) (((((128 : Int32) ||| ((((cp - ((16512 : Int64).toInt32)).toUInt32 >>> ((7 : Int32) &&& 31).toUInt32).toInt32) &&& (127 : Int32))).toInt8.toInt32)).toInt8.toInt32) (((((cp - ((16512 : Int64).toInt32)) &&& (127 : Int32)).toInt8.toInt32)).toInt8.toInt32) ((s1).toInt8.toInt32) ((s1).toInt8.toInt32) ((s1).toInt8.toInt32) ((s1).toInt8.toInt32) k18 X119 rfl N119 f120 y119_0 (by simp [own_k0, hs]) (by simp [own_k1, hs]) (by simp [own_k2, hs]) (by simp [own_k3, hs]) (by simp [own_k4, hs]) (by simp [own_k5, hs]) (by simp [own_k6, hs]) (by simp [own_k7, hs])
  · rw [qa]
    show OwnGo p.tables e below _ (T66.setTop (mkF m 73 #[.val (.int p0), .val (.int p1), .val (.int p2), .val (.int cp), .val (.int (2 : Int32)), .val (.int s1), .val (.ref b18), .unset, .unset, .unset, .unset, .unset, .unset] []))
    refine OwnGo.of (A := T66.setTop (mkF m 73 #[.val (.int p0), .val (.int p1), .val (.int p2), .val (.int cp), .val (.int (2 : Int32)), .val (.int s1), .val (.ref b18), .unset, .unset, .unset, .unset, .unset, .unset] [])) (B := T66.setTop (mkF m 78 #[.val (.int p0), .val (.int p1), .val (.int p2), .val (.int cp), .val (.int (2 : Int32)), .val (.int s1), .val (.ref b18), .unset, .unset, .unset, .unset, .unset, .unset] [(.int (2 : Int32)), (.ref b18), (.int cp)])) (fun t k => ?_) ?_
    · show Steps p.tables e below (T66.setTop (mkF m 73 #[.val (.int p0), .val (.int p1), .val (.int p2), .val (.int cp), .val (.int (2 : Int32)), .val (.int s1), .val (.ref b18), .unset, .unset, .unset, .unset, .unset, .unset] [])) t
      refine XS.iloadN X66.here hx rfl (hb hby at_73) rfl ?_
      show Steps p.tables e below (T66.setTop (mkF m 74 #[.val (.int p0), .val (.int p1), .val (.int p2), .val (.int cp), .val (.int (2 : Int32)), .val (.int s1), .val (.ref b18), .unset, .unset, .unset, .unset, .unset, .unset] [(.int cp)])) t
      refine XS.aload X66.here hx rfl (hb hby at_74) rfl rfl ?_
      show Steps p.tables e below (T66.setTop (mkF m 76 #[.val (.int p0), .val (.int p1), .val (.int p2), .val (.int cp), .val (.int (2 : Int32)), .val (.int s1), .val (.ref b18), .unset, .unset, .unset, .unset, .unset, .unset] [(.ref b18), (.int cp)])) t
      refine XS.iload X66.here hx rfl (hb hby at_76) rfl ?_
      exact k
    rcases own_cases cp with hA | ⟨hA, hB⟩ | ⟨hA, hB⟩
    · show OwnGo p.tables e below _ (T66.setTop (mkF m 78 #[.val (.int p0), .val (.int p1), .val (.int p2), .val (.int cp), .val (.int (2 : Int32)), .val (.int s1), .val (.ref b18), .unset, .unset, .unset, .unset, .unset, .unset] [(.int (2 : Int32)), (.ref b18), (.int cp)]))
      obtain ⟨_, _, ⟨T131, L131, k131, n131⟩, -, X131, ⟨Lc131, hQ131, l131, y131, z131⟩, st131⟩ := Jvm.LawKit.callS X66 hx (y := (⟨"com/example/sevenfold/sevenfold/Natural", "writeCodePoint", "(I[BI)I"⟩ : MethodName)) hown (mvT hZ (hw _ (List.mem_of_getElem? (i := 3) rfl))) (mvT hZ (hw _ (List.mem_of_getElem? (i := 4) rfl))) (mvT hZ (hw _ (List.mem_of_getElem? (i := 5) rfl))) (mvT hZ (hw _ (List.mem_of_getElem? (i := 6) rfl))) (by decide) (backOf (W := 0) (rm1_2A l Z aw hw [] cp b18 (s1).toInt8.toInt32 (s1).toInt8.toInt32 (s1).toInt8.toInt32 (s1).toInt8.toInt32 (s1).toInt8.toInt32 (s1).toInt8.toInt32 (s1).toInt8.toInt32 (s1).toInt8.toInt32 k18 wF kf h66 n0 f67 f68 f69 f70 g_b18 ne_wF_b18 hA) hZ (hw _ (List.mem_of_getElem? (i := 6) rfl)) (hw _ (List.mem_of_getElem? (i := 5) rfl)) (by decide) (by decide)) (g := (mkF m 78 #[.val (.int p0), .val (.int p1), .val (.int p2), .val (.int cp), .val (.int (2 : Int32)), .val (.int s1), .val (.ref b18), .unset, .unset, .unset, .unset, .unset, .unset] [(.int (2 : Int32)), (.ref b18), (.int cp)])) rfl (by rw [hml]; rfl) (argsL := [(.int cp), (.ref b18), (.int (2 : Int32))]) (rest := []) (lenOf pd_3 rfl) rfl (by show 2 * 0 + _ ≤ _; exact Nat.le_of_eq rfl) (hb hby at_78) (fun _ _ => ⟨rfl, e66, (by decide : 1 + 0 ≤ _), (by decide : 8 + 0 ≤ _)⟩)
      dsimp only [Pt.U, Pt.locs, Pt.cells, Pt.slots] at X131 l131 y131 z131 st131 hQ131
      subst l131 y131 z131
      obtain ⟨rfl, N131q, K131, y131_0⟩ := hQ131
      have f132 : n0 ≤ T131.heap.size := Nat.le_trans f67 K131.1
      have f133 : Sta Z T131.heap "com/example/sevenfold/sevenfold/Natural" "FIRST_OF_LENGTH" "[J" (.ref wF) := own_sta_keep f68 K131 (allS (own_ns_arv f70) all0)
      have f134 : Arv Z T131.heap wF kf .long (10 : Int32) [(.long (0 : Int64)), (.long (0 : Int64)), (.long (128 : Int64)), (.long (16512 : Int64)), (.long (2113664 : Int64)), (.long (270549120 : Int64)), (.long (34630287488 : Int64)), (.long (4432676798592 : Int64)), (.long (567382630219904 : Int64)), (.long (72624976668147840 : Int64))] (.long (0 : Int64)) := f69.keep K131 (ninS ne_wF_b18 nin0)
      have N131 := Fr.app N66 N131q
      refine OwnGo.of st131 ?_
      show OwnGo p.tables e below _ (T131.setTop (mkF m 81 #[.val (.int p0), .val (.int p1), .val (.int p2), .val (.int cp), .val (.int (2 : Int32)), .val (.int s1), .val (.ref b18), .unset, .unset, .unset, .unset, .unset, .unset] [(.int (3 : Int32))]))
      refine OwnGo.of (A := T131.setTop (mkF m 81 #[.val (.int p0), .val (.int p1), .val (.int p2), .val (.int cp), .val (.int (2 : Int32)), .val (.int s1), .val (.ref b18), .unset, .unset, .unset, .unset, .unset, .unset] [(.int (3 : Int32))])) (B := T131.setTop (mkF m 87 #[.val (.int p0), .val (.int p1), .val (.int p2), .val (.int cp), .val (.int (2 : Int32)), .val (.int s1), .val (.ref b18), .val (.int (3 : Int32)), .unset, .unset, .unset, .unset, .unset] [(.int (2 : Int32)), (.ref b18)])) (fun t k => ?_) ?_
      · show Steps p.tables e below (T131.setTop (mkF m 81 #[.val (.int p0), .val (.int p1), .val (.int p2), .val (.int cp), .val (.int (2 : Int32)), .val (.int s1), .val (.ref b18), .unset, .unset, .unset, .unset, .unset, .unset] [(.int (3 : Int32))])) t
        refine XS.istore X131.here hx rfl (hb hby at_81) rfl (l' := #[.val (.int p0), .val (.int p1), .val (.int p2), .val (.int cp), .val (.int (2 : Int32)), .val (.int s1), .val (.ref b18), .val (.int (3 : Int32)), .unset, .unset, .unset, .unset, .unset]) rfl ?_
        show Steps p.tables e below (T131.setTop (mkF m 83 #[.val (.int p0), .val (.int p1), .val (.int p2), .val (.int cp), .val (.int (2 : Int32)), .val (.int s1), .val (.ref b18), .val (.int (3 : Int32)), .unset, .unset, .unset, .unset, .unset] [])) t
        refine XS.aload X131.here hx rfl (hb hby at_83) rfl rfl ?_
        show Steps p.tables e below (T131.setTop (mkF m 85 #[.val (.int p0), .val (.int p1), .val (.int p2), .val (.int cp), .val (.int (2 : Int32)), .val (.int s1), .val (.ref b18), .val (.int (3 : Int32)), .unset, .unset, .unset, .unset, .unset] [(.ref b18)])) t
        refine XS.iload X131.here hx rfl (hb hby at_85) rfl ?_
        exact k
      have cq135 := y131_0
      obtain ⟨clq135, Arq135, qq135, Sq135, Nq135, Hq135, Gq135⟩ := cq135
      have hinq135 := inb_of (j := (2 : Int32)) Sq135 ⟨by decide, by decide⟩
      refine OwnGo.of (X131.baloadBytes hx (j := (2 : Int32)) (v := (.int ((cp.toInt8.toInt32)).toInt8.toInt32)) Arq135.1 (State.isArrayOf_alike hZ.alike Arq135.2.1) Arq135.2.2 hinq135 (Hq135.at hinq135 rfl) (g := (mkF m 87 #[.val (.int p0), .val (.int p1), .val (.int p2), .val (.int cp), .val (.int (2 : Int32)), .val (.int s1), .val (.ref b18), .val (.int (3 : Int32)), .unset, .unset, .unset, .unset, .unset] [(.int (2 : Int32)), (.ref b18)])) rfl rfl (hb hby at_87)) ?_
      show OwnGo p.tables e below _ (T131.setTop (mkF m 88 #[.val (.int p0), .val (.int p1), .val (.int p2), .val (.int cp), .val (.int (2 : Int32)), .val (.int s1), .val (.ref b18), .val (.int (3 : Int32)), .unset, .unset, .unset, .unset, .unset] [(.int ((cp.toInt8.toInt32)).toInt8.toInt32)]))
      refine OwnGo.of (A := T131.setTop (mkF m 88 #[.val (.int p0), .val (.int p1), .val (.int p2), .val (.int cp), .val (.int (2 : Int32)), .val (.int s1), .val (.ref b18), .val (.int (3 : Int32)), .unset, .unset, .unset, .unset, .unset] [(.int ((cp.toInt8.toInt32)).toInt8.toInt32)])) (B := T131.setTop (mkF m 94 #[.val (.int p0), .val (.int p1), .val (.int p2), .val (.int cp), .val (.int (2 : Int32)), .val (.int s1), .val (.ref b18), .val (.int (3 : Int32)), .val (.int (((cp.toInt8.toInt32)).toInt8.toInt32 &&& (255 : Int32))), .unset, .unset, .unset, .unset] [])) (fun t k => ?_) ?_
      · show Steps p.tables e below (T131.setTop (mkF m 88 #[.val (.int p0), .val (.int p1), .val (.int p2), .val (.int cp), .val (.int (2 : Int32)), .val (.int s1), .val (.ref b18), .val (.int (3 : Int32)), .unset, .unset, .unset, .unset, .unset] [(.int ((cp.toInt8.toInt32)).toInt8.toInt32)])) t
        refine XS.sipush X131.here hx rfl (hb hby at_88) ?_
        show Steps p.tables e below (T131.setTop (mkF m 91 #[.val (.int p0), .val (.int p1), .val (.int p2), .val (.int cp), .val (.int (2 : Int32)), .val (.int s1), .val (.ref b18), .val (.int (3 : Int32)), .unset, .unset, .unset, .unset, .unset] [(.int (255 : Int32)), (.int ((cp.toInt8.toInt32)).toInt8.toInt32)])) t
        refine XS.iand X131.here hx rfl (hb hby at_91) rfl ?_
        show Steps p.tables e below (T131.setTop (mkF m 92 #[.val (.int p0), .val (.int p1), .val (.int p2), .val (.int cp), .val (.int (2 : Int32)), .val (.int s1), .val (.ref b18), .val (.int (3 : Int32)), .unset, .unset, .unset, .unset, .unset] [(.int (((cp.toInt8.toInt32)).toInt8.toInt32 &&& (255 : Int32)))])) t
        refine XS.istore X131.here hx rfl (hb hby at_92) rfl (l' := #[.val (.int p0), .val (.int p1), .val (.int p2), .val (.int cp), .val (.int (2 : Int32)), .val (.int s1), .val (.ref b18), .val (.int (3 : Int32)), .val (.int (((cp.toInt8.toInt32)).toInt8.toInt32 &&& (255 : Int32))), .unset, .unset, .unset, .unset]) rfl ?_
        exact k
      obtain ⟨b0, hb0⟩ : ∃ z, z = (((cp.toInt8.toInt32)).toInt8.toInt32 &&& (255 : Int32)) := ⟨_, rfl⟩
      have tb0 : b0.toInt = cp.toInt := by subst hb0; exact own_A0 cp hcb hA
      rw [← hb0]
      show OwnGo p.tables e below _ (T131.setTop (mkF m 94 #[.val (.int p0), .val (.int p1), .val (.int p2), .val (.int cp), .val (.int (2 : Int32)), .val (.int s1), .val (.ref b18), .val (.int (3 : Int32)), .val (.int b0), .unset, .unset, .unset, .unset] []))
      refine OwnGo.of (A := T131.setTop (mkF m 94 #[.val (.int p0), .val (.int p1), .val (.int p2), .val (.int cp), .val (.int (2 : Int32)), .val (.int s1), .val (.ref b18), .val (.int (3 : Int32)), .val (.int b0), .unset, .unset, .unset, .unset] [])) (B := T131.setTop (mkF m 99 #[.val (.int p0), .val (.int p1), .val (.int p2), .val (.int cp), .val (.int (2 : Int32)), .val (.int s1), .val (.ref b18), .val (.int (3 : Int32)), .val (.int b0), .unset, .unset, .unset, .unset] [(.int (128 : Int32)), (.int b0)])) (fun t k => ?_) ?_
      · show Steps p.tables e below (T131.setTop (mkF m 94 #[.val (.int p0), .val (.int p1), .val (.int p2), .val (.int cp), .val (.int (2 : Int32)), .val (.int s1), .val (.ref b18), .val (.int (3 : Int32)), .val (.int b0), .unset, .unset, .unset, .unset] [])) t
        refine XS.iload X131.here hx rfl (hb hby at_94) rfl ?_
        show Steps p.tables e below (T131.setTop (mkF m 96 #[.val (.int p0), .val (.int p1), .val (.int p2), .val (.int cp), .val (.int (2 : Int32)), .val (.int s1), .val (.ref b18), .val (.int (3 : Int32)), .val (.int b0), .unset, .unset, .unset, .unset] [(.int b0)])) t
        refine XS.sipush X131.here hx rfl (hb hby at_96) ?_
        exact k
      have hc136 : b0 < (128 : Int32) := by rw [own_lt128]; rw [own_127] at hA; omega
      refine OwnGo.of (A := T131.setTop (mkF m 99 #[.val (.int p0), .val (.int p1), .val (.int p2), .val (.int cp), .val (.int (2 : Int32)), .val (.int s1), .val (.ref b18), .val (.int (3 : Int32)), .val (.int b0), .unset, .unset, .unset, .unset] [(.int (128 : Int32)), (.int b0)])) (B := T131.setTop (mkF m 221 #[.val (.int p0), .val (.int p1), .val (.int p2), .val (.int cp), .val (.int (2 : Int32)), .val (.int s1), .val (.ref b18), .val (.int (3 : Int32)), .val (.int b0), .val (.int (1 : Int32)), .val (.int b0), .unset, .unset] [(.int ((2 : Int32) + (1 : Int32))), (.int (3 : Int32))])) (fun t k => ?_) ?_
      · show Steps p.tables e below (T131.setTop (mkF m 99 #[.val (.int p0), .val (.int p1), .val (.int p2), .val (.int cp), .val (.int (2 : Int32)), .val (.int s1), .val (.ref b18), .val (.int (3 : Int32)), .val (.int b0), .unset, .unset, .unset, .unset] [(.int (128 : Int32)), (.int b0)])) t
        refine XS.icmpNo X131.here hx rfl (hb hby at_99) rfl (tlt hc136).2.1 ?_
        show Steps p.tables e below (T131.setTop (mkF m 102 #[.val (.int p0), .val (.int p1), .val (.int p2), .val (.int cp), .val (.int (2 : Int32)), .val (.int s1), .val (.ref b18), .val (.int (3 : Int32)), .val (.int b0), .unset, .unset, .unset, .unset] [])) t
        refine XS.iconst X131.here hx rfl (hb hby at_102) ?_
        show Steps p.tables e below (T131.setTop (mkF m 103 #[.val (.int p0), .val (.int p1), .val (.int p2), .val (.int cp), .val (.int (2 : Int32)), .val (.int s1), .val (.ref b18), .val (.int (3 : Int32)), .val (.int b0), .unset, .unset, .unset, .unset] [(.int (1 : Int32))])) t
        refine XS.istore X131.here hx rfl (hb hby at_103) rfl (l' := #[.val (.int p0), .val (.int p1), .val (.int p2), .val (.int cp), .val (.int (2 : Int32)), .val (.int s1), .val (.ref b18), .val (.int (3 : Int32)), .val (.int b0), .val (.int (1 : Int32)), .unset, .unset, .unset]) rfl ?_
        show Steps p.tables e below (T131.setTop (mkF m 105 #[.val (.int p0), .val (.int p1), .val (.int p2), .val (.int cp), .val (.int (2 : Int32)), .val (.int s1), .val (.ref b18), .val (.int (3 : Int32)), .val (.int b0), .val (.int (1 : Int32)), .unset, .unset, .unset] [])) t
        refine XS.iload X131.here hx rfl (hb hby at_105) rfl ?_
        show Steps p.tables e below (T131.setTop (mkF m 107 #[.val (.int p0), .val (.int p1), .val (.int p2), .val (.int cp), .val (.int (2 : Int32)), .val (.int s1), .val (.ref b18), .val (.int (3 : Int32)), .val (.int b0), .val (.int (1 : Int32)), .unset, .unset, .unset] [(.int b0)])) t
        refine XS.istore X131.here hx rfl (hb hby at_107) rfl (l' := #[.val (.int p0), .val (.int p1), .val (.int p2), .val (.int cp), .val (.int (2 : Int32)), .val (.int s1), .val (.ref b18), .val (.int (3 : Int32)), .val (.int b0), .val (.int (1 : Int32)), .val (.int b0), .unset, .unset]) rfl ?_
        show Steps p.tables e below (T131.setTop (mkF m 109 #[.val (.int p0), .val (.int p1), .val (.int p2), .val (.int cp), .val (.int (2 : Int32)), .val (.int s1), .val (.ref b18), .val (.int (3 : Int32)), .val (.int b0), .val (.int (1 : Int32)), .val (.int b0), .unset, .unset] [])) t
        refine XS.goto X131.here hx rfl (pc0 := 109) (pc' := 214) rfl (hb hby at_109) (by decide) (by decide) ?_
        show Steps p.tables e below (T131.setTop (mkF m 214 #[.val (.int p0), .val (.int p1), .val (.int p2), .val (.int cp), .val (.int (2 : Int32)), .val (.int s1), .val (.ref b18), .val (.int (3 : Int32)), .val (.int b0), .val (.int (1 : Int32)), .val (.int b0), .unset, .unset] [])) t
        refine XS.iload X131.here hx rfl (hb hby at_214) rfl ?_
        show Steps p.tables e below (T131.setTop (mkF m 216 #[.val (.int p0), .val (.int p1), .val (.int p2), .val (.int cp), .val (.int (2 : Int32)), .val (.int s1), .val (.ref b18), .val (.int (3 : Int32)), .val (.int b0), .val (.int (1 : Int32)), .val (.int b0), .unset, .unset] [(.int (3 : Int32))])) t
        refine XS.iload X131.here hx rfl (hb hby at_216) rfl ?_
        show Steps p.tables e below (T131.setTop (mkF m 218 #[.val (.int p0), .val (.int p1), .val (.int p2), .val (.int cp), .val (.int (2 : Int32)), .val (.int s1), .val (.ref b18), .val (.int (3 : Int32)), .val (.int b0), .val (.int (1 : Int32)), .val (.int b0), .unset, .unset] [(.int (2 : Int32)), (.int (3 : Int32))])) t
        refine XS.iload X131.here hx rfl (hb hby at_218) rfl ?_
        show Steps p.tables e below (T131.setTop (mkF m 220 #[.val (.int p0), .val (.int p1), .val (.int p2), .val (.int cp), .val (.int (2 : Int32)), .val (.int s1), .val (.ref b18), .val (.int (3 : Int32)), .val (.int b0), .val (.int (1 : Int32)), .val (.int b0), .unset, .unset] [(.int (1 : Int32)), (.int (2 : Int32)), (.int (3 : Int32))])) t
        refine XS.iadd X131.here hx rfl (hb hby at_220) rfl ?_
        exact k
      have hc137 : (3 : Int32) = ((2 : Int32) + (1 : Int32)) := by decide
      refine OwnGo.of (A := T131.setTop (mkF m 221 #[.val (.int p0), .val (.int p1), .val (.int p2), .val (.int cp), .val (.int (2 : Int32)), .val (.int s1), .val (.ref b18), .val (.int (3 : Int32)), .val (.int b0), .val (.int (1 : Int32)), .val (.int b0), .unset, .unset] [(.int ((2 : Int32) + (1 : Int32))), (.int (3 : Int32))])) (B := T131.setTop (mkF m 229 #[.val (.int p0), .val (.int p1), .val (.int p2), .val (.int cp), .val (.int (2 : Int32)), .val (.int s1), .val (.ref b18), .val (.int (3 : Int32)), .val (.int b0), .val (.int (1 : Int32)), .val (.int b0), .unset, .unset] [(.int cp), (.int b0)])) (fun t k => ?_) ?_
      · show Steps p.tables e below (T131.setTop (mkF m 221 #[.val (.int p0), .val (.int p1), .val (.int p2), .val (.int cp), .val (.int (2 : Int32)), .val (.int s1), .val (.ref b18), .val (.int (3 : Int32)), .val (.int b0), .val (.int (1 : Int32)), .val (.int b0), .unset, .unset] [(.int ((2 : Int32) + (1 : Int32))), (.int (3 : Int32))])) t
        refine XS.icmpYes X131.here hx rfl (pc0 := 221) (pc' := 226) rfl (hb hby at_221) rfl (teq hc137).1 (by decide) (by decide) ?_
        show Steps p.tables e below (T131.setTop (mkF m 226 #[.val (.int p0), .val (.int p1), .val (.int p2), .val (.int cp), .val (.int (2 : Int32)), .val (.int s1), .val (.ref b18), .val (.int (3 : Int32)), .val (.int b0), .val (.int (1 : Int32)), .val (.int b0), .unset, .unset] [])) t
        refine XS.iload X131.here hx rfl (hb hby at_226) rfl ?_
        show Steps p.tables e below (T131.setTop (mkF m 228 #[.val (.int p0), .val (.int p1), .val (.int p2), .val (.int cp), .val (.int (2 : Int32)), .val (.int s1), .val (.ref b18), .val (.int (3 : Int32)), .val (.int b0), .val (.int (1 : Int32)), .val (.int b0), .unset, .unset] [(.int b0)])) t
        refine XS.iloadN X131.here hx rfl (hb hby at_228) rfl ?_
        exact k
      have hc138 : b0 = cp := Int32.toInt_inj.mp tb0
      refine OwnGo.of (A := T131.setTop (mkF m 229 #[.val (.int p0), .val (.int p1), .val (.int p2), .val (.int cp), .val (.int (2 : Int32)), .val (.int s1), .val (.ref b18), .val (.int (3 : Int32)), .val (.int b0), .val (.int (1 : Int32)), .val (.int b0), .unset, .unset] [(.int cp), (.int b0)])) (B := T131.setTop (mkF m 234 #[.val (.int p0), .val (.int p1), .val (.int p2), .val (.int cp), .val (.int (2 : Int32)), .val (.int s1), .val (.ref b18), .val (.int (3 : Int32)), .val (.int b0), .val (.int (1 : Int32)), .val (.int b0), .unset, .unset] [])) (fun t k => ?_) ?_
      · show Steps p.tables e below (T131.setTop (mkF m 229 #[.val (.int p0), .val (.int p1), .val (.int p2), .val (.int cp), .val (.int (2 : Int32)), .val (.int s1), .val (.ref b18), .val (.int (3 : Int32)), .val (.int b0), .val (.int (1 : Int32)), .val (.int b0), .unset, .unset] [(.int cp), (.int b0)])) t
        refine XS.icmpYes X131.here hx rfl (pc0 := 229) (pc' := 234) rfl (hb hby at_229) rfl (teq hc138).1 (by decide) (by decide) ?_
        exact k
      exact J234 T131 _ _ (.val (.int p0)) (.val (.int p1)) (.val (.int p2)) (.val (.int cp)) (.val (.int b0)) (.val (.int (1 : Int32))) (.val (.int b0)) (.unset) (.unset) (2 : Int32) s1 (3 : Int32) b18 ((s1).toInt8.toInt32) ((s1).toInt8.toInt32) (((cp.toInt8.toInt32)).toInt8.toInt32) ((s1).toInt8.toInt32) ((s1).toInt8.toInt32) ((s1).toInt8.toInt32) ((s1).toInt8.toInt32) ((s1).toInt8.toInt32) k18 X131 rfl N131 f132 y131_0 (by simp [own_k0, hs]) (by simp [own_k1, hs]) (by simp [own_k2, hs]) (by simp [own_k3, hs]) (by simp [own_k4, hs]) (by simp [own_k5, hs]) (by simp [own_k6, hs]) (by simp [own_k7, hs])
    · show OwnGo p.tables e below _ (T66.setTop (mkF m 78 #[.val (.int p0), .val (.int p1), .val (.int p2), .val (.int cp), .val (.int (2 : Int32)), .val (.int s1), .val (.ref b18), .unset, .unset, .unset, .unset, .unset, .unset] [(.int (2 : Int32)), (.ref b18), (.int cp)]))
      obtain ⟨_, _, ⟨T139, L139, k139, n139⟩, -, X139, ⟨Lc139, hQ139, l139, y139, z139⟩, st139⟩ := Jvm.LawKit.callS X66 hx (y := (⟨"com/example/sevenfold/sevenfold/Natural", "writeCodePoint", "(I[BI)I"⟩ : MethodName)) hown (mvT hZ (hw _ (List.mem_of_getElem? (i := 3) rfl))) (mvT hZ (hw _ (List.mem_of_getElem? (i := 4) rfl))) (mvT hZ (hw _ (List.mem_of_getElem? (i := 5) rfl))) (mvT hZ (hw _ (List.mem_of_getElem? (i := 6) rfl))) (by decide) (backOf (W := 0) (rm1_2B l Z aw hw [] cp b18 (s1).toInt8.toInt32 (s1).toInt8.toInt32 (s1).toInt8.toInt32 (s1).toInt8.toInt32 (s1).toInt8.toInt32 (s1).toInt8.toInt32 (s1).toInt8.toInt32 (s1).toInt8.toInt32 k18 wF kf h66 n0 f67 f68 f69 f70 g_b18 ne_wF_b18 hA hB) hZ (hw _ (List.mem_of_getElem? (i := 6) rfl)) (hw _ (List.mem_of_getElem? (i := 5) rfl)) (by decide) (by decide)) (g := (mkF m 78 #[.val (.int p0), .val (.int p1), .val (.int p2), .val (.int cp), .val (.int (2 : Int32)), .val (.int s1), .val (.ref b18), .unset, .unset, .unset, .unset, .unset, .unset] [(.int (2 : Int32)), (.ref b18), (.int cp)])) rfl (by rw [hml]; rfl) (argsL := [(.int cp), (.ref b18), (.int (2 : Int32))]) (rest := []) (lenOf pd_3 rfl) rfl (by show 2 * 0 + _ ≤ _; exact Nat.le_of_eq rfl) (hb hby at_78) (fun _ _ => ⟨rfl, e66, (by decide : 1 + 0 ≤ _), (by decide : 8 + 0 ≤ _)⟩)
      dsimp only [Pt.U, Pt.locs, Pt.cells, Pt.slots] at X139 l139 y139 z139 st139 hQ139
      subst l139 y139 z139
      obtain ⟨rfl, N139q, K139, y139_0⟩ := hQ139
      have f140 : n0 ≤ T139.heap.size := Nat.le_trans f67 K139.1
      have f141 : Sta Z T139.heap "com/example/sevenfold/sevenfold/Natural" "FIRST_OF_LENGTH" "[J" (.ref wF) := own_sta_keep f68 K139 (allS (own_ns_arv f70) all0)
      have f142 : Arv Z T139.heap wF kf .long (10 : Int32) [(.long (0 : Int64)), (.long (0 : Int64)), (.long (128 : Int64)), (.long (16512 : Int64)), (.long (2113664 : Int64)), (.long (270549120 : Int64)), (.long (34630287488 : Int64)), (.long (4432676798592 : Int64)), (.long (567382630219904 : Int64)), (.long (72624976668147840 : Int64))] (.long (0 : Int64)) := f69.keep K139 (ninS ne_wF_b18 nin0)
      have N139 := Fr.app N66 N139q
      refine OwnGo.of st139 ?_
      show OwnGo p.tables e below _ (T139.setTop (mkF m 81 #[.val (.int p0), .val (.int p1), .val (.int p2), .val (.int cp), .val (.int (2 : Int32)), .val (.int s1), .val (.ref b18), .unset, .unset, .unset, .unset, .unset, .unset] [(.int (4 : Int32))]))
      refine OwnGo.of (A := T139.setTop (mkF m 81 #[.val (.int p0), .val (.int p1), .val (.int p2), .val (.int cp), .val (.int (2 : Int32)), .val (.int s1), .val (.ref b18), .unset, .unset, .unset, .unset, .unset, .unset] [(.int (4 : Int32))])) (B := T139.setTop (mkF m 87 #[.val (.int p0), .val (.int p1), .val (.int p2), .val (.int cp), .val (.int (2 : Int32)), .val (.int s1), .val (.ref b18), .val (.int (4 : Int32)), .unset, .unset, .unset, .unset, .unset] [(.int (2 : Int32)), (.ref b18)])) (fun t k => ?_) ?_
      · show Steps p.tables e below (T139.setTop (mkF m 81 #[.val (.int p0), .val (.int p1), .val (.int p2), .val (.int cp), .val (.int (2 : Int32)), .val (.int s1), .val (.ref b18), .unset, .unset, .unset, .unset, .unset, .unset] [(.int (4 : Int32))])) t
        refine XS.istore X139.here hx rfl (hb hby at_81) rfl (l' := #[.val (.int p0), .val (.int p1), .val (.int p2), .val (.int cp), .val (.int (2 : Int32)), .val (.int s1), .val (.ref b18), .val (.int (4 : Int32)), .unset, .unset, .unset, .unset, .unset]) rfl ?_
        show Steps p.tables e below (T139.setTop (mkF m 83 #[.val (.int p0), .val (.int p1), .val (.int p2), .val (.int cp), .val (.int (2 : Int32)), .val (.int s1), .val (.ref b18), .val (.int (4 : Int32)), .unset, .unset, .unset, .unset, .unset] [])) t
        refine XS.aload X139.here hx rfl (hb hby at_83) rfl rfl ?_
        show Steps p.tables e below (T139.setTop (mkF m 85 #[.val (.int p0), .val (.int p1), .val (.int p2), .val (.int cp), .val (.int (2 : Int32)), .val (.int s1), .val (.ref b18), .val (.int (4 : Int32)), .unset, .unset, .unset, .unset, .unset] [(.ref b18)])) t
        refine XS.iload X139.here hx rfl (hb hby at_85) rfl ?_
        exact k
      have cq143 := y139_0
      obtain ⟨clq143, Arq143, qq143, Sq143, Nq143, Hq143, Gq143⟩ := cq143
      have hinq143 := inb_of (j := (2 : Int32)) Sq143 ⟨by decide, by decide⟩
      refine OwnGo.of (X139.baloadBytes hx (j := (2 : Int32)) (v := (.int ((((128 : Int32) ||| (((cp - ((128 : Int64).toInt32)).toUInt32 >>> ((7 : Int32) &&& 31).toUInt32).toInt32)).toInt8.toInt32)).toInt8.toInt32)) Arq143.1 (State.isArrayOf_alike hZ.alike Arq143.2.1) Arq143.2.2 hinq143 (Hq143.at hinq143 rfl) (g := (mkF m 87 #[.val (.int p0), .val (.int p1), .val (.int p2), .val (.int cp), .val (.int (2 : Int32)), .val (.int s1), .val (.ref b18), .val (.int (4 : Int32)), .unset, .unset, .unset, .unset, .unset] [(.int (2 : Int32)), (.ref b18)])) rfl rfl (hb hby at_87)) ?_
      show OwnGo p.tables e below _ (T139.setTop (mkF m 88 #[.val (.int p0), .val (.int p1), .val (.int p2), .val (.int cp), .val (.int (2 : Int32)), .val (.int s1), .val (.ref b18), .val (.int (4 : Int32)), .unset, .unset, .unset, .unset, .unset] [(.int ((((128 : Int32) ||| (((cp - ((128 : Int64).toInt32)).toUInt32 >>> ((7 : Int32) &&& 31).toUInt32).toInt32)).toInt8.toInt32)).toInt8.toInt32)]))
      refine OwnGo.of (A := T139.setTop (mkF m 88 #[.val (.int p0), .val (.int p1), .val (.int p2), .val (.int cp), .val (.int (2 : Int32)), .val (.int s1), .val (.ref b18), .val (.int (4 : Int32)), .unset, .unset, .unset, .unset, .unset] [(.int ((((128 : Int32) ||| (((cp - ((128 : Int64).toInt32)).toUInt32 >>> ((7 : Int32) &&& 31).toUInt32).toInt32)).toInt8.toInt32)).toInt8.toInt32)])) (B := T139.setTop (mkF m 94 #[.val (.int p0), .val (.int p1), .val (.int p2), .val (.int cp), .val (.int (2 : Int32)), .val (.int s1), .val (.ref b18), .val (.int (4 : Int32)), .val (.int (((((128 : Int32) ||| (((cp - ((128 : Int64).toInt32)).toUInt32 >>> ((7 : Int32) &&& 31).toUInt32).toInt32)).toInt8.toInt32)).toInt8.toInt32 &&& (255 : Int32))), .unset, .unset, .unset, .unset] [])) (fun t k => ?_) ?_
      · show Steps p.tables e below (T139.setTop (mkF m 88 #[.val (.int p0), .val (.int p1), .val (.int p2), .val (.int cp), .val (.int (2 : Int32)), .val (.int s1), .val (.ref b18), .val (.int (4 : Int32)), .unset, .unset, .unset, .unset, .unset] [(.int ((((128 : Int32) ||| (((cp - ((128 : Int64).toInt32)).toUInt32 >>> ((7 : Int32) &&& 31).toUInt32).toInt32)).toInt8.toInt32)).toInt8.toInt32)])) t
        refine XS.sipush X139.here hx rfl (hb hby at_88) ?_
        show Steps p.tables e below (T139.setTop (mkF m 91 #[.val (.int p0), .val (.int p1), .val (.int p2), .val (.int cp), .val (.int (2 : Int32)), .val (.int s1), .val (.ref b18), .val (.int (4 : Int32)), .unset, .unset, .unset, .unset, .unset] [(.int (255 : Int32)), (.int ((((128 : Int32) ||| (((cp - ((128 : Int64).toInt32)).toUInt32 >>> ((7 : Int32) &&& 31).toUInt32).toInt32)).toInt8.toInt32)).toInt8.toInt32)])) t
        refine XS.iand X139.here hx rfl (hb hby at_91) rfl ?_
        show Steps p.tables e below (T139.setTop (mkF m 92 #[.val (.int p0), .val (.int p1), .val (.int p2), .val (.int cp), .val (.int (2 : Int32)), .val (.int s1), .val (.ref b18), .val (.int (4 : Int32)), .unset, .unset, .unset, .unset, .unset] [(.int (((((128 : Int32) ||| (((cp - ((128 : Int64).toInt32)).toUInt32 >>> ((7 : Int32) &&& 31).toUInt32).toInt32)).toInt8.toInt32)).toInt8.toInt32 &&& (255 : Int32)))])) t
        refine XS.istore X139.here hx rfl (hb hby at_92) rfl (l' := #[.val (.int p0), .val (.int p1), .val (.int p2), .val (.int cp), .val (.int (2 : Int32)), .val (.int s1), .val (.ref b18), .val (.int (4 : Int32)), .val (.int (((((128 : Int32) ||| (((cp - ((128 : Int64).toInt32)).toUInt32 >>> ((7 : Int32) &&& 31).toUInt32).toInt32)).toInt8.toInt32)).toInt8.toInt32 &&& (255 : Int32))), .unset, .unset, .unset, .unset]) rfl ?_
        exact k
      obtain ⟨b0, hb0⟩ : ∃ z, z = (((((128 : Int32) ||| (((cp - ((128 : Int64).toInt32)).toUInt32 >>> ((7 : Int32) &&& 31).toUInt32).toInt32)).toInt8.toInt32)).toInt8.toInt32 &&& (255 : Int32)) := ⟨_, rfl⟩
      have tb0 : b0.toInt = 128 + (cp.toInt - 128) / 128 := by subst hb0; exact own_B0 cp hcb hA hB
      rw [← hb0]
      show OwnGo p.tables e below _ (T139.setTop (mkF m 94 #[.val (.int p0), .val (.int p1), .val (.int p2), .val (.int cp), .val (.int (2 : Int32)), .val (.int s1), .val (.ref b18), .val (.int (4 : Int32)), .val (.int b0), .unset, .unset, .unset, .unset] []))
      refine OwnGo.of (A := T139.setTop (mkF m 94 #[.val (.int p0), .val (.int p1), .val (.int p2), .val (.int cp), .val (.int (2 : Int32)), .val (.int s1), .val (.ref b18), .val (.int (4 : Int32)), .val (.int b0), .unset, .unset, .unset, .unset] [])) (B := T139.setTop (mkF m 99 #[.val (.int p0), .val (.int p1), .val (.int p2), .val (.int cp), .val (.int (2 : Int32)), .val (.int s1), .val (.ref b18), .val (.int (4 : Int32)), .val (.int b0), .unset, .unset, .unset, .unset] [(.int (128 : Int32)), (.int b0)])) (fun t k => ?_) ?_
      · show Steps p.tables e below (T139.setTop (mkF m 94 #[.val (.int p0), .val (.int p1), .val (.int p2), .val (.int cp), .val (.int (2 : Int32)), .val (.int s1), .val (.ref b18), .val (.int (4 : Int32)), .val (.int b0), .unset, .unset, .unset, .unset] [])) t
        refine XS.iload X139.here hx rfl (hb hby at_94) rfl ?_
        show Steps p.tables e below (T139.setTop (mkF m 96 #[.val (.int p0), .val (.int p1), .val (.int p2), .val (.int cp), .val (.int (2 : Int32)), .val (.int s1), .val (.ref b18), .val (.int (4 : Int32)), .val (.int b0), .unset, .unset, .unset, .unset] [(.int b0)])) t
        refine XS.sipush X139.here hx rfl (hb hby at_96) ?_
        exact k
      have hc144 : ¬ (b0 < (128 : Int32)) := by rw [own_lt128]; rw [own_127] at hA; rw [own_l16] at hB; omega
      refine OwnGo.of (A := T139.setTop (mkF m 99 #[.val (.int p0), .val (.int p1), .val (.int p2), .val (.int cp), .val (.int (2 : Int32)), .val (.int s1), .val (.ref b18), .val (.int (4 : Int32)), .val (.int b0), .unset, .unset, .unset, .unset] [(.int (128 : Int32)), (.int b0)])) (B := T139.setTop (mkF m 118 #[.val (.int p0), .val (.int p1), .val (.int p2), .val (.int cp), .val (.int (2 : Int32)), .val (.int s1), .val (.ref b18), .val (.int (4 : Int32)), .val (.int b0), .unset, .unset, .unset, .unset] [(.int ((2 : Int32) + (1 : Int32))), (.ref b18)])) (fun t k => ?_) ?_
      · show Steps p.tables e below (T139.setTop (mkF m 99 #[.val (.int p0), .val (.int p1), .val (.int p2), .val (.int cp), .val (.int (2 : Int32)), .val (.int s1), .val (.ref b18), .val (.int (4 : Int32)), .val (.int b0), .unset, .unset, .unset, .unset] [(.int (128 : Int32)), (.int b0)])) t
        refine XS.icmpYes X139.here hx rfl (pc0 := 99) (pc' := 112) rfl (hb hby at_99) rfl (flt hc144).2.1 (by decide) (by decide) ?_
        show Steps p.tables e below (T139.setTop (mkF m 112 #[.val (.int p0), .val (.int p1), .val (.int p2), .val (.int cp), .val (.int (2 : Int32)), .val (.int s1), .val (.ref b18), .val (.int (4 : Int32)), .val (.int b0), .unset, .unset, .unset, .unset] [])) t
        refine XS.aload X139.here hx rfl (hb hby at_112) rfl rfl ?_
        show Steps p.tables e below (T139.setTop (mkF m 114 #[.val (.int p0), .val (.int p1), .val (.int p2), .val (.int cp), .val (.int (2 : Int32)), .val (.int s1), .val (.ref b18), .val (.int (4 : Int32)), .val (.int b0), .unset, .unset, .unset, .unset] [(.ref b18)])) t
        refine XS.iload X139.here hx rfl (hb hby at_114) rfl ?_
        show Steps p.tables e below (T139.setTop (mkF m 116 #[.val (.int p0), .val (.int p1), .val (.int p2), .val (.int cp), .val (.int (2 : Int32)), .val (.int s1), .val (.ref b18), .val (.int (4 : Int32)), .val (.int b0), .unset, .unset, .unset, .unset] [(.int (2 : Int32)), (.ref b18)])) t
        refine XS.iconst X139.here hx rfl (hb hby at_116) ?_
        show Steps p.tables e below (T139.setTop (mkF m 117 #[.val (.int p0), .val (.int p1), .val (.int p2), .val (.int cp), .val (.int (2 : Int32)), .val (.int s1), .val (.ref b18), .val (.int (4 : Int32)), .val (.int b0), .unset, .unset, .unset, .unset] [(.int (1 : Int32)), (.int (2 : Int32)), (.ref b18)])) t
        refine XS.iadd X139.here hx rfl (hb hby at_117) rfl ?_
        exact k
      rw [show ((2 : Int32) + (1 : Int32)) = (3 : Int32) from by decide]
      show OwnGo p.tables e below _ (T139.setTop (mkF m 118 #[.val (.int p0), .val (.int p1), .val (.int p2), .val (.int cp), .val (.int (2 : Int32)), .val (.int s1), .val (.ref b18), .val (.int (4 : Int32)), .val (.int b0), .unset, .unset, .unset, .unset] [(.int (3 : Int32)), (.ref b18)]))
      have cq145 := y139_0
      obtain ⟨clq145, Arq145, qq145, Sq145, Nq145, Hq145, Gq145⟩ := cq145
      have hinq145 := inb_of (j := (3 : Int32)) Sq145 ⟨by decide, by decide⟩
      refine OwnGo.of (X139.baloadBytes hx (j := (3 : Int32)) (v := (.int ((((cp - ((128 : Int64).toInt32)) &&& (127 : Int32)).toInt8.toInt32)).toInt8.toInt32)) Arq145.1 (State.isArrayOf_alike hZ.alike Arq145.2.1) Arq145.2.2 hinq145 (Hq145.at hinq145 rfl) (g := (mkF m 118 #[.val (.int p0), .val (.int p1), .val (.int p2), .val (.int cp), .val (.int (2 : Int32)), .val (.int s1), .val (.ref b18), .val (.int (4 : Int32)), .val (.int b0), .unset, .unset, .unset, .unset] [(.int (3 : Int32)), (.ref b18)])) rfl rfl (hb hby at_118)) ?_
      show OwnGo p.tables e below _ (T139.setTop (mkF m 119 #[.val (.int p0), .val (.int p1), .val (.int p2), .val (.int cp), .val (.int (2 : Int32)), .val (.int s1), .val (.ref b18), .val (.int (4 : Int32)), .val (.int b0), .unset, .unset, .unset, .unset] [(.int ((((cp - ((128 : Int64).toInt32)) &&& (127 : Int32)).toInt8.toInt32)).toInt8.toInt32)]))
      refine OwnGo.of (A := T139.setTop (mkF m 119 #[.val (.int p0), .val (.int p1), .val (.int p2), .val (.int cp), .val (.int (2 : Int32)), .val (.int s1), .val (.ref b18), .val (.int (4 : Int32)), .val (.int b0), .unset, .unset, .unset, .unset] [(.int ((((cp - ((128 : Int64).toInt32)) &&& (127 : Int32)).toInt8.toInt32)).toInt8.toInt32)])) (B := T139.setTop (mkF m 125 #[.val (.int p0), .val (.int p1), .val (.int p2), .val (.int cp), .val (.int (2 : Int32)), .val (.int s1), .val (.ref b18), .val (.int (4 : Int32)), .val (.int b0), .unset, .unset, .val (.int (((((cp - ((128 : Int64).toInt32)) &&& (127 : Int32)).toInt8.toInt32)).toInt8.toInt32 &&& (255 : Int32))), .unset] [])) (fun t k => ?_) ?_
      · show Steps p.tables e below (T139.setTop (mkF m 119 #[.val (.int p0), .val (.int p1), .val (.int p2), .val (.int cp), .val (.int (2 : Int32)), .val (.int s1), .val (.ref b18), .val (.int (4 : Int32)), .val (.int b0), .unset, .unset, .unset, .unset] [(.int ((((cp - ((128 : Int64).toInt32)) &&& (127 : Int32)).toInt8.toInt32)).toInt8.toInt32)])) t
        refine XS.sipush X139.here hx rfl (hb hby at_119) ?_
        show Steps p.tables e below (T139.setTop (mkF m 122 #[.val (.int p0), .val (.int p1), .val (.int p2), .val (.int cp), .val (.int (2 : Int32)), .val (.int s1), .val (.ref b18), .val (.int (4 : Int32)), .val (.int b0), .unset, .unset, .unset, .unset] [(.int (255 : Int32)), (.int ((((cp - ((128 : Int64).toInt32)) &&& (127 : Int32)).toInt8.toInt32)).toInt8.toInt32)])) t
        refine XS.iand X139.here hx rfl (hb hby at_122) rfl ?_
        show Steps p.tables e below (T139.setTop (mkF m 123 #[.val (.int p0), .val (.int p1), .val (.int p2), .val (.int cp), .val (.int (2 : Int32)), .val (.int s1), .val (.ref b18), .val (.int (4 : Int32)), .val (.int b0), .unset, .unset, .unset, .unset] [(.int (((((cp - ((128 : Int64).toInt32)) &&& (127 : Int32)).toInt8.toInt32)).toInt8.toInt32 &&& (255 : Int32)))])) t
        refine XS.istore X139.here hx rfl (hb hby at_123) rfl (l' := #[.val (.int p0), .val (.int p1), .val (.int p2), .val (.int cp), .val (.int (2 : Int32)), .val (.int s1), .val (.ref b18), .val (.int (4 : Int32)), .val (.int b0), .unset, .unset, .val (.int (((((cp - ((128 : Int64).toInt32)) &&& (127 : Int32)).toInt8.toInt32)).toInt8.toInt32 &&& (255 : Int32))), .unset]) rfl ?_
        exact k
      obtain ⟨b1, hb1⟩ : ∃ z, z = (((((cp - ((128 : Int64).toInt32)) &&& (127 : Int32)).toInt8.toInt32)).toInt8.toInt32 &&& (255 : Int32)) := ⟨_, rfl⟩
      have tb1 : b1.toInt = (cp.toInt - 128) % 128 := by subst hb1; exact own_B1 cp hcb hA
      rw [← hb1]
      show OwnGo p.tables e below _ (T139.setTop (mkF m 125 #[.val (.int p0), .val (.int p1), .val (.int p2), .val (.int cp), .val (.int (2 : Int32)), .val (.int s1), .val (.ref b18), .val (.int (4 : Int32)), .val (.int b0), .unset, .unset, .val (.int b1), .unset] []))
      refine OwnGo.of (A := T139.setTop (mkF m 125 #[.val (.int p0), .val (.int p1), .val (.int p2), .val (.int cp), .val (.int (2 : Int32)), .val (.int s1), .val (.ref b18), .val (.int (4 : Int32)), .val (.int b0), .unset, .unset, .val (.int b1), .unset] [])) (B := T139.setTop (mkF m 130 #[.val (.int p0), .val (.int p1), .val (.int p2), .val (.int cp), .val (.int (2 : Int32)), .val (.int s1), .val (.ref b18), .val (.int (4 : Int32)), .val (.int b0), .unset, .unset, .val (.int b1), .unset] [(.int (128 : Int32)), (.int b1)])) (fun t k => ?_) ?_
      · show Steps p.tables e below (T139.setTop (mkF m 125 #[.val (.int p0), .val (.int p1), .val (.int p2), .val (.int cp), .val (.int (2 : Int32)), .val (.int s1), .val (.ref b18), .val (.int (4 : Int32)), .val (.int b0), .unset, .unset, .val (.int b1), .unset] [])) t
        refine XS.iload X139.here hx rfl (hb hby at_125) rfl ?_
        show Steps p.tables e below (T139.setTop (mkF m 127 #[.val (.int p0), .val (.int p1), .val (.int p2), .val (.int cp), .val (.int (2 : Int32)), .val (.int s1), .val (.ref b18), .val (.int (4 : Int32)), .val (.int b0), .unset, .unset, .val (.int b1), .unset] [(.int b1)])) t
        refine XS.sipush X139.here hx rfl (hb hby at_127) ?_
        exact k
      have hc146 : b1 < (128 : Int32) := by rw [own_lt128]; rw [own_127] at hA; rw [own_l16] at hB; omega
      refine OwnGo.of (A := T139.setTop (mkF m 130 #[.val (.int p0), .val (.int p1), .val (.int p2), .val (.int cp), .val (.int (2 : Int32)), .val (.int s1), .val (.ref b18), .val (.int (4 : Int32)), .val (.int b0), .unset, .unset, .val (.int b1), .unset] [(.int (128 : Int32)), (.int b1)])) (B := T139.setTop (mkF m 221 #[.val (.int p0), .val (.int p1), .val (.int p2), .val (.int cp), .val (.int (2 : Int32)), .val (.int s1), .val (.ref b18), .val (.int (4 : Int32)), .val (.int b0), .val (.int (2 : Int32)), .val (.int (((128 : Int32) + ((b0 - (128 : Int32)) * (128 : Int32))) + b1)), .val (.int b1), .unset] [(.int ((2 : Int32) + (2 : Int32))), (.int (4 : Int32))])) (fun t k => ?_) ?_
      · show Steps p.tables e below (T139.setTop (mkF m 130 #[.val (.int p0), .val (.int p1), .val (.int p2), .val (.int cp), .val (.int (2 : Int32)), .val (.int s1), .val (.ref b18), .val (.int (4 : Int32)), .val (.int b0), .unset, .unset, .val (.int b1), .unset] [(.int (128 : Int32)), (.int b1)])) t
        refine XS.icmpNo X139.here hx rfl (hb hby at_130) rfl (tlt hc146).2.1 ?_
        show Steps p.tables e below (T139.setTop (mkF m 133 #[.val (.int p0), .val (.int p1), .val (.int p2), .val (.int cp), .val (.int (2 : Int32)), .val (.int s1), .val (.ref b18), .val (.int (4 : Int32)), .val (.int b0), .unset, .unset, .val (.int b1), .unset] [])) t
        refine XS.iconst X139.here hx rfl (hb hby at_133) ?_
        show Steps p.tables e below (T139.setTop (mkF m 134 #[.val (.int p0), .val (.int p1), .val (.int p2), .val (.int cp), .val (.int (2 : Int32)), .val (.int s1), .val (.ref b18), .val (.int (4 : Int32)), .val (.int b0), .unset, .unset, .val (.int b1), .unset] [(.int (2 : Int32))])) t
        refine XS.istore X139.here hx rfl (hb hby at_134) rfl (l' := #[.val (.int p0), .val (.int p1), .val (.int p2), .val (.int cp), .val (.int (2 : Int32)), .val (.int s1), .val (.ref b18), .val (.int (4 : Int32)), .val (.int b0), .val (.int (2 : Int32)), .unset, .val (.int b1), .unset]) rfl ?_
        show Steps p.tables e below (T139.setTop (mkF m 136 #[.val (.int p0), .val (.int p1), .val (.int p2), .val (.int cp), .val (.int (2 : Int32)), .val (.int s1), .val (.ref b18), .val (.int (4 : Int32)), .val (.int b0), .val (.int (2 : Int32)), .unset, .val (.int b1), .unset] [])) t
        refine XS.sipush X139.here hx rfl (hb hby at_136) ?_
        show Steps p.tables e below (T139.setTop (mkF m 139 #[.val (.int p0), .val (.int p1), .val (.int p2), .val (.int cp), .val (.int (2 : Int32)), .val (.int s1), .val (.ref b18), .val (.int (4 : Int32)), .val (.int b0), .val (.int (2 : Int32)), .unset, .val (.int b1), .unset] [(.int (128 : Int32))])) t
        refine XS.iload X139.here hx rfl (hb hby at_139) rfl ?_
        show Steps p.tables e below (T139.setTop (mkF m 141 #[.val (.int p0), .val (.int p1), .val (.int p2), .val (.int cp), .val (.int (2 : Int32)), .val (.int s1), .val (.ref b18), .val (.int (4 : Int32)), .val (.int b0), .val (.int (2 : Int32)), .unset, .val (.int b1), .unset] [(.int b0), (.int (128 : Int32))])) t
        refine XS.sipush X139.here hx rfl (hb hby at_141) ?_
        show Steps p.tables e below (T139.setTop (mkF m 144 #[.val (.int p0), .val (.int p1), .val (.int p2), .val (.int cp), .val (.int (2 : Int32)), .val (.int s1), .val (.ref b18), .val (.int (4 : Int32)), .val (.int b0), .val (.int (2 : Int32)), .unset, .val (.int b1), .unset] [(.int (128 : Int32)), (.int b0), (.int (128 : Int32))])) t
        refine XS.isub X139.here hx rfl (hb hby at_144) rfl ?_
        show Steps p.tables e below (T139.setTop (mkF m 145 #[.val (.int p0), .val (.int p1), .val (.int p2), .val (.int cp), .val (.int (2 : Int32)), .val (.int s1), .val (.ref b18), .val (.int (4 : Int32)), .val (.int b0), .val (.int (2 : Int32)), .unset, .val (.int b1), .unset] [(.int (b0 - (128 : Int32))), (.int (128 : Int32))])) t
        refine XS.sipush X139.here hx rfl (hb hby at_145) ?_
        show Steps p.tables e below (T139.setTop (mkF m 148 #[.val (.int p0), .val (.int p1), .val (.int p2), .val (.int cp), .val (.int (2 : Int32)), .val (.int s1), .val (.ref b18), .val (.int (4 : Int32)), .val (.int b0), .val (.int (2 : Int32)), .unset, .val (.int b1), .unset] [(.int (128 : Int32)), (.int (b0 - (128 : Int32))), (.int (128 : Int32))])) t
        refine XS.imul X139.here hx rfl (hb hby at_148) rfl ?_
        show Steps p.tables e below (T139.setTop (mkF m 149 #[.val (.int p0), .val (.int p1), .val (.int p2), .val (.int cp), .val (.int (2 : Int32)), .val (.int s1), .val (.ref b18), .val (.int (4 : Int32)), .val (.int b0), .val (.int (2 : Int32)), .unset, .val (.int b1), .unset] [(.int ((b0 - (128 : Int32)) * (128 : Int32))), (.int (128 : Int32))])) t
        refine XS.iadd X139.here hx rfl (hb hby at_149) rfl ?_
        show Steps p.tables e below (T139.setTop (mkF m 150 #[.val (.int p0), .val (.int p1), .val (.int p2), .val (.int cp), .val (.int (2 : Int32)), .val (.int s1), .val (.ref b18), .val (.int (4 : Int32)), .val (.int b0), .val (.int (2 : Int32)), .unset, .val (.int b1), .unset] [(.int ((128 : Int32) + ((b0 - (128 : Int32)) * (128 : Int32))))])) t
        refine XS.iload X139.here hx rfl (hb hby at_150) rfl ?_
        show Steps p.tables e below (T139.setTop (mkF m 152 #[.val (.int p0), .val (.int p1), .val (.int p2), .val (.int cp), .val (.int (2 : Int32)), .val (.int s1), .val (.ref b18), .val (.int (4 : Int32)), .val (.int b0), .val (.int (2 : Int32)), .unset, .val (.int b1), .unset] [(.int b1), (.int ((128 : Int32) + ((b0 - (128 : Int32)) * (128 : Int32))))])) t
        refine XS.iadd X139.here hx rfl (hb hby at_152) rfl ?_
        show Steps p.tables e below (T139.setTop (mkF m 153 #[.val (.int p0), .val (.int p1), .val (.int p2), .val (.int cp), .val (.int (2 : Int32)), .val (.int s1), .val (.ref b18), .val (.int (4 : Int32)), .val (.int b0), .val (.int (2 : Int32)), .unset, .val (.int b1), .unset] [(.int (((128 : Int32) + ((b0 - (128 : Int32)) * (128 : Int32))) + b1))])) t
        refine XS.istore X139.here hx rfl (hb hby at_153) rfl (l' := #[.val (.int p0), .val (.int p1), .val (.int p2), .val (.int cp), .val (.int (2 : Int32)), .val (.int s1), .val (.ref b18), .val (.int (4 : Int32)), .val (.int b0), .val (.int (2 : Int32)), .val (.int (((128 : Int32) + ((b0 - (128 : Int32)) * (128 : Int32))) + b1)), .val (.int b1), .unset]) rfl ?_
        show Steps p.tables e below (T139.setTop (mkF m 155 #[.val (.int p0), .val (.int p1), .val (.int p2), .val (.int cp), .val (.int (2 : Int32)), .val (.int s1), .val (.ref b18), .val (.int (4 : Int32)), .val (.int b0), .val (.int (2 : Int32)), .val (.int (((128 : Int32) + ((b0 - (128 : Int32)) * (128 : Int32))) + b1)), .val (.int b1), .unset] [])) t
        refine XS.goto X139.here hx rfl (pc0 := 155) (pc' := 214) rfl (hb hby at_155) (by decide) (by decide) ?_
        show Steps p.tables e below (T139.setTop (mkF m 214 #[.val (.int p0), .val (.int p1), .val (.int p2), .val (.int cp), .val (.int (2 : Int32)), .val (.int s1), .val (.ref b18), .val (.int (4 : Int32)), .val (.int b0), .val (.int (2 : Int32)), .val (.int (((128 : Int32) + ((b0 - (128 : Int32)) * (128 : Int32))) + b1)), .val (.int b1), .unset] [])) t
        refine XS.iload X139.here hx rfl (hb hby at_214) rfl ?_
        show Steps p.tables e below (T139.setTop (mkF m 216 #[.val (.int p0), .val (.int p1), .val (.int p2), .val (.int cp), .val (.int (2 : Int32)), .val (.int s1), .val (.ref b18), .val (.int (4 : Int32)), .val (.int b0), .val (.int (2 : Int32)), .val (.int (((128 : Int32) + ((b0 - (128 : Int32)) * (128 : Int32))) + b1)), .val (.int b1), .unset] [(.int (4 : Int32))])) t
        refine XS.iload X139.here hx rfl (hb hby at_216) rfl ?_
        show Steps p.tables e below (T139.setTop (mkF m 218 #[.val (.int p0), .val (.int p1), .val (.int p2), .val (.int cp), .val (.int (2 : Int32)), .val (.int s1), .val (.ref b18), .val (.int (4 : Int32)), .val (.int b0), .val (.int (2 : Int32)), .val (.int (((128 : Int32) + ((b0 - (128 : Int32)) * (128 : Int32))) + b1)), .val (.int b1), .unset] [(.int (2 : Int32)), (.int (4 : Int32))])) t
        refine XS.iload X139.here hx rfl (hb hby at_218) rfl ?_
        show Steps p.tables e below (T139.setTop (mkF m 220 #[.val (.int p0), .val (.int p1), .val (.int p2), .val (.int cp), .val (.int (2 : Int32)), .val (.int s1), .val (.ref b18), .val (.int (4 : Int32)), .val (.int b0), .val (.int (2 : Int32)), .val (.int (((128 : Int32) + ((b0 - (128 : Int32)) * (128 : Int32))) + b1)), .val (.int b1), .unset] [(.int (2 : Int32)), (.int (2 : Int32)), (.int (4 : Int32))])) t
        refine XS.iadd X139.here hx rfl (hb hby at_220) rfl ?_
        exact k
      have hc147 : (4 : Int32) = ((2 : Int32) + (2 : Int32)) := by decide
      refine OwnGo.of (A := T139.setTop (mkF m 221 #[.val (.int p0), .val (.int p1), .val (.int p2), .val (.int cp), .val (.int (2 : Int32)), .val (.int s1), .val (.ref b18), .val (.int (4 : Int32)), .val (.int b0), .val (.int (2 : Int32)), .val (.int (((128 : Int32) + ((b0 - (128 : Int32)) * (128 : Int32))) + b1)), .val (.int b1), .unset] [(.int ((2 : Int32) + (2 : Int32))), (.int (4 : Int32))])) (B := T139.setTop (mkF m 229 #[.val (.int p0), .val (.int p1), .val (.int p2), .val (.int cp), .val (.int (2 : Int32)), .val (.int s1), .val (.ref b18), .val (.int (4 : Int32)), .val (.int b0), .val (.int (2 : Int32)), .val (.int (((128 : Int32) + ((b0 - (128 : Int32)) * (128 : Int32))) + b1)), .val (.int b1), .unset] [(.int cp), (.int (((128 : Int32) + ((b0 - (128 : Int32)) * (128 : Int32))) + b1))])) (fun t k => ?_) ?_
      · show Steps p.tables e below (T139.setTop (mkF m 221 #[.val (.int p0), .val (.int p1), .val (.int p2), .val (.int cp), .val (.int (2 : Int32)), .val (.int s1), .val (.ref b18), .val (.int (4 : Int32)), .val (.int b0), .val (.int (2 : Int32)), .val (.int (((128 : Int32) + ((b0 - (128 : Int32)) * (128 : Int32))) + b1)), .val (.int b1), .unset] [(.int ((2 : Int32) + (2 : Int32))), (.int (4 : Int32))])) t
        refine XS.icmpYes X139.here hx rfl (pc0 := 221) (pc' := 226) rfl (hb hby at_221) rfl (teq hc147).1 (by decide) (by decide) ?_
        show Steps p.tables e below (T139.setTop (mkF m 226 #[.val (.int p0), .val (.int p1), .val (.int p2), .val (.int cp), .val (.int (2 : Int32)), .val (.int s1), .val (.ref b18), .val (.int (4 : Int32)), .val (.int b0), .val (.int (2 : Int32)), .val (.int (((128 : Int32) + ((b0 - (128 : Int32)) * (128 : Int32))) + b1)), .val (.int b1), .unset] [])) t
        refine XS.iload X139.here hx rfl (hb hby at_226) rfl ?_
        show Steps p.tables e below (T139.setTop (mkF m 228 #[.val (.int p0), .val (.int p1), .val (.int p2), .val (.int cp), .val (.int (2 : Int32)), .val (.int s1), .val (.ref b18), .val (.int (4 : Int32)), .val (.int b0), .val (.int (2 : Int32)), .val (.int (((128 : Int32) + ((b0 - (128 : Int32)) * (128 : Int32))) + b1)), .val (.int b1), .unset] [(.int (((128 : Int32) + ((b0 - (128 : Int32)) * (128 : Int32))) + b1))])) t
        refine XS.iloadN X139.here hx rfl (hb hby at_228) rfl ?_
        exact k
      have hc148 : (((128 : Int32) + ((b0 - (128 : Int32)) * (128 : Int32))) + b1) = cp := own_vB cp b0 b1 hcb tb0 tb1
      refine OwnGo.of (A := T139.setTop (mkF m 229 #[.val (.int p0), .val (.int p1), .val (.int p2), .val (.int cp), .val (.int (2 : Int32)), .val (.int s1), .val (.ref b18), .val (.int (4 : Int32)), .val (.int b0), .val (.int (2 : Int32)), .val (.int (((128 : Int32) + ((b0 - (128 : Int32)) * (128 : Int32))) + b1)), .val (.int b1), .unset] [(.int cp), (.int (((128 : Int32) + ((b0 - (128 : Int32)) * (128 : Int32))) + b1))])) (B := T139.setTop (mkF m 234 #[.val (.int p0), .val (.int p1), .val (.int p2), .val (.int cp), .val (.int (2 : Int32)), .val (.int s1), .val (.ref b18), .val (.int (4 : Int32)), .val (.int b0), .val (.int (2 : Int32)), .val (.int (((128 : Int32) + ((b0 - (128 : Int32)) * (128 : Int32))) + b1)), .val (.int b1), .unset] [])) (fun t k => ?_) ?_
      · show Steps p.tables e below (T139.setTop (mkF m 229 #[.val (.int p0), .val (.int p1), .val (.int p2), .val (.int cp), .val (.int (2 : Int32)), .val (.int s1), .val (.ref b18), .val (.int (4 : Int32)), .val (.int b0), .val (.int (2 : Int32)), .val (.int (((128 : Int32) + ((b0 - (128 : Int32)) * (128 : Int32))) + b1)), .val (.int b1), .unset] [(.int cp), (.int (((128 : Int32) + ((b0 - (128 : Int32)) * (128 : Int32))) + b1))])) t
        refine XS.icmpYes X139.here hx rfl (pc0 := 229) (pc' := 234) rfl (hb hby at_229) rfl (teq hc148).1 (by decide) (by decide) ?_
        exact k
      exact J234 T139 _ _ (.val (.int p0)) (.val (.int p1)) (.val (.int p2)) (.val (.int cp)) (.val (.int b0)) (.val (.int (2 : Int32))) (.val (.int (((128 : Int32) + ((b0 - (128 : Int32)) * (128 : Int32))) + b1))) (.val (.int b1)) (.unset) (2 : Int32) s1 (4 : Int32) b18 ((s1).toInt8.toInt32) ((s1).toInt8.toInt32) (((((128 : Int32) ||| (((cp - ((128 : Int64).toInt32)).toUInt32 >>> ((7 : Int32) &&& 31).toUInt32).toInt32)).toInt8.toInt32)).toInt8.toInt32) (((((cp - ((128 : Int64).toInt32)) &&& (127 : Int32)).toInt8.toInt32)).toInt8.toInt32) ((s1).toInt8.toInt32) ((s1).toInt8.toInt32) ((s1).toInt8.toInt32) ((s1).toInt8.toInt32) k18 X139 rfl N139 f140 y139_0 (by simp [own_k0, hs]) (by simp [own_k1, hs]) (by simp [own_k2, hs]) (by simp [own_k3, hs]) (by simp [own_k4, hs]) (by simp [own_k5, hs]) (by simp [own_k6, hs]) (by simp [own_k7, hs])
    · show OwnGo p.tables e below _ (T66.setTop (mkF m 78 #[.val (.int p0), .val (.int p1), .val (.int p2), .val (.int cp), .val (.int (2 : Int32)), .val (.int s1), .val (.ref b18), .unset, .unset, .unset, .unset, .unset, .unset] [(.int (2 : Int32)), (.ref b18), (.int cp)]))
      obtain ⟨_, _, ⟨T149, L149, k149, n149⟩, -, X149, ⟨Lc149, hQ149, l149, y149, z149⟩, st149⟩ := Jvm.LawKit.callS X66 hx (y := (⟨"com/example/sevenfold/sevenfold/Natural", "writeCodePoint", "(I[BI)I"⟩ : MethodName)) hown (mvT hZ (hw _ (List.mem_of_getElem? (i := 3) rfl))) (mvT hZ (hw _ (List.mem_of_getElem? (i := 4) rfl))) (mvT hZ (hw _ (List.mem_of_getElem? (i := 5) rfl))) (mvT hZ (hw _ (List.mem_of_getElem? (i := 6) rfl))) (by decide) (backOf (W := 0) (rm1_2C l Z aw hw [] cp b18 (s1).toInt8.toInt32 (s1).toInt8.toInt32 (s1).toInt8.toInt32 (s1).toInt8.toInt32 (s1).toInt8.toInt32 (s1).toInt8.toInt32 (s1).toInt8.toInt32 (s1).toInt8.toInt32 k18 wF kf h66 n0 f67 f68 f69 f70 g_b18 ne_wF_b18 hA hB) hZ (hw _ (List.mem_of_getElem? (i := 6) rfl)) (hw _ (List.mem_of_getElem? (i := 5) rfl)) (by decide) (by decide)) (g := (mkF m 78 #[.val (.int p0), .val (.int p1), .val (.int p2), .val (.int cp), .val (.int (2 : Int32)), .val (.int s1), .val (.ref b18), .unset, .unset, .unset, .unset, .unset, .unset] [(.int (2 : Int32)), (.ref b18), (.int cp)])) rfl (by rw [hml]; rfl) (argsL := [(.int cp), (.ref b18), (.int (2 : Int32))]) (rest := []) (lenOf pd_3 rfl) rfl (by show 2 * 0 + _ ≤ _; exact Nat.le_of_eq rfl) (hb hby at_78) (fun _ _ => ⟨rfl, e66, (by decide : 1 + 0 ≤ _), (by decide : 8 + 0 ≤ _)⟩)
      dsimp only [Pt.U, Pt.locs, Pt.cells, Pt.slots] at X149 l149 y149 z149 st149 hQ149
      subst l149 y149 z149
      obtain ⟨rfl, N149q, K149, y149_0⟩ := hQ149
      have f150 : n0 ≤ T149.heap.size := Nat.le_trans f67 K149.1
      have f151 : Sta Z T149.heap "com/example/sevenfold/sevenfold/Natural" "FIRST_OF_LENGTH" "[J" (.ref wF) := own_sta_keep f68 K149 (allS (own_ns_arv f70) all0)
      have f152 : Arv Z T149.heap wF kf .long (10 : Int32) [(.long (0 : Int64)), (.long (0 : Int64)), (.long (128 : Int64)), (.long (16512 : Int64)), (.long (2113664 : Int64)), (.long (270549120 : Int64)), (.long (34630287488 : Int64)), (.long (4432676798592 : Int64)), (.long (567382630219904 : Int64)), (.long (72624976668147840 : Int64))] (.long (0 : Int64)) := f69.keep K149 (ninS ne_wF_b18 nin0)
      have N149 := Fr.app N66 N149q
      refine OwnGo.of st149 ?_
      show OwnGo p.tables e below _ (T149.setTop (mkF m 81 #[.val (.int p0), .val (.int p1), .val (.int p2), .val (.int cp), .val (.int (2 : Int32)), .val (.int s1), .val (.ref b18), .unset, .unset, .unset, .unset, .unset, .unset] [(.int (5 : Int32))]))
      refine OwnGo.of (A := T149.setTop (mkF m 81 #[.val (.int p0), .val (.int p1), .val (.int p2), .val (.int cp), .val (.int (2 : Int32)), .val (.int s1), .val (.ref b18), .unset, .unset, .unset, .unset, .unset, .unset] [(.int (5 : Int32))])) (B := T149.setTop (mkF m 87 #[.val (.int p0), .val (.int p1), .val (.int p2), .val (.int cp), .val (.int (2 : Int32)), .val (.int s1), .val (.ref b18), .val (.int (5 : Int32)), .unset, .unset, .unset, .unset, .unset] [(.int (2 : Int32)), (.ref b18)])) (fun t k => ?_) ?_
      · show Steps p.tables e below (T149.setTop (mkF m 81 #[.val (.int p0), .val (.int p1), .val (.int p2), .val (.int cp), .val (.int (2 : Int32)), .val (.int s1), .val (.ref b18), .unset, .unset, .unset, .unset, .unset, .unset] [(.int (5 : Int32))])) t
        refine XS.istore X149.here hx rfl (hb hby at_81) rfl (l' := #[.val (.int p0), .val (.int p1), .val (.int p2), .val (.int cp), .val (.int (2 : Int32)), .val (.int s1), .val (.ref b18), .val (.int (5 : Int32)), .unset, .unset, .unset, .unset, .unset]) rfl ?_
        show Steps p.tables e below (T149.setTop (mkF m 83 #[.val (.int p0), .val (.int p1), .val (.int p2), .val (.int cp), .val (.int (2 : Int32)), .val (.int s1), .val (.ref b18), .val (.int (5 : Int32)), .unset, .unset, .unset, .unset, .unset] [])) t
        refine XS.aload X149.here hx rfl (hb hby at_83) rfl rfl ?_
        show Steps p.tables e below (T149.setTop (mkF m 85 #[.val (.int p0), .val (.int p1), .val (.int p2), .val (.int cp), .val (.int (2 : Int32)), .val (.int s1), .val (.ref b18), .val (.int (5 : Int32)), .unset, .unset, .unset, .unset, .unset] [(.ref b18)])) t
        refine XS.iload X149.here hx rfl (hb hby at_85) rfl ?_
        exact k
      have cq153 := y149_0
      obtain ⟨clq153, Arq153, qq153, Sq153, Nq153, Hq153, Gq153⟩ := cq153
      have hinq153 := inb_of (j := (2 : Int32)) Sq153 ⟨by decide, by decide⟩
      refine OwnGo.of (X149.baloadBytes hx (j := (2 : Int32)) (v := (.int ((((128 : Int32) ||| (((cp - ((16512 : Int64).toInt32)).toUInt32 >>> ((14 : Int32) &&& 31).toUInt32).toInt32)).toInt8.toInt32)).toInt8.toInt32)) Arq153.1 (State.isArrayOf_alike hZ.alike Arq153.2.1) Arq153.2.2 hinq153 (Hq153.at hinq153 rfl) (g := (mkF m 87 #[.val (.int p0), .val (.int p1), .val (.int p2), .val (.int cp), .val (.int (2 : Int32)), .val (.int s1), .val (.ref b18), .val (.int (5 : Int32)), .unset, .unset, .unset, .unset, .unset] [(.int (2 : Int32)), (.ref b18)])) rfl rfl (hb hby at_87)) ?_
      show OwnGo p.tables e below _ (T149.setTop (mkF m 88 #[.val (.int p0), .val (.int p1), .val (.int p2), .val (.int cp), .val (.int (2 : Int32)), .val (.int s1), .val (.ref b18), .val (.int (5 : Int32)), .unset, .unset, .unset, .unset, .unset] [(.int ((((128 : Int32) ||| (((cp - ((16512 : Int64).toInt32)).toUInt32 >>> ((14 : Int32) &&& 31).toUInt32).toInt32)).toInt8.toInt32)).toInt8.toInt32)]))
      refine OwnGo.of (A := T149.setTop (mkF m 88 #[.val (.int p0), .val (.int p1), .val (.int p2), .val (.int cp), .val (.int (2 : Int32)), .val (.int s1), .val (.ref b18), .val (.int (5 : Int32)), .unset, .unset, .unset, .unset, .unset] [(.int ((((128 : Int32) ||| (((cp - ((16512 : Int64).toInt32)).toUInt32 >>> ((14 : Int32) &&& 31).toUInt32).toInt32)).toInt8.toInt32)).toInt8.toInt32)])) (B := T149.setTop (mkF m 94 #[.val (.int p0), .val (.int p1), .val (.int p2), .val (.int cp), .val (.int (2 : Int32)), .val (.int s1), .val (.ref b18), .val (.int (5 : Int32)), .val (.int (((((128 : Int32) ||| (((cp - ((16512 : Int64).toInt32)).toUInt32 >>> ((14 : Int32) &&& 31).toUInt32).toInt32)).toInt8.toInt32)).toInt8.toInt32 &&& (255 : Int32))), .unset, .unset, .unset, .unset] [])) (fun t k => ?_) ?_
      · show Steps p.tables e below (T149.setTop (mkF m 88 #[.val (.int p0), .val (.int p1), .val (.int p2), .val (.int cp), .val (.int (2 : Int32)), .val (.int s1), .val (.ref b18), .val (.int (5 : Int32)), .unset, .unset, .unset, .unset, .unset] [(.int ((((128 : Int32) ||| (((cp - ((16512 : Int64).toInt32)).toUInt32 >>> ((14 : Int32) &&& 31).toUInt32).toInt32)).toInt8.toInt32)).toInt8.toInt32)])) t
        refine XS.sipush X149.here hx rfl (hb hby at_88) ?_
        show Steps p.tables e below (T149.setTop (mkF m 91 #[.val (.int p0), .val (.int p1), .val (.int p2), .val (.int cp), .val (.int (2 : Int32)), .val (.int s1), .val (.ref b18), .val (.int (5 : Int32)), .unset, .unset, .unset, .unset, .unset] [(.int (255 : Int32)), (.int ((((128 : Int32) ||| (((cp - ((16512 : Int64).toInt32)).toUInt32 >>> ((14 : Int32) &&& 31).toUInt32).toInt32)).toInt8.toInt32)).toInt8.toInt32)])) t
        refine XS.iand X149.here hx rfl (hb hby at_91) rfl ?_
        show Steps p.tables e below (T149.setTop (mkF m 92 #[.val (.int p0), .val (.int p1), .val (.int p2), .val (.int cp), .val (.int (2 : Int32)), .val (.int s1), .val (.ref b18), .val (.int (5 : Int32)), .unset, .unset, .unset, .unset, .unset] [(.int (((((128 : Int32) ||| (((cp - ((16512 : Int64).toInt32)).toUInt32 >>> ((14 : Int32) &&& 31).toUInt32).toInt32)).toInt8.toInt32)).toInt8.toInt32 &&& (255 : Int32)))])) t
        refine XS.istore X149.here hx rfl (hb hby at_92) rfl (l' := #[.val (.int p0), .val (.int p1), .val (.int p2), .val (.int cp), .val (.int (2 : Int32)), .val (.int s1), .val (.ref b18), .val (.int (5 : Int32)), .val (.int (((((128 : Int32) ||| (((cp - ((16512 : Int64).toInt32)).toUInt32 >>> ((14 : Int32) &&& 31).toUInt32).toInt32)).toInt8.toInt32)).toInt8.toInt32 &&& (255 : Int32))), .unset, .unset, .unset, .unset]) rfl ?_
        exact k
      obtain ⟨b0, hb0⟩ : ∃ z, z = (((((128 : Int32) ||| (((cp - ((16512 : Int64).toInt32)).toUInt32 >>> ((14 : Int32) &&& 31).toUInt32).toInt32)).toInt8.toInt32)).toInt8.toInt32 &&& (255 : Int32)) := ⟨_, rfl⟩
      have tb0 : b0.toInt = 128 + (cp.toInt - 16512) / 16384 := by subst hb0; exact own_C0 cp hcb hB
      rw [← hb0]
      show OwnGo p.tables e below _ (T149.setTop (mkF m 94 #[.val (.int p0), .val (.int p1), .val (.int p2), .val (.int cp), .val (.int (2 : Int32)), .val (.int s1), .val (.ref b18), .val (.int (5 : Int32)), .val (.int b0), .unset, .unset, .unset, .unset] []))
      refine OwnGo.of (A := T149.setTop (mkF m 94 #[.val (.int p0), .val (.int p1), .val (.int p2), .val (.int cp), .val (.int (2 : Int32)), .val (.int s1), .val (.ref b18), .val (.int (5 : Int32)), .val (.int b0), .unset, .unset, .unset, .unset] [])) (B := T149.setTop (mkF m 99 #[.val (.int p0), .val (.int p1), .val (.int p2), .val (.int cp), .val (.int (2 : Int32)), .val (.int s1), .val (.ref b18), .val (.int (5 : Int32)), .val (.int b0), .unset, .unset, .unset, .unset] [(.int (128 : Int32)), (.int b0)])) (fun t k => ?_) ?_
      · show Steps p.tables e below (T149.setTop (mkF m 94 #[.val (.int p0), .val (.int p1), .val (.int p2), .val (.int cp), .val (.int (2 : Int32)), .val (.int s1), .val (.ref b18), .val (.int (5 : Int32)), .val (.int b0), .unset, .unset, .unset, .unset] [])) t
        refine XS.iload X149.here hx rfl (hb hby at_94) rfl ?_
        show Steps p.tables e below (T149.setTop (mkF m 96 #[.val (.int p0), .val (.int p1), .val (.int p2), .val (.int cp), .val (.int (2 : Int32)), .val (.int s1), .val (.ref b18), .val (.int (5 : Int32)), .val (.int b0), .unset, .unset, .unset, .unset] [(.int b0)])) t
        refine XS.sipush X149.here hx rfl (hb hby at_96) ?_
        exact k
      have hc154 : ¬ (b0 < (128 : Int32)) := by rw [own_lt128]; rw [own_127] at hA; rw [own_l16] at hB; omega
      refine OwnGo.of (A := T149.setTop (mkF m 99 #[.val (.int p0), .val (.int p1), .val (.int p2), .val (.int cp), .val (.int (2 : Int32)), .val (.int s1), .val (.ref b18), .val (.int (5 : Int32)), .val (.int b0), .unset, .unset, .unset, .unset] [(.int (128 : Int32)), (.int b0)])) (B := T149.setTop (mkF m 118 #[.val (.int p0), .val (.int p1), .val (.int p2), .val (.int cp), .val (.int (2 : Int32)), .val (.int s1), .val (.ref b18), .val (.int (5 : Int32)), .val (.int b0), .unset, .unset, .unset, .unset] [(.int ((2 : Int32) + (1 : Int32))), (.ref b18)])) (fun t k => ?_) ?_
      · show Steps p.tables e below (T149.setTop (mkF m 99 #[.val (.int p0), .val (.int p1), .val (.int p2), .val (.int cp), .val (.int (2 : Int32)), .val (.int s1), .val (.ref b18), .val (.int (5 : Int32)), .val (.int b0), .unset, .unset, .unset, .unset] [(.int (128 : Int32)), (.int b0)])) t
        refine XS.icmpYes X149.here hx rfl (pc0 := 99) (pc' := 112) rfl (hb hby at_99) rfl (flt hc154).2.1 (by decide) (by decide) ?_
        show Steps p.tables e below (T149.setTop (mkF m 112 #[.val (.int p0), .val (.int p1), .val (.int p2), .val (.int cp), .val (.int (2 : Int32)), .val (.int s1), .val (.ref b18), .val (.int (5 : Int32)), .val (.int b0), .unset, .unset, .unset, .unset] [])) t
        refine XS.aload X149.here hx rfl (hb hby at_112) rfl rfl ?_
        show Steps p.tables e below (T149.setTop (mkF m 114 #[.val (.int p0), .val (.int p1), .val (.int p2), .val (.int cp), .val (.int (2 : Int32)), .val (.int s1), .val (.ref b18), .val (.int (5 : Int32)), .val (.int b0), .unset, .unset, .unset, .unset] [(.ref b18)])) t
        refine XS.iload X149.here hx rfl (hb hby at_114) rfl ?_
        show Steps p.tables e below (T149.setTop (mkF m 116 #[.val (.int p0), .val (.int p1), .val (.int p2), .val (.int cp), .val (.int (2 : Int32)), .val (.int s1), .val (.ref b18), .val (.int (5 : Int32)), .val (.int b0), .unset, .unset, .unset, .unset] [(.int (2 : Int32)), (.ref b18)])) t
        refine XS.iconst X149.here hx rfl (hb hby at_116) ?_
        show Steps p.tables e below (T149.setTop (mkF m 117 #[.val (.int p0), .val (.int p1), .val (.int p2), .val (.int cp), .val (.int (2 : Int32)), .val (.int s1), .val (.ref b18), .val (.int (5 : Int32)), .val (.int b0), .unset, .unset, .unset, .unset] [(.int (1 : Int32)), (.int (2 : Int32)), (.ref b18)])) t
        refine XS.iadd X149.here hx rfl (hb hby at_117) rfl ?_
        exact k
      rw [show ((2 : Int32) + (1 : Int32)) = (3 : Int32) from by decide]
      show OwnGo p.tables e below _ (T149.setTop (mkF m 118 #[.val (.int p0), .val (.int p1), .val (.int p2), .val (.int cp), .val (.int (2 : Int32)), .val (.int s1), .val (.ref b18), .val (.int (5 : Int32)), .val (.int b0), .unset, .unset, .unset, .unset] [(.int (3 : Int32)), (.ref b18)]))
      have cq155 := y149_0
      obtain ⟨clq155, Arq155, qq155, Sq155, Nq155, Hq155, Gq155⟩ := cq155
      have hinq155 := inb_of (j := (3 : Int32)) Sq155 ⟨by decide, by decide⟩
      refine OwnGo.of (X149.baloadBytes hx (j := (3 : Int32)) (v := (.int ((((128 : Int32) ||| ((((cp - ((16512 : Int64).toInt32)).toUInt32 >>> ((7 : Int32) &&& 31).toUInt32).toInt32) &&& (127 : Int32))).toInt8.toInt32)).toInt8.toInt32)) Arq155.1 (State.isArrayOf_alike hZ.alike Arq155.2.1) Arq155.2.2 hinq155 (Hq155.at hinq155 rfl) (g := (mkF m 118 #[.val (.int p0), .val (.int p1), .val (.int p2), .val (.int cp), .val (.int (2 : Int32)), .val (.int s1), .val (.ref b18), .val (.int (5 : Int32)), .val (.int b0), .unset, .unset, .unset, .unset] [(.int (3 : Int32)), (.ref b18)])) rfl rfl (hb hby at_118)) ?_
      show OwnGo p.tables e below _ (T149.setTop (mkF m 119 #[.val (.int p0), .val (.int p1), .val (.int p2), .val (.int cp), .val (.int (2 : Int32)), .val (.int s1), .val (.ref b18), .val (.int (5 : Int32)), .val (.int b0), .unset, .unset, .unset, .unset] [(.int ((((128 : Int32) ||| ((((cp - ((16512 : Int64).toInt32)).toUInt32 >>> ((7 : Int32) &&& 31).toUInt32).toInt32) &&& (127 : Int32))).toInt8.toInt32)).toInt8.toInt32)]))
      refine OwnGo.of (A := T149.setTop (mkF m 119 #[.val (.int p0), .val (.int p1), .val (.int p2), .val (.int cp), .val (.int (2 : Int32)), .val (.int s1), .val (.ref b18), .val (.int (5 : Int32)), .val (.int b0), .unset, .unset, .unset, .unset] [(.int ((((128 : Int32) ||| ((((cp - ((16512 : Int64).toInt32)).toUInt32 >>> ((7 : Int32) &&& 31).toUInt32).toInt32) &&& (127 : Int32))).toInt8.toInt32)).toInt8.toInt32)])) (B := T149.setTop (mkF m 125 #[.val (.int p0), .val (.int p1), .val (.int p2), .val (.int cp), .val (.int (2 : Int32)), .val (.int s1), .val (.ref b18), .val (.int (5 : Int32)), .val (.int b0), .unset, .unset, .val (.int (((((128 : Int32) ||| ((((cp - ((16512 : Int64).toInt32)).toUInt32 >>> ((7 : Int32) &&& 31).toUInt32).toInt32) &&& (127 : Int32))).toInt8.toInt32)).toInt8.toInt32 &&& (255 : Int32))), .unset] [])) (fun t k => ?_) ?_
      · show Steps p.tables e below (T149.setTop (mkF m 119 #[.val (.int p0), .val (.int p1), .val (.int p2), .val (.int cp), .val (.int (2 : Int32)), .val (.int s1), .val (.ref b18), .val (.int (5 : Int32)), .val (.int b0), .unset, .unset, .unset, .unset] [(.int ((((128 : Int32) ||| ((((cp - ((16512 : Int64).toInt32)).toUInt32 >>> ((7 : Int32) &&& 31).toUInt32).toInt32) &&& (127 : Int32))).toInt8.toInt32)).toInt8.toInt32)])) t
        refine XS.sipush X149.here hx rfl (hb hby at_119) ?_
        show Steps p.tables e below (T149.setTop (mkF m 122 #[.val (.int p0), .val (.int p1), .val (.int p2), .val (.int cp), .val (.int (2 : Int32)), .val (.int s1), .val (.ref b18), .val (.int (5 : Int32)), .val (.int b0), .unset, .unset, .unset, .unset] [(.int (255 : Int32)), (.int ((((128 : Int32) ||| ((((cp - ((16512 : Int64).toInt32)).toUInt32 >>> ((7 : Int32) &&& 31).toUInt32).toInt32) &&& (127 : Int32))).toInt8.toInt32)).toInt8.toInt32)])) t
        refine XS.iand X149.here hx rfl (hb hby at_122) rfl ?_
        show Steps p.tables e below (T149.setTop (mkF m 123 #[.val (.int p0), .val (.int p1), .val (.int p2), .val (.int cp), .val (.int (2 : Int32)), .val (.int s1), .val (.ref b18), .val (.int (5 : Int32)), .val (.int b0), .unset, .unset, .unset, .unset] [(.int (((((128 : Int32) ||| ((((cp - ((16512 : Int64).toInt32)).toUInt32 >>> ((7 : Int32) &&& 31).toUInt32).toInt32) &&& (127 : Int32))).toInt8.toInt32)).toInt8.toInt32 &&& (255 : Int32)))])) t
        refine XS.istore X149.here hx rfl (hb hby at_123) rfl (l' := #[.val (.int p0), .val (.int p1), .val (.int p2), .val (.int cp), .val (.int (2 : Int32)), .val (.int s1), .val (.ref b18), .val (.int (5 : Int32)), .val (.int b0), .unset, .unset, .val (.int (((((128 : Int32) ||| ((((cp - ((16512 : Int64).toInt32)).toUInt32 >>> ((7 : Int32) &&& 31).toUInt32).toInt32) &&& (127 : Int32))).toInt8.toInt32)).toInt8.toInt32 &&& (255 : Int32))), .unset]) rfl ?_
        exact k
      obtain ⟨b1, hb1⟩ : ∃ z, z = (((((128 : Int32) ||| ((((cp - ((16512 : Int64).toInt32)).toUInt32 >>> ((7 : Int32) &&& 31).toUInt32).toInt32) &&& (127 : Int32))).toInt8.toInt32)).toInt8.toInt32 &&& (255 : Int32)) := ⟨_, rfl⟩
      have tb1 : b1.toInt = 128 + (cp.toInt - 16512) / 128 % 128 := by subst hb1; exact own_C1 cp hcb hB
      rw [← hb1]
      show OwnGo p.tables e below _ (T149.setTop (mkF m 125 #[.val (.int p0), .val (.int p1), .val (.int p2), .val (.int cp), .val (.int (2 : Int32)), .val (.int s1), .val (.ref b18), .val (.int (5 : Int32)), .val (.int b0), .unset, .unset, .val (.int b1), .unset] []))
      refine OwnGo.of (A := T149.setTop (mkF m 125 #[.val (.int p0), .val (.int p1), .val (.int p2), .val (.int cp), .val (.int (2 : Int32)), .val (.int s1), .val (.ref b18), .val (.int (5 : Int32)), .val (.int b0), .unset, .unset, .val (.int b1), .unset] [])) (B := T149.setTop (mkF m 130 #[.val (.int p0), .val (.int p1), .val (.int p2), .val (.int cp), .val (.int (2 : Int32)), .val (.int s1), .val (.ref b18), .val (.int (5 : Int32)), .val (.int b0), .unset, .unset, .val (.int b1), .unset] [(.int (128 : Int32)), (.int b1)])) (fun t k => ?_) ?_
      · show Steps p.tables e below (T149.setTop (mkF m 125 #[.val (.int p0), .val (.int p1), .val (.int p2), .val (.int cp), .val (.int (2 : Int32)), .val (.int s1), .val (.ref b18), .val (.int (5 : Int32)), .val (.int b0), .unset, .unset, .val (.int b1), .unset] [])) t
        refine XS.iload X149.here hx rfl (hb hby at_125) rfl ?_
        show Steps p.tables e below (T149.setTop (mkF m 127 #[.val (.int p0), .val (.int p1), .val (.int p2), .val (.int cp), .val (.int (2 : Int32)), .val (.int s1), .val (.ref b18), .val (.int (5 : Int32)), .val (.int b0), .unset, .unset, .val (.int b1), .unset] [(.int b1)])) t
        refine XS.sipush X149.here hx rfl (hb hby at_127) ?_
        exact k
      have hc156 : ¬ (b1 < (128 : Int32)) := by rw [own_lt128]; rw [own_127] at hA; rw [own_l16] at hB; omega
      refine OwnGo.of (A := T149.setTop (mkF m 130 #[.val (.int p0), .val (.int p1), .val (.int p2), .val (.int cp), .val (.int (2 : Int32)), .val (.int s1), .val (.ref b18), .val (.int (5 : Int32)), .val (.int b0), .unset, .unset, .val (.int b1), .unset] [(.int (128 : Int32)), (.int b1)])) (B := T149.setTop (mkF m 164 #[.val (.int p0), .val (.int p1), .val (.int p2), .val (.int cp), .val (.int (2 : Int32)), .val (.int s1), .val (.ref b18), .val (.int (5 : Int32)), .val (.int b0), .unset, .unset, .val (.int b1), .unset] [(.int ((2 : Int32) + (2 : Int32))), (.ref b18)])) (fun t k => ?_) ?_
      · show Steps p.tables e below (T149.setTop (mkF m 130 #[.val (.int p0), .val (.int p1), .val (.int p2), .val (.int cp), .val (.int (2 : Int32)), .val (.int s1), .val (.ref b18), .val (.int (5 : Int32)), .val (.int b0), .unset, .unset, .val (.int b1), .unset] [(.int (128 : Int32)), (.int b1)])) t
        refine XS.icmpYes X149.here hx rfl (pc0 := 130) (pc' := 158) rfl (hb hby at_130) rfl (flt hc156).2.1 (by decide) (by decide) ?_
        show Steps p.tables e below (T149.setTop (mkF m 158 #[.val (.int p0), .val (.int p1), .val (.int p2), .val (.int cp), .val (.int (2 : Int32)), .val (.int s1), .val (.ref b18), .val (.int (5 : Int32)), .val (.int b0), .unset, .unset, .val (.int b1), .unset] [])) t
        refine XS.aload X149.here hx rfl (hb hby at_158) rfl rfl ?_
        show Steps p.tables e below (T149.setTop (mkF m 160 #[.val (.int p0), .val (.int p1), .val (.int p2), .val (.int cp), .val (.int (2 : Int32)), .val (.int s1), .val (.ref b18), .val (.int (5 : Int32)), .val (.int b0), .unset, .unset, .val (.int b1), .unset] [(.ref b18)])) t
        refine XS.iload X149.here hx rfl (hb hby at_160) rfl ?_
        show Steps p.tables e below (T149.setTop (mkF m 162 #[.val (.int p0), .val (.int p1), .val (.int p2), .val (.int cp), .val (.int (2 : Int32)), .val (.int s1), .val (.ref b18), .val (.int (5 : Int32)), .val (.int b0), .unset, .unset, .val (.int b1), .unset] [(.int (2 : Int32)), (.ref b18)])) t
        refine XS.iconst X149.here hx rfl (hb hby at_162) ?_
        show Steps p.tables e below (T149.setTop (mkF m 163 #[.val (.int p0), .val (.int p1), .val (.int p2), .val (.int cp), .val (.int (2 : Int32)), .val (.int s1), .val (.ref b18), .val (.int (5 : Int32)), .val (.int b0), .unset, .unset, .val (.int b1), .unset] [(.int (2 : Int32)), (.int (2 : Int32)), (.ref b18)])) t
        refine XS.iadd X149.here hx rfl (hb hby at_163) rfl ?_
        exact k
      rw [show ((2 : Int32) + (2 : Int32)) = (4 : Int32) from by decide]
      show OwnGo p.tables e below _ (T149.setTop (mkF m 164 #[.val (.int p0), .val (.int p1), .val (.int p2), .val (.int cp), .val (.int (2 : Int32)), .val (.int s1), .val (.ref b18), .val (.int (5 : Int32)), .val (.int b0), .unset, .unset, .val (.int b1), .unset] [(.int (4 : Int32)), (.ref b18)]))
      have cq157 := y149_0
      obtain ⟨clq157, Arq157, qq157, Sq157, Nq157, Hq157, Gq157⟩ := cq157
      have hinq157 := inb_of (j := (4 : Int32)) Sq157 ⟨by decide, by decide⟩
      refine OwnGo.of (X149.baloadBytes hx (j := (4 : Int32)) (v := (.int ((((cp - ((16512 : Int64).toInt32)) &&& (127 : Int32)).toInt8.toInt32)).toInt8.toInt32)) Arq157.1 (State.isArrayOf_alike hZ.alike Arq157.2.1) Arq157.2.2 hinq157 (Hq157.at hinq157 rfl) (g := (mkF m 164 #[.val (.int p0), .val (.int p1), .val (.int p2), .val (.int cp), .val (.int (2 : Int32)), .val (.int s1), .val (.ref b18), .val (.int (5 : Int32)), .val (.int b0), .unset, .unset, .val (.int b1), .unset] [(.int (4 : Int32)), (.ref b18)])) rfl rfl (hb hby at_164)) ?_
      show OwnGo p.tables e below _ (T149.setTop (mkF m 165 #[.val (.int p0), .val (.int p1), .val (.int p2), .val (.int cp), .val (.int (2 : Int32)), .val (.int s1), .val (.ref b18), .val (.int (5 : Int32)), .val (.int b0), .unset, .unset, .val (.int b1), .unset] [(.int ((((cp - ((16512 : Int64).toInt32)) &&& (127 : Int32)).toInt8.toInt32)).toInt8.toInt32)]))
      refine OwnGo.of (A := T149.setTop (mkF m 165 #[.val (.int p0), .val (.int p1), .val (.int p2), .val (.int cp), .val (.int (2 : Int32)), .val (.int s1), .val (.ref b18), .val (.int (5 : Int32)), .val (.int b0), .unset, .unset, .val (.int b1), .unset] [(.int ((((cp - ((16512 : Int64).toInt32)) &&& (127 : Int32)).toInt8.toInt32)).toInt8.toInt32)])) (B := T149.setTop (mkF m 171 #[.val (.int p0), .val (.int p1), .val (.int p2), .val (.int cp), .val (.int (2 : Int32)), .val (.int s1), .val (.ref b18), .val (.int (5 : Int32)), .val (.int b0), .unset, .unset, .val (.int b1), .val (.int (((((cp - ((16512 : Int64).toInt32)) &&& (127 : Int32)).toInt8.toInt32)).toInt8.toInt32 &&& (255 : Int32)))] [])) (fun t k => ?_) ?_
      · show Steps p.tables e below (T149.setTop (mkF m 165 #[.val (.int p0), .val (.int p1), .val (.int p2), .val (.int cp), .val (.int (2 : Int32)), .val (.int s1), .val (.ref b18), .val (.int (5 : Int32)), .val (.int b0), .unset, .unset, .val (.int b1), .unset] [(.int ((((cp - ((16512 : Int64).toInt32)) &&& (127 : Int32)).toInt8.toInt32)).toInt8.toInt32)])) t
        refine XS.sipush X149.here hx rfl (hb hby at_165) ?_
        show Steps p.tables e below (T149.setTop (mkF m 168 #[.val (.int p0), .val (.int p1), .val (.int p2), .val (.int cp), .val (.int (2 : Int32)), .val (.int s1), .val (.ref b18), .val (.int (5 : Int32)), .val (.int b0), .unset, .unset, .val (.int b1), .unset] [(.int (255 : Int32)), (.int ((((cp - ((16512 : Int64).toInt32)) &&& (127 : Int32)).toInt8.toInt32)).toInt8.toInt32)])) t
        refine XS.iand X149.here hx rfl (hb hby at_168) rfl ?_
        show Steps p.tables e below (T149.setTop (mkF m 169 #[.val (.int p0), .val (.int p1), .val (.int p2), .val (.int cp), .val (.int (2 : Int32)), .val (.int s1), .val (.ref b18), .val (.int (5 : Int32)), .val (.int b0), .unset, .unset, .val (.int b1), .unset] [(.int (((((cp - ((16512 : Int64).toInt32)) &&& (127 : Int32)).toInt8.toInt32)).toInt8.toInt32 &&& (255 : Int32)))])) t
        refine XS.istore X149.here hx rfl (hb hby at_169) rfl (l' := #[.val (.int p0), .val (.int p1), .val (.int p2), .val (.int cp), .val (.int (2 : Int32)), .val (.int s1), .val (.ref b18), .val (.int (5 : Int32)), .val (.int b0), .unset, .unset, .val (.int b1), .val (.int (((((cp - ((16512 : Int64).toInt32)) &&& (127 : Int32)).toInt8.toInt32)).toInt8.toInt32 &&& (255 : Int32)))]) rfl ?_
        exact k
      obtain ⟨b2, hb2⟩ : ∃ z, z = (((((cp - ((16512 : Int64).toInt32)) &&& (127 : Int32)).toInt8.toInt32)).toInt8.toInt32 &&& (255 : Int32)) := ⟨_, rfl⟩
      have tb2 : b2.toInt = (cp.toInt - 16512) % 128 := by subst hb2; exact own_C2 cp hcb hB
      rw [← hb2]
      show OwnGo p.tables e below _ (T149.setTop (mkF m 171 #[.val (.int p0), .val (.int p1), .val (.int p2), .val (.int cp), .val (.int (2 : Int32)), .val (.int s1), .val (.ref b18), .val (.int (5 : Int32)), .val (.int b0), .unset, .unset, .val (.int b1), .val (.int b2)] []))
      refine OwnGo.of (A := T149.setTop (mkF m 171 #[.val (.int p0), .val (.int p1), .val (.int p2), .val (.int cp), .val (.int (2 : Int32)), .val (.int s1), .val (.ref b18), .val (.int (5 : Int32)), .val (.int b0), .unset, .unset, .val (.int b1), .val (.int b2)] [])) (B := T149.setTop (mkF m 176 #[.val (.int p0), .val (.int p1), .val (.int p2), .val (.int cp), .val (.int (2 : Int32)), .val (.int s1), .val (.ref b18), .val (.int (5 : Int32)), .val (.int b0), .unset, .unset, .val (.int b1), .val (.int b2)] [(.int (128 : Int32)), (.int b2)])) (fun t k => ?_) ?_
      · show Steps p.tables e below (T149.setTop (mkF m 171 #[.val (.int p0), .val (.int p1), .val (.int p2), .val (.int cp), .val (.int (2 : Int32)), .val (.int s1), .val (.ref b18), .val (.int (5 : Int32)), .val (.int b0), .unset, .unset, .val (.int b1), .val (.int b2)] [])) t
        refine XS.iload X149.here hx rfl (hb hby at_171) rfl ?_
        show Steps p.tables e below (T149.setTop (mkF m 173 #[.val (.int p0), .val (.int p1), .val (.int p2), .val (.int cp), .val (.int (2 : Int32)), .val (.int s1), .val (.ref b18), .val (.int (5 : Int32)), .val (.int b0), .unset, .unset, .val (.int b1), .val (.int b2)] [(.int b2)])) t
        refine XS.sipush X149.here hx rfl (hb hby at_173) ?_
        exact k
      have hc158 : b2 < (128 : Int32) := by rw [own_lt128]; rw [own_127] at hA; rw [own_l16] at hB; omega
      refine OwnGo.of (A := T149.setTop (mkF m 176 #[.val (.int p0), .val (.int p1), .val (.int p2), .val (.int cp), .val (.int (2 : Int32)), .val (.int s1), .val (.ref b18), .val (.int (5 : Int32)), .val (.int b0), .unset, .unset, .val (.int b1), .val (.int b2)] [(.int (128 : Int32)), (.int b2)])) (B := T149.setTop (mkF m 221 #[.val (.int p0), .val (.int p1), .val (.int p2), .val (.int cp), .val (.int (2 : Int32)), .val (.int s1), .val (.ref b18), .val (.int (5 : Int32)), .val (.int b0), .val (.int (3 : Int32)), .val (.int ((((16512 : Int32) + ((b0 - (128 : Int32)) * (16384 : Int32))) + ((b1 - (128 : Int32)) * (128 : Int32))) + b2)), .val (.int b1), .val (.int b2)] [(.int ((2 : Int32) + (3 : Int32))), (.int (5 : Int32))])) (fun t k => ?_) ?_
      · show Steps p.tables e below (T149.setTop (mkF m 176 #[.val (.int p0), .val (.int p1), .val (.int p2), .val (.int cp), .val (.int (2 : Int32)), .val (.int s1), .val (.ref b18), .val (.int (5 : Int32)), .val (.int b0), .unset, .unset, .val (.int b1), .val (.int b2)] [(.int (128 : Int32)), (.int b2)])) t
        refine XS.icmpYes X149.here hx rfl (pc0 := 176) (pc' := 181) rfl (hb hby at_176) rfl (tlt hc158).1 (by decide) (by decide) ?_
        show Steps p.tables e below (T149.setTop (mkF m 181 #[.val (.int p0), .val (.int p1), .val (.int p2), .val (.int cp), .val (.int (2 : Int32)), .val (.int s1), .val (.ref b18), .val (.int (5 : Int32)), .val (.int b0), .unset, .unset, .val (.int b1), .val (.int b2)] [])) t
        refine XS.iconst X149.here hx rfl (hb hby at_181) ?_
        show Steps p.tables e below (T149.setTop (mkF m 182 #[.val (.int p0), .val (.int p1), .val (.int p2), .val (.int cp), .val (.int (2 : Int32)), .val (.int s1), .val (.ref b18), .val (.int (5 : Int32)), .val (.int b0), .unset, .unset, .val (.int b1), .val (.int b2)] [(.int (3 : Int32))])) t
        refine XS.istore X149.here hx rfl (hb hby at_182) rfl (l' := #[.val (.int p0), .val (.int p1), .val (.int p2), .val (.int cp), .val (.int (2 : Int32)), .val (.int s1), .val (.ref b18), .val (.int (5 : Int32)), .val (.int b0), .val (.int (3 : Int32)), .unset, .val (.int b1), .val (.int b2)]) rfl ?_
        show Steps p.tables e below (T149.setTop (mkF m 184 #[.val (.int p0), .val (.int p1), .val (.int p2), .val (.int cp), .val (.int (2 : Int32)), .val (.int s1), .val (.ref b18), .val (.int (5 : Int32)), .val (.int b0), .val (.int (3 : Int32)), .unset, .val (.int b1), .val (.int b2)] [])) t
        refine XS.sipush X149.here hx rfl (hb hby at_184) ?_
        show Steps p.tables e below (T149.setTop (mkF m 187 #[.val (.int p0), .val (.int p1), .val (.int p2), .val (.int cp), .val (.int (2 : Int32)), .val (.int s1), .val (.ref b18), .val (.int (5 : Int32)), .val (.int b0), .val (.int (3 : Int32)), .unset, .val (.int b1), .val (.int b2)] [(.int (16512 : Int32))])) t
        refine XS.iload X149.here hx rfl (hb hby at_187) rfl ?_
        show Steps p.tables e below (T149.setTop (mkF m 189 #[.val (.int p0), .val (.int p1), .val (.int p2), .val (.int cp), .val (.int (2 : Int32)), .val (.int s1), .val (.ref b18), .val (.int (5 : Int32)), .val (.int b0), .val (.int (3 : Int32)), .unset, .val (.int b1), .val (.int b2)] [(.int b0), (.int (16512 : Int32))])) t
        refine XS.sipush X149.here hx rfl (hb hby at_189) ?_
        show Steps p.tables e below (T149.setTop (mkF m 192 #[.val (.int p0), .val (.int p1), .val (.int p2), .val (.int cp), .val (.int (2 : Int32)), .val (.int s1), .val (.ref b18), .val (.int (5 : Int32)), .val (.int b0), .val (.int (3 : Int32)), .unset, .val (.int b1), .val (.int b2)] [(.int (128 : Int32)), (.int b0), (.int (16512 : Int32))])) t
        refine XS.isub X149.here hx rfl (hb hby at_192) rfl ?_
        show Steps p.tables e below (T149.setTop (mkF m 193 #[.val (.int p0), .val (.int p1), .val (.int p2), .val (.int cp), .val (.int (2 : Int32)), .val (.int s1), .val (.ref b18), .val (.int (5 : Int32)), .val (.int b0), .val (.int (3 : Int32)), .unset, .val (.int b1), .val (.int b2)] [(.int (b0 - (128 : Int32))), (.int (16512 : Int32))])) t
        refine XS.sipush X149.here hx rfl (hb hby at_193) ?_
        show Steps p.tables e below (T149.setTop (mkF m 196 #[.val (.int p0), .val (.int p1), .val (.int p2), .val (.int cp), .val (.int (2 : Int32)), .val (.int s1), .val (.ref b18), .val (.int (5 : Int32)), .val (.int b0), .val (.int (3 : Int32)), .unset, .val (.int b1), .val (.int b2)] [(.int (16384 : Int32)), (.int (b0 - (128 : Int32))), (.int (16512 : Int32))])) t
        refine XS.imul X149.here hx rfl (hb hby at_196) rfl ?_
        show Steps p.tables e below (T149.setTop (mkF m 197 #[.val (.int p0), .val (.int p1), .val (.int p2), .val (.int cp), .val (.int (2 : Int32)), .val (.int s1), .val (.ref b18), .val (.int (5 : Int32)), .val (.int b0), .val (.int (3 : Int32)), .unset, .val (.int b1), .val (.int b2)] [(.int ((b0 - (128 : Int32)) * (16384 : Int32))), (.int (16512 : Int32))])) t
        refine XS.iadd X149.here hx rfl (hb hby at_197) rfl ?_
        show Steps p.tables e below (T149.setTop (mkF m 198 #[.val (.int p0), .val (.int p1), .val (.int p2), .val (.int cp), .val (.int (2 : Int32)), .val (.int s1), .val (.ref b18), .val (.int (5 : Int32)), .val (.int b0), .val (.int (3 : Int32)), .unset, .val (.int b1), .val (.int b2)] [(.int ((16512 : Int32) + ((b0 - (128 : Int32)) * (16384 : Int32))))])) t
        refine XS.iload X149.here hx rfl (hb hby at_198) rfl ?_
        show Steps p.tables e below (T149.setTop (mkF m 200 #[.val (.int p0), .val (.int p1), .val (.int p2), .val (.int cp), .val (.int (2 : Int32)), .val (.int s1), .val (.ref b18), .val (.int (5 : Int32)), .val (.int b0), .val (.int (3 : Int32)), .unset, .val (.int b1), .val (.int b2)] [(.int b1), (.int ((16512 : Int32) + ((b0 - (128 : Int32)) * (16384 : Int32))))])) t
        refine XS.sipush X149.here hx rfl (hb hby at_200) ?_
        show Steps p.tables e below (T149.setTop (mkF m 203 #[.val (.int p0), .val (.int p1), .val (.int p2), .val (.int cp), .val (.int (2 : Int32)), .val (.int s1), .val (.ref b18), .val (.int (5 : Int32)), .val (.int b0), .val (.int (3 : Int32)), .unset, .val (.int b1), .val (.int b2)] [(.int (128 : Int32)), (.int b1), (.int ((16512 : Int32) + ((b0 - (128 : Int32)) * (16384 : Int32))))])) t
        refine XS.isub X149.here hx rfl (hb hby at_203) rfl ?_
        show Steps p.tables e below (T149.setTop (mkF m 204 #[.val (.int p0), .val (.int p1), .val (.int p2), .val (.int cp), .val (.int (2 : Int32)), .val (.int s1), .val (.ref b18), .val (.int (5 : Int32)), .val (.int b0), .val (.int (3 : Int32)), .unset, .val (.int b1), .val (.int b2)] [(.int (b1 - (128 : Int32))), (.int ((16512 : Int32) + ((b0 - (128 : Int32)) * (16384 : Int32))))])) t
        refine XS.sipush X149.here hx rfl (hb hby at_204) ?_
        show Steps p.tables e below (T149.setTop (mkF m 207 #[.val (.int p0), .val (.int p1), .val (.int p2), .val (.int cp), .val (.int (2 : Int32)), .val (.int s1), .val (.ref b18), .val (.int (5 : Int32)), .val (.int b0), .val (.int (3 : Int32)), .unset, .val (.int b1), .val (.int b2)] [(.int (128 : Int32)), (.int (b1 - (128 : Int32))), (.int ((16512 : Int32) + ((b0 - (128 : Int32)) * (16384 : Int32))))])) t
        refine XS.imul X149.here hx rfl (hb hby at_207) rfl ?_
        show Steps p.tables e below (T149.setTop (mkF m 208 #[.val (.int p0), .val (.int p1), .val (.int p2), .val (.int cp), .val (.int (2 : Int32)), .val (.int s1), .val (.ref b18), .val (.int (5 : Int32)), .val (.int b0), .val (.int (3 : Int32)), .unset, .val (.int b1), .val (.int b2)] [(.int ((b1 - (128 : Int32)) * (128 : Int32))), (.int ((16512 : Int32) + ((b0 - (128 : Int32)) * (16384 : Int32))))])) t
        refine XS.iadd X149.here hx rfl (hb hby at_208) rfl ?_
        show Steps p.tables e below (T149.setTop (mkF m 209 #[.val (.int p0), .val (.int p1), .val (.int p2), .val (.int cp), .val (.int (2 : Int32)), .val (.int s1), .val (.ref b18), .val (.int (5 : Int32)), .val (.int b0), .val (.int (3 : Int32)), .unset, .val (.int b1), .val (.int b2)] [(.int (((16512 : Int32) + ((b0 - (128 : Int32)) * (16384 : Int32))) + ((b1 - (128 : Int32)) * (128 : Int32))))])) t
        refine XS.iload X149.here hx rfl (hb hby at_209) rfl ?_
        show Steps p.tables e below (T149.setTop (mkF m 211 #[.val (.int p0), .val (.int p1), .val (.int p2), .val (.int cp), .val (.int (2 : Int32)), .val (.int s1), .val (.ref b18), .val (.int (5 : Int32)), .val (.int b0), .val (.int (3 : Int32)), .unset, .val (.int b1), .val (.int b2)] [(.int b2), (.int (((16512 : Int32) + ((b0 - (128 : Int32)) * (16384 : Int32))) + ((b1 - (128 : Int32)) * (128 : Int32))))])) t
        refine XS.iadd X149.here hx rfl (hb hby at_211) rfl ?_
        show Steps p.tables e below (T149.setTop (mkF m 212 #[.val (.int p0), .val (.int p1), .val (.int p2), .val (.int cp), .val (.int (2 : Int32)), .val (.int s1), .val (.ref b18), .val (.int (5 : Int32)), .val (.int b0), .val (.int (3 : Int32)), .unset, .val (.int b1), .val (.int b2)] [(.int ((((16512 : Int32) + ((b0 - (128 : Int32)) * (16384 : Int32))) + ((b1 - (128 : Int32)) * (128 : Int32))) + b2))])) t
        refine XS.istore X149.here hx rfl (hb hby at_212) rfl (l' := #[.val (.int p0), .val (.int p1), .val (.int p2), .val (.int cp), .val (.int (2 : Int32)), .val (.int s1), .val (.ref b18), .val (.int (5 : Int32)), .val (.int b0), .val (.int (3 : Int32)), .val (.int ((((16512 : Int32) + ((b0 - (128 : Int32)) * (16384 : Int32))) + ((b1 - (128 : Int32)) * (128 : Int32))) + b2)), .val (.int b1), .val (.int b2)]) rfl ?_
        show Steps p.tables e below (T149.setTop (mkF m 214 #[.val (.int p0), .val (.int p1), .val (.int p2), .val (.int cp), .val (.int (2 : Int32)), .val (.int s1), .val (.ref b18), .val (.int (5 : Int32)), .val (.int b0), .val (.int (3 : Int32)), .val (.int ((((16512 : Int32) + ((b0 - (128 : Int32)) * (16384 : Int32))) + ((b1 - (128 : Int32)) * (128 : Int32))) + b2)), .val (.int b1), .val (.int b2)] [])) t
        refine XS.iload X149.here hx rfl (hb hby at_214) rfl ?_
        show Steps p.tables e below (T149.setTop (mkF m 216 #[.val (.int p0), .val (.int p1), .val (.int p2), .val (.int cp), .val (.int (2 : Int32)), .val (.int s1), .val (.ref b18), .val (.int (5 : Int32)), .val (.int b0), .val (.int (3 : Int32)), .val (.int ((((16512 : Int32) + ((b0 - (128 : Int32)) * (16384 : Int32))) + ((b1 - (128 : Int32)) * (128 : Int32))) + b2)), .val (.int b1), .val (.int b2)] [(.int (5 : Int32))])) t
        refine XS.iload X149.here hx rfl (hb hby at_216) rfl ?_
        show Steps p.tables e below (T149.setTop (mkF m 218 #[.val (.int p0), .val (.int p1), .val (.int p2), .val (.int cp), .val (.int (2 : Int32)), .val (.int s1), .val (.ref b18), .val (.int (5 : Int32)), .val (.int b0), .val (.int (3 : Int32)), .val (.int ((((16512 : Int32) + ((b0 - (128 : Int32)) * (16384 : Int32))) + ((b1 - (128 : Int32)) * (128 : Int32))) + b2)), .val (.int b1), .val (.int b2)] [(.int (2 : Int32)), (.int (5 : Int32))])) t
        refine XS.iload X149.here hx rfl (hb hby at_218) rfl ?_
        show Steps p.tables e below (T149.setTop (mkF m 220 #[.val (.int p0), .val (.int p1), .val (.int p2), .val (.int cp), .val (.int (2 : Int32)), .val (.int s1), .val (.ref b18), .val (.int (5 : Int32)), .val (.int b0), .val (.int (3 : Int32)), .val (.int ((((16512 : Int32) + ((b0 - (128 : Int32)) * (16384 : Int32))) + ((b1 - (128 : Int32)) * (128 : Int32))) + b2)), .val (.int b1), .val (.int b2)] [(.int (3 : Int32)), (.int (2 : Int32)), (.int (5 : Int32))])) t
        refine XS.iadd X149.here hx rfl (hb hby at_220) rfl ?_
        exact k
      have hc159 : (5 : Int32) = ((2 : Int32) + (3 : Int32)) := by decide
      refine OwnGo.of (A := T149.setTop (mkF m 221 #[.val (.int p0), .val (.int p1), .val (.int p2), .val (.int cp), .val (.int (2 : Int32)), .val (.int s1), .val (.ref b18), .val (.int (5 : Int32)), .val (.int b0), .val (.int (3 : Int32)), .val (.int ((((16512 : Int32) + ((b0 - (128 : Int32)) * (16384 : Int32))) + ((b1 - (128 : Int32)) * (128 : Int32))) + b2)), .val (.int b1), .val (.int b2)] [(.int ((2 : Int32) + (3 : Int32))), (.int (5 : Int32))])) (B := T149.setTop (mkF m 229 #[.val (.int p0), .val (.int p1), .val (.int p2), .val (.int cp), .val (.int (2 : Int32)), .val (.int s1), .val (.ref b18), .val (.int (5 : Int32)), .val (.int b0), .val (.int (3 : Int32)), .val (.int ((((16512 : Int32) + ((b0 - (128 : Int32)) * (16384 : Int32))) + ((b1 - (128 : Int32)) * (128 : Int32))) + b2)), .val (.int b1), .val (.int b2)] [(.int cp), (.int ((((16512 : Int32) + ((b0 - (128 : Int32)) * (16384 : Int32))) + ((b1 - (128 : Int32)) * (128 : Int32))) + b2))])) (fun t k => ?_) ?_
      · show Steps p.tables e below (T149.setTop (mkF m 221 #[.val (.int p0), .val (.int p1), .val (.int p2), .val (.int cp), .val (.int (2 : Int32)), .val (.int s1), .val (.ref b18), .val (.int (5 : Int32)), .val (.int b0), .val (.int (3 : Int32)), .val (.int ((((16512 : Int32) + ((b0 - (128 : Int32)) * (16384 : Int32))) + ((b1 - (128 : Int32)) * (128 : Int32))) + b2)), .val (.int b1), .val (.int b2)] [(.int ((2 : Int32) + (3 : Int32))), (.int (5 : Int32))])) t
        refine XS.icmpYes X149.here hx rfl (pc0 := 221) (pc' := 226) rfl (hb hby at_221) rfl (teq hc159).1 (by decide) (by decide) ?_
        show Steps p.tables e below (T149.setTop (mkF m 226 #[.val (.int p0), .val (.int p1), .val (.int p2), .val (.int cp), .val (.int (2 : Int32)), .val (.int s1), .val (.ref b18), .val (.int (5 : Int32)), .val (.int b0), .val (.int (3 : Int32)), .val (.int ((((16512 : Int32) + ((b0 - (128 : Int32)) * (16384 : Int32))) + ((b1 - (128 : Int32)) * (128 : Int32))) + b2)), .val (.int b1), .val (.int b2)] [])) t
        refine XS.iload X149.here hx rfl (hb hby at_226) rfl ?_
        show Steps p.tables e below (T149.setTop (mkF m 228 #[.val (.int p0), .val (.int p1), .val (.int p2), .val (.int cp), .val (.int (2 : Int32)), .val (.int s1), .val (.ref b18), .val (.int (5 : Int32)), .val (.int b0), .val (.int (3 : Int32)), .val (.int ((((16512 : Int32) + ((b0 - (128 : Int32)) * (16384 : Int32))) + ((b1 - (128 : Int32)) * (128 : Int32))) + b2)), .val (.int b1), .val (.int b2)] [(.int ((((16512 : Int32) + ((b0 - (128 : Int32)) * (16384 : Int32))) + ((b1 - (128 : Int32)) * (128 : Int32))) + b2))])) t
        refine XS.iloadN X149.here hx rfl (hb hby at_228) rfl ?_
        exact k
      have hc160 : ((((16512 : Int32) + ((b0 - (128 : Int32)) * (16384 : Int32))) + ((b1 - (128 : Int32)) * (128 : Int32))) + b2) = cp := own_vC cp b0 b1 b2 hcb tb0 tb1 tb2
      refine OwnGo.of (A := T149.setTop (mkF m 229 #[.val (.int p0), .val (.int p1), .val (.int p2), .val (.int cp), .val (.int (2 : Int32)), .val (.int s1), .val (.ref b18), .val (.int (5 : Int32)), .val (.int b0), .val (.int (3 : Int32)), .val (.int ((((16512 : Int32) + ((b0 - (128 : Int32)) * (16384 : Int32))) + ((b1 - (128 : Int32)) * (128 : Int32))) + b2)), .val (.int b1), .val (.int b2)] [(.int cp), (.int ((((16512 : Int32) + ((b0 - (128 : Int32)) * (16384 : Int32))) + ((b1 - (128 : Int32)) * (128 : Int32))) + b2))])) (B := T149.setTop (mkF m 234 #[.val (.int p0), .val (.int p1), .val (.int p2), .val (.int cp), .val (.int (2 : Int32)), .val (.int s1), .val (.ref b18), .val (.int (5 : Int32)), .val (.int b0), .val (.int (3 : Int32)), .val (.int ((((16512 : Int32) + ((b0 - (128 : Int32)) * (16384 : Int32))) + ((b1 - (128 : Int32)) * (128 : Int32))) + b2)), .val (.int b1), .val (.int b2)] [])) (fun t k => ?_) ?_
      · show Steps p.tables e below (T149.setTop (mkF m 229 #[.val (.int p0), .val (.int p1), .val (.int p2), .val (.int cp), .val (.int (2 : Int32)), .val (.int s1), .val (.ref b18), .val (.int (5 : Int32)), .val (.int b0), .val (.int (3 : Int32)), .val (.int ((((16512 : Int32) + ((b0 - (128 : Int32)) * (16384 : Int32))) + ((b1 - (128 : Int32)) * (128 : Int32))) + b2)), .val (.int b1), .val (.int b2)] [(.int cp), (.int ((((16512 : Int32) + ((b0 - (128 : Int32)) * (16384 : Int32))) + ((b1 - (128 : Int32)) * (128 : Int32))) + b2))])) t
        refine XS.icmpYes X149.here hx rfl (pc0 := 229) (pc' := 234) rfl (hb hby at_229) rfl (teq hc160).1 (by decide) (by decide) ?_
        exact k
      exact J234 T149 _ _ (.val (.int p0)) (.val (.int p1)) (.val (.int p2)) (.val (.int cp)) (.val (.int b0)) (.val (.int (3 : Int32))) (.val (.int ((((16512 : Int32) + ((b0 - (128 : Int32)) * (16384 : Int32))) + ((b1 - (128 : Int32)) * (128 : Int32))) + b2))) (.val (.int b1)) (.val (.int b2)) (2 : Int32) s1 (5 : Int32) b18 ((s1).toInt8.toInt32) ((s1).toInt8.toInt32) (((((128 : Int32) ||| (((cp - ((16512 : Int64).toInt32)).toUInt32 >>> ((14 : Int32) &&& 31).toUInt32).toInt32)).toInt8.toInt32)).toInt8.toInt32) (((((128 : Int32) ||| ((((cp - ((16512 : Int64).toInt32)).toUInt32 >>> ((7 : Int32) &&& 31).toUInt32).toInt32) &&& (127 : Int32))).toInt8.toInt32)).toInt8.toInt32) (((((cp - ((16512 : Int64).toInt32)) &&& (127 : Int32)).toInt8.toInt32)).toInt8.toInt32) ((s1).toInt8.toInt32) ((s1).toInt8.toInt32) ((s1).toInt8.toInt32) k18 X149 rfl N149 f150 y149_0 (by simp [own_k0, hs]) (by simp [own_k1, hs]) (by simp [own_k2, hs]) (by simp [own_k3, hs]) (by simp [own_k4, hs]) (by simp [own_k5, hs]) (by simp [own_k6, hs]) (by simp [own_k7, hs])
  · rw [qa]
    show OwnGo p.tables e below _ (T66.setTop (mkF m 73 #[.val (.int p0), .val (.int p1), .val (.int p2), .val (.int cp), .val (.int (3 : Int32)), .val (.int s1), .val (.ref b18), .unset, .unset, .unset, .unset, .unset, .unset] []))
    refine OwnGo.of (A := T66.setTop (mkF m 73 #[.val (.int p0), .val (.int p1), .val (.int p2), .val (.int cp), .val (.int (3 : Int32)), .val (.int s1), .val (.ref b18), .unset, .unset, .unset, .unset, .unset, .unset] [])) (B := T66.setTop (mkF m 78 #[.val (.int p0), .val (.int p1), .val (.int p2), .val (.int cp), .val (.int (3 : Int32)), .val (.int s1), .val (.ref b18), .unset, .unset, .unset, .unset, .unset, .unset] [(.int (3 : Int32)), (.ref b18), (.int cp)])) (fun t k => ?_) ?_
    · show Steps p.tables e below (T66.setTop (mkF m 73 #[.val (.int p0), .val (.int p1), .val (.int p2), .val (.int cp), .val (.int (3 : Int32)), .val (.int s1), .val (.ref b18), .unset, .unset, .unset, .unset, .unset, .unset] [])) t
      refine XS.iloadN X66.here hx rfl (hb hby at_73) rfl ?_
      show Steps p.tables e below (T66.setTop (mkF m 74 #[.val (.int p0), .val (.int p1), .val (.int p2), .val (.int cp), .val (.int (3 : Int32)), .val (.int s1), .val (.ref b18), .unset, .unset, .unset, .unset, .unset, .unset] [(.int cp)])) t
      refine XS.aload X66.here hx rfl (hb hby at_74) rfl rfl ?_
      show Steps p.tables e below (T66.setTop (mkF m 76 #[.val (.int p0), .val (.int p1), .val (.int p2), .val (.int cp), .val (.int (3 : Int32)), .val (.int s1), .val (.ref b18), .unset, .unset, .unset, .unset, .unset, .unset] [(.ref b18), (.int cp)])) t
      refine XS.iload X66.here hx rfl (hb hby at_76) rfl ?_
      exact k
    rcases own_cases cp with hA | ⟨hA, hB⟩ | ⟨hA, hB⟩
    · show OwnGo p.tables e below _ (T66.setTop (mkF m 78 #[.val (.int p0), .val (.int p1), .val (.int p2), .val (.int cp), .val (.int (3 : Int32)), .val (.int s1), .val (.ref b18), .unset, .unset, .unset, .unset, .unset, .unset] [(.int (3 : Int32)), (.ref b18), (.int cp)]))
      obtain ⟨_, _, ⟨T161, L161, k161, n161⟩, -, X161, ⟨Lc161, hQ161, l161, y161, z161⟩, st161⟩ := Jvm.LawKit.callS X66 hx (y := (⟨"com/example/sevenfold/sevenfold/Natural", "writeCodePoint", "(I[BI)I"⟩ : MethodName)) hown (mvT hZ (hw _ (List.mem_of_getElem? (i := 3) rfl))) (mvT hZ (hw _ (List.mem_of_getElem? (i := 4) rfl))) (mvT hZ (hw _ (List.mem_of_getElem? (i := 5) rfl))) (mvT hZ (hw _ (List.mem_of_getElem? (i := 6) rfl))) (by decide) (backOf (W := 0) (rm1_3A l Z aw hw [] cp b18 (s1).toInt8.toInt32 (s1).toInt8.toInt32 (s1).toInt8.toInt32 (s1).toInt8.toInt32 (s1).toInt8.toInt32 (s1).toInt8.toInt32 (s1).toInt8.toInt32 (s1).toInt8.toInt32 k18 wF kf h66 n0 f67 f68 f69 f70 g_b18 ne_wF_b18 hA) hZ (hw _ (List.mem_of_getElem? (i := 6) rfl)) (hw _ (List.mem_of_getElem? (i := 5) rfl)) (by decide) (by decide)) (g := (mkF m 78 #[.val (.int p0), .val (.int p1), .val (.int p2), .val (.int cp), .val (.int (3 : Int32)), .val (.int s1), .val (.ref b18), .unset, .unset, .unset, .unset, .unset, .unset] [(.int (3 : Int32)), (.ref b18), (.int cp)])) rfl (by rw [hml]; rfl) (argsL := [(.int cp), (.ref b18), (.int (3 : Int32))]) (rest := []) (lenOf pd_3 rfl) rfl (by show 2 * 0 + _ ≤ _; exact Nat.le_of_eq rfl) (hb hby at_78) (fun _ _ => ⟨rfl, e66, (by decide : 1 + 0 ≤ _), (by decide : 8 + 0 ≤ _)⟩)
      dsimp only [Pt.U, Pt.locs, Pt.cells, Pt.slots] at X161 l161 y161 z161 st161 hQ161
      subst l161 y161 z161
      obtain ⟨rfl, N161q, K161, y161_0⟩ := hQ161
      have f162 : n0 ≤ T161.heap.size := Nat.le_trans f67 K161.1
      have f163 : Sta Z T161.heap "com/example/sevenfold/sevenfold/Natural" "FIRST_OF_LENGTH" "[J" (.ref wF) := own_sta_keep f68 K161 (allS (own_ns_arv f70) all0)
      have f164 : Arv Z T161.heap wF kf .long (10 : Int32) [(.long (0 : Int64)), (.long (0 : Int64)), (.long (128 : Int64)), (.long (16512 : Int64)), (.long (2113664 : Int64)), (.long (270549120 : Int64)), (.long (34630287488 : Int64)), (.long (4432676798592 : Int64)), (.long (567382630219904 : Int64)), (.long (72624976668147840 : Int64))] (.long (0 : Int64)) := f69.keep K161 (ninS ne_wF_b18 nin0)
      have N161 := Fr.app N66 N161q
      refine OwnGo.of st161 ?_
      show OwnGo p.tables e below _ (T161.setTop (mkF m 81 #[.val (.int p0), .val (.int p1), .val (.int p2), .val (.int cp), .val (.int (3 : Int32)), .val (.int s1), .val (.ref b18), .unset, .unset, .unset, .unset, .unset, .unset] [(.int (4 : Int32))]))
      refine OwnGo.of (A := T161.setTop (mkF m 81 #[.val (.int p0), .val (.int p1), .val (.int p2), .val (.int cp), .val (.int (3 : Int32)), .val (.int s1), .val (.ref b18), .unset, .unset, .unset, .unset, .unset, .unset] [(.int (4 : Int32))])) (B := T161.setTop (mkF m 87 #[.val (.int p0), .val (.int p1), .val (.int p2), .val (.int cp), .val (.int (3 : Int32)), .val (.int s1), .val (.ref b18), .val (.int (4 : Int32)), .unset, .unset, .unset, .unset, .unset] [(.int (3 : Int32)), (.ref b18)])) (fun t k => ?_) ?_
      · show Steps p.tables e below (T161.setTop (mkF m 81 #[.val (.int p0), .val (.int p1), .val (.int p2), .val (.int cp), .val (.int (3 : Int32)), .val (.int s1), .val (.ref b18), .unset, .unset, .unset, .unset, .unset, .unset] [(.int (4 : Int32))])) t
        refine XS.istore X161.here hx rfl (hb hby at_81) rfl (l' := #[.val (.int p0), .val (.int p1), .val (.int p2), .val (.int cp), .val (.int (3 : Int32)), .val (.int s1), .val (.ref b18), .val (.int (4 : Int32)), .unset, .unset, .unset, .unset, .unset]) rfl ?_
        show Steps p.tables e below (T161.setTop (mkF m 83 #[.val (.int p0), .val (.int p1), .val (.int p2), .val (.int cp), .val (.int (3 : Int32)), .val (.int s1), .val (.ref b18), .val (.int (4 : Int32)), .unset, .unset, .unset, .unset, .unset] [])) t
        refine XS.aload X161.here hx rfl (hb hby at_83) rfl rfl ?_
        show Steps p.tables e below (T161.setTop (mkF m 85 #[.val (.int p0), .val (.int p1), .val (.int p2), .val (.int cp), .val (.int (3 : Int32)), .val (.int s1), .val (.ref b18), .val (.int (4 : Int32)), .unset, .unset, .unset, .unset, .unset] [(.ref b18)])) t
        refine XS.iload X161.here hx rfl (hb hby at_85) rfl ?_
        exact k
      have cq165 := y161_0
      obtain ⟨clq165, Arq165, qq165, Sq165, Nq165, Hq165, Gq165⟩ := cq165
      have hinq165 := inb_of (j := (3 : Int32)) Sq165 ⟨by decide, by decide⟩
      refine OwnGo.of (X161.baloadBytes hx (j := (3 : Int32)) (v := (.int ((cp.toInt8.toInt32)).toInt8.toInt32)) Arq165.1 (State.isArrayOf_alike hZ.alike Arq165.2.1) Arq165.2.2 hinq165 (Hq165.at hinq165 rfl) (g := (mkF m 87 #[.val (.int p0), .val (.int p1), .val (.int p2), .val (.int cp), .val (.int (3 : Int32)), .val (.int s1), .val (.ref b18), .val (.int (4 : Int32)), .unset, .unset, .unset, .unset, .unset] [(.int (3 : Int32)), (.ref b18)])) rfl rfl (hb hby at_87)) ?_
      show OwnGo p.tables e below _ (T161.setTop (mkF m 88 #[.val (.int p0), .val (.int p1), .val (.int p2), .val (.int cp), .val (.int (3 : Int32)), .val (.int s1), .val (.ref b18), .val (.int (4 : Int32)), .unset, .unset, .unset, .unset, .unset] [(.int ((cp.toInt8.toInt32)).toInt8.toInt32)]))
      refine OwnGo.of (A := T161.setTop (mkF m 88 #[.val (.int p0), .val (.int p1), .val (.int p2), .val (.int cp), .val (.int (3 : Int32)), .val (.int s1), .val (.ref b18), .val (.int (4 : Int32)), .unset, .unset, .unset, .unset, .unset] [(.int ((cp.toInt8.toInt32)).toInt8.toInt32)])) (B := T161.setTop (mkF m 94 #[.val (.int p0), .val (.int p1), .val (.int p2), .val (.int cp), .val (.int (3 : Int32)), .val (.int s1), .val (.ref b18), .val (.int (4 : Int32)), .val (.int (((cp.toInt8.toInt32)).toInt8.toInt32 &&& (255 : Int32))), .unset, .unset, .unset, .unset] [])) (fun t k => ?_) ?_
      · show Steps p.tables e below (T161.setTop (mkF m 88 #[.val (.int p0), .val (.int p1), .val (.int p2), .val (.int cp), .val (.int (3 : Int32)), .val (.int s1), .val (.ref b18), .val (.int (4 : Int32)), .unset, .unset, .unset, .unset, .unset] [(.int ((cp.toInt8.toInt32)).toInt8.toInt32)])) t
        refine XS.sipush X161.here hx rfl (hb hby at_88) ?_
        show Steps p.tables e below (T161.setTop (mkF m 91 #[.val (.int p0), .val (.int p1), .val (.int p2), .val (.int cp), .val (.int (3 : Int32)), .val (.int s1), .val (.ref b18), .val (.int (4 : Int32)), .unset, .unset, .unset, .unset, .unset] [(.int (255 : Int32)), (.int ((cp.toInt8.toInt32)).toInt8.toInt32)])) t
        refine XS.iand X161.here hx rfl (hb hby at_91) rfl ?_
        show Steps p.tables e below (T161.setTop (mkF m 92 #[.val (.int p0), .val (.int p1), .val (.int p2), .val (.int cp), .val (.int (3 : Int32)), .val (.int s1), .val (.ref b18), .val (.int (4 : Int32)), .unset, .unset, .unset, .unset, .unset] [(.int (((cp.toInt8.toInt32)).toInt8.toInt32 &&& (255 : Int32)))])) t
        refine XS.istore X161.here hx rfl (hb hby at_92) rfl (l' := #[.val (.int p0), .val (.int p1), .val (.int p2), .val (.int cp), .val (.int (3 : Int32)), .val (.int s1), .val (.ref b18), .val (.int (4 : Int32)), .val (.int (((cp.toInt8.toInt32)).toInt8.toInt32 &&& (255 : Int32))), .unset, .unset, .unset, .unset]) rfl ?_
        exact k
      obtain ⟨b0, hb0⟩ : ∃ z, z = (((cp.toInt8.toInt32)).toInt8.toInt32 &&& (255 : Int32)) := ⟨_, rfl⟩
      have tb0 : b0.toInt = cp.toInt := by subst hb0; exact own_A0 cp hcb hA
      rw [← hb0]
      show OwnGo p.tables e below _ (T161.setTop (mkF m 94 #[.val (.int p0), .val (.int p1), .val (.int p2), .val (.int cp), .val (.int (3 : Int32)), .val (.int s1), .val (.ref b18), .val (.int (4 : Int32)), .val (.int b0), .unset, .unset, .unset, .unset] []))
      refine OwnGo.of (A := T161.setTop (mkF m 94 #[.val (.int p0), .val (.int p1), .val (.int p2), .val (.int cp), .val (.int (3 : Int32)), .val (.int s1), .val (.ref b18), .val (.int (4 : Int32)), .val (.int b0), .unset, .unset, .unset, .unset] [])) (B := T161.setTop (mkF m 99 #[.val (.int p0), .val (.int p1), .val (.int p2), .val (.int cp), .val (.int (3 : Int32)), .val (.int s1), .val (.ref b18), .val (.int (4 : Int32)), .val (.int b0), .unset, .unset, .unset, .unset] [(.int (128 : Int32)), (.int b0)])) (fun t k => ?_) ?_
      · show Steps p.tables e below (T161.setTop (mkF m 94 #[.val (.int p0), .val (.int p1), .val (.int p2), .val (.int cp), .val (.int (3 : Int32)), .val (.int s1), .val (.ref b18), .val (.int (4 : Int32)), .val (.int b0), .unset, .unset, .unset, .unset] [])) t
        refine XS.iload X161.here hx rfl (hb hby at_94) rfl ?_
        show Steps p.tables e below (T161.setTop (mkF m 96 #[.val (.int p0), .val (.int p1), .val (.int p2), .val (.int cp), .val (.int (3 : Int32)), .val (.int s1), .val (.ref b18), .val (.int (4 : Int32)), .val (.int b0), .unset, .unset, .unset, .unset] [(.int b0)])) t
        refine XS.sipush X161.here hx rfl (hb hby at_96) ?_
        exact k
      have hc166 : b0 < (128 : Int32) := by rw [own_lt128]; rw [own_127] at hA; omega
      refine OwnGo.of (A := T161.setTop (mkF m 99 #[.val (.int p0), .val (.int p1), .val (.int p2), .val (.int cp), .val (.int (3 : Int32)), .val (.int s1), .val (.ref b18), .val (.int (4 : Int32)), .val (.int b0), .unset, .unset, .unset, .unset] [(.int (128 : Int32)), (.int b0)])) (B := T161.setTop (mkF m 221 #[.val (.int p0), .val (.int p1), .val (.int p2), .val (.int cp), .val (.int (3 : Int32)), .val (.int s1), .val (.ref b18), .val (.int (4 : Int32)), .val (.int b0), .val (.int (1 : Int32)), .val (.int b0), .unset, .unset] [(.int ((3 : Int32) + (1 : Int32))), (.int (4 : Int32))])) (fun t k => ?_) ?_
      · show Steps p.tables e below (T161.setTop (mkF m 99 #[.val (.int p0), .val (.int p1), .val (.int p2), .val (.int cp), .val (.int (3 : Int32)), .val (.int s1), .val (.ref b18), .val (.int (4 : Int32)), .val (.int b0), .unset, .unset, .unset, .unset] [(.int (128 : Int32)), (.int b0)])) t
        refine XS.icmpNo X161.here hx rfl (hb hby at_99) rfl (tlt hc166).2.1 ?_
        show Steps p.tables e below (T161.setTop (mkF m 102 #[.val (.int p0), .val (.int p1), .val (.int p2), .val (.int cp), .val (.int (3 : Int32)), .val (.int s1), .val (.ref b18), .val (.int (4 : Int32)), .val (.int b0), .unset, .unset, .unset, .unset] [])) t
        refine XS.iconst X161.here hx rfl (hb hby at_102) ?_
        show Steps p.tables e below (T161.setTop (mkF m 103 #[.val (.int p0), .val (.int p1), .val (.int p2), .val (.int cp), .val (.int (3 : Int32)), .val (.int s1), .val (.ref b18), .val (.int (4 : Int32)), .val (.int b0), .unset, .unset, .unset, .unset] [(.int (1 : Int32))])) t
        refine XS.istore X161.here hx rfl (hb hby at_103) rfl (l' := #[.val (.int p0), .val (.int p1), .val (.int p2), .val (.int cp), .val (.int (3 : Int32)), .val (.int s1), .val (.ref b18), .val (.int (4 : Int32)), .val (.int b0), .val (.int (1 : Int32)), .unset, .unset, .unset]) rfl ?_
        show Steps p.tables e below (T161.setTop (mkF m 105 #[.val (.int p0), .val (.int p1), .val (.int p2), .val (.int cp), .val (.int (3 : Int32)), .val (.int s1), .val (.ref b18), .val (.int (4 : Int32)), .val (.int b0), .val (.int (1 : Int32)), .unset, .unset, .unset] [])) t
        refine XS.iload X161.here hx rfl (hb hby at_105) rfl ?_
        show Steps p.tables e below (T161.setTop (mkF m 107 #[.val (.int p0), .val (.int p1), .val (.int p2), .val (.int cp), .val (.int (3 : Int32)), .val (.int s1), .val (.ref b18), .val (.int (4 : Int32)), .val (.int b0), .val (.int (1 : Int32)), .unset, .unset, .unset] [(.int b0)])) t
        refine XS.istore X161.here hx rfl (hb hby at_107) rfl (l' := #[.val (.int p0), .val (.int p1), .val (.int p2), .val (.int cp), .val (.int (3 : Int32)), .val (.int s1), .val (.ref b18), .val (.int (4 : Int32)), .val (.int b0), .val (.int (1 : Int32)), .val (.int b0), .unset, .unset]) rfl ?_
        show Steps p.tables e below (T161.setTop (mkF m 109 #[.val (.int p0), .val (.int p1), .val (.int p2), .val (.int cp), .val (.int (3 : Int32)), .val (.int s1), .val (.ref b18), .val (.int (4 : Int32)), .val (.int b0), .val (.int (1 : Int32)), .val (.int b0), .unset, .unset] [])) t
        refine XS.goto X161.here hx rfl (pc0 := 109) (pc' := 214) rfl (hb hby at_109) (by decide) (by decide) ?_
        show Steps p.tables e below (T161.setTop (mkF m 214 #[.val (.int p0), .val (.int p1), .val (.int p2), .val (.int cp), .val (.int (3 : Int32)), .val (.int s1), .val (.ref b18), .val (.int (4 : Int32)), .val (.int b0), .val (.int (1 : Int32)), .val (.int b0), .unset, .unset] [])) t
        refine XS.iload X161.here hx rfl (hb hby at_214) rfl ?_
        show Steps p.tables e below (T161.setTop (mkF m 216 #[.val (.int p0), .val (.int p1), .val (.int p2), .val (.int cp), .val (.int (3 : Int32)), .val (.int s1), .val (.ref b18), .val (.int (4 : Int32)), .val (.int b0), .val (.int (1 : Int32)), .val (.int b0), .unset, .unset] [(.int (4 : Int32))])) t
        refine XS.iload X161.here hx rfl (hb hby at_216) rfl ?_
        show Steps p.tables e below (T161.setTop (mkF m 218 #[.val (.int p0), .val (.int p1), .val (.int p2), .val (.int cp), .val (.int (3 : Int32)), .val (.int s1), .val (.ref b18), .val (.int (4 : Int32)), .val (.int b0), .val (.int (1 : Int32)), .val (.int b0), .unset, .unset] [(.int (3 : Int32)), (.int (4 : Int32))])) t
        refine XS.iload X161.here hx rfl (hb hby at_218) rfl ?_
        show Steps p.tables e below (T161.setTop (mkF m 220 #[.val (.int p0), .val (.int p1), .val (.int p2), .val (.int cp), .val (.int (3 : Int32)), .val (.int s1), .val (.ref b18), .val (.int (4 : Int32)), .val (.int b0), .val (.int (1 : Int32)), .val (.int b0), .unset, .unset] [(.int (1 : Int32)), (.int (3 : Int32)), (.int (4 : Int32))])) t
        refine XS.iadd X161.here hx rfl (hb hby at_220) rfl ?_
        exact k
      have hc167 : (4 : Int32) = ((3 : Int32) + (1 : Int32)) := by decide
      refine OwnGo.of (A := T161.setTop (mkF m 221 #[.val (.int p0), .val (.int p1), .val (.int p2), .val (.int cp), .val (.int (3 : Int32)), .val (.int s1), .val (.ref b18), .val (.int (4 : Int32)), .val (.int b0), .val (.int (1 : Int32)), .val (.int b0), .unset, .unset] [(.int ((3 : Int32) + (1 : Int32))), (.int (4 : Int32))])) (B := T161.setTop (mkF m 229 #[.val (.int p0), .val (.int p1), .val (.int p2), .val (.int cp), .val (.int (3 : Int32)), .val (.int s1), .val (.ref b18), .val (.int (4 : Int32)), .val (.int b0), .val (.int (1 : Int32)), .val (.int b0), .unset, .unset] [(.int cp), (.int b0)])) (fun t k => ?_) ?_
      · show Steps p.tables e below (T161.setTop (mkF m 221 #[.val (.int p0), .val (.int p1), .val (.int p2), .val (.int cp), .val (.int (3 : Int32)), .val (.int s1), .val (.ref b18), .val (.int (4 : Int32)), .val (.int b0), .val (.int (1 : Int32)), .val (.int b0), .unset, .unset] [(.int ((3 : Int32) + (1 : Int32))), (.int (4 : Int32))])) t
        refine XS.icmpYes X161.here hx rfl (pc0 := 221) (pc' := 226) rfl (hb hby at_221) rfl (teq hc167).1 (by decide) (by decide) ?_
        show Steps p.tables e below (T161.setTop (mkF m 226 #[.val (.int p0), .val (.int p1), .val (.int p2), .val (.int cp), .val (.int (3 : Int32)), .val (.int s1), .val (.ref b18), .val (.int (4 : Int32)), .val (.int b0), .val (.int (1 : Int32)), .val (.int b0), .unset, .unset] [])) t
        refine XS.iload X161.here hx rfl (hb hby at_226) rfl ?_
        show Steps p.tables e below (T161.setTop (mkF m 228 #[.val (.int p0), .val (.int p1), .val (.int p2), .val (.int cp), .val (.int (3 : Int32)), .val (.int s1), .val (.ref b18), .val (.int (4 : Int32)), .val (.int b0), .val (.int (1 : Int32)), .val (.int b0), .unset, .unset] [(.int b0)])) t
        refine XS.iloadN X161.here hx rfl (hb hby at_228) rfl ?_
        exact k
      have hc168 : b0 = cp := Int32.toInt_inj.mp tb0
      refine OwnGo.of (A := T161.setTop (mkF m 229 #[.val (.int p0), .val (.int p1), .val (.int p2), .val (.int cp), .val (.int (3 : Int32)), .val (.int s1), .val (.ref b18), .val (.int (4 : Int32)), .val (.int b0), .val (.int (1 : Int32)), .val (.int b0), .unset, .unset] [(.int cp), (.int b0)])) (B := T161.setTop (mkF m 234 #[.val (.int p0), .val (.int p1), .val (.int p2), .val (.int cp), .val (.int (3 : Int32)), .val (.int s1), .val (.ref b18), .val (.int (4 : Int32)), .val (.int b0), .val (.int (1 : Int32)), .val (.int b0), .unset, .unset] [])) (fun t k => ?_) ?_
      · show Steps p.tables e below (T161.setTop (mkF m 229 #[.val (.int p0), .val (.int p1), .val (.int p2), .val (.int cp), .val (.int (3 : Int32)), .val (.int s1), .val (.ref b18), .val (.int (4 : Int32)), .val (.int b0), .val (.int (1 : Int32)), .val (.int b0), .unset, .unset] [(.int cp), (.int b0)])) t
        refine XS.icmpYes X161.here hx rfl (pc0 := 229) (pc' := 234) rfl (hb hby at_229) rfl (teq hc168).1 (by decide) (by decide) ?_
        exact k
      exact J234 T161 _ _ (.val (.int p0)) (.val (.int p1)) (.val (.int p2)) (.val (.int cp)) (.val (.int b0)) (.val (.int (1 : Int32))) (.val (.int b0)) (.unset) (.unset) (3 : Int32) s1 (4 : Int32) b18 ((s1).toInt8.toInt32) ((s1).toInt8.toInt32) ((s1).toInt8.toInt32) (((cp.toInt8.toInt32)).toInt8.toInt32) ((s1).toInt8.toInt32) ((s1).toInt8.toInt32) ((s1).toInt8.toInt32) ((s1).toInt8.toInt32) k18 X161 rfl N161 f162 y161_0 (by simp [own_k0, hs]) (by simp [own_k1, hs]) (by simp [own_k2, hs]) (by simp [own_k3, hs]) (by simp [own_k4, hs]) (by simp [own_k5, hs]) (by simp [own_k6, hs]) (by simp [own_k7, hs])
    · show OwnGo p.tables e below _ (T66.setTop (mkF m 78 #[.val (.int p0), .val (.int p1), .val (.int p2), .val (.int cp), .val (.int (3 : Int32)), .val (.int s1), .val (.ref b18), .unset, .unset, .unset, .unset, .unset, .unset] [(.int (3 : Int32)), (.ref b18), (.int cp)]))
      obtain ⟨_, _, ⟨T169, L169, k169, n169⟩, -, X169, ⟨Lc169, hQ169, l169, y169, z169⟩, st169⟩ := Jvm.LawKit.callS X66 hx (y := (⟨"com/example/sevenfold/sevenfold/Natural", "writeCodePoint", "(I[BI)I"⟩ : MethodName)) hown (mvT hZ (hw _ (List.mem_of_getElem? (i := 3) rfl))) (mvT hZ (hw _ (List.mem_of_getElem? (i := 4) rfl))) (mvT hZ (hw _ (List.mem_of_getElem? (i := 5) rfl))) (mvT hZ (hw _ (List.mem_of_getElem? (i := 6) rfl))) (by decide) (backOf (W := 0) (rm1_3B l Z aw hw [] cp b18 (s1).toInt8.toInt32 (s1).toInt8.toInt32 (s1).toInt8.toInt32 (s1).toInt8.toInt32 (s1).toInt8.toInt32 (s1).toInt8.toInt32 (s1).toInt8.toInt32 (s1).toInt8.toInt32 k18 wF kf h66 n0 f67 f68 f69 f70 g_b18 ne_wF_b18 hA hB) hZ (hw _ (List.mem_of_getElem? (i := 6) rfl)) (hw _ (List.mem_of_getElem? (i := 5) rfl)) (by decide) (by decide)) (g := (mkF m 78 #[.val (.int p0), .val (.int p1), .val (.int p2), .val (.int cp), .val (.int (3 : Int32)), .val (.int s1), .val (.ref b18), .unset, .unset, .unset, .unset, .unset, .unset] [(.int (3 : Int32)), (.ref b18), (.int cp)])) rfl (by rw [hml]; rfl) (argsL := [(.int cp), (.ref b18), (.int (3 : Int32))]) (rest := []) (lenOf pd_3 rfl) rfl (by show 2 * 0 + _ ≤ _; exact Nat.le_of_eq rfl) (hb hby at_78) (fun _ _ => ⟨rfl, e66, (by decide : 1 + 0 ≤ _), (by decide : 8 + 0 ≤ _)⟩)
      dsimp only [Pt.U, Pt.locs, Pt.cells, Pt.slots] at X169 l169 y169 z169 st169 hQ169
      subst l169 y169 z169
      obtain ⟨rfl, N169q, K169, y169_0⟩ := hQ169
      have f170 : n0 ≤ T169.heap.size := Nat.le_trans f67 K169.1
      have f171 : Sta Z T169.heap "com/example/sevenfold/sevenfold/Natural" "FIRST_OF_LENGTH" "[J" (.ref wF) := own_sta_keep f68 K169 (allS (own_ns_arv f70) all0)
      have f172 : Arv Z T169.heap wF kf .long (10 : Int32) [(.long (0 : Int64)), (.long (0 : Int64)), (.long (128 : Int64)), (.long (16512 : Int64)), (.long (2113664 : Int64)), (.long (270549120 : Int64)), (.long (34630287488 : Int64)), (.long (4432676798592 : Int64)), (.long (567382630219904 : Int64)), (.long (72624976668147840 : Int64))] (.long (0 : Int64)) := f69.keep K169 (ninS ne_wF_b18 nin0)
      have N169 := Fr.app N66 N169q
      refine OwnGo.of st169 ?_
      show OwnGo p.tables e below _ (T169.setTop (mkF m 81 #[.val (.int p0), .val (.int p1), .val (.int p2), .val (.int cp), .val (.int (3 : Int32)), .val (.int s1), .val (.ref b18), .unset, .unset, .unset, .unset, .unset, .unset] [(.int (5 : Int32))]))
      refine OwnGo.of (A := T169.setTop (mkF m 81 #[.val (.int p0), .val (.int p1), .val (.int p2), .val (.int cp), .val (.int (3 : Int32)), .val (.int s1), .val (.ref b18), .unset, .unset, .unset, .unset, .unset, .unset] [(.int (5 : Int32))])) (B := T169.setTop (mkF m 87 #[.val (.int p0), .val (.int p1), .val (.int p2), .val (.int cp), .val (.int (3 : Int32)), .val (.int s1), .val (.ref b18), .val (.int (5 : Int32)), .unset, .unset, .unset, .unset, .unset] [(.int (3 : Int32)), (.ref b18)])) (fun t k => ?_) ?_
      · show Steps p.tables e below (T169.setTop (mkF m 81 #[.val (.int p0), .val (.int p1), .val (.int p2), .val (.int cp), .val (.int (3 : Int32)), .val (.int s1), .val (.ref b18), .unset, .unset, .unset, .unset, .unset, .unset] [(.int (5 : Int32))])) t
        refine XS.istore X169.here hx rfl (hb hby at_81) rfl (l' := #[.val (.int p0), .val (.int p1), .val (.int p2), .val (.int cp), .val (.int (3 : Int32)), .val (.int s1), .val (.ref b18), .val (.int (5 : Int32)), .unset, .unset, .unset, .unset, .unset]) rfl ?_
        show Steps p.tables e below (T169.setTop (mkF m 83 #[.val (.int p0), .val (.int p1), .val (.int p2), .val (.int cp), .val (.int (3 : Int32)), .val (.int s1), .val (.ref b18), .val (.int (5 : Int32)), .unset, .unset, .unset, .unset, .unset] [])) t
        refine XS.aload X169.here hx rfl (hb hby at_83) rfl rfl ?_
        show Steps p.tables e below (T169.setTop (mkF m 85 #[.val (.int p0), .val (.int p1), .val (.int p2), .val (.int cp), .val (.int (3 : Int32)), .val (.int s1), .val (.ref b18), .val (.int (5 : Int32)), .unset, .unset, .unset, .unset, .unset] [(.ref b18)])) t
        refine XS.iload X169.here hx rfl (hb hby at_85) rfl ?_
        exact k
      have cq173 := y169_0
      obtain ⟨clq173, Arq173, qq173, Sq173, Nq173, Hq173, Gq173⟩ := cq173
      have hinq173 := inb_of (j := (3 : Int32)) Sq173 ⟨by decide, by decide⟩
      refine OwnGo.of (X169.baloadBytes hx (j := (3 : Int32)) (v := (.int ((((128 : Int32) ||| (((cp - ((128 : Int64).toInt32)).toUInt32 >>> ((7 : Int32) &&& 31).toUInt32).toInt32)).toInt8.toInt32)).toInt8.toInt32)) Arq173.1 (State.isArrayOf_alike hZ.alike Arq173.2.1) Arq173.2.2 hinq173 (Hq173.at hinq173 rfl) (g := (mkF m 87 #[.val (.int p0), .val (.int p1), .val (.int p2), .val (.int cp), .val (.int (3 : Int32)), .val (.int s1), .val (.ref b18), .val (.int (5 : Int32)), .unset, .unset, .unset, .unset, .unset] [(.int (3 : Int32)), (.ref b18)])) rfl rfl (hb hby at_87)) ?_
      show OwnGo p.tables e below _ (T169.setTop (mkF m 88 #[.val (.int p0), .val (.int p1), .val (.int p2), .val (.int cp), .val (.int (3 : Int32)), .val (.int s1), .val (.ref b18), .val (.int (5 : Int32)), .unset, .unset, .unset, .unset, .unset] [(.int ((((128 : Int32) ||| (((cp - ((128 : Int64).toInt32)).toUInt32 >>> ((7 : Int32) &&& 31).toUInt32).toInt32)).toInt8.toInt32)).toInt8.toInt32)]))
      refine OwnGo.of (A := T169.setTop (mkF m 88 #[.val (.int p0), .val (.int p1), .val (.int p2), .val (.int cp), .val (.int (3 : Int32)), .val (.int s1), .val (.ref b18), .val (.int (5 : Int32)), .unset, .unset, .unset, .unset, .unset] [(.int ((((128 : Int32) ||| (((cp - ((128 : Int64).toInt32)).toUInt32 >>> ((7 : Int32) &&& 31).toUInt32).toInt32)).toInt8.toInt32)).toInt8.toInt32)])) (B := T169.setTop (mkF m 94 #[.val (.int p0), .val (.int p1), .val (.int p2), .val (.int cp), .val (.int (3 : Int32)), .val (.int s1), .val (.ref b18), .val (.int (5 : Int32)), .val (.int (((((128 : Int32) ||| (((cp - ((128 : Int64).toInt32)).toUInt32 >>> ((7 : Int32) &&& 31).toUInt32).toInt32)).toInt8.toInt32)).toInt8.toInt32 &&& (255 : Int32))), .unset, .unset, .unset, .unset] [])) (fun t k => ?_) ?_
      · show Steps p.tables e below (T169.setTop (mkF m 88 #[.val (.int p0), .val (.int p1), .val (.int p2), .val (.int cp), .val (.int (3 : Int32)), .val (.int s1), .val (.ref b18), .val (.int (5 : Int32)), .unset, .unset, .unset, .unset, .unset] [(.int ((((128 : Int32) ||| (((cp - ((128 : Int64).toInt32)).toUInt32 >>> ((7 : Int32) &&& 31).toUInt32).toInt32)).toInt8.toInt32)).toInt8.toInt32)])) t
        refine XS.sipush X169.here hx rfl (hb hby at_88) ?_
        show Steps p.tables e below (T169.setTop (mkF m 91 #[.val (.int p0), .val (.int p1), .val (.int p2), .val (.int cp), .val (.int (3 : Int32)), .val (.int s1), .val (.ref b18), .val (.int (5 : Int32)), .unset, .unset, .unset, .unset, .unset] [(.int (255 : Int32)), (.int ((((128 : Int32) ||| (((cp - ((128 : Int64).toInt32)).toUInt32 >>> ((7 : Int32) &&& 31).toUInt32).toInt32)).toInt8.toInt32)).toInt8.toInt32)])) t
        refine XS.iand X169.here hx rfl (hb hby at_91) rfl ?_
        show Steps p.tables e below (T169.setTop (mkF m 92 #[.val (.int p0), .val (.int p1), .val (.int p2), .val (.int cp), .val (.int (3 : Int32)), .val (.int s1), .val (.ref b18), .val (.int (5 : Int32)), .unset, .unset, .unset, .unset, .unset] [(.int (((((128 : Int32) ||| (((cp - ((128 : Int64).toInt32)).toUInt32 >>> ((7 : Int32) &&& 31).toUInt32).toInt32)).toInt8.toInt32)).toInt8.toInt32 &&& (255 : Int32)))])) t
        refine XS.istore X169.here hx rfl (hb hby at_92) rfl (l' := #[.val (.int p0), .val (.int p1), .val (.int p2), .val (.int cp), .val (.int (3 : Int32)), .val (.int s1), .val (.ref b18), .val (.int (5 : Int32)), .val (.int (((((128 : Int32) ||| (((cp - ((128 : Int64).toInt32)).toUInt32 >>> ((7 : Int32) &&& 31).toUInt32).toInt32)).toInt8.toInt32)).toInt8.toInt32 &&& (255 : Int32))), .unset, .unset, .unset, .unset]) rfl ?_
        exact k
      obtain ⟨b0, hb0⟩ : ∃ z, z = (((((128 : Int32) ||| (((cp - ((128 : Int64).toInt32)).toUInt32 >>> ((7 : Int32) &&& 31).toUInt32).toInt32)).toInt8.toInt32)).toInt8.toInt32 &&& (255 : Int32)) := ⟨_, rfl⟩
      have tb0 : b0.toInt = 128 + (cp.toInt - 128) / 128 := by subst hb0; exact own_B0 cp hcb hA hB
      rw [← hb0]
      show OwnGo p.tables e below _ (T169.setTop (mkF m 94 #[.val (.int p0), .val (.int p1), .val (.int p2), .val (.int cp), .val (.int (3 : Int32)), .val (.int s1), .val (.ref b18), .val (.int (5 : Int32)), .val (.int b0), .unset, .unset, .unset, .unset] []))
      refine OwnGo.of (A := T169.setTop (mkF m 94 #[.val (.int p0), .val (.int p1), .val (.int p2), .val (.int cp), .val (.int (3 : Int32)), .val (.int s1), .val (.ref b18), .val (.int (5 : Int32)), .val (.int b0), .unset, .unset, .unset, .unset] [])) (B := T169.setTop (mkF m 99 #[.val (.int p0), .val (.int p1), .val (.int p2), .val (.int cp), .val (.int (3 : Int32)), .val (.int s1), .val (.ref b18), .val (.int (5 : Int32)), .val (.int b0), .unset, .unset, .unset, .unset] [(.int (128 : Int32)), (.int b0)])) (fun t k => ?_) ?_
      · show Steps p.tables e below (T169.setTop (mkF m 94 #[.val (.int p0), .val (.int p1), .val (.int p2), .val (.int cp), .val (.int (3 : Int32)), .val (.int s1), .val (.ref b18), .val (.int (5 : Int32)), .val (.int b0), .unset, .unset, .unset, .unset] [])) t
        refine XS.iload X169.here hx rfl (hb hby at_94) rfl ?_
        show Steps p.tables e below (T169.setTop (mkF m 96 #[.val (.int p0), .val (.int p1), .val (.int p2), .val (.int cp), .val (.int (3 : Int32)), .val (.int s1), .val (.ref b18), .val (.int (5 : Int32)), .val (.int b0), .unset, .unset, .unset, .unset] [(.int b0)])) t
        refine XS.sipush X169.here hx rfl (hb hby at_96) ?_
        exact k
      have hc174 : ¬ (b0 < (128 : Int32)) := by rw [own_lt128]; rw [own_127] at hA; rw [own_l16] at hB; omega
      refine OwnGo.of (A := T169.setTop (mkF m 99 #[.val (.int p0), .val (.int p1), .val (.int p2), .val (.int cp), .val (.int (3 : Int32)), .val (.int s1), .val (.ref b18), .val (.int (5 : Int32)), .val (.int b0), .unset, .unset, .unset, .unset] [(.int (128 : Int32)), (.int b0)])) (B := T169.setTop (mkF m 118 #[.val (.int p0), .val (.int p1), .val (.int p2), .val (.int cp), .val (.int (3 : Int32)), .val (.int s1), .val (.ref b18), .val (.int (5 : Int32)), .val (.int b0), .unset, .unset, .unset, .unset] [(.int ((3 : Int32) + (1 : Int32))), (.ref b18)])) (fun t k => ?_) ?_
      · show Steps p.tables e below (T169.setTop (mkF m 99 #[.val (.int p0), .val (.int p1), .val (.int p2), .val (.int cp), .val (.int (3 : Int32)), .val (.int s1), .val (.ref b18), .val (.int (5 : Int32)), .val (.int b0), .unset, .unset, .unset, .unset] [(.int (128 : Int32)), (.int b0)])) t
        refine XS.icmpYes X169.here hx rfl (pc0 := 99) (pc' := 112) rfl (hb hby at_99) rfl (flt hc174).2.1 (by decide) (by decide) ?_
        show Steps p.tables e below (T169.setTop (mkF m 112 #[.val (.int p0), .val (.int p1), .val (.int p2), .val (.int cp), .val (.int (3 : Int32)), .val (.int s1), .val (.ref b18), .val (.int (5 : Int32)), .val (.int b0), .unset, .unset, .unset, .unset] [])) t
        refine XS.aload X169.here hx rfl (hb hby at_112) rfl rfl ?_
        show Steps p.tables e below (T169.setTop (mkF m 114 #[.val (.int p0), .val (.int p1), .val (.int p2), .val (.int cp), .val (.int (3 : Int32)), .val (.int s1), .val (.ref b18), .val (.int (5 : Int32)), .val (.int b0), .unset, .unset, .unset, .unset] [(.ref b18)])) t
        refine XS.iload X169.here hx rfl (hb hby at_114) rfl ?_
        show Steps p.tables e below (T169.setTop (mkF m 116 #[.val (.int p0), .val (.int p1), .val (.int p2), .val (.int cp), .val (.int (3 : Int32)), .val (.int s1), .val (.ref b18), .val (.int (5 : Int32)), .val (.int b0), .unset, .unset, .unset, .unset] [(.int (3 : Int32)), (.ref b18)])) t
        refine XS.iconst X169.here hx rfl (hb hby at_116) ?_
        show Steps p.tables e below (T169.setTop (mkF m 117 #[.val (.int p0), .val (.int p1), .val (.int p2), .val (.int cp), .val (.int (3 : Int32)), .val (.int s1), .val (.ref b18), .val (.int (5 : Int32)), .val (.int b0), .unset, .unset, .unset, .unset] [(.int (1 : Int32)), (.int (3 : Int32)), (.ref b18)])) t
        refine XS.iadd X169.here hx rfl (hb hby at_117) rfl ?_
        exact k
      rw [show ((3 : Int32) + (1 : Int32)) = (4 : Int32) from by decide]
      show OwnGo p.tables e below _ (T169.setTop (mkF m 118 #[.val (.int p0), .val (.int p1), .val (.int p2), .val (.int cp), .val (.int (3 : Int32)), .val (.int s1), .val (.ref b18), .val (.int (5 : Int32)), .val (.int b0), .unset, .unset, .unset, .unset] [(.int (4 : Int32)), (.ref b18)]))
      have cq175 := y169_0
      obtain ⟨clq175, Arq175, qq175, Sq175, Nq175, Hq175, Gq175⟩ := cq175
      have hinq175 := inb_of (j := (4 : Int32)) Sq175 ⟨by decide, by decide⟩
      refine OwnGo.of (X169.baloadBytes hx (j := (4 : Int32)) (v := (.int ((((cp - ((128 : Int64).toInt32)) &&& (127 : Int32)).toInt8.toInt32)).toInt8.toInt32)) Arq175.1 (State.isArrayOf_alike hZ.alike Arq175.2.1) Arq175.2.2 hinq175 (Hq175.at hinq175 rfl) (g := (mkF m 118 #[.val (.int p0), .val (.int p1), .val (.int p2), .val (.int cp), .val (.int (3 : Int32)), .val (.int s1), .val (.ref b18), .val (.int (5 : Int32)), .val (.int b0), .unset, .unset, .unset, .unset] [(.int (4 : Int32)), (.ref b18)])) rfl rfl (hb hby at_118)) ?_
      show OwnGo p.tables e below _ (T169.setTop (mkF m 119 #[.val (.int p0), .val (.int p1), .val (.int p2), .val (.int cp), .val (.int (3 : Int32)), .val (.int s1), .val (.ref b18), .val (.int (5 : Int32)), .val (.int b0), .unset, .unset, .unset, .unset] [(.int ((((cp - ((128 : Int64).toInt32)) &&& (127 : Int32)).toInt8.toInt32)).toInt8.toInt32)]))
      refine OwnGo.of (A := T169.setTop (mkF m 119 #[.val (.int p0), .val (.int p1), .val (.int p2), .val (.int cp), .val (.int (3 : Int32)), .val (.int s1), .val (.ref b18), .val (.int (5 : Int32)), .val (.int b0), .unset, .unset, .unset, .unset] [(.int ((((cp - ((128 : Int64).toInt32)) &&& (127 : Int32)).toInt8.toInt32)).toInt8.toInt32)])) (B := T169.setTop (mkF m 125 #[.val (.int p0), .val (.int p1), .val (.int p2), .val (.int cp), .val (.int (3 : Int32)), .val (.int s1), .val (.ref b18), .val (.int (5 : Int32)), .val (.int b0), .unset, .unset, .val (.int (((((cp - ((128 : Int64).toInt32)) &&& (127 : Int32)).toInt8.toInt32)).toInt8.toInt32 &&& (255 : Int32))), .unset] [])) (fun t k => ?_) ?_
      · show Steps p.tables e below (T169.setTop (mkF m 119 #[.val (.int p0), .val (.int p1), .val (.int p2), .val (.int cp), .val (.int (3 : Int32)), .val (.int s1), .val (.ref b18), .val (.int (5 : Int32)), .val (.int b0), .unset, .unset, .unset, .unset] [(.int ((((cp - ((128 : Int64).toInt32)) &&& (127 : Int32)).toInt8.toInt32)).toInt8.toInt32)])) t
        refine XS.sipush X169.here hx rfl (hb hby at_119) ?_
        show Steps p.tables e below (T169.setTop (mkF m 122 #[.val (.int p0), .val (.int p1), .val (.int p2), .val (.int cp), .val (.int (3 : Int32)), .val (.int s1), .val (.ref b18), .val (.int (5 : Int32)), .val (.int b0), .unset, .unset, .unset, .unset] [(.int (255 : Int32)), (.int ((((cp - ((128 : Int64).toInt32)) &&& (127 : Int32)).toInt8.toInt32)).toInt8.toInt32)])) t
        refine XS.iand X169.here hx rfl (hb hby at_122) rfl ?_
        show Steps p.tables e below (T169.setTop (mkF m 123 #[.val (.int p0), .val (.int p1), .val (.int p2), .val (.int cp), .val (.int (3 : Int32)), .val (.int s1), .val (.ref b18), .val (.int (5 : Int32)), .val (.int b0), .unset, .unset, .unset, .unset] [(.int (((((cp - ((128 : Int64).toInt32)) &&& (127 : Int32)).toInt8.toInt32)).toInt8.toInt32 &&& (255 : Int32)))])) t
        refine XS.istore X169.here hx rfl (hb hby at_123) rfl (l' := #[.val (.int p0), .val (.int p1), .val (.int p2), .val (.int cp), .val (.int (3 : Int32)), .val (.int s1), .val (.ref b18), .val (.int (5 : Int32)), .val (.int b0), .unset, .unset, .val (.int (((((cp - ((128 : Int64).toInt32)) &&& (127 : Int32)).toInt8.toInt32)).toInt8.toInt32 &&& (255 : Int32))), .unset]) rfl ?_
        exact k
      obtain ⟨b1, hb1⟩ : ∃ z, z = (((((cp - ((128 : Int64).toInt32)) &&& (127 : Int32)).toInt8.toInt32)).toInt8.toInt32 &&& (255 : Int32)) := ⟨_, rfl⟩
      have tb1 : b1.toInt = (cp.toInt - 128) % 128 := by subst hb1; exact own_B1 cp hcb hA
      rw [← hb1]
      show OwnGo p.tables e below _ (T169.setTop (mkF m 125 #[.val (.int p0), .val (.int p1), .val (.int p2), .val (.int cp), .val (.int (3 : Int32)), .val (.int s1), .val (.ref b18), .val (.int (5 : Int32)), .val (.int b0), .unset, .unset, .val (.int b1), .unset] []))
      refine OwnGo.of (A := T169.setTop (mkF m 125 #[.val (.int p0), .val (.int p1), .val (.int p2), .val (.int cp), .val (.int (3 : Int32)), .val (.int s1), .val (.ref b18), .val (.int (5 : Int32)), .val (.int b0), .unset, .unset, .val (.int b1), .unset] [])) (B := T169.setTop (mkF m 130 #[.val (.int p0), .val (.int p1), .val (.int p2), .val (.int cp), .val (.int (3 : Int32)), .val (.int s1), .val (.ref b18), .val (.int (5 : Int32)), .val (.int b0), .unset, .unset, .val (.int b1), .unset] [(.int (128 : Int32)), (.int b1)])) (fun t k => ?_) ?_
      · show Steps p.tables e below (T169.setTop (mkF m 125 #[.val (.int p0), .val (.int p1), .val (.int p2), .val (.int cp), .val (.int (3 : Int32)), .val (.int s1), .val (.ref b18), .val (.int (5 : Int32)), .val (.int b0), .unset, .unset, .val (.int b1), .unset] [])) t
        refine XS.iload X169.here hx rfl (hb hby at_125) rfl ?_
        show Steps p.tables e below (T169.setTop (mkF m 127 #[.val (.int p0), .val (.int p1), .val (.int p2), .val (.int cp), .val (.int (3 : Int32)), .val (.int s1), .val (.ref b18), .val (.int (5 : Int32)), .val (.int b0), .unset, .unset, .val (.int b1), .unset] [(.int b1)])) t
        refine XS.sipush X169.here hx rfl (hb hby at_127) ?_
        exact k
      have hc176 : b1 < (128 : Int32) := by rw [own_lt128]; rw [own_127] at hA; rw [own_l16] at hB; omega
      refine OwnGo.of (A := T169.setTop (mkF m 130 #[.val (.int p0), .val (.int p1), .val (.int p2), .val (.int cp), .val (.int (3 : Int32)), .val (.int s1), .val (.ref b18), .val (.int (5 : Int32)), .val (.int b0), .unset, .unset, .val (.int b1), .unset] [(.int (128 : Int32)), (.int b1)])) (B := T169.setTop (mkF m 221 #[.val (.int p0), .val (.int p1), .val (.int p2), .val (.int cp), .val (.int (3 : Int32)), .val (.int s1), .val (.ref b18), .val (.int (5 : Int32)), .val (.int b0), .val (.int (2 : Int32)), .val (.int (((128 : Int32) + ((b0 - (128 : Int32)) * (128 : Int32))) + b1)), .val (.int b1), .unset] [(.int ((3 : Int32) + (2 : Int32))), (.int (5 : Int32))])) (fun t k => ?_) ?_
      · show Steps p.tables e below (T169.setTop (mkF m 130 #[.val (.int p0), .val (.int p1), .val (.int p2), .val (.int cp), .val (.int (3 : Int32)), .val (.int s1), .val (.ref b18), .val (.int (5 : Int32)), .val (.int b0), .unset, .unset, .val (.int b1), .unset] [(.int (128 : Int32)), (.int b1)])) t
        refine XS.icmpNo X169.here hx rfl (hb hby at_130) rfl (tlt hc176).2.1 ?_
        show Steps p.tables e below (T169.setTop (mkF m 133 #[.val (.int p0), .val (.int p1), .val (.int p2), .val (.int cp), .val (.int (3 : Int32)), .val (.int s1), .val (.ref b18), .val (.int (5 : Int32)), .val (.int b0), .unset, .unset, .val (.int b1), .unset] [])) t
        refine XS.iconst X169.here hx rfl (hb hby at_133) ?_
        show Steps p.tables e below (T169.setTop (mkF m 134 #[.val (.int p0), .val (.int p1), .val (.int p2), .val (.int cp), .val (.int (3 : Int32)), .val (.int s1), .val (.ref b18), .val (.int (5 : Int32)), .val (.int b0), .unset, .unset, .val (.int b1), .unset] [(.int (2 : Int32))])) t
        refine XS.istore X169.here hx rfl (hb hby at_134) rfl (l' := #[.val (.int p0), .val (.int p1), .val (.int p2), .val (.int cp), .val (.int (3 : Int32)), .val (.int s1), .val (.ref b18), .val (.int (5 : Int32)), .val (.int b0), .val (.int (2 : Int32)), .unset, .val (.int b1), .unset]) rfl ?_
        show Steps p.tables e below (T169.setTop (mkF m 136 #[.val (.int p0), .val (.int p1), .val (.int p2), .val (.int cp), .val (.int (3 : Int32)), .val (.int s1), .val (.ref b18), .val (.int (5 : Int32)), .val (.int b0), .val (.int (2 : Int32)), .unset, .val (.int b1), .unset] [])) t
        refine XS.sipush X169.here hx rfl (hb hby at_136) ?_
        show Steps p.tables e below (T169.setTop (mkF m 139 #[.val (.int p0), .val (.int p1), .val (.int p2), .val (.int cp), .val (.int (3 : Int32)), .val (.int s1), .val (.ref b18), .val (.int (5 : Int32)), .val (.int b0), .val (.int (2 : Int32)), .unset, .val (.int b1), .unset] [(.int (128 : Int32))])) t
        refine XS.iload X169.here hx rfl (hb hby at_139) rfl ?_
        show Steps p.tables e below (T169.setTop (mkF m 141 #[.val (.int p0), .val (.int p1), .val (.int p2), .val (.int cp), .val (.int (3 : Int32)), .val (.int s1), .val (.ref b18), .val (.int (5 : Int32)), .val (.int b0), .val (.int (2 : Int32)), .unset, .val (.int b1), .unset] [(.int b0), (.int (128 : Int32))])) t
        refine XS.sipush X169.here hx rfl (hb hby at_141) ?_
        show Steps p.tables e below (T169.setTop (mkF m 144 #[.val (.int p0), .val (.int p1), .val (.int p2), .val (.int cp), .val (.int (3 : Int32)), .val (.int s1), .val (.ref b18), .val (.int (5 : Int32)), .val (.int b0), .val (.int (2 : Int32)), .unset, .val (.int b1), .unset] [(.int (128 : Int32)), (.int b0), (.int (128 : Int32))])) t
        refine XS.isub X169.here hx rfl (hb hby at_144) rfl ?_
        show Steps p.tables e below (T169.setTop (mkF m 145 #[.val (.int p0), .val (.int p1), .val (.int p2), .val (.int cp), .val (.int (3 : Int32)), .val (.int s1), .val (.ref b18), .val (.int (5 : Int32)), .val (.int b0), .val (.int (2 : Int32)), .unset, .val (.int b1), .unset] [(.int (b0 - (128 : Int32))), (.int (128 : Int32))])) t
        refine XS.sipush X169.here hx rfl (hb hby at_145) ?_
        show Steps p.tables e below (T169.setTop (mkF m 148 #[.val (.int p0), .val (.int p1), .val (.int p2), .val (.int cp), .val (.int (3 : Int32)), .val (.int s1), .val (.ref b18), .val (.int (5 : Int32)), .val (.int b0), .val (.int (2 : Int32)), .unset, .val (.int b1), .unset] [(.int (128 : Int32)), (.int (b0 - (128 : Int32))), (.int (128 : Int32))])) t
        refine XS.imul X169.here hx rfl (hb hby at_148) rfl ?_
        show Steps p.tables e below (T169.setTop (mkF m 149 #[.val (.int p0), .val (.int p1), .val (.int p2), .val (.int cp), .val (.int (3 : Int32)), .val (.int s1), .val (.ref b18), .val (.int (5 : Int32)), .val (.int b0), .val (.int (2 : Int32)), .unset, .val (.int b1), .unset] [(.int ((b0 - (128 : Int32)) * (128 : Int32))), (.int (128 : Int32))])) t
        refine XS.iadd X169.here hx rfl (hb hby at_149) rfl ?_
        show Steps p.tables e below (T169.setTop (mkF m 150 #[.val (.int p0), .val (.int p1), .val (.int p2), .val (.int cp), .val (.int (3 : Int32)), .val (.int s1), .val (.ref b18), .val (.int (5 : Int32)), .val (.int b0), .val (.int (2 : Int32)), .unset, .val (.int b1), .unset] [(.int ((128 : Int32) + ((b0 - (128 : Int32)) * (128 : Int32))))])) t
        refine XS.iload X169.here hx rfl (hb hby at_150) rfl ?_
        show Steps p.tables e below (T169.setTop (mkF m 152 #[.val (.int p0), .val (.int p1), .val (.int p2), .val (.int cp), .val (.int (3 : Int32)), .val (.int s1), .val (.ref b18), .val (.int (5 : Int32)), .val (.int b0), .val (.int (2 : Int32)), .unset, .val (.int b1), .unset] [(.int b1), (.int ((128 : Int32) + ((b0 - (128 : Int32)) * (128 : Int32))))])) t
        refine XS.iadd X169.here hx rfl (hb hby at_152) rfl ?_
        show Steps p.tables e below (T169.setTop (mkF m 153 #[.val (.int p0), .val (.int p1), .val (.int p2), .val (.int cp), .val (.int (3 : Int32)), .val (.int s1), .val (.ref b18), .val (.int (5 : Int32)), .val (.int b0), .val (.int (2 : Int32)), .unset, .val (.int b1), .unset] [(.int (((128 : Int32) + ((b0 - (128 : Int32)) * (128 : Int32))) + b1))])) t
        refine XS.istore X169.here hx rfl (hb hby at_153) rfl (l' := #[.val (.int p0), .val (.int p1), .val (.int p2), .val (.int cp), .val (.int (3 : Int32)), .val (.int s1), .val (.ref b18), .val (.int (5 : Int32)), .val (.int b0), .val (.int (2 : Int32)), .val (.int (((128 : Int32) + ((b0 - (128 : Int32)) * (128 : Int32))) + b1)), .val (.int b1), .unset]) rfl ?_
        show Steps p.tables e below (T169.setTop (mkF m 155 #[.val (.int p0), .val (.int p1), .val (.int p2), .val (.int cp), .val (.int (3 : Int32)), .val (.int s1), .val (.ref b18), .val (.int (5 : Int32)), .val (.int b0), .val (.int (2 : Int32)), .val (.int (((128 : Int32) + ((b0 - (128 : Int32)) * (128 : Int32))) + b1)), .val (.int b1), .unset] [])) t
        refine XS.goto X169.here hx rfl (pc0 := 155) (pc' := 214) rfl (hb hby at_155) (by decide) (by decide) ?_
        show Steps p.tables e below (T169.setTop (mkF m 214 #[.val (.int p0), .val (.int p1), .val (.int p2), .val (.int cp), .val (.int (3 : Int32)), .val (.int s1), .val (.ref b18), .val (.int (5 : Int32)), .val (.int b0), .val (.int (2 : Int32)), .val (.int (((128 : Int32) + ((b0 - (128 : Int32)) * (128 : Int32))) + b1)), .val (.int b1), .unset] [])) t
        refine XS.iload X169.here hx rfl (hb hby at_214) rfl ?_
        show Steps p.tables e below (T169.setTop (mkF m 216 #[.val (.int p0), .val (.int p1), .val (.int p2), .val (.int cp), .val (.int (3 : Int32)), .val (.int s1), .val (.ref b18), .val (.int (5 : Int32)), .val (.int b0), .val (.int (2 : Int32)), .val (.int (((128 : Int32) + ((b0 - (128 : Int32)) * (128 : Int32))) + b1)), .val (.int b1), .unset] [(.int (5 : Int32))])) t
        refine XS.iload X169.here hx rfl (hb hby at_216) rfl ?_
        show Steps p.tables e below (T169.setTop (mkF m 218 #[.val (.int p0), .val (.int p1), .val (.int p2), .val (.int cp), .val (.int (3 : Int32)), .val (.int s1), .val (.ref b18), .val (.int (5 : Int32)), .val (.int b0), .val (.int (2 : Int32)), .val (.int (((128 : Int32) + ((b0 - (128 : Int32)) * (128 : Int32))) + b1)), .val (.int b1), .unset] [(.int (3 : Int32)), (.int (5 : Int32))])) t
        refine XS.iload X169.here hx rfl (hb hby at_218) rfl ?_
        show Steps p.tables e below (T169.setTop (mkF m 220 #[.val (.int p0), .val (.int p1), .val (.int p2), .val (.int cp), .val (.int (3 : Int32)), .val (.int s1), .val (.ref b18), .val (.int (5 : Int32)), .val (.int b0), .val (.int (2 : Int32)), .val (.int (((128 : Int32) + ((b0 - (128 : Int32)) * (128 : Int32))) + b1)), .val (.int b1), .unset] [(.int (2 : Int32)), (.int (3 : Int32)), (.int (5 : Int32))])) t
        refine XS.iadd X169.here hx rfl (hb hby at_220) rfl ?_
        exact k
      have hc177 : (5 : Int32) = ((3 : Int32) + (2 : Int32)) := by decide
      refine OwnGo.of (A := T169.setTop (mkF m 221 #[.val (.int p0), .val (.int p1), .val (.int p2), .val (.int cp), .val (.int (3 : Int32)), .val (.int s1), .val (.ref b18), .val (.int (5 : Int32)), .val (.int b0), .val (.int (2 : Int32)), .val (.int (((128 : Int32) + ((b0 - (128 : Int32)) * (128 : Int32))) + b1)), .val (.int b1), .unset] [(.int ((3 : Int32) + (2 : Int32))), (.int (5 : Int32))])) (B := T169.setTop (mkF m 229 #[.val (.int p0), .val (.int p1), .val (.int p2), .val (.int cp), .val (.int (3 : Int32)), .val (.int s1), .val (.ref b18), .val (.int (5 : Int32)), .val (.int b0), .val (.int (2 : Int32)), .val (.int (((128 : Int32) + ((b0 - (128 : Int32)) * (128 : Int32))) + b1)), .val (.int b1), .unset] [(.int cp), (.int (((128 : Int32) + ((b0 - (128 : Int32)) * (128 : Int32))) + b1))])) (fun t k => ?_) ?_
      · show Steps p.tables e below (T169.setTop (mkF m 221 #[.val (.int p0), .val (.int p1), .val (.int p2), .val (.int cp), .val (.int (3 : Int32)), .val (.int s1), .val (.ref b18), .val (.int (5 : Int32)), .val (.int b0), .val (.int (2 : Int32)), .val (.int (((128 : Int32) + ((b0 - (128 : Int32)) * (128 : Int32))) + b1)), .val (.int b1), .unset] [(.int ((3 : Int32) + (2 : Int32))), (.int (5 : Int32))])) t
        refine XS.icmpYes X169.here hx rfl (pc0 := 221) (pc' := 226) rfl (hb hby at_221) rfl (teq hc177).1 (by decide) (by decide) ?_
        show Steps p.tables e below (T169.setTop (mkF m 226 #[.val (.int p0), .val (.int p1), .val (.int p2), .val (.int cp), .val (.int (3 : Int32)), .val (.int s1), .val (.ref b18), .val (.int (5 : Int32)), .val (.int b0), .val (.int (2 : Int32)), .val (.int (((128 : Int32) + ((b0 - (128 : Int32)) * (128 : Int32))) + b1)), .val (.int b1), .unset] [])) t
        refine XS.iload X169.here hx rfl (hb hby at_226) rfl ?_
        show Steps p.tables e below (T169.setTop (mkF m 228 #[.val (.int p0), .val (.int p1), .val (.int p2), .val (.int cp), .val (.int (3 : Int32)), .val (.int s1), .val (.ref b18), .val (.int (5 : Int32)), .val (.int b0), .val (.int (2 : Int32)), .val (.int (((128 : Int32) + ((b0 - (128 : Int32)) * (128 : Int32))) + b1)), .val (.int b1), .unset] [(.int (((128 : Int32) + ((b0 - (128 : Int32)) * (128 : Int32))) + b1))])) t
        refine XS.iloadN X169.here hx rfl (hb hby at_228) rfl ?_
        exact k
      have hc178 : (((128 : Int32) + ((b0 - (128 : Int32)) * (128 : Int32))) + b1) = cp := own_vB cp b0 b1 hcb tb0 tb1
      refine OwnGo.of (A := T169.setTop (mkF m 229 #[.val (.int p0), .val (.int p1), .val (.int p2), .val (.int cp), .val (.int (3 : Int32)), .val (.int s1), .val (.ref b18), .val (.int (5 : Int32)), .val (.int b0), .val (.int (2 : Int32)), .val (.int (((128 : Int32) + ((b0 - (128 : Int32)) * (128 : Int32))) + b1)), .val (.int b1), .unset] [(.int cp), (.int (((128 : Int32) + ((b0 - (128 : Int32)) * (128 : Int32))) + b1))])) (B := T169.setTop (mkF m 234 #[.val (.int p0), .val (.int p1), .val (.int p2), .val (.int cp), .val (.int (3 : Int32)), .val (.int s1), .val (.ref b18), .val (.int (5 : Int32)), .val (.int b0), .val (.int (2 : Int32)), .val (.int (((128 : Int32) + ((b0 - (128 : Int32)) * (128 : Int32))) + b1)), .val (.int b1), .unset] [])) (fun t k => ?_) ?_
      · show Steps p.tables e below (T169.setTop (mkF m 229 #[.val (.int p0), .val (.int p1), .val (.int p2), .val (.int cp), .val (.int (3 : Int32)), .val (.int s1), .val (.ref b18), .val (.int (5 : Int32)), .val (.int b0), .val (.int (2 : Int32)), .val (.int (((128 : Int32) + ((b0 - (128 : Int32)) * (128 : Int32))) + b1)), .val (.int b1), .unset] [(.int cp), (.int (((128 : Int32) + ((b0 - (128 : Int32)) * (128 : Int32))) + b1))])) t
        refine XS.icmpYes X169.here hx rfl (pc0 := 229) (pc' := 234) rfl (hb hby at_229) rfl (teq hc178).1 (by decide) (by decide) ?_
        exact k
      exact J234 T169 _ _ (.val (.int p0)) (.val (.int p1)) (.val (.int p2)) (.val (.int cp)) (.val (.int b0)) (.val (.int (2 : Int32))) (.val (.int (((128 : Int32) + ((b0 - (128 : Int32)) * (128 : Int32))) + b1))) (.val (.int b1)) (.unset) (3 : Int32) s1 (5 : Int32) b18 ((s1).toInt8.toInt32) ((s1).toInt8.toInt32) ((s1).toInt8.toInt32) (((((128 : Int32) ||| (((cp - ((128 : Int64).toInt32)).toUInt32 >>> ((7 : Int32) &&& 31).toUInt32).toInt32)).toInt8.toInt32)).toInt8.toInt32) (((((cp - ((128 : Int64).toInt32)) &&& (127 : Int32)).toInt8.toInt32)).toInt8.toInt32) ((s1).toInt8.toInt32) ((s1).toInt8.toInt32) ((s1).toInt8.toInt32) k18 X169 rfl N169 f170 y169_0 (by simp [own_k0, hs]) (by simp [own_k1, hs]) (by simp [own_k2, hs]) (by simp [own_k3, hs]) (by simp [own_k4, hs]) (by simp [own_k5, hs]) (by simp [own_k6, hs]) (by simp [own_k7, hs])
    · show OwnGo p.tables e below _ (T66.setTop (mkF m 78 #[.val (.int p0), .val (.int p1), .val (.int p2), .val (.int cp), .val (.int (3 : Int32)), .val (.int s1), .val (.ref b18), .unset, .unset, .unset, .unset, .unset, .unset] [(.int (3 : Int32)), (.ref b18), (.int cp)]))
      obtain ⟨_, _, ⟨T179, L179, k179, n179⟩, -, X179, ⟨Lc179, hQ179, l179, y179, z179⟩, st179⟩ := Jvm.LawKit.callS X66 hx (y := (⟨"com/example/sevenfold/sevenfold/Natural", "writeCodePoint", "(I[BI)I"⟩ : MethodName)) hown (mvT hZ (hw _ (List.mem_of_getElem? (i := 3) rfl))) (mvT hZ (hw _ (List.mem_of_getElem? (i := 4) rfl))) (mvT hZ (hw _ (List.mem_of_getElem? (i := 5) rfl))) (mvT hZ (hw _ (List.mem_of_getElem? (i := 6) rfl))) (by decide) (backOf (W := 0) (rm1_3C l Z aw hw [] cp b18 (s1).toInt8.toInt32 (s1).toInt8.toInt32 (s1).toInt8.toInt32 (s1).toInt8.toInt32 (s1).toInt8.toInt32 (s1).toInt8.toInt32 (s1).toInt8.toInt32 (s1).toInt8.toInt32 k18 wF kf h66 n0 f67 f68 f69 f70 g_b18 ne_wF_b18 hA hB) hZ (hw _ (List.mem_of_getElem? (i := 6) rfl)) (hw _ (List.mem_of_getElem? (i := 5) rfl)) (by decide) (by decide)) (g := (mkF m 78 #[.val (.int p0), .val (.int p1), .val (.int p2), .val (.int cp), .val (.int (3 : Int32)), .val (.int s1), .val (.ref b18), .unset, .unset, .unset, .unset, .unset, .unset] [(.int (3 : Int32)), (.ref b18), (.int cp)])) rfl (by rw [hml]; rfl) (argsL := [(.int cp), (.ref b18), (.int (3 : Int32))]) (rest := []) (lenOf pd_3 rfl) rfl (by show 2 * 0 + _ ≤ _; exact Nat.le_of_eq rfl) (hb hby at_78) (fun _ _ => ⟨rfl, e66, (by decide : 1 + 0 ≤ _), (by decide : 8 + 0 ≤ _)⟩)
      dsimp only [Pt.U, Pt.locs, Pt.cells, Pt.slots] at X179 l179 y179 z179 st179 hQ179
      subst l179 y179 z179
      obtain ⟨rfl, N179q, K179, y179_0⟩ := hQ179
      have f180 : n0 ≤ T179.heap.size := Nat.le_trans f67 K179.1
      have f181 : Sta Z T179.heap "com/example/sevenfold/sevenfold/Natural" "FIRST_OF_LENGTH" "[J" (.ref wF) := own_sta_keep f68 K179 (allS (own_ns_arv f70) all0)
      have f182 : Arv Z T179.heap wF kf .long (10 : Int32) [(.long (0 : Int64)), (.long (0 : Int64)), (.long (128 : Int64)), (.long (16512 : Int64)), (.long (2113664 : Int64)), (.long (270549120 : Int64)), (.long (34630287488 : Int64)), (.long (4432676798592 : Int64)), (.long (567382630219904 : Int64)), (.long (72624976668147840 : Int64))] (.long (0 : Int64)) := f69.keep K179 (ninS ne_wF_b18 nin0)
      have N179 := Fr.app N66 N179q
      refine OwnGo.of st179 ?_
      show OwnGo p.tables e below _ (T179.setTop (mkF m 81 #[.val (.int p0), .val (.int p1), .val (.int p2), .val (.int cp), .val (.int (3 : Int32)), .val (.int s1), .val (.ref b18), .unset, .unset, .unset, .unset, .unset, .unset] [(.int (6 : Int32))]))
      refine OwnGo.of (A := T179.setTop (mkF m 81 #[.val (.int p0), .val (.int p1), .val (.int p2), .val (.int cp), .val (.int (3 : Int32)), .val (.int s1), .val (.ref b18), .unset, .unset, .unset, .unset, .unset, .unset] [(.int (6 : Int32))])) (B := T179.setTop (mkF m 87 #[.val (.int p0), .val (.int p1), .val (.int p2), .val (.int cp), .val (.int (3 : Int32)), .val (.int s1), .val (.ref b18), .val (.int (6 : Int32)), .unset, .unset, .unset, .unset, .unset] [(.int (3 : Int32)), (.ref b18)])) (fun t k => ?_) ?_
      · show Steps p.tables e below (T179.setTop (mkF m 81 #[.val (.int p0), .val (.int p1), .val (.int p2), .val (.int cp), .val (.int (3 : Int32)), .val (.int s1), .val (.ref b18), .unset, .unset, .unset, .unset, .unset, .unset] [(.int (6 : Int32))])) t
        refine XS.istore X179.here hx rfl (hb hby at_81) rfl (l' := #[.val (.int p0), .val (.int p1), .val (.int p2), .val (.int cp), .val (.int (3 : Int32)), .val (.int s1), .val (.ref b18), .val (.int (6 : Int32)), .unset, .unset, .unset, .unset, .unset]) rfl ?_
        show Steps p.tables e below (T179.setTop (mkF m 83 #[.val (.int p0), .val (.int p1), .val (.int p2), .val (.int cp), .val (.int (3 : Int32)), .val (.int s1), .val (.ref b18), .val (.int (6 : Int32)), .unset, .unset, .unset, .unset, .unset] [])) t
        refine XS.aload X179.here hx rfl (hb hby at_83) rfl rfl ?_
        show Steps p.tables e below (T179.setTop (mkF m 85 #[.val (.int p0), .val (.int p1), .val (.int p2), .val (.int cp), .val (.int (3 : Int32)), .val (.int s1), .val (.ref b18), .val (.int (6 : Int32)), .unset, .unset, .unset, .unset, .unset] [(.ref b18)])) t
        refine XS.iload X179.here hx rfl (hb hby at_85) rfl ?_
        exact k
      have cq183 := y179_0
      obtain ⟨clq183, Arq183, qq183, Sq183, Nq183, Hq183, Gq183⟩ := cq183
      have hinq183 := inb_of (j := (3 : Int32)) Sq183 ⟨by decide, by decide⟩
      refine OwnGo.of (X179.baloadBytes hx (j := (3 : Int32)) (v := (.int ((((128 : Int32) ||| (((cp - ((16512 : Int64).toInt32)).toUInt32 >>> ((14 : Int32) &&& 31).toUInt32).toInt32)).toInt8.toInt32)).toInt8.toInt32)) Arq183.1 (State.isArrayOf_alike hZ.alike Arq183.2.1) Arq183.2.2 hinq183 (Hq183.at hinq183 rfl) (g := (mkF m 87 #[.val (.int p0), .val (.int p1), .val (.int p2), .val (.int cp), .val (.int (3 : Int32)), .val (.int s1), .val (.ref b18), .val (.int (6 : Int32)), .unset, .unset, .unset, .unset, .unset] [(.int (3 : Int32)), (.ref b18)])) rfl rfl (hb hby at_87)) ?_
      show OwnGo p.tables e below _ (T179.setTop (mkF m 88 #[.val (.int p0), .val (.int p1), .val (.int p2), .val (.int cp), .val (.int (3 : Int32)), .val (.int s1), .val (.ref b18), .val (.int (6 : Int32)), .unset, .unset, .unset, .unset, .unset] [(.int ((((128 : Int32) ||| (((cp - ((16512 : Int64).toInt32)).toUInt32 >>> ((14 : Int32) &&& 31).toUInt32).toInt32)).toInt8.toInt32)).toInt8.toInt32)]))
      refine OwnGo.of (A := T179.setTop (mkF m 88 #[.val (.int p0), .val (.int p1), .val (.int p2), .val (.int cp), .val (.int (3 : Int32)), .val (.int s1), .val (.ref b18), .val (.int (6 : Int32)), .unset, .unset, .unset, .unset, .unset] [(.int ((((128 : Int32) ||| (((cp - ((16512 : Int64).toInt32)).toUInt32 >>> ((14 : Int32) &&& 31).toUInt32).toInt32)).toInt8.toInt32)).toInt8.toInt32)])) (B := T179.setTop (mkF m 94 #[.val (.int p0), .val (.int p1), .val (.int p2), .val (.int cp), .val (.int (3 : Int32)), .val (.int s1), .val (.ref b18), .val (.int (6 : Int32)), .val (.int (((((128 : Int32) ||| (((cp - ((16512 : Int64).toInt32)).toUInt32 >>> ((14 : Int32) &&& 31).toUInt32).toInt32)).toInt8.toInt32)).toInt8.toInt32 &&& (255 : Int32))), .unset, .unset, .unset, .unset] [])) (fun t k => ?_) ?_
      · show Steps p.tables e below (T179.setTop (mkF m 88 #[.val (.int p0), .val (.int p1), .val (.int p2), .val (.int cp), .val (.int (3 : Int32)), .val (.int s1), .val (.ref b18), .val (.int (6 : Int32)), .unset, .unset, .unset, .unset, .unset] [(.int ((((128 : Int32) ||| (((cp - ((16512 : Int64).toInt32)).toUInt32 >>> ((14 : Int32) &&& 31).toUInt32).toInt32)).toInt8.toInt32)).toInt8.toInt32)])) t
        refine XS.sipush X179.here hx rfl (hb hby at_88) ?_
        show Steps p.tables e below (T179.setTop (mkF m 91 #[.val (.int p0), .val (.int p1), .val (.int p2), .val (.int cp), .val (.int (3 : Int32)), .val (.int s1), .val (.ref b18), .val (.int (6 : Int32)), .unset, .unset, .unset, .unset, .unset] [(.int (255 : Int32)), (.int ((((128 : Int32) ||| (((cp - ((16512 : Int64).toInt32)).toUInt32 >>> ((14 : Int32) &&& 31).toUInt32).toInt32)).toInt8.toInt32)).toInt8.toInt32)])) t
        refine XS.iand X179.here hx rfl (hb hby at_91) rfl ?_
        show Steps p.tables e below (T179.setTop (mkF m 92 #[.val (.int p0), .val (.int p1), .val (.int p2), .val (.int cp), .val (.int (3 : Int32)), .val (.int s1), .val (.ref b18), .val (.int (6 : Int32)), .unset, .unset, .unset, .unset, .unset] [(.int (((((128 : Int32) ||| (((cp - ((16512 : Int64).toInt32)).toUInt32 >>> ((14 : Int32) &&& 31).toUInt32).toInt32)).toInt8.toInt32)).toInt8.toInt32 &&& (255 : Int32)))])) t
        refine XS.istore X179.here hx rfl (hb hby at_92) rfl (l' := #[.val (.int p0), .val (.int p1), .val (.int p2), .val (.int cp), .val (.int (3 : Int32)), .val (.int s1), .val (.ref b18), .val (.int (6 : Int32)), .val (.int (((((128 : Int32) ||| (((cp - ((16512 : Int64).toInt32)).toUInt32 >>> ((14 : Int32) &&& 31).toUInt32).toInt32)).toInt8.toInt32)).toInt8.toInt32 &&& (255 : Int32))), .unset, .unset, .unset, .unset]) rfl ?_
        exact k
      obtain ⟨b0, hb0⟩ : ∃ z, z = (((((128 : Int32) ||| (((cp - ((16512 : Int64).toInt32)).toUInt32 >>> ((14 : Int32) &&& 31).toUInt32).toInt32)).toInt8.toInt32)).toInt8.toInt32 &&& (255 : Int32)) := ⟨_, rfl⟩
      have tb0 : b0.toInt = 128 + (cp.toInt - 16512) / 16384 := by subst hb0; exact own_C0 cp hcb hB
      rw [← hb0]
      show OwnGo p.tables e below _ (T179.setTop (mkF m 94 #[.val (.int p0), .val (.int p1), .val (.int p2), .val (.int cp), .val (.int (3 : Int32)), .val (.int s1), .val (.ref b18), .val (.int (6 : Int32)), .val (.int b0), .unset, .unset, .unset, .unset] []))
      refine OwnGo.of (A := T179.setTop (mkF m 94 #[.val (.int p0), .val (.int p1), .val (.int p2), .val (.int cp), .val (.int (3 : Int32)), .val (.int s1), .val (.ref b18), .val (.int (6 : Int32)), .val (.int b0), .unset, .unset, .unset, .unset] [])) (B := T179.setTop (mkF m 99 #[.val (.int p0), .val (.int p1), .val (.int p2), .val (.int cp), .val (.int (3 : Int32)), .val (.int s1), .val (.ref b18), .val (.int (6 : Int32)), .val (.int b0), .unset, .unset, .unset, .unset] [(.int (128 : Int32)), (.int b0)])) (fun t k => ?_) ?_
      · show Steps p.tables e below (T179.setTop (mkF m 94 #[.val (.int p0), .val (.int p1), .val (.int p2), .val (.int cp), .val (.int (3 : Int32)), .val (.int s1), .val (.ref b18), .val (.int (6 : Int32)), .val (.int b0), .unset, .unset, .unset, .unset] [])) t
        refine XS.iload X179.here hx rfl (hb hby at_94) rfl ?_
        show Steps p.tables e below (T179.setTop (mkF m 96 #[.val (.int p0), .val (.int p1), .val (.int p2), .val (.int cp), .val (.int (3 : Int32)), .val (.int s1), .val (.ref b18), .val (.int (6 : Int32)), .val (.int b0), .unset, .unset, .unset, .unset] [(.int b0)])) t
        refine XS.sipush X179.here hx rfl (hb hby at_96) ?_
        exact k
      have hc184 : ¬ (b0 < (128 : Int32)) := by rw [own_lt128]; rw [own_127] at hA; rw [own_l16] at hB; omega
      refine OwnGo.of (A := T179.setTop (mkF m 99 #[.val (.int p0), .val (.int p1), .val (.int p2), .val (.int cp), .val (.int (3 : Int32)), .val (.int s1), .val (.ref b18), .val (.int (6 : Int32)), .val (.int b0), .unset, .unset, .unset, .unset] [(.int (128 : Int32)), (.int b0)])) (B := T179.setTop (mkF m 118 #[.val (.int p0), .val (.int p1), .val (.int p2), .val (.int cp), .val (.int (3 : Int32)), .val (.int s1), .val (.ref b18), .val (.int (6 : Int32)), .val (.int b0), .unset, .unset, .unset, .unset] [(.int ((3 : Int32) + (1 : Int32))), (.ref b18)])) (fun t k => ?_) ?_
      · show Steps p.tables e below (T179.setTop (mkF m 99 #[.val (.int p0), .val (.int p1), .val (.int p2), .val (.int cp), .val (.int (3 : Int32)), .val (.int s1), .val (.ref b18), .val (.int (6 : Int32)), .val (.int b0), .unset, .unset, .unset, .unset] [(.int (128 : Int32)), (.int b0)])) t
        refine XS.icmpYes X179.here hx rfl (pc0 := 99) (pc' := 112) rfl (hb hby at_99) rfl (flt hc184).2.1 (by decide) (by decide) ?_
        show Steps p.tables e below (T179.setTop (mkF m 112 #[.val (.int p0), .val (.int p1), .val (.int p2), .val (.int cp), .val (.int (3 : Int32)), .val (.int s1), .val (.ref b18), .val (.int (6 : Int32)), .val (.int b0), .unset, .unset, .unset, .unset] [])) t
        refine XS.aload X179.here hx rfl (hb hby at_112) rfl rfl ?_
        show Steps p.tables e below (T179.setTop (mkF m 114 #[.val (.int p0), .val (.int p1), .val (.int p2), .val (.int cp), .val (.int (3 : Int32)), .val (.int s1), .val (.ref b18), .val (.int (6 : Int32)), .val (.int b0), .unset, .unset, .unset, .unset] [(.ref b18)])) t
        refine XS.iload X179.here hx rfl (hb hby at_114) rfl ?_
        show Steps p.tables e below (T179.setTop (mkF m 116 #[.val (.int p0), .val (.int p1), .val (.int p2), .val (.int cp), .val (.int (3 : Int32)), .val (.int s1), .val (.ref b18), .val (.int (6 : Int32)), .val (.int b0), .unset, .unset, .unset, .unset] [(.int (3 : Int32)), (.ref b18)])) t
        refine XS.iconst X179.here hx rfl (hb hby at_116) ?_
        show Steps p.tables e below (T179.setTop (mkF m 117 #[.val (.int p0), .val (.int p1), .val (.int p2), .val (.int cp), .val (.int (3 : Int32)), .val (.int s1), .val (.ref b18), .val (.int (6 : Int32)), .val (.int b0), .unset, .unset, .unset, .unset] [(.int (1 : Int32)), (.int (3 : Int32)), (.ref b18)])) t
        refine XS.iadd X179.here hx rfl (hb hby at_117) rfl ?_
        exact k
      rw [show ((3 : Int32) + (1 : Int32)) = (4 : Int32) from by decide]
      show OwnGo p.tables e below _ (T179.setTop (mkF m 118 #[.val (.int p0), .val (.int p1), .val (.int p2), .val (.int cp), .val (.int (3 : Int32)), .val (.int s1), .val (.ref b18), .val (.int (6 : Int32)), .val (.int b0), .unset, .unset, .unset, .unset] [(.int (4 : Int32)), (.ref b18)]))
      have cq185 := y179_0
      obtain ⟨clq185, Arq185, qq185, Sq185, Nq185, Hq185, Gq185⟩ := cq185
      have hinq185 := inb_of (j := (4 : Int32)) Sq185 ⟨by decide, by decide⟩
      refine OwnGo.of (X179.baloadBytes hx (j := (4 : Int32)) (v := (.int ((((128 : Int32) ||| ((((cp - ((16512 : Int64).toInt32)).toUInt32 >>> ((7 : Int32) &&& 31).toUInt32).toInt32) &&& (127 : Int32))).toInt8.toInt32)).toInt8.toInt32)) Arq185.1 (State.isArrayOf_alike hZ.alike Arq185.2.1) Arq185.2.2 hinq185 (Hq185.at hinq185 rfl) (g := (mkF m 118 #[.val (.int p0), .val (.int p1), .val (.int p2), .val (.int cp), .val (.int (3 : Int32)), .val (.int s1), .val (.ref b18), .val (.int (6 : Int32)), .val (.int b0), .unset, .unset, .unset, .unset] [(.int (4 : Int32)), (.ref b18)])) rfl rfl (hb hby at_118)) ?_
      show OwnGo p.tables e below _ (T179.setTop (mkF m 119 #[.val (.int p0), .val (.int p1), .val (.int p2), .val (.int cp), .val (.int (3 : Int32)), .val (.int s1), .val (.ref b18), .val (.int (6 : Int32)), .val (.int b0), .unset, .unset, .unset, .unset] [(.int ((((128 : Int32) ||| ((((cp - ((16512 : Int64).toInt32)).toUInt32 >>> ((7 : Int32) &&& 31).toUInt32).toInt32) &&& (127 : Int32))).toInt8.toInt32)).toInt8.toInt32)]))
      refine OwnGo.of (A := T179.setTop (mkF m 119 #[.val (.int p0), .val (.int p1), .val (.int p2), .val (.int cp), .val (.int (3 : Int32)), .val (.int s1), .val (.ref b18), .val (.int (6 : Int32)), .val (.int b0), .unset, .unset, .unset, .unset] [(.int ((((128 : Int32) ||| ((((cp - ((16512 : Int64).toInt32)).toUInt32 >>> ((7 : Int32) &&& 31).toUInt32).toInt32) &&& (127 : Int32))).toInt8.toInt32)).toInt8.toInt32)])) (B := T179.setTop (mkF m 125 #[.val (.int p0), .val (.int p1), .val (.int p2), .val (.int cp), .val (.int (3 : Int32)), .val (.int s1), .val (.ref b18), .val (.int (6 : Int32)), .val (.int b0), .unset, .unset, .val (.int (((((128 : Int32) ||| ((((cp - ((16512 : Int64).toInt32)).toUInt32 >>> ((7 : Int32) &&& 31).toUInt32).toInt32) &&& (127 : Int32))).toInt8.toInt32)).toInt8.toInt32 &&& (255 : Int32))), .unset] [])) (fun t k => ?_) ?_
      · show Steps p.tables e below (T179.setTop (mkF m 119 #[.val (.int p0), .val (.int p1), .val (.int p2), .val (.int cp), .val (.int (3 : Int32)), .val (.int s1), .val (.ref b18), .val (.int (6 : Int32)), .val (.int b0), .unset, .unset, .unset, .unset] [(.int ((((128 : Int32) ||| ((((cp - ((16512 : Int64).toInt32)).toUInt32 >>> ((7 : Int32) &&& 31).toUInt32).toInt32) &&& (127 : Int32))).toInt8.toInt32)).toInt8.toInt32)])) t
        refine XS.sipush X179.here hx rfl (hb hby at_119) ?_
        show Steps p.tables e below (T179.setTop (mkF m 122 #[.val (.int p0), .val (.int p1), .val (.int p2), .val (.int cp), .val (.int (3 : Int32)), .val (.int s1), .val (.ref b18), .val (.int (6 : Int32)), .val (.int b0), .unset, .unset, .unset, .unset] [(.int (255 : Int32)), (.int ((((128 : Int32) ||| ((((cp - ((16512 : Int64).toInt32)).toUInt32 >>> ((7 : Int32) &&& 31).toUInt32).toInt32) &&& (127 : Int32))).toInt8.toInt32)).toInt8.toInt32)])) t
        refine XS.iand X179.here hx rfl (hb hby at_122) rfl ?_
        show Steps p.tables e below (T179.setTop (mkF m 123 #[.val (.int p0), .val (.int p1), .val (.int p2), .val (.int cp), .val (.int (3 : Int32)), .val (.int s1), .val (.ref b18), .val (.int (6 : Int32)), .val (.int b0), .unset, .unset, .unset, .unset] [(.int (((((128 : Int32) ||| ((((cp - ((16512 : Int64).toInt32)).toUInt32 >>> ((7 : Int32) &&& 31).toUInt32).toInt32) &&& (127 : Int32))).toInt8.toInt32)).toInt8.toInt32 &&& (255 : Int32)))])) t
        refine XS.istore X179.here hx rfl (hb hby at_123) rfl (l' := #[.val (.int p0), .val (.int p1), .val (.int p2), .val (.int cp), .val (.int (3 : Int32)), .val (.int s1), .val (.ref b18), .val (.int (6 : Int32)), .val (.int b0), .unset, .unset, .val (.int (((((128 : Int32) ||| ((((cp - ((16512 : Int64).toInt32)).toUInt32 >>> ((7 : Int32) &&& 31).toUInt32).toInt32) &&& (127 : Int32))).toInt8.toInt32)).toInt8.toInt32 &&& (255 : Int32))), .unset]) rfl ?_
        exact k
      obtain ⟨b1, hb1⟩ : ∃ z, z = (((((128 : Int32) ||| ((((cp - ((16512 : Int64).toInt32)).toUInt32 >>> ((7 : Int32) &&& 31).toUInt32).toInt32) &&& (127 : Int32))).toInt8.toInt32)).toInt8.toInt32 &&& (255 : Int32)) := ⟨_, rfl⟩
      have tb1 : b1.toInt = 128 + (cp.toInt - 16512) / 128 % 128 := by subst hb1; exact own_C1 cp hcb hB
      rw [← hb1]
      show OwnGo p.tables e below _ (T179.setTop (mkF m 125 #[.val (.int p0), .val (.int p1), .val (.int p2), .val (.int cp), .val (.int (3 : Int32)), .val (.int s1), .val (.ref b18), .val (.int (6 : Int32)), .val (.int b0), .unset, .unset, .val (.int b1), .unset] []))
      refine OwnGo.of (A := T179.setTop (mkF m 125 #[.val (.int p0), .val (.int p1), .val (.int p2), .val (.int cp), .val (.int (3 : Int32)), .val (.int s1), .val (.ref b18), .val (.int (6 : Int32)), .val (.int b0), .unset, .unset, .val (.int b1), .unset] [])) (B := T179.setTop (mkF m 130 #[.val (.int p0), .val (.int p1), .val (.int p2), .val (.int cp), .val (.int (3 : Int32)), .val (.int s1), .val (.ref b18), .val (.int (6 : Int32)), .val (.int b0), .unset, .unset, .val (.int b1), .unset] [(.int (128 : Int32)), (.int b1)])) (fun t k => ?_) ?_
      · show Steps p.tables e below (T179.setTop (mkF m 125 #[.val (.int p0), .val (.int p1), .val (.int p2), .val (.int cp), .val (.int (3 : Int32)), .val (.int s1), .val (.ref b18), .val (.int (6 : Int32)), .val (.int b0), .unset, .unset, .val (.int b1), .unset] [])) t
        refine XS.iload X179.here hx rfl (hb hby at_125) rfl ?_
        show Steps p.tables e below (T179.setTop (mkF m 127 #[.val (.int p0), .val (.int p1), .val (.int p2), .val (.int cp), .val (.int (3 : Int32)), .val (.int s1), .val (.ref b18), .val (.int (6 : Int32)), .val (.int b0), .unset, .unset, .val (.int b1), .unset] [(.int b1)])) t
        refine XS.sipush X179.here hx rfl (hb hby at_127) ?_
        exact k
      have hc186 : ¬ (b1 < (128 : Int32)) := by rw [own_lt128]; rw [own_127] at hA; rw [own_l16] at hB; omega
      refine OwnGo.of (A := T179.setTop (mkF m 130 #[.val (.int p0), .val (.int p1), .val (.int p2), .val (.int cp), .val (.int (3 : Int32)), .val (.int s1), .val (.ref b18), .val (.int (6 : Int32)), .val (.int b0), .unset, .unset, .val (.int b1), .unset] [(.int (128 : Int32)), (.int b1)])) (B := T179.setTop (mkF m 164 #[.val (.int p0), .val (.int p1), .val (.int p2), .val (.int cp), .val (.int (3 : Int32)), .val (.int s1), .val (.ref b18), .val (.int (6 : Int32)), .val (.int b0), .unset, .unset, .val (.int b1), .unset] [(.int ((3 : Int32) + (2 : Int32))), (.ref b18)])) (fun t k => ?_) ?_
      · show Steps p.tables e below (T179.setTop (mkF m 130 #[.val (.int p0), .val (.int p1), .val (.int p2), .val (.int cp), .val (.int (3 : Int32)), .val (.int s1), .val (.ref b18), .val (.int (6 : Int32)), .val (.int b0), .unset, .unset, .val (.int b1), .unset] [(.int (128 : Int32)), (.int b1)])) t
        refine XS.icmpYes X179.here hx rfl (pc0 := 130) (pc' := 158) rfl (hb hby at_130) rfl (flt hc186).2.1 (by decide) (by decide) ?_
        show Steps p.tables e below (T179.setTop (mkF m 158 #[.val (.int p0), .val (.int p1), .val (.int p2), .val (.int cp), .val (.int (3 : Int32)), .val (.int s1), .val (.ref b18), .val (.int (6 : Int32)), .val (.int b0), .unset, .unset, .val (.int b1), .unset] [])) t
        refine XS.aload X179.here hx rfl (hb hby at_158) rfl rfl ?_
        show Steps p.tables e below (T179.setTop (mkF m 160 #[.val (.int p0), .val (.int p1), .val (.int p2), .val (.int cp), .val (.int (3 : Int32)), .val (.int s1), .val (.ref b18), .val (.int (6 : Int32)), .val (.int b0), .unset, .unset, .val (.int b1), .unset] [(.ref b18)])) t
        refine XS.iload X179.here hx rfl (hb hby at_160) rfl ?_
        show Steps p.tables e below (T179.setTop (mkF m 162 #[.val (.int p0), .val (.int p1), .val (.int p2), .val (.int cp), .val (.int (3 : Int32)), .val (.int s1), .val (.ref b18), .val (.int (6 : Int32)), .val (.int b0), .unset, .unset, .val (.int b1), .unset] [(.int (3 : Int32)), (.ref b18)])) t
        refine XS.iconst X179.here hx rfl (hb hby at_162) ?_
        show Steps p.tables e below (T179.setTop (mkF m 163 #[.val (.int p0), .val (.int p1), .val (.int p2), .val (.int cp), .val (.int (3 : Int32)), .val (.int s1), .val (.ref b18), .val (.int (6 : Int32)), .val (.int b0), .unset, .unset, .val (.int b1), .unset] [(.int (2 : Int32)), (.int (3 : Int32)), (.ref b18)])) t
        refine XS.iadd X179.here hx rfl (hb hby at_163) rfl ?_
        exact k
      rw [show ((3 : Int32) + (2 : Int32)) = (5 : Int32) from by decide]
      show OwnGo p.tables e below _ (T179.setTop (mkF m 164 #[.val (.int p0), .val (.int p1), .val (.int p2), .val (.int cp), .val (.int (3 : Int32)), .val (.int s1), .val (.ref b18), .val (.int (6 : Int32)), .val (.int b0), .unset, .unset, .val (.int b1), .unset] [(.int (5 : Int32)), (.ref b18)]))
      have cq187 := y179_0
      obtain ⟨clq187, Arq187, qq187, Sq187, Nq187, Hq187, Gq187⟩ := cq187
      have hinq187 := inb_of (j := (5 : Int32)) Sq187 ⟨by decide, by decide⟩
      refine OwnGo.of (X179.baloadBytes hx (j := (5 : Int32)) (v := (.int ((((cp - ((16512 : Int64).toInt32)) &&& (127 : Int32)).toInt8.toInt32)).toInt8.toInt32)) Arq187.1 (State.isArrayOf_alike hZ.alike Arq187.2.1) Arq187.2.2 hinq187 (Hq187.at hinq187 rfl) (g := (mkF m 164 #[.val (.int p0), .val (.int p1), .val (.int p2), .val (.int cp), .val (.int (3 : Int32)), .val (.int s1), .val (.ref b18), .val (.int (6 : Int32)), .val (.int b0), .unset, .unset, .val (.int b1), .unset] [(.int (5 : Int32)), (.ref b18)])) rfl rfl (hb hby at_164)) ?_
      show OwnGo p.tables e below _ (T179.setTop (mkF m 165 #[.val (.int p0), .val (.int p1), .val (.int p2), .val (.int cp), .val (.int (3 : Int32)), .val (.int s1), .val (.ref b18), .val (.int (6 : Int32)), .val (.int b0), .unset, .unset, .val (.int b1), .unset] [(.int ((((cp - ((16512 : Int64).toInt32)) &&& (127 : Int32)).toInt8.toInt32)).toInt8.toInt32)]))
      refine OwnGo.of (A := T179.setTop (mkF m 165 #[.val (.int p0), .val (.int p1), .val (.int p2), .val (.int cp), .val (.int (3 : Int32)), .val (.int s1), .val (.ref b18), .val (.int (6 : Int32)), .val (.int b0), .unset, .unset, .val (.int b1), .unset] [(.int ((((cp - ((16512 : Int64).toInt32)) &&& (127 : Int32)).toInt8.toInt32)).toInt8.toInt32)])) (B := T179.setTop (mkF m 171 #[.val (.int p0), .val (.int p1), .val (.int p2), .val (.int cp), .val (.int (3 : Int32)), .val (.int s1), .val (.ref b18), .val (.int (6 : Int32)), .val (.int b0), .unset, .unset, .val (.int b1), .val (.int (((((cp - ((16512 : Int64).toInt32)) &&& (127 : Int32)).toInt8.toInt32)).toInt8.toInt32 &&& (255 : Int32)))] [])) (fun t k => ?_) ?_
      · show Steps p.tables e below (T179.setTop (mkF m 165 #[.val (.int p0), .val (.int p1), .val (.int p2), .val (.int cp), .val (.int (3 : Int32)), .val (.int s1), .val (.ref b18), .val (.int (6 : Int32)), .val (.int b0), .unset, .unset, .val (.int b1), .unset] [(.int ((((cp - ((16512 : Int64).toInt32)) &&& (127 : Int32)).toInt8.toInt32)).toInt8.toInt32)])) t
        refine XS.sipush X179.here hx rfl (hb hby at_165) ?_
        show Steps p.tables e below (T179.setTop (mkF m 168 #[.val (.int p0), .val (.int p1), .val (.int p2), .val (.int cp), .val (.int (3 : Int32)), .val (.int s1), .val (.ref b18), .val (.int (6 : Int32)), .val (.int b0), .unset, .unset, .val (.int b1), .unset] [(.int (255 : Int32)), (.int ((((cp - ((16512 : Int64).toInt32)) &&& (127 : Int32)).toInt8.toInt32)).toInt8.toInt32)])) t
        refine XS.iand X179.here hx rfl (hb hby at_168) rfl ?_
        show Steps p.tables e below (T179.setTop (mkF m 169 #[.val (.int p0), .val (.int p1), .val (.int p2), .val (.int cp), .val (.int (3 : Int32)), .val (.int s1), .val (.ref b18), .val (.int (6 : Int32)), .val (.int b0), .unset, .unset, .val (.int b1), .unset] [(.int (((((cp - ((16512 : Int64).toInt32)) &&& (127 : Int32)).toInt8.toInt32)).toInt8.toInt32 &&& (255 : Int32)))])) t
        refine XS.istore X179.here hx rfl (hb hby at_169) rfl (l' := #[.val (.int p0), .val (.int p1), .val (.int p2), .val (.int cp), .val (.int (3 : Int32)), .val (.int s1), .val (.ref b18), .val (.int (6 : Int32)), .val (.int b0), .unset, .unset, .val (.int b1), .val (.int (((((cp - ((16512 : Int64).toInt32)) &&& (127 : Int32)).toInt8.toInt32)).toInt8.toInt32 &&& (255 : Int32)))]) rfl ?_
        exact k
      obtain ⟨b2, hb2⟩ : ∃ z, z = (((((cp - ((16512 : Int64).toInt32)) &&& (127 : Int32)).toInt8.toInt32)).toInt8.toInt32 &&& (255 : Int32)) := ⟨_, rfl⟩
      have tb2 : b2.toInt = (cp.toInt - 16512) % 128 := by subst hb2; exact own_C2 cp hcb hB
      rw [← hb2]
      show OwnGo p.tables e below _ (T179.setTop (mkF m 171 #[.val (.int p0), .val (.int p1), .val (.int p2), .val (.int cp), .val (.int (3 : Int32)), .val (.int s1), .val (.ref b18), .val (.int (6 : Int32)), .val (.int b0), .unset, .unset, .val (.int b1), .val (.int b2)] []))
      refine OwnGo.of (A := T179.setTop (mkF m 171 #[.val (.int p0), .val (.int p1), .val (.int p2), .val (.int cp), .val (.int (3 : Int32)), .val (.int s1), .val (.ref b18), .val (.int (6 : Int32)), .val (.int b0), .unset, .unset, .val (.int b1), .val (.int b2)] [])) (B := T179.setTop (mkF m 176 #[.val (.int p0), .val (.int p1), .val (.int p2), .val (.int cp), .val (.int (3 : Int32)), .val (.int s1), .val (.ref b18), .val (.int (6 : Int32)), .val (.int b0), .unset, .unset, .val (.int b1), .val (.int b2)] [(.int (128 : Int32)), (.int b2)])) (fun t k => ?_) ?_
      · show Steps p.tables e below (T179.setTop (mkF m 171 #[.val (.int p0), .val (.int p1), .val (.int p2), .val (.int cp), .val (.int (3 : Int32)), .val (.int s1), .val (.ref b18), .val (.int (6 : Int32)), .val (.int b0), .unset, .unset, .val (.int b1), .val (.int b2)] [])) t
        refine XS.iload X179.here hx rfl (hb hby at_171) rfl ?_
        show Steps p.tables e below (T179.setTop (mkF m 173 #[.val (.int p0), .val (.int p1), .val (.int p2), .val (.int cp), .val (.int (3 : Int32)), .val (.int s1), .val (.ref b18), .val (.int (6 : Int32)), .val (.int b0), .unset, .unset, .val (.int b1), .val (.int b2)] [(.int b2)])) t
        refine XS.sipush X179.here hx rfl (hb hby at_173) ?_
        exact k
      have hc188 : b2 < (128 : Int32) := by rw [own_lt128]; rw [own_127] at hA; rw [own_l16] at hB; omega
      refine OwnGo.of (A := T179.setTop (mkF m 176 #[.val (.int p0), .val (.int p1), .val (.int p2), .val (.int cp), .val (.int (3 : Int32)), .val (.int s1), .val (.ref b18), .val (.int (6 : Int32)), .val (.int b0), .unset, .unset, .val (.int b1), .val (.int b2)] [(.int (128 : Int32)), (.int b2)])) (B := T179.setTop (mkF m 221 #[.val (.int p0), .val (.int p1), .val (.int p2), .val (.int cp), .val (.int (3 : Int32)), .val (.int s1), .val (.ref b18), .val (.int (6 : Int32)), .val (.int b0), .val (.int (3 : Int32)), .val (.int ((((16512 : Int32) + ((b0 - (128 : Int32)) * (16384 : Int32))) + ((b1 - (128 : Int32)) * (128 : Int32))) + b2)), .val (.int b1), .val (.int b2)] [(.int ((3 : Int32) + (3 : Int32))), (.int (6 : Int32))])) (fun t k => ?_) ?_
      · show Steps p.tables e below (T179.setTop (mkF m 176 #[.val (.int p0), .val (.int p1), .val (.int p2), .val (.int cp), .val (.int (3 : Int32)), .val (.int s1), .val (.ref b18), .val (.int (6 : Int32)), .val (.int b0), .unset, .unset, .val (.int b1), .val (.int b2)] [(.int (128 : Int32)), (.int b2)])) t
        refine XS.icmpYes X179.here hx rfl (pc0 := 176) (pc' := 181) rfl (hb hby at_176) rfl (tlt hc188).1 (by decide) (by decide) ?_
        show Steps p.tables e below (T179.setTop (mkF m 181 #[.val (.int p0), .val (.int p1), .val (.int p2), .val (.int cp), .val (.int (3 : Int32)), .val (.int s1), .val (.ref b18), .val (.int (6 : Int32)), .val (.int b0), .unset, .unset, .val (.int b1), .val (.int b2)] [])) t
        refine XS.iconst X179.here hx rfl (hb hby at_181) ?_
        show Steps p.tables e below (T179.setTop (mkF m 182 #[.val (.int p0), .val (.int p1), .val (.int p2), .val (.int cp), .val (.int (3 : Int32)), .val (.int s1), .val (.ref b18), .val (.int (6 : Int32)), .val (.int b0), .unset, .unset, .val (.int b1), .val (.int b2)] [(.int (3 : Int32))])) t
        refine XS.istore X179.here hx rfl (hb hby at_182) rfl (l' := #[.val (.int p0), .val (.int p1), .val (.int p2), .val (.int cp), .val (.int (3 : Int32)), .val (.int s1), .val (.ref b18), .val (.int (6 : Int32)), .val (.int b0), .val (.int (3 : Int32)), .unset, .val (.int b1), .val (.int b2)]) rfl ?_
        show Steps p.tables e below (T179.setTop (mkF m 184 #[.val (.int p0), .val (.int p1), .val (.int p2), .val (.int cp), .val (.int (3 : Int32)), .val (.int s1), .val (.ref b18), .val (.int (6 : Int32)), .val (.int b0), .val (.int (3 : Int32)), .unset, .val (.int b1), .val (.int b2)] [])) t
        refine XS.sipush X179.here hx rfl (hb hby at_184) ?_
        show Steps p.tables e below (T179.setTop (mkF m 187 #[.val (.int p0), .val (.int p1), .val (.int p2), .val (.int cp), .val (.int (3 : Int32)), .val (.int s1), .val (.ref b18), .val (.int (6 : Int32)), .val (.int b0), .val (.int (3 : Int32)), .unset, .val (.int b1), .val (.int b2)] [(.int (16512 : Int32))])) t
        refine XS.iload X179.here hx rfl (hb hby at_187) rfl ?_
        show Steps p.tables e below (T179.setTop (mkF m 189 #[.val (.int p0), .val (.int p1), .val (.int p2), .val (.int cp), .val (.int (3 : Int32)), .val (.int s1), .val (.ref b18), .val (.int (6 : Int32)), .val (.int b0), .val (.int (3 : Int32)), .unset, .val (.int b1), .val (.int b2)] [(.int b0), (.int (16512 : Int32))])) t
        refine XS.sipush X179.here hx rfl (hb hby at_189) ?_
        show Steps p.tables e below (T179.setTop (mkF m 192 #[.val (.int p0), .val (.int p1), .val (.int p2), .val (.int cp), .val (.int (3 : Int32)), .val (.int s1), .val (.ref b18), .val (.int (6 : Int32)), .val (.int b0), .val (.int (3 : Int32)), .unset, .val (.int b1), .val (.int b2)] [(.int (128 : Int32)), (.int b0), (.int (16512 : Int32))])) t
        refine XS.isub X179.here hx rfl (hb hby at_192) rfl ?_
        show Steps p.tables e below (T179.setTop (mkF m 193 #[.val (.int p0), .val (.int p1), .val (.int p2), .val (.int cp), .val (.int (3 : Int32)), .val (.int s1), .val (.ref b18), .val (.int (6 : Int32)), .val (.int b0), .val (.int (3 : Int32)), .unset, .val (.int b1), .val (.int b2)] [(.int (b0 - (128 : Int32))), (.int (16512 : Int32))])) t
        refine XS.sipush X179.here hx rfl (hb hby at_193) ?_
        show Steps p.tables e below (T179.setTop (mkF m 196 #[.val (.int p0), .val (.int p1), .val (.int p2), .val (.int cp), .val (.int (3 : Int32)), .val (.int s1), .val (.ref b18), .val (.int (6 : Int32)), .val (.int b0), .val (.int (3 : Int32)), .unset, .val (.int b1), .val (.int b2)] [(.int (16384 : Int32)), (.int (b0 - (128 : Int32))), (.int (16512 : Int32))])) t
        refine XS.imul X179.here hx rfl (hb hby at_196) rfl ?_
        show Steps p.tables e below (T179.setTop (mkF m 197 #[.val (.int p0), .val (.int p1), .val (.int p2), .val (.int cp), .val (.int (3 : Int32)), .val (.int s1), .val (.ref b18), .val (.int (6 : Int32)), .val (.int b0), .val (.int (3 : Int32)), .unset, .val (.int b1), .val (.int b2)] [(.int ((b0 - (128 : Int32)) * (16384 : Int32))), (.int (16512 : Int32))])) t
        refine XS.iadd X179.here hx rfl (hb hby at_197) rfl ?_
        show Steps p.tables e below (T179.setTop (mkF m 198 #[.val (.int p0), .val (.int p1), .val (.int p2), .val (.int cp), .val (.int (3 : Int32)), .val (.int s1), .val (.ref b18), .val (.int (6 : Int32)), .val (.int b0), .val (.int (3 : Int32)), .unset, .val (.int b1), .val (.int b2)] [(.int ((16512 : Int32) + ((b0 - (128 : Int32)) * (16384 : Int32))))])) t
        refine XS.iload X179.here hx rfl (hb hby at_198) rfl ?_
        show Steps p.tables e below (T179.setTop (mkF m 200 #[.val (.int p0), .val (.int p1), .val (.int p2), .val (.int cp), .val (.int (3 : Int32)), .val (.int s1), .val (.ref b18), .val (.int (6 : Int32)), .val (.int b0), .val (.int (3 : Int32)), .unset, .val (.int b1), .val (.int b2)] [(.int b1), (.int ((16512 : Int32) + ((b0 - (128 : Int32)) * (16384 : Int32))))])) t
        refine XS.sipush X179.here hx rfl (hb hby at_200) ?_
        show Steps p.tables e below (T179.setTop (mkF m 203 #[.val (.int p0), .val (.int p1), .val (.int p2), .val (.int cp), .val (.int (3 : Int32)), .val (.int s1), .val (.ref b18), .val (.int (6 : Int32)), .val (.int b0), .val (.int (3 : Int32)), .unset, .val (.int b1), .val (.int b2)] [(.int (128 : Int32)), (.int b1), (.int ((16512 : Int32) + ((b0 - (128 : Int32)) * (16384 : Int32))))])) t
        refine XS.isub X179.here hx rfl (hb hby at_203) rfl ?_
        show Steps p.tables e below (T179.setTop (mkF m 204 #[.val (.int p0), .val (.int p1), .val (.int p2), .val (.int cp), .val (.int (3 : Int32)), .val (.int s1), .val (.ref b18), .val (.int (6 : Int32)), .val (.int b0), .val (.int (3 : Int32)), .unset, .val (.int b1), .val (.int b2)] [(.int (b1 - (128 : Int32))), (.int ((16512 : Int32) + ((b0 - (128 : Int32)) * (16384 : Int32))))])) t
        refine XS.sipush X179.here hx rfl (hb hby at_204) ?_
        show Steps p.tables e below (T179.setTop (mkF m 207 #[.val (.int p0), .val (.int p1), .val (.int p2), .val (.int cp), .val (.int (3 : Int32)), .val (.int s1), .val (.ref b18), .val (.int (6 : Int32)), .val (.int b0), .val (.int (3 : Int32)), .unset, .val (.int b1), .val (.int b2)] [(.int (128 : Int32)), (.int (b1 - (128 : Int32))), (.int ((16512 : Int32) + ((b0 - (128 : Int32)) * (16384 : Int32))))])) t
        refine XS.imul X179.here hx rfl (hb hby at_207) rfl ?_
        show Steps p.tables e below (T179.setTop (mkF m 208 #[.val (.int p0), .val (.int p1), .val (.int p2), .val (.int cp), .val (.int (3 : Int32)), .val (.int s1), .val (.ref b18), .val (.int (6 : Int32)), .val (.int b0), .val (.int (3 : Int32)), .unset, .val (.int b1), .val (.int b2)] [(.int ((b1 - (128 : Int32)) * (128 : Int32))), (.int ((16512 : Int32) + ((b0 - (128 : Int32)) * (16384 : Int32))))])) t
        refine XS.iadd X179.here hx rfl (hb hby at_208) rfl ?_
        show Steps p.tables e below (T179.setTop (mkF m 209 #[.val (.int p0), .val (.int p1), .val (.int p2), .val (.int cp), .val (.int (3 : Int32)), .val (.int s1), .val (.ref b18), .val (.int (6 : Int32)), .val (.int b0), .val (.int (3 : Int32)), .unset, .val (.int b1), .val (.int b2)] [(.int (((16512 : Int32) + ((b0 - (128 : Int32)) * (16384 : Int32))) + ((b1 - (128 : Int32)) * (128 : Int32))))])) t
        refine XS.iload X179.here hx rfl (hb hby at_209) rfl ?_
        show Steps p.tables e below (T179.setTop (mkF m 211 #[.val (.int p0), .val (.int p1), .val (.int p2), .val (.int cp), .val (.int (3 : Int32)), .val (.int s1), .val (.ref b18), .val (.int (6 : Int32)), .val (.int b0), .val (.int (3 : Int32)), .unset, .val (.int b1), .val (.int b2)] [(.int b2), (.int (((16512 : Int32) + ((b0 - (128 : Int32)) * (16384 : Int32))) + ((b1 - (128 : Int32)) * (128 : Int32))))])) t
        refine XS.iadd X179.here hx rfl (hb hby at_211) rfl ?_
        show Steps p.tables e below (T179.setTop (mkF m 212 #[.val (.int p0), .val (.int p1), .val (.int p2), .val (.int cp), .val (.int (3 : Int32)), .val (.int s1), .val (.ref b18), .val (.int (6 : Int32)), .val (.int b0), .val (.int (3 : Int32)), .unset, .val (.int b1), .val (.int b2)] [(.int ((((16512 : Int32) + ((b0 - (128 : Int32)) * (16384 : Int32))) + ((b1 - (128 : Int32)) * (128 : Int32))) + b2))])) t
        refine XS.istore X179.here hx rfl (hb hby at_212) rfl (l' := #[.val (.int p0), .val (.int p1), .val (.int p2), .val (.int cp), .val (.int (3 : Int32)), .val (.int s1), .val (.ref b18), .val (.int (6 : Int32)), .val (.int b0), .val (.int (3 : Int32)), .val (.int ((((16512 : Int32) + ((b0 - (128 : Int32)) * (16384 : Int32))) + ((b1 - (128 : Int32)) * (128 : Int32))) + b2)), .val (.int b1), .val (.int b2)]) rfl ?_
        show Steps p.tables e below (T179.setTop (mkF m 214 #[.val (.int p0), .val (.int p1), .val (.int p2), .val (.int cp), .val (.int (3 : Int32)), .val (.int s1), .val (.ref b18), .val (.int (6 : Int32)), .val (.int b0), .val (.int (3 : Int32)), .val (.int ((((16512 : Int32) + ((b0 - (128 : Int32)) * (16384 : Int32))) + ((b1 - (128 : Int32)) * (128 : Int32))) + b2)), .val (.int b1), .val (.int b2)] [])) t
        refine XS.iload X179.here hx rfl (hb hby at_214) rfl ?_
        show Steps p.tables e below (T179.setTop (mkF m 216 #[.val (.int p0), .val (.int p1), .val (.int p2), .val (.int cp), .val (.int (3 : Int32)), .val (.int s1), .val (.ref b18), .val (.int (6 : Int32)), .val (.int b0), .val (.int (3 : Int32)), .val (.int ((((16512 : Int32) + ((b0 - (128 : Int32)) * (16384 : Int32))) + ((b1 - (128 : Int32)) * (128 : Int32))) + b2)), .val (.int b1), .val (.int b2)] [(.int (6 : Int32))])) t
        refine XS.iload X179.here hx rfl (hb hby at_216) rfl ?_
        show Steps p.tables e below (T179.setTop (mkF m 218 #[.val (.int p0), .val (.int p1), .val (.int p2), .val (.int cp), .val (.int (3 : Int32)), .val (.int s1), .val (.ref b18), .val (.int (6 : Int32)), .val (.int b0), .val (.int (3 : Int32)), .val (.int ((((16512 : Int32) + ((b0 - (128 : Int32)) * (16384 : Int32))) + ((b1 - (128 : Int32)) * (128 : Int32))) + b2)), .val (.int b1), .val (.int b2)] [(.int (3 : Int32)), (.int (6 : Int32))])) t
        refine XS.iload X179.here hx rfl (hb hby at_218) rfl ?_
        show Steps p.tables e below (T179.setTop (mkF m 220 #[.val (.int p0), .val (.int p1), .val (.int p2), .val (.int cp), .val (.int (3 : Int32)), .val (.int s1), .val (.ref b18), .val (.int (6 : Int32)), .val (.int b0), .val (.int (3 : Int32)), .val (.int ((((16512 : Int32) + ((b0 - (128 : Int32)) * (16384 : Int32))) + ((b1 - (128 : Int32)) * (128 : Int32))) + b2)), .val (.int b1), .val (.int b2)] [(.int (3 : Int32)), (.int (3 : Int32)), (.int (6 : Int32))])) t
        refine XS.iadd X179.here hx rfl (hb hby at_220) rfl ?_
        exact k
      have hc189 : (6 : Int32) = ((3 : Int32) + (3 : Int32)) := by decide
      refine OwnGo.of (A := T179.setTop (mkF m 221 #[.val (.int p0), .val (.int p1), .val (.int p2), .val (.int cp), .val (.int (3 : Int32)), .val (.int s1), .val (.ref b18), .val (.int (6 : Int32)), .val (.int b0), .val (.int (3 : Int32)), .val (.int ((((16512 : Int32) + ((b0 - (128 : Int32)) * (16384 : Int32))) + ((b1 - (128 : Int32)) * (128 : Int32))) + b2)), .val (.int b1), .val (.int b2)] [(.int ((3 : Int32) + (3 : Int32))), (.int (6 : Int32))])) (B := T179.setTop (mkF m 229 #[.val (.int p0), .val (.int p1), .val (.int p2), .val (.int cp), .val (.int (3 : Int32)), .val (.int s1), .val (.ref b18), .val (.int (6 : Int32)), .val (.int b0), .val (.int (3 : Int32)), .val (.int ((((16512 : Int32) + ((b0 - (128 : Int32)) * (16384 : Int32))) + ((b1 - (128 : Int32)) * (128 : Int32))) + b2)), .val (.int b1), .val (.int b2)] [(.int cp), (.int ((((16512 : Int32) + ((b0 - (128 : Int32)) * (16384 : Int32))) + ((b1 - (128 : Int32)) * (128 : Int32))) + b2))])) (fun t k => ?_) ?_
      · show Steps p.tables e below (T179.setTop (mkF m 221 #[.val (.int p0), .val (.int p1), .val (.int p2), .val (.int cp), .val (.int (3 : Int32)), .val (.int s1), .val (.ref b18), .val (.int (6 : Int32)), .val (.int b0), .val (.int (3 : Int32)), .val (.int ((((16512 : Int32) + ((b0 - (128 : Int32)) * (16384 : Int32))) + ((b1 - (128 : Int32)) * (128 : Int32))) + b2)), .val (.int b1), .val (.int b2)] [(.int ((3 : Int32) + (3 : Int32))), (.int (6 : Int32))])) t
        refine XS.icmpYes X179.here hx rfl (pc0 := 221) (pc' := 226) rfl (hb hby at_221) rfl (teq hc189).1 (by decide) (by decide) ?_
        show Steps p.tables e below (T179.setTop (mkF m 226 #[.val (.int p0), .val (.int p1), .val (.int p2), .val (.int cp), .val (.int (3 : Int32)), .val (.int s1), .val (.ref b18), .val (.int (6 : Int32)), .val (.int b0), .val (.int (3 : Int32)), .val (.int ((((16512 : Int32) + ((b0 - (128 : Int32)) * (16384 : Int32))) + ((b1 - (128 : Int32)) * (128 : Int32))) + b2)), .val (.int b1), .val (.int b2)] [])) t
        refine XS.iload X179.here hx rfl (hb hby at_226) rfl ?_
        show Steps p.tables e below (T179.setTop (mkF m 228 #[.val (.int p0), .val (.int p1), .val (.int p2), .val (.int cp), .val (.int (3 : Int32)), .val (.int s1), .val (.ref b18), .val (.int (6 : Int32)), .val (.int b0), .val (.int (3 : Int32)), .val (.int ((((16512 : Int32) + ((b0 - (128 : Int32)) * (16384 : Int32))) + ((b1 - (128 : Int32)) * (128 : Int32))) + b2)), .val (.int b1), .val (.int b2)] [(.int ((((16512 : Int32) + ((b0 - (128 : Int32)) * (16384 : Int32))) + ((b1 - (128 : Int32)) * (128 : Int32))) + b2))])) t
        refine XS.iloadN X179.here hx rfl (hb hby at_228) rfl ?_
        exact k
      have hc190 : ((((16512 : Int32) + ((b0 - (128 : Int32)) * (16384 : Int32))) + ((b1 - (128 : Int32)) * (128 : Int32))) + b2) = cp := own_vC cp b0 b1 b2 hcb tb0 tb1 tb2
      refine OwnGo.of (A := T179.setTop (mkF m 229 #[.val (.int p0), .val (.int p1), .val (.int p2), .val (.int cp), .val (.int (3 : Int32)), .val (.int s1), .val (.ref b18), .val (.int (6 : Int32)), .val (.int b0), .val (.int (3 : Int32)), .val (.int ((((16512 : Int32) + ((b0 - (128 : Int32)) * (16384 : Int32))) + ((b1 - (128 : Int32)) * (128 : Int32))) + b2)), .val (.int b1), .val (.int b2)] [(.int cp), (.int ((((16512 : Int32) + ((b0 - (128 : Int32)) * (16384 : Int32))) + ((b1 - (128 : Int32)) * (128 : Int32))) + b2))])) (B := T179.setTop (mkF m 234 #[.val (.int p0), .val (.int p1), .val (.int p2), .val (.int cp), .val (.int (3 : Int32)), .val (.int s1), .val (.ref b18), .val (.int (6 : Int32)), .val (.int b0), .val (.int (3 : Int32)), .val (.int ((((16512 : Int32) + ((b0 - (128 : Int32)) * (16384 : Int32))) + ((b1 - (128 : Int32)) * (128 : Int32))) + b2)), .val (.int b1), .val (.int b2)] [])) (fun t k => ?_) ?_
      · show Steps p.tables e below (T179.setTop (mkF m 229 #[.val (.int p0), .val (.int p1), .val (.int p2), .val (.int cp), .val (.int (3 : Int32)), .val (.int s1), .val (.ref b18), .val (.int (6 : Int32)), .val (.int b0), .val (.int (3 : Int32)), .val (.int ((((16512 : Int32) + ((b0 - (128 : Int32)) * (16384 : Int32))) + ((b1 - (128 : Int32)) * (128 : Int32))) + b2)), .val (.int b1), .val (.int b2)] [(.int cp), (.int ((((16512 : Int32) + ((b0 - (128 : Int32)) * (16384 : Int32))) + ((b1 - (128 : Int32)) * (128 : Int32))) + b2))])) t
        refine XS.icmpYes X179.here hx rfl (pc0 := 229) (pc' := 234) rfl (hb hby at_229) rfl (teq hc190).1 (by decide) (by decide) ?_
        exact k
      exact J234 T179 _ _ (.val (.int p0)) (.val (.int p1)) (.val (.int p2)) (.val (.int cp)) (.val (.int b0)) (.val (.int (3 : Int32))) (.val (.int ((((16512 : Int32) + ((b0 - (128 : Int32)) * (16384 : Int32))) + ((b1 - (128 : Int32)) * (128 : Int32))) + b2))) (.val (.int b1)) (.val (.int b2)) (3 : Int32) s1 (6 : Int32) b18 ((s1).toInt8.toInt32) ((s1).toInt8.toInt32) ((s1).toInt8.toInt32) (((((128 : Int32) ||| (((cp - ((16512 : Int64).toInt32)).toUInt32 >>> ((14 : Int32) &&& 31).toUInt32).toInt32)).toInt8.toInt32)).toInt8.toInt32) (((((128 : Int32) ||| ((((cp - ((16512 : Int64).toInt32)).toUInt32 >>> ((7 : Int32) &&& 31).toUInt32).toInt32) &&& (127 : Int32))).toInt8.toInt32)).toInt8.toInt32) (((((cp - ((16512 : Int64).toInt32)) &&& (127 : Int32)).toInt8.toInt32)).toInt8.toInt32) ((s1).toInt8.toInt32) ((s1).toInt8.toInt32) k18 X179 rfl N179 f180 y179_0 (by simp [own_k0, hs]) (by simp [own_k1, hs]) (by simp [own_k2, hs]) (by simp [own_k3, hs]) (by simp [own_k4, hs]) (by simp [own_k5, hs]) (by simp [own_k6, hs]) (by simp [own_k7, hs])
set_option maxRecDepth 65536 in
set_option maxHeartbeats 40000000 in
theorem comes_1 {Post : Tables → Env → Array Value → State → Outcome → State → Prop} (hpost : ∀ tb e args s v u, (limb_1_1.after args s (.returned v) u = true ∧ limb_1_2.after args s (.returned v) u = true ∧ True) → FrameEnd s (.returned v) u (Jvm.fieldLocs frame_1_writes args s ++ Jvm.arrayLocs frame_1_arrays args s ++ Jvm.staticLocs frame_1_statics s) 16 128 → Post tb e args s (.returned v) u) :
    ArmFor flags0 classFile x code maxLocals ret World_1 tables_1 room_1 Calls_1 rest_1 Pre_1 Post := by
  intro l hfl _ _ p e ha hc hk s m args below hf hA hF happ hP
  obtain ⟨hcalls, hrest, hpre⟩ := hP
  obtain ⟨-, -, -, hnamed, -, -, -, hat⟩ := (Spec.applies_iff hf).mp happ
  obtain ⟨hg, hn⟩ := and_e (Cond.before_iff.mp (show (Jvm.Cond.and given_1 narrow_1).before args s = true from hpre))
  obtain ⟨gg1, gg2⟩ := and_e hg
  obtain ⟨gg3, gg4⟩ := and_e gg2
  obtain ⟨gg5, gg6⟩ := and_e gg4
  obtain ⟨w0, w1, w2, rfl⟩ : ∃ w0 w1 w2 : Value, args = #[w0, w1, w2] := by
    have hs : args.size = 3 := by simpa [Cond.value, given_1] using gg1
    obtain ⟨L⟩ := args
    match L, hs with
    | [w0, w1, w2], _ => exact ⟨w0, w1, w2, rfl⟩
  have hw := fun d (hd : d ∈ tables_1) => atoms_spec (ws := Jvm.Cond.code x code maxLocals ret :: tables_1) hat d (List.mem_cons_of_mem _ hd)
  have hfit : Fit s := fun {y c} hc i hi => by
    obtain ⟨ha, rfl⟩ := Array.getElem?_eq_some_iff.mp hc
    have q := List.all_eq_true.mp ((Array.all_eq_true_iff_forall_mem.mp hF) _ (Array.getElem_mem ha)) i (List.mem_range.mpr hi)
    simpa [Array.getElem?_eq_getElem hi] using q
  obtain ⟨i0, ei0⟩ := is_v gg3
  obtain rfl : w0 = (.int i0) := Option.some.inj ei0
  obtain ⟨i1, ei1⟩ := is_v gg5
  obtain rfl : w1 = (.int i1) := Option.some.inj ei1
  obtain ⟨i2, ei2⟩ := is_v gg6
  obtain rfl : w2 = (.int i2) := Option.some.inj ei2
  obtain ⟨nn1, nn2⟩ := and_e hn
  obtain ⟨nn3, nn4⟩ := and_e nn2
  obtain ⟨nn5, nn6⟩ := and_e nn4
  obtain ⟨nn7, nn8⟩ := and_e nn6
  obtain ⟨nn9, nn10⟩ := and_e nn8
  obtain ⟨nn11, nn12⟩ := and_e nn10
  obtain ⟨nn13, nn14⟩ := and_e nn12
  obtain ⟨nn15, nn16⟩ := and_e nn14
  obtain ⟨nn17, nn18⟩ := and_e nn16
  obtain ⟨nn19, nn20⟩ := and_e nn18
  obtain ⟨nn21, nn22⟩ := and_e nn20
  obtain ⟨wT, evT⟩ := arr_v nn1
  obtain ⟨clT, ArT⟩ := Arr.start evT nn1
  obtain ⟨lT1, lT2⟩ := own_lenI evT ArT nn3
  have S_T : Sta s s.heap "com/example/sevenfold/sevenfold/Natural" "FIRST_OF_LENGTH" "[J" (.ref wT) := Sta.start evT (Or.inr ⟨(hw _ (List.mem_of_getElem? (i := 5) rfl)), (hw _ (List.mem_of_getElem? (i := 12) rfl))⟩)
  have V_T : Arv s s.heap wT clT.cls .long (10 : Int32) [(.long (0 : Int64)), (.long (0 : Int64)), (.long (128 : Int64)), (.long (16512 : Int64)), (.long (2113664 : Int64)), (.long (270549120 : Int64)), (.long (34630287488 : Int64)), (.long (4432676798592 : Int64)), (.long (567382630219904 : Int64)), (.long (72624976668147840 : Int64))] (.long (0 : Int64)) := Arv.start hfit ArT lT1 lT2 (by decide) rfl ⟨own_elemL evT ArT.1 nn5, own_elemL evT ArT.1 nn7, own_elemL evT ArT.1 nn9, own_elemL evT ArT.1 nn11, own_elemL evT ArT.1 nn13, own_elemL evT ArT.1 nn15, own_elemL evT ArT.1 nn17, own_elemL evT ArT.1 nn19, own_elemL evT ArT.1 nn21, own_elemL evT ArT.1 nn22, trivial⟩
  obtain ⟨n, o, h1, h2, h3, _, L, rfl, ⟨rfl, N⟩, hq⟩ := rm0 l s _ hw tables_1 i0 i1 i2 wT clT.cls s.heap s.heap.size (Nat.le_refl _) S_T V_T p e ha hc hk s m _ below hf ((Spec.applies_iff_loose hf).mp happ).1 ⟨rfl, State.Warmed39.refl s, rfl⟩ trivial
  refine ⟨n, _, h1, h2, h3, hpost _ _ _ _ _ _ ⟨Cond.after_iff.mpr rfl, Cond.after_iff.mpr (eq_i res_at (Term.int_eval (1)) rfl), trivial⟩ ⟨hq.1, hq.2.1, (hq.2.2.sift fun y hy => Or.inr (N y hy)).mono (by decide) (by decide)⟩⟩
theorem main_1_1 : Claimed_1_1 := comes_1 fun _ _ _ _ _ _ h hF => ⟨h.1, hF⟩
theorem main_1_2 : Claimed_1_2 := comes_1 fun _ _ _ _ _ _ h hF => ⟨h.2.1, hF⟩
end Jvm.Pilot.@@N@@
namespace Jvm.Pilot.@@N@@
open Jvm Jvm.ClassFile Sem Op Lib Jvm.Free Jvm.Stand Jvm.Pilot.@@N@@.Jvm.D
/-! MADE BY PROGRAM (witnessworld.py) out of the Statement's table words and the real class files: 11 classes; the members and pool entries that the words name. The judged class is class 1, her method 2. -/
namespace start1
open Jvm.ClassFile
def u (s : String) : CpInfo := .utf8 (stringToUtf16 s)
/-- a pool by its gaps: so many unusable entries, then the entry; so many at the end -/
def gap : Nat → List CpInfo → List CpInfo
  | 0, r => r
  | n + 1, r => .unusable :: gap n r
def poolList (es : List (Nat × CpInfo)) (last : Nat) : List CpInfo := es.foldr (fun e r => gap e.1 (e.2 :: r)) (gap last [])
def pool (es : List (Nat × CpInfo)) (last : Nat) : Array CpInfo := ⟨poolList es last⟩
def fileOf (pool : Array CpInfo) (this : Nat) (attrs : Array Attribute := #[]) (ms : Array MethodInfo := #[]) (fl : Nat := 33) (sup : Nat := 0) (ifs : Array Nat := #[]) (fds : Array FieldInfo := #[]) : ClassFile where
  minorVersion := 0
  majorVersion := 65
  constantPool := pool
  accessFlags := fl
  thisClass := this
  superClass := sup
  interfaces := ifs
  fields := fds
  methods := ms
  attributes := attrs
def plain (name : String) (sup : Option ClassId) : Class where
  name := name
  kind := .ordinary
  loader := none
  accessFlags := 33
  super := sup
  interfaces := #[]
  cf := none
  fields := #[]
  methods := #[]
  instanceTypes := #[]
  staticTypes := #[]
  resolved := #[]
  callSites := []
  init := .initialized
  statics := none
  mirror := none

def pool0 : Array CpInfo := pool [(5, u "<init>"), (0, u "()V"), (1, .class_ 10), (1, u "java/lang/Object")] 113

def k0m0 : Method := { name := "<init>", desc := "()V", sig := { parameters := [], returnType := none }, accessFlags := 1, code := none }
/-- java/lang/Object -/
def k0 : Class := { plain "java/lang/Object" none with
  accessFlags := 33
  interfaces := #[]
  cf := some (fileOf pool0 8 #[] #[{ accessFlags := 1, nameIndex := 5, descriptorIndex := 6, attributes := #[] }] 33 0 #[] #[])
  fields := #[]
  methods := #[k0m0]
  instanceTypes := #[]
  staticTypes := #[]
  resolved := Array.replicate 124 none
  statics := none }

def pool1 : Array CpInfo := pool [(2, .class_ 4), (1, u "java/lang/Object"), (0, u "<init>"), (0, u "()V"), (0, .integer 2147483647), (0, .integer 2113664), (0, .methodref 10 11), (0, .class_ 12), (0, .nameAndType 13 14), (0, u "com/example/sevenfold/sevenfold/Natural"), (0, u "writeCodePoint"), (0, u "(I[BI)I"), (0, .methodref 16 17), (0, .class_ 18), (0, .nameAndType 19 20), (0, u "com/example/sevenfold/sevenfold/NaturalWriteCodePointPinLaw"), (0, u "kept"), (0, u "([BIIIB)Z"), (3, u "law"), (0, u "(III)Z")] 4

def k1m0 : Method := { name := "<init>", desc := "()V", sig := { parameters := [], returnType := none }, accessFlags := 1, code := none }
def k1c1 : Code := { maxStack := 2, maxLocals := 5, code := method_2_code, exceptionTable := #[], attributes := #[] }
def k1m1 : Method := { name := "kept", desc := "([BIIIB)Z", sig := { parameters := [(.array .byte), .int, .int, .int, .byte], returnType := some .boolean }, accessFlags := 10, code := some k1c1 }
def k1c2 : Code := { maxStack := 5, maxLocals := 13, code := code, exceptionTable := #[], attributes := #[] }
def k1m2 : Method := { name := "law", desc := "(III)Z", sig := { parameters := [.int, .int, .int], returnType := some .boolean }, accessFlags := 9, code := some k1c2 }
/-- com/example/sevenfold/sevenfold/NaturalWriteCodePointPinLaw -/
def k1 : Class := { plain "com/example/sevenfold/sevenfold/NaturalWriteCodePointPinLaw" (some 0) with
  accessFlags := 49
  interfaces := #[]
  cf := some (fileOf pool1 16 #[] #[{ accessFlags := 1, nameIndex := 5, descriptorIndex := 6, attributes := #[] }, { accessFlags := 10, nameIndex := 19, descriptorIndex := 20, attributes := #[] }, { accessFlags := 9, nameIndex := 24, descriptorIndex := 25, attributes := #[] }] 49 2 #[] #[])
  fields := #[]
  methods := #[k1m0, k1m1, k1m2]
  instanceTypes := #[]
  staticTypes := #[]
  resolved := Array.replicate 30 none
  statics := none }

def pool2 : Array CpInfo := pool [(3, .class_ 4), (0, u "com/example/sevenfold/sevenfold/Natural"), (1, .class_ 8), (1, u "java/lang/Object"), (0, u "<init>"), (0, u "()V"), (23, u "FIRST_OF_EIGHT"), (0, u "J"), (2, u "BIG_ENDIAN_LONG"), (0, u "Ljava/lang/invoke/VarHandle;"), (6, u "TOP_BITS"), (0, u "[J"), (10, .fieldref 3 59), (0, .nameAndType 60 47), (0, u "FIRST_OF_LENGTH"), (39, u "LENGTH_OF_BITS"), (0, u "[B"), (148, u "LONG_LENGTH"), (0, u "I"), (2, u "LONG_GROWTH_LIMIT"), (0, u "GROUP_MASK"), (1, u "MORE"), (1, u "NEGATIVE"), (0, u "Ljava/lang/String;"), (2, u "EVERY_TOP_BIT"), (0, u "LOW_SEVEN_BITS"), (5, u "writeCodePoint"), (0, u "(I[BI)I")] 27

def k2m0 : Method := { name := "<init>", desc := "()V", sig := { parameters := [], returnType := none }, accessFlags := 2, code := none }
def k2c1 : Code := { maxStack := 5, maxLocals := 4, code := prog_5_method_8_code, exceptionTable := #[], attributes := #[] }
def k2m1 : Method := { name := "writeCodePoint", desc := "(I[BI)I", sig := { parameters := [.int, (.array .byte), .int], returnType := some .int }, accessFlags := 8, code := some k2c1 }
/-- com/example/sevenfold/sevenfold/Natural -/
def k2 : Class := { plain "com/example/sevenfold/sevenfold/Natural" (some 0) with
  accessFlags := 49
  interfaces := #[]
  cf := some (fileOf pool2 3 #[] #[{ accessFlags := 2, nameIndex := 9, descriptorIndex := 10, attributes := #[] }, { accessFlags := 8, nameIndex := 270, descriptorIndex := 271, attributes := #[] }] 49 6 #[] #[{ accessFlags := 24, nameIndex := 250, descriptorIndex := 251, attributes := #[] }, { accessFlags := 26, nameIndex := 254, descriptorIndex := 35, attributes := #[] }, { accessFlags := 26, nameIndex := 255, descriptorIndex := 251, attributes := #[] }, { accessFlags := 26, nameIndex := 257, descriptorIndex := 251, attributes := #[] }, { accessFlags := 26, nameIndex := 60, descriptorIndex := 47, attributes := #[] }, { accessFlags := 26, nameIndex := 46, descriptorIndex := 47, attributes := #[] }, { accessFlags := 26, nameIndex := 100, descriptorIndex := 101, attributes := #[] }, { accessFlags := 26, nameIndex := 34, descriptorIndex := 35, attributes := #[] }, { accessFlags := 26, nameIndex := 259, descriptorIndex := 260, attributes := #[] }, { accessFlags := 26, nameIndex := 263, descriptorIndex := 35, attributes := #[] }, { accessFlags := 26, nameIndex := 264, descriptorIndex := 35, attributes := #[] }, { accessFlags := 26, nameIndex := 38, descriptorIndex := 39, attributes := #[] }])
  fields := #[{ name := "LONG_LENGTH", type := .int, accessFlags := 24, slot := 0, constantValue := 0 }, { name := "LONG_GROWTH_LIMIT", type := .long, accessFlags := 26, slot := 1, constantValue := 0 }, { name := "GROUP_MASK", type := .int, accessFlags := 26, slot := 2, constantValue := 0 }, { name := "MORE", type := .int, accessFlags := 26, slot := 3, constantValue := 0 }, { name := "FIRST_OF_LENGTH", type := (.array .long), accessFlags := 26, slot := 4, constantValue := 0 }, { name := "TOP_BITS", type := (.array .long), accessFlags := 26, slot := 5, constantValue := 0 }, { name := "LENGTH_OF_BITS", type := (.array .byte), accessFlags := 26, slot := 6, constantValue := 0 }, { name := "FIRST_OF_EIGHT", type := .long, accessFlags := 26, slot := 7, constantValue := 0 }, { name := "NEGATIVE", type := (.object "java/lang/String"), accessFlags := 26, slot := 8, constantValue := 0 }, { name := "EVERY_TOP_BIT", type := .long, accessFlags := 26, slot := 9, constantValue := 0 }, { name := "LOW_SEVEN_BITS", type := .long, accessFlags := 26, slot := 10, constantValue := 0 }, { name := "BIG_ENDIAN_LONG", type := (.object "java/lang/invoke/VarHandle"), accessFlags := 26, slot := 11, constantValue := 0 }]
  methods := #[k2m0, k2m1]
  instanceTypes := #[]
  staticTypes := #[.int, .long, .int, .int, (.array .long), (.array .long), (.array .byte), .long, (.object "java/lang/String"), .long, .long, (.object "java/lang/invoke/VarHandle")]
  resolved := Array.replicate 299 none
  statics := some 0 }

def pool3 : Array CpInfo := pool [(1, u "java/lang/Cloneable"), (0, .class_ 1), (0, u "java/lang/Object"), (0, .class_ 3)] 3

/-- java/lang/Cloneable -/
def k3 : Class := { plain "java/lang/Cloneable" (some 0) with
  accessFlags := 1537
  interfaces := #[]
  cf := some (fileOf pool3 2 #[] #[] 1537 4 #[] #[])
  fields := #[]
  methods := #[]
  instanceTypes := #[]
  staticTypes := #[]
  resolved := Array.replicate 8 none
  statics := none }

def pool4 : Array CpInfo := pool [(1, u "java/io/Serializable"), (0, .class_ 1), (0, u "java/lang/Object"), (0, .class_ 3)] 3

/-- java/io/Serializable -/
def k4 : Class := { plain "java/io/Serializable" (some 0) with
  accessFlags := 1537
  interfaces := #[]
  cf := some (fileOf pool4 2 #[] #[] 1537 4 #[] #[])
  fields := #[]
  methods := #[]
  instanceTypes := #[]
  staticTypes := #[]
  resolved := Array.replicate 8 none
  statics := none }

/-- the primitive byte -/
def k5 : Class := { plain "byte" none with kind := .primitive 'B', accessFlags := 0x411 }
/-- [B -/
def k6 : Class := { plain "[B" (some 0) with kind := .array 5 .byte, interfaces := #[3, 4], accessFlags := 1041 }

/-- the primitive int -/
def k7 : Class := { plain "int" none with kind := .primitive 'I', accessFlags := 0x411 }
/-- [I -/
def k8 : Class := { plain "[I" (some 0) with kind := .array 7 .int, interfaces := #[3, 4], accessFlags := 1041 }

/-- the primitive long -/
def k9 : Class := { plain "long" none with kind := .primitive 'J', accessFlags := 0x411 }
/-- [J -/
def k10 : Class := { plain "[J" (some 0) with kind := .array 9 .long, interfaces := #[3, 4], accessFlags := 1041 }

def heap : Heap := #[{ cls := 2, slots := #[.int 0, .long 0, .int 0, .int 0, .ref 1, .null, .null, .long 0, .null, .long 0, .long 0, .null], vm := .statics 2 },
  { cls := 10, slots := #[.long 0, .long 0, .long 128, .long 16512, .long 2113664, .long 270549120, .long 34630287488, .long 4432676798592, .long 567382630219904, .long 72624976668147840], vm := .none }]
def classes : Array Class := #[k0, k1, k2, k3, k4, k5, k6, k7, k8, k9, k10]
def interned : List (Array UInt16 × Addr) := []
def slotsUsed : Nat := 22
def theMethod : MethodId := ⟨1, 2⟩
def args0 : Array Value := #[.int 300, .int 2, .int 5]
def aboutOver (below : List Frame) : State where
  vm := { classes := classes, interned := interned.toArray }
  heap := heap
  slotsUsed := slotsUsed
  threads := #[{ frames := .invoking theMethod args0 :: below }]
def below0 : List Frame := [.native { method := ⟨0, 0⟩, args := #[] }]
def about1 : State := aboutOver below0
def p0 : Program := .bare "" "" ""
def e0 : Env := launch0.env 0 0 0
theorem w_frames : about1.frames = Frame.invoking theMethod args0 :: below0 := rfl
set_option maxRecDepth 65536 in
theorem w_args : argsFit about1.vm theMethod args0 = true := by decide +kernel
set_option maxRecDepth 65536 in
theorem w_heap : heapFits about1 = true := by decide +kernel
set_option maxRecDepth 65536 in
theorem w_runnable : about1.curStatus? = some .runnable := by decide +kernel
set_option maxRecDepth 65536 in
theorem w_alone : about1.alone = true := by decide +kernel
set_option maxRecDepth 65536 in
theorem w_named : about1.methodNamed? x = some theMethod := by decide +kernel
set_option maxRecDepth 65536 in
theorem w_hears : about1.hears theMethod below0 = true := by decide +kernel
set_option maxRecDepth 65536 in
theorem w_ripe : about1.ripe theMethod args0 below0 = true := by decide +kernel
theorem w_running : about1.status = .running := rfl
set_option maxRecDepth 65536 in
theorem w_room : about1.hasRoom e0.platform room_1 = true :=
  launch0.hasRoom_least _ room_1 (by decide +kernel) (by decide +kernel) (by decide +kernel) (by decide +kernel) (by decide +kernel) (by decide +kernel)
theorem allAtoms_all (ts : List Jvm.Cond) (a : Array Jvm.Value) (st : Jvm.State) : (allAtoms ts).before a st = ts.all (fun c => c.before a st) := by
  induction ts with
  | nil => rfl
  | cons c t ih =>
    show (Jvm.Cond.and c (allAtoms t)).before a st = _
    rw [Jvm.Cond.before_and, ih, List.all_cons]
def words1 : List Jvm.Cond := Jvm.Cond.code x code maxLocals ret :: tables_1
/-- a 'code' word, met by the world's own term for the bytes: nothing is compared byte by byte -/
theorem code_word {y : MethodName} {bytes : ByteArray} {mx : Nat} {rt : Option FieldType} {a : Array Value} {s : State} {m : MethodId} {meth : Method} {c : Code} (h1 : s.methodNamed? y = some m) (h2 : s.vm.method? m = some meth) (h3 : meth.code = some c) (h4 : c.code = bytes)
    (h5 : (c.maxLocals == mx && c.exceptionTable.isEmpty && decide (c.maxStack ≤ mostOperands) && decide (meth.sig.returnType = rt) && !meth.locks && decide (parseMethodDescriptor y.desc = some meth.sig)) = true) : (Jvm.Cond.code y bytes mx rt).before a s = true := by
  simp only [Bool.and_eq_true, beq_iff_eq, Bool.not_eq_true', decide_eq_true_eq] at h5
  obtain ⟨⟨⟨⟨⟨g1, g2⟩, g3⟩, g4⟩, g5⟩, g6⟩ := h5
  simp [Cond.before, Cond.holds, Cond.value, h1, h2, h3, h4, g1, g2, g3, g4, g5, g6]
def isCode : Jvm.Cond → Bool
  | .code _ _ _ _ => true
  | _ => false
theorem all_split {L : List Jvm.Cond} {P : Jvm.Cond → Bool} (h1 : L.all (fun c => isCode c || P c) = true) (h2 : ∀ c ∈ L.filter isCode, P c = true) : L.all P = true := by
  refine List.all_eq_true.mpr fun c hc => ?_
  have h := List.all_eq_true.mp h1 c hc
  rcases Bool.eq_false_or_eq_true (isCode c) with hi | hi
  · exact h2 c (List.mem_filter.mpr ⟨hc, hi⟩)
  · simpa [hi] using h
set_option maxRecDepth 65536 in
theorem w_c0 : (Jvm.Cond.code x code maxLocals ret).before args0 about1 = true := code_word (m := ⟨1, 2⟩) (meth := k1m2) (c := k1c2) (by decide +kernel) rfl rfl rfl (by decide +kernel)
set_option maxRecDepth 65536 in
theorem w_c1 : (Jvm.Cond.code ({ cls := "com/example/sevenfold/sevenfold/Natural", name := "writeCodePoint", desc := "(I[BI)I" } : Jvm.MethodName) prog_5_method_8_code (4 : Nat) (Option.some Jvm.ClassFile.FieldType.int)).before args0 about1 = true := code_word (m := ⟨2, 1⟩) (meth := k2m1) (c := k2c1) (by decide +kernel) rfl rfl rfl (by decide +kernel)
set_option maxRecDepth 65536 in
theorem w_c2 : (Jvm.Cond.code ({ cls := "com/example/sevenfold/sevenfold/NaturalWriteCodePointPinLaw", name := "kept", desc := "([BIIIB)Z" } : Jvm.MethodName) method_2_code (5 : Nat) (Option.some Jvm.ClassFile.FieldType.boolean)).before args0 about1 = true := code_word (m := ⟨1, 1⟩) (meth := k1m1) (c := k1c1) (by decide +kernel) rfl rfl rfl (by decide +kernel)
def codes1 : List Jvm.Cond := [Jvm.Cond.code x code maxLocals ret, Jvm.Cond.code ({ cls := "com/example/sevenfold/sevenfold/Natural", name := "writeCodePoint", desc := "(I[BI)I" } : Jvm.MethodName) prog_5_method_8_code (4 : Nat) (Option.some Jvm.ClassFile.FieldType.int), Jvm.Cond.code ({ cls := "com/example/sevenfold/sevenfold/NaturalWriteCodePointPinLaw", name := "kept", desc := "([BIIIB)Z" } : Jvm.MethodName) method_2_code (5 : Nat) (Option.some Jvm.ClassFile.FieldType.boolean)]
set_option maxRecDepth 65536 in
theorem codes_eq : words1.filter isCode = codes1 := rfl
theorem w_codes : ∀ c ∈ words1.filter isCode, c.before args0 about1 = true := by
  rw [codes_eq]
  intro c hc
  simp only [codes1, List.mem_cons, List.not_mem_nil, or_false] at hc
  rcases hc with rfl | rfl | rfl
  · exact w_c0
  · exact w_c1
  · exact w_c2
set_option maxRecDepth 65536 in
theorem w_t1 : words1.all (fun c => isCode c || c.before args0 about1) = true := by decide +kernel
theorem w_tables : (allAtoms (Jvm.Cond.code x code maxLocals ret :: tables_1)).before args0 about1 = true := by
  rw [allAtoms_all]
  show words1.all (fun c => c.before args0 about1) = true
  refine all_split ?_ w_codes
  rw [w_t1]
set_option maxRecDepth 65536 in
theorem w_case : (Jvm.Cond.and given_1 narrow_1).before args0 about1 = true := by decide +kernel
theorem w_applies : (headSpec (Jvm.Cond.code x code maxLocals ret :: tables_1) room_1).applies x e0.platform about1 = true :=
  (Spec.applies_iff w_frames).mpr ⟨w_running, w_runnable, w_alone, w_named, w_hears, w_ripe, w_room, w_tables⟩
theorem atStart : AtStart classFile x code maxLocals ret World_1 tables_1 room_1 Calls_1 rest_1 Pre_1 launch0 p0 e0 about1 theMethod args0 below0 :=
  ⟨lists_1, trivial, launch0.admits_env _ _ _, launch0.least_env, fairChoices_fair.cas, fairChoices_fair.clock, w_frames, w_args, w_heap, w_applies, trivial, trivial, w_case⟩
end start1
theorem witness_1 : WitnessClaimed_1 := ⟨start1.p0, start1.e0, start1.about1, start1.theMethod, start1.args0, start1.below0, start1.atStart⟩
end Jvm.Pilot.@@N@@
