import JvmDerived
import JvmDerived.Pilot.@@N@@Statement
import JvmDerived.Pilot.@@N@@Code
set_option linter.unusedVariables false
set_option linter.unusedSimpArgs false
namespace Jvm.Pilot.@@N@@
open Jvm Jvm.ClassFile Sem Op Lib Jvm.Free Jvm.Stand Jvm.LawKit Jvm.RoadKit Bundle Jvm.Pilot.@@N@@.Jvm.D
section OwnKit
variable {p : Program} {l : Launch} {e : Env} {R : Room} {s : State} {m : MethodId} {args : Array Value} {below : List Frame} {meth : Method} {c : Code} {T : State} {locs : List Loc} {cells slots : Nat}
theorem own_retI (X : Stand p l e R s m args below meth c T locs cells slots) (hx : p.tables.exec = Jvm.exec) {pc : Nat} {Ls : Array Slot} {z : Int32} {rest : List Value} (hret : meth.sig.returnType = some .int) (hd : decode c.code pc = .ok (.ireturn, 1)) {fs : List Frame}
    (hl : ∀ (f : JFrame) (acts : List Action), f.method = m → f.locked = none → f.entered = [] → (doReturn e (T.setTop f) acts (some (.int z))).1 = T.setFrames fs) : Steps p.tables e below (T.setTop (mkF m pc Ls (.int z :: rest))) (T.setFrames fs) :=
  retOut X hx hret rfl (Or.inl ⟨rfl, Or.inl rfl, z, rfl⟩) hd hl
theorem own_retL (X : Stand p l e R s m args below meth c T locs cells slots) (hx : p.tables.exec = Jvm.exec) {pc : Nat} {Ls : Array Slot} {z : Int64} {rest : List Value} (hret : meth.sig.returnType = some .long) (hd : decode c.code pc = .ok (.lreturn, 1)) {fs : List Frame}
    (hl : ∀ (f : JFrame) (acts : List Action), f.method = m → f.locked = none → f.entered = [] → (doReturn e (T.setTop f) acts (some (.long z))).1 = T.setFrames fs) : Steps p.tables e below (T.setTop (mkF m pc Ls (.long z :: rest))) (T.setFrames fs) :=
  retOut X hx hret rfl (Or.inr (Or.inl ⟨rfl, rfl, z, rfl⟩)) hd hl
theorem own_retA (X : Stand p l e R s m args below meth c T locs cells slots) (hx : p.tables.exec = Jvm.exec) {pc : Nat} {Ls : Array Slot} {t : FieldType} {v : Value} {rest : List Value} (hret : meth.sig.returnType = some t) (ht : t.isReference = true) (hv : v.isRef = true) (hn : narrow t v = v) (hd : decode c.code pc = .ok (.areturn, 1)) {fs : List Frame}
    (hl : ∀ (f : JFrame) (acts : List Action), f.method = m → f.locked = none → f.entered = [] → (doReturn e (T.setTop f) acts (some v)).1 = T.setFrames fs) : Steps p.tables e below (T.setTop (mkF m pc Ls (v :: rest))) (T.setFrames fs) :=
  retOut X hx hret hn (Or.inr (Or.inr (Or.inr (Or.inr ⟨rfl, ht, hv⟩)))) hd hl
theorem own_ns_exa {Z : State} {h : Heap} {a : Addr} {C : String} (F : Exa Z h a C) : ∃ c : Cell, h[a]? = some c ∧ c.vm.isStatics = false := by
  obtain ⟨c, _, h1, -, -, h4, -⟩ := F; exact ⟨c, h1, h4⟩
theorem own_ns_arv {Z : State} {h : Heap} {a : Addr} {k : ClassId} {ty : FieldType} {z : Int32} {vs : List Value} {dv : Value} (F : Arv Z h a k ty z vs dv) : ∃ c : Cell, h[a]? = some c ∧ c.vm.isStatics = false := by
  obtain ⟨c, A, -⟩ := F; exact ⟨c, A.1, A.plain⟩
theorem own_sta_keep {Z : State} {h h' : Heap} {C n d : String} {v : Value} {ws : List Addr} (F : Sta Z h C n d v) (K : Keep h h' ws) (q : ∀ x ∈ ws, ∃ c : Cell, h[x]? = some c ∧ c.vm.isStatics = false) : Sta Z h' C n d v := by
  obtain ⟨cf, i, k, f, st, cell, h1, h2, h3, h4, h5, h6, h7⟩ := F
  refine ⟨cf, i, k, f, st, cell, h1, h2, h3, h4, K.2.1 st cell h5 (fun m => ?_), h6, h7⟩
  obtain ⟨c, e1, e2⟩ := q st m; cases h5.symm.trans e1; rw [e2] at h6; cases h6
/-- from A the run ends, and then P -/
def OwnGo (tb : Tables) (e : Env) (below : List Frame) (P : Outcome → State → Prop) (A : State) : Prop := ∃ s₂ o, Steps tb e below A s₂ ∧ s₂.status = .running ∧ Ended s₂ below o ∧ P o s₂
theorem OwnGo.of {tb : Tables} {P : Outcome → State → Prop} {A B : State} (k : ∀ t, Steps tb e below B t → Steps tb e below A t) (g : OwnGo tb e below P B) : OwnGo tb e below P A := by
  obtain ⟨s2, o, h1, h2⟩ := g; exact ⟨s2, o, k _ h1, h2⟩
abbrev OwnPre (R : Room) (as' : Array Value) (h : Heap) (rc rs : Nat) : Pt → Array Value → Prop := fun A a => a = as' ∧ A.U.heap = h ∧ A.cells + rc ≤ R.cells ∧ A.slots + rs ≤ R.slots
abbrev OwnPost (Q : Option Value → Heap → List Loc → Prop) (rc rs : Nat) : Pt → Array Value → Option Value → Pt → Prop := fun A _ v B => ∃ L, Q v B.U.heap L ∧ B.locs = A.locs ++ L ∧ B.cells = A.cells + rc ∧ B.slots = A.slots + rs
theorem own_callS (X : Stand p l e R s m args below meth c T locs cells slots) (hexec : p.tables.exec = Jvm.exec) {own : String} {index : Nat} {y : MethodName} {bytes : ByteArray} {maxL : Nat} {ret : Option FieldType}
    (hown : s.vm.findClass own = some m.cls) (hlink : (Jvm.Cond.methodLink own index y).before args s = true) (hstat : (Jvm.Cond.static y).before args s = true) (hinit : (Jvm.Cond.initialized y.cls).before args s = true)
    (hcode : (Jvm.Cond.code y bytes maxL ret).before args s = true) (hy : y.cls ≠ "java/lang/invoke/MethodHandle" ∧ y.cls ≠ "java/lang/invoke/VarHandle")
    {W : Nat} {as' : Array Value} {h : Heap} {Q : Option Value → Heap → List Loc → Prop} {rc rs : Nat} (hK : Back l R p e below s args y 3 W (OwnPre R as' h rc rs) (OwnPost Q rc rs))
    {g : JFrame} (hg : g.method = m) (hsize : g.locals.size = c.maxLocals) {argsL rest : List Value} (hlen : ∀ sig, parseMethodDescriptor y.desc = some sig → argsL.length = sig.parameters.length)
    (hstack : g.stack = argsL.reverse ++ rest) (hW : 2 * g.monitorRoom + (rest.map fun v => v.category).sum ≤ W) (hdg : decode c.code g.pc = .ok (.invokestatic index, 3))
    (ha : argsL.toArray = as') (eT : T.heap = h) (hc : cells + rc ≤ R.cells) (hs : slots + rs ≤ R.slots) :
    ∃ (T' : State) (L : List Loc) (v : Option Value), Stand p l e R s m args below meth c T' (locs ++ L) (cells + rc) (slots + rs) ∧ Q v T'.heap L ∧ ∀ target, Steps p.tables e below (T'.setTop { g with pc := g.pc + 3, stack := v.toList ++ rest }) target → Steps p.tables e below (T.setTop g) target := by
  obtain ⟨v, _, ⟨T1, L1, k1, n1⟩, -, X1, ⟨Lc, hQ, l1, y1, z1⟩, st⟩ := Jvm.LawKit.callS X hexec hown hlink hstat hinit hcode hy hK hg hsize hlen hstack hW hdg (fun _ _ => ⟨ha, eT, hc, hs⟩)
  dsimp only [Pt.U, Pt.locs, Pt.cells, Pt.slots] at X1 l1 y1 z1 st hQ
  subst l1 y1 z1
  exact ⟨T1, Lc, v, X1, hQ, st⟩
theorem own_callI (X : Stand p l e R s m args below meth c T locs cells slots) (hexec : p.tables.exec = Jvm.exec) {own : String} {index : Nat} {y : MethodName} (hy1 : y.name = "<init>")
    (hown : s.vm.findClass own = some m.cls) (hlink : (Jvm.Cond.methodLink own index y).before args s = true) (hinst : (Jvm.Cond.instanceMethod y).before args s = true)
    {bytes : ByteArray} {maxL : Nat} (hcode : (Jvm.Cond.code y bytes maxL none).before args s = true) (hy : y.cls ≠ "java/lang/invoke/MethodHandle" ∧ y.cls ≠ "java/lang/invoke/VarHandle")
    {W : Nat} {as' : Array Value} {h : Heap} {Q : Option Value → Heap → List Loc → Prop} {rc rs : Nat} (hK : Back l R p e below s args y 3 W (OwnPre R as' h rc rs) (OwnPost Q rc rs))
    {g : JFrame} (hg : g.method = m) (hsize : g.locals.size = c.maxLocals) {a : Addr} {argsL rest : List Value}
    (hlen : ∀ sig, parseMethodDescriptor y.desc = some sig → argsL.length = sig.parameters.length) (hstack : g.stack = argsL.reverse ++ .ref a :: rest) (hW : 2 * g.monitorRoom + (rest.map fun v => v.category).sum ≤ W)
    (hdg : decode c.code g.pc = .ok (.invokespecial index, 3)) (ha : (Value.ref a :: argsL).toArray = as') (eT : T.heap = h) (hc : cells + rc ≤ R.cells) (hs : slots + rs ≤ R.slots) :
    ∃ (T' : State) (L : List Loc) (v : Option Value), Stand p l e R s m args below meth c T' (locs ++ L) (cells + rc) (slots + rs) ∧ Q v T'.heap L ∧ ∀ target, Steps p.tables e below (T'.setTop { g with pc := g.pc + 3, stack := v.toList ++ rest }) target → Steps p.tables e below (T.setTop g) target := by
  obtain ⟨v, _, ⟨T1, L1, k1, n1⟩, -, X1, ⟨Lc, hQ, l1, y1, z1⟩, st⟩ := X.specialBack hexec hy1 hown hlink hinst hcode hy hK hg hsize (Steps.refl _) hlen hstack hW hdg (fun _ _ => ⟨ha, eT, hc, hs⟩)
  dsimp only [Pt.U, Pt.locs, Pt.cells, Pt.slots] at X1 l1 y1 z1 st hQ
  subst l1 y1 z1
  exact ⟨T1, Lc, v, X1, hQ, fun t k => st.trans k⟩
theorem own_callV (X : Stand p l e R s m args below meth c T locs cells slots) (hexec : p.tables.exec = Jvm.exec) {own C : String} {index : Nat} {y z : MethodName}
    (hown : s.vm.findClass own = some m.cls) (hlink : (Jvm.Cond.methodLink own index y).before args s = true) (hdecl : (Jvm.Cond.declares y).before args s = true) (hnf : NotFace s y)
    (hsel : (Jvm.Cond.selects C y z).before args s = true) (hinst : (Jvm.Cond.instanceMethod z).before args s = true) (hy : y.cls ≠ "java/lang/invoke/MethodHandle" ∧ y.cls ≠ "java/lang/invoke/VarHandle")
    {W : Nat} {as' : Array Value} {h : Heap} {Q : Option Value → Heap → List Loc → Prop} {rc rs : Nat} (hK : Back l R p e below s args z 3 W (OwnPre R as' h rc rs) (OwnPost Q rc rs))
    {b : Addr} {cB : ClassId} (hcB : s.vm.findClass C = some cB) (hrecv : IsOf cB T b)
    {g : JFrame} (hg : g.method = m) (hsize : g.locals.size = c.maxLocals) {argsL rest : List Value}
    (hlen : ∀ sig, parseMethodDescriptor y.desc = some sig → argsL.length = sig.parameters.length) (hstack : g.stack = argsL.reverse ++ .ref b :: rest) (hW : 2 * g.monitorRoom + (rest.map fun v => v.category).sum ≤ W)
    (hdg : decode c.code g.pc = .ok (.invokevirtual index, 3)) (ha : (Value.ref b :: argsL).toArray = as') (eT : T.heap = h) (hc : cells + rc ≤ R.cells) (hs : slots + rs ≤ R.slots) :
    ∃ (T' : State) (L : List Loc) (v : Option Value), Stand p l e R s m args below meth c T' (locs ++ L) (cells + rc) (slots + rs) ∧ Q v T'.heap L ∧ ∀ target, Steps p.tables e below (T'.setTop { g with pc := g.pc + 3, stack := v.toList ++ rest }) target → Steps p.tables e below (T.setTop g) target := by
  obtain ⟨v, _, ⟨T1, L1, k1, n1⟩, -, X1, ⟨Lc, hQ, l1, y1, z1⟩, st⟩ := X.virtualBack hexec hown hlink hdecl hnf hsel hinst hy hK hcB hrecv hg hsize (Steps.refl _) hlen hstack hW hdg (fun _ _ => ⟨ha, eT, hc, hs⟩)
  dsimp only [Pt.U, Pt.locs, Pt.cells, Pt.slots] at X1 l1 y1 z1 st hQ
  subst l1 y1 z1
  exact ⟨T1, Lc, v, X1, hQ, fun t k => st.trans k⟩
end OwnKit
theorem pn_0 : plainName "com/example/rankwright/rankwright/rank/Accumulator" = true := by first | (simp [plainName, overriddenIn]; done) | decide +kernel
theorem d1_0 : decode prog_94_method_24_code 0 = .ok (.iload_n 1, 1) := by decide +kernel
theorem d1_1 : decode prog_94_method_24_code 1 = .ok (.istore 4, 2) := by decide +kernel
theorem d1_3 : decode prog_94_method_24_code 3 = .ok (.iload 4, 2) := by decide +kernel
theorem d1_5 : decode prog_94_method_24_code 5 = .ok (.ifCond .le 39, 3) := by decide +kernel
theorem d1_44 : decode prog_94_method_24_code 44 = .ok (.aload_n 0, 1) := by decide +kernel
theorem d1_45 : decode prog_94_method_24_code 45 = .ok (.iload 4, 2) := by decide +kernel
theorem d1_47 : decode prog_94_method_24_code 47 = .ok (.dload_n 2, 1) := by decide +kernel
theorem d1_48 : decode prog_94_method_24_code 48 = .ok (.dastore, 1) := by decide +kernel
theorem d1_49 : decode prog_94_method_24_code 49 = .ok (.return_, 1) := by decide +kernel
theorem ef_rm1_0 (m : MethodId) (a0 : Addr) (x2 : UInt64) : entryFrame m #[(.ref a0), (.int (0 : Int32)), (.double x2)] 5 = mkF m 0 #[.val (.ref a0), .val (.int (0 : Int32)), .val (.double x2), .second, .unset] [] := by first | (simp [entryFrame, mkF, argsToLocals, Value.category]; done) | rfl
def Qrm1_0 (Z : State) (a0 : Addr) (x2 : UInt64) (el0 : UInt64) (el1 : UInt64) (el2 : UInt64) (el3 : UInt64) (ka : ClassId) (h0 : Heap) (n0 : Nat) (v : Option Value) (h : Heap) (L : List Loc) : Prop := v = none ∧ Fr n0 L ∧ Keep h0 h [a0] ∧ Arv Z h a0 ka .double (4 : Int32) [(.double x2), (.double el1), (.double el2), (.double el3)] (.double (0 : UInt64))
set_option maxRecDepth 65536 in
set_option maxHeartbeats 40000000 in
theorem rm1_0 (l : Launch) (Z : State) (aw : Array Value) (hw : ∀ d ∈ tables_1, d.before aw Z = true) (ws : List Jvm.Cond) (a0 : Addr) (x2 : UInt64) (el0 : UInt64) (el1 : UInt64) (el2 : UInt64) (el3 : UInt64) (ka : ClassId) (h0 : Heap) (n0 : Nat) (Z0 : n0 ≤ h0.size) (V_a : Arv Z h0 a0 ka .double (4 : Int32) [(.double el0), (.double el1), (.double el2), (.double el3)] (.double (0 : UInt64))) (g_a0 : n0 ≤ a0) :
    MetFree l (⟨"com/example/rankwright/rankwright/rank/Accumulator", "siftUp", "([DID)V"⟩ : MethodName) (head1 (Jvm.Cond.code (⟨"com/example/rankwright/rankwright/rank/Accumulator", "siftUp", "([DID)V"⟩ : MethodName) prog_94_method_24_code 5 none :: ws) ({ frames := 0, cells := 0, slots := 0, locals := 0 } : Room)) (fun a U => a = #[(.ref a0), (.int (0 : Int32)), (.double x2)] ∧ Z.Warmed39 U.vm ∧ U.heap = h0) (fun _ _ _ _ _ => True) (fun _ U o U' => ∃ v L, o = .returned v ∧ Qrm1_0 Z a0 x2 el0 el1 el2 el3 ka h0 n0 v U'.heap L ∧ FrameEnd U o U' L ({ frames := 0, cells := 0, slots := 0, locals := 0 } : Room).cells ({ frames := 0, cells := 0, slots := 0, locals := 0 } : Room).slots) := by
  refine MetFree.of_bodySF (plainFor_of_name pn_0) hisR ?_
  intro p e s m args below meth c s₁ Bd hml0 hP hK
  obtain ⟨rfl, hZ, hh⟩ := hP
  have hx := Bd.exec
  have hby := Bd.bytes
  have hml : c.maxLocals = 5 := hml0
  have hown : s.vm.findClass "com/example/rankwright/rankwright/rank/Accumulator" = some m.cls := findClass_of_methodNamed Bd.named
  have hnm := (name_of_methodNamed Bd.named Bd.method).1
  have X0 : Stand p l e ({ frames := 0, cells := 0, slots := 0, locals := 0 } : Room) s m #[(.ref a0), (.int (0 : Int32)), (.double x2)] below meth c s₁ [] 0 0 := Stand.of_body Bd
  have e0 : s₁.heap = h0 := by rw [← hh, Bd.state]; rfl
  have N0 := Fr.nil n0
  have hlk := Bd.notSynchronized
  show OwnGo p.tables e below _ (s₁.setTop (entryFrame m #[(.ref a0), (.int (0 : Int32)), (.double x2)] 5))
  rw [ef_rm1_0 m a0 x2]
  have K0 : Keep h0 h0 [a0] := Keep.refl _ _
  show OwnGo p.tables e below _ (s₁.setTop (mkF m 0 #[.val (.ref a0), .val (.int (0 : Int32)), .val (.double x2), .second, .unset] []))
  refine OwnGo.of (A := s₁.setTop (mkF m 0 #[.val (.ref a0), .val (.int (0 : Int32)), .val (.double x2), .second, .unset] [])) (B := s₁.setTop (mkF m 5 #[.val (.ref a0), .val (.int (0 : Int32)), .val (.double x2), .second, .val (.int (0 : Int32))] [(.int (0 : Int32))])) (fun t k => ?_) ?_
  · show Steps p.tables e below (s₁.setTop (mkF m 0 #[.val (.ref a0), .val (.int (0 : Int32)), .val (.double x2), .second, .unset] [])) t
    refine XS.iloadN X0.here hx rfl (hb hby d1_0) rfl ?_
    show Steps p.tables e below (s₁.setTop (mkF m 1 #[.val (.ref a0), .val (.int (0 : Int32)), .val (.double x2), .second, .unset] [(.int (0 : Int32))])) t
    refine XS.istore X0.here hx rfl (hb hby d1_1) rfl (l' := #[.val (.ref a0), .val (.int (0 : Int32)), .val (.double x2), .second, .val (.int (0 : Int32))]) rfl ?_
    show Steps p.tables e below (s₁.setTop (mkF m 3 #[.val (.ref a0), .val (.int (0 : Int32)), .val (.double x2), .second, .val (.int (0 : Int32))] [])) t
    refine XS.iload X0.here hx rfl (hb hby d1_3) rfl ?_
    exact k
  have hc1 : ¬ ((0 : Int32) < (0 : Int32)) := by decide
  refine OwnGo.of (A := s₁.setTop (mkF m 5 #[.val (.ref a0), .val (.int (0 : Int32)), .val (.double x2), .second, .val (.int (0 : Int32))] [(.int (0 : Int32))])) (B := s₁.setTop (mkF m 48 #[.val (.ref a0), .val (.int (0 : Int32)), .val (.double x2), .second, .val (.int (0 : Int32))] [(.double x2), (.int (0 : Int32)), (.ref a0)])) (fun t k => ?_) ?_
  · show Steps p.tables e below (s₁.setTop (mkF m 5 #[.val (.ref a0), .val (.int (0 : Int32)), .val (.double x2), .second, .val (.int (0 : Int32))] [(.int (0 : Int32))])) t
    refine XS.ifYes X0.here hx rfl (pc0 := 5) (pc' := 44) rfl (hb hby d1_5) rfl ((if0 _ _).trans (flt hc1).2.2.2) (by decide) (by decide) ?_
    show Steps p.tables e below (s₁.setTop (mkF m 44 #[.val (.ref a0), .val (.int (0 : Int32)), .val (.double x2), .second, .val (.int (0 : Int32))] [])) t
    refine XS.aloadN X0.here hx rfl (hb hby d1_44) rfl rfl ?_
    show Steps p.tables e below (s₁.setTop (mkF m 45 #[.val (.ref a0), .val (.int (0 : Int32)), .val (.double x2), .second, .val (.int (0 : Int32))] [(.ref a0)])) t
    refine XS.iload X0.here hx rfl (hb hby d1_45) rfl ?_
    show Steps p.tables e below (s₁.setTop (mkF m 47 #[.val (.ref a0), .val (.int (0 : Int32)), .val (.double x2), .second, .val (.int (0 : Int32))] [(.int (0 : Int32)), (.ref a0)])) t
    refine XS.dloadN X0.here hx rfl (hb hby d1_47) rfl ?_
    exact k
  have cq2 := V_a
  obtain ⟨clq2, Arq2, qq2, Sq2, Nq2, Hq2, Gq2⟩ := cq2
  obtain ⟨T3, h3, X3, e3, W3, st3⟩ := stD X0 hx hZ e0 Arq2 (j := (0 : Int32)) (inb_of Sq2 ⟨by decide, by decide⟩) (g := (mkF m 48 #[.val (.ref a0), .val (.int (0 : Int32)), .val (.double x2), .second, .val (.int (0 : Int32))] [(.double x2), (.int (0 : Int32)), (.ref a0)])) rfl rfl (hb hby d1_48)
  refine OwnGo.of st3 ?_
  have N3 := Fr.snoc X3 N0 g_a0
  have f4 : n0 ≤ h3.size := Nat.le_trans Z0 (Keep.of_wr W3).1
  have f5 : Keep h0 h3 [a0] := K0.wr W3 (Or.inl (List.mem_of_getElem? (i := 0) rfl))
  have f6 : Arv Z h3 a0 ka .double (4 : Int32) [(.double x2), (.double el1), (.double el2), (.double el3)] (.double (0 : UInt64)) := Arv.set Arq2 qq2 Sq2 Nq2 Hq2 Gq2 rfl W3 0 rfl (Nat.le_of_ble_eq_true rfl)
  show OwnGo p.tables e below _ (T3.setTop (mkF m 49 #[.val (.ref a0), .val (.int (0 : Int32)), .val (.double x2), .second, .val (.int (0 : Int32))] []))
  obtain ⟨fs, hr, hrun, hended, hW, hsame⟩ := X3.leave (v := none) (fun _ => rfl) hlk
  refine ⟨_, _, ?_, hrun, hended, _, _, rfl, ?_, ⟨_, rfl⟩, hW, hsame.mono (by decide) (by decide)⟩
  · show Steps p.tables e below (T3.setTop (mkF m 49 #[.val (.ref a0), .val (.int (0 : Int32)), .val (.double x2), .second, .val (.int (0 : Int32))] [])) _
    exact X3.returnOut hx Bd.returns (hb hby d1_49) hr
  · show Qrm1_0 Z a0 x2 el0 el1 el2 el3 ka h0 n0 _ (T3.setFrames fs).heap _
    rw [show (T3.setFrames fs).heap = h3 from e3]
    exact ⟨rfl, N3, f5, f6⟩
theorem d1_8 : decode prog_94_method_24_code 8 = .ok (.aload_n 0, 1) := by decide +kernel
theorem d1_9 : decode prog_94_method_24_code 9 = .ok (.iload 4, 2) := by decide +kernel
theorem d1_11 : decode prog_94_method_24_code 11 = .ok (.iconst 1, 1) := by decide +kernel
theorem d1_12 : decode prog_94_method_24_code 12 = .ok (.isub, 1) := by decide +kernel
theorem d1_13 : decode prog_94_method_24_code 13 = .ok (.iconst 2, 1) := by decide +kernel
theorem d1_14 : decode prog_94_method_24_code 14 = .ok (.idiv, 1) := by decide +kernel
theorem d1_15 : decode prog_94_method_24_code 15 = .ok (.daload, 1) := by decide +kernel
theorem d1_16 : decode prog_94_method_24_code 16 = .ok (.dload_n 2, 1) := by decide +kernel
theorem d1_17 : decode prog_94_method_24_code 17 = .ok (.dcmp .l, 1) := by decide +kernel
theorem d1_18 : decode prog_94_method_24_code 18 = .ok (.ifCond .le 26, 3) := by decide +kernel
theorem d1_21 : decode prog_94_method_24_code 21 = .ok (.aload_n 0, 1) := by decide +kernel
theorem d1_22 : decode prog_94_method_24_code 22 = .ok (.iload 4, 2) := by decide +kernel
theorem d1_24 : decode prog_94_method_24_code 24 = .ok (.aload_n 0, 1) := by decide +kernel
theorem d1_25 : decode prog_94_method_24_code 25 = .ok (.iload 4, 2) := by decide +kernel
theorem d1_27 : decode prog_94_method_24_code 27 = .ok (.iconst 1, 1) := by decide +kernel
theorem d1_28 : decode prog_94_method_24_code 28 = .ok (.isub, 1) := by decide +kernel
theorem d1_29 : decode prog_94_method_24_code 29 = .ok (.iconst 2, 1) := by decide +kernel
theorem d1_30 : decode prog_94_method_24_code 30 = .ok (.idiv, 1) := by decide +kernel
theorem d1_31 : decode prog_94_method_24_code 31 = .ok (.daload, 1) := by decide +kernel
theorem d1_32 : decode prog_94_method_24_code 32 = .ok (.dastore, 1) := by decide +kernel
theorem d1_33 : decode prog_94_method_24_code 33 = .ok (.iload 4, 2) := by decide +kernel
theorem d1_35 : decode prog_94_method_24_code 35 = .ok (.iconst 1, 1) := by decide +kernel
theorem d1_36 : decode prog_94_method_24_code 36 = .ok (.isub, 1) := by decide +kernel
theorem d1_37 : decode prog_94_method_24_code 37 = .ok (.iconst 2, 1) := by decide +kernel
theorem d1_38 : decode prog_94_method_24_code 38 = .ok (.idiv, 1) := by decide +kernel
theorem d1_39 : decode prog_94_method_24_code 39 = .ok (.istore 4, 2) := by decide +kernel
theorem d1_41 : decode prog_94_method_24_code 41 = .ok (.goto (-38), 3) := by decide +kernel
theorem ef_rm1_1t (m : MethodId) (a0 : Addr) (x2 : UInt64) : entryFrame m #[(.ref a0), (.int (1 : Int32)), (.double x2)] 5 = mkF m 0 #[.val (.ref a0), .val (.int (1 : Int32)), .val (.double x2), .second, .unset] [] := by first | (simp [entryFrame, mkF, argsToLocals, Value.category]; done) | rfl
def Qrm1_1t (Z : State) (a0 : Addr) (x2 : UInt64) (el0 : UInt64) (el1 : UInt64) (el2 : UInt64) (el3 : UInt64) (ka : ClassId) (h0 : Heap) (n0 : Nat) (v : Option Value) (h : Heap) (L : List Loc) : Prop := v = none ∧ Fr n0 L ∧ Keep h0 h [a0] ∧ Arv Z h a0 ka .double (4 : Int32) [(.double x2), (.double el0), (.double el2), (.double el3)] (.double (0 : UInt64))
set_option maxRecDepth 65536 in
set_option maxHeartbeats 40000000 in
theorem rm1_1t (l : Launch) (Z : State) (aw : Array Value) (hw : ∀ d ∈ tables_1, d.before aw Z = true) (ws : List Jvm.Cond) (a0 : Addr) (x2 : UInt64) (el0 : UInt64) (el1 : UInt64) (el2 : UInt64) (el3 : UInt64) (ka : ClassId) (h0 : Heap) (n0 : Nat) (Z0 : n0 ≤ h0.size) (V_a : Arv Z h0 a0 ka .double (4 : Int32) [(.double el0), (.double el1), (.double el2), (.double el3)] (.double (0 : UInt64))) (g_a0 : n0 ≤ a0) (hc_h0 : (0 : Int32) < (cmpValue (FP.dcmp el0 x2) .l)) :
    MetFree l (⟨"com/example/rankwright/rankwright/rank/Accumulator", "siftUp", "([DID)V"⟩ : MethodName) (head1 (Jvm.Cond.code (⟨"com/example/rankwright/rankwright/rank/Accumulator", "siftUp", "([DID)V"⟩ : MethodName) prog_94_method_24_code 5 none :: ws) ({ frames := 0, cells := 0, slots := 0, locals := 0 } : Room)) (fun a U => a = #[(.ref a0), (.int (1 : Int32)), (.double x2)] ∧ Z.Warmed39 U.vm ∧ U.heap = h0) (fun _ _ _ _ _ => True) (fun _ U o U' => ∃ v L, o = .returned v ∧ Qrm1_1t Z a0 x2 el0 el1 el2 el3 ka h0 n0 v U'.heap L ∧ FrameEnd U o U' L ({ frames := 0, cells := 0, slots := 0, locals := 0 } : Room).cells ({ frames := 0, cells := 0, slots := 0, locals := 0 } : Room).slots) := by
  refine MetFree.of_bodySF (plainFor_of_name pn_0) hisR ?_
  intro p e s m args below meth c s₁ Bd hml0 hP hK
  obtain ⟨rfl, hZ, hh⟩ := hP
  have hx := Bd.exec
  have hby := Bd.bytes
  have hml : c.maxLocals = 5 := hml0
  have hown : s.vm.findClass "com/example/rankwright/rankwright/rank/Accumulator" = some m.cls := findClass_of_methodNamed Bd.named
  have hnm := (name_of_methodNamed Bd.named Bd.method).1
  have X0 : Stand p l e ({ frames := 0, cells := 0, slots := 0, locals := 0 } : Room) s m #[(.ref a0), (.int (1 : Int32)), (.double x2)] below meth c s₁ [] 0 0 := Stand.of_body Bd
  have e0 : s₁.heap = h0 := by rw [← hh, Bd.state]; rfl
  have N0 := Fr.nil n0
  have hlk := Bd.notSynchronized
  show OwnGo p.tables e below _ (s₁.setTop (entryFrame m #[(.ref a0), (.int (1 : Int32)), (.double x2)] 5))
  rw [ef_rm1_1t m a0 x2]
  have K0 : Keep h0 h0 [a0] := Keep.refl _ _
  show OwnGo p.tables e below _ (s₁.setTop (mkF m 0 #[.val (.ref a0), .val (.int (1 : Int32)), .val (.double x2), .second, .unset] []))
  refine OwnGo.of (A := s₁.setTop (mkF m 0 #[.val (.ref a0), .val (.int (1 : Int32)), .val (.double x2), .second, .unset] [])) (B := s₁.setTop (mkF m 5 #[.val (.ref a0), .val (.int (1 : Int32)), .val (.double x2), .second, .val (.int (1 : Int32))] [(.int (1 : Int32))])) (fun t k => ?_) ?_
  · show Steps p.tables e below (s₁.setTop (mkF m 0 #[.val (.ref a0), .val (.int (1 : Int32)), .val (.double x2), .second, .unset] [])) t
    refine XS.iloadN X0.here hx rfl (hb hby d1_0) rfl ?_
    show Steps p.tables e below (s₁.setTop (mkF m 1 #[.val (.ref a0), .val (.int (1 : Int32)), .val (.double x2), .second, .unset] [(.int (1 : Int32))])) t
    refine XS.istore X0.here hx rfl (hb hby d1_1) rfl (l' := #[.val (.ref a0), .val (.int (1 : Int32)), .val (.double x2), .second, .val (.int (1 : Int32))]) rfl ?_
    show Steps p.tables e below (s₁.setTop (mkF m 3 #[.val (.ref a0), .val (.int (1 : Int32)), .val (.double x2), .second, .val (.int (1 : Int32))] [])) t
    refine XS.iload X0.here hx rfl (hb hby d1_3) rfl ?_
    exact k
  have hc1 : (0 : Int32) < (1 : Int32) := by decide
  refine OwnGo.of (A := s₁.setTop (mkF m 5 #[.val (.ref a0), .val (.int (1 : Int32)), .val (.double x2), .second, .val (.int (1 : Int32))] [(.int (1 : Int32))])) (B := s₁.setTop (mkF m 15 #[.val (.ref a0), .val (.int (1 : Int32)), .val (.double x2), .second, .val (.int (1 : Int32))] [(.int (0 : Int32)), (.ref a0)])) (fun t k => ?_) ?_
  · show Steps p.tables e below (s₁.setTop (mkF m 5 #[.val (.ref a0), .val (.int (1 : Int32)), .val (.double x2), .second, .val (.int (1 : Int32))] [(.int (1 : Int32))])) t
    refine XS.ifNo X0.here hx rfl (hb hby d1_5) rfl ((if0 _ _).trans (tlt hc1).2.2.2) ?_
    show Steps p.tables e below (s₁.setTop (mkF m 8 #[.val (.ref a0), .val (.int (1 : Int32)), .val (.double x2), .second, .val (.int (1 : Int32))] [])) t
    refine XS.aloadN X0.here hx rfl (hb hby d1_8) rfl rfl ?_
    show Steps p.tables e below (s₁.setTop (mkF m 9 #[.val (.ref a0), .val (.int (1 : Int32)), .val (.double x2), .second, .val (.int (1 : Int32))] [(.ref a0)])) t
    refine XS.iload X0.here hx rfl (hb hby d1_9) rfl ?_
    show Steps p.tables e below (s₁.setTop (mkF m 11 #[.val (.ref a0), .val (.int (1 : Int32)), .val (.double x2), .second, .val (.int (1 : Int32))] [(.int (1 : Int32)), (.ref a0)])) t
    refine XS.iconst X0.here hx rfl (hb hby d1_11) ?_
    show Steps p.tables e below (s₁.setTop (mkF m 12 #[.val (.ref a0), .val (.int (1 : Int32)), .val (.double x2), .second, .val (.int (1 : Int32))] [(.int (1 : Int32)), (.int (1 : Int32)), (.ref a0)])) t
    refine XS.isub X0.here hx rfl (hb hby d1_12) rfl ?_
    show Steps p.tables e below (s₁.setTop (mkF m 13 #[.val (.ref a0), .val (.int (1 : Int32)), .val (.double x2), .second, .val (.int (1 : Int32))] [(.int (0 : Int32)), (.ref a0)])) t
    refine XS.iconst X0.here hx rfl (hb hby d1_13) ?_
    show Steps p.tables e below (s₁.setTop (mkF m 14 #[.val (.ref a0), .val (.int (1 : Int32)), .val (.double x2), .second, .val (.int (1 : Int32))] [(.int (2 : Int32)), (.int (0 : Int32)), (.ref a0)])) t
    refine XS.idiv X0.here hx rfl (hb hby d1_14) rfl (by decide) ?_
    exact k
  have cq2 := V_a
  obtain ⟨clq2, Arq2, qq2, Sq2, Nq2, Hq2, Gq2⟩ := cq2
  have hinq2 := inb_of (j := (0 : Int32)) Sq2 ⟨by decide, by decide⟩
  refine OwnGo.of (X0.daload hx (j := (0 : Int32)) (v := (.double el0)) (by rw [e0]; exact Arq2.1) (State.isArrayOf_alike hZ.alike Arq2.2.1) Arq2.2.2 hinq2 (Hq2.at hinq2 rfl) (g := (mkF m 15 #[.val (.ref a0), .val (.int (1 : Int32)), .val (.double x2), .second, .val (.int (1 : Int32))] [(.int (0 : Int32)), (.ref a0)])) rfl rfl (hb hby d1_15)) ?_
  show OwnGo p.tables e below _ (s₁.setTop (mkF m 16 #[.val (.ref a0), .val (.int (1 : Int32)), .val (.double x2), .second, .val (.int (1 : Int32))] [(.double el0)]))
  refine OwnGo.of (A := s₁.setTop (mkF m 16 #[.val (.ref a0), .val (.int (1 : Int32)), .val (.double x2), .second, .val (.int (1 : Int32))] [(.double el0)])) (B := s₁.setTop (mkF m 18 #[.val (.ref a0), .val (.int (1 : Int32)), .val (.double x2), .second, .val (.int (1 : Int32))] [(.int (cmpValue (FP.dcmp el0 x2) .l))])) (fun t k => ?_) ?_
  · show Steps p.tables e below (s₁.setTop (mkF m 16 #[.val (.ref a0), .val (.int (1 : Int32)), .val (.double x2), .second, .val (.int (1 : Int32))] [(.double el0)])) t
    refine XS.dloadN X0.here hx rfl (hb hby d1_16) rfl ?_
    show Steps p.tables e below (s₁.setTop (mkF m 17 #[.val (.ref a0), .val (.int (1 : Int32)), .val (.double x2), .second, .val (.int (1 : Int32))] [(.double x2), (.double el0)])) t
    refine XS.dcmpS X0.here hx rfl (hb hby d1_17) rfl rfl ?_
    exact k
  have hc3 : (0 : Int32) < (cmpValue (FP.dcmp el0 x2) .l) := hc_h0
  refine OwnGo.of (A := s₁.setTop (mkF m 18 #[.val (.ref a0), .val (.int (1 : Int32)), .val (.double x2), .second, .val (.int (1 : Int32))] [(.int (cmpValue (FP.dcmp el0 x2) .l))])) (B := s₁.setTop (mkF m 31 #[.val (.ref a0), .val (.int (1 : Int32)), .val (.double x2), .second, .val (.int (1 : Int32))] [(.int (0 : Int32)), (.ref a0), (.int (1 : Int32)), (.ref a0)])) (fun t k => ?_) ?_
  · show Steps p.tables e below (s₁.setTop (mkF m 18 #[.val (.ref a0), .val (.int (1 : Int32)), .val (.double x2), .second, .val (.int (1 : Int32))] [(.int (cmpValue (FP.dcmp el0 x2) .l))])) t
    refine XS.ifNo X0.here hx rfl (hb hby d1_18) rfl ((if0 _ _).trans (tlt hc3).2.2.2) ?_
    show Steps p.tables e below (s₁.setTop (mkF m 21 #[.val (.ref a0), .val (.int (1 : Int32)), .val (.double x2), .second, .val (.int (1 : Int32))] [])) t
    refine XS.aloadN X0.here hx rfl (hb hby d1_21) rfl rfl ?_
    show Steps p.tables e below (s₁.setTop (mkF m 22 #[.val (.ref a0), .val (.int (1 : Int32)), .val (.double x2), .second, .val (.int (1 : Int32))] [(.ref a0)])) t
    refine XS.iload X0.here hx rfl (hb hby d1_22) rfl ?_
    show Steps p.tables e below (s₁.setTop (mkF m 24 #[.val (.ref a0), .val (.int (1 : Int32)), .val (.double x2), .second, .val (.int (1 : Int32))] [(.int (1 : Int32)), (.ref a0)])) t
    refine XS.aloadN X0.here hx rfl (hb hby d1_24) rfl rfl ?_
    show Steps p.tables e below (s₁.setTop (mkF m 25 #[.val (.ref a0), .val (.int (1 : Int32)), .val (.double x2), .second, .val (.int (1 : Int32))] [(.ref a0), (.int (1 : Int32)), (.ref a0)])) t
    refine XS.iload X0.here hx rfl (hb hby d1_25) rfl ?_
    show Steps p.tables e below (s₁.setTop (mkF m 27 #[.val (.ref a0), .val (.int (1 : Int32)), .val (.double x2), .second, .val (.int (1 : Int32))] [(.int (1 : Int32)), (.ref a0), (.int (1 : Int32)), (.ref a0)])) t
    refine XS.iconst X0.here hx rfl (hb hby d1_27) ?_
    show Steps p.tables e below (s₁.setTop (mkF m 28 #[.val (.ref a0), .val (.int (1 : Int32)), .val (.double x2), .second, .val (.int (1 : Int32))] [(.int (1 : Int32)), (.int (1 : Int32)), (.ref a0), (.int (1 : Int32)), (.ref a0)])) t
    refine XS.isub X0.here hx rfl (hb hby d1_28) rfl ?_
    show Steps p.tables e below (s₁.setTop (mkF m 29 #[.val (.ref a0), .val (.int (1 : Int32)), .val (.double x2), .second, .val (.int (1 : Int32))] [(.int (0 : Int32)), (.ref a0), (.int (1 : Int32)), (.ref a0)])) t
    refine XS.iconst X0.here hx rfl (hb hby d1_29) ?_
    show Steps p.tables e below (s₁.setTop (mkF m 30 #[.val (.ref a0), .val (.int (1 : Int32)), .val (.double x2), .second, .val (.int (1 : Int32))] [(.int (2 : Int32)), (.int (0 : Int32)), (.ref a0), (.int (1 : Int32)), (.ref a0)])) t
    refine XS.idiv X0.here hx rfl (hb hby d1_30) rfl (by decide) ?_
    exact k
  have cq4 := V_a
  obtain ⟨clq4, Arq4, qq4, Sq4, Nq4, Hq4, Gq4⟩ := cq4
  have hinq4 := inb_of (j := (0 : Int32)) Sq4 ⟨by decide, by decide⟩
  refine OwnGo.of (X0.daload hx (j := (0 : Int32)) (v := (.double el0)) (by rw [e0]; exact Arq4.1) (State.isArrayOf_alike hZ.alike Arq4.2.1) Arq4.2.2 hinq4 (Hq4.at hinq4 rfl) (g := (mkF m 31 #[.val (.ref a0), .val (.int (1 : Int32)), .val (.double x2), .second, .val (.int (1 : Int32))] [(.int (0 : Int32)), (.ref a0), (.int (1 : Int32)), (.ref a0)])) rfl rfl (hb hby d1_31)) ?_
  show OwnGo p.tables e below _ (s₁.setTop (mkF m 32 #[.val (.ref a0), .val (.int (1 : Int32)), .val (.double x2), .second, .val (.int (1 : Int32))] [(.double el0), (.int (1 : Int32)), (.ref a0)]))
  have cq5 := V_a
  obtain ⟨clq5, Arq5, qq5, Sq5, Nq5, Hq5, Gq5⟩ := cq5
  obtain ⟨T6, h6, X6, e6, W6, st6⟩ := stD X0 hx hZ e0 Arq5 (j := (1 : Int32)) (inb_of Sq5 ⟨by decide, by decide⟩) (g := (mkF m 32 #[.val (.ref a0), .val (.int (1 : Int32)), .val (.double x2), .second, .val (.int (1 : Int32))] [(.double el0), (.int (1 : Int32)), (.ref a0)])) rfl rfl (hb hby d1_32)
  refine OwnGo.of st6 ?_
  have N6 := Fr.snoc X6 N0 g_a0
  have f7 : n0 ≤ h6.size := Nat.le_trans Z0 (Keep.of_wr W6).1
  have f8 : Keep h0 h6 [a0] := K0.wr W6 (Or.inl (List.mem_of_getElem? (i := 0) rfl))
  have f9 : Arv Z h6 a0 ka .double (4 : Int32) [(.double el0), (.double el0), (.double el2), (.double el3)] (.double (0 : UInt64)) := Arv.set Arq5 qq5 Sq5 Nq5 Hq5 Gq5 rfl W6 1 rfl (Nat.le_of_ble_eq_true rfl)
  show OwnGo p.tables e below _ (T6.setTop (mkF m 33 #[.val (.ref a0), .val (.int (1 : Int32)), .val (.double x2), .second, .val (.int (1 : Int32))] []))
  refine OwnGo.of (A := T6.setTop (mkF m 33 #[.val (.ref a0), .val (.int (1 : Int32)), .val (.double x2), .second, .val (.int (1 : Int32))] [])) (B := T6.setTop (mkF m 5 #[.val (.ref a0), .val (.int (1 : Int32)), .val (.double x2), .second, .val (.int (0 : Int32))] [(.int (0 : Int32))])) (fun t k => ?_) ?_
  · show Steps p.tables e below (T6.setTop (mkF m 33 #[.val (.ref a0), .val (.int (1 : Int32)), .val (.double x2), .second, .val (.int (1 : Int32))] [])) t
    refine XS.iload X6.here hx rfl (hb hby d1_33) rfl ?_
    show Steps p.tables e below (T6.setTop (mkF m 35 #[.val (.ref a0), .val (.int (1 : Int32)), .val (.double x2), .second, .val (.int (1 : Int32))] [(.int (1 : Int32))])) t
    refine XS.iconst X6.here hx rfl (hb hby d1_35) ?_
    show Steps p.tables e below (T6.setTop (mkF m 36 #[.val (.ref a0), .val (.int (1 : Int32)), .val (.double x2), .second, .val (.int (1 : Int32))] [(.int (1 : Int32)), (.int (1 : Int32))])) t
    refine XS.isub X6.here hx rfl (hb hby d1_36) rfl ?_
    show Steps p.tables e below (T6.setTop (mkF m 37 #[.val (.ref a0), .val (.int (1 : Int32)), .val (.double x2), .second, .val (.int (1 : Int32))] [(.int (0 : Int32))])) t
    refine XS.iconst X6.here hx rfl (hb hby d1_37) ?_
    show Steps p.tables e below (T6.setTop (mkF m 38 #[.val (.ref a0), .val (.int (1 : Int32)), .val (.double x2), .second, .val (.int (1 : Int32))] [(.int (2 : Int32)), (.int (0 : Int32))])) t
    refine XS.idiv X6.here hx rfl (hb hby d1_38) rfl (by decide) ?_
    show Steps p.tables e below (T6.setTop (mkF m 39 #[.val (.ref a0), .val (.int (1 : Int32)), .val (.double x2), .second, .val (.int (1 : Int32))] [(.int (0 : Int32))])) t
    refine XS.istore X6.here hx rfl (hb hby d1_39) rfl (l' := #[.val (.ref a0), .val (.int (1 : Int32)), .val (.double x2), .second, .val (.int (0 : Int32))]) rfl ?_
    show Steps p.tables e below (T6.setTop (mkF m 41 #[.val (.ref a0), .val (.int (1 : Int32)), .val (.double x2), .second, .val (.int (0 : Int32))] [])) t
    refine XS.goto X6.here hx rfl (pc0 := 41) (pc' := 3) rfl (hb hby d1_41) (by decide) (by decide) ?_
    show Steps p.tables e below (T6.setTop (mkF m 3 #[.val (.ref a0), .val (.int (1 : Int32)), .val (.double x2), .second, .val (.int (0 : Int32))] [])) t
    refine XS.iload X6.here hx rfl (hb hby d1_3) rfl ?_
    exact k
  have hc10 : ¬ ((0 : Int32) < (0 : Int32)) := by decide
  refine OwnGo.of (A := T6.setTop (mkF m 5 #[.val (.ref a0), .val (.int (1 : Int32)), .val (.double x2), .second, .val (.int (0 : Int32))] [(.int (0 : Int32))])) (B := T6.setTop (mkF m 48 #[.val (.ref a0), .val (.int (1 : Int32)), .val (.double x2), .second, .val (.int (0 : Int32))] [(.double x2), (.int (0 : Int32)), (.ref a0)])) (fun t k => ?_) ?_
  · show Steps p.tables e below (T6.setTop (mkF m 5 #[.val (.ref a0), .val (.int (1 : Int32)), .val (.double x2), .second, .val (.int (0 : Int32))] [(.int (0 : Int32))])) t
    refine XS.ifYes X6.here hx rfl (pc0 := 5) (pc' := 44) rfl (hb hby d1_5) rfl ((if0 _ _).trans (flt hc10).2.2.2) (by decide) (by decide) ?_
    show Steps p.tables e below (T6.setTop (mkF m 44 #[.val (.ref a0), .val (.int (1 : Int32)), .val (.double x2), .second, .val (.int (0 : Int32))] [])) t
    refine XS.aloadN X6.here hx rfl (hb hby d1_44) rfl rfl ?_
    show Steps p.tables e below (T6.setTop (mkF m 45 #[.val (.ref a0), .val (.int (1 : Int32)), .val (.double x2), .second, .val (.int (0 : Int32))] [(.ref a0)])) t
    refine XS.iload X6.here hx rfl (hb hby d1_45) rfl ?_
    show Steps p.tables e below (T6.setTop (mkF m 47 #[.val (.ref a0), .val (.int (1 : Int32)), .val (.double x2), .second, .val (.int (0 : Int32))] [(.int (0 : Int32)), (.ref a0)])) t
    refine XS.dloadN X6.here hx rfl (hb hby d1_47) rfl ?_
    exact k
  have cq11 := f9
  obtain ⟨clq11, Arq11, qq11, Sq11, Nq11, Hq11, Gq11⟩ := cq11
  obtain ⟨T12, h12, X12, e12, W12, st12⟩ := stD X6 hx hZ e6 Arq11 (j := (0 : Int32)) (inb_of Sq11 ⟨by decide, by decide⟩) (g := (mkF m 48 #[.val (.ref a0), .val (.int (1 : Int32)), .val (.double x2), .second, .val (.int (0 : Int32))] [(.double x2), (.int (0 : Int32)), (.ref a0)])) rfl rfl (hb hby d1_48)
  refine OwnGo.of st12 ?_
  have N12 := Fr.snoc X12 N6 g_a0
  have f13 : n0 ≤ h12.size := Nat.le_trans f7 (Keep.of_wr W12).1
  have f14 : Keep h0 h12 [a0] := f8.wr W12 (Or.inl (List.mem_of_getElem? (i := 0) rfl))
  have f15 : Arv Z h12 a0 ka .double (4 : Int32) [(.double x2), (.double el0), (.double el2), (.double el3)] (.double (0 : UInt64)) := Arv.set Arq11 qq11 Sq11 Nq11 Hq11 Gq11 rfl W12 0 rfl (Nat.le_of_ble_eq_true rfl)
  show OwnGo p.tables e below _ (T12.setTop (mkF m 49 #[.val (.ref a0), .val (.int (1 : Int32)), .val (.double x2), .second, .val (.int (0 : Int32))] []))
  obtain ⟨fs, hr, hrun, hended, hW, hsame⟩ := X12.leave (v := none) (fun _ => rfl) hlk
  refine ⟨_, _, ?_, hrun, hended, _, _, rfl, ?_, ⟨_, rfl⟩, hW, hsame.mono (by decide) (by decide)⟩
  · show Steps p.tables e below (T12.setTop (mkF m 49 #[.val (.ref a0), .val (.int (1 : Int32)), .val (.double x2), .second, .val (.int (0 : Int32))] [])) _
    exact X12.returnOut hx Bd.returns (hb hby d1_49) hr
  · show Qrm1_1t Z a0 x2 el0 el1 el2 el3 ka h0 n0 _ (T12.setFrames fs).heap _
    rw [show (T12.setFrames fs).heap = h12 from e12]
    exact ⟨rfl, N12, f14, f15⟩
theorem ef_rm1_1f (m : MethodId) (a0 : Addr) (x2 : UInt64) : entryFrame m #[(.ref a0), (.int (1 : Int32)), (.double x2)] 5 = mkF m 0 #[.val (.ref a0), .val (.int (1 : Int32)), .val (.double x2), .second, .unset] [] := by first | (simp [entryFrame, mkF, argsToLocals, Value.category]; done) | rfl
def Qrm1_1f (Z : State) (a0 : Addr) (x2 : UInt64) (el0 : UInt64) (el1 : UInt64) (el2 : UInt64) (el3 : UInt64) (ka : ClassId) (h0 : Heap) (n0 : Nat) (v : Option Value) (h : Heap) (L : List Loc) : Prop := v = none ∧ Fr n0 L ∧ Keep h0 h [a0] ∧ Arv Z h a0 ka .double (4 : Int32) [(.double el0), (.double x2), (.double el2), (.double el3)] (.double (0 : UInt64))
set_option maxRecDepth 65536 in
set_option maxHeartbeats 40000000 in
theorem rm1_1f (l : Launch) (Z : State) (aw : Array Value) (hw : ∀ d ∈ tables_1, d.before aw Z = true) (ws : List Jvm.Cond) (a0 : Addr) (x2 : UInt64) (el0 : UInt64) (el1 : UInt64) (el2 : UInt64) (el3 : UInt64) (ka : ClassId) (h0 : Heap) (n0 : Nat) (Z0 : n0 ≤ h0.size) (V_a : Arv Z h0 a0 ka .double (4 : Int32) [(.double el0), (.double el1), (.double el2), (.double el3)] (.double (0 : UInt64))) (g_a0 : n0 ≤ a0) (hc_h0 : ¬ ((0 : Int32) < (cmpValue (FP.dcmp el0 x2) .l))) :
    MetFree l (⟨"com/example/rankwright/rankwright/rank/Accumulator", "siftUp", "([DID)V"⟩ : MethodName) (head1 (Jvm.Cond.code (⟨"com/example/rankwright/rankwright/rank/Accumulator", "siftUp", "([DID)V"⟩ : MethodName) prog_94_method_24_code 5 none :: ws) ({ frames := 0, cells := 0, slots := 0, locals := 0 } : Room)) (fun a U => a = #[(.ref a0), (.int (1 : Int32)), (.double x2)] ∧ Z.Warmed39 U.vm ∧ U.heap = h0) (fun _ _ _ _ _ => True) (fun _ U o U' => ∃ v L, o = .returned v ∧ Qrm1_1f Z a0 x2 el0 el1 el2 el3 ka h0 n0 v U'.heap L ∧ FrameEnd U o U' L ({ frames := 0, cells := 0, slots := 0, locals := 0 } : Room).cells ({ frames := 0, cells := 0, slots := 0, locals := 0 } : Room).slots) := by
  refine MetFree.of_bodySF (plainFor_of_name pn_0) hisR ?_
  intro p e s m args below meth c s₁ Bd hml0 hP hK
  obtain ⟨rfl, hZ, hh⟩ := hP
  have hx := Bd.exec
  have hby := Bd.bytes
  have hml : c.maxLocals = 5 := hml0
  have hown : s.vm.findClass "com/example/rankwright/rankwright/rank/Accumulator" = some m.cls := findClass_of_methodNamed Bd.named
  have hnm := (name_of_methodNamed Bd.named Bd.method).1
  have X0 : Stand p l e ({ frames := 0, cells := 0, slots := 0, locals := 0 } : Room) s m #[(.ref a0), (.int (1 : Int32)), (.double x2)] below meth c s₁ [] 0 0 := Stand.of_body Bd
  have e0 : s₁.heap = h0 := by rw [← hh, Bd.state]; rfl
  have N0 := Fr.nil n0
  have hlk := Bd.notSynchronized
  show OwnGo p.tables e below _ (s₁.setTop (entryFrame m #[(.ref a0), (.int (1 : Int32)), (.double x2)] 5))
  rw [ef_rm1_1f m a0 x2]
  have K0 : Keep h0 h0 [a0] := Keep.refl _ _
  show OwnGo p.tables e below _ (s₁.setTop (mkF m 0 #[.val (.ref a0), .val (.int (1 : Int32)), .val (.double x2), .second, .unset] []))
  refine OwnGo.of (A := s₁.setTop (mkF m 0 #[.val (.ref a0), .val (.int (1 : Int32)), .val (.double x2), .second, .unset] [])) (B := s₁.setTop (mkF m 5 #[.val (.ref a0), .val (.int (1 : Int32)), .val (.double x2), .second, .val (.int (1 : Int32))] [(.int (1 : Int32))])) (fun t k => ?_) ?_
  · show Steps p.tables e below (s₁.setTop (mkF m 0 #[.val (.ref a0), .val (.int (1 : Int32)), .val (.double x2), .second, .unset] [])) t
    refine XS.iloadN X0.here hx rfl (hb hby d1_0) rfl ?_
    show Steps p.tables e below (s₁.setTop (mkF m 1 #[.val (.ref a0), .val (.int (1 : Int32)), .val (.double x2), .second, .unset] [(.int (1 : Int32))])) t
    refine XS.istore X0.here hx rfl (hb hby d1_1) rfl (l' := #[.val (.ref a0), .val (.int (1 : Int32)), .val (.double x2), .second, .val (.int (1 : Int32))]) rfl ?_
    show Steps p.tables e below (s₁.setTop (mkF m 3 #[.val (.ref a0), .val (.int (1 : Int32)), .val (.double x2), .second, .val (.int (1 : Int32))] [])) t
    refine XS.iload X0.here hx rfl (hb hby d1_3) rfl ?_
    exact k
  have hc1 : (0 : Int32) < (1 : Int32) := by decide
  refine OwnGo.of (A := s₁.setTop (mkF m 5 #[.val (.ref a0), .val (.int (1 : Int32)), .val (.double x2), .second, .val (.int (1 : Int32))] [(.int (1 : Int32))])) (B := s₁.setTop (mkF m 15 #[.val (.ref a0), .val (.int (1 : Int32)), .val (.double x2), .second, .val (.int (1 : Int32))] [(.int (0 : Int32)), (.ref a0)])) (fun t k => ?_) ?_
  · show Steps p.tables e below (s₁.setTop (mkF m 5 #[.val (.ref a0), .val (.int (1 : Int32)), .val (.double x2), .second, .val (.int (1 : Int32))] [(.int (1 : Int32))])) t
    refine XS.ifNo X0.here hx rfl (hb hby d1_5) rfl ((if0 _ _).trans (tlt hc1).2.2.2) ?_
    show Steps p.tables e below (s₁.setTop (mkF m 8 #[.val (.ref a0), .val (.int (1 : Int32)), .val (.double x2), .second, .val (.int (1 : Int32))] [])) t
    refine XS.aloadN X0.here hx rfl (hb hby d1_8) rfl rfl ?_
    show Steps p.tables e below (s₁.setTop (mkF m 9 #[.val (.ref a0), .val (.int (1 : Int32)), .val (.double x2), .second, .val (.int (1 : Int32))] [(.ref a0)])) t
    refine XS.iload X0.here hx rfl (hb hby d1_9) rfl ?_
    show Steps p.tables e below (s₁.setTop (mkF m 11 #[.val (.ref a0), .val (.int (1 : Int32)), .val (.double x2), .second, .val (.int (1 : Int32))] [(.int (1 : Int32)), (.ref a0)])) t
    refine XS.iconst X0.here hx rfl (hb hby d1_11) ?_
    show Steps p.tables e below (s₁.setTop (mkF m 12 #[.val (.ref a0), .val (.int (1 : Int32)), .val (.double x2), .second, .val (.int (1 : Int32))] [(.int (1 : Int32)), (.int (1 : Int32)), (.ref a0)])) t
    refine XS.isub X0.here hx rfl (hb hby d1_12) rfl ?_
    show Steps p.tables e below (s₁.setTop (mkF m 13 #[.val (.ref a0), .val (.int (1 : Int32)), .val (.double x2), .second, .val (.int (1 : Int32))] [(.int (0 : Int32)), (.ref a0)])) t
    refine XS.iconst X0.here hx rfl (hb hby d1_13) ?_
    show Steps p.tables e below (s₁.setTop (mkF m 14 #[.val (.ref a0), .val (.int (1 : Int32)), .val (.double x2), .second, .val (.int (1 : Int32))] [(.int (2 : Int32)), (.int (0 : Int32)), (.ref a0)])) t
    refine XS.idiv X0.here hx rfl (hb hby d1_14) rfl (by decide) ?_
    exact k
  have cq2 := V_a
  obtain ⟨clq2, Arq2, qq2, Sq2, Nq2, Hq2, Gq2⟩ := cq2
  have hinq2 := inb_of (j := (0 : Int32)) Sq2 ⟨by decide, by decide⟩
  refine OwnGo.of (X0.daload hx (j := (0 : Int32)) (v := (.double el0)) (by rw [e0]; exact Arq2.1) (State.isArrayOf_alike hZ.alike Arq2.2.1) Arq2.2.2 hinq2 (Hq2.at hinq2 rfl) (g := (mkF m 15 #[.val (.ref a0), .val (.int (1 : Int32)), .val (.double x2), .second, .val (.int (1 : Int32))] [(.int (0 : Int32)), (.ref a0)])) rfl rfl (hb hby d1_15)) ?_
  show OwnGo p.tables e below _ (s₁.setTop (mkF m 16 #[.val (.ref a0), .val (.int (1 : Int32)), .val (.double x2), .second, .val (.int (1 : Int32))] [(.double el0)]))
  refine OwnGo.of (A := s₁.setTop (mkF m 16 #[.val (.ref a0), .val (.int (1 : Int32)), .val (.double x2), .second, .val (.int (1 : Int32))] [(.double el0)])) (B := s₁.setTop (mkF m 18 #[.val (.ref a0), .val (.int (1 : Int32)), .val (.double x2), .second, .val (.int (1 : Int32))] [(.int (cmpValue (FP.dcmp el0 x2) .l))])) (fun t k => ?_) ?_
  · show Steps p.tables e below (s₁.setTop (mkF m 16 #[.val (.ref a0), .val (.int (1 : Int32)), .val (.double x2), .second, .val (.int (1 : Int32))] [(.double el0)])) t
    refine XS.dloadN X0.here hx rfl (hb hby d1_16) rfl ?_
    show Steps p.tables e below (s₁.setTop (mkF m 17 #[.val (.ref a0), .val (.int (1 : Int32)), .val (.double x2), .second, .val (.int (1 : Int32))] [(.double x2), (.double el0)])) t
    refine XS.dcmpS X0.here hx rfl (hb hby d1_17) rfl rfl ?_
    exact k
  have hc3 : ¬ ((0 : Int32) < (cmpValue (FP.dcmp el0 x2) .l)) := hc_h0
  refine OwnGo.of (A := s₁.setTop (mkF m 18 #[.val (.ref a0), .val (.int (1 : Int32)), .val (.double x2), .second, .val (.int (1 : Int32))] [(.int (cmpValue (FP.dcmp el0 x2) .l))])) (B := s₁.setTop (mkF m 48 #[.val (.ref a0), .val (.int (1 : Int32)), .val (.double x2), .second, .val (.int (1 : Int32))] [(.double x2), (.int (1 : Int32)), (.ref a0)])) (fun t k => ?_) ?_
  · show Steps p.tables e below (s₁.setTop (mkF m 18 #[.val (.ref a0), .val (.int (1 : Int32)), .val (.double x2), .second, .val (.int (1 : Int32))] [(.int (cmpValue (FP.dcmp el0 x2) .l))])) t
    refine XS.ifYes X0.here hx rfl (pc0 := 18) (pc' := 44) rfl (hb hby d1_18) rfl ((if0 _ _).trans (flt hc3).2.2.2) (by decide) (by decide) ?_
    show Steps p.tables e below (s₁.setTop (mkF m 44 #[.val (.ref a0), .val (.int (1 : Int32)), .val (.double x2), .second, .val (.int (1 : Int32))] [])) t
    refine XS.aloadN X0.here hx rfl (hb hby d1_44) rfl rfl ?_
    show Steps p.tables e below (s₁.setTop (mkF m 45 #[.val (.ref a0), .val (.int (1 : Int32)), .val (.double x2), .second, .val (.int (1 : Int32))] [(.ref a0)])) t
    refine XS.iload X0.here hx rfl (hb hby d1_45) rfl ?_
    show Steps p.tables e below (s₁.setTop (mkF m 47 #[.val (.ref a0), .val (.int (1 : Int32)), .val (.double x2), .second, .val (.int (1 : Int32))] [(.int (1 : Int32)), (.ref a0)])) t
    refine XS.dloadN X0.here hx rfl (hb hby d1_47) rfl ?_
    exact k
  have cq4 := V_a
  obtain ⟨clq4, Arq4, qq4, Sq4, Nq4, Hq4, Gq4⟩ := cq4
  obtain ⟨T5, h5, X5, e5, W5, st5⟩ := stD X0 hx hZ e0 Arq4 (j := (1 : Int32)) (inb_of Sq4 ⟨by decide, by decide⟩) (g := (mkF m 48 #[.val (.ref a0), .val (.int (1 : Int32)), .val (.double x2), .second, .val (.int (1 : Int32))] [(.double x2), (.int (1 : Int32)), (.ref a0)])) rfl rfl (hb hby d1_48)
  refine OwnGo.of st5 ?_
  have N5 := Fr.snoc X5 N0 g_a0
  have f6 : n0 ≤ h5.size := Nat.le_trans Z0 (Keep.of_wr W5).1
  have f7 : Keep h0 h5 [a0] := K0.wr W5 (Or.inl (List.mem_of_getElem? (i := 0) rfl))
  have f8 : Arv Z h5 a0 ka .double (4 : Int32) [(.double el0), (.double x2), (.double el2), (.double el3)] (.double (0 : UInt64)) := Arv.set Arq4 qq4 Sq4 Nq4 Hq4 Gq4 rfl W5 1 rfl (Nat.le_of_ble_eq_true rfl)
  show OwnGo p.tables e below _ (T5.setTop (mkF m 49 #[.val (.ref a0), .val (.int (1 : Int32)), .val (.double x2), .second, .val (.int (1 : Int32))] []))
  obtain ⟨fs, hr, hrun, hended, hW, hsame⟩ := X5.leave (v := none) (fun _ => rfl) hlk
  refine ⟨_, _, ?_, hrun, hended, _, _, rfl, ?_, ⟨_, rfl⟩, hW, hsame.mono (by decide) (by decide)⟩
  · show Steps p.tables e below (T5.setTop (mkF m 49 #[.val (.ref a0), .val (.int (1 : Int32)), .val (.double x2), .second, .val (.int (1 : Int32))] [])) _
    exact X5.returnOut hx Bd.returns (hb hby d1_49) hr
  · show Qrm1_1f Z a0 x2 el0 el1 el2 el3 ka h0 n0 _ (T5.setFrames fs).heap _
    rw [show (T5.setFrames fs).heap = h5 from e5]
    exact ⟨rfl, N5, f7, f8⟩
theorem ef_rm1_2t (m : MethodId) (a0 : Addr) (x2 : UInt64) : entryFrame m #[(.ref a0), (.int (2 : Int32)), (.double x2)] 5 = mkF m 0 #[.val (.ref a0), .val (.int (2 : Int32)), .val (.double x2), .second, .unset] [] := by first | (simp [entryFrame, mkF, argsToLocals, Value.category]; done) | rfl
def Qrm1_2t (Z : State) (a0 : Addr) (x2 : UInt64) (el0 : UInt64) (el1 : UInt64) (el2 : UInt64) (el3 : UInt64) (ka : ClassId) (h0 : Heap) (n0 : Nat) (v : Option Value) (h : Heap) (L : List Loc) : Prop := v = none ∧ Fr n0 L ∧ Keep h0 h [a0] ∧ Arv Z h a0 ka .double (4 : Int32) [(.double x2), (.double el1), (.double el0), (.double el3)] (.double (0 : UInt64))
set_option maxRecDepth 65536 in
set_option maxHeartbeats 40000000 in
theorem rm1_2t (l : Launch) (Z : State) (aw : Array Value) (hw : ∀ d ∈ tables_1, d.before aw Z = true) (ws : List Jvm.Cond) (a0 : Addr) (x2 : UInt64) (el0 : UInt64) (el1 : UInt64) (el2 : UInt64) (el3 : UInt64) (ka : ClassId) (h0 : Heap) (n0 : Nat) (Z0 : n0 ≤ h0.size) (V_a : Arv Z h0 a0 ka .double (4 : Int32) [(.double el0), (.double el1), (.double el2), (.double el3)] (.double (0 : UInt64))) (g_a0 : n0 ≤ a0) (hc_h0 : (0 : Int32) < (cmpValue (FP.dcmp el0 x2) .l)) :
    MetFree l (⟨"com/example/rankwright/rankwright/rank/Accumulator", "siftUp", "([DID)V"⟩ : MethodName) (head1 (Jvm.Cond.code (⟨"com/example/rankwright/rankwright/rank/Accumulator", "siftUp", "([DID)V"⟩ : MethodName) prog_94_method_24_code 5 none :: ws) ({ frames := 0, cells := 0, slots := 0, locals := 0 } : Room)) (fun a U => a = #[(.ref a0), (.int (2 : Int32)), (.double x2)] ∧ Z.Warmed39 U.vm ∧ U.heap = h0) (fun _ _ _ _ _ => True) (fun _ U o U' => ∃ v L, o = .returned v ∧ Qrm1_2t Z a0 x2 el0 el1 el2 el3 ka h0 n0 v U'.heap L ∧ FrameEnd U o U' L ({ frames := 0, cells := 0, slots := 0, locals := 0 } : Room).cells ({ frames := 0, cells := 0, slots := 0, locals := 0 } : Room).slots) := by
  refine MetFree.of_bodySF (plainFor_of_name pn_0) hisR ?_
  intro p e s m args below meth c s₁ Bd hml0 hP hK
  obtain ⟨rfl, hZ, hh⟩ := hP
  have hx := Bd.exec
  have hby := Bd.bytes
  have hml : c.maxLocals = 5 := hml0
  have hown : s.vm.findClass "com/example/rankwright/rankwright/rank/Accumulator" = some m.cls := findClass_of_methodNamed Bd.named
  have hnm := (name_of_methodNamed Bd.named Bd.method).1
  have X0 : Stand p l e ({ frames := 0, cells := 0, slots := 0, locals := 0 } : Room) s m #[(.ref a0), (.int (2 : Int32)), (.double x2)] below meth c s₁ [] 0 0 := Stand.of_body Bd
  have e0 : s₁.heap = h0 := by rw [← hh, Bd.state]; rfl
  have N0 := Fr.nil n0
  have hlk := Bd.notSynchronized
  show OwnGo p.tables e below _ (s₁.setTop (entryFrame m #[(.ref a0), (.int (2 : Int32)), (.double x2)] 5))
  rw [ef_rm1_2t m a0 x2]
  have K0 : Keep h0 h0 [a0] := Keep.refl _ _
  show OwnGo p.tables e below _ (s₁.setTop (mkF m 0 #[.val (.ref a0), .val (.int (2 : Int32)), .val (.double x2), .second, .unset] []))
  refine OwnGo.of (A := s₁.setTop (mkF m 0 #[.val (.ref a0), .val (.int (2 : Int32)), .val (.double x2), .second, .unset] [])) (B := s₁.setTop (mkF m 5 #[.val (.ref a0), .val (.int (2 : Int32)), .val (.double x2), .second, .val (.int (2 : Int32))] [(.int (2 : Int32))])) (fun t k => ?_) ?_
  · show Steps p.tables e below (s₁.setTop (mkF m 0 #[.val (.ref a0), .val (.int (2 : Int32)), .val (.double x2), .second, .unset] [])) t
    refine XS.iloadN X0.here hx rfl (hb hby d1_0) rfl ?_
    show Steps p.tables e below (s₁.setTop (mkF m 1 #[.val (.ref a0), .val (.int (2 : Int32)), .val (.double x2), .second, .unset] [(.int (2 : Int32))])) t
    refine XS.istore X0.here hx rfl (hb hby d1_1) rfl (l' := #[.val (.ref a0), .val (.int (2 : Int32)), .val (.double x2), .second, .val (.int (2 : Int32))]) rfl ?_
    show Steps p.tables e below (s₁.setTop (mkF m 3 #[.val (.ref a0), .val (.int (2 : Int32)), .val (.double x2), .second, .val (.int (2 : Int32))] [])) t
    refine XS.iload X0.here hx rfl (hb hby d1_3) rfl ?_
    exact k
  have hc1 : (0 : Int32) < (2 : Int32) := by decide
  refine OwnGo.of (A := s₁.setTop (mkF m 5 #[.val (.ref a0), .val (.int (2 : Int32)), .val (.double x2), .second, .val (.int (2 : Int32))] [(.int (2 : Int32))])) (B := s₁.setTop (mkF m 15 #[.val (.ref a0), .val (.int (2 : Int32)), .val (.double x2), .second, .val (.int (2 : Int32))] [(.int (0 : Int32)), (.ref a0)])) (fun t k => ?_) ?_
  · show Steps p.tables e below (s₁.setTop (mkF m 5 #[.val (.ref a0), .val (.int (2 : Int32)), .val (.double x2), .second, .val (.int (2 : Int32))] [(.int (2 : Int32))])) t
    refine XS.ifNo X0.here hx rfl (hb hby d1_5) rfl ((if0 _ _).trans (tlt hc1).2.2.2) ?_
    show Steps p.tables e below (s₁.setTop (mkF m 8 #[.val (.ref a0), .val (.int (2 : Int32)), .val (.double x2), .second, .val (.int (2 : Int32))] [])) t
    refine XS.aloadN X0.here hx rfl (hb hby d1_8) rfl rfl ?_
    show Steps p.tables e below (s₁.setTop (mkF m 9 #[.val (.ref a0), .val (.int (2 : Int32)), .val (.double x2), .second, .val (.int (2 : Int32))] [(.ref a0)])) t
    refine XS.iload X0.here hx rfl (hb hby d1_9) rfl ?_
    show Steps p.tables e below (s₁.setTop (mkF m 11 #[.val (.ref a0), .val (.int (2 : Int32)), .val (.double x2), .second, .val (.int (2 : Int32))] [(.int (2 : Int32)), (.ref a0)])) t
    refine XS.iconst X0.here hx rfl (hb hby d1_11) ?_
    show Steps p.tables e below (s₁.setTop (mkF m 12 #[.val (.ref a0), .val (.int (2 : Int32)), .val (.double x2), .second, .val (.int (2 : Int32))] [(.int (1 : Int32)), (.int (2 : Int32)), (.ref a0)])) t
    refine XS.isub X0.here hx rfl (hb hby d1_12) rfl ?_
    show Steps p.tables e below (s₁.setTop (mkF m 13 #[.val (.ref a0), .val (.int (2 : Int32)), .val (.double x2), .second, .val (.int (2 : Int32))] [(.int (1 : Int32)), (.ref a0)])) t
    refine XS.iconst X0.here hx rfl (hb hby d1_13) ?_
    show Steps p.tables e below (s₁.setTop (mkF m 14 #[.val (.ref a0), .val (.int (2 : Int32)), .val (.double x2), .second, .val (.int (2 : Int32))] [(.int (2 : Int32)), (.int (1 : Int32)), (.ref a0)])) t
    refine XS.idiv X0.here hx rfl (hb hby d1_14) rfl (by decide) ?_
    exact k
  have cq2 := V_a
  obtain ⟨clq2, Arq2, qq2, Sq2, Nq2, Hq2, Gq2⟩ := cq2
  have hinq2 := inb_of (j := (0 : Int32)) Sq2 ⟨by decide, by decide⟩
  refine OwnGo.of (X0.daload hx (j := (0 : Int32)) (v := (.double el0)) (by rw [e0]; exact Arq2.1) (State.isArrayOf_alike hZ.alike Arq2.2.1) Arq2.2.2 hinq2 (Hq2.at hinq2 rfl) (g := (mkF m 15 #[.val (.ref a0), .val (.int (2 : Int32)), .val (.double x2), .second, .val (.int (2 : Int32))] [(.int (0 : Int32)), (.ref a0)])) rfl rfl (hb hby d1_15)) ?_
  show OwnGo p.tables e below _ (s₁.setTop (mkF m 16 #[.val (.ref a0), .val (.int (2 : Int32)), .val (.double x2), .second, .val (.int (2 : Int32))] [(.double el0)]))
  refine OwnGo.of (A := s₁.setTop (mkF m 16 #[.val (.ref a0), .val (.int (2 : Int32)), .val (.double x2), .second, .val (.int (2 : Int32))] [(.double el0)])) (B := s₁.setTop (mkF m 18 #[.val (.ref a0), .val (.int (2 : Int32)), .val (.double x2), .second, .val (.int (2 : Int32))] [(.int (cmpValue (FP.dcmp el0 x2) .l))])) (fun t k => ?_) ?_
  · show Steps p.tables e below (s₁.setTop (mkF m 16 #[.val (.ref a0), .val (.int (2 : Int32)), .val (.double x2), .second, .val (.int (2 : Int32))] [(.double el0)])) t
    refine XS.dloadN X0.here hx rfl (hb hby d1_16) rfl ?_
    show Steps p.tables e below (s₁.setTop (mkF m 17 #[.val (.ref a0), .val (.int (2 : Int32)), .val (.double x2), .second, .val (.int (2 : Int32))] [(.double x2), (.double el0)])) t
    refine XS.dcmpS X0.here hx rfl (hb hby d1_17) rfl rfl ?_
    exact k
  have hc3 : (0 : Int32) < (cmpValue (FP.dcmp el0 x2) .l) := hc_h0
  refine OwnGo.of (A := s₁.setTop (mkF m 18 #[.val (.ref a0), .val (.int (2 : Int32)), .val (.double x2), .second, .val (.int (2 : Int32))] [(.int (cmpValue (FP.dcmp el0 x2) .l))])) (B := s₁.setTop (mkF m 31 #[.val (.ref a0), .val (.int (2 : Int32)), .val (.double x2), .second, .val (.int (2 : Int32))] [(.int (0 : Int32)), (.ref a0), (.int (2 : Int32)), (.ref a0)])) (fun t k => ?_) ?_
  · show Steps p.tables e below (s₁.setTop (mkF m 18 #[.val (.ref a0), .val (.int (2 : Int32)), .val (.double x2), .second, .val (.int (2 : Int32))] [(.int (cmpValue (FP.dcmp el0 x2) .l))])) t
    refine XS.ifNo X0.here hx rfl (hb hby d1_18) rfl ((if0 _ _).trans (tlt hc3).2.2.2) ?_
    show Steps p.tables e below (s₁.setTop (mkF m 21 #[.val (.ref a0), .val (.int (2 : Int32)), .val (.double x2), .second, .val (.int (2 : Int32))] [])) t
    refine XS.aloadN X0.here hx rfl (hb hby d1_21) rfl rfl ?_
    show Steps p.tables e below (s₁.setTop (mkF m 22 #[.val (.ref a0), .val (.int (2 : Int32)), .val (.double x2), .second, .val (.int (2 : Int32))] [(.ref a0)])) t
    refine XS.iload X0.here hx rfl (hb hby d1_22) rfl ?_
    show Steps p.tables e below (s₁.setTop (mkF m 24 #[.val (.ref a0), .val (.int (2 : Int32)), .val (.double x2), .second, .val (.int (2 : Int32))] [(.int (2 : Int32)), (.ref a0)])) t
    refine XS.aloadN X0.here hx rfl (hb hby d1_24) rfl rfl ?_
    show Steps p.tables e below (s₁.setTop (mkF m 25 #[.val (.ref a0), .val (.int (2 : Int32)), .val (.double x2), .second, .val (.int (2 : Int32))] [(.ref a0), (.int (2 : Int32)), (.ref a0)])) t
    refine XS.iload X0.here hx rfl (hb hby d1_25) rfl ?_
    show Steps p.tables e below (s₁.setTop (mkF m 27 #[.val (.ref a0), .val (.int (2 : Int32)), .val (.double x2), .second, .val (.int (2 : Int32))] [(.int (2 : Int32)), (.ref a0), (.int (2 : Int32)), (.ref a0)])) t
    refine XS.iconst X0.here hx rfl (hb hby d1_27) ?_
    show Steps p.tables e below (s₁.setTop (mkF m 28 #[.val (.ref a0), .val (.int (2 : Int32)), .val (.double x2), .second, .val (.int (2 : Int32))] [(.int (1 : Int32)), (.int (2 : Int32)), (.ref a0), (.int (2 : Int32)), (.ref a0)])) t
    refine XS.isub X0.here hx rfl (hb hby d1_28) rfl ?_
    show Steps p.tables e below (s₁.setTop (mkF m 29 #[.val (.ref a0), .val (.int (2 : Int32)), .val (.double x2), .second, .val (.int (2 : Int32))] [(.int (1 : Int32)), (.ref a0), (.int (2 : Int32)), (.ref a0)])) t
    refine XS.iconst X0.here hx rfl (hb hby d1_29) ?_
    show Steps p.tables e below (s₁.setTop (mkF m 30 #[.val (.ref a0), .val (.int (2 : Int32)), .val (.double x2), .second, .val (.int (2 : Int32))] [(.int (2 : Int32)), (.int (1 : Int32)), (.ref a0), (.int (2 : Int32)), (.ref a0)])) t
    refine XS.idiv X0.here hx rfl (hb hby d1_30) rfl (by decide) ?_
    exact k
  have cq4 := V_a
  obtain ⟨clq4, Arq4, qq4, Sq4, Nq4, Hq4, Gq4⟩ := cq4
  have hinq4 := inb_of (j := (0 : Int32)) Sq4 ⟨by decide, by decide⟩
  refine OwnGo.of (X0.daload hx (j := (0 : Int32)) (v := (.double el0)) (by rw [e0]; exact Arq4.1) (State.isArrayOf_alike hZ.alike Arq4.2.1) Arq4.2.2 hinq4 (Hq4.at hinq4 rfl) (g := (mkF m 31 #[.val (.ref a0), .val (.int (2 : Int32)), .val (.double x2), .second, .val (.int (2 : Int32))] [(.int (0 : Int32)), (.ref a0), (.int (2 : Int32)), (.ref a0)])) rfl rfl (hb hby d1_31)) ?_
  show OwnGo p.tables e below _ (s₁.setTop (mkF m 32 #[.val (.ref a0), .val (.int (2 : Int32)), .val (.double x2), .second, .val (.int (2 : Int32))] [(.double el0), (.int (2 : Int32)), (.ref a0)]))
  have cq5 := V_a
  obtain ⟨clq5, Arq5, qq5, Sq5, Nq5, Hq5, Gq5⟩ := cq5
  obtain ⟨T6, h6, X6, e6, W6, st6⟩ := stD X0 hx hZ e0 Arq5 (j := (2 : Int32)) (inb_of Sq5 ⟨by decide, by decide⟩) (g := (mkF m 32 #[.val (.ref a0), .val (.int (2 : Int32)), .val (.double x2), .second, .val (.int (2 : Int32))] [(.double el0), (.int (2 : Int32)), (.ref a0)])) rfl rfl (hb hby d1_32)
  refine OwnGo.of st6 ?_
  have N6 := Fr.snoc X6 N0 g_a0
  have f7 : n0 ≤ h6.size := Nat.le_trans Z0 (Keep.of_wr W6).1
  have f8 : Keep h0 h6 [a0] := K0.wr W6 (Or.inl (List.mem_of_getElem? (i := 0) rfl))
  have f9 : Arv Z h6 a0 ka .double (4 : Int32) [(.double el0), (.double el1), (.double el0), (.double el3)] (.double (0 : UInt64)) := Arv.set Arq5 qq5 Sq5 Nq5 Hq5 Gq5 rfl W6 2 rfl (Nat.le_of_ble_eq_true rfl)
  show OwnGo p.tables e below _ (T6.setTop (mkF m 33 #[.val (.ref a0), .val (.int (2 : Int32)), .val (.double x2), .second, .val (.int (2 : Int32))] []))
  refine OwnGo.of (A := T6.setTop (mkF m 33 #[.val (.ref a0), .val (.int (2 : Int32)), .val (.double x2), .second, .val (.int (2 : Int32))] [])) (B := T6.setTop (mkF m 5 #[.val (.ref a0), .val (.int (2 : Int32)), .val (.double x2), .second, .val (.int (0 : Int32))] [(.int (0 : Int32))])) (fun t k => ?_) ?_
  · show Steps p.tables e below (T6.setTop (mkF m 33 #[.val (.ref a0), .val (.int (2 : Int32)), .val (.double x2), .second, .val (.int (2 : Int32))] [])) t
    refine XS.iload X6.here hx rfl (hb hby d1_33) rfl ?_
    show Steps p.tables e below (T6.setTop (mkF m 35 #[.val (.ref a0), .val (.int (2 : Int32)), .val (.double x2), .second, .val (.int (2 : Int32))] [(.int (2 : Int32))])) t
    refine XS.iconst X6.here hx rfl (hb hby d1_35) ?_
    show Steps p.tables e below (T6.setTop (mkF m 36 #[.val (.ref a0), .val (.int (2 : Int32)), .val (.double x2), .second, .val (.int (2 : Int32))] [(.int (1 : Int32)), (.int (2 : Int32))])) t
    refine XS.isub X6.here hx rfl (hb hby d1_36) rfl ?_
    show Steps p.tables e below (T6.setTop (mkF m 37 #[.val (.ref a0), .val (.int (2 : Int32)), .val (.double x2), .second, .val (.int (2 : Int32))] [(.int (1 : Int32))])) t
    refine XS.iconst X6.here hx rfl (hb hby d1_37) ?_
    show Steps p.tables e below (T6.setTop (mkF m 38 #[.val (.ref a0), .val (.int (2 : Int32)), .val (.double x2), .second, .val (.int (2 : Int32))] [(.int (2 : Int32)), (.int (1 : Int32))])) t
    refine XS.idiv X6.here hx rfl (hb hby d1_38) rfl (by decide) ?_
    show Steps p.tables e below (T6.setTop (mkF m 39 #[.val (.ref a0), .val (.int (2 : Int32)), .val (.double x2), .second, .val (.int (2 : Int32))] [(.int (0 : Int32))])) t
    refine XS.istore X6.here hx rfl (hb hby d1_39) rfl (l' := #[.val (.ref a0), .val (.int (2 : Int32)), .val (.double x2), .second, .val (.int (0 : Int32))]) rfl ?_
    show Steps p.tables e below (T6.setTop (mkF m 41 #[.val (.ref a0), .val (.int (2 : Int32)), .val (.double x2), .second, .val (.int (0 : Int32))] [])) t
    refine XS.goto X6.here hx rfl (pc0 := 41) (pc' := 3) rfl (hb hby d1_41) (by decide) (by decide) ?_
    show Steps p.tables e below (T6.setTop (mkF m 3 #[.val (.ref a0), .val (.int (2 : Int32)), .val (.double x2), .second, .val (.int (0 : Int32))] [])) t
    refine XS.iload X6.here hx rfl (hb hby d1_3) rfl ?_
    exact k
  have hc10 : ¬ ((0 : Int32) < (0 : Int32)) := by decide
  refine OwnGo.of (A := T6.setTop (mkF m 5 #[.val (.ref a0), .val (.int (2 : Int32)), .val (.double x2), .second, .val (.int (0 : Int32))] [(.int (0 : Int32))])) (B := T6.setTop (mkF m 48 #[.val (.ref a0), .val (.int (2 : Int32)), .val (.double x2), .second, .val (.int (0 : Int32))] [(.double x2), (.int (0 : Int32)), (.ref a0)])) (fun t k => ?_) ?_
  · show Steps p.tables e below (T6.setTop (mkF m 5 #[.val (.ref a0), .val (.int (2 : Int32)), .val (.double x2), .second, .val (.int (0 : Int32))] [(.int (0 : Int32))])) t
    refine XS.ifYes X6.here hx rfl (pc0 := 5) (pc' := 44) rfl (hb hby d1_5) rfl ((if0 _ _).trans (flt hc10).2.2.2) (by decide) (by decide) ?_
    show Steps p.tables e below (T6.setTop (mkF m 44 #[.val (.ref a0), .val (.int (2 : Int32)), .val (.double x2), .second, .val (.int (0 : Int32))] [])) t
    refine XS.aloadN X6.here hx rfl (hb hby d1_44) rfl rfl ?_
    show Steps p.tables e below (T6.setTop (mkF m 45 #[.val (.ref a0), .val (.int (2 : Int32)), .val (.double x2), .second, .val (.int (0 : Int32))] [(.ref a0)])) t
    refine XS.iload X6.here hx rfl (hb hby d1_45) rfl ?_
    show Steps p.tables e below (T6.setTop (mkF m 47 #[.val (.ref a0), .val (.int (2 : Int32)), .val (.double x2), .second, .val (.int (0 : Int32))] [(.int (0 : Int32)), (.ref a0)])) t
    refine XS.dloadN X6.here hx rfl (hb hby d1_47) rfl ?_
    exact k
  have cq11 := f9
  obtain ⟨clq11, Arq11, qq11, Sq11, Nq11, Hq11, Gq11⟩ := cq11
  obtain ⟨T12, h12, X12, e12, W12, st12⟩ := stD X6 hx hZ e6 Arq11 (j := (0 : Int32)) (inb_of Sq11 ⟨by decide, by decide⟩) (g := (mkF m 48 #[.val (.ref a0), .val (.int (2 : Int32)), .val (.double x2), .second, .val (.int (0 : Int32))] [(.double x2), (.int (0 : Int32)), (.ref a0)])) rfl rfl (hb hby d1_48)
  refine OwnGo.of st12 ?_
  have N12 := Fr.snoc X12 N6 g_a0
  have f13 : n0 ≤ h12.size := Nat.le_trans f7 (Keep.of_wr W12).1
  have f14 : Keep h0 h12 [a0] := f8.wr W12 (Or.inl (List.mem_of_getElem? (i := 0) rfl))
  have f15 : Arv Z h12 a0 ka .double (4 : Int32) [(.double x2), (.double el1), (.double el0), (.double el3)] (.double (0 : UInt64)) := Arv.set Arq11 qq11 Sq11 Nq11 Hq11 Gq11 rfl W12 0 rfl (Nat.le_of_ble_eq_true rfl)
  show OwnGo p.tables e below _ (T12.setTop (mkF m 49 #[.val (.ref a0), .val (.int (2 : Int32)), .val (.double x2), .second, .val (.int (0 : Int32))] []))
  obtain ⟨fs, hr, hrun, hended, hW, hsame⟩ := X12.leave (v := none) (fun _ => rfl) hlk
  refine ⟨_, _, ?_, hrun, hended, _, _, rfl, ?_, ⟨_, rfl⟩, hW, hsame.mono (by decide) (by decide)⟩
  · show Steps p.tables e below (T12.setTop (mkF m 49 #[.val (.ref a0), .val (.int (2 : Int32)), .val (.double x2), .second, .val (.int (0 : Int32))] [])) _
    exact X12.returnOut hx Bd.returns (hb hby d1_49) hr
  · show Qrm1_2t Z a0 x2 el0 el1 el2 el3 ka h0 n0 _ (T12.setFrames fs).heap _
    rw [show (T12.setFrames fs).heap = h12 from e12]
    exact ⟨rfl, N12, f14, f15⟩
theorem ef_rm1_2f (m : MethodId) (a0 : Addr) (x2 : UInt64) : entryFrame m #[(.ref a0), (.int (2 : Int32)), (.double x2)] 5 = mkF m 0 #[.val (.ref a0), .val (.int (2 : Int32)), .val (.double x2), .second, .unset] [] := by first | (simp [entryFrame, mkF, argsToLocals, Value.category]; done) | rfl
def Qrm1_2f (Z : State) (a0 : Addr) (x2 : UInt64) (el0 : UInt64) (el1 : UInt64) (el2 : UInt64) (el3 : UInt64) (ka : ClassId) (h0 : Heap) (n0 : Nat) (v : Option Value) (h : Heap) (L : List Loc) : Prop := v = none ∧ Fr n0 L ∧ Keep h0 h [a0] ∧ Arv Z h a0 ka .double (4 : Int32) [(.double el0), (.double el1), (.double x2), (.double el3)] (.double (0 : UInt64))
set_option maxRecDepth 65536 in
set_option maxHeartbeats 40000000 in
theorem rm1_2f (l : Launch) (Z : State) (aw : Array Value) (hw : ∀ d ∈ tables_1, d.before aw Z = true) (ws : List Jvm.Cond) (a0 : Addr) (x2 : UInt64) (el0 : UInt64) (el1 : UInt64) (el2 : UInt64) (el3 : UInt64) (ka : ClassId) (h0 : Heap) (n0 : Nat) (Z0 : n0 ≤ h0.size) (V_a : Arv Z h0 a0 ka .double (4 : Int32) [(.double el0), (.double el1), (.double el2), (.double el3)] (.double (0 : UInt64))) (g_a0 : n0 ≤ a0) (hc_h0 : ¬ ((0 : Int32) < (cmpValue (FP.dcmp el0 x2) .l))) :
    MetFree l (⟨"com/example/rankwright/rankwright/rank/Accumulator", "siftUp", "([DID)V"⟩ : MethodName) (head1 (Jvm.Cond.code (⟨"com/example/rankwright/rankwright/rank/Accumulator", "siftUp", "([DID)V"⟩ : MethodName) prog_94_method_24_code 5 none :: ws) ({ frames := 0, cells := 0, slots := 0, locals := 0 } : Room)) (fun a U => a = #[(.ref a0), (.int (2 : Int32)), (.double x2)] ∧ Z.Warmed39 U.vm ∧ U.heap = h0) (fun _ _ _ _ _ => True) (fun _ U o U' => ∃ v L, o = .returned v ∧ Qrm1_2f Z a0 x2 el0 el1 el2 el3 ka h0 n0 v U'.heap L ∧ FrameEnd U o U' L ({ frames := 0, cells := 0, slots := 0, locals := 0 } : Room).cells ({ frames := 0, cells := 0, slots := 0, locals := 0 } : Room).slots) := by
  refine MetFree.of_bodySF (plainFor_of_name pn_0) hisR ?_
  intro p e s m args below meth c s₁ Bd hml0 hP hK
  obtain ⟨rfl, hZ, hh⟩ := hP
  have hx := Bd.exec
  have hby := Bd.bytes
  have hml : c.maxLocals = 5 := hml0
  have hown : s.vm.findClass "com/example/rankwright/rankwright/rank/Accumulator" = some m.cls := findClass_of_methodNamed Bd.named
  have hnm := (name_of_methodNamed Bd.named Bd.method).1
  have X0 : Stand p l e ({ frames := 0, cells := 0, slots := 0, locals := 0 } : Room) s m #[(.ref a0), (.int (2 : Int32)), (.double x2)] below meth c s₁ [] 0 0 := Stand.of_body Bd
  have e0 : s₁.heap = h0 := by rw [← hh, Bd.state]; rfl
  have N0 := Fr.nil n0
  have hlk := Bd.notSynchronized
  show OwnGo p.tables e below _ (s₁.setTop (entryFrame m #[(.ref a0), (.int (2 : Int32)), (.double x2)] 5))
  rw [ef_rm1_2f m a0 x2]
  have K0 : Keep h0 h0 [a0] := Keep.refl _ _
  show OwnGo p.tables e below _ (s₁.setTop (mkF m 0 #[.val (.ref a0), .val (.int (2 : Int32)), .val (.double x2), .second, .unset] []))
  refine OwnGo.of (A := s₁.setTop (mkF m 0 #[.val (.ref a0), .val (.int (2 : Int32)), .val (.double x2), .second, .unset] [])) (B := s₁.setTop (mkF m 5 #[.val (.ref a0), .val (.int (2 : Int32)), .val (.double x2), .second, .val (.int (2 : Int32))] [(.int (2 : Int32))])) (fun t k => ?_) ?_
  · show Steps p.tables e below (s₁.setTop (mkF m 0 #[.val (.ref a0), .val (.int (2 : Int32)), .val (.double x2), .second, .unset] [])) t
    refine XS.iloadN X0.here hx rfl (hb hby d1_0) rfl ?_
    show Steps p.tables e below (s₁.setTop (mkF m 1 #[.val (.ref a0), .val (.int (2 : Int32)), .val (.double x2), .second, .unset] [(.int (2 : Int32))])) t
    refine XS.istore X0.here hx rfl (hb hby d1_1) rfl (l' := #[.val (.ref a0), .val (.int (2 : Int32)), .val (.double x2), .second, .val (.int (2 : Int32))]) rfl ?_
    show Steps p.tables e below (s₁.setTop (mkF m 3 #[.val (.ref a0), .val (.int (2 : Int32)), .val (.double x2), .second, .val (.int (2 : Int32))] [])) t
    refine XS.iload X0.here hx rfl (hb hby d1_3) rfl ?_
    exact k
  have hc1 : (0 : Int32) < (2 : Int32) := by decide
  refine OwnGo.of (A := s₁.setTop (mkF m 5 #[.val (.ref a0), .val (.int (2 : Int32)), .val (.double x2), .second, .val (.int (2 : Int32))] [(.int (2 : Int32))])) (B := s₁.setTop (mkF m 15 #[.val (.ref a0), .val (.int (2 : Int32)), .val (.double x2), .second, .val (.int (2 : Int32))] [(.int (0 : Int32)), (.ref a0)])) (fun t k => ?_) ?_
  · show Steps p.tables e below (s₁.setTop (mkF m 5 #[.val (.ref a0), .val (.int (2 : Int32)), .val (.double x2), .second, .val (.int (2 : Int32))] [(.int (2 : Int32))])) t
    refine XS.ifNo X0.here hx rfl (hb hby d1_5) rfl ((if0 _ _).trans (tlt hc1).2.2.2) ?_
    show Steps p.tables e below (s₁.setTop (mkF m 8 #[.val (.ref a0), .val (.int (2 : Int32)), .val (.double x2), .second, .val (.int (2 : Int32))] [])) t
    refine XS.aloadN X0.here hx rfl (hb hby d1_8) rfl rfl ?_
    show Steps p.tables e below (s₁.setTop (mkF m 9 #[.val (.ref a0), .val (.int (2 : Int32)), .val (.double x2), .second, .val (.int (2 : Int32))] [(.ref a0)])) t
    refine XS.iload X0.here hx rfl (hb hby d1_9) rfl ?_
    show Steps p.tables e below (s₁.setTop (mkF m 11 #[.val (.ref a0), .val (.int (2 : Int32)), .val (.double x2), .second, .val (.int (2 : Int32))] [(.int (2 : Int32)), (.ref a0)])) t
    refine XS.iconst X0.here hx rfl (hb hby d1_11) ?_
    show Steps p.tables e below (s₁.setTop (mkF m 12 #[.val (.ref a0), .val (.int (2 : Int32)), .val (.double x2), .second, .val (.int (2 : Int32))] [(.int (1 : Int32)), (.int (2 : Int32)), (.ref a0)])) t
    refine XS.isub X0.here hx rfl (hb hby d1_12) rfl ?_
    show Steps p.tables e below (s₁.setTop (mkF m 13 #[.val (.ref a0), .val (.int (2 : Int32)), .val (.double x2), .second, .val (.int (2 : Int32))] [(.int (1 : Int32)), (.ref a0)])) t
    refine XS.iconst X0.here hx rfl (hb hby d1_13) ?_
    show Steps p.tables e below (s₁.setTop (mkF m 14 #[.val (.ref a0), .val (.int (2 : Int32)), .val (.double x2), .second, .val (.int (2 : Int32))] [(.int (2 : Int32)), (.int (1 : Int32)), (.ref a0)])) t
    refine XS.idiv X0.here hx rfl (hb hby d1_14) rfl (by decide) ?_
    exact k
  have cq2 := V_a
  obtain ⟨clq2, Arq2, qq2, Sq2, Nq2, Hq2, Gq2⟩ := cq2
  have hinq2 := inb_of (j := (0 : Int32)) Sq2 ⟨by decide, by decide⟩
  refine OwnGo.of (X0.daload hx (j := (0 : Int32)) (v := (.double el0)) (by rw [e0]; exact Arq2.1) (State.isArrayOf_alike hZ.alike Arq2.2.1) Arq2.2.2 hinq2 (Hq2.at hinq2 rfl) (g := (mkF m 15 #[.val (.ref a0), .val (.int (2 : Int32)), .val (.double x2), .second, .val (.int (2 : Int32))] [(.int (0 : Int32)), (.ref a0)])) rfl rfl (hb hby d1_15)) ?_
  show OwnGo p.tables e below _ (s₁.setTop (mkF m 16 #[.val (.ref a0), .val (.int (2 : Int32)), .val (.double x2), .second, .val (.int (2 : Int32))] [(.double el0)]))
  refine OwnGo.of (A := s₁.setTop (mkF m 16 #[.val (.ref a0), .val (.int (2 : Int32)), .val (.double x2), .second, .val (.int (2 : Int32))] [(.double el0)])) (B := s₁.setTop (mkF m 18 #[.val (.ref a0), .val (.int (2 : Int32)), .val (.double x2), .second, .val (.int (2 : Int32))] [(.int (cmpValue (FP.dcmp el0 x2) .l))])) (fun t k => ?_) ?_
  · show Steps p.tables e below (s₁.setTop (mkF m 16 #[.val (.ref a0), .val (.int (2 : Int32)), .val (.double x2), .second, .val (.int (2 : Int32))] [(.double el0)])) t
    refine XS.dloadN X0.here hx rfl (hb hby d1_16) rfl ?_
    show Steps p.tables e below (s₁.setTop (mkF m 17 #[.val (.ref a0), .val (.int (2 : Int32)), .val (.double x2), .second, .val (.int (2 : Int32))] [(.double x2), (.double el0)])) t
    refine XS.dcmpS X0.here hx rfl (hb hby d1_17) rfl rfl ?_
    exact k
  have hc3 : ¬ ((0 : Int32) < (cmpValue (FP.dcmp el0 x2) .l)) := hc_h0
  refine OwnGo.of (A := s₁.setTop (mkF m 18 #[.val (.ref a0), .val (.int (2 : Int32)), .val (.double x2), .second, .val (.int (2 : Int32))] [(.int (cmpValue (FP.dcmp el0 x2) .l))])) (B := s₁.setTop (mkF m 48 #[.val (.ref a0), .val (.int (2 : Int32)), .val (.double x2), .second, .val (.int (2 : Int32))] [(.double x2), (.int (2 : Int32)), (.ref a0)])) (fun t k => ?_) ?_
  · show Steps p.tables e below (s₁.setTop (mkF m 18 #[.val (.ref a0), .val (.int (2 : Int32)), .val (.double x2), .second, .val (.int (2 : Int32))] [(.int (cmpValue (FP.dcmp el0 x2) .l))])) t
    refine XS.ifYes X0.here hx rfl (pc0 := 18) (pc' := 44) rfl (hb hby d1_18) rfl ((if0 _ _).trans (flt hc3).2.2.2) (by decide) (by decide) ?_
    show Steps p.tables e below (s₁.setTop (mkF m 44 #[.val (.ref a0), .val (.int (2 : Int32)), .val (.double x2), .second, .val (.int (2 : Int32))] [])) t
    refine XS.aloadN X0.here hx rfl (hb hby d1_44) rfl rfl ?_
    show Steps p.tables e below (s₁.setTop (mkF m 45 #[.val (.ref a0), .val (.int (2 : Int32)), .val (.double x2), .second, .val (.int (2 : Int32))] [(.ref a0)])) t
    refine XS.iload X0.here hx rfl (hb hby d1_45) rfl ?_
    show Steps p.tables e below (s₁.setTop (mkF m 47 #[.val (.ref a0), .val (.int (2 : Int32)), .val (.double x2), .second, .val (.int (2 : Int32))] [(.int (2 : Int32)), (.ref a0)])) t
    refine XS.dloadN X0.here hx rfl (hb hby d1_47) rfl ?_
    exact k
  have cq4 := V_a
  obtain ⟨clq4, Arq4, qq4, Sq4, Nq4, Hq4, Gq4⟩ := cq4
  obtain ⟨T5, h5, X5, e5, W5, st5⟩ := stD X0 hx hZ e0 Arq4 (j := (2 : Int32)) (inb_of Sq4 ⟨by decide, by decide⟩) (g := (mkF m 48 #[.val (.ref a0), .val (.int (2 : Int32)), .val (.double x2), .second, .val (.int (2 : Int32))] [(.double x2), (.int (2 : Int32)), (.ref a0)])) rfl rfl (hb hby d1_48)
  refine OwnGo.of st5 ?_
  have N5 := Fr.snoc X5 N0 g_a0
  have f6 : n0 ≤ h5.size := Nat.le_trans Z0 (Keep.of_wr W5).1
  have f7 : Keep h0 h5 [a0] := K0.wr W5 (Or.inl (List.mem_of_getElem? (i := 0) rfl))
  have f8 : Arv Z h5 a0 ka .double (4 : Int32) [(.double el0), (.double el1), (.double x2), (.double el3)] (.double (0 : UInt64)) := Arv.set Arq4 qq4 Sq4 Nq4 Hq4 Gq4 rfl W5 2 rfl (Nat.le_of_ble_eq_true rfl)
  show OwnGo p.tables e below _ (T5.setTop (mkF m 49 #[.val (.ref a0), .val (.int (2 : Int32)), .val (.double x2), .second, .val (.int (2 : Int32))] []))
  obtain ⟨fs, hr, hrun, hended, hW, hsame⟩ := X5.leave (v := none) (fun _ => rfl) hlk
  refine ⟨_, _, ?_, hrun, hended, _, _, rfl, ?_, ⟨_, rfl⟩, hW, hsame.mono (by decide) (by decide)⟩
  · show Steps p.tables e below (T5.setTop (mkF m 49 #[.val (.ref a0), .val (.int (2 : Int32)), .val (.double x2), .second, .val (.int (2 : Int32))] [])) _
    exact X5.returnOut hx Bd.returns (hb hby d1_49) hr
  · show Qrm1_2f Z a0 x2 el0 el1 el2 el3 ka h0 n0 _ (T5.setFrames fs).heap _
    rw [show (T5.setFrames fs).heap = h5 from e5]
    exact ⟨rfl, N5, f7, f8⟩
theorem ef_rm1_3tt (m : MethodId) (a0 : Addr) (x2 : UInt64) : entryFrame m #[(.ref a0), (.int (3 : Int32)), (.double x2)] 5 = mkF m 0 #[.val (.ref a0), .val (.int (3 : Int32)), .val (.double x2), .second, .unset] [] := by first | (simp [entryFrame, mkF, argsToLocals, Value.category]; done) | rfl
def Qrm1_3tt (Z : State) (a0 : Addr) (x2 : UInt64) (el0 : UInt64) (el1 : UInt64) (el2 : UInt64) (el3 : UInt64) (ka : ClassId) (h0 : Heap) (n0 : Nat) (v : Option Value) (h : Heap) (L : List Loc) : Prop := v = none ∧ Fr n0 L ∧ Keep h0 h [a0] ∧ Arv Z h a0 ka .double (4 : Int32) [(.double x2), (.double el0), (.double el2), (.double el1)] (.double (0 : UInt64))
set_option maxRecDepth 65536 in
set_option maxHeartbeats 40000000 in
theorem rm1_3tt (l : Launch) (Z : State) (aw : Array Value) (hw : ∀ d ∈ tables_1, d.before aw Z = true) (ws : List Jvm.Cond) (a0 : Addr) (x2 : UInt64) (el0 : UInt64) (el1 : UInt64) (el2 : UInt64) (el3 : UInt64) (ka : ClassId) (h0 : Heap) (n0 : Nat) (Z0 : n0 ≤ h0.size) (V_a : Arv Z h0 a0 ka .double (4 : Int32) [(.double el0), (.double el1), (.double el2), (.double el3)] (.double (0 : UInt64))) (g_a0 : n0 ≤ a0) (hc_h1 : (0 : Int32) < (cmpValue (FP.dcmp el1 x2) .l)) (hc_h0 : (0 : Int32) < (cmpValue (FP.dcmp el0 x2) .l)) :
    MetFree l (⟨"com/example/rankwright/rankwright/rank/Accumulator", "siftUp", "([DID)V"⟩ : MethodName) (head1 (Jvm.Cond.code (⟨"com/example/rankwright/rankwright/rank/Accumulator", "siftUp", "([DID)V"⟩ : MethodName) prog_94_method_24_code 5 none :: ws) ({ frames := 0, cells := 0, slots := 0, locals := 0 } : Room)) (fun a U => a = #[(.ref a0), (.int (3 : Int32)), (.double x2)] ∧ Z.Warmed39 U.vm ∧ U.heap = h0) (fun _ _ _ _ _ => True) (fun _ U o U' => ∃ v L, o = .returned v ∧ Qrm1_3tt Z a0 x2 el0 el1 el2 el3 ka h0 n0 v U'.heap L ∧ FrameEnd U o U' L ({ frames := 0, cells := 0, slots := 0, locals := 0 } : Room).cells ({ frames := 0, cells := 0, slots := 0, locals := 0 } : Room).slots) := by
  refine MetFree.of_bodySF (plainFor_of_name pn_0) hisR ?_
  intro p e s m args below meth c s₁ Bd hml0 hP hK
  obtain ⟨rfl, hZ, hh⟩ := hP
  have hx := Bd.exec
  have hby := Bd.bytes
  have hml : c.maxLocals = 5 := hml0
  have hown : s.vm.findClass "com/example/rankwright/rankwright/rank/Accumulator" = some m.cls := findClass_of_methodNamed Bd.named
  have hnm := (name_of_methodNamed Bd.named Bd.method).1
  have X0 : Stand p l e ({ frames := 0, cells := 0, slots := 0, locals := 0 } : Room) s m #[(.ref a0), (.int (3 : Int32)), (.double x2)] below meth c s₁ [] 0 0 := Stand.of_body Bd
  have e0 : s₁.heap = h0 := by rw [← hh, Bd.state]; rfl
  have N0 := Fr.nil n0
  have hlk := Bd.notSynchronized
  show OwnGo p.tables e below _ (s₁.setTop (entryFrame m #[(.ref a0), (.int (3 : Int32)), (.double x2)] 5))
  rw [ef_rm1_3tt m a0 x2]
  have K0 : Keep h0 h0 [a0] := Keep.refl _ _
  show OwnGo p.tables e below _ (s₁.setTop (mkF m 0 #[.val (.ref a0), .val (.int (3 : Int32)), .val (.double x2), .second, .unset] []))
  refine OwnGo.of (A := s₁.setTop (mkF m 0 #[.val (.ref a0), .val (.int (3 : Int32)), .val (.double x2), .second, .unset] [])) (B := s₁.setTop (mkF m 5 #[.val (.ref a0), .val (.int (3 : Int32)), .val (.double x2), .second, .val (.int (3 : Int32))] [(.int (3 : Int32))])) (fun t k => ?_) ?_
  · show Steps p.tables e below (s₁.setTop (mkF m 0 #[.val (.ref a0), .val (.int (3 : Int32)), .val (.double x2), .second, .unset] [])) t
    refine XS.iloadN X0.here hx rfl (hb hby d1_0) rfl ?_
    show Steps p.tables e below (s₁.setTop (mkF m 1 #[.val (.ref a0), .val (.int (3 : Int32)), .val (.double x2), .second, .unset] [(.int (3 : Int32))])) t
    refine XS.istore X0.here hx rfl (hb hby d1_1) rfl (l' := #[.val (.ref a0), .val (.int (3 : Int32)), .val (.double x2), .second, .val (.int (3 : Int32))]) rfl ?_
    show Steps p.tables e below (s₁.setTop (mkF m 3 #[.val (.ref a0), .val (.int (3 : Int32)), .val (.double x2), .second, .val (.int (3 : Int32))] [])) t
    refine XS.iload X0.here hx rfl (hb hby d1_3) rfl ?_
    exact k
  have hc1 : (0 : Int32) < (3 : Int32) := by decide
  refine OwnGo.of (A := s₁.setTop (mkF m 5 #[.val (.ref a0), .val (.int (3 : Int32)), .val (.double x2), .second, .val (.int (3 : Int32))] [(.int (3 : Int32))])) (B := s₁.setTop (mkF m 15 #[.val (.ref a0), .val (.int (3 : Int32)), .val (.double x2), .second, .val (.int (3 : Int32))] [(.int (1 : Int32)), (.ref a0)])) (fun t k => ?_) ?_
  · show Steps p.tables e below (s₁.setTop (mkF m 5 #[.val (.ref a0), .val (.int (3 : Int32)), .val (.double x2), .second, .val (.int (3 : Int32))] [(.int (3 : Int32))])) t
    refine XS.ifNo X0.here hx rfl (hb hby d1_5) rfl ((if0 _ _).trans (tlt hc1).2.2.2) ?_
    show Steps p.tables e below (s₁.setTop (mkF m 8 #[.val (.ref a0), .val (.int (3 : Int32)), .val (.double x2), .second, .val (.int (3 : Int32))] [])) t
    refine XS.aloadN X0.here hx rfl (hb hby d1_8) rfl rfl ?_
    show Steps p.tables e below (s₁.setTop (mkF m 9 #[.val (.ref a0), .val (.int (3 : Int32)), .val (.double x2), .second, .val (.int (3 : Int32))] [(.ref a0)])) t
    refine XS.iload X0.here hx rfl (hb hby d1_9) rfl ?_
    show Steps p.tables e below (s₁.setTop (mkF m 11 #[.val (.ref a0), .val (.int (3 : Int32)), .val (.double x2), .second, .val (.int (3 : Int32))] [(.int (3 : Int32)), (.ref a0)])) t
    refine XS.iconst X0.here hx rfl (hb hby d1_11) ?_
    show Steps p.tables e below (s₁.setTop (mkF m 12 #[.val (.ref a0), .val (.int (3 : Int32)), .val (.double x2), .second, .val (.int (3 : Int32))] [(.int (1 : Int32)), (.int (3 : Int32)), (.ref a0)])) t
    refine XS.isub X0.here hx rfl (hb hby d1_12) rfl ?_
    show Steps p.tables e below (s₁.setTop (mkF m 13 #[.val (.ref a0), .val (.int (3 : Int32)), .val (.double x2), .second, .val (.int (3 : Int32))] [(.int (2 : Int32)), (.ref a0)])) t
    refine XS.iconst X0.here hx rfl (hb hby d1_13) ?_
    show Steps p.tables e below (s₁.setTop (mkF m 14 #[.val (.ref a0), .val (.int (3 : Int32)), .val (.double x2), .second, .val (.int (3 : Int32))] [(.int (2 : Int32)), (.int (2 : Int32)), (.ref a0)])) t
    refine XS.idiv X0.here hx rfl (hb hby d1_14) rfl (by decide) ?_
    exact k
  have cq2 := V_a
  obtain ⟨clq2, Arq2, qq2, Sq2, Nq2, Hq2, Gq2⟩ := cq2
  have hinq2 := inb_of (j := (1 : Int32)) Sq2 ⟨by decide, by decide⟩
  refine OwnGo.of (X0.daload hx (j := (1 : Int32)) (v := (.double el1)) (by rw [e0]; exact Arq2.1) (State.isArrayOf_alike hZ.alike Arq2.2.1) Arq2.2.2 hinq2 (Hq2.at hinq2 rfl) (g := (mkF m 15 #[.val (.ref a0), .val (.int (3 : Int32)), .val (.double x2), .second, .val (.int (3 : Int32))] [(.int (1 : Int32)), (.ref a0)])) rfl rfl (hb hby d1_15)) ?_
  show OwnGo p.tables e below _ (s₁.setTop (mkF m 16 #[.val (.ref a0), .val (.int (3 : Int32)), .val (.double x2), .second, .val (.int (3 : Int32))] [(.double el1)]))
  refine OwnGo.of (A := s₁.setTop (mkF m 16 #[.val (.ref a0), .val (.int (3 : Int32)), .val (.double x2), .second, .val (.int (3 : Int32))] [(.double el1)])) (B := s₁.setTop (mkF m 18 #[.val (.ref a0), .val (.int (3 : Int32)), .val (.double x2), .second, .val (.int (3 : Int32))] [(.int (cmpValue (FP.dcmp el1 x2) .l))])) (fun t k => ?_) ?_
  · show Steps p.tables e below (s₁.setTop (mkF m 16 #[.val (.ref a0), .val (.int (3 : Int32)), .val (.double x2), .second, .val (.int (3 : Int32))] [(.double el1)])) t
    refine XS.dloadN X0.here hx rfl (hb hby d1_16) rfl ?_
    show Steps p.tables e below (s₁.setTop (mkF m 17 #[.val (.ref a0), .val (.int (3 : Int32)), .val (.double x2), .second, .val (.int (3 : Int32))] [(.double x2), (.double el1)])) t
    refine XS.dcmpS X0.here hx rfl (hb hby d1_17) rfl rfl ?_
    exact k
  have hc3 : (0 : Int32) < (cmpValue (FP.dcmp el1 x2) .l) := hc_h1
  refine OwnGo.of (A := s₁.setTop (mkF m 18 #[.val (.ref a0), .val (.int (3 : Int32)), .val (.double x2), .second, .val (.int (3 : Int32))] [(.int (cmpValue (FP.dcmp el1 x2) .l))])) (B := s₁.setTop (mkF m 31 #[.val (.ref a0), .val (.int (3 : Int32)), .val (.double x2), .second, .val (.int (3 : Int32))] [(.int (1 : Int32)), (.ref a0), (.int (3 : Int32)), (.ref a0)])) (fun t k => ?_) ?_
  · show Steps p.tables e below (s₁.setTop (mkF m 18 #[.val (.ref a0), .val (.int (3 : Int32)), .val (.double x2), .second, .val (.int (3 : Int32))] [(.int (cmpValue (FP.dcmp el1 x2) .l))])) t
    refine XS.ifNo X0.here hx rfl (hb hby d1_18) rfl ((if0 _ _).trans (tlt hc3).2.2.2) ?_
    show Steps p.tables e below (s₁.setTop (mkF m 21 #[.val (.ref a0), .val (.int (3 : Int32)), .val (.double x2), .second, .val (.int (3 : Int32))] [])) t
    refine XS.aloadN X0.here hx rfl (hb hby d1_21) rfl rfl ?_
    show Steps p.tables e below (s₁.setTop (mkF m 22 #[.val (.ref a0), .val (.int (3 : Int32)), .val (.double x2), .second, .val (.int (3 : Int32))] [(.ref a0)])) t
    refine XS.iload X0.here hx rfl (hb hby d1_22) rfl ?_
    show Steps p.tables e below (s₁.setTop (mkF m 24 #[.val (.ref a0), .val (.int (3 : Int32)), .val (.double x2), .second, .val (.int (3 : Int32))] [(.int (3 : Int32)), (.ref a0)])) t
    refine XS.aloadN X0.here hx rfl (hb hby d1_24) rfl rfl ?_
    show Steps p.tables e below (s₁.setTop (mkF m 25 #[.val (.ref a0), .val (.int (3 : Int32)), .val (.double x2), .second, .val (.int (3 : Int32))] [(.ref a0), (.int (3 : Int32)), (.ref a0)])) t
    refine XS.iload X0.here hx rfl (hb hby d1_25) rfl ?_
    show Steps p.tables e below (s₁.setTop (mkF m 27 #[.val (.ref a0), .val (.int (3 : Int32)), .val (.double x2), .second, .val (.int (3 : Int32))] [(.int (3 : Int32)), (.ref a0), (.int (3 : Int32)), (.ref a0)])) t
    refine XS.iconst X0.here hx rfl (hb hby d1_27) ?_
    show Steps p.tables e below (s₁.setTop (mkF m 28 #[.val (.ref a0), .val (.int (3 : Int32)), .val (.double x2), .second, .val (.int (3 : Int32))] [(.int (1 : Int32)), (.int (3 : Int32)), (.ref a0), (.int (3 : Int32)), (.ref a0)])) t
    refine XS.isub X0.here hx rfl (hb hby d1_28) rfl ?_
    show Steps p.tables e below (s₁.setTop (mkF m 29 #[.val (.ref a0), .val (.int (3 : Int32)), .val (.double x2), .second, .val (.int (3 : Int32))] [(.int (2 : Int32)), (.ref a0), (.int (3 : Int32)), (.ref a0)])) t
    refine XS.iconst X0.here hx rfl (hb hby d1_29) ?_
    show Steps p.tables e below (s₁.setTop (mkF m 30 #[.val (.ref a0), .val (.int (3 : Int32)), .val (.double x2), .second, .val (.int (3 : Int32))] [(.int (2 : Int32)), (.int (2 : Int32)), (.ref a0), (.int (3 : Int32)), (.ref a0)])) t
    refine XS.idiv X0.here hx rfl (hb hby d1_30) rfl (by decide) ?_
    exact k
  have cq4 := V_a
  obtain ⟨clq4, Arq4, qq4, Sq4, Nq4, Hq4, Gq4⟩ := cq4
  have hinq4 := inb_of (j := (1 : Int32)) Sq4 ⟨by decide, by decide⟩
  refine OwnGo.of (X0.daload hx (j := (1 : Int32)) (v := (.double el1)) (by rw [e0]; exact Arq4.1) (State.isArrayOf_alike hZ.alike Arq4.2.1) Arq4.2.2 hinq4 (Hq4.at hinq4 rfl) (g := (mkF m 31 #[.val (.ref a0), .val (.int (3 : Int32)), .val (.double x2), .second, .val (.int (3 : Int32))] [(.int (1 : Int32)), (.ref a0), (.int (3 : Int32)), (.ref a0)])) rfl rfl (hb hby d1_31)) ?_
  show OwnGo p.tables e below _ (s₁.setTop (mkF m 32 #[.val (.ref a0), .val (.int (3 : Int32)), .val (.double x2), .second, .val (.int (3 : Int32))] [(.double el1), (.int (3 : Int32)), (.ref a0)]))
  have cq5 := V_a
  obtain ⟨clq5, Arq5, qq5, Sq5, Nq5, Hq5, Gq5⟩ := cq5
  obtain ⟨T6, h6, X6, e6, W6, st6⟩ := stD X0 hx hZ e0 Arq5 (j := (3 : Int32)) (inb_of Sq5 ⟨by decide, by decide⟩) (g := (mkF m 32 #[.val (.ref a0), .val (.int (3 : Int32)), .val (.double x2), .second, .val (.int (3 : Int32))] [(.double el1), (.int (3 : Int32)), (.ref a0)])) rfl rfl (hb hby d1_32)
  refine OwnGo.of st6 ?_
  have N6 := Fr.snoc X6 N0 g_a0
  have f7 : n0 ≤ h6.size := Nat.le_trans Z0 (Keep.of_wr W6).1
  have f8 : Keep h0 h6 [a0] := K0.wr W6 (Or.inl (List.mem_of_getElem? (i := 0) rfl))
  have f9 : Arv Z h6 a0 ka .double (4 : Int32) [(.double el0), (.double el1), (.double el2), (.double el1)] (.double (0 : UInt64)) := Arv.set Arq5 qq5 Sq5 Nq5 Hq5 Gq5 rfl W6 3 rfl (Nat.le_of_ble_eq_true rfl)
  show OwnGo p.tables e below _ (T6.setTop (mkF m 33 #[.val (.ref a0), .val (.int (3 : Int32)), .val (.double x2), .second, .val (.int (3 : Int32))] []))
  refine OwnGo.of (A := T6.setTop (mkF m 33 #[.val (.ref a0), .val (.int (3 : Int32)), .val (.double x2), .second, .val (.int (3 : Int32))] [])) (B := T6.setTop (mkF m 5 #[.val (.ref a0), .val (.int (3 : Int32)), .val (.double x2), .second, .val (.int (1 : Int32))] [(.int (1 : Int32))])) (fun t k => ?_) ?_
  · show Steps p.tables e below (T6.setTop (mkF m 33 #[.val (.ref a0), .val (.int (3 : Int32)), .val (.double x2), .second, .val (.int (3 : Int32))] [])) t
    refine XS.iload X6.here hx rfl (hb hby d1_33) rfl ?_
    show Steps p.tables e below (T6.setTop (mkF m 35 #[.val (.ref a0), .val (.int (3 : Int32)), .val (.double x2), .second, .val (.int (3 : Int32))] [(.int (3 : Int32))])) t
    refine XS.iconst X6.here hx rfl (hb hby d1_35) ?_
    show Steps p.tables e below (T6.setTop (mkF m 36 #[.val (.ref a0), .val (.int (3 : Int32)), .val (.double x2), .second, .val (.int (3 : Int32))] [(.int (1 : Int32)), (.int (3 : Int32))])) t
    refine XS.isub X6.here hx rfl (hb hby d1_36) rfl ?_
    show Steps p.tables e below (T6.setTop (mkF m 37 #[.val (.ref a0), .val (.int (3 : Int32)), .val (.double x2), .second, .val (.int (3 : Int32))] [(.int (2 : Int32))])) t
    refine XS.iconst X6.here hx rfl (hb hby d1_37) ?_
    show Steps p.tables e below (T6.setTop (mkF m 38 #[.val (.ref a0), .val (.int (3 : Int32)), .val (.double x2), .second, .val (.int (3 : Int32))] [(.int (2 : Int32)), (.int (2 : Int32))])) t
    refine XS.idiv X6.here hx rfl (hb hby d1_38) rfl (by decide) ?_
    show Steps p.tables e below (T6.setTop (mkF m 39 #[.val (.ref a0), .val (.int (3 : Int32)), .val (.double x2), .second, .val (.int (3 : Int32))] [(.int (1 : Int32))])) t
    refine XS.istore X6.here hx rfl (hb hby d1_39) rfl (l' := #[.val (.ref a0), .val (.int (3 : Int32)), .val (.double x2), .second, .val (.int (1 : Int32))]) rfl ?_
    show Steps p.tables e below (T6.setTop (mkF m 41 #[.val (.ref a0), .val (.int (3 : Int32)), .val (.double x2), .second, .val (.int (1 : Int32))] [])) t
    refine XS.goto X6.here hx rfl (pc0 := 41) (pc' := 3) rfl (hb hby d1_41) (by decide) (by decide) ?_
    show Steps p.tables e below (T6.setTop (mkF m 3 #[.val (.ref a0), .val (.int (3 : Int32)), .val (.double x2), .second, .val (.int (1 : Int32))] [])) t
    refine XS.iload X6.here hx rfl (hb hby d1_3) rfl ?_
    exact k
  have hc10 : (0 : Int32) < (1 : Int32) := by decide
  refine OwnGo.of (A := T6.setTop (mkF m 5 #[.val (.ref a0), .val (.int (3 : Int32)), .val (.double x2), .second, .val (.int (1 : Int32))] [(.int (1 : Int32))])) (B := T6.setTop (mkF m 15 #[.val (.ref a0), .val (.int (3 : Int32)), .val (.double x2), .second, .val (.int (1 : Int32))] [(.int (0 : Int32)), (.ref a0)])) (fun t k => ?_) ?_
  · show Steps p.tables e below (T6.setTop (mkF m 5 #[.val (.ref a0), .val (.int (3 : Int32)), .val (.double x2), .second, .val (.int (1 : Int32))] [(.int (1 : Int32))])) t
    refine XS.ifNo X6.here hx rfl (hb hby d1_5) rfl ((if0 _ _).trans (tlt hc10).2.2.2) ?_
    show Steps p.tables e below (T6.setTop (mkF m 8 #[.val (.ref a0), .val (.int (3 : Int32)), .val (.double x2), .second, .val (.int (1 : Int32))] [])) t
    refine XS.aloadN X6.here hx rfl (hb hby d1_8) rfl rfl ?_
    show Steps p.tables e below (T6.setTop (mkF m 9 #[.val (.ref a0), .val (.int (3 : Int32)), .val (.double x2), .second, .val (.int (1 : Int32))] [(.ref a0)])) t
    refine XS.iload X6.here hx rfl (hb hby d1_9) rfl ?_
    show Steps p.tables e below (T6.setTop (mkF m 11 #[.val (.ref a0), .val (.int (3 : Int32)), .val (.double x2), .second, .val (.int (1 : Int32))] [(.int (1 : Int32)), (.ref a0)])) t
    refine XS.iconst X6.here hx rfl (hb hby d1_11) ?_
    show Steps p.tables e below (T6.setTop (mkF m 12 #[.val (.ref a0), .val (.int (3 : Int32)), .val (.double x2), .second, .val (.int (1 : Int32))] [(.int (1 : Int32)), (.int (1 : Int32)), (.ref a0)])) t
    refine XS.isub X6.here hx rfl (hb hby d1_12) rfl ?_
    show Steps p.tables e below (T6.setTop (mkF m 13 #[.val (.ref a0), .val (.int (3 : Int32)), .val (.double x2), .second, .val (.int (1 : Int32))] [(.int (0 : Int32)), (.ref a0)])) t
    refine XS.iconst X6.here hx rfl (hb hby d1_13) ?_
    show Steps p.tables e below (T6.setTop (mkF m 14 #[.val (.ref a0), .val (.int (3 : Int32)), .val (.double x2), .second, .val (.int (1 : Int32))] [(.int (2 : Int32)), (.int (0 : Int32)), (.ref a0)])) t
    refine XS.idiv X6.here hx rfl (hb hby d1_14) rfl (by decide) ?_
    exact k
  have cq11 := f9
  obtain ⟨clq11, Arq11, qq11, Sq11, Nq11, Hq11, Gq11⟩ := cq11
  have hinq11 := inb_of (j := (0 : Int32)) Sq11 ⟨by decide, by decide⟩
  refine OwnGo.of (X6.daload hx (j := (0 : Int32)) (v := (.double el0)) (by rw [e6]; exact Arq11.1) (State.isArrayOf_alike hZ.alike Arq11.2.1) Arq11.2.2 hinq11 (Hq11.at hinq11 rfl) (g := (mkF m 15 #[.val (.ref a0), .val (.int (3 : Int32)), .val (.double x2), .second, .val (.int (1 : Int32))] [(.int (0 : Int32)), (.ref a0)])) rfl rfl (hb hby d1_15)) ?_
  show OwnGo p.tables e below _ (T6.setTop (mkF m 16 #[.val (.ref a0), .val (.int (3 : Int32)), .val (.double x2), .second, .val (.int (1 : Int32))] [(.double el0)]))
  refine OwnGo.of (A := T6.setTop (mkF m 16 #[.val (.ref a0), .val (.int (3 : Int32)), .val (.double x2), .second, .val (.int (1 : Int32))] [(.double el0)])) (B := T6.setTop (mkF m 18 #[.val (.ref a0), .val (.int (3 : Int32)), .val (.double x2), .second, .val (.int (1 : Int32))] [(.int (cmpValue (FP.dcmp el0 x2) .l))])) (fun t k => ?_) ?_
  · show Steps p.tables e below (T6.setTop (mkF m 16 #[.val (.ref a0), .val (.int (3 : Int32)), .val (.double x2), .second, .val (.int (1 : Int32))] [(.double el0)])) t
    refine XS.dloadN X6.here hx rfl (hb hby d1_16) rfl ?_
    show Steps p.tables e below (T6.setTop (mkF m 17 #[.val (.ref a0), .val (.int (3 : Int32)), .val (.double x2), .second, .val (.int (1 : Int32))] [(.double x2), (.double el0)])) t
    refine XS.dcmpS X6.here hx rfl (hb hby d1_17) rfl rfl ?_
    exact k
  have hc12 : (0 : Int32) < (cmpValue (FP.dcmp el0 x2) .l) := hc_h0
  refine OwnGo.of (A := T6.setTop (mkF m 18 #[.val (.ref a0), .val (.int (3 : Int32)), .val (.double x2), .second, .val (.int (1 : Int32))] [(.int (cmpValue (FP.dcmp el0 x2) .l))])) (B := T6.setTop (mkF m 31 #[.val (.ref a0), .val (.int (3 : Int32)), .val (.double x2), .second, .val (.int (1 : Int32))] [(.int (0 : Int32)), (.ref a0), (.int (1 : Int32)), (.ref a0)])) (fun t k => ?_) ?_
  · show Steps p.tables e below (T6.setTop (mkF m 18 #[.val (.ref a0), .val (.int (3 : Int32)), .val (.double x2), .second, .val (.int (1 : Int32))] [(.int (cmpValue (FP.dcmp el0 x2) .l))])) t
    refine XS.ifNo X6.here hx rfl (hb hby d1_18) rfl ((if0 _ _).trans (tlt hc12).2.2.2) ?_
    show Steps p.tables e below (T6.setTop (mkF m 21 #[.val (.ref a0), .val (.int (3 : Int32)), .val (.double x2), .second, .val (.int (1 : Int32))] [])) t
    refine XS.aloadN X6.here hx rfl (hb hby d1_21) rfl rfl ?_
    show Steps p.tables e below (T6.setTop (mkF m 22 #[.val (.ref a0), .val (.int (3 : Int32)), .val (.double x2), .second, .val (.int (1 : Int32))] [(.ref a0)])) t
    refine XS.iload X6.here hx rfl (hb hby d1_22) rfl ?_
    show Steps p.tables e below (T6.setTop (mkF m 24 #[.val (.ref a0), .val (.int (3 : Int32)), .val (.double x2), .second, .val (.int (1 : Int32))] [(.int (1 : Int32)), (.ref a0)])) t
    refine XS.aloadN X6.here hx rfl (hb hby d1_24) rfl rfl ?_
    show Steps p.tables e below (T6.setTop (mkF m 25 #[.val (.ref a0), .val (.int (3 : Int32)), .val (.double x2), .second, .val (.int (1 : Int32))] [(.ref a0), (.int (1 : Int32)), (.ref a0)])) t
    refine XS.iload X6.here hx rfl (hb hby d1_25) rfl ?_
    show Steps p.tables e below (T6.setTop (mkF m 27 #[.val (.ref a0), .val (.int (3 : Int32)), .val (.double x2), .second, .val (.int (1 : Int32))] [(.int (1 : Int32)), (.ref a0), (.int (1 : Int32)), (.ref a0)])) t
    refine XS.iconst X6.here hx rfl (hb hby d1_27) ?_
    show Steps p.tables e below (T6.setTop (mkF m 28 #[.val (.ref a0), .val (.int (3 : Int32)), .val (.double x2), .second, .val (.int (1 : Int32))] [(.int (1 : Int32)), (.int (1 : Int32)), (.ref a0), (.int (1 : Int32)), (.ref a0)])) t
    refine XS.isub X6.here hx rfl (hb hby d1_28) rfl ?_
    show Steps p.tables e below (T6.setTop (mkF m 29 #[.val (.ref a0), .val (.int (3 : Int32)), .val (.double x2), .second, .val (.int (1 : Int32))] [(.int (0 : Int32)), (.ref a0), (.int (1 : Int32)), (.ref a0)])) t
    refine XS.iconst X6.here hx rfl (hb hby d1_29) ?_
    show Steps p.tables e below (T6.setTop (mkF m 30 #[.val (.ref a0), .val (.int (3 : Int32)), .val (.double x2), .second, .val (.int (1 : Int32))] [(.int (2 : Int32)), (.int (0 : Int32)), (.ref a0), (.int (1 : Int32)), (.ref a0)])) t
    refine XS.idiv X6.here hx rfl (hb hby d1_30) rfl (by decide) ?_
    exact k
  have cq13 := f9
  obtain ⟨clq13, Arq13, qq13, Sq13, Nq13, Hq13, Gq13⟩ := cq13
  have hinq13 := inb_of (j := (0 : Int32)) Sq13 ⟨by decide, by decide⟩
  refine OwnGo.of (X6.daload hx (j := (0 : Int32)) (v := (.double el0)) (by rw [e6]; exact Arq13.1) (State.isArrayOf_alike hZ.alike Arq13.2.1) Arq13.2.2 hinq13 (Hq13.at hinq13 rfl) (g := (mkF m 31 #[.val (.ref a0), .val (.int (3 : Int32)), .val (.double x2), .second, .val (.int (1 : Int32))] [(.int (0 : Int32)), (.ref a0), (.int (1 : Int32)), (.ref a0)])) rfl rfl (hb hby d1_31)) ?_
  show OwnGo p.tables e below _ (T6.setTop (mkF m 32 #[.val (.ref a0), .val (.int (3 : Int32)), .val (.double x2), .second, .val (.int (1 : Int32))] [(.double el0), (.int (1 : Int32)), (.ref a0)]))
  have cq14 := f9
  obtain ⟨clq14, Arq14, qq14, Sq14, Nq14, Hq14, Gq14⟩ := cq14
  obtain ⟨T15, h15, X15, e15, W15, st15⟩ := stD X6 hx hZ e6 Arq14 (j := (1 : Int32)) (inb_of Sq14 ⟨by decide, by decide⟩) (g := (mkF m 32 #[.val (.ref a0), .val (.int (3 : Int32)), .val (.double x2), .second, .val (.int (1 : Int32))] [(.double el0), (.int (1 : Int32)), (.ref a0)])) rfl rfl (hb hby d1_32)
  refine OwnGo.of st15 ?_
  have N15 := Fr.snoc X15 N6 g_a0
  have f16 : n0 ≤ h15.size := Nat.le_trans f7 (Keep.of_wr W15).1
  have f17 : Keep h0 h15 [a0] := f8.wr W15 (Or.inl (List.mem_of_getElem? (i := 0) rfl))
  have f18 : Arv Z h15 a0 ka .double (4 : Int32) [(.double el0), (.double el0), (.double el2), (.double el1)] (.double (0 : UInt64)) := Arv.set Arq14 qq14 Sq14 Nq14 Hq14 Gq14 rfl W15 1 rfl (Nat.le_of_ble_eq_true rfl)
  show OwnGo p.tables e below _ (T15.setTop (mkF m 33 #[.val (.ref a0), .val (.int (3 : Int32)), .val (.double x2), .second, .val (.int (1 : Int32))] []))
  refine OwnGo.of (A := T15.setTop (mkF m 33 #[.val (.ref a0), .val (.int (3 : Int32)), .val (.double x2), .second, .val (.int (1 : Int32))] [])) (B := T15.setTop (mkF m 5 #[.val (.ref a0), .val (.int (3 : Int32)), .val (.double x2), .second, .val (.int (0 : Int32))] [(.int (0 : Int32))])) (fun t k => ?_) ?_
  · show Steps p.tables e below (T15.setTop (mkF m 33 #[.val (.ref a0), .val (.int (3 : Int32)), .val (.double x2), .second, .val (.int (1 : Int32))] [])) t
    refine XS.iload X15.here hx rfl (hb hby d1_33) rfl ?_
    show Steps p.tables e below (T15.setTop (mkF m 35 #[.val (.ref a0), .val (.int (3 : Int32)), .val (.double x2), .second, .val (.int (1 : Int32))] [(.int (1 : Int32))])) t
    refine XS.iconst X15.here hx rfl (hb hby d1_35) ?_
    show Steps p.tables e below (T15.setTop (mkF m 36 #[.val (.ref a0), .val (.int (3 : Int32)), .val (.double x2), .second, .val (.int (1 : Int32))] [(.int (1 : Int32)), (.int (1 : Int32))])) t
    refine XS.isub X15.here hx rfl (hb hby d1_36) rfl ?_
    show Steps p.tables e below (T15.setTop (mkF m 37 #[.val (.ref a0), .val (.int (3 : Int32)), .val (.double x2), .second, .val (.int (1 : Int32))] [(.int (0 : Int32))])) t
    refine XS.iconst X15.here hx rfl (hb hby d1_37) ?_
    show Steps p.tables e below (T15.setTop (mkF m 38 #[.val (.ref a0), .val (.int (3 : Int32)), .val (.double x2), .second, .val (.int (1 : Int32))] [(.int (2 : Int32)), (.int (0 : Int32))])) t
    refine XS.idiv X15.here hx rfl (hb hby d1_38) rfl (by decide) ?_
    show Steps p.tables e below (T15.setTop (mkF m 39 #[.val (.ref a0), .val (.int (3 : Int32)), .val (.double x2), .second, .val (.int (1 : Int32))] [(.int (0 : Int32))])) t
    refine XS.istore X15.here hx rfl (hb hby d1_39) rfl (l' := #[.val (.ref a0), .val (.int (3 : Int32)), .val (.double x2), .second, .val (.int (0 : Int32))]) rfl ?_
    show Steps p.tables e below (T15.setTop (mkF m 41 #[.val (.ref a0), .val (.int (3 : Int32)), .val (.double x2), .second, .val (.int (0 : Int32))] [])) t
    refine XS.goto X15.here hx rfl (pc0 := 41) (pc' := 3) rfl (hb hby d1_41) (by decide) (by decide) ?_
    show Steps p.tables e below (T15.setTop (mkF m 3 #[.val (.ref a0), .val (.int (3 : Int32)), .val (.double x2), .second, .val (.int (0 : Int32))] [])) t
    refine XS.iload X15.here hx rfl (hb hby d1_3) rfl ?_
    exact k
  have hc19 : ¬ ((0 : Int32) < (0 : Int32)) := by decide
  refine OwnGo.of (A := T15.setTop (mkF m 5 #[.val (.ref a0), .val (.int (3 : Int32)), .val (.double x2), .second, .val (.int (0 : Int32))] [(.int (0 : Int32))])) (B := T15.setTop (mkF m 48 #[.val (.ref a0), .val (.int (3 : Int32)), .val (.double x2), .second, .val (.int (0 : Int32))] [(.double x2), (.int (0 : Int32)), (.ref a0)])) (fun t k => ?_) ?_
  · show Steps p.tables e below (T15.setTop (mkF m 5 #[.val (.ref a0), .val (.int (3 : Int32)), .val (.double x2), .second, .val (.int (0 : Int32))] [(.int (0 : Int32))])) t
    refine XS.ifYes X15.here hx rfl (pc0 := 5) (pc' := 44) rfl (hb hby d1_5) rfl ((if0 _ _).trans (flt hc19).2.2.2) (by decide) (by decide) ?_
    show Steps p.tables e below (T15.setTop (mkF m 44 #[.val (.ref a0), .val (.int (3 : Int32)), .val (.double x2), .second, .val (.int (0 : Int32))] [])) t
    refine XS.aloadN X15.here hx rfl (hb hby d1_44) rfl rfl ?_
    show Steps p.tables e below (T15.setTop (mkF m 45 #[.val (.ref a0), .val (.int (3 : Int32)), .val (.double x2), .second, .val (.int (0 : Int32))] [(.ref a0)])) t
    refine XS.iload X15.here hx rfl (hb hby d1_45) rfl ?_
    show Steps p.tables e below (T15.setTop (mkF m 47 #[.val (.ref a0), .val (.int (3 : Int32)), .val (.double x2), .second, .val (.int (0 : Int32))] [(.int (0 : Int32)), (.ref a0)])) t
    refine XS.dloadN X15.here hx rfl (hb hby d1_47) rfl ?_
    exact k
  have cq20 := f18
  obtain ⟨clq20, Arq20, qq20, Sq20, Nq20, Hq20, Gq20⟩ := cq20
  obtain ⟨T21, h21, X21, e21, W21, st21⟩ := stD X15 hx hZ e15 Arq20 (j := (0 : Int32)) (inb_of Sq20 ⟨by decide, by decide⟩) (g := (mkF m 48 #[.val (.ref a0), .val (.int (3 : Int32)), .val (.double x2), .second, .val (.int (0 : Int32))] [(.double x2), (.int (0 : Int32)), (.ref a0)])) rfl rfl (hb hby d1_48)
  refine OwnGo.of st21 ?_
  have N21 := Fr.snoc X21 N15 g_a0
  have f22 : n0 ≤ h21.size := Nat.le_trans f16 (Keep.of_wr W21).1
  have f23 : Keep h0 h21 [a0] := f17.wr W21 (Or.inl (List.mem_of_getElem? (i := 0) rfl))
  have f24 : Arv Z h21 a0 ka .double (4 : Int32) [(.double x2), (.double el0), (.double el2), (.double el1)] (.double (0 : UInt64)) := Arv.set Arq20 qq20 Sq20 Nq20 Hq20 Gq20 rfl W21 0 rfl (Nat.le_of_ble_eq_true rfl)
  show OwnGo p.tables e below _ (T21.setTop (mkF m 49 #[.val (.ref a0), .val (.int (3 : Int32)), .val (.double x2), .second, .val (.int (0 : Int32))] []))
  obtain ⟨fs, hr, hrun, hended, hW, hsame⟩ := X21.leave (v := none) (fun _ => rfl) hlk
  refine ⟨_, _, ?_, hrun, hended, _, _, rfl, ?_, ⟨_, rfl⟩, hW, hsame.mono (by decide) (by decide)⟩
  · show Steps p.tables e below (T21.setTop (mkF m 49 #[.val (.ref a0), .val (.int (3 : Int32)), .val (.double x2), .second, .val (.int (0 : Int32))] [])) _
    exact X21.returnOut hx Bd.returns (hb hby d1_49) hr
  · show Qrm1_3tt Z a0 x2 el0 el1 el2 el3 ka h0 n0 _ (T21.setFrames fs).heap _
    rw [show (T21.setFrames fs).heap = h21 from e21]
    exact ⟨rfl, N21, f23, f24⟩
theorem ef_rm1_3tf (m : MethodId) (a0 : Addr) (x2 : UInt64) : entryFrame m #[(.ref a0), (.int (3 : Int32)), (.double x2)] 5 = mkF m 0 #[.val (.ref a0), .val (.int (3 : Int32)), .val (.double x2), .second, .unset] [] := by first | (simp [entryFrame, mkF, argsToLocals, Value.category]; done) | rfl
def Qrm1_3tf (Z : State) (a0 : Addr) (x2 : UInt64) (el0 : UInt64) (el1 : UInt64) (el2 : UInt64) (el3 : UInt64) (ka : ClassId) (h0 : Heap) (n0 : Nat) (v : Option Value) (h : Heap) (L : List Loc) : Prop := v = none ∧ Fr n0 L ∧ Keep h0 h [a0] ∧ Arv Z h a0 ka .double (4 : Int32) [(.double el0), (.double x2), (.double el2), (.double el1)] (.double (0 : UInt64))
set_option maxRecDepth 65536 in
set_option maxHeartbeats 40000000 in
theorem rm1_3tf (l : Launch) (Z : State) (aw : Array Value) (hw : ∀ d ∈ tables_1, d.before aw Z = true) (ws : List Jvm.Cond) (a0 : Addr) (x2 : UInt64) (el0 : UInt64) (el1 : UInt64) (el2 : UInt64) (el3 : UInt64) (ka : ClassId) (h0 : Heap) (n0 : Nat) (Z0 : n0 ≤ h0.size) (V_a : Arv Z h0 a0 ka .double (4 : Int32) [(.double el0), (.double el1), (.double el2), (.double el3)] (.double (0 : UInt64))) (g_a0 : n0 ≤ a0) (hc_h1 : (0 : Int32) < (cmpValue (FP.dcmp el1 x2) .l)) (hc_h0 : ¬ ((0 : Int32) < (cmpValue (FP.dcmp el0 x2) .l))) :
    MetFree l (⟨"com/example/rankwright/rankwright/rank/Accumulator", "siftUp", "([DID)V"⟩ : MethodName) (head1 (Jvm.Cond.code (⟨"com/example/rankwright/rankwright/rank/Accumulator", "siftUp", "([DID)V"⟩ : MethodName) prog_94_method_24_code 5 none :: ws) ({ frames := 0, cells := 0, slots := 0, locals := 0 } : Room)) (fun a U => a = #[(.ref a0), (.int (3 : Int32)), (.double x2)] ∧ Z.Warmed39 U.vm ∧ U.heap = h0) (fun _ _ _ _ _ => True) (fun _ U o U' => ∃ v L, o = .returned v ∧ Qrm1_3tf Z a0 x2 el0 el1 el2 el3 ka h0 n0 v U'.heap L ∧ FrameEnd U o U' L ({ frames := 0, cells := 0, slots := 0, locals := 0 } : Room).cells ({ frames := 0, cells := 0, slots := 0, locals := 0 } : Room).slots) := by
  refine MetFree.of_bodySF (plainFor_of_name pn_0) hisR ?_
  intro p e s m args below meth c s₁ Bd hml0 hP hK
  obtain ⟨rfl, hZ, hh⟩ := hP
  have hx := Bd.exec
  have hby := Bd.bytes
  have hml : c.maxLocals = 5 := hml0
  have hown : s.vm.findClass "com/example/rankwright/rankwright/rank/Accumulator" = some m.cls := findClass_of_methodNamed Bd.named
  have hnm := (name_of_methodNamed Bd.named Bd.method).1
  have X0 : Stand p l e ({ frames := 0, cells := 0, slots := 0, locals := 0 } : Room) s m #[(.ref a0), (.int (3 : Int32)), (.double x2)] below meth c s₁ [] 0 0 := Stand.of_body Bd
  have e0 : s₁.heap = h0 := by rw [← hh, Bd.state]; rfl
  have N0 := Fr.nil n0
  have hlk := Bd.notSynchronized
  show OwnGo p.tables e below _ (s₁.setTop (entryFrame m #[(.ref a0), (.int (3 : Int32)), (.double x2)] 5))
  rw [ef_rm1_3tf m a0 x2]
  have K0 : Keep h0 h0 [a0] := Keep.refl _ _
  show OwnGo p.tables e below _ (s₁.setTop (mkF m 0 #[.val (.ref a0), .val (.int (3 : Int32)), .val (.double x2), .second, .unset] []))
  refine OwnGo.of (A := s₁.setTop (mkF m 0 #[.val (.ref a0), .val (.int (3 : Int32)), .val (.double x2), .second, .unset] [])) (B := s₁.setTop (mkF m 5 #[.val (.ref a0), .val (.int (3 : Int32)), .val (.double x2), .second, .val (.int (3 : Int32))] [(.int (3 : Int32))])) (fun t k => ?_) ?_
  · show Steps p.tables e below (s₁.setTop (mkF m 0 #[.val (.ref a0), .val (.int (3 : Int32)), .val (.double x2), .second, .unset] [])) t
    refine XS.iloadN X0.here hx rfl (hb hby d1_0) rfl ?_
    show Steps p.tables e below (s₁.setTop (mkF m 1 #[.val (.ref a0), .val (.int (3 : Int32)), .val (.double x2), .second, .unset] [(.int (3 : Int32))])) t
    refine XS.istore X0.here hx rfl (hb hby d1_1) rfl (l' := #[.val (.ref a0), .val (.int (3 : Int32)), .val (.double x2), .second, .val (.int (3 : Int32))]) rfl ?_
    show Steps p.tables e below (s₁.setTop (mkF m 3 #[.val (.ref a0), .val (.int (3 : Int32)), .val (.double x2), .second, .val (.int (3 : Int32))] [])) t
    refine XS.iload X0.here hx rfl (hb hby d1_3) rfl ?_
    exact k
  have hc1 : (0 : Int32) < (3 : Int32) := by decide
  refine OwnGo.of (A := s₁.setTop (mkF m 5 #[.val (.ref a0), .val (.int (3 : Int32)), .val (.double x2), .second, .val (.int (3 : Int32))] [(.int (3 : Int32))])) (B := s₁.setTop (mkF m 15 #[.val (.ref a0), .val (.int (3 : Int32)), .val (.double x2), .second, .val (.int (3 : Int32))] [(.int (1 : Int32)), (.ref a0)])) (fun t k => ?_) ?_
  · show Steps p.tables e below (s₁.setTop (mkF m 5 #[.val (.ref a0), .val (.int (3 : Int32)), .val (.double x2), .second, .val (.int (3 : Int32))] [(.int (3 : Int32))])) t
    refine XS.ifNo X0.here hx rfl (hb hby d1_5) rfl ((if0 _ _).trans (tlt hc1).2.2.2) ?_
    show Steps p.tables e below (s₁.setTop (mkF m 8 #[.val (.ref a0), .val (.int (3 : Int32)), .val (.double x2), .second, .val (.int (3 : Int32))] [])) t
    refine XS.aloadN X0.here hx rfl (hb hby d1_8) rfl rfl ?_
    show Steps p.tables e below (s₁.setTop (mkF m 9 #[.val (.ref a0), .val (.int (3 : Int32)), .val (.double x2), .second, .val (.int (3 : Int32))] [(.ref a0)])) t
    refine XS.iload X0.here hx rfl (hb hby d1_9) rfl ?_
    show Steps p.tables e below (s₁.setTop (mkF m 11 #[.val (.ref a0), .val (.int (3 : Int32)), .val (.double x2), .second, .val (.int (3 : Int32))] [(.int (3 : Int32)), (.ref a0)])) t
    refine XS.iconst X0.here hx rfl (hb hby d1_11) ?_
    show Steps p.tables e below (s₁.setTop (mkF m 12 #[.val (.ref a0), .val (.int (3 : Int32)), .val (.double x2), .second, .val (.int (3 : Int32))] [(.int (1 : Int32)), (.int (3 : Int32)), (.ref a0)])) t
    refine XS.isub X0.here hx rfl (hb hby d1_12) rfl ?_
    show Steps p.tables e below (s₁.setTop (mkF m 13 #[.val (.ref a0), .val (.int (3 : Int32)), .val (.double x2), .second, .val (.int (3 : Int32))] [(.int (2 : Int32)), (.ref a0)])) t
    refine XS.iconst X0.here hx rfl (hb hby d1_13) ?_
    show Steps p.tables e below (s₁.setTop (mkF m 14 #[.val (.ref a0), .val (.int (3 : Int32)), .val (.double x2), .second, .val (.int (3 : Int32))] [(.int (2 : Int32)), (.int (2 : Int32)), (.ref a0)])) t
    refine XS.idiv X0.here hx rfl (hb hby d1_14) rfl (by decide) ?_
    exact k
  have cq2 := V_a
  obtain ⟨clq2, Arq2, qq2, Sq2, Nq2, Hq2, Gq2⟩ := cq2
  have hinq2 := inb_of (j := (1 : Int32)) Sq2 ⟨by decide, by decide⟩
  refine OwnGo.of (X0.daload hx (j := (1 : Int32)) (v := (.double el1)) (by rw [e0]; exact Arq2.1) (State.isArrayOf_alike hZ.alike Arq2.2.1) Arq2.2.2 hinq2 (Hq2.at hinq2 rfl) (g := (mkF m 15 #[.val (.ref a0), .val (.int (3 : Int32)), .val (.double x2), .second, .val (.int (3 : Int32))] [(.int (1 : Int32)), (.ref a0)])) rfl rfl (hb hby d1_15)) ?_
  show OwnGo p.tables e below _ (s₁.setTop (mkF m 16 #[.val (.ref a0), .val (.int (3 : Int32)), .val (.double x2), .second, .val (.int (3 : Int32))] [(.double el1)]))
  refine OwnGo.of (A := s₁.setTop (mkF m 16 #[.val (.ref a0), .val (.int (3 : Int32)), .val (.double x2), .second, .val (.int (3 : Int32))] [(.double el1)])) (B := s₁.setTop (mkF m 18 #[.val (.ref a0), .val (.int (3 : Int32)), .val (.double x2), .second, .val (.int (3 : Int32))] [(.int (cmpValue (FP.dcmp el1 x2) .l))])) (fun t k => ?_) ?_
  · show Steps p.tables e below (s₁.setTop (mkF m 16 #[.val (.ref a0), .val (.int (3 : Int32)), .val (.double x2), .second, .val (.int (3 : Int32))] [(.double el1)])) t
    refine XS.dloadN X0.here hx rfl (hb hby d1_16) rfl ?_
    show Steps p.tables e below (s₁.setTop (mkF m 17 #[.val (.ref a0), .val (.int (3 : Int32)), .val (.double x2), .second, .val (.int (3 : Int32))] [(.double x2), (.double el1)])) t
    refine XS.dcmpS X0.here hx rfl (hb hby d1_17) rfl rfl ?_
    exact k
  have hc3 : (0 : Int32) < (cmpValue (FP.dcmp el1 x2) .l) := hc_h1
  refine OwnGo.of (A := s₁.setTop (mkF m 18 #[.val (.ref a0), .val (.int (3 : Int32)), .val (.double x2), .second, .val (.int (3 : Int32))] [(.int (cmpValue (FP.dcmp el1 x2) .l))])) (B := s₁.setTop (mkF m 31 #[.val (.ref a0), .val (.int (3 : Int32)), .val (.double x2), .second, .val (.int (3 : Int32))] [(.int (1 : Int32)), (.ref a0), (.int (3 : Int32)), (.ref a0)])) (fun t k => ?_) ?_
  · show Steps p.tables e below (s₁.setTop (mkF m 18 #[.val (.ref a0), .val (.int (3 : Int32)), .val (.double x2), .second, .val (.int (3 : Int32))] [(.int (cmpValue (FP.dcmp el1 x2) .l))])) t
    refine XS.ifNo X0.here hx rfl (hb hby d1_18) rfl ((if0 _ _).trans (tlt hc3).2.2.2) ?_
    show Steps p.tables e below (s₁.setTop (mkF m 21 #[.val (.ref a0), .val (.int (3 : Int32)), .val (.double x2), .second, .val (.int (3 : Int32))] [])) t
    refine XS.aloadN X0.here hx rfl (hb hby d1_21) rfl rfl ?_
    show Steps p.tables e below (s₁.setTop (mkF m 22 #[.val (.ref a0), .val (.int (3 : Int32)), .val (.double x2), .second, .val (.int (3 : Int32))] [(.ref a0)])) t
    refine XS.iload X0.here hx rfl (hb hby d1_22) rfl ?_
    show Steps p.tables e below (s₁.setTop (mkF m 24 #[.val (.ref a0), .val (.int (3 : Int32)), .val (.double x2), .second, .val (.int (3 : Int32))] [(.int (3 : Int32)), (.ref a0)])) t
    refine XS.aloadN X0.here hx rfl (hb hby d1_24) rfl rfl ?_
    show Steps p.tables e below (s₁.setTop (mkF m 25 #[.val (.ref a0), .val (.int (3 : Int32)), .val (.double x2), .second, .val (.int (3 : Int32))] [(.ref a0), (.int (3 : Int32)), (.ref a0)])) t
    refine XS.iload X0.here hx rfl (hb hby d1_25) rfl ?_
    show Steps p.tables e below (s₁.setTop (mkF m 27 #[.val (.ref a0), .val (.int (3 : Int32)), .val (.double x2), .second, .val (.int (3 : Int32))] [(.int (3 : Int32)), (.ref a0), (.int (3 : Int32)), (.ref a0)])) t
    refine XS.iconst X0.here hx rfl (hb hby d1_27) ?_
    show Steps p.tables e below (s₁.setTop (mkF m 28 #[.val (.ref a0), .val (.int (3 : Int32)), .val (.double x2), .second, .val (.int (3 : Int32))] [(.int (1 : Int32)), (.int (3 : Int32)), (.ref a0), (.int (3 : Int32)), (.ref a0)])) t
    refine XS.isub X0.here hx rfl (hb hby d1_28) rfl ?_
    show Steps p.tables e below (s₁.setTop (mkF m 29 #[.val (.ref a0), .val (.int (3 : Int32)), .val (.double x2), .second, .val (.int (3 : Int32))] [(.int (2 : Int32)), (.ref a0), (.int (3 : Int32)), (.ref a0)])) t
    refine XS.iconst X0.here hx rfl (hb hby d1_29) ?_
    show Steps p.tables e below (s₁.setTop (mkF m 30 #[.val (.ref a0), .val (.int (3 : Int32)), .val (.double x2), .second, .val (.int (3 : Int32))] [(.int (2 : Int32)), (.int (2 : Int32)), (.ref a0), (.int (3 : Int32)), (.ref a0)])) t
    refine XS.idiv X0.here hx rfl (hb hby d1_30) rfl (by decide) ?_
    exact k
  have cq4 := V_a
  obtain ⟨clq4, Arq4, qq4, Sq4, Nq4, Hq4, Gq4⟩ := cq4
  have hinq4 := inb_of (j := (1 : Int32)) Sq4 ⟨by decide, by decide⟩
  refine OwnGo.of (X0.daload hx (j := (1 : Int32)) (v := (.double el1)) (by rw [e0]; exact Arq4.1) (State.isArrayOf_alike hZ.alike Arq4.2.1) Arq4.2.2 hinq4 (Hq4.at hinq4 rfl) (g := (mkF m 31 #[.val (.ref a0), .val (.int (3 : Int32)), .val (.double x2), .second, .val (.int (3 : Int32))] [(.int (1 : Int32)), (.ref a0), (.int (3 : Int32)), (.ref a0)])) rfl rfl (hb hby d1_31)) ?_
  show OwnGo p.tables e below _ (s₁.setTop (mkF m 32 #[.val (.ref a0), .val (.int (3 : Int32)), .val (.double x2), .second, .val (.int (3 : Int32))] [(.double el1), (.int (3 : Int32)), (.ref a0)]))
  have cq5 := V_a
  obtain ⟨clq5, Arq5, qq5, Sq5, Nq5, Hq5, Gq5⟩ := cq5
  obtain ⟨T6, h6, X6, e6, W6, st6⟩ := stD X0 hx hZ e0 Arq5 (j := (3 : Int32)) (inb_of Sq5 ⟨by decide, by decide⟩) (g := (mkF m 32 #[.val (.ref a0), .val (.int (3 : Int32)), .val (.double x2), .second, .val (.int (3 : Int32))] [(.double el1), (.int (3 : Int32)), (.ref a0)])) rfl rfl (hb hby d1_32)
  refine OwnGo.of st6 ?_
  have N6 := Fr.snoc X6 N0 g_a0
  have f7 : n0 ≤ h6.size := Nat.le_trans Z0 (Keep.of_wr W6).1
  have f8 : Keep h0 h6 [a0] := K0.wr W6 (Or.inl (List.mem_of_getElem? (i := 0) rfl))
  have f9 : Arv Z h6 a0 ka .double (4 : Int32) [(.double el0), (.double el1), (.double el2), (.double el1)] (.double (0 : UInt64)) := Arv.set Arq5 qq5 Sq5 Nq5 Hq5 Gq5 rfl W6 3 rfl (Nat.le_of_ble_eq_true rfl)
  show OwnGo p.tables e below _ (T6.setTop (mkF m 33 #[.val (.ref a0), .val (.int (3 : Int32)), .val (.double x2), .second, .val (.int (3 : Int32))] []))
  refine OwnGo.of (A := T6.setTop (mkF m 33 #[.val (.ref a0), .val (.int (3 : Int32)), .val (.double x2), .second, .val (.int (3 : Int32))] [])) (B := T6.setTop (mkF m 5 #[.val (.ref a0), .val (.int (3 : Int32)), .val (.double x2), .second, .val (.int (1 : Int32))] [(.int (1 : Int32))])) (fun t k => ?_) ?_
  · show Steps p.tables e below (T6.setTop (mkF m 33 #[.val (.ref a0), .val (.int (3 : Int32)), .val (.double x2), .second, .val (.int (3 : Int32))] [])) t
    refine XS.iload X6.here hx rfl (hb hby d1_33) rfl ?_
    show Steps p.tables e below (T6.setTop (mkF m 35 #[.val (.ref a0), .val (.int (3 : Int32)), .val (.double x2), .second, .val (.int (3 : Int32))] [(.int (3 : Int32))])) t
    refine XS.iconst X6.here hx rfl (hb hby d1_35) ?_
    show Steps p.tables e below (T6.setTop (mkF m 36 #[.val (.ref a0), .val (.int (3 : Int32)), .val (.double x2), .second, .val (.int (3 : Int32))] [(.int (1 : Int32)), (.int (3 : Int32))])) t
    refine XS.isub X6.here hx rfl (hb hby d1_36) rfl ?_
    show Steps p.tables e below (T6.setTop (mkF m 37 #[.val (.ref a0), .val (.int (3 : Int32)), .val (.double x2), .second, .val (.int (3 : Int32))] [(.int (2 : Int32))])) t
    refine XS.iconst X6.here hx rfl (hb hby d1_37) ?_
    show Steps p.tables e below (T6.setTop (mkF m 38 #[.val (.ref a0), .val (.int (3 : Int32)), .val (.double x2), .second, .val (.int (3 : Int32))] [(.int (2 : Int32)), (.int (2 : Int32))])) t
    refine XS.idiv X6.here hx rfl (hb hby d1_38) rfl (by decide) ?_
    show Steps p.tables e below (T6.setTop (mkF m 39 #[.val (.ref a0), .val (.int (3 : Int32)), .val (.double x2), .second, .val (.int (3 : Int32))] [(.int (1 : Int32))])) t
    refine XS.istore X6.here hx rfl (hb hby d1_39) rfl (l' := #[.val (.ref a0), .val (.int (3 : Int32)), .val (.double x2), .second, .val (.int (1 : Int32))]) rfl ?_
    show Steps p.tables e below (T6.setTop (mkF m 41 #[.val (.ref a0), .val (.int (3 : Int32)), .val (.double x2), .second, .val (.int (1 : Int32))] [])) t
    refine XS.goto X6.here hx rfl (pc0 := 41) (pc' := 3) rfl (hb hby d1_41) (by decide) (by decide) ?_
    show Steps p.tables e below (T6.setTop (mkF m 3 #[.val (.ref a0), .val (.int (3 : Int32)), .val (.double x2), .second, .val (.int (1 : Int32))] [])) t
    refine XS.iload X6.here hx rfl (hb hby d1_3) rfl ?_
    exact k
  have hc10 : (0 : Int32) < (1 : Int32) := by decide
  refine OwnGo.of (A := T6.setTop (mkF m 5 #[.val (.ref a0), .val (.int (3 : Int32)), .val (.double x2), .second, .val (.int (1 : Int32))] [(.int (1 : Int32))])) (B := T6.setTop (mkF m 15 #[.val (.ref a0), .val (.int (3 : Int32)), .val (.double x2), .second, .val (.int (1 : Int32))] [(.int (0 : Int32)), (.ref a0)])) (fun t k => ?_) ?_
  · show Steps p.tables e below (T6.setTop (mkF m 5 #[.val (.ref a0), .val (.int (3 : Int32)), .val (.double x2), .second, .val (.int (1 : Int32))] [(.int (1 : Int32))])) t
    refine XS.ifNo X6.here hx rfl (hb hby d1_5) rfl ((if0 _ _).trans (tlt hc10).2.2.2) ?_
    show Steps p.tables e below (T6.setTop (mkF m 8 #[.val (.ref a0), .val (.int (3 : Int32)), .val (.double x2), .second, .val (.int (1 : Int32))] [])) t
    refine XS.aloadN X6.here hx rfl (hb hby d1_8) rfl rfl ?_
    show Steps p.tables e below (T6.setTop (mkF m 9 #[.val (.ref a0), .val (.int (3 : Int32)), .val (.double x2), .second, .val (.int (1 : Int32))] [(.ref a0)])) t
    refine XS.iload X6.here hx rfl (hb hby d1_9) rfl ?_
    show Steps p.tables e below (T6.setTop (mkF m 11 #[.val (.ref a0), .val (.int (3 : Int32)), .val (.double x2), .second, .val (.int (1 : Int32))] [(.int (1 : Int32)), (.ref a0)])) t
    refine XS.iconst X6.here hx rfl (hb hby d1_11) ?_
    show Steps p.tables e below (T6.setTop (mkF m 12 #[.val (.ref a0), .val (.int (3 : Int32)), .val (.double x2), .second, .val (.int (1 : Int32))] [(.int (1 : Int32)), (.int (1 : Int32)), (.ref a0)])) t
    refine XS.isub X6.here hx rfl (hb hby d1_12) rfl ?_
    show Steps p.tables e below (T6.setTop (mkF m 13 #[.val (.ref a0), .val (.int (3 : Int32)), .val (.double x2), .second, .val (.int (1 : Int32))] [(.int (0 : Int32)), (.ref a0)])) t
    refine XS.iconst X6.here hx rfl (hb hby d1_13) ?_
    show Steps p.tables e below (T6.setTop (mkF m 14 #[.val (.ref a0), .val (.int (3 : Int32)), .val (.double x2), .second, .val (.int (1 : Int32))] [(.int (2 : Int32)), (.int (0 : Int32)), (.ref a0)])) t
    refine XS.idiv X6.here hx rfl (hb hby d1_14) rfl (by decide) ?_
    exact k
  have cq11 := f9
  obtain ⟨clq11, Arq11, qq11, Sq11, Nq11, Hq11, Gq11⟩ := cq11
  have hinq11 := inb_of (j := (0 : Int32)) Sq11 ⟨by decide, by decide⟩
  refine OwnGo.of (X6.daload hx (j := (0 : Int32)) (v := (.double el0)) (by rw [e6]; exact Arq11.1) (State.isArrayOf_alike hZ.alike Arq11.2.1) Arq11.2.2 hinq11 (Hq11.at hinq11 rfl) (g := (mkF m 15 #[.val (.ref a0), .val (.int (3 : Int32)), .val (.double x2), .second, .val (.int (1 : Int32))] [(.int (0 : Int32)), (.ref a0)])) rfl rfl (hb hby d1_15)) ?_
  show OwnGo p.tables e below _ (T6.setTop (mkF m 16 #[.val (.ref a0), .val (.int (3 : Int32)), .val (.double x2), .second, .val (.int (1 : Int32))] [(.double el0)]))
  refine OwnGo.of (A := T6.setTop (mkF m 16 #[.val (.ref a0), .val (.int (3 : Int32)), .val (.double x2), .second, .val (.int (1 : Int32))] [(.double el0)])) (B := T6.setTop (mkF m 18 #[.val (.ref a0), .val (.int (3 : Int32)), .val (.double x2), .second, .val (.int (1 : Int32))] [(.int (cmpValue (FP.dcmp el0 x2) .l))])) (fun t k => ?_) ?_
  · show Steps p.tables e below (T6.setTop (mkF m 16 #[.val (.ref a0), .val (.int (3 : Int32)), .val (.double x2), .second, .val (.int (1 : Int32))] [(.double el0)])) t
    refine XS.dloadN X6.here hx rfl (hb hby d1_16) rfl ?_
    show Steps p.tables e below (T6.setTop (mkF m 17 #[.val (.ref a0), .val (.int (3 : Int32)), .val (.double x2), .second, .val (.int (1 : Int32))] [(.double x2), (.double el0)])) t
    refine XS.dcmpS X6.here hx rfl (hb hby d1_17) rfl rfl ?_
    exact k
  have hc12 : ¬ ((0 : Int32) < (cmpValue (FP.dcmp el0 x2) .l)) := hc_h0
  refine OwnGo.of (A := T6.setTop (mkF m 18 #[.val (.ref a0), .val (.int (3 : Int32)), .val (.double x2), .second, .val (.int (1 : Int32))] [(.int (cmpValue (FP.dcmp el0 x2) .l))])) (B := T6.setTop (mkF m 48 #[.val (.ref a0), .val (.int (3 : Int32)), .val (.double x2), .second, .val (.int (1 : Int32))] [(.double x2), (.int (1 : Int32)), (.ref a0)])) (fun t k => ?_) ?_
  · show Steps p.tables e below (T6.setTop (mkF m 18 #[.val (.ref a0), .val (.int (3 : Int32)), .val (.double x2), .second, .val (.int (1 : Int32))] [(.int (cmpValue (FP.dcmp el0 x2) .l))])) t
    refine XS.ifYes X6.here hx rfl (pc0 := 18) (pc' := 44) rfl (hb hby d1_18) rfl ((if0 _ _).trans (flt hc12).2.2.2) (by decide) (by decide) ?_
    show Steps p.tables e below (T6.setTop (mkF m 44 #[.val (.ref a0), .val (.int (3 : Int32)), .val (.double x2), .second, .val (.int (1 : Int32))] [])) t
    refine XS.aloadN X6.here hx rfl (hb hby d1_44) rfl rfl ?_
    show Steps p.tables e below (T6.setTop (mkF m 45 #[.val (.ref a0), .val (.int (3 : Int32)), .val (.double x2), .second, .val (.int (1 : Int32))] [(.ref a0)])) t
    refine XS.iload X6.here hx rfl (hb hby d1_45) rfl ?_
    show Steps p.tables e below (T6.setTop (mkF m 47 #[.val (.ref a0), .val (.int (3 : Int32)), .val (.double x2), .second, .val (.int (1 : Int32))] [(.int (1 : Int32)), (.ref a0)])) t
    refine XS.dloadN X6.here hx rfl (hb hby d1_47) rfl ?_
    exact k
  have cq13 := f9
  obtain ⟨clq13, Arq13, qq13, Sq13, Nq13, Hq13, Gq13⟩ := cq13
  obtain ⟨T14, h14, X14, e14, W14, st14⟩ := stD X6 hx hZ e6 Arq13 (j := (1 : Int32)) (inb_of Sq13 ⟨by decide, by decide⟩) (g := (mkF m 48 #[.val (.ref a0), .val (.int (3 : Int32)), .val (.double x2), .second, .val (.int (1 : Int32))] [(.double x2), (.int (1 : Int32)), (.ref a0)])) rfl rfl (hb hby d1_48)
  refine OwnGo.of st14 ?_
  have N14 := Fr.snoc X14 N6 g_a0
  have f15 : n0 ≤ h14.size := Nat.le_trans f7 (Keep.of_wr W14).1
  have f16 : Keep h0 h14 [a0] := f8.wr W14 (Or.inl (List.mem_of_getElem? (i := 0) rfl))
  have f17 : Arv Z h14 a0 ka .double (4 : Int32) [(.double el0), (.double x2), (.double el2), (.double el1)] (.double (0 : UInt64)) := Arv.set Arq13 qq13 Sq13 Nq13 Hq13 Gq13 rfl W14 1 rfl (Nat.le_of_ble_eq_true rfl)
  show OwnGo p.tables e below _ (T14.setTop (mkF m 49 #[.val (.ref a0), .val (.int (3 : Int32)), .val (.double x2), .second, .val (.int (1 : Int32))] []))
  obtain ⟨fs, hr, hrun, hended, hW, hsame⟩ := X14.leave (v := none) (fun _ => rfl) hlk
  refine ⟨_, _, ?_, hrun, hended, _, _, rfl, ?_, ⟨_, rfl⟩, hW, hsame.mono (by decide) (by decide)⟩
  · show Steps p.tables e below (T14.setTop (mkF m 49 #[.val (.ref a0), .val (.int (3 : Int32)), .val (.double x2), .second, .val (.int (1 : Int32))] [])) _
    exact X14.returnOut hx Bd.returns (hb hby d1_49) hr
  · show Qrm1_3tf Z a0 x2 el0 el1 el2 el3 ka h0 n0 _ (T14.setFrames fs).heap _
    rw [show (T14.setFrames fs).heap = h14 from e14]
    exact ⟨rfl, N14, f16, f17⟩
theorem ef_rm1_3f (m : MethodId) (a0 : Addr) (x2 : UInt64) : entryFrame m #[(.ref a0), (.int (3 : Int32)), (.double x2)] 5 = mkF m 0 #[.val (.ref a0), .val (.int (3 : Int32)), .val (.double x2), .second, .unset] [] := by first | (simp [entryFrame, mkF, argsToLocals, Value.category]; done) | rfl
def Qrm1_3f (Z : State) (a0 : Addr) (x2 : UInt64) (el0 : UInt64) (el1 : UInt64) (el2 : UInt64) (el3 : UInt64) (ka : ClassId) (h0 : Heap) (n0 : Nat) (v : Option Value) (h : Heap) (L : List Loc) : Prop := v = none ∧ Fr n0 L ∧ Keep h0 h [a0] ∧ Arv Z h a0 ka .double (4 : Int32) [(.double el0), (.double el1), (.double el2), (.double x2)] (.double (0 : UInt64))
set_option maxRecDepth 65536 in
set_option maxHeartbeats 40000000 in
theorem rm1_3f (l : Launch) (Z : State) (aw : Array Value) (hw : ∀ d ∈ tables_1, d.before aw Z = true) (ws : List Jvm.Cond) (a0 : Addr) (x2 : UInt64) (el0 : UInt64) (el1 : UInt64) (el2 : UInt64) (el3 : UInt64) (ka : ClassId) (h0 : Heap) (n0 : Nat) (Z0 : n0 ≤ h0.size) (V_a : Arv Z h0 a0 ka .double (4 : Int32) [(.double el0), (.double el1), (.double el2), (.double el3)] (.double (0 : UInt64))) (g_a0 : n0 ≤ a0) (hc_h1 : ¬ ((0 : Int32) < (cmpValue (FP.dcmp el1 x2) .l))) :
    MetFree l (⟨"com/example/rankwright/rankwright/rank/Accumulator", "siftUp", "([DID)V"⟩ : MethodName) (head1 (Jvm.Cond.code (⟨"com/example/rankwright/rankwright/rank/Accumulator", "siftUp", "([DID)V"⟩ : MethodName) prog_94_method_24_code 5 none :: ws) ({ frames := 0, cells := 0, slots := 0, locals := 0 } : Room)) (fun a U => a = #[(.ref a0), (.int (3 : Int32)), (.double x2)] ∧ Z.Warmed39 U.vm ∧ U.heap = h0) (fun _ _ _ _ _ => True) (fun _ U o U' => ∃ v L, o = .returned v ∧ Qrm1_3f Z a0 x2 el0 el1 el2 el3 ka h0 n0 v U'.heap L ∧ FrameEnd U o U' L ({ frames := 0, cells := 0, slots := 0, locals := 0 } : Room).cells ({ frames := 0, cells := 0, slots := 0, locals := 0 } : Room).slots) := by
  refine MetFree.of_bodySF (plainFor_of_name pn_0) hisR ?_
  intro p e s m args below meth c s₁ Bd hml0 hP hK
  obtain ⟨rfl, hZ, hh⟩ := hP
  have hx := Bd.exec
  have hby := Bd.bytes
  have hml : c.maxLocals = 5 := hml0
  have hown : s.vm.findClass "com/example/rankwright/rankwright/rank/Accumulator" = some m.cls := findClass_of_methodNamed Bd.named
  have hnm := (name_of_methodNamed Bd.named Bd.method).1
  have X0 : Stand p l e ({ frames := 0, cells := 0, slots := 0, locals := 0 } : Room) s m #[(.ref a0), (.int (3 : Int32)), (.double x2)] below meth c s₁ [] 0 0 := Stand.of_body Bd
  have e0 : s₁.heap = h0 := by rw [← hh, Bd.state]; rfl
  have N0 := Fr.nil n0
  have hlk := Bd.notSynchronized
  show OwnGo p.tables e below _ (s₁.setTop (entryFrame m #[(.ref a0), (.int (3 : Int32)), (.double x2)] 5))
  rw [ef_rm1_3f m a0 x2]
  have K0 : Keep h0 h0 [a0] := Keep.refl _ _
  show OwnGo p.tables e below _ (s₁.setTop (mkF m 0 #[.val (.ref a0), .val (.int (3 : Int32)), .val (.double x2), .second, .unset] []))
  refine OwnGo.of (A := s₁.setTop (mkF m 0 #[.val (.ref a0), .val (.int (3 : Int32)), .val (.double x2), .second, .unset] [])) (B := s₁.setTop (mkF m 5 #[.val (.ref a0), .val (.int (3 : Int32)), .val (.double x2), .second, .val (.int (3 : Int32))] [(.int (3 : Int32))])) (fun t k => ?_) ?_
  · show Steps p.tables e below (s₁.setTop (mkF m 0 #[.val (.ref a0), .val (.int (3 : Int32)), .val (.double x2), .second, .unset] [])) t
    refine XS.iloadN X0.here hx rfl (hb hby d1_0) rfl ?_
    show Steps p.tables e below (s₁.setTop (mkF m 1 #[.val (.ref a0), .val (.int (3 : Int32)), .val (.double x2), .second, .unset] [(.int (3 : Int32))])) t
    refine XS.istore X0.here hx rfl (hb hby d1_1) rfl (l' := #[.val (.ref a0), .val (.int (3 : Int32)), .val (.double x2), .second, .val (.int (3 : Int32))]) rfl ?_
    show Steps p.tables e below (s₁.setTop (mkF m 3 #[.val (.ref a0), .val (.int (3 : Int32)), .val (.double x2), .second, .val (.int (3 : Int32))] [])) t
    refine XS.iload X0.here hx rfl (hb hby d1_3) rfl ?_
    exact k
  have hc1 : (0 : Int32) < (3 : Int32) := by decide
  refine OwnGo.of (A := s₁.setTop (mkF m 5 #[.val (.ref a0), .val (.int (3 : Int32)), .val (.double x2), .second, .val (.int (3 : Int32))] [(.int (3 : Int32))])) (B := s₁.setTop (mkF m 15 #[.val (.ref a0), .val (.int (3 : Int32)), .val (.double x2), .second, .val (.int (3 : Int32))] [(.int (1 : Int32)), (.ref a0)])) (fun t k => ?_) ?_
  · show Steps p.tables e below (s₁.setTop (mkF m 5 #[.val (.ref a0), .val (.int (3 : Int32)), .val (.double x2), .second, .val (.int (3 : Int32))] [(.int (3 : Int32))])) t
    refine XS.ifNo X0.here hx rfl (hb hby d1_5) rfl ((if0 _ _).trans (tlt hc1).2.2.2) ?_
    show Steps p.tables e below (s₁.setTop (mkF m 8 #[.val (.ref a0), .val (.int (3 : Int32)), .val (.double x2), .second, .val (.int (3 : Int32))] [])) t
    refine XS.aloadN X0.here hx rfl (hb hby d1_8) rfl rfl ?_
    show Steps p.tables e below (s₁.setTop (mkF m 9 #[.val (.ref a0), .val (.int (3 : Int32)), .val (.double x2), .second, .val (.int (3 : Int32))] [(.ref a0)])) t
    refine XS.iload X0.here hx rfl (hb hby d1_9) rfl ?_
    show Steps p.tables e below (s₁.setTop (mkF m 11 #[.val (.ref a0), .val (.int (3 : Int32)), .val (.double x2), .second, .val (.int (3 : Int32))] [(.int (3 : Int32)), (.ref a0)])) t
    refine XS.iconst X0.here hx rfl (hb hby d1_11) ?_
    show Steps p.tables e below (s₁.setTop (mkF m 12 #[.val (.ref a0), .val (.int (3 : Int32)), .val (.double x2), .second, .val (.int (3 : Int32))] [(.int (1 : Int32)), (.int (3 : Int32)), (.ref a0)])) t
    refine XS.isub X0.here hx rfl (hb hby d1_12) rfl ?_
    show Steps p.tables e below (s₁.setTop (mkF m 13 #[.val (.ref a0), .val (.int (3 : Int32)), .val (.double x2), .second, .val (.int (3 : Int32))] [(.int (2 : Int32)), (.ref a0)])) t
    refine XS.iconst X0.here hx rfl (hb hby d1_13) ?_
    show Steps p.tables e below (s₁.setTop (mkF m 14 #[.val (.ref a0), .val (.int (3 : Int32)), .val (.double x2), .second, .val (.int (3 : Int32))] [(.int (2 : Int32)), (.int (2 : Int32)), (.ref a0)])) t
    refine XS.idiv X0.here hx rfl (hb hby d1_14) rfl (by decide) ?_
    exact k
  have cq2 := V_a
  obtain ⟨clq2, Arq2, qq2, Sq2, Nq2, Hq2, Gq2⟩ := cq2
  have hinq2 := inb_of (j := (1 : Int32)) Sq2 ⟨by decide, by decide⟩
  refine OwnGo.of (X0.daload hx (j := (1 : Int32)) (v := (.double el1)) (by rw [e0]; exact Arq2.1) (State.isArrayOf_alike hZ.alike Arq2.2.1) Arq2.2.2 hinq2 (Hq2.at hinq2 rfl) (g := (mkF m 15 #[.val (.ref a0), .val (.int (3 : Int32)), .val (.double x2), .second, .val (.int (3 : Int32))] [(.int (1 : Int32)), (.ref a0)])) rfl rfl (hb hby d1_15)) ?_
  show OwnGo p.tables e below _ (s₁.setTop (mkF m 16 #[.val (.ref a0), .val (.int (3 : Int32)), .val (.double x2), .second, .val (.int (3 : Int32))] [(.double el1)]))
  refine OwnGo.of (A := s₁.setTop (mkF m 16 #[.val (.ref a0), .val (.int (3 : Int32)), .val (.double x2), .second, .val (.int (3 : Int32))] [(.double el1)])) (B := s₁.setTop (mkF m 18 #[.val (.ref a0), .val (.int (3 : Int32)), .val (.double x2), .second, .val (.int (3 : Int32))] [(.int (cmpValue (FP.dcmp el1 x2) .l))])) (fun t k => ?_) ?_
  · show Steps p.tables e below (s₁.setTop (mkF m 16 #[.val (.ref a0), .val (.int (3 : Int32)), .val (.double x2), .second, .val (.int (3 : Int32))] [(.double el1)])) t
    refine XS.dloadN X0.here hx rfl (hb hby d1_16) rfl ?_
    show Steps p.tables e below (s₁.setTop (mkF m 17 #[.val (.ref a0), .val (.int (3 : Int32)), .val (.double x2), .second, .val (.int (3 : Int32))] [(.double x2), (.double el1)])) t
    refine XS.dcmpS X0.here hx rfl (hb hby d1_17) rfl rfl ?_
    exact k
  have hc3 : ¬ ((0 : Int32) < (cmpValue (FP.dcmp el1 x2) .l)) := hc_h1
  refine OwnGo.of (A := s₁.setTop (mkF m 18 #[.val (.ref a0), .val (.int (3 : Int32)), .val (.double x2), .second, .val (.int (3 : Int32))] [(.int (cmpValue (FP.dcmp el1 x2) .l))])) (B := s₁.setTop (mkF m 48 #[.val (.ref a0), .val (.int (3 : Int32)), .val (.double x2), .second, .val (.int (3 : Int32))] [(.double x2), (.int (3 : Int32)), (.ref a0)])) (fun t k => ?_) ?_
  · show Steps p.tables e below (s₁.setTop (mkF m 18 #[.val (.ref a0), .val (.int (3 : Int32)), .val (.double x2), .second, .val (.int (3 : Int32))] [(.int (cmpValue (FP.dcmp el1 x2) .l))])) t
    refine XS.ifYes X0.here hx rfl (pc0 := 18) (pc' := 44) rfl (hb hby d1_18) rfl ((if0 _ _).trans (flt hc3).2.2.2) (by decide) (by decide) ?_
    show Steps p.tables e below (s₁.setTop (mkF m 44 #[.val (.ref a0), .val (.int (3 : Int32)), .val (.double x2), .second, .val (.int (3 : Int32))] [])) t
    refine XS.aloadN X0.here hx rfl (hb hby d1_44) rfl rfl ?_
    show Steps p.tables e below (s₁.setTop (mkF m 45 #[.val (.ref a0), .val (.int (3 : Int32)), .val (.double x2), .second, .val (.int (3 : Int32))] [(.ref a0)])) t
    refine XS.iload X0.here hx rfl (hb hby d1_45) rfl ?_
    show Steps p.tables e below (s₁.setTop (mkF m 47 #[.val (.ref a0), .val (.int (3 : Int32)), .val (.double x2), .second, .val (.int (3 : Int32))] [(.int (3 : Int32)), (.ref a0)])) t
    refine XS.dloadN X0.here hx rfl (hb hby d1_47) rfl ?_
    exact k
  have cq4 := V_a
  obtain ⟨clq4, Arq4, qq4, Sq4, Nq4, Hq4, Gq4⟩ := cq4
  obtain ⟨T5, h5, X5, e5, W5, st5⟩ := stD X0 hx hZ e0 Arq4 (j := (3 : Int32)) (inb_of Sq4 ⟨by decide, by decide⟩) (g := (mkF m 48 #[.val (.ref a0), .val (.int (3 : Int32)), .val (.double x2), .second, .val (.int (3 : Int32))] [(.double x2), (.int (3 : Int32)), (.ref a0)])) rfl rfl (hb hby d1_48)
  refine OwnGo.of st5 ?_
  have N5 := Fr.snoc X5 N0 g_a0
  have f6 : n0 ≤ h5.size := Nat.le_trans Z0 (Keep.of_wr W5).1
  have f7 : Keep h0 h5 [a0] := K0.wr W5 (Or.inl (List.mem_of_getElem? (i := 0) rfl))
  have f8 : Arv Z h5 a0 ka .double (4 : Int32) [(.double el0), (.double el1), (.double el2), (.double x2)] (.double (0 : UInt64)) := Arv.set Arq4 qq4 Sq4 Nq4 Hq4 Gq4 rfl W5 3 rfl (Nat.le_of_ble_eq_true rfl)
  show OwnGo p.tables e below _ (T5.setTop (mkF m 49 #[.val (.ref a0), .val (.int (3 : Int32)), .val (.double x2), .second, .val (.int (3 : Int32))] []))
  obtain ⟨fs, hr, hrun, hended, hW, hsame⟩ := X5.leave (v := none) (fun _ => rfl) hlk
  refine ⟨_, _, ?_, hrun, hended, _, _, rfl, ?_, ⟨_, rfl⟩, hW, hsame.mono (by decide) (by decide)⟩
  · show Steps p.tables e below (T5.setTop (mkF m 49 #[.val (.ref a0), .val (.int (3 : Int32)), .val (.double x2), .second, .val (.int (3 : Int32))] [])) _
    exact X5.returnOut hx Bd.returns (hb hby d1_49) hr
  · show Qrm1_3f Z a0 x2 el0 el1 el2 el3 ka h0 n0 _ (T5.setFrames fs).heap _
    rw [show (T5.setFrames fs).heap = h5 from e5]
    exact ⟨rfl, N5, f7, f8⟩

theorem own_at (p : Int32) : (p &&& (3 : Int32)) = 0 ∨ (p &&& (3 : Int32)) = 1 ∨ (p &&& (3 : Int32)) = 2 ∨ (p &&& (3 : Int32)) = 3 := by
  have h1 := c_mask p 3 2 (by decide) (by decide)
  have : (p &&& (3 : Int32)).toInt = 0 ∨ (p &&& (3 : Int32)).toInt = 1 ∨ (p &&& (3 : Int32)).toInt = 2 ∨ (p &&& (3 : Int32)).toInt = 3 := by omega
  rcases this with z | z | z | z
  · exact Or.inl (Int32.toInt_inj.mp (z.trans (by decide)))
  · exact Or.inr (Or.inl (Int32.toInt_inj.mp (z.trans (by decide))))
  · exact Or.inr (Or.inr (Or.inl (Int32.toInt_inj.mp (z.trans (by decide)))))
  · exact Or.inr (Or.inr (Or.inr (Int32.toInt_inj.mp (z.trans (by decide)))))
theorem own_nnI (x : Int32) : Jvm.Free.Fl.NoNaN64 (FP.i2d x) := nn_w (i2d_w x)
theorem own_nnL (x : Int64) : Jvm.Free.Fl.NoNaN64 (FP.l2d x) := nn_w rfl
theorem pd_1 : parseMethodDescriptor "([DID)V" = some ⟨[(.array .double), .int, .double], none⟩ := by decide +kernel
theorem pn_2 : plainName "com/example/rankwright/rankwright/rank/AccumulatorSiftUpPinLaw" = true := by first | (simp [plainName, overriddenIn]; done) | decide +kernel
theorem ef_rm0 (m : MethodId) (p0 : Int32) (p1 : Int32) (p2 : Int32) (p3 : Int32) (p4 : Int32) (p5 : Int32) : entryFrame m #[(.int p0), (.int p1), (.int p2), (.int p3), (.int p4), (.int p5)] maxLocals = mkF m 0 #[.val (.int p0), .val (.int p1), .val (.int p2), .val (.int p3), .val (.int p4), .val (.int p5), .unset, .unset, .unset, .unset, .unset, .unset, .unset, .unset, .unset, .unset, .unset, .unset, .unset] [] := by first | (simp [entryFrame, mkF, argsToLocals, Value.category, maxLocals]; done) | rfl
def Qrm0 (Z : State) (p0 : Int32) (p1 : Int32) (p2 : Int32) (p3 : Int32) (p4 : Int32) (p5 : Int32) (h0 : Heap) (n0 : Nat) (v : Option Value) (h : Heap) (L : List Loc) : Prop := v = some (.int 1) ∧ Fr n0 L
set_option maxRecDepth 65536 in
set_option maxHeartbeats 40000000 in
theorem rm0 (l : Launch) (Z : State) (aw : Array Value) (hw : ∀ d ∈ tables_1, d.before aw Z = true) (ws : List Jvm.Cond) (p0 : Int32) (p1 : Int32) (p2 : Int32) (p3 : Int32) (p4 : Int32) (p5 : Int32) (h0 : Heap) (n0 : Nat) (Z0 : n0 ≤ h0.size) :
    MetFree l x (head1 (Jvm.Cond.code x code maxLocals ret :: ws) room_1) (fun a U => a = #[(.int p0), (.int p1), (.int p2), (.int p3), (.int p4), (.int p5)] ∧ Z.Warmed39 U.vm ∧ U.heap = h0) (fun _ _ _ _ _ => True) (fun _ U o U' => ∃ v L, o = .returned v ∧ Qrm0 Z p0 p1 p2 p3 p4 p5 h0 n0 v U'.heap L ∧ FrameEnd U o U' L room_1.cells room_1.slots) := by
  refine MetFree.of_bodySF (plainFor_of_name pn_2) hisR ?_
  intro p e s m args below meth c s₁ Bd hml0 hP hK
  obtain ⟨rfl, hZ, hh⟩ := hP
  have hx := Bd.exec
  have hby := Bd.bytes
  have hml : c.maxLocals = 19 := hml0
  have hown : s.vm.findClass "com/example/rankwright/rankwright/rank/AccumulatorSiftUpPinLaw" = some m.cls := findClass_of_methodNamed Bd.named
  have hnm := (name_of_methodNamed Bd.named Bd.method).1
  have X0 : Stand p l e room_1 s m #[(.int p0), (.int p1), (.int p2), (.int p3), (.int p4), (.int p5)] below meth c s₁ [] 0 0 := Stand.of_body Bd
  have e0 : s₁.heap = h0 := by rw [← hh, Bd.state]; rfl
  have N0 := Fr.nil n0
  have hlk := Bd.notSynchronized
  show OwnGo p.tables e below _ (s₁.setTop (entryFrame m #[(.int p0), (.int p1), (.int p2), (.int p3), (.int p4), (.int p5)] maxLocals))
  rw [ef_rm0 m p0 p1 p2 p3 p4 p5]
  show OwnGo p.tables e below _ (s₁.setTop (mkF m 0 #[.val (.int p0), .val (.int p1), .val (.int p2), .val (.int p3), .val (.int p4), .val (.int p5), .unset, .unset, .unset, .unset, .unset, .unset, .unset, .unset, .unset, .unset, .unset, .unset, .unset] []))
  refine OwnGo.of (A := s₁.setTop (mkF m 0 #[.val (.int p0), .val (.int p1), .val (.int p2), .val (.int p3), .val (.int p4), .val (.int p5), .unset, .unset, .unset, .unset, .unset, .unset, .unset, .unset, .unset, .unset, .unset, .unset, .unset] [])) (B := s₁.setTop (mkF m 10 #[.val (.int p0), .val (.int p1), .val (.int p2), .val (.int p3), .val (.int p4), .val (.int p5), .val (.int (p4 &&& (3 : Int32))), .val (.double (FP.i2d p0)), .second, .unset, .unset, .unset, .unset, .unset, .unset, .unset, .unset, .unset, .unset] [])) (fun t k => ?_) ?_
  · show Steps p.tables e below (s₁.setTop (mkF m 0 #[.val (.int p0), .val (.int p1), .val (.int p2), .val (.int p3), .val (.int p4), .val (.int p5), .unset, .unset, .unset, .unset, .unset, .unset, .unset, .unset, .unset, .unset, .unset, .unset, .unset] [])) t
    refine XS.iload X0.here hx rfl (hb hby at_0) rfl ?_
    show Steps p.tables e below (s₁.setTop (mkF m 2 #[.val (.int p0), .val (.int p1), .val (.int p2), .val (.int p3), .val (.int p4), .val (.int p5), .unset, .unset, .unset, .unset, .unset, .unset, .unset, .unset, .unset, .unset, .unset, .unset, .unset] [(.int p4)])) t
    refine XS.iconst X0.here hx rfl (hb hby at_2) ?_
    show Steps p.tables e below (s₁.setTop (mkF m 3 #[.val (.int p0), .val (.int p1), .val (.int p2), .val (.int p3), .val (.int p4), .val (.int p5), .unset, .unset, .unset, .unset, .unset, .unset, .unset, .unset, .unset, .unset, .unset, .unset, .unset] [(.int (3 : Int32)), (.int p4)])) t
    refine XS.iand X0.here hx rfl (hb hby at_3) rfl ?_
    show Steps p.tables e below (s₁.setTop (mkF m 4 #[.val (.int p0), .val (.int p1), .val (.int p2), .val (.int p3), .val (.int p4), .val (.int p5), .unset, .unset, .unset, .unset, .unset, .unset, .unset, .unset, .unset, .unset, .unset, .unset, .unset] [(.int (p4 &&& (3 : Int32)))])) t
    refine XS.istore X0.here hx rfl (hb hby at_4) rfl (l' := #[.val (.int p0), .val (.int p1), .val (.int p2), .val (.int p3), .val (.int p4), .val (.int p5), .val (.int (p4 &&& (3 : Int32))), .unset, .unset, .unset, .unset, .unset, .unset, .unset, .unset, .unset, .unset, .unset, .unset]) rfl ?_
    show Steps p.tables e below (s₁.setTop (mkF m 6 #[.val (.int p0), .val (.int p1), .val (.int p2), .val (.int p3), .val (.int p4), .val (.int p5), .val (.int (p4 &&& (3 : Int32))), .unset, .unset, .unset, .unset, .unset, .unset, .unset, .unset, .unset, .unset, .unset, .unset] [])) t
    refine XS.iloadN X0.here hx rfl (hb hby at_6) rfl ?_
    show Steps p.tables e below (s₁.setTop (mkF m 7 #[.val (.int p0), .val (.int p1), .val (.int p2), .val (.int p3), .val (.int p4), .val (.int p5), .val (.int (p4 &&& (3 : Int32))), .unset, .unset, .unset, .unset, .unset, .unset, .unset, .unset, .unset, .unset, .unset, .unset] [(.int p0)])) t
    refine XS.i2dS X0.here hx rfl (hb hby at_7) rfl rfl ?_
    show Steps p.tables e below (s₁.setTop (mkF m 8 #[.val (.int p0), .val (.int p1), .val (.int p2), .val (.int p3), .val (.int p4), .val (.int p5), .val (.int (p4 &&& (3 : Int32))), .unset, .unset, .unset, .unset, .unset, .unset, .unset, .unset, .unset, .unset, .unset, .unset] [(.double (FP.i2d p0))])) t
    refine XS.dstore X0.here hx rfl (hb hby at_8) rfl (l' := #[.val (.int p0), .val (.int p1), .val (.int p2), .val (.int p3), .val (.int p4), .val (.int p5), .val (.int (p4 &&& (3 : Int32))), .val (.double (FP.i2d p0)), .second, .unset, .unset, .unset, .unset, .unset, .unset, .unset, .unset, .unset, .unset]) rfl ?_
    exact k
  obtain ⟨d0, qd0⟩ : ∃ z, z = (FP.i2d p0) := ⟨_, rfl⟩
  have nd0 : Jvm.Free.Fl.NoNaN64 d0 := by subst qd0; exact own_nnI _
  rw [← qd0]
  show OwnGo p.tables e below _ (s₁.setTop (mkF m 10 #[.val (.int p0), .val (.int p1), .val (.int p2), .val (.int p3), .val (.int p4), .val (.int p5), .val (.int (p4 &&& (3 : Int32))), .val (.double d0), .second, .unset, .unset, .unset, .unset, .unset, .unset, .unset, .unset, .unset, .unset] []))
  refine OwnGo.of (A := s₁.setTop (mkF m 10 #[.val (.int p0), .val (.int p1), .val (.int p2), .val (.int p3), .val (.int p4), .val (.int p5), .val (.int (p4 &&& (3 : Int32))), .val (.double d0), .second, .unset, .unset, .unset, .unset, .unset, .unset, .unset, .unset, .unset, .unset] [])) (B := s₁.setTop (mkF m 21 #[.val (.int p0), .val (.int p1), .val (.int p2), .val (.int p3), .val (.int p4), .val (.int p5), .val (.int (p4 &&& (3 : Int32))), .val (.double d0), .second, .val (.double (FP.l2d ((p0.toInt64) + ((p1 &&& (2147483647 : Int32)).toInt64)))), .second, .unset, .unset, .unset, .unset, .unset, .unset, .unset, .unset] [])) (fun t k => ?_) ?_
  · show Steps p.tables e below (s₁.setTop (mkF m 10 #[.val (.int p0), .val (.int p1), .val (.int p2), .val (.int p3), .val (.int p4), .val (.int p5), .val (.int (p4 &&& (3 : Int32))), .val (.double d0), .second, .unset, .unset, .unset, .unset, .unset, .unset, .unset, .unset, .unset, .unset] [])) t
    refine XS.iloadN X0.here hx rfl (hb hby at_10) rfl ?_
    show Steps p.tables e below (s₁.setTop (mkF m 11 #[.val (.int p0), .val (.int p1), .val (.int p2), .val (.int p3), .val (.int p4), .val (.int p5), .val (.int (p4 &&& (3 : Int32))), .val (.double d0), .second, .unset, .unset, .unset, .unset, .unset, .unset, .unset, .unset, .unset, .unset] [(.int p0)])) t
    refine XS.i2l X0.here hx rfl (hb hby at_11) rfl ?_
    show Steps p.tables e below (s₁.setTop (mkF m 12 #[.val (.int p0), .val (.int p1), .val (.int p2), .val (.int p3), .val (.int p4), .val (.int p5), .val (.int (p4 &&& (3 : Int32))), .val (.double d0), .second, .unset, .unset, .unset, .unset, .unset, .unset, .unset, .unset, .unset, .unset] [(.long (p0.toInt64))])) t
    refine XS.iloadN X0.here hx rfl (hb hby at_12) rfl ?_
    show Steps p.tables e below (s₁.setTop (mkF m 13 #[.val (.int p0), .val (.int p1), .val (.int p2), .val (.int p3), .val (.int p4), .val (.int p5), .val (.int (p4 &&& (3 : Int32))), .val (.double d0), .second, .unset, .unset, .unset, .unset, .unset, .unset, .unset, .unset, .unset, .unset] [(.int p1), (.long (p0.toInt64))])) t
    refine X0.ldcInt hx hown (mvT hZ (hw _ (List.mem_of_getElem? (i := 0) rfl))) (g := (mkF m 13 #[.val (.int p0), .val (.int p1), .val (.int p2), .val (.int p3), .val (.int p4), .val (.int p5), .val (.int (p4 &&& (3 : Int32))), .val (.double d0), .second, .unset, .unset, .unset, .unset, .unset, .unset, .unset, .unset, .unset, .unset] [(.int p1), (.long (p0.toInt64))])) rfl (hb hby at_13) _ ?_
    show Steps p.tables e below (s₁.setTop (mkF m 15 #[.val (.int p0), .val (.int p1), .val (.int p2), .val (.int p3), .val (.int p4), .val (.int p5), .val (.int (p4 &&& (3 : Int32))), .val (.double d0), .second, .unset, .unset, .unset, .unset, .unset, .unset, .unset, .unset, .unset, .unset] [(.int (2147483647 : Int32)), (.int p1), (.long (p0.toInt64))])) t
    refine XS.iand X0.here hx rfl (hb hby at_15) rfl ?_
    show Steps p.tables e below (s₁.setTop (mkF m 16 #[.val (.int p0), .val (.int p1), .val (.int p2), .val (.int p3), .val (.int p4), .val (.int p5), .val (.int (p4 &&& (3 : Int32))), .val (.double d0), .second, .unset, .unset, .unset, .unset, .unset, .unset, .unset, .unset, .unset, .unset] [(.int (p1 &&& (2147483647 : Int32))), (.long (p0.toInt64))])) t
    refine XS.i2l X0.here hx rfl (hb hby at_16) rfl ?_
    show Steps p.tables e below (s₁.setTop (mkF m 17 #[.val (.int p0), .val (.int p1), .val (.int p2), .val (.int p3), .val (.int p4), .val (.int p5), .val (.int (p4 &&& (3 : Int32))), .val (.double d0), .second, .unset, .unset, .unset, .unset, .unset, .unset, .unset, .unset, .unset, .unset] [(.long ((p1 &&& (2147483647 : Int32)).toInt64)), (.long (p0.toInt64))])) t
    refine XS.ladd X0.here hx rfl (hb hby at_17) rfl ?_
    show Steps p.tables e below (s₁.setTop (mkF m 18 #[.val (.int p0), .val (.int p1), .val (.int p2), .val (.int p3), .val (.int p4), .val (.int p5), .val (.int (p4 &&& (3 : Int32))), .val (.double d0), .second, .unset, .unset, .unset, .unset, .unset, .unset, .unset, .unset, .unset, .unset] [(.long ((p0.toInt64) + ((p1 &&& (2147483647 : Int32)).toInt64)))])) t
    refine XS.l2dS X0.here hx rfl (hb hby at_18) rfl rfl ?_
    show Steps p.tables e below (s₁.setTop (mkF m 19 #[.val (.int p0), .val (.int p1), .val (.int p2), .val (.int p3), .val (.int p4), .val (.int p5), .val (.int (p4 &&& (3 : Int32))), .val (.double d0), .second, .unset, .unset, .unset, .unset, .unset, .unset, .unset, .unset, .unset, .unset] [(.double (FP.l2d ((p0.toInt64) + ((p1 &&& (2147483647 : Int32)).toInt64))))])) t
    refine XS.dstore X0.here hx rfl (hb hby at_19) rfl (l' := #[.val (.int p0), .val (.int p1), .val (.int p2), .val (.int p3), .val (.int p4), .val (.int p5), .val (.int (p4 &&& (3 : Int32))), .val (.double d0), .second, .val (.double (FP.l2d ((p0.toInt64) + ((p1 &&& (2147483647 : Int32)).toInt64)))), .second, .unset, .unset, .unset, .unset, .unset, .unset, .unset, .unset]) rfl ?_
    exact k
  obtain ⟨d1, qd1⟩ : ∃ z, z = (FP.l2d ((p0.toInt64) + ((p1 &&& (2147483647 : Int32)).toInt64))) := ⟨_, rfl⟩
  have nd1 : Jvm.Free.Fl.NoNaN64 d1 := by subst qd1; exact own_nnL _
  rw [← qd1]
  show OwnGo p.tables e below _ (s₁.setTop (mkF m 21 #[.val (.int p0), .val (.int p1), .val (.int p2), .val (.int p3), .val (.int p4), .val (.int p5), .val (.int (p4 &&& (3 : Int32))), .val (.double d0), .second, .val (.double d1), .second, .unset, .unset, .unset, .unset, .unset, .unset, .unset, .unset] []))
  refine OwnGo.of (A := s₁.setTop (mkF m 21 #[.val (.int p0), .val (.int p1), .val (.int p2), .val (.int p3), .val (.int p4), .val (.int p5), .val (.int (p4 &&& (3 : Int32))), .val (.double d0), .second, .val (.double d1), .second, .unset, .unset, .unset, .unset, .unset, .unset, .unset, .unset] [])) (B := s₁.setTop (mkF m 32 #[.val (.int p0), .val (.int p1), .val (.int p2), .val (.int p3), .val (.int p4), .val (.int p5), .val (.int (p4 &&& (3 : Int32))), .val (.double d0), .second, .val (.double d1), .second, .val (.double (FP.l2d ((p0.toInt64) + ((p2 &&& (2147483647 : Int32)).toInt64)))), .second, .unset, .unset, .unset, .unset, .unset, .unset] [])) (fun t k => ?_) ?_
  · show Steps p.tables e below (s₁.setTop (mkF m 21 #[.val (.int p0), .val (.int p1), .val (.int p2), .val (.int p3), .val (.int p4), .val (.int p5), .val (.int (p4 &&& (3 : Int32))), .val (.double d0), .second, .val (.double d1), .second, .unset, .unset, .unset, .unset, .unset, .unset, .unset, .unset] [])) t
    refine XS.iloadN X0.here hx rfl (hb hby at_21) rfl ?_
    show Steps p.tables e below (s₁.setTop (mkF m 22 #[.val (.int p0), .val (.int p1), .val (.int p2), .val (.int p3), .val (.int p4), .val (.int p5), .val (.int (p4 &&& (3 : Int32))), .val (.double d0), .second, .val (.double d1), .second, .unset, .unset, .unset, .unset, .unset, .unset, .unset, .unset] [(.int p0)])) t
    refine XS.i2l X0.here hx rfl (hb hby at_22) rfl ?_
    show Steps p.tables e below (s₁.setTop (mkF m 23 #[.val (.int p0), .val (.int p1), .val (.int p2), .val (.int p3), .val (.int p4), .val (.int p5), .val (.int (p4 &&& (3 : Int32))), .val (.double d0), .second, .val (.double d1), .second, .unset, .unset, .unset, .unset, .unset, .unset, .unset, .unset] [(.long (p0.toInt64))])) t
    refine XS.iloadN X0.here hx rfl (hb hby at_23) rfl ?_
    show Steps p.tables e below (s₁.setTop (mkF m 24 #[.val (.int p0), .val (.int p1), .val (.int p2), .val (.int p3), .val (.int p4), .val (.int p5), .val (.int (p4 &&& (3 : Int32))), .val (.double d0), .second, .val (.double d1), .second, .unset, .unset, .unset, .unset, .unset, .unset, .unset, .unset] [(.int p2), (.long (p0.toInt64))])) t
    refine X0.ldcInt hx hown (mvT hZ (hw _ (List.mem_of_getElem? (i := 0) rfl))) (g := (mkF m 24 #[.val (.int p0), .val (.int p1), .val (.int p2), .val (.int p3), .val (.int p4), .val (.int p5), .val (.int (p4 &&& (3 : Int32))), .val (.double d0), .second, .val (.double d1), .second, .unset, .unset, .unset, .unset, .unset, .unset, .unset, .unset] [(.int p2), (.long (p0.toInt64))])) rfl (hb hby at_24) _ ?_
    show Steps p.tables e below (s₁.setTop (mkF m 26 #[.val (.int p0), .val (.int p1), .val (.int p2), .val (.int p3), .val (.int p4), .val (.int p5), .val (.int (p4 &&& (3 : Int32))), .val (.double d0), .second, .val (.double d1), .second, .unset, .unset, .unset, .unset, .unset, .unset, .unset, .unset] [(.int (2147483647 : Int32)), (.int p2), (.long (p0.toInt64))])) t
    refine XS.iand X0.here hx rfl (hb hby at_26) rfl ?_
    show Steps p.tables e below (s₁.setTop (mkF m 27 #[.val (.int p0), .val (.int p1), .val (.int p2), .val (.int p3), .val (.int p4), .val (.int p5), .val (.int (p4 &&& (3 : Int32))), .val (.double d0), .second, .val (.double d1), .second, .unset, .unset, .unset, .unset, .unset, .unset, .unset, .unset] [(.int (p2 &&& (2147483647 : Int32))), (.long (p0.toInt64))])) t
    refine XS.i2l X0.here hx rfl (hb hby at_27) rfl ?_
    show Steps p.tables e below (s₁.setTop (mkF m 28 #[.val (.int p0), .val (.int p1), .val (.int p2), .val (.int p3), .val (.int p4), .val (.int p5), .val (.int (p4 &&& (3 : Int32))), .val (.double d0), .second, .val (.double d1), .second, .unset, .unset, .unset, .unset, .unset, .unset, .unset, .unset] [(.long ((p2 &&& (2147483647 : Int32)).toInt64)), (.long (p0.toInt64))])) t
    refine XS.ladd X0.here hx rfl (hb hby at_28) rfl ?_
    show Steps p.tables e below (s₁.setTop (mkF m 29 #[.val (.int p0), .val (.int p1), .val (.int p2), .val (.int p3), .val (.int p4), .val (.int p5), .val (.int (p4 &&& (3 : Int32))), .val (.double d0), .second, .val (.double d1), .second, .unset, .unset, .unset, .unset, .unset, .unset, .unset, .unset] [(.long ((p0.toInt64) + ((p2 &&& (2147483647 : Int32)).toInt64)))])) t
    refine XS.l2dS X0.here hx rfl (hb hby at_29) rfl rfl ?_
    show Steps p.tables e below (s₁.setTop (mkF m 30 #[.val (.int p0), .val (.int p1), .val (.int p2), .val (.int p3), .val (.int p4), .val (.int p5), .val (.int (p4 &&& (3 : Int32))), .val (.double d0), .second, .val (.double d1), .second, .unset, .unset, .unset, .unset, .unset, .unset, .unset, .unset] [(.double (FP.l2d ((p0.toInt64) + ((p2 &&& (2147483647 : Int32)).toInt64))))])) t
    refine XS.dstore X0.here hx rfl (hb hby at_30) rfl (l' := #[.val (.int p0), .val (.int p1), .val (.int p2), .val (.int p3), .val (.int p4), .val (.int p5), .val (.int (p4 &&& (3 : Int32))), .val (.double d0), .second, .val (.double d1), .second, .val (.double (FP.l2d ((p0.toInt64) + ((p2 &&& (2147483647 : Int32)).toInt64)))), .second, .unset, .unset, .unset, .unset, .unset, .unset]) rfl ?_
    exact k
  obtain ⟨d2, qd2⟩ : ∃ z, z = (FP.l2d ((p0.toInt64) + ((p2 &&& (2147483647 : Int32)).toInt64))) := ⟨_, rfl⟩
  have nd2 : Jvm.Free.Fl.NoNaN64 d2 := by subst qd2; exact own_nnL _
  rw [← qd2]
  show OwnGo p.tables e below _ (s₁.setTop (mkF m 32 #[.val (.int p0), .val (.int p1), .val (.int p2), .val (.int p3), .val (.int p4), .val (.int p5), .val (.int (p4 &&& (3 : Int32))), .val (.double d0), .second, .val (.double d1), .second, .val (.double d2), .second, .unset, .unset, .unset, .unset, .unset, .unset] []))
  refine OwnGo.of (A := s₁.setTop (mkF m 32 #[.val (.int p0), .val (.int p1), .val (.int p2), .val (.int p3), .val (.int p4), .val (.int p5), .val (.int (p4 &&& (3 : Int32))), .val (.double d0), .second, .val (.double d1), .second, .val (.double d2), .second, .unset, .unset, .unset, .unset, .unset, .unset] [])) (B := s₁.setTop (mkF m 37 #[.val (.int p0), .val (.int p1), .val (.int p2), .val (.int p3), .val (.int p4), .val (.int p5), .val (.int (p4 &&& (3 : Int32))), .val (.double d0), .second, .val (.double d1), .second, .val (.double d2), .second, .val (.double (FP.i2d p5)), .second, .unset, .unset, .unset, .unset] [])) (fun t k => ?_) ?_
  · show Steps p.tables e below (s₁.setTop (mkF m 32 #[.val (.int p0), .val (.int p1), .val (.int p2), .val (.int p3), .val (.int p4), .val (.int p5), .val (.int (p4 &&& (3 : Int32))), .val (.double d0), .second, .val (.double d1), .second, .val (.double d2), .second, .unset, .unset, .unset, .unset, .unset, .unset] [])) t
    refine XS.iload X0.here hx rfl (hb hby at_32) rfl ?_
    show Steps p.tables e below (s₁.setTop (mkF m 34 #[.val (.int p0), .val (.int p1), .val (.int p2), .val (.int p3), .val (.int p4), .val (.int p5), .val (.int (p4 &&& (3 : Int32))), .val (.double d0), .second, .val (.double d1), .second, .val (.double d2), .second, .unset, .unset, .unset, .unset, .unset, .unset] [(.int p5)])) t
    refine XS.i2dS X0.here hx rfl (hb hby at_34) rfl rfl ?_
    show Steps p.tables e below (s₁.setTop (mkF m 35 #[.val (.int p0), .val (.int p1), .val (.int p2), .val (.int p3), .val (.int p4), .val (.int p5), .val (.int (p4 &&& (3 : Int32))), .val (.double d0), .second, .val (.double d1), .second, .val (.double d2), .second, .unset, .unset, .unset, .unset, .unset, .unset] [(.double (FP.i2d p5))])) t
    refine XS.dstore X0.here hx rfl (hb hby at_35) rfl (l' := #[.val (.int p0), .val (.int p1), .val (.int p2), .val (.int p3), .val (.int p4), .val (.int p5), .val (.int (p4 &&& (3 : Int32))), .val (.double d0), .second, .val (.double d1), .second, .val (.double d2), .second, .val (.double (FP.i2d p5)), .second, .unset, .unset, .unset, .unset]) rfl ?_
    exact k
  obtain ⟨df, qdf⟩ : ∃ z, z = (FP.i2d p5) := ⟨_, rfl⟩
  have ndf : Jvm.Free.Fl.NoNaN64 df := by subst qdf; exact own_nnI _
  rw [← qdf]
  show OwnGo p.tables e below _ (s₁.setTop (mkF m 37 #[.val (.int p0), .val (.int p1), .val (.int p2), .val (.int p3), .val (.int p4), .val (.int p5), .val (.int (p4 &&& (3 : Int32))), .val (.double d0), .second, .val (.double d1), .second, .val (.double d2), .second, .val (.double df), .second, .unset, .unset, .unset, .unset] []))
  refine OwnGo.of (A := s₁.setTop (mkF m 37 #[.val (.int p0), .val (.int p1), .val (.int p2), .val (.int p3), .val (.int p4), .val (.int p5), .val (.int (p4 &&& (3 : Int32))), .val (.double d0), .second, .val (.double d1), .second, .val (.double d2), .second, .val (.double df), .second, .unset, .unset, .unset, .unset] [])) (B := s₁.setTop (mkF m 41 #[.val (.int p0), .val (.int p1), .val (.int p2), .val (.int p3), .val (.int p4), .val (.int p5), .val (.int (p4 &&& (3 : Int32))), .val (.double d0), .second, .val (.double d1), .second, .val (.double d2), .second, .val (.double df), .second, .val (.double (FP.i2d p3)), .second, .unset, .unset] [])) (fun t k => ?_) ?_
  · show Steps p.tables e below (s₁.setTop (mkF m 37 #[.val (.int p0), .val (.int p1), .val (.int p2), .val (.int p3), .val (.int p4), .val (.int p5), .val (.int (p4 &&& (3 : Int32))), .val (.double d0), .second, .val (.double d1), .second, .val (.double d2), .second, .val (.double df), .second, .unset, .unset, .unset, .unset] [])) t
    refine XS.iloadN X0.here hx rfl (hb hby at_37) rfl ?_
    show Steps p.tables e below (s₁.setTop (mkF m 38 #[.val (.int p0), .val (.int p1), .val (.int p2), .val (.int p3), .val (.int p4), .val (.int p5), .val (.int (p4 &&& (3 : Int32))), .val (.double d0), .second, .val (.double d1), .second, .val (.double d2), .second, .val (.double df), .second, .unset, .unset, .unset, .unset] [(.int p3)])) t
    refine XS.i2dS X0.here hx rfl (hb hby at_38) rfl rfl ?_
    show Steps p.tables e below (s₁.setTop (mkF m 39 #[.val (.int p0), .val (.int p1), .val (.int p2), .val (.int p3), .val (.int p4), .val (.int p5), .val (.int (p4 &&& (3 : Int32))), .val (.double d0), .second, .val (.double d1), .second, .val (.double d2), .second, .val (.double df), .second, .unset, .unset, .unset, .unset] [(.double (FP.i2d p3))])) t
    refine XS.dstore X0.here hx rfl (hb hby at_39) rfl (l' := #[.val (.int p0), .val (.int p1), .val (.int p2), .val (.int p3), .val (.int p4), .val (.int p5), .val (.int (p4 &&& (3 : Int32))), .val (.double d0), .second, .val (.double d1), .second, .val (.double d2), .second, .val (.double df), .second, .val (.double (FP.i2d p3)), .second, .unset, .unset]) rfl ?_
    exact k
  obtain ⟨sc, qsc⟩ : ∃ z, z = (FP.i2d p3) := ⟨_, rfl⟩
  have nsc : Jvm.Free.Fl.NoNaN64 sc := by subst qsc; exact own_nnI _
  rw [← qsc]
  show OwnGo p.tables e below _ (s₁.setTop (mkF m 41 #[.val (.int p0), .val (.int p1), .val (.int p2), .val (.int p3), .val (.int p4), .val (.int p5), .val (.int (p4 &&& (3 : Int32))), .val (.double d0), .second, .val (.double d1), .second, .val (.double d2), .second, .val (.double df), .second, .val (.double sc), .second, .unset, .unset] []))
  rcases own_at p4 with qa | qa | qa | qa
  · rw [qa]
    show OwnGo p.tables e below _ (s₁.setTop (mkF m 41 #[.val (.int p0), .val (.int p1), .val (.int p2), .val (.int p3), .val (.int p4), .val (.int p5), .val (.int (0 : Int32)), .val (.double d0), .second, .val (.double d1), .second, .val (.double d2), .second, .val (.double df), .second, .val (.double sc), .second, .unset, .unset] []))
    refine OwnGo.of (A := s₁.setTop (mkF m 41 #[.val (.int p0), .val (.int p1), .val (.int p2), .val (.int p3), .val (.int p4), .val (.int p5), .val (.int (0 : Int32)), .val (.double d0), .second, .val (.double d1), .second, .val (.double d2), .second, .val (.double df), .second, .val (.double sc), .second, .unset, .unset] [])) (B := s₁.setTop (mkF m 42 #[.val (.int p0), .val (.int p1), .val (.int p2), .val (.int p3), .val (.int p4), .val (.int p5), .val (.int (0 : Int32)), .val (.double d0), .second, .val (.double d1), .second, .val (.double d2), .second, .val (.double df), .second, .val (.double sc), .second, .unset, .unset] [(.int (4 : Int32))])) (fun t k => ?_) ?_
    · show Steps p.tables e below (s₁.setTop (mkF m 41 #[.val (.int p0), .val (.int p1), .val (.int p2), .val (.int p3), .val (.int p4), .val (.int p5), .val (.int (0 : Int32)), .val (.double d0), .second, .val (.double d1), .second, .val (.double d2), .second, .val (.double df), .second, .val (.double sc), .second, .unset, .unset] [])) t
      refine XS.iconst X0.here hx rfl (hb hby at_41) ?_
      exact k
    obtain ⟨T1, h1, k1, X1, e1, E1, A1, st1⟩ := newP X0 hx hZ (hw _ (List.mem_of_getElem? (i := 1) rfl)) e0 (g := (mkF m 42 #[.val (.int p0), .val (.int p1), .val (.int p2), .val (.int p3), .val (.int p4), .val (.int p5), .val (.int (0 : Int32)), .val (.double d0), .second, .val (.double d1), .second, .val (.double d2), .second, .val (.double df), .second, .val (.double sc), .second, .unset, .unset] [(.int (4 : Int32))])) rfl (hb hby at_42) rfl (by decide) (cap := 4) (by decide) (by decide) (by decide) (by decide)
    obtain ⟨b1, g1⟩ : ∃ z, z = h0.size := ⟨_, rfl⟩
    rw [← g1] at A1 st1
    refine OwnGo.of st1 ?_
    have g_b1 : n0 ≤ b1 := Nat.le_trans Z0 (Nat.le_of_eq g1.symm)
    have f2 : n0 ≤ h1.size := Nat.le_trans Z0 E1.1
    have f3 : Arv Z h1 b1 k1 .double (4 : Int32) [(.double (0 : UInt64)), (.double (0 : UInt64)), (.double (0 : UInt64)), (.double (0 : UInt64))] (.double (0 : UInt64)) := (Arv.new A1 (by decide)).pad (pad_rep [] (.double (0 : UInt64)) 4)
    show OwnGo p.tables e below _ (T1.setTop (mkF m 44 #[.val (.int p0), .val (.int p1), .val (.int p2), .val (.int p3), .val (.int p4), .val (.int p5), .val (.int (0 : Int32)), .val (.double d0), .second, .val (.double d1), .second, .val (.double d2), .second, .val (.double df), .second, .val (.double sc), .second, .unset, .unset] [(.ref b1)]))
    refine OwnGo.of (A := T1.setTop (mkF m 44 #[.val (.int p0), .val (.int p1), .val (.int p2), .val (.int p3), .val (.int p4), .val (.int p5), .val (.int (0 : Int32)), .val (.double d0), .second, .val (.double d1), .second, .val (.double d2), .second, .val (.double df), .second, .val (.double sc), .second, .unset, .unset] [(.ref b1)])) (B := T1.setTop (mkF m 51 #[.val (.int p0), .val (.int p1), .val (.int p2), .val (.int p3), .val (.int p4), .val (.int p5), .val (.int (0 : Int32)), .val (.double d0), .second, .val (.double d1), .second, .val (.double d2), .second, .val (.double df), .second, .val (.double sc), .second, .val (.ref b1), .unset] [(.int (0 : Int32)), (.int (0 : Int32)), (.ref b1)])) (fun t k => ?_) ?_
    · show Steps p.tables e below (T1.setTop (mkF m 44 #[.val (.int p0), .val (.int p1), .val (.int p2), .val (.int p3), .val (.int p4), .val (.int p5), .val (.int (0 : Int32)), .val (.double d0), .second, .val (.double d1), .second, .val (.double d2), .second, .val (.double df), .second, .val (.double sc), .second, .unset, .unset] [(.ref b1)])) t
      refine XS.astore X1.here hx rfl (hb hby at_44) rfl rfl (l' := #[.val (.int p0), .val (.int p1), .val (.int p2), .val (.int p3), .val (.int p4), .val (.int p5), .val (.int (0 : Int32)), .val (.double d0), .second, .val (.double d1), .second, .val (.double d2), .second, .val (.double df), .second, .val (.double sc), .second, .val (.ref b1), .unset]) rfl ?_
      show Steps p.tables e below (T1.setTop (mkF m 46 #[.val (.int p0), .val (.int p1), .val (.int p2), .val (.int p3), .val (.int p4), .val (.int p5), .val (.int (0 : Int32)), .val (.double d0), .second, .val (.double d1), .second, .val (.double d2), .second, .val (.double df), .second, .val (.double sc), .second, .val (.ref b1), .unset] [])) t
      refine XS.aload X1.here hx rfl (hb hby at_46) rfl rfl ?_
      show Steps p.tables e below (T1.setTop (mkF m 48 #[.val (.int p0), .val (.int p1), .val (.int p2), .val (.int p3), .val (.int p4), .val (.int p5), .val (.int (0 : Int32)), .val (.double d0), .second, .val (.double d1), .second, .val (.double d2), .second, .val (.double df), .second, .val (.double sc), .second, .val (.ref b1), .unset] [(.ref b1)])) t
      refine XS.iconst X1.here hx rfl (hb hby at_48) ?_
      show Steps p.tables e below (T1.setTop (mkF m 49 #[.val (.int p0), .val (.int p1), .val (.int p2), .val (.int p3), .val (.int p4), .val (.int p5), .val (.int (0 : Int32)), .val (.double d0), .second, .val (.double d1), .second, .val (.double d2), .second, .val (.double df), .second, .val (.double sc), .second, .val (.ref b1), .unset] [(.int (0 : Int32)), (.ref b1)])) t
      refine XS.iload X1.here hx rfl (hb hby at_49) rfl ?_
      exact k
    have hc4 : ¬ ((0 : Int32) < (0 : Int32)) := by decide
    refine OwnGo.of (A := T1.setTop (mkF m 51 #[.val (.int p0), .val (.int p1), .val (.int p2), .val (.int p3), .val (.int p4), .val (.int p5), .val (.int (0 : Int32)), .val (.double d0), .second, .val (.double d1), .second, .val (.double d2), .second, .val (.double df), .second, .val (.double sc), .second, .val (.ref b1), .unset] [(.int (0 : Int32)), (.int (0 : Int32)), (.ref b1)])) (B := T1.setTop (mkF m 61 #[.val (.int p0), .val (.int p1), .val (.int p2), .val (.int p3), .val (.int p4), .val (.int p5), .val (.int (0 : Int32)), .val (.double d0), .second, .val (.double d1), .second, .val (.double d2), .second, .val (.double df), .second, .val (.double sc), .second, .val (.ref b1), .unset] [(.double df), (.int (0 : Int32)), (.ref b1)])) (fun t k => ?_) ?_
    · show Steps p.tables e below (T1.setTop (mkF m 51 #[.val (.int p0), .val (.int p1), .val (.int p2), .val (.int p3), .val (.int p4), .val (.int p5), .val (.int (0 : Int32)), .val (.double d0), .second, .val (.double d1), .second, .val (.double d2), .second, .val (.double df), .second, .val (.double sc), .second, .val (.ref b1), .unset] [(.int (0 : Int32)), (.int (0 : Int32)), (.ref b1)])) t
      refine XS.ifYes X1.here hx rfl (pc0 := 51) (pc' := 59) rfl (hb hby at_51) rfl ((if0 _ _).trans (flt hc4).2.2.2) (by decide) (by decide) ?_
      show Steps p.tables e below (T1.setTop (mkF m 59 #[.val (.int p0), .val (.int p1), .val (.int p2), .val (.int p3), .val (.int p4), .val (.int p5), .val (.int (0 : Int32)), .val (.double d0), .second, .val (.double d1), .second, .val (.double d2), .second, .val (.double df), .second, .val (.double sc), .second, .val (.ref b1), .unset] [(.int (0 : Int32)), (.ref b1)])) t
      refine XS.dload X1.here hx rfl (hb hby at_59) rfl ?_
      exact k
    have cq5 := f3
    obtain ⟨clq5, Arq5, qq5, Sq5, Nq5, Hq5, Gq5⟩ := cq5
    obtain ⟨T6, h6, X6, e6, W6, st6⟩ := stD X1 hx hZ e1 Arq5 (j := (0 : Int32)) (inb_of Sq5 ⟨by decide, by decide⟩) (g := (mkF m 61 #[.val (.int p0), .val (.int p1), .val (.int p2), .val (.int p3), .val (.int p4), .val (.int p5), .val (.int (0 : Int32)), .val (.double d0), .second, .val (.double d1), .second, .val (.double d2), .second, .val (.double df), .second, .val (.double sc), .second, .val (.ref b1), .unset] [(.double df), (.int (0 : Int32)), (.ref b1)])) rfl rfl (hb hby at_61)
    refine OwnGo.of st6 ?_
    have N6 := Fr.snoc X6 N0 g_b1
    have f7 : n0 ≤ h6.size := Nat.le_trans f2 (Keep.of_wr W6).1
    have f8 : Arv Z h6 b1 k1 .double (4 : Int32) [(.double df), (.double (0 : UInt64)), (.double (0 : UInt64)), (.double (0 : UInt64))] (.double (0 : UInt64)) := Arv.set Arq5 qq5 Sq5 Nq5 Hq5 Gq5 rfl W6 0 rfl (Nat.le_of_ble_eq_true rfl)
    show OwnGo p.tables e below _ (T6.setTop (mkF m 62 #[.val (.int p0), .val (.int p1), .val (.int p2), .val (.int p3), .val (.int p4), .val (.int p5), .val (.int (0 : Int32)), .val (.double d0), .second, .val (.double d1), .second, .val (.double d2), .second, .val (.double df), .second, .val (.double sc), .second, .val (.ref b1), .unset] []))
    refine OwnGo.of (A := T6.setTop (mkF m 62 #[.val (.int p0), .val (.int p1), .val (.int p2), .val (.int p3), .val (.int p4), .val (.int p5), .val (.int (0 : Int32)), .val (.double d0), .second, .val (.double d1), .second, .val (.double d2), .second, .val (.double df), .second, .val (.double sc), .second, .val (.ref b1), .unset] [])) (B := T6.setTop (mkF m 68 #[.val (.int p0), .val (.int p1), .val (.int p2), .val (.int p3), .val (.int p4), .val (.int p5), .val (.int (0 : Int32)), .val (.double d0), .second, .val (.double d1), .second, .val (.double d2), .second, .val (.double df), .second, .val (.double sc), .second, .val (.ref b1), .unset] [(.int (1 : Int32)), (.int (0 : Int32)), (.int (1 : Int32)), (.ref b1)])) (fun t k => ?_) ?_
    · show Steps p.tables e below (T6.setTop (mkF m 62 #[.val (.int p0), .val (.int p1), .val (.int p2), .val (.int p3), .val (.int p4), .val (.int p5), .val (.int (0 : Int32)), .val (.double d0), .second, .val (.double d1), .second, .val (.double d2), .second, .val (.double df), .second, .val (.double sc), .second, .val (.ref b1), .unset] [])) t
      refine XS.aload X6.here hx rfl (hb hby at_62) rfl rfl ?_
      show Steps p.tables e below (T6.setTop (mkF m 64 #[.val (.int p0), .val (.int p1), .val (.int p2), .val (.int p3), .val (.int p4), .val (.int p5), .val (.int (0 : Int32)), .val (.double d0), .second, .val (.double d1), .second, .val (.double d2), .second, .val (.double df), .second, .val (.double sc), .second, .val (.ref b1), .unset] [(.ref b1)])) t
      refine XS.iconst X6.here hx rfl (hb hby at_64) ?_
      show Steps p.tables e below (T6.setTop (mkF m 65 #[.val (.int p0), .val (.int p1), .val (.int p2), .val (.int p3), .val (.int p4), .val (.int p5), .val (.int (0 : Int32)), .val (.double d0), .second, .val (.double d1), .second, .val (.double d2), .second, .val (.double df), .second, .val (.double sc), .second, .val (.ref b1), .unset] [(.int (1 : Int32)), (.ref b1)])) t
      refine XS.iload X6.here hx rfl (hb hby at_65) rfl ?_
      show Steps p.tables e below (T6.setTop (mkF m 67 #[.val (.int p0), .val (.int p1), .val (.int p2), .val (.int p3), .val (.int p4), .val (.int p5), .val (.int (0 : Int32)), .val (.double d0), .second, .val (.double d1), .second, .val (.double d2), .second, .val (.double df), .second, .val (.double sc), .second, .val (.ref b1), .unset] [(.int (0 : Int32)), (.int (1 : Int32)), (.ref b1)])) t
      refine XS.iconst X6.here hx rfl (hb hby at_67) ?_
      exact k
    have hc9 : ¬ ((1 : Int32) < (0 : Int32)) := by decide
    refine OwnGo.of (A := T6.setTop (mkF m 68 #[.val (.int p0), .val (.int p1), .val (.int p2), .val (.int p3), .val (.int p4), .val (.int p5), .val (.int (0 : Int32)), .val (.double d0), .second, .val (.double d1), .second, .val (.double d2), .second, .val (.double df), .second, .val (.double sc), .second, .val (.ref b1), .unset] [(.int (1 : Int32)), (.int (0 : Int32)), (.int (1 : Int32)), (.ref b1)])) (B := T6.setTop (mkF m 78 #[.val (.int p0), .val (.int p1), .val (.int p2), .val (.int p3), .val (.int p4), .val (.int p5), .val (.int (0 : Int32)), .val (.double d0), .second, .val (.double d1), .second, .val (.double d2), .second, .val (.double df), .second, .val (.double sc), .second, .val (.ref b1), .unset] [(.double df), (.int (1 : Int32)), (.ref b1)])) (fun t k => ?_) ?_
    · show Steps p.tables e below (T6.setTop (mkF m 68 #[.val (.int p0), .val (.int p1), .val (.int p2), .val (.int p3), .val (.int p4), .val (.int p5), .val (.int (0 : Int32)), .val (.double d0), .second, .val (.double d1), .second, .val (.double d2), .second, .val (.double df), .second, .val (.double sc), .second, .val (.ref b1), .unset] [(.int (1 : Int32)), (.int (0 : Int32)), (.int (1 : Int32)), (.ref b1)])) t
      refine XS.icmpYes X6.here hx rfl (pc0 := 68) (pc' := 76) rfl (hb hby at_68) rfl (flt hc9).2.2.2 (by decide) (by decide) ?_
      show Steps p.tables e below (T6.setTop (mkF m 76 #[.val (.int p0), .val (.int p1), .val (.int p2), .val (.int p3), .val (.int p4), .val (.int p5), .val (.int (0 : Int32)), .val (.double d0), .second, .val (.double d1), .second, .val (.double d2), .second, .val (.double df), .second, .val (.double sc), .second, .val (.ref b1), .unset] [(.int (1 : Int32)), (.ref b1)])) t
      refine XS.dload X6.here hx rfl (hb hby at_76) rfl ?_
      exact k
    have cq10 := f8
    obtain ⟨clq10, Arq10, qq10, Sq10, Nq10, Hq10, Gq10⟩ := cq10
    obtain ⟨T11, h11, X11, e11, W11, st11⟩ := stD X6 hx hZ e6 Arq10 (j := (1 : Int32)) (inb_of Sq10 ⟨by decide, by decide⟩) (g := (mkF m 78 #[.val (.int p0), .val (.int p1), .val (.int p2), .val (.int p3), .val (.int p4), .val (.int p5), .val (.int (0 : Int32)), .val (.double d0), .second, .val (.double d1), .second, .val (.double d2), .second, .val (.double df), .second, .val (.double sc), .second, .val (.ref b1), .unset] [(.double df), (.int (1 : Int32)), (.ref b1)])) rfl rfl (hb hby at_78)
    refine OwnGo.of st11 ?_
    have N11 := Fr.snoc X11 N6 g_b1
    have f12 : n0 ≤ h11.size := Nat.le_trans f7 (Keep.of_wr W11).1
    have f13 : Arv Z h11 b1 k1 .double (4 : Int32) [(.double df), (.double df), (.double (0 : UInt64)), (.double (0 : UInt64))] (.double (0 : UInt64)) := Arv.set Arq10 qq10 Sq10 Nq10 Hq10 Gq10 rfl W11 1 rfl (Nat.le_of_ble_eq_true rfl)
    show OwnGo p.tables e below _ (T11.setTop (mkF m 79 #[.val (.int p0), .val (.int p1), .val (.int p2), .val (.int p3), .val (.int p4), .val (.int p5), .val (.int (0 : Int32)), .val (.double d0), .second, .val (.double d1), .second, .val (.double d2), .second, .val (.double df), .second, .val (.double sc), .second, .val (.ref b1), .unset] []))
    refine OwnGo.of (A := T11.setTop (mkF m 79 #[.val (.int p0), .val (.int p1), .val (.int p2), .val (.int p3), .val (.int p4), .val (.int p5), .val (.int (0 : Int32)), .val (.double d0), .second, .val (.double d1), .second, .val (.double d2), .second, .val (.double df), .second, .val (.double sc), .second, .val (.ref b1), .unset] [])) (B := T11.setTop (mkF m 85 #[.val (.int p0), .val (.int p1), .val (.int p2), .val (.int p3), .val (.int p4), .val (.int p5), .val (.int (0 : Int32)), .val (.double d0), .second, .val (.double d1), .second, .val (.double d2), .second, .val (.double df), .second, .val (.double sc), .second, .val (.ref b1), .unset] [(.int (2 : Int32)), (.int (0 : Int32)), (.int (2 : Int32)), (.ref b1)])) (fun t k => ?_) ?_
    · show Steps p.tables e below (T11.setTop (mkF m 79 #[.val (.int p0), .val (.int p1), .val (.int p2), .val (.int p3), .val (.int p4), .val (.int p5), .val (.int (0 : Int32)), .val (.double d0), .second, .val (.double d1), .second, .val (.double d2), .second, .val (.double df), .second, .val (.double sc), .second, .val (.ref b1), .unset] [])) t
      refine XS.aload X11.here hx rfl (hb hby at_79) rfl rfl ?_
      show Steps p.tables e below (T11.setTop (mkF m 81 #[.val (.int p0), .val (.int p1), .val (.int p2), .val (.int p3), .val (.int p4), .val (.int p5), .val (.int (0 : Int32)), .val (.double d0), .second, .val (.double d1), .second, .val (.double d2), .second, .val (.double df), .second, .val (.double sc), .second, .val (.ref b1), .unset] [(.ref b1)])) t
      refine XS.iconst X11.here hx rfl (hb hby at_81) ?_
      show Steps p.tables e below (T11.setTop (mkF m 82 #[.val (.int p0), .val (.int p1), .val (.int p2), .val (.int p3), .val (.int p4), .val (.int p5), .val (.int (0 : Int32)), .val (.double d0), .second, .val (.double d1), .second, .val (.double d2), .second, .val (.double df), .second, .val (.double sc), .second, .val (.ref b1), .unset] [(.int (2 : Int32)), (.ref b1)])) t
      refine XS.iload X11.here hx rfl (hb hby at_82) rfl ?_
      show Steps p.tables e below (T11.setTop (mkF m 84 #[.val (.int p0), .val (.int p1), .val (.int p2), .val (.int p3), .val (.int p4), .val (.int p5), .val (.int (0 : Int32)), .val (.double d0), .second, .val (.double d1), .second, .val (.double d2), .second, .val (.double df), .second, .val (.double sc), .second, .val (.ref b1), .unset] [(.int (0 : Int32)), (.int (2 : Int32)), (.ref b1)])) t
      refine XS.iconst X11.here hx rfl (hb hby at_84) ?_
      exact k
    have hc14 : ¬ ((2 : Int32) < (0 : Int32)) := by decide
    refine OwnGo.of (A := T11.setTop (mkF m 85 #[.val (.int p0), .val (.int p1), .val (.int p2), .val (.int p3), .val (.int p4), .val (.int p5), .val (.int (0 : Int32)), .val (.double d0), .second, .val (.double d1), .second, .val (.double d2), .second, .val (.double df), .second, .val (.double sc), .second, .val (.ref b1), .unset] [(.int (2 : Int32)), (.int (0 : Int32)), (.int (2 : Int32)), (.ref b1)])) (B := T11.setTop (mkF m 95 #[.val (.int p0), .val (.int p1), .val (.int p2), .val (.int p3), .val (.int p4), .val (.int p5), .val (.int (0 : Int32)), .val (.double d0), .second, .val (.double d1), .second, .val (.double d2), .second, .val (.double df), .second, .val (.double sc), .second, .val (.ref b1), .unset] [(.double df), (.int (2 : Int32)), (.ref b1)])) (fun t k => ?_) ?_
    · show Steps p.tables e below (T11.setTop (mkF m 85 #[.val (.int p0), .val (.int p1), .val (.int p2), .val (.int p3), .val (.int p4), .val (.int p5), .val (.int (0 : Int32)), .val (.double d0), .second, .val (.double d1), .second, .val (.double d2), .second, .val (.double df), .second, .val (.double sc), .second, .val (.ref b1), .unset] [(.int (2 : Int32)), (.int (0 : Int32)), (.int (2 : Int32)), (.ref b1)])) t
      refine XS.icmpYes X11.here hx rfl (pc0 := 85) (pc' := 93) rfl (hb hby at_85) rfl (flt hc14).2.2.2 (by decide) (by decide) ?_
      show Steps p.tables e below (T11.setTop (mkF m 93 #[.val (.int p0), .val (.int p1), .val (.int p2), .val (.int p3), .val (.int p4), .val (.int p5), .val (.int (0 : Int32)), .val (.double d0), .second, .val (.double d1), .second, .val (.double d2), .second, .val (.double df), .second, .val (.double sc), .second, .val (.ref b1), .unset] [(.int (2 : Int32)), (.ref b1)])) t
      refine XS.dload X11.here hx rfl (hb hby at_93) rfl ?_
      exact k
    have cq15 := f13
    obtain ⟨clq15, Arq15, qq15, Sq15, Nq15, Hq15, Gq15⟩ := cq15
    obtain ⟨T16, h16, X16, e16, W16, st16⟩ := stD X11 hx hZ e11 Arq15 (j := (2 : Int32)) (inb_of Sq15 ⟨by decide, by decide⟩) (g := (mkF m 95 #[.val (.int p0), .val (.int p1), .val (.int p2), .val (.int p3), .val (.int p4), .val (.int p5), .val (.int (0 : Int32)), .val (.double d0), .second, .val (.double d1), .second, .val (.double d2), .second, .val (.double df), .second, .val (.double sc), .second, .val (.ref b1), .unset] [(.double df), (.int (2 : Int32)), (.ref b1)])) rfl rfl (hb hby at_95)
    refine OwnGo.of st16 ?_
    have N16 := Fr.snoc X16 N11 g_b1
    have f17 : n0 ≤ h16.size := Nat.le_trans f12 (Keep.of_wr W16).1
    have f18 : Arv Z h16 b1 k1 .double (4 : Int32) [(.double df), (.double df), (.double df), (.double (0 : UInt64))] (.double (0 : UInt64)) := Arv.set Arq15 qq15 Sq15 Nq15 Hq15 Gq15 rfl W16 2 rfl (Nat.le_of_ble_eq_true rfl)
    show OwnGo p.tables e below _ (T16.setTop (mkF m 96 #[.val (.int p0), .val (.int p1), .val (.int p2), .val (.int p3), .val (.int p4), .val (.int p5), .val (.int (0 : Int32)), .val (.double d0), .second, .val (.double d1), .second, .val (.double d2), .second, .val (.double df), .second, .val (.double sc), .second, .val (.ref b1), .unset] []))
    refine OwnGo.of (A := T16.setTop (mkF m 96 #[.val (.int p0), .val (.int p1), .val (.int p2), .val (.int p3), .val (.int p4), .val (.int p5), .val (.int (0 : Int32)), .val (.double d0), .second, .val (.double d1), .second, .val (.double d2), .second, .val (.double df), .second, .val (.double sc), .second, .val (.ref b1), .unset] [])) (B := T16.setTop (mkF m 101 #[.val (.int p0), .val (.int p1), .val (.int p2), .val (.int p3), .val (.int p4), .val (.int p5), .val (.int (0 : Int32)), .val (.double d0), .second, .val (.double d1), .second, .val (.double d2), .second, .val (.double df), .second, .val (.double sc), .second, .val (.ref b1), .unset] [(.double df), (.int (3 : Int32)), (.ref b1)])) (fun t k => ?_) ?_
    · show Steps p.tables e below (T16.setTop (mkF m 96 #[.val (.int p0), .val (.int p1), .val (.int p2), .val (.int p3), .val (.int p4), .val (.int p5), .val (.int (0 : Int32)), .val (.double d0), .second, .val (.double d1), .second, .val (.double d2), .second, .val (.double df), .second, .val (.double sc), .second, .val (.ref b1), .unset] [])) t
      refine XS.aload X16.here hx rfl (hb hby at_96) rfl rfl ?_
      show Steps p.tables e below (T16.setTop (mkF m 98 #[.val (.int p0), .val (.int p1), .val (.int p2), .val (.int p3), .val (.int p4), .val (.int p5), .val (.int (0 : Int32)), .val (.double d0), .second, .val (.double d1), .second, .val (.double d2), .second, .val (.double df), .second, .val (.double sc), .second, .val (.ref b1), .unset] [(.ref b1)])) t
      refine XS.iconst X16.here hx rfl (hb hby at_98) ?_
      show Steps p.tables e below (T16.setTop (mkF m 99 #[.val (.int p0), .val (.int p1), .val (.int p2), .val (.int p3), .val (.int p4), .val (.int p5), .val (.int (0 : Int32)), .val (.double d0), .second, .val (.double d1), .second, .val (.double d2), .second, .val (.double df), .second, .val (.double sc), .second, .val (.ref b1), .unset] [(.int (3 : Int32)), (.ref b1)])) t
      refine XS.dload X16.here hx rfl (hb hby at_99) rfl ?_
      exact k
    have cq19 := f18
    obtain ⟨clq19, Arq19, qq19, Sq19, Nq19, Hq19, Gq19⟩ := cq19
    obtain ⟨T20, h20, X20, e20, W20, st20⟩ := stD X16 hx hZ e16 Arq19 (j := (3 : Int32)) (inb_of Sq19 ⟨by decide, by decide⟩) (g := (mkF m 101 #[.val (.int p0), .val (.int p1), .val (.int p2), .val (.int p3), .val (.int p4), .val (.int p5), .val (.int (0 : Int32)), .val (.double d0), .second, .val (.double d1), .second, .val (.double d2), .second, .val (.double df), .second, .val (.double sc), .second, .val (.ref b1), .unset] [(.double df), (.int (3 : Int32)), (.ref b1)])) rfl rfl (hb hby at_101)
    refine OwnGo.of st20 ?_
    have N20 := Fr.snoc X20 N16 g_b1
    have f21 : n0 ≤ h20.size := Nat.le_trans f17 (Keep.of_wr W20).1
    have f22 : Arv Z h20 b1 k1 .double (4 : Int32) [(.double df), (.double df), (.double df), (.double df)] (.double (0 : UInt64)) := Arv.set Arq19 qq19 Sq19 Nq19 Hq19 Gq19 rfl W20 3 rfl (Nat.le_of_ble_eq_true rfl)
    show OwnGo p.tables e below _ (T20.setTop (mkF m 102 #[.val (.int p0), .val (.int p1), .val (.int p2), .val (.int p3), .val (.int p4), .val (.int p5), .val (.int (0 : Int32)), .val (.double d0), .second, .val (.double d1), .second, .val (.double d2), .second, .val (.double df), .second, .val (.double sc), .second, .val (.ref b1), .unset] []))
    refine OwnGo.of (A := T20.setTop (mkF m 102 #[.val (.int p0), .val (.int p1), .val (.int p2), .val (.int p3), .val (.int p4), .val (.int p5), .val (.int (0 : Int32)), .val (.double d0), .second, .val (.double d1), .second, .val (.double d2), .second, .val (.double df), .second, .val (.double sc), .second, .val (.ref b1), .unset] [])) (B := T20.setTop (mkF m 103 #[.val (.int p0), .val (.int p1), .val (.int p2), .val (.int p3), .val (.int p4), .val (.int p5), .val (.int (0 : Int32)), .val (.double d0), .second, .val (.double d1), .second, .val (.double d2), .second, .val (.double df), .second, .val (.double sc), .second, .val (.ref b1), .unset] [(.int (4 : Int32))])) (fun t k => ?_) ?_
    · show Steps p.tables e below (T20.setTop (mkF m 102 #[.val (.int p0), .val (.int p1), .val (.int p2), .val (.int p3), .val (.int p4), .val (.int p5), .val (.int (0 : Int32)), .val (.double d0), .second, .val (.double d1), .second, .val (.double d2), .second, .val (.double df), .second, .val (.double sc), .second, .val (.ref b1), .unset] [])) t
      refine XS.iconst X20.here hx rfl (hb hby at_102) ?_
      exact k
    obtain ⟨T23, h23, k23, X23, e23, E23, A23, st23⟩ := newP X20 hx hZ (hw _ (List.mem_of_getElem? (i := 1) rfl)) e20 (g := (mkF m 103 #[.val (.int p0), .val (.int p1), .val (.int p2), .val (.int p3), .val (.int p4), .val (.int p5), .val (.int (0 : Int32)), .val (.double d0), .second, .val (.double d1), .second, .val (.double d2), .second, .val (.double df), .second, .val (.double sc), .second, .val (.ref b1), .unset] [(.int (4 : Int32))])) rfl (hb hby at_103) rfl (by decide) (cap := 4) (by decide) (by decide) (by decide) (by decide)
    obtain ⟨b23, g23⟩ : ∃ z, z = h20.size := ⟨_, rfl⟩
    rw [← g23] at A23 st23
    refine OwnGo.of st23 ?_
    have ne_b1_b23 : b1 ≠ b23 := Nat.ne_of_lt (Nat.lt_of_lt_of_le f22.lt (Nat.le_of_eq g23.symm))
    have g_b23 : n0 ≤ b23 := Nat.le_trans f21 (Nat.le_of_eq g23.symm)
    have f24 : n0 ≤ h23.size := Nat.le_trans f21 E23.1
    have f25 : Arv Z h23 b1 k1 .double (4 : Int32) [(.double df), (.double df), (.double df), (.double df)] (.double (0 : UInt64)) := f22.ext E23
    have f26 : Arv Z h23 b23 k23 .double (4 : Int32) [(.double (0 : UInt64)), (.double (0 : UInt64)), (.double (0 : UInt64)), (.double (0 : UInt64))] (.double (0 : UInt64)) := (Arv.new A23 (by decide)).pad (pad_rep [] (.double (0 : UInt64)) 4)
    show OwnGo p.tables e below _ (T23.setTop (mkF m 105 #[.val (.int p0), .val (.int p1), .val (.int p2), .val (.int p3), .val (.int p4), .val (.int p5), .val (.int (0 : Int32)), .val (.double d0), .second, .val (.double d1), .second, .val (.double d2), .second, .val (.double df), .second, .val (.double sc), .second, .val (.ref b1), .unset] [(.ref b23)]))
    refine OwnGo.of (A := T23.setTop (mkF m 105 #[.val (.int p0), .val (.int p1), .val (.int p2), .val (.int p3), .val (.int p4), .val (.int p5), .val (.int (0 : Int32)), .val (.double d0), .second, .val (.double d1), .second, .val (.double d2), .second, .val (.double df), .second, .val (.double sc), .second, .val (.ref b1), .unset] [(.ref b23)])) (B := T23.setTop (mkF m 113 #[.val (.int p0), .val (.int p1), .val (.int p2), .val (.int p3), .val (.int p4), .val (.int p5), .val (.int (0 : Int32)), .val (.double d0), .second, .val (.double d1), .second, .val (.double d2), .second, .val (.double df), .second, .val (.double sc), .second, .val (.ref b1), .val (.ref b23)] [(.int (0 : Int32)), (.ref b1), (.int (0 : Int32)), (.ref b23)])) (fun t k => ?_) ?_
    · show Steps p.tables e below (T23.setTop (mkF m 105 #[.val (.int p0), .val (.int p1), .val (.int p2), .val (.int p3), .val (.int p4), .val (.int p5), .val (.int (0 : Int32)), .val (.double d0), .second, .val (.double d1), .second, .val (.double d2), .second, .val (.double df), .second, .val (.double sc), .second, .val (.ref b1), .unset] [(.ref b23)])) t
      refine XS.astore X23.here hx rfl (hb hby at_105) rfl rfl (l' := #[.val (.int p0), .val (.int p1), .val (.int p2), .val (.int p3), .val (.int p4), .val (.int p5), .val (.int (0 : Int32)), .val (.double d0), .second, .val (.double d1), .second, .val (.double d2), .second, .val (.double df), .second, .val (.double sc), .second, .val (.ref b1), .val (.ref b23)]) rfl ?_
      show Steps p.tables e below (T23.setTop (mkF m 107 #[.val (.int p0), .val (.int p1), .val (.int p2), .val (.int p3), .val (.int p4), .val (.int p5), .val (.int (0 : Int32)), .val (.double d0), .second, .val (.double d1), .second, .val (.double d2), .second, .val (.double df), .second, .val (.double sc), .second, .val (.ref b1), .val (.ref b23)] [])) t
      refine XS.aload X23.here hx rfl (hb hby at_107) rfl rfl ?_
      show Steps p.tables e below (T23.setTop (mkF m 109 #[.val (.int p0), .val (.int p1), .val (.int p2), .val (.int p3), .val (.int p4), .val (.int p5), .val (.int (0 : Int32)), .val (.double d0), .second, .val (.double d1), .second, .val (.double d2), .second, .val (.double df), .second, .val (.double sc), .second, .val (.ref b1), .val (.ref b23)] [(.ref b23)])) t
      refine XS.iconst X23.here hx rfl (hb hby at_109) ?_
      show Steps p.tables e below (T23.setTop (mkF m 110 #[.val (.int p0), .val (.int p1), .val (.int p2), .val (.int p3), .val (.int p4), .val (.int p5), .val (.int (0 : Int32)), .val (.double d0), .second, .val (.double d1), .second, .val (.double d2), .second, .val (.double df), .second, .val (.double sc), .second, .val (.ref b1), .val (.ref b23)] [(.int (0 : Int32)), (.ref b23)])) t
      refine XS.aload X23.here hx rfl (hb hby at_110) rfl rfl ?_
      show Steps p.tables e below (T23.setTop (mkF m 112 #[.val (.int p0), .val (.int p1), .val (.int p2), .val (.int p3), .val (.int p4), .val (.int p5), .val (.int (0 : Int32)), .val (.double d0), .second, .val (.double d1), .second, .val (.double d2), .second, .val (.double df), .second, .val (.double sc), .second, .val (.ref b1), .val (.ref b23)] [(.ref b1), (.int (0 : Int32)), (.ref b23)])) t
      refine XS.iconst X23.here hx rfl (hb hby at_112) ?_
      exact k
    have cq27 := f25
    obtain ⟨clq27, Arq27, qq27, Sq27, Nq27, Hq27, Gq27⟩ := cq27
    have hinq27 := inb_of (j := (0 : Int32)) Sq27 ⟨by decide, by decide⟩
    refine OwnGo.of (X23.daload hx (j := (0 : Int32)) (v := (.double df)) (by rw [e23]; exact Arq27.1) (State.isArrayOf_alike hZ.alike Arq27.2.1) Arq27.2.2 hinq27 (Hq27.at hinq27 rfl) (g := (mkF m 113 #[.val (.int p0), .val (.int p1), .val (.int p2), .val (.int p3), .val (.int p4), .val (.int p5), .val (.int (0 : Int32)), .val (.double d0), .second, .val (.double d1), .second, .val (.double d2), .second, .val (.double df), .second, .val (.double sc), .second, .val (.ref b1), .val (.ref b23)] [(.int (0 : Int32)), (.ref b1), (.int (0 : Int32)), (.ref b23)])) rfl rfl (hb hby at_113)) ?_
    show OwnGo p.tables e below _ (T23.setTop (mkF m 114 #[.val (.int p0), .val (.int p1), .val (.int p2), .val (.int p3), .val (.int p4), .val (.int p5), .val (.int (0 : Int32)), .val (.double d0), .second, .val (.double d1), .second, .val (.double d2), .second, .val (.double df), .second, .val (.double sc), .second, .val (.ref b1), .val (.ref b23)] [(.double df), (.int (0 : Int32)), (.ref b23)]))
    have cq28 := f26
    obtain ⟨clq28, Arq28, qq28, Sq28, Nq28, Hq28, Gq28⟩ := cq28
    obtain ⟨T29, h29, X29, e29, W29, st29⟩ := stD X23 hx hZ e23 Arq28 (j := (0 : Int32)) (inb_of Sq28 ⟨by decide, by decide⟩) (g := (mkF m 114 #[.val (.int p0), .val (.int p1), .val (.int p2), .val (.int p3), .val (.int p4), .val (.int p5), .val (.int (0 : Int32)), .val (.double d0), .second, .val (.double d1), .second, .val (.double d2), .second, .val (.double df), .second, .val (.double sc), .second, .val (.ref b1), .val (.ref b23)] [(.double df), (.int (0 : Int32)), (.ref b23)])) rfl rfl (hb hby at_114)
    refine OwnGo.of st29 ?_
    have N29 := Fr.snoc X29 N20 g_b23
    have f30 : n0 ≤ h29.size := Nat.le_trans f24 (Keep.of_wr W29).1
    have f31 : Arv Z h29 b1 k1 .double (4 : Int32) [(.double df), (.double df), (.double df), (.double df)] (.double (0 : UInt64)) := f25.other W29 ne_b1_b23
    have f32 : Arv Z h29 b23 k23 .double (4 : Int32) [(.double df), (.double (0 : UInt64)), (.double (0 : UInt64)), (.double (0 : UInt64))] (.double (0 : UInt64)) := Arv.set Arq28 qq28 Sq28 Nq28 Hq28 Gq28 rfl W29 0 rfl (Nat.le_of_ble_eq_true rfl)
    show OwnGo p.tables e below _ (T29.setTop (mkF m 115 #[.val (.int p0), .val (.int p1), .val (.int p2), .val (.int p3), .val (.int p4), .val (.int p5), .val (.int (0 : Int32)), .val (.double d0), .second, .val (.double d1), .second, .val (.double d2), .second, .val (.double df), .second, .val (.double sc), .second, .val (.ref b1), .val (.ref b23)] []))
    refine OwnGo.of (A := T29.setTop (mkF m 115 #[.val (.int p0), .val (.int p1), .val (.int p2), .val (.int p3), .val (.int p4), .val (.int p5), .val (.int (0 : Int32)), .val (.double d0), .second, .val (.double d1), .second, .val (.double d2), .second, .val (.double df), .second, .val (.double sc), .second, .val (.ref b1), .val (.ref b23)] [])) (B := T29.setTop (mkF m 121 #[.val (.int p0), .val (.int p1), .val (.int p2), .val (.int p3), .val (.int p4), .val (.int p5), .val (.int (0 : Int32)), .val (.double d0), .second, .val (.double d1), .second, .val (.double d2), .second, .val (.double df), .second, .val (.double sc), .second, .val (.ref b1), .val (.ref b23)] [(.int (1 : Int32)), (.ref b1), (.int (1 : Int32)), (.ref b23)])) (fun t k => ?_) ?_
    · show Steps p.tables e below (T29.setTop (mkF m 115 #[.val (.int p0), .val (.int p1), .val (.int p2), .val (.int p3), .val (.int p4), .val (.int p5), .val (.int (0 : Int32)), .val (.double d0), .second, .val (.double d1), .second, .val (.double d2), .second, .val (.double df), .second, .val (.double sc), .second, .val (.ref b1), .val (.ref b23)] [])) t
      refine XS.aload X29.here hx rfl (hb hby at_115) rfl rfl ?_
      show Steps p.tables e below (T29.setTop (mkF m 117 #[.val (.int p0), .val (.int p1), .val (.int p2), .val (.int p3), .val (.int p4), .val (.int p5), .val (.int (0 : Int32)), .val (.double d0), .second, .val (.double d1), .second, .val (.double d2), .second, .val (.double df), .second, .val (.double sc), .second, .val (.ref b1), .val (.ref b23)] [(.ref b23)])) t
      refine XS.iconst X29.here hx rfl (hb hby at_117) ?_
      show Steps p.tables e below (T29.setTop (mkF m 118 #[.val (.int p0), .val (.int p1), .val (.int p2), .val (.int p3), .val (.int p4), .val (.int p5), .val (.int (0 : Int32)), .val (.double d0), .second, .val (.double d1), .second, .val (.double d2), .second, .val (.double df), .second, .val (.double sc), .second, .val (.ref b1), .val (.ref b23)] [(.int (1 : Int32)), (.ref b23)])) t
      refine XS.aload X29.here hx rfl (hb hby at_118) rfl rfl ?_
      show Steps p.tables e below (T29.setTop (mkF m 120 #[.val (.int p0), .val (.int p1), .val (.int p2), .val (.int p3), .val (.int p4), .val (.int p5), .val (.int (0 : Int32)), .val (.double d0), .second, .val (.double d1), .second, .val (.double d2), .second, .val (.double df), .second, .val (.double sc), .second, .val (.ref b1), .val (.ref b23)] [(.ref b1), (.int (1 : Int32)), (.ref b23)])) t
      refine XS.iconst X29.here hx rfl (hb hby at_120) ?_
      exact k
    have cq33 := f31
    obtain ⟨clq33, Arq33, qq33, Sq33, Nq33, Hq33, Gq33⟩ := cq33
    have hinq33 := inb_of (j := (1 : Int32)) Sq33 ⟨by decide, by decide⟩
    refine OwnGo.of (X29.daload hx (j := (1 : Int32)) (v := (.double df)) (by rw [e29]; exact Arq33.1) (State.isArrayOf_alike hZ.alike Arq33.2.1) Arq33.2.2 hinq33 (Hq33.at hinq33 rfl) (g := (mkF m 121 #[.val (.int p0), .val (.int p1), .val (.int p2), .val (.int p3), .val (.int p4), .val (.int p5), .val (.int (0 : Int32)), .val (.double d0), .second, .val (.double d1), .second, .val (.double d2), .second, .val (.double df), .second, .val (.double sc), .second, .val (.ref b1), .val (.ref b23)] [(.int (1 : Int32)), (.ref b1), (.int (1 : Int32)), (.ref b23)])) rfl rfl (hb hby at_121)) ?_
    show OwnGo p.tables e below _ (T29.setTop (mkF m 122 #[.val (.int p0), .val (.int p1), .val (.int p2), .val (.int p3), .val (.int p4), .val (.int p5), .val (.int (0 : Int32)), .val (.double d0), .second, .val (.double d1), .second, .val (.double d2), .second, .val (.double df), .second, .val (.double sc), .second, .val (.ref b1), .val (.ref b23)] [(.double df), (.int (1 : Int32)), (.ref b23)]))
    have cq34 := f32
    obtain ⟨clq34, Arq34, qq34, Sq34, Nq34, Hq34, Gq34⟩ := cq34
    obtain ⟨T35, h35, X35, e35, W35, st35⟩ := stD X29 hx hZ e29 Arq34 (j := (1 : Int32)) (inb_of Sq34 ⟨by decide, by decide⟩) (g := (mkF m 122 #[.val (.int p0), .val (.int p1), .val (.int p2), .val (.int p3), .val (.int p4), .val (.int p5), .val (.int (0 : Int32)), .val (.double d0), .second, .val (.double d1), .second, .val (.double d2), .second, .val (.double df), .second, .val (.double sc), .second, .val (.ref b1), .val (.ref b23)] [(.double df), (.int (1 : Int32)), (.ref b23)])) rfl rfl (hb hby at_122)
    refine OwnGo.of st35 ?_
    have N35 := Fr.snoc X35 N29 g_b23
    have f36 : n0 ≤ h35.size := Nat.le_trans f30 (Keep.of_wr W35).1
    have f37 : Arv Z h35 b1 k1 .double (4 : Int32) [(.double df), (.double df), (.double df), (.double df)] (.double (0 : UInt64)) := f31.other W35 ne_b1_b23
    have f38 : Arv Z h35 b23 k23 .double (4 : Int32) [(.double df), (.double df), (.double (0 : UInt64)), (.double (0 : UInt64))] (.double (0 : UInt64)) := Arv.set Arq34 qq34 Sq34 Nq34 Hq34 Gq34 rfl W35 1 rfl (Nat.le_of_ble_eq_true rfl)
    show OwnGo p.tables e below _ (T35.setTop (mkF m 123 #[.val (.int p0), .val (.int p1), .val (.int p2), .val (.int p3), .val (.int p4), .val (.int p5), .val (.int (0 : Int32)), .val (.double d0), .second, .val (.double d1), .second, .val (.double d2), .second, .val (.double df), .second, .val (.double sc), .second, .val (.ref b1), .val (.ref b23)] []))
    refine OwnGo.of (A := T35.setTop (mkF m 123 #[.val (.int p0), .val (.int p1), .val (.int p2), .val (.int p3), .val (.int p4), .val (.int p5), .val (.int (0 : Int32)), .val (.double d0), .second, .val (.double d1), .second, .val (.double d2), .second, .val (.double df), .second, .val (.double sc), .second, .val (.ref b1), .val (.ref b23)] [])) (B := T35.setTop (mkF m 129 #[.val (.int p0), .val (.int p1), .val (.int p2), .val (.int p3), .val (.int p4), .val (.int p5), .val (.int (0 : Int32)), .val (.double d0), .second, .val (.double d1), .second, .val (.double d2), .second, .val (.double df), .second, .val (.double sc), .second, .val (.ref b1), .val (.ref b23)] [(.int (2 : Int32)), (.ref b1), (.int (2 : Int32)), (.ref b23)])) (fun t k => ?_) ?_
    · show Steps p.tables e below (T35.setTop (mkF m 123 #[.val (.int p0), .val (.int p1), .val (.int p2), .val (.int p3), .val (.int p4), .val (.int p5), .val (.int (0 : Int32)), .val (.double d0), .second, .val (.double d1), .second, .val (.double d2), .second, .val (.double df), .second, .val (.double sc), .second, .val (.ref b1), .val (.ref b23)] [])) t
      refine XS.aload X35.here hx rfl (hb hby at_123) rfl rfl ?_
      show Steps p.tables e below (T35.setTop (mkF m 125 #[.val (.int p0), .val (.int p1), .val (.int p2), .val (.int p3), .val (.int p4), .val (.int p5), .val (.int (0 : Int32)), .val (.double d0), .second, .val (.double d1), .second, .val (.double d2), .second, .val (.double df), .second, .val (.double sc), .second, .val (.ref b1), .val (.ref b23)] [(.ref b23)])) t
      refine XS.iconst X35.here hx rfl (hb hby at_125) ?_
      show Steps p.tables e below (T35.setTop (mkF m 126 #[.val (.int p0), .val (.int p1), .val (.int p2), .val (.int p3), .val (.int p4), .val (.int p5), .val (.int (0 : Int32)), .val (.double d0), .second, .val (.double d1), .second, .val (.double d2), .second, .val (.double df), .second, .val (.double sc), .second, .val (.ref b1), .val (.ref b23)] [(.int (2 : Int32)), (.ref b23)])) t
      refine XS.aload X35.here hx rfl (hb hby at_126) rfl rfl ?_
      show Steps p.tables e below (T35.setTop (mkF m 128 #[.val (.int p0), .val (.int p1), .val (.int p2), .val (.int p3), .val (.int p4), .val (.int p5), .val (.int (0 : Int32)), .val (.double d0), .second, .val (.double d1), .second, .val (.double d2), .second, .val (.double df), .second, .val (.double sc), .second, .val (.ref b1), .val (.ref b23)] [(.ref b1), (.int (2 : Int32)), (.ref b23)])) t
      refine XS.iconst X35.here hx rfl (hb hby at_128) ?_
      exact k
    have cq39 := f37
    obtain ⟨clq39, Arq39, qq39, Sq39, Nq39, Hq39, Gq39⟩ := cq39
    have hinq39 := inb_of (j := (2 : Int32)) Sq39 ⟨by decide, by decide⟩
    refine OwnGo.of (X35.daload hx (j := (2 : Int32)) (v := (.double df)) (by rw [e35]; exact Arq39.1) (State.isArrayOf_alike hZ.alike Arq39.2.1) Arq39.2.2 hinq39 (Hq39.at hinq39 rfl) (g := (mkF m 129 #[.val (.int p0), .val (.int p1), .val (.int p2), .val (.int p3), .val (.int p4), .val (.int p5), .val (.int (0 : Int32)), .val (.double d0), .second, .val (.double d1), .second, .val (.double d2), .second, .val (.double df), .second, .val (.double sc), .second, .val (.ref b1), .val (.ref b23)] [(.int (2 : Int32)), (.ref b1), (.int (2 : Int32)), (.ref b23)])) rfl rfl (hb hby at_129)) ?_
    show OwnGo p.tables e below _ (T35.setTop (mkF m 130 #[.val (.int p0), .val (.int p1), .val (.int p2), .val (.int p3), .val (.int p4), .val (.int p5), .val (.int (0 : Int32)), .val (.double d0), .second, .val (.double d1), .second, .val (.double d2), .second, .val (.double df), .second, .val (.double sc), .second, .val (.ref b1), .val (.ref b23)] [(.double df), (.int (2 : Int32)), (.ref b23)]))
    have cq40 := f38
    obtain ⟨clq40, Arq40, qq40, Sq40, Nq40, Hq40, Gq40⟩ := cq40
    obtain ⟨T41, h41, X41, e41, W41, st41⟩ := stD X35 hx hZ e35 Arq40 (j := (2 : Int32)) (inb_of Sq40 ⟨by decide, by decide⟩) (g := (mkF m 130 #[.val (.int p0), .val (.int p1), .val (.int p2), .val (.int p3), .val (.int p4), .val (.int p5), .val (.int (0 : Int32)), .val (.double d0), .second, .val (.double d1), .second, .val (.double d2), .second, .val (.double df), .second, .val (.double sc), .second, .val (.ref b1), .val (.ref b23)] [(.double df), (.int (2 : Int32)), (.ref b23)])) rfl rfl (hb hby at_130)
    refine OwnGo.of st41 ?_
    have N41 := Fr.snoc X41 N35 g_b23
    have f42 : n0 ≤ h41.size := Nat.le_trans f36 (Keep.of_wr W41).1
    have f43 : Arv Z h41 b1 k1 .double (4 : Int32) [(.double df), (.double df), (.double df), (.double df)] (.double (0 : UInt64)) := f37.other W41 ne_b1_b23
    have f44 : Arv Z h41 b23 k23 .double (4 : Int32) [(.double df), (.double df), (.double df), (.double (0 : UInt64))] (.double (0 : UInt64)) := Arv.set Arq40 qq40 Sq40 Nq40 Hq40 Gq40 rfl W41 2 rfl (Nat.le_of_ble_eq_true rfl)
    show OwnGo p.tables e below _ (T41.setTop (mkF m 131 #[.val (.int p0), .val (.int p1), .val (.int p2), .val (.int p3), .val (.int p4), .val (.int p5), .val (.int (0 : Int32)), .val (.double d0), .second, .val (.double d1), .second, .val (.double d2), .second, .val (.double df), .second, .val (.double sc), .second, .val (.ref b1), .val (.ref b23)] []))
    refine OwnGo.of (A := T41.setTop (mkF m 131 #[.val (.int p0), .val (.int p1), .val (.int p2), .val (.int p3), .val (.int p4), .val (.int p5), .val (.int (0 : Int32)), .val (.double d0), .second, .val (.double d1), .second, .val (.double d2), .second, .val (.double df), .second, .val (.double sc), .second, .val (.ref b1), .val (.ref b23)] [])) (B := T41.setTop (mkF m 137 #[.val (.int p0), .val (.int p1), .val (.int p2), .val (.int p3), .val (.int p4), .val (.int p5), .val (.int (0 : Int32)), .val (.double d0), .second, .val (.double d1), .second, .val (.double d2), .second, .val (.double df), .second, .val (.double sc), .second, .val (.ref b1), .val (.ref b23)] [(.int (3 : Int32)), (.ref b1), (.int (3 : Int32)), (.ref b23)])) (fun t k => ?_) ?_
    · show Steps p.tables e below (T41.setTop (mkF m 131 #[.val (.int p0), .val (.int p1), .val (.int p2), .val (.int p3), .val (.int p4), .val (.int p5), .val (.int (0 : Int32)), .val (.double d0), .second, .val (.double d1), .second, .val (.double d2), .second, .val (.double df), .second, .val (.double sc), .second, .val (.ref b1), .val (.ref b23)] [])) t
      refine XS.aload X41.here hx rfl (hb hby at_131) rfl rfl ?_
      show Steps p.tables e below (T41.setTop (mkF m 133 #[.val (.int p0), .val (.int p1), .val (.int p2), .val (.int p3), .val (.int p4), .val (.int p5), .val (.int (0 : Int32)), .val (.double d0), .second, .val (.double d1), .second, .val (.double d2), .second, .val (.double df), .second, .val (.double sc), .second, .val (.ref b1), .val (.ref b23)] [(.ref b23)])) t
      refine XS.iconst X41.here hx rfl (hb hby at_133) ?_
      show Steps p.tables e below (T41.setTop (mkF m 134 #[.val (.int p0), .val (.int p1), .val (.int p2), .val (.int p3), .val (.int p4), .val (.int p5), .val (.int (0 : Int32)), .val (.double d0), .second, .val (.double d1), .second, .val (.double d2), .second, .val (.double df), .second, .val (.double sc), .second, .val (.ref b1), .val (.ref b23)] [(.int (3 : Int32)), (.ref b23)])) t
      refine XS.aload X41.here hx rfl (hb hby at_134) rfl rfl ?_
      show Steps p.tables e below (T41.setTop (mkF m 136 #[.val (.int p0), .val (.int p1), .val (.int p2), .val (.int p3), .val (.int p4), .val (.int p5), .val (.int (0 : Int32)), .val (.double d0), .second, .val (.double d1), .second, .val (.double d2), .second, .val (.double df), .second, .val (.double sc), .second, .val (.ref b1), .val (.ref b23)] [(.ref b1), (.int (3 : Int32)), (.ref b23)])) t
      refine XS.iconst X41.here hx rfl (hb hby at_136) ?_
      exact k
    have cq45 := f43
    obtain ⟨clq45, Arq45, qq45, Sq45, Nq45, Hq45, Gq45⟩ := cq45
    have hinq45 := inb_of (j := (3 : Int32)) Sq45 ⟨by decide, by decide⟩
    refine OwnGo.of (X41.daload hx (j := (3 : Int32)) (v := (.double df)) (by rw [e41]; exact Arq45.1) (State.isArrayOf_alike hZ.alike Arq45.2.1) Arq45.2.2 hinq45 (Hq45.at hinq45 rfl) (g := (mkF m 137 #[.val (.int p0), .val (.int p1), .val (.int p2), .val (.int p3), .val (.int p4), .val (.int p5), .val (.int (0 : Int32)), .val (.double d0), .second, .val (.double d1), .second, .val (.double d2), .second, .val (.double df), .second, .val (.double sc), .second, .val (.ref b1), .val (.ref b23)] [(.int (3 : Int32)), (.ref b1), (.int (3 : Int32)), (.ref b23)])) rfl rfl (hb hby at_137)) ?_
    show OwnGo p.tables e below _ (T41.setTop (mkF m 138 #[.val (.int p0), .val (.int p1), .val (.int p2), .val (.int p3), .val (.int p4), .val (.int p5), .val (.int (0 : Int32)), .val (.double d0), .second, .val (.double d1), .second, .val (.double d2), .second, .val (.double df), .second, .val (.double sc), .second, .val (.ref b1), .val (.ref b23)] [(.double df), (.int (3 : Int32)), (.ref b23)]))
    have cq46 := f44
    obtain ⟨clq46, Arq46, qq46, Sq46, Nq46, Hq46, Gq46⟩ := cq46
    obtain ⟨T47, h47, X47, e47, W47, st47⟩ := stD X41 hx hZ e41 Arq46 (j := (3 : Int32)) (inb_of Sq46 ⟨by decide, by decide⟩) (g := (mkF m 138 #[.val (.int p0), .val (.int p1), .val (.int p2), .val (.int p3), .val (.int p4), .val (.int p5), .val (.int (0 : Int32)), .val (.double d0), .second, .val (.double d1), .second, .val (.double d2), .second, .val (.double df), .second, .val (.double sc), .second, .val (.ref b1), .val (.ref b23)] [(.double df), (.int (3 : Int32)), (.ref b23)])) rfl rfl (hb hby at_138)
    refine OwnGo.of st47 ?_
    have N47 := Fr.snoc X47 N41 g_b23
    have f48 : n0 ≤ h47.size := Nat.le_trans f42 (Keep.of_wr W47).1
    have f49 : Arv Z h47 b1 k1 .double (4 : Int32) [(.double df), (.double df), (.double df), (.double df)] (.double (0 : UInt64)) := f43.other W47 ne_b1_b23
    have f50 : Arv Z h47 b23 k23 .double (4 : Int32) [(.double df), (.double df), (.double df), (.double df)] (.double (0 : UInt64)) := Arv.set Arq46 qq46 Sq46 Nq46 Hq46 Gq46 rfl W47 3 rfl (Nat.le_of_ble_eq_true rfl)
    show OwnGo p.tables e below _ (T47.setTop (mkF m 139 #[.val (.int p0), .val (.int p1), .val (.int p2), .val (.int p3), .val (.int p4), .val (.int p5), .val (.int (0 : Int32)), .val (.double d0), .second, .val (.double d1), .second, .val (.double d2), .second, .val (.double df), .second, .val (.double sc), .second, .val (.ref b1), .val (.ref b23)] []))
    refine OwnGo.of (A := T47.setTop (mkF m 139 #[.val (.int p0), .val (.int p1), .val (.int p2), .val (.int p3), .val (.int p4), .val (.int p5), .val (.int (0 : Int32)), .val (.double d0), .second, .val (.double d1), .second, .val (.double d2), .second, .val (.double df), .second, .val (.double sc), .second, .val (.ref b1), .val (.ref b23)] [])) (B := T47.setTop (mkF m 141 #[.val (.int p0), .val (.int p1), .val (.int p2), .val (.int p3), .val (.int p4), .val (.int p5), .val (.int (0 : Int32)), .val (.double d0), .second, .val (.double d1), .second, .val (.double d2), .second, .val (.double df), .second, .val (.double sc), .second, .val (.ref b1), .val (.ref b23)] [(.int (0 : Int32))])) (fun t k => ?_) ?_
    · show Steps p.tables e below (T47.setTop (mkF m 139 #[.val (.int p0), .val (.int p1), .val (.int p2), .val (.int p3), .val (.int p4), .val (.int p5), .val (.int (0 : Int32)), .val (.double d0), .second, .val (.double d1), .second, .val (.double d2), .second, .val (.double df), .second, .val (.double sc), .second, .val (.ref b1), .val (.ref b23)] [])) t
      refine XS.iload X47.here hx rfl (hb hby at_139) rfl ?_
      exact k
    have hc51 : (0 : Int32) = (0 : Int32) := by decide
    refine OwnGo.of (A := T47.setTop (mkF m 141 #[.val (.int p0), .val (.int p1), .val (.int p2), .val (.int p3), .val (.int p4), .val (.int p5), .val (.int (0 : Int32)), .val (.double d0), .second, .val (.double d1), .second, .val (.double d2), .second, .val (.double df), .second, .val (.double sc), .second, .val (.ref b1), .val (.ref b23)] [(.int (0 : Int32))])) (B := T47.setTop (mkF m 149 #[.val (.int p0), .val (.int p1), .val (.int p2), .val (.int p3), .val (.int p4), .val (.int p5), .val (.int (0 : Int32)), .val (.double d0), .second, .val (.double d1), .second, .val (.double d2), .second, .val (.double df), .second, .val (.double sc), .second, .val (.ref b1), .val (.ref b23)] [(.double sc), (.int (0 : Int32)), (.ref b23)])) (fun t k => ?_) ?_
    · show Steps p.tables e below (T47.setTop (mkF m 141 #[.val (.int p0), .val (.int p1), .val (.int p2), .val (.int p3), .val (.int p4), .val (.int p5), .val (.int (0 : Int32)), .val (.double d0), .second, .val (.double d1), .second, .val (.double d2), .second, .val (.double df), .second, .val (.double sc), .second, .val (.ref b1), .val (.ref b23)] [(.int (0 : Int32))])) t
      refine XS.ifNo X47.here hx rfl (hb hby at_141) rfl ((if0 _ _).trans (teq hc51).2) ?_
      show Steps p.tables e below (T47.setTop (mkF m 144 #[.val (.int p0), .val (.int p1), .val (.int p2), .val (.int p3), .val (.int p4), .val (.int p5), .val (.int (0 : Int32)), .val (.double d0), .second, .val (.double d1), .second, .val (.double d2), .second, .val (.double df), .second, .val (.double sc), .second, .val (.ref b1), .val (.ref b23)] [])) t
      refine XS.aload X47.here hx rfl (hb hby at_144) rfl rfl ?_
      show Steps p.tables e below (T47.setTop (mkF m 146 #[.val (.int p0), .val (.int p1), .val (.int p2), .val (.int p3), .val (.int p4), .val (.int p5), .val (.int (0 : Int32)), .val (.double d0), .second, .val (.double d1), .second, .val (.double d2), .second, .val (.double df), .second, .val (.double sc), .second, .val (.ref b1), .val (.ref b23)] [(.ref b23)])) t
      refine XS.iconst X47.here hx rfl (hb hby at_146) ?_
      show Steps p.tables e below (T47.setTop (mkF m 147 #[.val (.int p0), .val (.int p1), .val (.int p2), .val (.int p3), .val (.int p4), .val (.int p5), .val (.int (0 : Int32)), .val (.double d0), .second, .val (.double d1), .second, .val (.double d2), .second, .val (.double df), .second, .val (.double sc), .second, .val (.ref b1), .val (.ref b23)] [(.int (0 : Int32)), (.ref b23)])) t
      refine XS.dload X47.here hx rfl (hb hby at_147) rfl ?_
      exact k
    have cq52 := f50
    obtain ⟨clq52, Arq52, qq52, Sq52, Nq52, Hq52, Gq52⟩ := cq52
    obtain ⟨T53, h53, X53, e53, W53, st53⟩ := stD X47 hx hZ e47 Arq52 (j := (0 : Int32)) (inb_of Sq52 ⟨by decide, by decide⟩) (g := (mkF m 149 #[.val (.int p0), .val (.int p1), .val (.int p2), .val (.int p3), .val (.int p4), .val (.int p5), .val (.int (0 : Int32)), .val (.double d0), .second, .val (.double d1), .second, .val (.double d2), .second, .val (.double df), .second, .val (.double sc), .second, .val (.ref b1), .val (.ref b23)] [(.double sc), (.int (0 : Int32)), (.ref b23)])) rfl rfl (hb hby at_149)
    refine OwnGo.of st53 ?_
    have N53 := Fr.snoc X53 N47 g_b23
    have f54 : n0 ≤ h53.size := Nat.le_trans f48 (Keep.of_wr W53).1
    have f55 : Arv Z h53 b1 k1 .double (4 : Int32) [(.double df), (.double df), (.double df), (.double df)] (.double (0 : UInt64)) := f49.other W53 ne_b1_b23
    have f56 : Arv Z h53 b23 k23 .double (4 : Int32) [(.double sc), (.double df), (.double df), (.double df)] (.double (0 : UInt64)) := Arv.set Arq52 qq52 Sq52 Nq52 Hq52 Gq52 rfl W53 0 rfl (Nat.le_of_ble_eq_true rfl)
    show OwnGo p.tables e below _ (T53.setTop (mkF m 150 #[.val (.int p0), .val (.int p1), .val (.int p2), .val (.int p3), .val (.int p4), .val (.int p5), .val (.int (0 : Int32)), .val (.double d0), .second, .val (.double d1), .second, .val (.double d2), .second, .val (.double df), .second, .val (.double sc), .second, .val (.ref b1), .val (.ref b23)] []))
    refine OwnGo.of (A := T53.setTop (mkF m 150 #[.val (.int p0), .val (.int p1), .val (.int p2), .val (.int p3), .val (.int p4), .val (.int p5), .val (.int (0 : Int32)), .val (.double d0), .second, .val (.double d1), .second, .val (.double d2), .second, .val (.double df), .second, .val (.double sc), .second, .val (.ref b1), .val (.ref b23)] [])) (B := T53.setTop (mkF m 287 #[.val (.int p0), .val (.int p1), .val (.int p2), .val (.int p3), .val (.int p4), .val (.int p5), .val (.int (0 : Int32)), .val (.double d0), .second, .val (.double d1), .second, .val (.double d2), .second, .val (.double df), .second, .val (.double sc), .second, .val (.ref b1), .val (.ref b23)] [(.double sc), (.int (0 : Int32)), (.ref b1)])) (fun t k => ?_) ?_
    · show Steps p.tables e below (T53.setTop (mkF m 150 #[.val (.int p0), .val (.int p1), .val (.int p2), .val (.int p3), .val (.int p4), .val (.int p5), .val (.int (0 : Int32)), .val (.double d0), .second, .val (.double d1), .second, .val (.double d2), .second, .val (.double df), .second, .val (.double sc), .second, .val (.ref b1), .val (.ref b23)] [])) t
      refine XS.goto X53.here hx rfl (pc0 := 150) (pc' := 281) rfl (hb hby at_150) (by decide) (by decide) ?_
      show Steps p.tables e below (T53.setTop (mkF m 281 #[.val (.int p0), .val (.int p1), .val (.int p2), .val (.int p3), .val (.int p4), .val (.int p5), .val (.int (0 : Int32)), .val (.double d0), .second, .val (.double d1), .second, .val (.double d2), .second, .val (.double df), .second, .val (.double sc), .second, .val (.ref b1), .val (.ref b23)] [])) t
      refine XS.aload X53.here hx rfl (hb hby at_281) rfl rfl ?_
      show Steps p.tables e below (T53.setTop (mkF m 283 #[.val (.int p0), .val (.int p1), .val (.int p2), .val (.int p3), .val (.int p4), .val (.int p5), .val (.int (0 : Int32)), .val (.double d0), .second, .val (.double d1), .second, .val (.double d2), .second, .val (.double df), .second, .val (.double sc), .second, .val (.ref b1), .val (.ref b23)] [(.ref b1)])) t
      refine XS.iload X53.here hx rfl (hb hby at_283) rfl ?_
      show Steps p.tables e below (T53.setTop (mkF m 285 #[.val (.int p0), .val (.int p1), .val (.int p2), .val (.int p3), .val (.int p4), .val (.int p5), .val (.int (0 : Int32)), .val (.double d0), .second, .val (.double d1), .second, .val (.double d2), .second, .val (.double df), .second, .val (.double sc), .second, .val (.ref b1), .val (.ref b23)] [(.int (0 : Int32)), (.ref b1)])) t
      refine XS.dload X53.here hx rfl (hb hby at_285) rfl ?_
      exact k
    obtain ⟨T57, L57, v57, X57, hQ57, st57⟩ := own_callS X53 hx (y := (⟨"com/example/rankwright/rankwright/rank/Accumulator", "siftUp", "([DID)V"⟩ : MethodName)) hown (mvT hZ (hw _ (List.mem_of_getElem? (i := 2) rfl))) (mvT hZ (hw _ (List.mem_of_getElem? (i := 3) rfl))) (mvT hZ (hw _ (List.mem_of_getElem? (i := 4) rfl))) (mvT hZ (hw _ (List.mem_of_getElem? (i := 5) rfl))) (by decide) (backOf (W := 0) (rm1_0 l Z aw hw [] b1 sc df df df df k1 h53 n0 f54 f55 g_b1) hZ (hw _ (List.mem_of_getElem? (i := 5) rfl)) (hw _ (List.mem_of_getElem? (i := 4) rfl)) (by decide) (by decide)) (g := (mkF m 287 #[.val (.int p0), .val (.int p1), .val (.int p2), .val (.int p3), .val (.int p4), .val (.int p5), .val (.int (0 : Int32)), .val (.double d0), .second, .val (.double d1), .second, .val (.double d2), .second, .val (.double df), .second, .val (.double sc), .second, .val (.ref b1), .val (.ref b23)] [(.double sc), (.int (0 : Int32)), (.ref b1)])) rfl (by rw [hml]; rfl) (argsL := [(.ref b1), (.int (0 : Int32)), (.double sc)]) (rest := []) (lenOf pd_1 rfl) rfl (by show 2 * 0 + _ ≤ _; exact Nat.le_of_eq rfl) (hb hby at_287) rfl e53 (by decide) (by decide)
    obtain ⟨rfl, N57q, K57, y57_0⟩ := hQ57
    have f58 : n0 ≤ T57.heap.size := Nat.le_trans f54 K57.1
    have f59 : Arv Z T57.heap b23 k23 .double (4 : Int32) [(.double sc), (.double df), (.double df), (.double df)] (.double (0 : UInt64)) := f56.keep K57 (ninS (Ne.symm ne_b1_b23) nin0)
    have N57 := Fr.app N53 N57q
    refine OwnGo.of st57 ?_
    show OwnGo p.tables e below _ (T57.setTop (mkF m 290 #[.val (.int p0), .val (.int p1), .val (.int p2), .val (.int p3), .val (.int p4), .val (.int p5), .val (.int (0 : Int32)), .val (.double d0), .second, .val (.double d1), .second, .val (.double d2), .second, .val (.double df), .second, .val (.double sc), .second, .val (.ref b1), .val (.ref b23)] []))
    refine OwnGo.of (A := T57.setTop (mkF m 290 #[.val (.int p0), .val (.int p1), .val (.int p2), .val (.int p3), .val (.int p4), .val (.int p5), .val (.int (0 : Int32)), .val (.double d0), .second, .val (.double d1), .second, .val (.double d2), .second, .val (.double df), .second, .val (.double sc), .second, .val (.ref b1), .val (.ref b23)] [])) (B := T57.setTop (mkF m 293 #[.val (.int p0), .val (.int p1), .val (.int p2), .val (.int p3), .val (.int p4), .val (.int p5), .val (.int (0 : Int32)), .val (.double d0), .second, .val (.double d1), .second, .val (.double d2), .second, .val (.double df), .second, .val (.double sc), .second, .val (.ref b1), .val (.ref b23)] [(.int (0 : Int32)), (.ref b1)])) (fun t k => ?_) ?_
    · show Steps p.tables e below (T57.setTop (mkF m 290 #[.val (.int p0), .val (.int p1), .val (.int p2), .val (.int p3), .val (.int p4), .val (.int p5), .val (.int (0 : Int32)), .val (.double d0), .second, .val (.double d1), .second, .val (.double d2), .second, .val (.double df), .second, .val (.double sc), .second, .val (.ref b1), .val (.ref b23)] [])) t
      refine XS.aload X57.here hx rfl (hb hby at_290) rfl rfl ?_
      show Steps p.tables e below (T57.setTop (mkF m 292 #[.val (.int p0), .val (.int p1), .val (.int p2), .val (.int p3), .val (.int p4), .val (.int p5), .val (.int (0 : Int32)), .val (.double d0), .second, .val (.double d1), .second, .val (.double d2), .second, .val (.double df), .second, .val (.double sc), .second, .val (.ref b1), .val (.ref b23)] [(.ref b1)])) t
      refine XS.iconst X57.here hx rfl (hb hby at_292) ?_
      exact k
    have cq60 := y57_0
    obtain ⟨clq60, Arq60, qq60, Sq60, Nq60, Hq60, Gq60⟩ := cq60
    have hinq60 := inb_of (j := (0 : Int32)) Sq60 ⟨by decide, by decide⟩
    refine OwnGo.of (X57.daload hx (j := (0 : Int32)) (v := (.double sc)) Arq60.1 (State.isArrayOf_alike hZ.alike Arq60.2.1) Arq60.2.2 hinq60 (Hq60.at hinq60 rfl) (g := (mkF m 293 #[.val (.int p0), .val (.int p1), .val (.int p2), .val (.int p3), .val (.int p4), .val (.int p5), .val (.int (0 : Int32)), .val (.double d0), .second, .val (.double d1), .second, .val (.double d2), .second, .val (.double df), .second, .val (.double sc), .second, .val (.ref b1), .val (.ref b23)] [(.int (0 : Int32)), (.ref b1)])) rfl rfl (hb hby at_293)) ?_
    show OwnGo p.tables e below _ (T57.setTop (mkF m 294 #[.val (.int p0), .val (.int p1), .val (.int p2), .val (.int p3), .val (.int p4), .val (.int p5), .val (.int (0 : Int32)), .val (.double d0), .second, .val (.double d1), .second, .val (.double d2), .second, .val (.double df), .second, .val (.double sc), .second, .val (.ref b1), .val (.ref b23)] [(.double sc)]))
    refine OwnGo.of (A := T57.setTop (mkF m 294 #[.val (.int p0), .val (.int p1), .val (.int p2), .val (.int p3), .val (.int p4), .val (.int p5), .val (.int (0 : Int32)), .val (.double d0), .second, .val (.double d1), .second, .val (.double d2), .second, .val (.double df), .second, .val (.double sc), .second, .val (.ref b1), .val (.ref b23)] [(.double sc)])) (B := T57.setTop (mkF m 297 #[.val (.int p0), .val (.int p1), .val (.int p2), .val (.int p3), .val (.int p4), .val (.int p5), .val (.int (0 : Int32)), .val (.double d0), .second, .val (.double d1), .second, .val (.double d2), .second, .val (.double df), .second, .val (.double sc), .second, .val (.ref b1), .val (.ref b23)] [(.int (0 : Int32)), (.ref b23), (.double sc)])) (fun t k => ?_) ?_
    · show Steps p.tables e below (T57.setTop (mkF m 294 #[.val (.int p0), .val (.int p1), .val (.int p2), .val (.int p3), .val (.int p4), .val (.int p5), .val (.int (0 : Int32)), .val (.double d0), .second, .val (.double d1), .second, .val (.double d2), .second, .val (.double df), .second, .val (.double sc), .second, .val (.ref b1), .val (.ref b23)] [(.double sc)])) t
      refine XS.aload X57.here hx rfl (hb hby at_294) rfl rfl ?_
      show Steps p.tables e below (T57.setTop (mkF m 296 #[.val (.int p0), .val (.int p1), .val (.int p2), .val (.int p3), .val (.int p4), .val (.int p5), .val (.int (0 : Int32)), .val (.double d0), .second, .val (.double d1), .second, .val (.double d2), .second, .val (.double df), .second, .val (.double sc), .second, .val (.ref b1), .val (.ref b23)] [(.ref b23), (.double sc)])) t
      refine XS.iconst X57.here hx rfl (hb hby at_296) ?_
      exact k
    have cq61 := f59
    obtain ⟨clq61, Arq61, qq61, Sq61, Nq61, Hq61, Gq61⟩ := cq61
    have hinq61 := inb_of (j := (0 : Int32)) Sq61 ⟨by decide, by decide⟩
    refine OwnGo.of (X57.daload hx (j := (0 : Int32)) (v := (.double sc)) Arq61.1 (State.isArrayOf_alike hZ.alike Arq61.2.1) Arq61.2.2 hinq61 (Hq61.at hinq61 rfl) (g := (mkF m 297 #[.val (.int p0), .val (.int p1), .val (.int p2), .val (.int p3), .val (.int p4), .val (.int p5), .val (.int (0 : Int32)), .val (.double d0), .second, .val (.double d1), .second, .val (.double d2), .second, .val (.double df), .second, .val (.double sc), .second, .val (.ref b1), .val (.ref b23)] [(.int (0 : Int32)), (.ref b23), (.double sc)])) rfl rfl (hb hby at_297)) ?_
    show OwnGo p.tables e below _ (T57.setTop (mkF m 298 #[.val (.int p0), .val (.int p1), .val (.int p2), .val (.int p3), .val (.int p4), .val (.int p5), .val (.int (0 : Int32)), .val (.double d0), .second, .val (.double d1), .second, .val (.double d2), .second, .val (.double df), .second, .val (.double sc), .second, .val (.ref b1), .val (.ref b23)] [(.double sc), (.double sc)]))
    refine OwnGo.of (A := T57.setTop (mkF m 298 #[.val (.int p0), .val (.int p1), .val (.int p2), .val (.int p3), .val (.int p4), .val (.int p5), .val (.int (0 : Int32)), .val (.double d0), .second, .val (.double d1), .second, .val (.double d2), .second, .val (.double df), .second, .val (.double sc), .second, .val (.ref b1), .val (.ref b23)] [(.double sc), (.double sc)])) (B := T57.setTop (mkF m 299 #[.val (.int p0), .val (.int p1), .val (.int p2), .val (.int p3), .val (.int p4), .val (.int p5), .val (.int (0 : Int32)), .val (.double d0), .second, .val (.double d1), .second, .val (.double d2), .second, .val (.double df), .second, .val (.double sc), .second, .val (.ref b1), .val (.ref b23)] [(.int (cmpValue (FP.dcmp sc sc) .l))])) (fun t k => ?_) ?_
    · show Steps p.tables e below (T57.setTop (mkF m 298 #[.val (.int p0), .val (.int p1), .val (.int p2), .val (.int p3), .val (.int p4), .val (.int p5), .val (.int (0 : Int32)), .val (.double d0), .second, .val (.double d1), .second, .val (.double d2), .second, .val (.double df), .second, .val (.double sc), .second, .val (.ref b1), .val (.ref b23)] [(.double sc), (.double sc)])) t
      refine XS.dcmpS X57.here hx rfl (hb hby at_298) rfl rfl ?_
      exact k
    have hc62 : (cmpValue (FP.dcmp sc sc) .l) = (0 : Int32) := dcmpV_self nsc .l
    refine OwnGo.of (A := T57.setTop (mkF m 299 #[.val (.int p0), .val (.int p1), .val (.int p2), .val (.int p3), .val (.int p4), .val (.int p5), .val (.int (0 : Int32)), .val (.double d0), .second, .val (.double d1), .second, .val (.double d2), .second, .val (.double df), .second, .val (.double sc), .second, .val (.ref b1), .val (.ref b23)] [(.int (cmpValue (FP.dcmp sc sc) .l))])) (B := T57.setTop (mkF m 305 #[.val (.int p0), .val (.int p1), .val (.int p2), .val (.int p3), .val (.int p4), .val (.int p5), .val (.int (0 : Int32)), .val (.double d0), .second, .val (.double d1), .second, .val (.double d2), .second, .val (.double df), .second, .val (.double sc), .second, .val (.ref b1), .val (.ref b23)] [(.int (1 : Int32)), (.ref b1)])) (fun t k => ?_) ?_
    · show Steps p.tables e below (T57.setTop (mkF m 299 #[.val (.int p0), .val (.int p1), .val (.int p2), .val (.int p3), .val (.int p4), .val (.int p5), .val (.int (0 : Int32)), .val (.double d0), .second, .val (.double d1), .second, .val (.double d2), .second, .val (.double df), .second, .val (.double sc), .second, .val (.ref b1), .val (.ref b23)] [(.int (cmpValue (FP.dcmp sc sc) .l))])) t
      refine XS.ifNo X57.here hx rfl (hb hby at_299) rfl ((if0 _ _).trans (teq hc62).2) ?_
      show Steps p.tables e below (T57.setTop (mkF m 302 #[.val (.int p0), .val (.int p1), .val (.int p2), .val (.int p3), .val (.int p4), .val (.int p5), .val (.int (0 : Int32)), .val (.double d0), .second, .val (.double d1), .second, .val (.double d2), .second, .val (.double df), .second, .val (.double sc), .second, .val (.ref b1), .val (.ref b23)] [])) t
      refine XS.aload X57.here hx rfl (hb hby at_302) rfl rfl ?_
      show Steps p.tables e below (T57.setTop (mkF m 304 #[.val (.int p0), .val (.int p1), .val (.int p2), .val (.int p3), .val (.int p4), .val (.int p5), .val (.int (0 : Int32)), .val (.double d0), .second, .val (.double d1), .second, .val (.double d2), .second, .val (.double df), .second, .val (.double sc), .second, .val (.ref b1), .val (.ref b23)] [(.ref b1)])) t
      refine XS.iconst X57.here hx rfl (hb hby at_304) ?_
      exact k
    have cq63 := y57_0
    obtain ⟨clq63, Arq63, qq63, Sq63, Nq63, Hq63, Gq63⟩ := cq63
    have hinq63 := inb_of (j := (1 : Int32)) Sq63 ⟨by decide, by decide⟩
    refine OwnGo.of (X57.daload hx (j := (1 : Int32)) (v := (.double df)) Arq63.1 (State.isArrayOf_alike hZ.alike Arq63.2.1) Arq63.2.2 hinq63 (Hq63.at hinq63 rfl) (g := (mkF m 305 #[.val (.int p0), .val (.int p1), .val (.int p2), .val (.int p3), .val (.int p4), .val (.int p5), .val (.int (0 : Int32)), .val (.double d0), .second, .val (.double d1), .second, .val (.double d2), .second, .val (.double df), .second, .val (.double sc), .second, .val (.ref b1), .val (.ref b23)] [(.int (1 : Int32)), (.ref b1)])) rfl rfl (hb hby at_305)) ?_
    show OwnGo p.tables e below _ (T57.setTop (mkF m 306 #[.val (.int p0), .val (.int p1), .val (.int p2), .val (.int p3), .val (.int p4), .val (.int p5), .val (.int (0 : Int32)), .val (.double d0), .second, .val (.double d1), .second, .val (.double d2), .second, .val (.double df), .second, .val (.double sc), .second, .val (.ref b1), .val (.ref b23)] [(.double df)]))
    refine OwnGo.of (A := T57.setTop (mkF m 306 #[.val (.int p0), .val (.int p1), .val (.int p2), .val (.int p3), .val (.int p4), .val (.int p5), .val (.int (0 : Int32)), .val (.double d0), .second, .val (.double d1), .second, .val (.double d2), .second, .val (.double df), .second, .val (.double sc), .second, .val (.ref b1), .val (.ref b23)] [(.double df)])) (B := T57.setTop (mkF m 309 #[.val (.int p0), .val (.int p1), .val (.int p2), .val (.int p3), .val (.int p4), .val (.int p5), .val (.int (0 : Int32)), .val (.double d0), .second, .val (.double d1), .second, .val (.double d2), .second, .val (.double df), .second, .val (.double sc), .second, .val (.ref b1), .val (.ref b23)] [(.int (1 : Int32)), (.ref b23), (.double df)])) (fun t k => ?_) ?_
    · show Steps p.tables e below (T57.setTop (mkF m 306 #[.val (.int p0), .val (.int p1), .val (.int p2), .val (.int p3), .val (.int p4), .val (.int p5), .val (.int (0 : Int32)), .val (.double d0), .second, .val (.double d1), .second, .val (.double d2), .second, .val (.double df), .second, .val (.double sc), .second, .val (.ref b1), .val (.ref b23)] [(.double df)])) t
      refine XS.aload X57.here hx rfl (hb hby at_306) rfl rfl ?_
      show Steps p.tables e below (T57.setTop (mkF m 308 #[.val (.int p0), .val (.int p1), .val (.int p2), .val (.int p3), .val (.int p4), .val (.int p5), .val (.int (0 : Int32)), .val (.double d0), .second, .val (.double d1), .second, .val (.double d2), .second, .val (.double df), .second, .val (.double sc), .second, .val (.ref b1), .val (.ref b23)] [(.ref b23), (.double df)])) t
      refine XS.iconst X57.here hx rfl (hb hby at_308) ?_
      exact k
    have cq64 := f59
    obtain ⟨clq64, Arq64, qq64, Sq64, Nq64, Hq64, Gq64⟩ := cq64
    have hinq64 := inb_of (j := (1 : Int32)) Sq64 ⟨by decide, by decide⟩
    refine OwnGo.of (X57.daload hx (j := (1 : Int32)) (v := (.double df)) Arq64.1 (State.isArrayOf_alike hZ.alike Arq64.2.1) Arq64.2.2 hinq64 (Hq64.at hinq64 rfl) (g := (mkF m 309 #[.val (.int p0), .val (.int p1), .val (.int p2), .val (.int p3), .val (.int p4), .val (.int p5), .val (.int (0 : Int32)), .val (.double d0), .second, .val (.double d1), .second, .val (.double d2), .second, .val (.double df), .second, .val (.double sc), .second, .val (.ref b1), .val (.ref b23)] [(.int (1 : Int32)), (.ref b23), (.double df)])) rfl rfl (hb hby at_309)) ?_
    show OwnGo p.tables e below _ (T57.setTop (mkF m 310 #[.val (.int p0), .val (.int p1), .val (.int p2), .val (.int p3), .val (.int p4), .val (.int p5), .val (.int (0 : Int32)), .val (.double d0), .second, .val (.double d1), .second, .val (.double d2), .second, .val (.double df), .second, .val (.double sc), .second, .val (.ref b1), .val (.ref b23)] [(.double df), (.double df)]))
    refine OwnGo.of (A := T57.setTop (mkF m 310 #[.val (.int p0), .val (.int p1), .val (.int p2), .val (.int p3), .val (.int p4), .val (.int p5), .val (.int (0 : Int32)), .val (.double d0), .second, .val (.double d1), .second, .val (.double d2), .second, .val (.double df), .second, .val (.double sc), .second, .val (.ref b1), .val (.ref b23)] [(.double df), (.double df)])) (B := T57.setTop (mkF m 311 #[.val (.int p0), .val (.int p1), .val (.int p2), .val (.int p3), .val (.int p4), .val (.int p5), .val (.int (0 : Int32)), .val (.double d0), .second, .val (.double d1), .second, .val (.double d2), .second, .val (.double df), .second, .val (.double sc), .second, .val (.ref b1), .val (.ref b23)] [(.int (cmpValue (FP.dcmp df df) .l))])) (fun t k => ?_) ?_
    · show Steps p.tables e below (T57.setTop (mkF m 310 #[.val (.int p0), .val (.int p1), .val (.int p2), .val (.int p3), .val (.int p4), .val (.int p5), .val (.int (0 : Int32)), .val (.double d0), .second, .val (.double d1), .second, .val (.double d2), .second, .val (.double df), .second, .val (.double sc), .second, .val (.ref b1), .val (.ref b23)] [(.double df), (.double df)])) t
      refine XS.dcmpS X57.here hx rfl (hb hby at_310) rfl rfl ?_
      exact k
    have hc65 : (cmpValue (FP.dcmp df df) .l) = (0 : Int32) := dcmpV_self ndf .l
    refine OwnGo.of (A := T57.setTop (mkF m 311 #[.val (.int p0), .val (.int p1), .val (.int p2), .val (.int p3), .val (.int p4), .val (.int p5), .val (.int (0 : Int32)), .val (.double d0), .second, .val (.double d1), .second, .val (.double d2), .second, .val (.double df), .second, .val (.double sc), .second, .val (.ref b1), .val (.ref b23)] [(.int (cmpValue (FP.dcmp df df) .l))])) (B := T57.setTop (mkF m 317 #[.val (.int p0), .val (.int p1), .val (.int p2), .val (.int p3), .val (.int p4), .val (.int p5), .val (.int (0 : Int32)), .val (.double d0), .second, .val (.double d1), .second, .val (.double d2), .second, .val (.double df), .second, .val (.double sc), .second, .val (.ref b1), .val (.ref b23)] [(.int (2 : Int32)), (.ref b1)])) (fun t k => ?_) ?_
    · show Steps p.tables e below (T57.setTop (mkF m 311 #[.val (.int p0), .val (.int p1), .val (.int p2), .val (.int p3), .val (.int p4), .val (.int p5), .val (.int (0 : Int32)), .val (.double d0), .second, .val (.double d1), .second, .val (.double d2), .second, .val (.double df), .second, .val (.double sc), .second, .val (.ref b1), .val (.ref b23)] [(.int (cmpValue (FP.dcmp df df) .l))])) t
      refine XS.ifNo X57.here hx rfl (hb hby at_311) rfl ((if0 _ _).trans (teq hc65).2) ?_
      show Steps p.tables e below (T57.setTop (mkF m 314 #[.val (.int p0), .val (.int p1), .val (.int p2), .val (.int p3), .val (.int p4), .val (.int p5), .val (.int (0 : Int32)), .val (.double d0), .second, .val (.double d1), .second, .val (.double d2), .second, .val (.double df), .second, .val (.double sc), .second, .val (.ref b1), .val (.ref b23)] [])) t
      refine XS.aload X57.here hx rfl (hb hby at_314) rfl rfl ?_
      show Steps p.tables e below (T57.setTop (mkF m 316 #[.val (.int p0), .val (.int p1), .val (.int p2), .val (.int p3), .val (.int p4), .val (.int p5), .val (.int (0 : Int32)), .val (.double d0), .second, .val (.double d1), .second, .val (.double d2), .second, .val (.double df), .second, .val (.double sc), .second, .val (.ref b1), .val (.ref b23)] [(.ref b1)])) t
      refine XS.iconst X57.here hx rfl (hb hby at_316) ?_
      exact k
    have cq66 := y57_0
    obtain ⟨clq66, Arq66, qq66, Sq66, Nq66, Hq66, Gq66⟩ := cq66
    have hinq66 := inb_of (j := (2 : Int32)) Sq66 ⟨by decide, by decide⟩
    refine OwnGo.of (X57.daload hx (j := (2 : Int32)) (v := (.double df)) Arq66.1 (State.isArrayOf_alike hZ.alike Arq66.2.1) Arq66.2.2 hinq66 (Hq66.at hinq66 rfl) (g := (mkF m 317 #[.val (.int p0), .val (.int p1), .val (.int p2), .val (.int p3), .val (.int p4), .val (.int p5), .val (.int (0 : Int32)), .val (.double d0), .second, .val (.double d1), .second, .val (.double d2), .second, .val (.double df), .second, .val (.double sc), .second, .val (.ref b1), .val (.ref b23)] [(.int (2 : Int32)), (.ref b1)])) rfl rfl (hb hby at_317)) ?_
    show OwnGo p.tables e below _ (T57.setTop (mkF m 318 #[.val (.int p0), .val (.int p1), .val (.int p2), .val (.int p3), .val (.int p4), .val (.int p5), .val (.int (0 : Int32)), .val (.double d0), .second, .val (.double d1), .second, .val (.double d2), .second, .val (.double df), .second, .val (.double sc), .second, .val (.ref b1), .val (.ref b23)] [(.double df)]))
    refine OwnGo.of (A := T57.setTop (mkF m 318 #[.val (.int p0), .val (.int p1), .val (.int p2), .val (.int p3), .val (.int p4), .val (.int p5), .val (.int (0 : Int32)), .val (.double d0), .second, .val (.double d1), .second, .val (.double d2), .second, .val (.double df), .second, .val (.double sc), .second, .val (.ref b1), .val (.ref b23)] [(.double df)])) (B := T57.setTop (mkF m 321 #[.val (.int p0), .val (.int p1), .val (.int p2), .val (.int p3), .val (.int p4), .val (.int p5), .val (.int (0 : Int32)), .val (.double d0), .second, .val (.double d1), .second, .val (.double d2), .second, .val (.double df), .second, .val (.double sc), .second, .val (.ref b1), .val (.ref b23)] [(.int (2 : Int32)), (.ref b23), (.double df)])) (fun t k => ?_) ?_
    · show Steps p.tables e below (T57.setTop (mkF m 318 #[.val (.int p0), .val (.int p1), .val (.int p2), .val (.int p3), .val (.int p4), .val (.int p5), .val (.int (0 : Int32)), .val (.double d0), .second, .val (.double d1), .second, .val (.double d2), .second, .val (.double df), .second, .val (.double sc), .second, .val (.ref b1), .val (.ref b23)] [(.double df)])) t
      refine XS.aload X57.here hx rfl (hb hby at_318) rfl rfl ?_
      show Steps p.tables e below (T57.setTop (mkF m 320 #[.val (.int p0), .val (.int p1), .val (.int p2), .val (.int p3), .val (.int p4), .val (.int p5), .val (.int (0 : Int32)), .val (.double d0), .second, .val (.double d1), .second, .val (.double d2), .second, .val (.double df), .second, .val (.double sc), .second, .val (.ref b1), .val (.ref b23)] [(.ref b23), (.double df)])) t
      refine XS.iconst X57.here hx rfl (hb hby at_320) ?_
      exact k
    have cq67 := f59
    obtain ⟨clq67, Arq67, qq67, Sq67, Nq67, Hq67, Gq67⟩ := cq67
    have hinq67 := inb_of (j := (2 : Int32)) Sq67 ⟨by decide, by decide⟩
    refine OwnGo.of (X57.daload hx (j := (2 : Int32)) (v := (.double df)) Arq67.1 (State.isArrayOf_alike hZ.alike Arq67.2.1) Arq67.2.2 hinq67 (Hq67.at hinq67 rfl) (g := (mkF m 321 #[.val (.int p0), .val (.int p1), .val (.int p2), .val (.int p3), .val (.int p4), .val (.int p5), .val (.int (0 : Int32)), .val (.double d0), .second, .val (.double d1), .second, .val (.double d2), .second, .val (.double df), .second, .val (.double sc), .second, .val (.ref b1), .val (.ref b23)] [(.int (2 : Int32)), (.ref b23), (.double df)])) rfl rfl (hb hby at_321)) ?_
    show OwnGo p.tables e below _ (T57.setTop (mkF m 322 #[.val (.int p0), .val (.int p1), .val (.int p2), .val (.int p3), .val (.int p4), .val (.int p5), .val (.int (0 : Int32)), .val (.double d0), .second, .val (.double d1), .second, .val (.double d2), .second, .val (.double df), .second, .val (.double sc), .second, .val (.ref b1), .val (.ref b23)] [(.double df), (.double df)]))
    refine OwnGo.of (A := T57.setTop (mkF m 322 #[.val (.int p0), .val (.int p1), .val (.int p2), .val (.int p3), .val (.int p4), .val (.int p5), .val (.int (0 : Int32)), .val (.double d0), .second, .val (.double d1), .second, .val (.double d2), .second, .val (.double df), .second, .val (.double sc), .second, .val (.ref b1), .val (.ref b23)] [(.double df), (.double df)])) (B := T57.setTop (mkF m 323 #[.val (.int p0), .val (.int p1), .val (.int p2), .val (.int p3), .val (.int p4), .val (.int p5), .val (.int (0 : Int32)), .val (.double d0), .second, .val (.double d1), .second, .val (.double d2), .second, .val (.double df), .second, .val (.double sc), .second, .val (.ref b1), .val (.ref b23)] [(.int (cmpValue (FP.dcmp df df) .l))])) (fun t k => ?_) ?_
    · show Steps p.tables e below (T57.setTop (mkF m 322 #[.val (.int p0), .val (.int p1), .val (.int p2), .val (.int p3), .val (.int p4), .val (.int p5), .val (.int (0 : Int32)), .val (.double d0), .second, .val (.double d1), .second, .val (.double d2), .second, .val (.double df), .second, .val (.double sc), .second, .val (.ref b1), .val (.ref b23)] [(.double df), (.double df)])) t
      refine XS.dcmpS X57.here hx rfl (hb hby at_322) rfl rfl ?_
      exact k
    have hc68 : (cmpValue (FP.dcmp df df) .l) = (0 : Int32) := dcmpV_self ndf .l
    refine OwnGo.of (A := T57.setTop (mkF m 323 #[.val (.int p0), .val (.int p1), .val (.int p2), .val (.int p3), .val (.int p4), .val (.int p5), .val (.int (0 : Int32)), .val (.double d0), .second, .val (.double d1), .second, .val (.double d2), .second, .val (.double df), .second, .val (.double sc), .second, .val (.ref b1), .val (.ref b23)] [(.int (cmpValue (FP.dcmp df df) .l))])) (B := T57.setTop (mkF m 329 #[.val (.int p0), .val (.int p1), .val (.int p2), .val (.int p3), .val (.int p4), .val (.int p5), .val (.int (0 : Int32)), .val (.double d0), .second, .val (.double d1), .second, .val (.double d2), .second, .val (.double df), .second, .val (.double sc), .second, .val (.ref b1), .val (.ref b23)] [(.int (3 : Int32)), (.ref b1)])) (fun t k => ?_) ?_
    · show Steps p.tables e below (T57.setTop (mkF m 323 #[.val (.int p0), .val (.int p1), .val (.int p2), .val (.int p3), .val (.int p4), .val (.int p5), .val (.int (0 : Int32)), .val (.double d0), .second, .val (.double d1), .second, .val (.double d2), .second, .val (.double df), .second, .val (.double sc), .second, .val (.ref b1), .val (.ref b23)] [(.int (cmpValue (FP.dcmp df df) .l))])) t
      refine XS.ifNo X57.here hx rfl (hb hby at_323) rfl ((if0 _ _).trans (teq hc68).2) ?_
      show Steps p.tables e below (T57.setTop (mkF m 326 #[.val (.int p0), .val (.int p1), .val (.int p2), .val (.int p3), .val (.int p4), .val (.int p5), .val (.int (0 : Int32)), .val (.double d0), .second, .val (.double d1), .second, .val (.double d2), .second, .val (.double df), .second, .val (.double sc), .second, .val (.ref b1), .val (.ref b23)] [])) t
      refine XS.aload X57.here hx rfl (hb hby at_326) rfl rfl ?_
      show Steps p.tables e below (T57.setTop (mkF m 328 #[.val (.int p0), .val (.int p1), .val (.int p2), .val (.int p3), .val (.int p4), .val (.int p5), .val (.int (0 : Int32)), .val (.double d0), .second, .val (.double d1), .second, .val (.double d2), .second, .val (.double df), .second, .val (.double sc), .second, .val (.ref b1), .val (.ref b23)] [(.ref b1)])) t
      refine XS.iconst X57.here hx rfl (hb hby at_328) ?_
      exact k
    have cq69 := y57_0
    obtain ⟨clq69, Arq69, qq69, Sq69, Nq69, Hq69, Gq69⟩ := cq69
    have hinq69 := inb_of (j := (3 : Int32)) Sq69 ⟨by decide, by decide⟩
    refine OwnGo.of (X57.daload hx (j := (3 : Int32)) (v := (.double df)) Arq69.1 (State.isArrayOf_alike hZ.alike Arq69.2.1) Arq69.2.2 hinq69 (Hq69.at hinq69 rfl) (g := (mkF m 329 #[.val (.int p0), .val (.int p1), .val (.int p2), .val (.int p3), .val (.int p4), .val (.int p5), .val (.int (0 : Int32)), .val (.double d0), .second, .val (.double d1), .second, .val (.double d2), .second, .val (.double df), .second, .val (.double sc), .second, .val (.ref b1), .val (.ref b23)] [(.int (3 : Int32)), (.ref b1)])) rfl rfl (hb hby at_329)) ?_
    show OwnGo p.tables e below _ (T57.setTop (mkF m 330 #[.val (.int p0), .val (.int p1), .val (.int p2), .val (.int p3), .val (.int p4), .val (.int p5), .val (.int (0 : Int32)), .val (.double d0), .second, .val (.double d1), .second, .val (.double d2), .second, .val (.double df), .second, .val (.double sc), .second, .val (.ref b1), .val (.ref b23)] [(.double df)]))
    refine OwnGo.of (A := T57.setTop (mkF m 330 #[.val (.int p0), .val (.int p1), .val (.int p2), .val (.int p3), .val (.int p4), .val (.int p5), .val (.int (0 : Int32)), .val (.double d0), .second, .val (.double d1), .second, .val (.double d2), .second, .val (.double df), .second, .val (.double sc), .second, .val (.ref b1), .val (.ref b23)] [(.double df)])) (B := T57.setTop (mkF m 333 #[.val (.int p0), .val (.int p1), .val (.int p2), .val (.int p3), .val (.int p4), .val (.int p5), .val (.int (0 : Int32)), .val (.double d0), .second, .val (.double d1), .second, .val (.double d2), .second, .val (.double df), .second, .val (.double sc), .second, .val (.ref b1), .val (.ref b23)] [(.int (3 : Int32)), (.ref b23), (.double df)])) (fun t k => ?_) ?_
    · show Steps p.tables e below (T57.setTop (mkF m 330 #[.val (.int p0), .val (.int p1), .val (.int p2), .val (.int p3), .val (.int p4), .val (.int p5), .val (.int (0 : Int32)), .val (.double d0), .second, .val (.double d1), .second, .val (.double d2), .second, .val (.double df), .second, .val (.double sc), .second, .val (.ref b1), .val (.ref b23)] [(.double df)])) t
      refine XS.aload X57.here hx rfl (hb hby at_330) rfl rfl ?_
      show Steps p.tables e below (T57.setTop (mkF m 332 #[.val (.int p0), .val (.int p1), .val (.int p2), .val (.int p3), .val (.int p4), .val (.int p5), .val (.int (0 : Int32)), .val (.double d0), .second, .val (.double d1), .second, .val (.double d2), .second, .val (.double df), .second, .val (.double sc), .second, .val (.ref b1), .val (.ref b23)] [(.ref b23), (.double df)])) t
      refine XS.iconst X57.here hx rfl (hb hby at_332) ?_
      exact k
    have cq70 := f59
    obtain ⟨clq70, Arq70, qq70, Sq70, Nq70, Hq70, Gq70⟩ := cq70
    have hinq70 := inb_of (j := (3 : Int32)) Sq70 ⟨by decide, by decide⟩
    refine OwnGo.of (X57.daload hx (j := (3 : Int32)) (v := (.double df)) Arq70.1 (State.isArrayOf_alike hZ.alike Arq70.2.1) Arq70.2.2 hinq70 (Hq70.at hinq70 rfl) (g := (mkF m 333 #[.val (.int p0), .val (.int p1), .val (.int p2), .val (.int p3), .val (.int p4), .val (.int p5), .val (.int (0 : Int32)), .val (.double d0), .second, .val (.double d1), .second, .val (.double d2), .second, .val (.double df), .second, .val (.double sc), .second, .val (.ref b1), .val (.ref b23)] [(.int (3 : Int32)), (.ref b23), (.double df)])) rfl rfl (hb hby at_333)) ?_
    show OwnGo p.tables e below _ (T57.setTop (mkF m 334 #[.val (.int p0), .val (.int p1), .val (.int p2), .val (.int p3), .val (.int p4), .val (.int p5), .val (.int (0 : Int32)), .val (.double d0), .second, .val (.double d1), .second, .val (.double d2), .second, .val (.double df), .second, .val (.double sc), .second, .val (.ref b1), .val (.ref b23)] [(.double df), (.double df)]))
    refine OwnGo.of (A := T57.setTop (mkF m 334 #[.val (.int p0), .val (.int p1), .val (.int p2), .val (.int p3), .val (.int p4), .val (.int p5), .val (.int (0 : Int32)), .val (.double d0), .second, .val (.double d1), .second, .val (.double d2), .second, .val (.double df), .second, .val (.double sc), .second, .val (.ref b1), .val (.ref b23)] [(.double df), (.double df)])) (B := T57.setTop (mkF m 335 #[.val (.int p0), .val (.int p1), .val (.int p2), .val (.int p3), .val (.int p4), .val (.int p5), .val (.int (0 : Int32)), .val (.double d0), .second, .val (.double d1), .second, .val (.double d2), .second, .val (.double df), .second, .val (.double sc), .second, .val (.ref b1), .val (.ref b23)] [(.int (cmpValue (FP.dcmp df df) .l))])) (fun t k => ?_) ?_
    · show Steps p.tables e below (T57.setTop (mkF m 334 #[.val (.int p0), .val (.int p1), .val (.int p2), .val (.int p3), .val (.int p4), .val (.int p5), .val (.int (0 : Int32)), .val (.double d0), .second, .val (.double d1), .second, .val (.double d2), .second, .val (.double df), .second, .val (.double sc), .second, .val (.ref b1), .val (.ref b23)] [(.double df), (.double df)])) t
      refine XS.dcmpS X57.here hx rfl (hb hby at_334) rfl rfl ?_
      exact k
    have hc71 : (cmpValue (FP.dcmp df df) .l) = (0 : Int32) := dcmpV_self ndf .l
    refine OwnGo.of (A := T57.setTop (mkF m 335 #[.val (.int p0), .val (.int p1), .val (.int p2), .val (.int p3), .val (.int p4), .val (.int p5), .val (.int (0 : Int32)), .val (.double d0), .second, .val (.double d1), .second, .val (.double d2), .second, .val (.double df), .second, .val (.double sc), .second, .val (.ref b1), .val (.ref b23)] [(.int (cmpValue (FP.dcmp df df) .l))])) (B := T57.setTop (mkF m 343 #[.val (.int p0), .val (.int p1), .val (.int p2), .val (.int p3), .val (.int p4), .val (.int p5), .val (.int (0 : Int32)), .val (.double d0), .second, .val (.double d1), .second, .val (.double d2), .second, .val (.double df), .second, .val (.double sc), .second, .val (.ref b1), .val (.ref b23)] [(.int (1 : Int32))])) (fun t k => ?_) ?_
    · show Steps p.tables e below (T57.setTop (mkF m 335 #[.val (.int p0), .val (.int p1), .val (.int p2), .val (.int p3), .val (.int p4), .val (.int p5), .val (.int (0 : Int32)), .val (.double d0), .second, .val (.double d1), .second, .val (.double d2), .second, .val (.double df), .second, .val (.double sc), .second, .val (.ref b1), .val (.ref b23)] [(.int (cmpValue (FP.dcmp df df) .l))])) t
      refine XS.ifNo X57.here hx rfl (hb hby at_335) rfl ((if0 _ _).trans (teq hc71).2) ?_
      show Steps p.tables e below (T57.setTop (mkF m 338 #[.val (.int p0), .val (.int p1), .val (.int p2), .val (.int p3), .val (.int p4), .val (.int p5), .val (.int (0 : Int32)), .val (.double d0), .second, .val (.double d1), .second, .val (.double d2), .second, .val (.double df), .second, .val (.double sc), .second, .val (.ref b1), .val (.ref b23)] [])) t
      refine XS.iconst X57.here hx rfl (hb hby at_338) ?_
      show Steps p.tables e below (T57.setTop (mkF m 339 #[.val (.int p0), .val (.int p1), .val (.int p2), .val (.int p3), .val (.int p4), .val (.int p5), .val (.int (0 : Int32)), .val (.double d0), .second, .val (.double d1), .second, .val (.double d2), .second, .val (.double df), .second, .val (.double sc), .second, .val (.ref b1), .val (.ref b23)] [(.int (1 : Int32))])) t
      refine XS.goto X57.here hx rfl (pc0 := 339) (pc' := 343) rfl (hb hby at_339) (by decide) (by decide) ?_
      exact k
    obtain ⟨fs, hr, hrun, hended, hW, hsame⟩ := X57.leave (v := some (.int (nar .boolean (1 : Int32)))) (fun h => by rw [Bd.returns] at h; cases h) hlk
    refine ⟨_, _, ?_, hrun, hended, _, _, rfl, ?_, ⟨_, rfl⟩, hW, hsame.mono (by decide) (by decide)⟩
    · show Steps p.tables e below (T57.setTop (mkF m 343 #[.val (.int p0), .val (.int p1), .val (.int p2), .val (.int p3), .val (.int p4), .val (.int p5), .val (.int (0 : Int32)), .val (.double d0), .second, .val (.double d1), .second, .val (.double d2), .second, .val (.double df), .second, .val (.double sc), .second, .val (.ref b1), .val (.ref b23)] [(.int (1 : Int32))])) _
      exact retN X57 hx (t := .boolean) Bd.returns (by simp) (hb hby at_343) hr
    · show Qrm0 Z p0 p1 p2 p3 p4 p5 h0 n0 _ (T57.setFrames fs).heap _
      rw [show (T57.setFrames fs).heap = T57.heap from rfl]
      exact ⟨rfl, N57⟩
  · rw [qa]
    show OwnGo p.tables e below _ (s₁.setTop (mkF m 41 #[.val (.int p0), .val (.int p1), .val (.int p2), .val (.int p3), .val (.int p4), .val (.int p5), .val (.int (1 : Int32)), .val (.double d0), .second, .val (.double d1), .second, .val (.double d2), .second, .val (.double df), .second, .val (.double sc), .second, .unset, .unset] []))
    refine OwnGo.of (A := s₁.setTop (mkF m 41 #[.val (.int p0), .val (.int p1), .val (.int p2), .val (.int p3), .val (.int p4), .val (.int p5), .val (.int (1 : Int32)), .val (.double d0), .second, .val (.double d1), .second, .val (.double d2), .second, .val (.double df), .second, .val (.double sc), .second, .unset, .unset] [])) (B := s₁.setTop (mkF m 42 #[.val (.int p0), .val (.int p1), .val (.int p2), .val (.int p3), .val (.int p4), .val (.int p5), .val (.int (1 : Int32)), .val (.double d0), .second, .val (.double d1), .second, .val (.double d2), .second, .val (.double df), .second, .val (.double sc), .second, .unset, .unset] [(.int (4 : Int32))])) (fun t k => ?_) ?_
    · show Steps p.tables e below (s₁.setTop (mkF m 41 #[.val (.int p0), .val (.int p1), .val (.int p2), .val (.int p3), .val (.int p4), .val (.int p5), .val (.int (1 : Int32)), .val (.double d0), .second, .val (.double d1), .second, .val (.double d2), .second, .val (.double df), .second, .val (.double sc), .second, .unset, .unset] [])) t
      refine XS.iconst X0.here hx rfl (hb hby at_41) ?_
      exact k
    obtain ⟨T73, h73, k73, X73, e73, E73, A73, st73⟩ := newP X0 hx hZ (hw _ (List.mem_of_getElem? (i := 1) rfl)) e0 (g := (mkF m 42 #[.val (.int p0), .val (.int p1), .val (.int p2), .val (.int p3), .val (.int p4), .val (.int p5), .val (.int (1 : Int32)), .val (.double d0), .second, .val (.double d1), .second, .val (.double d2), .second, .val (.double df), .second, .val (.double sc), .second, .unset, .unset] [(.int (4 : Int32))])) rfl (hb hby at_42) rfl (by decide) (cap := 4) (by decide) (by decide) (by decide) (by decide)
    obtain ⟨b73, g73⟩ : ∃ z, z = h0.size := ⟨_, rfl⟩
    rw [← g73] at A73 st73
    refine OwnGo.of st73 ?_
    have g_b73 : n0 ≤ b73 := Nat.le_trans Z0 (Nat.le_of_eq g73.symm)
    have f74 : n0 ≤ h73.size := Nat.le_trans Z0 E73.1
    have f75 : Arv Z h73 b73 k73 .double (4 : Int32) [(.double (0 : UInt64)), (.double (0 : UInt64)), (.double (0 : UInt64)), (.double (0 : UInt64))] (.double (0 : UInt64)) := (Arv.new A73 (by decide)).pad (pad_rep [] (.double (0 : UInt64)) 4)
    show OwnGo p.tables e below _ (T73.setTop (mkF m 44 #[.val (.int p0), .val (.int p1), .val (.int p2), .val (.int p3), .val (.int p4), .val (.int p5), .val (.int (1 : Int32)), .val (.double d0), .second, .val (.double d1), .second, .val (.double d2), .second, .val (.double df), .second, .val (.double sc), .second, .unset, .unset] [(.ref b73)]))
    refine OwnGo.of (A := T73.setTop (mkF m 44 #[.val (.int p0), .val (.int p1), .val (.int p2), .val (.int p3), .val (.int p4), .val (.int p5), .val (.int (1 : Int32)), .val (.double d0), .second, .val (.double d1), .second, .val (.double d2), .second, .val (.double df), .second, .val (.double sc), .second, .unset, .unset] [(.ref b73)])) (B := T73.setTop (mkF m 51 #[.val (.int p0), .val (.int p1), .val (.int p2), .val (.int p3), .val (.int p4), .val (.int p5), .val (.int (1 : Int32)), .val (.double d0), .second, .val (.double d1), .second, .val (.double d2), .second, .val (.double df), .second, .val (.double sc), .second, .val (.ref b73), .unset] [(.int (1 : Int32)), (.int (0 : Int32)), (.ref b73)])) (fun t k => ?_) ?_
    · show Steps p.tables e below (T73.setTop (mkF m 44 #[.val (.int p0), .val (.int p1), .val (.int p2), .val (.int p3), .val (.int p4), .val (.int p5), .val (.int (1 : Int32)), .val (.double d0), .second, .val (.double d1), .second, .val (.double d2), .second, .val (.double df), .second, .val (.double sc), .second, .unset, .unset] [(.ref b73)])) t
      refine XS.astore X73.here hx rfl (hb hby at_44) rfl rfl (l' := #[.val (.int p0), .val (.int p1), .val (.int p2), .val (.int p3), .val (.int p4), .val (.int p5), .val (.int (1 : Int32)), .val (.double d0), .second, .val (.double d1), .second, .val (.double d2), .second, .val (.double df), .second, .val (.double sc), .second, .val (.ref b73), .unset]) rfl ?_
      show Steps p.tables e below (T73.setTop (mkF m 46 #[.val (.int p0), .val (.int p1), .val (.int p2), .val (.int p3), .val (.int p4), .val (.int p5), .val (.int (1 : Int32)), .val (.double d0), .second, .val (.double d1), .second, .val (.double d2), .second, .val (.double df), .second, .val (.double sc), .second, .val (.ref b73), .unset] [])) t
      refine XS.aload X73.here hx rfl (hb hby at_46) rfl rfl ?_
      show Steps p.tables e below (T73.setTop (mkF m 48 #[.val (.int p0), .val (.int p1), .val (.int p2), .val (.int p3), .val (.int p4), .val (.int p5), .val (.int (1 : Int32)), .val (.double d0), .second, .val (.double d1), .second, .val (.double d2), .second, .val (.double df), .second, .val (.double sc), .second, .val (.ref b73), .unset] [(.ref b73)])) t
      refine XS.iconst X73.here hx rfl (hb hby at_48) ?_
      show Steps p.tables e below (T73.setTop (mkF m 49 #[.val (.int p0), .val (.int p1), .val (.int p2), .val (.int p3), .val (.int p4), .val (.int p5), .val (.int (1 : Int32)), .val (.double d0), .second, .val (.double d1), .second, .val (.double d2), .second, .val (.double df), .second, .val (.double sc), .second, .val (.ref b73), .unset] [(.int (0 : Int32)), (.ref b73)])) t
      refine XS.iload X73.here hx rfl (hb hby at_49) rfl ?_
      exact k
    have hc76 : (0 : Int32) < (1 : Int32) := by decide
    refine OwnGo.of (A := T73.setTop (mkF m 51 #[.val (.int p0), .val (.int p1), .val (.int p2), .val (.int p3), .val (.int p4), .val (.int p5), .val (.int (1 : Int32)), .val (.double d0), .second, .val (.double d1), .second, .val (.double d2), .second, .val (.double df), .second, .val (.double sc), .second, .val (.ref b73), .unset] [(.int (1 : Int32)), (.int (0 : Int32)), (.ref b73)])) (B := T73.setTop (mkF m 61 #[.val (.int p0), .val (.int p1), .val (.int p2), .val (.int p3), .val (.int p4), .val (.int p5), .val (.int (1 : Int32)), .val (.double d0), .second, .val (.double d1), .second, .val (.double d2), .second, .val (.double df), .second, .val (.double sc), .second, .val (.ref b73), .unset] [(.double d0), (.int (0 : Int32)), (.ref b73)])) (fun t k => ?_) ?_
    · show Steps p.tables e below (T73.setTop (mkF m 51 #[.val (.int p0), .val (.int p1), .val (.int p2), .val (.int p3), .val (.int p4), .val (.int p5), .val (.int (1 : Int32)), .val (.double d0), .second, .val (.double d1), .second, .val (.double d2), .second, .val (.double df), .second, .val (.double sc), .second, .val (.ref b73), .unset] [(.int (1 : Int32)), (.int (0 : Int32)), (.ref b73)])) t
      refine XS.ifNo X73.here hx rfl (hb hby at_51) rfl ((if0 _ _).trans (tlt hc76).2.2.2) ?_
      show Steps p.tables e below (T73.setTop (mkF m 54 #[.val (.int p0), .val (.int p1), .val (.int p2), .val (.int p3), .val (.int p4), .val (.int p5), .val (.int (1 : Int32)), .val (.double d0), .second, .val (.double d1), .second, .val (.double d2), .second, .val (.double df), .second, .val (.double sc), .second, .val (.ref b73), .unset] [(.int (0 : Int32)), (.ref b73)])) t
      refine XS.dload X73.here hx rfl (hb hby at_54) rfl ?_
      show Steps p.tables e below (T73.setTop (mkF m 56 #[.val (.int p0), .val (.int p1), .val (.int p2), .val (.int p3), .val (.int p4), .val (.int p5), .val (.int (1 : Int32)), .val (.double d0), .second, .val (.double d1), .second, .val (.double d2), .second, .val (.double df), .second, .val (.double sc), .second, .val (.ref b73), .unset] [(.double d0), (.int (0 : Int32)), (.ref b73)])) t
      refine XS.goto X73.here hx rfl (pc0 := 56) (pc' := 61) rfl (hb hby at_56) (by decide) (by decide) ?_
      exact k
    have cq77 := f75
    obtain ⟨clq77, Arq77, qq77, Sq77, Nq77, Hq77, Gq77⟩ := cq77
    obtain ⟨T78, h78, X78, e78, W78, st78⟩ := stD X73 hx hZ e73 Arq77 (j := (0 : Int32)) (inb_of Sq77 ⟨by decide, by decide⟩) (g := (mkF m 61 #[.val (.int p0), .val (.int p1), .val (.int p2), .val (.int p3), .val (.int p4), .val (.int p5), .val (.int (1 : Int32)), .val (.double d0), .second, .val (.double d1), .second, .val (.double d2), .second, .val (.double df), .second, .val (.double sc), .second, .val (.ref b73), .unset] [(.double d0), (.int (0 : Int32)), (.ref b73)])) rfl rfl (hb hby at_61)
    refine OwnGo.of st78 ?_
    have N78 := Fr.snoc X78 N0 g_b73
    have f79 : n0 ≤ h78.size := Nat.le_trans f74 (Keep.of_wr W78).1
    have f80 : Arv Z h78 b73 k73 .double (4 : Int32) [(.double d0), (.double (0 : UInt64)), (.double (0 : UInt64)), (.double (0 : UInt64))] (.double (0 : UInt64)) := Arv.set Arq77 qq77 Sq77 Nq77 Hq77 Gq77 rfl W78 0 rfl (Nat.le_of_ble_eq_true rfl)
    show OwnGo p.tables e below _ (T78.setTop (mkF m 62 #[.val (.int p0), .val (.int p1), .val (.int p2), .val (.int p3), .val (.int p4), .val (.int p5), .val (.int (1 : Int32)), .val (.double d0), .second, .val (.double d1), .second, .val (.double d2), .second, .val (.double df), .second, .val (.double sc), .second, .val (.ref b73), .unset] []))
    refine OwnGo.of (A := T78.setTop (mkF m 62 #[.val (.int p0), .val (.int p1), .val (.int p2), .val (.int p3), .val (.int p4), .val (.int p5), .val (.int (1 : Int32)), .val (.double d0), .second, .val (.double d1), .second, .val (.double d2), .second, .val (.double df), .second, .val (.double sc), .second, .val (.ref b73), .unset] [])) (B := T78.setTop (mkF m 68 #[.val (.int p0), .val (.int p1), .val (.int p2), .val (.int p3), .val (.int p4), .val (.int p5), .val (.int (1 : Int32)), .val (.double d0), .second, .val (.double d1), .second, .val (.double d2), .second, .val (.double df), .second, .val (.double sc), .second, .val (.ref b73), .unset] [(.int (1 : Int32)), (.int (1 : Int32)), (.int (1 : Int32)), (.ref b73)])) (fun t k => ?_) ?_
    · show Steps p.tables e below (T78.setTop (mkF m 62 #[.val (.int p0), .val (.int p1), .val (.int p2), .val (.int p3), .val (.int p4), .val (.int p5), .val (.int (1 : Int32)), .val (.double d0), .second, .val (.double d1), .second, .val (.double d2), .second, .val (.double df), .second, .val (.double sc), .second, .val (.ref b73), .unset] [])) t
      refine XS.aload X78.here hx rfl (hb hby at_62) rfl rfl ?_
      show Steps p.tables e below (T78.setTop (mkF m 64 #[.val (.int p0), .val (.int p1), .val (.int p2), .val (.int p3), .val (.int p4), .val (.int p5), .val (.int (1 : Int32)), .val (.double d0), .second, .val (.double d1), .second, .val (.double d2), .second, .val (.double df), .second, .val (.double sc), .second, .val (.ref b73), .unset] [(.ref b73)])) t
      refine XS.iconst X78.here hx rfl (hb hby at_64) ?_
      show Steps p.tables e below (T78.setTop (mkF m 65 #[.val (.int p0), .val (.int p1), .val (.int p2), .val (.int p3), .val (.int p4), .val (.int p5), .val (.int (1 : Int32)), .val (.double d0), .second, .val (.double d1), .second, .val (.double d2), .second, .val (.double df), .second, .val (.double sc), .second, .val (.ref b73), .unset] [(.int (1 : Int32)), (.ref b73)])) t
      refine XS.iload X78.here hx rfl (hb hby at_65) rfl ?_
      show Steps p.tables e below (T78.setTop (mkF m 67 #[.val (.int p0), .val (.int p1), .val (.int p2), .val (.int p3), .val (.int p4), .val (.int p5), .val (.int (1 : Int32)), .val (.double d0), .second, .val (.double d1), .second, .val (.double d2), .second, .val (.double df), .second, .val (.double sc), .second, .val (.ref b73), .unset] [(.int (1 : Int32)), (.int (1 : Int32)), (.ref b73)])) t
      refine XS.iconst X78.here hx rfl (hb hby at_67) ?_
      exact k
    have hc81 : ¬ ((1 : Int32) < (1 : Int32)) := by decide
    refine OwnGo.of (A := T78.setTop (mkF m 68 #[.val (.int p0), .val (.int p1), .val (.int p2), .val (.int p3), .val (.int p4), .val (.int p5), .val (.int (1 : Int32)), .val (.double d0), .second, .val (.double d1), .second, .val (.double d2), .second, .val (.double df), .second, .val (.double sc), .second, .val (.ref b73), .unset] [(.int (1 : Int32)), (.int (1 : Int32)), (.int (1 : Int32)), (.ref b73)])) (B := T78.setTop (mkF m 78 #[.val (.int p0), .val (.int p1), .val (.int p2), .val (.int p3), .val (.int p4), .val (.int p5), .val (.int (1 : Int32)), .val (.double d0), .second, .val (.double d1), .second, .val (.double d2), .second, .val (.double df), .second, .val (.double sc), .second, .val (.ref b73), .unset] [(.double df), (.int (1 : Int32)), (.ref b73)])) (fun t k => ?_) ?_
    · show Steps p.tables e below (T78.setTop (mkF m 68 #[.val (.int p0), .val (.int p1), .val (.int p2), .val (.int p3), .val (.int p4), .val (.int p5), .val (.int (1 : Int32)), .val (.double d0), .second, .val (.double d1), .second, .val (.double d2), .second, .val (.double df), .second, .val (.double sc), .second, .val (.ref b73), .unset] [(.int (1 : Int32)), (.int (1 : Int32)), (.int (1 : Int32)), (.ref b73)])) t
      refine XS.icmpYes X78.here hx rfl (pc0 := 68) (pc' := 76) rfl (hb hby at_68) rfl (flt hc81).2.2.2 (by decide) (by decide) ?_
      show Steps p.tables e below (T78.setTop (mkF m 76 #[.val (.int p0), .val (.int p1), .val (.int p2), .val (.int p3), .val (.int p4), .val (.int p5), .val (.int (1 : Int32)), .val (.double d0), .second, .val (.double d1), .second, .val (.double d2), .second, .val (.double df), .second, .val (.double sc), .second, .val (.ref b73), .unset] [(.int (1 : Int32)), (.ref b73)])) t
      refine XS.dload X78.here hx rfl (hb hby at_76) rfl ?_
      exact k
    have cq82 := f80
    obtain ⟨clq82, Arq82, qq82, Sq82, Nq82, Hq82, Gq82⟩ := cq82
    obtain ⟨T83, h83, X83, e83, W83, st83⟩ := stD X78 hx hZ e78 Arq82 (j := (1 : Int32)) (inb_of Sq82 ⟨by decide, by decide⟩) (g := (mkF m 78 #[.val (.int p0), .val (.int p1), .val (.int p2), .val (.int p3), .val (.int p4), .val (.int p5), .val (.int (1 : Int32)), .val (.double d0), .second, .val (.double d1), .second, .val (.double d2), .second, .val (.double df), .second, .val (.double sc), .second, .val (.ref b73), .unset] [(.double df), (.int (1 : Int32)), (.ref b73)])) rfl rfl (hb hby at_78)
    refine OwnGo.of st83 ?_
    have N83 := Fr.snoc X83 N78 g_b73
    have f84 : n0 ≤ h83.size := Nat.le_trans f79 (Keep.of_wr W83).1
    have f85 : Arv Z h83 b73 k73 .double (4 : Int32) [(.double d0), (.double df), (.double (0 : UInt64)), (.double (0 : UInt64))] (.double (0 : UInt64)) := Arv.set Arq82 qq82 Sq82 Nq82 Hq82 Gq82 rfl W83 1 rfl (Nat.le_of_ble_eq_true rfl)
    show OwnGo p.tables e below _ (T83.setTop (mkF m 79 #[.val (.int p0), .val (.int p1), .val (.int p2), .val (.int p3), .val (.int p4), .val (.int p5), .val (.int (1 : Int32)), .val (.double d0), .second, .val (.double d1), .second, .val (.double d2), .second, .val (.double df), .second, .val (.double sc), .second, .val (.ref b73), .unset] []))
    refine OwnGo.of (A := T83.setTop (mkF m 79 #[.val (.int p0), .val (.int p1), .val (.int p2), .val (.int p3), .val (.int p4), .val (.int p5), .val (.int (1 : Int32)), .val (.double d0), .second, .val (.double d1), .second, .val (.double d2), .second, .val (.double df), .second, .val (.double sc), .second, .val (.ref b73), .unset] [])) (B := T83.setTop (mkF m 85 #[.val (.int p0), .val (.int p1), .val (.int p2), .val (.int p3), .val (.int p4), .val (.int p5), .val (.int (1 : Int32)), .val (.double d0), .second, .val (.double d1), .second, .val (.double d2), .second, .val (.double df), .second, .val (.double sc), .second, .val (.ref b73), .unset] [(.int (2 : Int32)), (.int (1 : Int32)), (.int (2 : Int32)), (.ref b73)])) (fun t k => ?_) ?_
    · show Steps p.tables e below (T83.setTop (mkF m 79 #[.val (.int p0), .val (.int p1), .val (.int p2), .val (.int p3), .val (.int p4), .val (.int p5), .val (.int (1 : Int32)), .val (.double d0), .second, .val (.double d1), .second, .val (.double d2), .second, .val (.double df), .second, .val (.double sc), .second, .val (.ref b73), .unset] [])) t
      refine XS.aload X83.here hx rfl (hb hby at_79) rfl rfl ?_
      show Steps p.tables e below (T83.setTop (mkF m 81 #[.val (.int p0), .val (.int p1), .val (.int p2), .val (.int p3), .val (.int p4), .val (.int p5), .val (.int (1 : Int32)), .val (.double d0), .second, .val (.double d1), .second, .val (.double d2), .second, .val (.double df), .second, .val (.double sc), .second, .val (.ref b73), .unset] [(.ref b73)])) t
      refine XS.iconst X83.here hx rfl (hb hby at_81) ?_
      show Steps p.tables e below (T83.setTop (mkF m 82 #[.val (.int p0), .val (.int p1), .val (.int p2), .val (.int p3), .val (.int p4), .val (.int p5), .val (.int (1 : Int32)), .val (.double d0), .second, .val (.double d1), .second, .val (.double d2), .second, .val (.double df), .second, .val (.double sc), .second, .val (.ref b73), .unset] [(.int (2 : Int32)), (.ref b73)])) t
      refine XS.iload X83.here hx rfl (hb hby at_82) rfl ?_
      show Steps p.tables e below (T83.setTop (mkF m 84 #[.val (.int p0), .val (.int p1), .val (.int p2), .val (.int p3), .val (.int p4), .val (.int p5), .val (.int (1 : Int32)), .val (.double d0), .second, .val (.double d1), .second, .val (.double d2), .second, .val (.double df), .second, .val (.double sc), .second, .val (.ref b73), .unset] [(.int (1 : Int32)), (.int (2 : Int32)), (.ref b73)])) t
      refine XS.iconst X83.here hx rfl (hb hby at_84) ?_
      exact k
    have hc86 : ¬ ((2 : Int32) < (1 : Int32)) := by decide
    refine OwnGo.of (A := T83.setTop (mkF m 85 #[.val (.int p0), .val (.int p1), .val (.int p2), .val (.int p3), .val (.int p4), .val (.int p5), .val (.int (1 : Int32)), .val (.double d0), .second, .val (.double d1), .second, .val (.double d2), .second, .val (.double df), .second, .val (.double sc), .second, .val (.ref b73), .unset] [(.int (2 : Int32)), (.int (1 : Int32)), (.int (2 : Int32)), (.ref b73)])) (B := T83.setTop (mkF m 95 #[.val (.int p0), .val (.int p1), .val (.int p2), .val (.int p3), .val (.int p4), .val (.int p5), .val (.int (1 : Int32)), .val (.double d0), .second, .val (.double d1), .second, .val (.double d2), .second, .val (.double df), .second, .val (.double sc), .second, .val (.ref b73), .unset] [(.double df), (.int (2 : Int32)), (.ref b73)])) (fun t k => ?_) ?_
    · show Steps p.tables e below (T83.setTop (mkF m 85 #[.val (.int p0), .val (.int p1), .val (.int p2), .val (.int p3), .val (.int p4), .val (.int p5), .val (.int (1 : Int32)), .val (.double d0), .second, .val (.double d1), .second, .val (.double d2), .second, .val (.double df), .second, .val (.double sc), .second, .val (.ref b73), .unset] [(.int (2 : Int32)), (.int (1 : Int32)), (.int (2 : Int32)), (.ref b73)])) t
      refine XS.icmpYes X83.here hx rfl (pc0 := 85) (pc' := 93) rfl (hb hby at_85) rfl (flt hc86).2.2.2 (by decide) (by decide) ?_
      show Steps p.tables e below (T83.setTop (mkF m 93 #[.val (.int p0), .val (.int p1), .val (.int p2), .val (.int p3), .val (.int p4), .val (.int p5), .val (.int (1 : Int32)), .val (.double d0), .second, .val (.double d1), .second, .val (.double d2), .second, .val (.double df), .second, .val (.double sc), .second, .val (.ref b73), .unset] [(.int (2 : Int32)), (.ref b73)])) t
      refine XS.dload X83.here hx rfl (hb hby at_93) rfl ?_
      exact k
    have cq87 := f85
    obtain ⟨clq87, Arq87, qq87, Sq87, Nq87, Hq87, Gq87⟩ := cq87
    obtain ⟨T88, h88, X88, e88, W88, st88⟩ := stD X83 hx hZ e83 Arq87 (j := (2 : Int32)) (inb_of Sq87 ⟨by decide, by decide⟩) (g := (mkF m 95 #[.val (.int p0), .val (.int p1), .val (.int p2), .val (.int p3), .val (.int p4), .val (.int p5), .val (.int (1 : Int32)), .val (.double d0), .second, .val (.double d1), .second, .val (.double d2), .second, .val (.double df), .second, .val (.double sc), .second, .val (.ref b73), .unset] [(.double df), (.int (2 : Int32)), (.ref b73)])) rfl rfl (hb hby at_95)
    refine OwnGo.of st88 ?_
    have N88 := Fr.snoc X88 N83 g_b73
    have f89 : n0 ≤ h88.size := Nat.le_trans f84 (Keep.of_wr W88).1
    have f90 : Arv Z h88 b73 k73 .double (4 : Int32) [(.double d0), (.double df), (.double df), (.double (0 : UInt64))] (.double (0 : UInt64)) := Arv.set Arq87 qq87 Sq87 Nq87 Hq87 Gq87 rfl W88 2 rfl (Nat.le_of_ble_eq_true rfl)
    show OwnGo p.tables e below _ (T88.setTop (mkF m 96 #[.val (.int p0), .val (.int p1), .val (.int p2), .val (.int p3), .val (.int p4), .val (.int p5), .val (.int (1 : Int32)), .val (.double d0), .second, .val (.double d1), .second, .val (.double d2), .second, .val (.double df), .second, .val (.double sc), .second, .val (.ref b73), .unset] []))
    refine OwnGo.of (A := T88.setTop (mkF m 96 #[.val (.int p0), .val (.int p1), .val (.int p2), .val (.int p3), .val (.int p4), .val (.int p5), .val (.int (1 : Int32)), .val (.double d0), .second, .val (.double d1), .second, .val (.double d2), .second, .val (.double df), .second, .val (.double sc), .second, .val (.ref b73), .unset] [])) (B := T88.setTop (mkF m 101 #[.val (.int p0), .val (.int p1), .val (.int p2), .val (.int p3), .val (.int p4), .val (.int p5), .val (.int (1 : Int32)), .val (.double d0), .second, .val (.double d1), .second, .val (.double d2), .second, .val (.double df), .second, .val (.double sc), .second, .val (.ref b73), .unset] [(.double df), (.int (3 : Int32)), (.ref b73)])) (fun t k => ?_) ?_
    · show Steps p.tables e below (T88.setTop (mkF m 96 #[.val (.int p0), .val (.int p1), .val (.int p2), .val (.int p3), .val (.int p4), .val (.int p5), .val (.int (1 : Int32)), .val (.double d0), .second, .val (.double d1), .second, .val (.double d2), .second, .val (.double df), .second, .val (.double sc), .second, .val (.ref b73), .unset] [])) t
      refine XS.aload X88.here hx rfl (hb hby at_96) rfl rfl ?_
      show Steps p.tables e below (T88.setTop (mkF m 98 #[.val (.int p0), .val (.int p1), .val (.int p2), .val (.int p3), .val (.int p4), .val (.int p5), .val (.int (1 : Int32)), .val (.double d0), .second, .val (.double d1), .second, .val (.double d2), .second, .val (.double df), .second, .val (.double sc), .second, .val (.ref b73), .unset] [(.ref b73)])) t
      refine XS.iconst X88.here hx rfl (hb hby at_98) ?_
      show Steps p.tables e below (T88.setTop (mkF m 99 #[.val (.int p0), .val (.int p1), .val (.int p2), .val (.int p3), .val (.int p4), .val (.int p5), .val (.int (1 : Int32)), .val (.double d0), .second, .val (.double d1), .second, .val (.double d2), .second, .val (.double df), .second, .val (.double sc), .second, .val (.ref b73), .unset] [(.int (3 : Int32)), (.ref b73)])) t
      refine XS.dload X88.here hx rfl (hb hby at_99) rfl ?_
      exact k
    have cq91 := f90
    obtain ⟨clq91, Arq91, qq91, Sq91, Nq91, Hq91, Gq91⟩ := cq91
    obtain ⟨T92, h92, X92, e92, W92, st92⟩ := stD X88 hx hZ e88 Arq91 (j := (3 : Int32)) (inb_of Sq91 ⟨by decide, by decide⟩) (g := (mkF m 101 #[.val (.int p0), .val (.int p1), .val (.int p2), .val (.int p3), .val (.int p4), .val (.int p5), .val (.int (1 : Int32)), .val (.double d0), .second, .val (.double d1), .second, .val (.double d2), .second, .val (.double df), .second, .val (.double sc), .second, .val (.ref b73), .unset] [(.double df), (.int (3 : Int32)), (.ref b73)])) rfl rfl (hb hby at_101)
    refine OwnGo.of st92 ?_
    have N92 := Fr.snoc X92 N88 g_b73
    have f93 : n0 ≤ h92.size := Nat.le_trans f89 (Keep.of_wr W92).1
    have f94 : Arv Z h92 b73 k73 .double (4 : Int32) [(.double d0), (.double df), (.double df), (.double df)] (.double (0 : UInt64)) := Arv.set Arq91 qq91 Sq91 Nq91 Hq91 Gq91 rfl W92 3 rfl (Nat.le_of_ble_eq_true rfl)
    show OwnGo p.tables e below _ (T92.setTop (mkF m 102 #[.val (.int p0), .val (.int p1), .val (.int p2), .val (.int p3), .val (.int p4), .val (.int p5), .val (.int (1 : Int32)), .val (.double d0), .second, .val (.double d1), .second, .val (.double d2), .second, .val (.double df), .second, .val (.double sc), .second, .val (.ref b73), .unset] []))
    refine OwnGo.of (A := T92.setTop (mkF m 102 #[.val (.int p0), .val (.int p1), .val (.int p2), .val (.int p3), .val (.int p4), .val (.int p5), .val (.int (1 : Int32)), .val (.double d0), .second, .val (.double d1), .second, .val (.double d2), .second, .val (.double df), .second, .val (.double sc), .second, .val (.ref b73), .unset] [])) (B := T92.setTop (mkF m 103 #[.val (.int p0), .val (.int p1), .val (.int p2), .val (.int p3), .val (.int p4), .val (.int p5), .val (.int (1 : Int32)), .val (.double d0), .second, .val (.double d1), .second, .val (.double d2), .second, .val (.double df), .second, .val (.double sc), .second, .val (.ref b73), .unset] [(.int (4 : Int32))])) (fun t k => ?_) ?_
    · show Steps p.tables e below (T92.setTop (mkF m 102 #[.val (.int p0), .val (.int p1), .val (.int p2), .val (.int p3), .val (.int p4), .val (.int p5), .val (.int (1 : Int32)), .val (.double d0), .second, .val (.double d1), .second, .val (.double d2), .second, .val (.double df), .second, .val (.double sc), .second, .val (.ref b73), .unset] [])) t
      refine XS.iconst X92.here hx rfl (hb hby at_102) ?_
      exact k
    obtain ⟨T95, h95, k95, X95, e95, E95, A95, st95⟩ := newP X92 hx hZ (hw _ (List.mem_of_getElem? (i := 1) rfl)) e92 (g := (mkF m 103 #[.val (.int p0), .val (.int p1), .val (.int p2), .val (.int p3), .val (.int p4), .val (.int p5), .val (.int (1 : Int32)), .val (.double d0), .second, .val (.double d1), .second, .val (.double d2), .second, .val (.double df), .second, .val (.double sc), .second, .val (.ref b73), .unset] [(.int (4 : Int32))])) rfl (hb hby at_103) rfl (by decide) (cap := 4) (by decide) (by decide) (by decide) (by decide)
    obtain ⟨b95, g95⟩ : ∃ z, z = h92.size := ⟨_, rfl⟩
    rw [← g95] at A95 st95
    refine OwnGo.of st95 ?_
    have ne_b73_b95 : b73 ≠ b95 := Nat.ne_of_lt (Nat.lt_of_lt_of_le f94.lt (Nat.le_of_eq g95.symm))
    have g_b95 : n0 ≤ b95 := Nat.le_trans f93 (Nat.le_of_eq g95.symm)
    have f96 : n0 ≤ h95.size := Nat.le_trans f93 E95.1
    have f97 : Arv Z h95 b73 k73 .double (4 : Int32) [(.double d0), (.double df), (.double df), (.double df)] (.double (0 : UInt64)) := f94.ext E95
    have f98 : Arv Z h95 b95 k95 .double (4 : Int32) [(.double (0 : UInt64)), (.double (0 : UInt64)), (.double (0 : UInt64)), (.double (0 : UInt64))] (.double (0 : UInt64)) := (Arv.new A95 (by decide)).pad (pad_rep [] (.double (0 : UInt64)) 4)
    show OwnGo p.tables e below _ (T95.setTop (mkF m 105 #[.val (.int p0), .val (.int p1), .val (.int p2), .val (.int p3), .val (.int p4), .val (.int p5), .val (.int (1 : Int32)), .val (.double d0), .second, .val (.double d1), .second, .val (.double d2), .second, .val (.double df), .second, .val (.double sc), .second, .val (.ref b73), .unset] [(.ref b95)]))
    refine OwnGo.of (A := T95.setTop (mkF m 105 #[.val (.int p0), .val (.int p1), .val (.int p2), .val (.int p3), .val (.int p4), .val (.int p5), .val (.int (1 : Int32)), .val (.double d0), .second, .val (.double d1), .second, .val (.double d2), .second, .val (.double df), .second, .val (.double sc), .second, .val (.ref b73), .unset] [(.ref b95)])) (B := T95.setTop (mkF m 113 #[.val (.int p0), .val (.int p1), .val (.int p2), .val (.int p3), .val (.int p4), .val (.int p5), .val (.int (1 : Int32)), .val (.double d0), .second, .val (.double d1), .second, .val (.double d2), .second, .val (.double df), .second, .val (.double sc), .second, .val (.ref b73), .val (.ref b95)] [(.int (0 : Int32)), (.ref b73), (.int (0 : Int32)), (.ref b95)])) (fun t k => ?_) ?_
    · show Steps p.tables e below (T95.setTop (mkF m 105 #[.val (.int p0), .val (.int p1), .val (.int p2), .val (.int p3), .val (.int p4), .val (.int p5), .val (.int (1 : Int32)), .val (.double d0), .second, .val (.double d1), .second, .val (.double d2), .second, .val (.double df), .second, .val (.double sc), .second, .val (.ref b73), .unset] [(.ref b95)])) t
      refine XS.astore X95.here hx rfl (hb hby at_105) rfl rfl (l' := #[.val (.int p0), .val (.int p1), .val (.int p2), .val (.int p3), .val (.int p4), .val (.int p5), .val (.int (1 : Int32)), .val (.double d0), .second, .val (.double d1), .second, .val (.double d2), .second, .val (.double df), .second, .val (.double sc), .second, .val (.ref b73), .val (.ref b95)]) rfl ?_
      show Steps p.tables e below (T95.setTop (mkF m 107 #[.val (.int p0), .val (.int p1), .val (.int p2), .val (.int p3), .val (.int p4), .val (.int p5), .val (.int (1 : Int32)), .val (.double d0), .second, .val (.double d1), .second, .val (.double d2), .second, .val (.double df), .second, .val (.double sc), .second, .val (.ref b73), .val (.ref b95)] [])) t
      refine XS.aload X95.here hx rfl (hb hby at_107) rfl rfl ?_
      show Steps p.tables e below (T95.setTop (mkF m 109 #[.val (.int p0), .val (.int p1), .val (.int p2), .val (.int p3), .val (.int p4), .val (.int p5), .val (.int (1 : Int32)), .val (.double d0), .second, .val (.double d1), .second, .val (.double d2), .second, .val (.double df), .second, .val (.double sc), .second, .val (.ref b73), .val (.ref b95)] [(.ref b95)])) t
      refine XS.iconst X95.here hx rfl (hb hby at_109) ?_
      show Steps p.tables e below (T95.setTop (mkF m 110 #[.val (.int p0), .val (.int p1), .val (.int p2), .val (.int p3), .val (.int p4), .val (.int p5), .val (.int (1 : Int32)), .val (.double d0), .second, .val (.double d1), .second, .val (.double d2), .second, .val (.double df), .second, .val (.double sc), .second, .val (.ref b73), .val (.ref b95)] [(.int (0 : Int32)), (.ref b95)])) t
      refine XS.aload X95.here hx rfl (hb hby at_110) rfl rfl ?_
      show Steps p.tables e below (T95.setTop (mkF m 112 #[.val (.int p0), .val (.int p1), .val (.int p2), .val (.int p3), .val (.int p4), .val (.int p5), .val (.int (1 : Int32)), .val (.double d0), .second, .val (.double d1), .second, .val (.double d2), .second, .val (.double df), .second, .val (.double sc), .second, .val (.ref b73), .val (.ref b95)] [(.ref b73), (.int (0 : Int32)), (.ref b95)])) t
      refine XS.iconst X95.here hx rfl (hb hby at_112) ?_
      exact k
    have cq99 := f97
    obtain ⟨clq99, Arq99, qq99, Sq99, Nq99, Hq99, Gq99⟩ := cq99
    have hinq99 := inb_of (j := (0 : Int32)) Sq99 ⟨by decide, by decide⟩
    refine OwnGo.of (X95.daload hx (j := (0 : Int32)) (v := (.double d0)) (by rw [e95]; exact Arq99.1) (State.isArrayOf_alike hZ.alike Arq99.2.1) Arq99.2.2 hinq99 (Hq99.at hinq99 rfl) (g := (mkF m 113 #[.val (.int p0), .val (.int p1), .val (.int p2), .val (.int p3), .val (.int p4), .val (.int p5), .val (.int (1 : Int32)), .val (.double d0), .second, .val (.double d1), .second, .val (.double d2), .second, .val (.double df), .second, .val (.double sc), .second, .val (.ref b73), .val (.ref b95)] [(.int (0 : Int32)), (.ref b73), (.int (0 : Int32)), (.ref b95)])) rfl rfl (hb hby at_113)) ?_
    show OwnGo p.tables e below _ (T95.setTop (mkF m 114 #[.val (.int p0), .val (.int p1), .val (.int p2), .val (.int p3), .val (.int p4), .val (.int p5), .val (.int (1 : Int32)), .val (.double d0), .second, .val (.double d1), .second, .val (.double d2), .second, .val (.double df), .second, .val (.double sc), .second, .val (.ref b73), .val (.ref b95)] [(.double d0), (.int (0 : Int32)), (.ref b95)]))
    have cq100 := f98
    obtain ⟨clq100, Arq100, qq100, Sq100, Nq100, Hq100, Gq100⟩ := cq100
    obtain ⟨T101, h101, X101, e101, W101, st101⟩ := stD X95 hx hZ e95 Arq100 (j := (0 : Int32)) (inb_of Sq100 ⟨by decide, by decide⟩) (g := (mkF m 114 #[.val (.int p0), .val (.int p1), .val (.int p2), .val (.int p3), .val (.int p4), .val (.int p5), .val (.int (1 : Int32)), .val (.double d0), .second, .val (.double d1), .second, .val (.double d2), .second, .val (.double df), .second, .val (.double sc), .second, .val (.ref b73), .val (.ref b95)] [(.double d0), (.int (0 : Int32)), (.ref b95)])) rfl rfl (hb hby at_114)
    refine OwnGo.of st101 ?_
    have N101 := Fr.snoc X101 N92 g_b95
    have f102 : n0 ≤ h101.size := Nat.le_trans f96 (Keep.of_wr W101).1
    have f103 : Arv Z h101 b73 k73 .double (4 : Int32) [(.double d0), (.double df), (.double df), (.double df)] (.double (0 : UInt64)) := f97.other W101 ne_b73_b95
    have f104 : Arv Z h101 b95 k95 .double (4 : Int32) [(.double d0), (.double (0 : UInt64)), (.double (0 : UInt64)), (.double (0 : UInt64))] (.double (0 : UInt64)) := Arv.set Arq100 qq100 Sq100 Nq100 Hq100 Gq100 rfl W101 0 rfl (Nat.le_of_ble_eq_true rfl)
    show OwnGo p.tables e below _ (T101.setTop (mkF m 115 #[.val (.int p0), .val (.int p1), .val (.int p2), .val (.int p3), .val (.int p4), .val (.int p5), .val (.int (1 : Int32)), .val (.double d0), .second, .val (.double d1), .second, .val (.double d2), .second, .val (.double df), .second, .val (.double sc), .second, .val (.ref b73), .val (.ref b95)] []))
    refine OwnGo.of (A := T101.setTop (mkF m 115 #[.val (.int p0), .val (.int p1), .val (.int p2), .val (.int p3), .val (.int p4), .val (.int p5), .val (.int (1 : Int32)), .val (.double d0), .second, .val (.double d1), .second, .val (.double d2), .second, .val (.double df), .second, .val (.double sc), .second, .val (.ref b73), .val (.ref b95)] [])) (B := T101.setTop (mkF m 121 #[.val (.int p0), .val (.int p1), .val (.int p2), .val (.int p3), .val (.int p4), .val (.int p5), .val (.int (1 : Int32)), .val (.double d0), .second, .val (.double d1), .second, .val (.double d2), .second, .val (.double df), .second, .val (.double sc), .second, .val (.ref b73), .val (.ref b95)] [(.int (1 : Int32)), (.ref b73), (.int (1 : Int32)), (.ref b95)])) (fun t k => ?_) ?_
    · show Steps p.tables e below (T101.setTop (mkF m 115 #[.val (.int p0), .val (.int p1), .val (.int p2), .val (.int p3), .val (.int p4), .val (.int p5), .val (.int (1 : Int32)), .val (.double d0), .second, .val (.double d1), .second, .val (.double d2), .second, .val (.double df), .second, .val (.double sc), .second, .val (.ref b73), .val (.ref b95)] [])) t
      refine XS.aload X101.here hx rfl (hb hby at_115) rfl rfl ?_
      show Steps p.tables e below (T101.setTop (mkF m 117 #[.val (.int p0), .val (.int p1), .val (.int p2), .val (.int p3), .val (.int p4), .val (.int p5), .val (.int (1 : Int32)), .val (.double d0), .second, .val (.double d1), .second, .val (.double d2), .second, .val (.double df), .second, .val (.double sc), .second, .val (.ref b73), .val (.ref b95)] [(.ref b95)])) t
      refine XS.iconst X101.here hx rfl (hb hby at_117) ?_
      show Steps p.tables e below (T101.setTop (mkF m 118 #[.val (.int p0), .val (.int p1), .val (.int p2), .val (.int p3), .val (.int p4), .val (.int p5), .val (.int (1 : Int32)), .val (.double d0), .second, .val (.double d1), .second, .val (.double d2), .second, .val (.double df), .second, .val (.double sc), .second, .val (.ref b73), .val (.ref b95)] [(.int (1 : Int32)), (.ref b95)])) t
      refine XS.aload X101.here hx rfl (hb hby at_118) rfl rfl ?_
      show Steps p.tables e below (T101.setTop (mkF m 120 #[.val (.int p0), .val (.int p1), .val (.int p2), .val (.int p3), .val (.int p4), .val (.int p5), .val (.int (1 : Int32)), .val (.double d0), .second, .val (.double d1), .second, .val (.double d2), .second, .val (.double df), .second, .val (.double sc), .second, .val (.ref b73), .val (.ref b95)] [(.ref b73), (.int (1 : Int32)), (.ref b95)])) t
      refine XS.iconst X101.here hx rfl (hb hby at_120) ?_
      exact k
    have cq105 := f103
    obtain ⟨clq105, Arq105, qq105, Sq105, Nq105, Hq105, Gq105⟩ := cq105
    have hinq105 := inb_of (j := (1 : Int32)) Sq105 ⟨by decide, by decide⟩
    refine OwnGo.of (X101.daload hx (j := (1 : Int32)) (v := (.double df)) (by rw [e101]; exact Arq105.1) (State.isArrayOf_alike hZ.alike Arq105.2.1) Arq105.2.2 hinq105 (Hq105.at hinq105 rfl) (g := (mkF m 121 #[.val (.int p0), .val (.int p1), .val (.int p2), .val (.int p3), .val (.int p4), .val (.int p5), .val (.int (1 : Int32)), .val (.double d0), .second, .val (.double d1), .second, .val (.double d2), .second, .val (.double df), .second, .val (.double sc), .second, .val (.ref b73), .val (.ref b95)] [(.int (1 : Int32)), (.ref b73), (.int (1 : Int32)), (.ref b95)])) rfl rfl (hb hby at_121)) ?_
    show OwnGo p.tables e below _ (T101.setTop (mkF m 122 #[.val (.int p0), .val (.int p1), .val (.int p2), .val (.int p3), .val (.int p4), .val (.int p5), .val (.int (1 : Int32)), .val (.double d0), .second, .val (.double d1), .second, .val (.double d2), .second, .val (.double df), .second, .val (.double sc), .second, .val (.ref b73), .val (.ref b95)] [(.double df), (.int (1 : Int32)), (.ref b95)]))
    have cq106 := f104
    obtain ⟨clq106, Arq106, qq106, Sq106, Nq106, Hq106, Gq106⟩ := cq106
    obtain ⟨T107, h107, X107, e107, W107, st107⟩ := stD X101 hx hZ e101 Arq106 (j := (1 : Int32)) (inb_of Sq106 ⟨by decide, by decide⟩) (g := (mkF m 122 #[.val (.int p0), .val (.int p1), .val (.int p2), .val (.int p3), .val (.int p4), .val (.int p5), .val (.int (1 : Int32)), .val (.double d0), .second, .val (.double d1), .second, .val (.double d2), .second, .val (.double df), .second, .val (.double sc), .second, .val (.ref b73), .val (.ref b95)] [(.double df), (.int (1 : Int32)), (.ref b95)])) rfl rfl (hb hby at_122)
    refine OwnGo.of st107 ?_
    have N107 := Fr.snoc X107 N101 g_b95
    have f108 : n0 ≤ h107.size := Nat.le_trans f102 (Keep.of_wr W107).1
    have f109 : Arv Z h107 b73 k73 .double (4 : Int32) [(.double d0), (.double df), (.double df), (.double df)] (.double (0 : UInt64)) := f103.other W107 ne_b73_b95
    have f110 : Arv Z h107 b95 k95 .double (4 : Int32) [(.double d0), (.double df), (.double (0 : UInt64)), (.double (0 : UInt64))] (.double (0 : UInt64)) := Arv.set Arq106 qq106 Sq106 Nq106 Hq106 Gq106 rfl W107 1 rfl (Nat.le_of_ble_eq_true rfl)
    show OwnGo p.tables e below _ (T107.setTop (mkF m 123 #[.val (.int p0), .val (.int p1), .val (.int p2), .val (.int p3), .val (.int p4), .val (.int p5), .val (.int (1 : Int32)), .val (.double d0), .second, .val (.double d1), .second, .val (.double d2), .second, .val (.double df), .second, .val (.double sc), .second, .val (.ref b73), .val (.ref b95)] []))
    refine OwnGo.of (A := T107.setTop (mkF m 123 #[.val (.int p0), .val (.int p1), .val (.int p2), .val (.int p3), .val (.int p4), .val (.int p5), .val (.int (1 : Int32)), .val (.double d0), .second, .val (.double d1), .second, .val (.double d2), .second, .val (.double df), .second, .val (.double sc), .second, .val (.ref b73), .val (.ref b95)] [])) (B := T107.setTop (mkF m 129 #[.val (.int p0), .val (.int p1), .val (.int p2), .val (.int p3), .val (.int p4), .val (.int p5), .val (.int (1 : Int32)), .val (.double d0), .second, .val (.double d1), .second, .val (.double d2), .second, .val (.double df), .second, .val (.double sc), .second, .val (.ref b73), .val (.ref b95)] [(.int (2 : Int32)), (.ref b73), (.int (2 : Int32)), (.ref b95)])) (fun t k => ?_) ?_
    · show Steps p.tables e below (T107.setTop (mkF m 123 #[.val (.int p0), .val (.int p1), .val (.int p2), .val (.int p3), .val (.int p4), .val (.int p5), .val (.int (1 : Int32)), .val (.double d0), .second, .val (.double d1), .second, .val (.double d2), .second, .val (.double df), .second, .val (.double sc), .second, .val (.ref b73), .val (.ref b95)] [])) t
      refine XS.aload X107.here hx rfl (hb hby at_123) rfl rfl ?_
      show Steps p.tables e below (T107.setTop (mkF m 125 #[.val (.int p0), .val (.int p1), .val (.int p2), .val (.int p3), .val (.int p4), .val (.int p5), .val (.int (1 : Int32)), .val (.double d0), .second, .val (.double d1), .second, .val (.double d2), .second, .val (.double df), .second, .val (.double sc), .second, .val (.ref b73), .val (.ref b95)] [(.ref b95)])) t
      refine XS.iconst X107.here hx rfl (hb hby at_125) ?_
      show Steps p.tables e below (T107.setTop (mkF m 126 #[.val (.int p0), .val (.int p1), .val (.int p2), .val (.int p3), .val (.int p4), .val (.int p5), .val (.int (1 : Int32)), .val (.double d0), .second, .val (.double d1), .second, .val (.double d2), .second, .val (.double df), .second, .val (.double sc), .second, .val (.ref b73), .val (.ref b95)] [(.int (2 : Int32)), (.ref b95)])) t
      refine XS.aload X107.here hx rfl (hb hby at_126) rfl rfl ?_
      show Steps p.tables e below (T107.setTop (mkF m 128 #[.val (.int p0), .val (.int p1), .val (.int p2), .val (.int p3), .val (.int p4), .val (.int p5), .val (.int (1 : Int32)), .val (.double d0), .second, .val (.double d1), .second, .val (.double d2), .second, .val (.double df), .second, .val (.double sc), .second, .val (.ref b73), .val (.ref b95)] [(.ref b73), (.int (2 : Int32)), (.ref b95)])) t
      refine XS.iconst X107.here hx rfl (hb hby at_128) ?_
      exact k
    have cq111 := f109
    obtain ⟨clq111, Arq111, qq111, Sq111, Nq111, Hq111, Gq111⟩ := cq111
    have hinq111 := inb_of (j := (2 : Int32)) Sq111 ⟨by decide, by decide⟩
    refine OwnGo.of (X107.daload hx (j := (2 : Int32)) (v := (.double df)) (by rw [e107]; exact Arq111.1) (State.isArrayOf_alike hZ.alike Arq111.2.1) Arq111.2.2 hinq111 (Hq111.at hinq111 rfl) (g := (mkF m 129 #[.val (.int p0), .val (.int p1), .val (.int p2), .val (.int p3), .val (.int p4), .val (.int p5), .val (.int (1 : Int32)), .val (.double d0), .second, .val (.double d1), .second, .val (.double d2), .second, .val (.double df), .second, .val (.double sc), .second, .val (.ref b73), .val (.ref b95)] [(.int (2 : Int32)), (.ref b73), (.int (2 : Int32)), (.ref b95)])) rfl rfl (hb hby at_129)) ?_
    show OwnGo p.tables e below _ (T107.setTop (mkF m 130 #[.val (.int p0), .val (.int p1), .val (.int p2), .val (.int p3), .val (.int p4), .val (.int p5), .val (.int (1 : Int32)), .val (.double d0), .second, .val (.double d1), .second, .val (.double d2), .second, .val (.double df), .second, .val (.double sc), .second, .val (.ref b73), .val (.ref b95)] [(.double df), (.int (2 : Int32)), (.ref b95)]))
    have cq112 := f110
    obtain ⟨clq112, Arq112, qq112, Sq112, Nq112, Hq112, Gq112⟩ := cq112
    obtain ⟨T113, h113, X113, e113, W113, st113⟩ := stD X107 hx hZ e107 Arq112 (j := (2 : Int32)) (inb_of Sq112 ⟨by decide, by decide⟩) (g := (mkF m 130 #[.val (.int p0), .val (.int p1), .val (.int p2), .val (.int p3), .val (.int p4), .val (.int p5), .val (.int (1 : Int32)), .val (.double d0), .second, .val (.double d1), .second, .val (.double d2), .second, .val (.double df), .second, .val (.double sc), .second, .val (.ref b73), .val (.ref b95)] [(.double df), (.int (2 : Int32)), (.ref b95)])) rfl rfl (hb hby at_130)
    refine OwnGo.of st113 ?_
    have N113 := Fr.snoc X113 N107 g_b95
    have f114 : n0 ≤ h113.size := Nat.le_trans f108 (Keep.of_wr W113).1
    have f115 : Arv Z h113 b73 k73 .double (4 : Int32) [(.double d0), (.double df), (.double df), (.double df)] (.double (0 : UInt64)) := f109.other W113 ne_b73_b95
    have f116 : Arv Z h113 b95 k95 .double (4 : Int32) [(.double d0), (.double df), (.double df), (.double (0 : UInt64))] (.double (0 : UInt64)) := Arv.set Arq112 qq112 Sq112 Nq112 Hq112 Gq112 rfl W113 2 rfl (Nat.le_of_ble_eq_true rfl)
    show OwnGo p.tables e below _ (T113.setTop (mkF m 131 #[.val (.int p0), .val (.int p1), .val (.int p2), .val (.int p3), .val (.int p4), .val (.int p5), .val (.int (1 : Int32)), .val (.double d0), .second, .val (.double d1), .second, .val (.double d2), .second, .val (.double df), .second, .val (.double sc), .second, .val (.ref b73), .val (.ref b95)] []))
    refine OwnGo.of (A := T113.setTop (mkF m 131 #[.val (.int p0), .val (.int p1), .val (.int p2), .val (.int p3), .val (.int p4), .val (.int p5), .val (.int (1 : Int32)), .val (.double d0), .second, .val (.double d1), .second, .val (.double d2), .second, .val (.double df), .second, .val (.double sc), .second, .val (.ref b73), .val (.ref b95)] [])) (B := T113.setTop (mkF m 137 #[.val (.int p0), .val (.int p1), .val (.int p2), .val (.int p3), .val (.int p4), .val (.int p5), .val (.int (1 : Int32)), .val (.double d0), .second, .val (.double d1), .second, .val (.double d2), .second, .val (.double df), .second, .val (.double sc), .second, .val (.ref b73), .val (.ref b95)] [(.int (3 : Int32)), (.ref b73), (.int (3 : Int32)), (.ref b95)])) (fun t k => ?_) ?_
    · show Steps p.tables e below (T113.setTop (mkF m 131 #[.val (.int p0), .val (.int p1), .val (.int p2), .val (.int p3), .val (.int p4), .val (.int p5), .val (.int (1 : Int32)), .val (.double d0), .second, .val (.double d1), .second, .val (.double d2), .second, .val (.double df), .second, .val (.double sc), .second, .val (.ref b73), .val (.ref b95)] [])) t
      refine XS.aload X113.here hx rfl (hb hby at_131) rfl rfl ?_
      show Steps p.tables e below (T113.setTop (mkF m 133 #[.val (.int p0), .val (.int p1), .val (.int p2), .val (.int p3), .val (.int p4), .val (.int p5), .val (.int (1 : Int32)), .val (.double d0), .second, .val (.double d1), .second, .val (.double d2), .second, .val (.double df), .second, .val (.double sc), .second, .val (.ref b73), .val (.ref b95)] [(.ref b95)])) t
      refine XS.iconst X113.here hx rfl (hb hby at_133) ?_
      show Steps p.tables e below (T113.setTop (mkF m 134 #[.val (.int p0), .val (.int p1), .val (.int p2), .val (.int p3), .val (.int p4), .val (.int p5), .val (.int (1 : Int32)), .val (.double d0), .second, .val (.double d1), .second, .val (.double d2), .second, .val (.double df), .second, .val (.double sc), .second, .val (.ref b73), .val (.ref b95)] [(.int (3 : Int32)), (.ref b95)])) t
      refine XS.aload X113.here hx rfl (hb hby at_134) rfl rfl ?_
      show Steps p.tables e below (T113.setTop (mkF m 136 #[.val (.int p0), .val (.int p1), .val (.int p2), .val (.int p3), .val (.int p4), .val (.int p5), .val (.int (1 : Int32)), .val (.double d0), .second, .val (.double d1), .second, .val (.double d2), .second, .val (.double df), .second, .val (.double sc), .second, .val (.ref b73), .val (.ref b95)] [(.ref b73), (.int (3 : Int32)), (.ref b95)])) t
      refine XS.iconst X113.here hx rfl (hb hby at_136) ?_
      exact k
    have cq117 := f115
    obtain ⟨clq117, Arq117, qq117, Sq117, Nq117, Hq117, Gq117⟩ := cq117
    have hinq117 := inb_of (j := (3 : Int32)) Sq117 ⟨by decide, by decide⟩
    refine OwnGo.of (X113.daload hx (j := (3 : Int32)) (v := (.double df)) (by rw [e113]; exact Arq117.1) (State.isArrayOf_alike hZ.alike Arq117.2.1) Arq117.2.2 hinq117 (Hq117.at hinq117 rfl) (g := (mkF m 137 #[.val (.int p0), .val (.int p1), .val (.int p2), .val (.int p3), .val (.int p4), .val (.int p5), .val (.int (1 : Int32)), .val (.double d0), .second, .val (.double d1), .second, .val (.double d2), .second, .val (.double df), .second, .val (.double sc), .second, .val (.ref b73), .val (.ref b95)] [(.int (3 : Int32)), (.ref b73), (.int (3 : Int32)), (.ref b95)])) rfl rfl (hb hby at_137)) ?_
    show OwnGo p.tables e below _ (T113.setTop (mkF m 138 #[.val (.int p0), .val (.int p1), .val (.int p2), .val (.int p3), .val (.int p4), .val (.int p5), .val (.int (1 : Int32)), .val (.double d0), .second, .val (.double d1), .second, .val (.double d2), .second, .val (.double df), .second, .val (.double sc), .second, .val (.ref b73), .val (.ref b95)] [(.double df), (.int (3 : Int32)), (.ref b95)]))
    have cq118 := f116
    obtain ⟨clq118, Arq118, qq118, Sq118, Nq118, Hq118, Gq118⟩ := cq118
    obtain ⟨T119, h119, X119, e119, W119, st119⟩ := stD X113 hx hZ e113 Arq118 (j := (3 : Int32)) (inb_of Sq118 ⟨by decide, by decide⟩) (g := (mkF m 138 #[.val (.int p0), .val (.int p1), .val (.int p2), .val (.int p3), .val (.int p4), .val (.int p5), .val (.int (1 : Int32)), .val (.double d0), .second, .val (.double d1), .second, .val (.double d2), .second, .val (.double df), .second, .val (.double sc), .second, .val (.ref b73), .val (.ref b95)] [(.double df), (.int (3 : Int32)), (.ref b95)])) rfl rfl (hb hby at_138)
    refine OwnGo.of st119 ?_
    have N119 := Fr.snoc X119 N113 g_b95
    have f120 : n0 ≤ h119.size := Nat.le_trans f114 (Keep.of_wr W119).1
    have f121 : Arv Z h119 b73 k73 .double (4 : Int32) [(.double d0), (.double df), (.double df), (.double df)] (.double (0 : UInt64)) := f115.other W119 ne_b73_b95
    have f122 : Arv Z h119 b95 k95 .double (4 : Int32) [(.double d0), (.double df), (.double df), (.double df)] (.double (0 : UInt64)) := Arv.set Arq118 qq118 Sq118 Nq118 Hq118 Gq118 rfl W119 3 rfl (Nat.le_of_ble_eq_true rfl)
    show OwnGo p.tables e below _ (T119.setTop (mkF m 139 #[.val (.int p0), .val (.int p1), .val (.int p2), .val (.int p3), .val (.int p4), .val (.int p5), .val (.int (1 : Int32)), .val (.double d0), .second, .val (.double d1), .second, .val (.double d2), .second, .val (.double df), .second, .val (.double sc), .second, .val (.ref b73), .val (.ref b95)] []))
    refine OwnGo.of (A := T119.setTop (mkF m 139 #[.val (.int p0), .val (.int p1), .val (.int p2), .val (.int p3), .val (.int p4), .val (.int p5), .val (.int (1 : Int32)), .val (.double d0), .second, .val (.double d1), .second, .val (.double d2), .second, .val (.double df), .second, .val (.double sc), .second, .val (.ref b73), .val (.ref b95)] [])) (B := T119.setTop (mkF m 141 #[.val (.int p0), .val (.int p1), .val (.int p2), .val (.int p3), .val (.int p4), .val (.int p5), .val (.int (1 : Int32)), .val (.double d0), .second, .val (.double d1), .second, .val (.double d2), .second, .val (.double df), .second, .val (.double sc), .second, .val (.ref b73), .val (.ref b95)] [(.int (1 : Int32))])) (fun t k => ?_) ?_
    · show Steps p.tables e below (T119.setTop (mkF m 139 #[.val (.int p0), .val (.int p1), .val (.int p2), .val (.int p3), .val (.int p4), .val (.int p5), .val (.int (1 : Int32)), .val (.double d0), .second, .val (.double d1), .second, .val (.double d2), .second, .val (.double df), .second, .val (.double sc), .second, .val (.ref b73), .val (.ref b95)] [])) t
      refine XS.iload X119.here hx rfl (hb hby at_139) rfl ?_
      exact k
    have hc123 : ¬ ((1 : Int32) = (0 : Int32)) := by decide
    refine OwnGo.of (A := T119.setTop (mkF m 141 #[.val (.int p0), .val (.int p1), .val (.int p2), .val (.int p3), .val (.int p4), .val (.int p5), .val (.int (1 : Int32)), .val (.double d0), .second, .val (.double d1), .second, .val (.double d2), .second, .val (.double df), .second, .val (.double sc), .second, .val (.ref b73), .val (.ref b95)] [(.int (1 : Int32))])) (B := T119.setTop (mkF m 156 #[.val (.int p0), .val (.int p1), .val (.int p2), .val (.int p3), .val (.int p4), .val (.int p5), .val (.int (1 : Int32)), .val (.double d0), .second, .val (.double d1), .second, .val (.double d2), .second, .val (.double df), .second, .val (.double sc), .second, .val (.ref b73), .val (.ref b95)] [(.int (1 : Int32)), (.int (1 : Int32))])) (fun t k => ?_) ?_
    · show Steps p.tables e below (T119.setTop (mkF m 141 #[.val (.int p0), .val (.int p1), .val (.int p2), .val (.int p3), .val (.int p4), .val (.int p5), .val (.int (1 : Int32)), .val (.double d0), .second, .val (.double d1), .second, .val (.double d2), .second, .val (.double df), .second, .val (.double sc), .second, .val (.ref b73), .val (.ref b95)] [(.int (1 : Int32))])) t
      refine XS.ifYes X119.here hx rfl (pc0 := 141) (pc' := 153) rfl (hb hby at_141) rfl ((if0 _ _).trans (feq hc123).2) (by decide) (by decide) ?_
      show Steps p.tables e below (T119.setTop (mkF m 153 #[.val (.int p0), .val (.int p1), .val (.int p2), .val (.int p3), .val (.int p4), .val (.int p5), .val (.int (1 : Int32)), .val (.double d0), .second, .val (.double d1), .second, .val (.double d2), .second, .val (.double df), .second, .val (.double sc), .second, .val (.ref b73), .val (.ref b95)] [])) t
      refine XS.iload X119.here hx rfl (hb hby at_153) rfl ?_
      show Steps p.tables e below (T119.setTop (mkF m 155 #[.val (.int p0), .val (.int p1), .val (.int p2), .val (.int p3), .val (.int p4), .val (.int p5), .val (.int (1 : Int32)), .val (.double d0), .second, .val (.double d1), .second, .val (.double d2), .second, .val (.double df), .second, .val (.double sc), .second, .val (.ref b73), .val (.ref b95)] [(.int (1 : Int32))])) t
      refine XS.iconst X119.here hx rfl (hb hby at_155) ?_
      exact k
    have hc124 : (1 : Int32) = (1 : Int32) := by decide
    refine OwnGo.of (A := T119.setTop (mkF m 156 #[.val (.int p0), .val (.int p1), .val (.int p2), .val (.int p3), .val (.int p4), .val (.int p5), .val (.int (1 : Int32)), .val (.double d0), .second, .val (.double d1), .second, .val (.double d2), .second, .val (.double df), .second, .val (.double sc), .second, .val (.ref b73), .val (.ref b95)] [(.int (1 : Int32)), (.int (1 : Int32))])) (B := T119.setTop (mkF m 164 #[.val (.int p0), .val (.int p1), .val (.int p2), .val (.int p3), .val (.int p4), .val (.int p5), .val (.int (1 : Int32)), .val (.double d0), .second, .val (.double d1), .second, .val (.double d2), .second, .val (.double df), .second, .val (.double sc), .second, .val (.ref b73), .val (.ref b95)] [(.int (cmpValue (FP.dcmp d0 sc) .l))])) (fun t k => ?_) ?_
    · show Steps p.tables e below (T119.setTop (mkF m 156 #[.val (.int p0), .val (.int p1), .val (.int p2), .val (.int p3), .val (.int p4), .val (.int p5), .val (.int (1 : Int32)), .val (.double d0), .second, .val (.double d1), .second, .val (.double d2), .second, .val (.double df), .second, .val (.double sc), .second, .val (.ref b73), .val (.ref b95)] [(.int (1 : Int32)), (.int (1 : Int32))])) t
      refine XS.icmpNo X119.here hx rfl (hb hby at_156) rfl (teq hc124).2 ?_
      show Steps p.tables e below (T119.setTop (mkF m 159 #[.val (.int p0), .val (.int p1), .val (.int p2), .val (.int p3), .val (.int p4), .val (.int p5), .val (.int (1 : Int32)), .val (.double d0), .second, .val (.double d1), .second, .val (.double d2), .second, .val (.double df), .second, .val (.double sc), .second, .val (.ref b73), .val (.ref b95)] [])) t
      refine XS.dload X119.here hx rfl (hb hby at_159) rfl ?_
      show Steps p.tables e below (T119.setTop (mkF m 161 #[.val (.int p0), .val (.int p1), .val (.int p2), .val (.int p3), .val (.int p4), .val (.int p5), .val (.int (1 : Int32)), .val (.double d0), .second, .val (.double d1), .second, .val (.double d2), .second, .val (.double df), .second, .val (.double sc), .second, .val (.ref b73), .val (.ref b95)] [(.double d0)])) t
      refine XS.dload X119.here hx rfl (hb hby at_161) rfl ?_
      show Steps p.tables e below (T119.setTop (mkF m 163 #[.val (.int p0), .val (.int p1), .val (.int p2), .val (.int p3), .val (.int p4), .val (.int p5), .val (.int (1 : Int32)), .val (.double d0), .second, .val (.double d1), .second, .val (.double d2), .second, .val (.double df), .second, .val (.double sc), .second, .val (.ref b73), .val (.ref b95)] [(.double sc), (.double d0)])) t
      refine XS.dcmpS X119.here hx rfl (hb hby at_163) rfl rfl ?_
      exact k
    by_cases hc125 : (0 : Int32) < (cmpValue (FP.dcmp d0 sc) .l)
    · refine OwnGo.of (A := T119.setTop (mkF m 164 #[.val (.int p0), .val (.int p1), .val (.int p2), .val (.int p3), .val (.int p4), .val (.int p5), .val (.int (1 : Int32)), .val (.double d0), .second, .val (.double d1), .second, .val (.double d2), .second, .val (.double df), .second, .val (.double sc), .second, .val (.ref b73), .val (.ref b95)] [(.int (cmpValue (FP.dcmp d0 sc) .l))])) (B := T119.setTop (mkF m 172 #[.val (.int p0), .val (.int p1), .val (.int p2), .val (.int p3), .val (.int p4), .val (.int p5), .val (.int (1 : Int32)), .val (.double d0), .second, .val (.double d1), .second, .val (.double d2), .second, .val (.double df), .second, .val (.double sc), .second, .val (.ref b73), .val (.ref b95)] [(.double d0), (.int (1 : Int32)), (.ref b95)])) (fun t k => ?_) ?_
      · show Steps p.tables e below (T119.setTop (mkF m 164 #[.val (.int p0), .val (.int p1), .val (.int p2), .val (.int p3), .val (.int p4), .val (.int p5), .val (.int (1 : Int32)), .val (.double d0), .second, .val (.double d1), .second, .val (.double d2), .second, .val (.double df), .second, .val (.double sc), .second, .val (.ref b73), .val (.ref b95)] [(.int (cmpValue (FP.dcmp d0 sc) .l))])) t
        refine XS.ifNo X119.here hx rfl (hb hby at_164) rfl ((if0 _ _).trans (tlt hc125).2.2.2) ?_
        show Steps p.tables e below (T119.setTop (mkF m 167 #[.val (.int p0), .val (.int p1), .val (.int p2), .val (.int p3), .val (.int p4), .val (.int p5), .val (.int (1 : Int32)), .val (.double d0), .second, .val (.double d1), .second, .val (.double d2), .second, .val (.double df), .second, .val (.double sc), .second, .val (.ref b73), .val (.ref b95)] [])) t
        refine XS.aload X119.here hx rfl (hb hby at_167) rfl rfl ?_
        show Steps p.tables e below (T119.setTop (mkF m 169 #[.val (.int p0), .val (.int p1), .val (.int p2), .val (.int p3), .val (.int p4), .val (.int p5), .val (.int (1 : Int32)), .val (.double d0), .second, .val (.double d1), .second, .val (.double d2), .second, .val (.double df), .second, .val (.double sc), .second, .val (.ref b73), .val (.ref b95)] [(.ref b95)])) t
        refine XS.iconst X119.here hx rfl (hb hby at_169) ?_
        show Steps p.tables e below (T119.setTop (mkF m 170 #[.val (.int p0), .val (.int p1), .val (.int p2), .val (.int p3), .val (.int p4), .val (.int p5), .val (.int (1 : Int32)), .val (.double d0), .second, .val (.double d1), .second, .val (.double d2), .second, .val (.double df), .second, .val (.double sc), .second, .val (.ref b73), .val (.ref b95)] [(.int (1 : Int32)), (.ref b95)])) t
        refine XS.dload X119.here hx rfl (hb hby at_170) rfl ?_
        exact k
      have cq126 := f122
      obtain ⟨clq126, Arq126, qq126, Sq126, Nq126, Hq126, Gq126⟩ := cq126
      obtain ⟨T127, h127, X127, e127, W127, st127⟩ := stD X119 hx hZ e119 Arq126 (j := (1 : Int32)) (inb_of Sq126 ⟨by decide, by decide⟩) (g := (mkF m 172 #[.val (.int p0), .val (.int p1), .val (.int p2), .val (.int p3), .val (.int p4), .val (.int p5), .val (.int (1 : Int32)), .val (.double d0), .second, .val (.double d1), .second, .val (.double d2), .second, .val (.double df), .second, .val (.double sc), .second, .val (.ref b73), .val (.ref b95)] [(.double d0), (.int (1 : Int32)), (.ref b95)])) rfl rfl (hb hby at_172)
      refine OwnGo.of st127 ?_
      have N127 := Fr.snoc X127 N119 g_b95
      have f128 : n0 ≤ h127.size := Nat.le_trans f120 (Keep.of_wr W127).1
      have f129 : Arv Z h127 b73 k73 .double (4 : Int32) [(.double d0), (.double df), (.double df), (.double df)] (.double (0 : UInt64)) := f121.other W127 ne_b73_b95
      have f130 : Arv Z h127 b95 k95 .double (4 : Int32) [(.double d0), (.double d0), (.double df), (.double df)] (.double (0 : UInt64)) := Arv.set Arq126 qq126 Sq126 Nq126 Hq126 Gq126 rfl W127 1 rfl (Nat.le_of_ble_eq_true rfl)
      show OwnGo p.tables e below _ (T127.setTop (mkF m 173 #[.val (.int p0), .val (.int p1), .val (.int p2), .val (.int p3), .val (.int p4), .val (.int p5), .val (.int (1 : Int32)), .val (.double d0), .second, .val (.double d1), .second, .val (.double d2), .second, .val (.double df), .second, .val (.double sc), .second, .val (.ref b73), .val (.ref b95)] []))
      refine OwnGo.of (A := T127.setTop (mkF m 173 #[.val (.int p0), .val (.int p1), .val (.int p2), .val (.int p3), .val (.int p4), .val (.int p5), .val (.int (1 : Int32)), .val (.double d0), .second, .val (.double d1), .second, .val (.double d2), .second, .val (.double df), .second, .val (.double sc), .second, .val (.ref b73), .val (.ref b95)] [])) (B := T127.setTop (mkF m 178 #[.val (.int p0), .val (.int p1), .val (.int p2), .val (.int p3), .val (.int p4), .val (.int p5), .val (.int (1 : Int32)), .val (.double d0), .second, .val (.double d1), .second, .val (.double d2), .second, .val (.double df), .second, .val (.double sc), .second, .val (.ref b73), .val (.ref b95)] [(.double sc), (.int (0 : Int32)), (.ref b95)])) (fun t k => ?_) ?_
      · show Steps p.tables e below (T127.setTop (mkF m 173 #[.val (.int p0), .val (.int p1), .val (.int p2), .val (.int p3), .val (.int p4), .val (.int p5), .val (.int (1 : Int32)), .val (.double d0), .second, .val (.double d1), .second, .val (.double d2), .second, .val (.double df), .second, .val (.double sc), .second, .val (.ref b73), .val (.ref b95)] [])) t
        refine XS.aload X127.here hx rfl (hb hby at_173) rfl rfl ?_
        show Steps p.tables e below (T127.setTop (mkF m 175 #[.val (.int p0), .val (.int p1), .val (.int p2), .val (.int p3), .val (.int p4), .val (.int p5), .val (.int (1 : Int32)), .val (.double d0), .second, .val (.double d1), .second, .val (.double d2), .second, .val (.double df), .second, .val (.double sc), .second, .val (.ref b73), .val (.ref b95)] [(.ref b95)])) t
        refine XS.iconst X127.here hx rfl (hb hby at_175) ?_
        show Steps p.tables e below (T127.setTop (mkF m 176 #[.val (.int p0), .val (.int p1), .val (.int p2), .val (.int p3), .val (.int p4), .val (.int p5), .val (.int (1 : Int32)), .val (.double d0), .second, .val (.double d1), .second, .val (.double d2), .second, .val (.double df), .second, .val (.double sc), .second, .val (.ref b73), .val (.ref b95)] [(.int (0 : Int32)), (.ref b95)])) t
        refine XS.dload X127.here hx rfl (hb hby at_176) rfl ?_
        exact k
      have cq131 := f130
      obtain ⟨clq131, Arq131, qq131, Sq131, Nq131, Hq131, Gq131⟩ := cq131
      obtain ⟨T132, h132, X132, e132, W132, st132⟩ := stD X127 hx hZ e127 Arq131 (j := (0 : Int32)) (inb_of Sq131 ⟨by decide, by decide⟩) (g := (mkF m 178 #[.val (.int p0), .val (.int p1), .val (.int p2), .val (.int p3), .val (.int p4), .val (.int p5), .val (.int (1 : Int32)), .val (.double d0), .second, .val (.double d1), .second, .val (.double d2), .second, .val (.double df), .second, .val (.double sc), .second, .val (.ref b73), .val (.ref b95)] [(.double sc), (.int (0 : Int32)), (.ref b95)])) rfl rfl (hb hby at_178)
      refine OwnGo.of st132 ?_
      have N132 := Fr.snoc X132 N127 g_b95
      have f133 : n0 ≤ h132.size := Nat.le_trans f128 (Keep.of_wr W132).1
      have f134 : Arv Z h132 b73 k73 .double (4 : Int32) [(.double d0), (.double df), (.double df), (.double df)] (.double (0 : UInt64)) := f129.other W132 ne_b73_b95
      have f135 : Arv Z h132 b95 k95 .double (4 : Int32) [(.double sc), (.double d0), (.double df), (.double df)] (.double (0 : UInt64)) := Arv.set Arq131 qq131 Sq131 Nq131 Hq131 Gq131 rfl W132 0 rfl (Nat.le_of_ble_eq_true rfl)
      show OwnGo p.tables e below _ (T132.setTop (mkF m 179 #[.val (.int p0), .val (.int p1), .val (.int p2), .val (.int p3), .val (.int p4), .val (.int p5), .val (.int (1 : Int32)), .val (.double d0), .second, .val (.double d1), .second, .val (.double d2), .second, .val (.double df), .second, .val (.double sc), .second, .val (.ref b73), .val (.ref b95)] []))
      refine OwnGo.of (A := T132.setTop (mkF m 179 #[.val (.int p0), .val (.int p1), .val (.int p2), .val (.int p3), .val (.int p4), .val (.int p5), .val (.int (1 : Int32)), .val (.double d0), .second, .val (.double d1), .second, .val (.double d2), .second, .val (.double df), .second, .val (.double sc), .second, .val (.ref b73), .val (.ref b95)] [])) (B := T132.setTop (mkF m 287 #[.val (.int p0), .val (.int p1), .val (.int p2), .val (.int p3), .val (.int p4), .val (.int p5), .val (.int (1 : Int32)), .val (.double d0), .second, .val (.double d1), .second, .val (.double d2), .second, .val (.double df), .second, .val (.double sc), .second, .val (.ref b73), .val (.ref b95)] [(.double sc), (.int (1 : Int32)), (.ref b73)])) (fun t k => ?_) ?_
      · show Steps p.tables e below (T132.setTop (mkF m 179 #[.val (.int p0), .val (.int p1), .val (.int p2), .val (.int p3), .val (.int p4), .val (.int p5), .val (.int (1 : Int32)), .val (.double d0), .second, .val (.double d1), .second, .val (.double d2), .second, .val (.double df), .second, .val (.double sc), .second, .val (.ref b73), .val (.ref b95)] [])) t
        refine XS.goto X132.here hx rfl (pc0 := 179) (pc' := 281) rfl (hb hby at_179) (by decide) (by decide) ?_
        show Steps p.tables e below (T132.setTop (mkF m 281 #[.val (.int p0), .val (.int p1), .val (.int p2), .val (.int p3), .val (.int p4), .val (.int p5), .val (.int (1 : Int32)), .val (.double d0), .second, .val (.double d1), .second, .val (.double d2), .second, .val (.double df), .second, .val (.double sc), .second, .val (.ref b73), .val (.ref b95)] [])) t
        refine XS.aload X132.here hx rfl (hb hby at_281) rfl rfl ?_
        show Steps p.tables e below (T132.setTop (mkF m 283 #[.val (.int p0), .val (.int p1), .val (.int p2), .val (.int p3), .val (.int p4), .val (.int p5), .val (.int (1 : Int32)), .val (.double d0), .second, .val (.double d1), .second, .val (.double d2), .second, .val (.double df), .second, .val (.double sc), .second, .val (.ref b73), .val (.ref b95)] [(.ref b73)])) t
        refine XS.iload X132.here hx rfl (hb hby at_283) rfl ?_
        show Steps p.tables e below (T132.setTop (mkF m 285 #[.val (.int p0), .val (.int p1), .val (.int p2), .val (.int p3), .val (.int p4), .val (.int p5), .val (.int (1 : Int32)), .val (.double d0), .second, .val (.double d1), .second, .val (.double d2), .second, .val (.double df), .second, .val (.double sc), .second, .val (.ref b73), .val (.ref b95)] [(.int (1 : Int32)), (.ref b73)])) t
        refine XS.dload X132.here hx rfl (hb hby at_285) rfl ?_
        exact k
      obtain ⟨T136, L136, v136, X136, hQ136, st136⟩ := own_callS X132 hx (y := (⟨"com/example/rankwright/rankwright/rank/Accumulator", "siftUp", "([DID)V"⟩ : MethodName)) hown (mvT hZ (hw _ (List.mem_of_getElem? (i := 2) rfl))) (mvT hZ (hw _ (List.mem_of_getElem? (i := 3) rfl))) (mvT hZ (hw _ (List.mem_of_getElem? (i := 4) rfl))) (mvT hZ (hw _ (List.mem_of_getElem? (i := 5) rfl))) (by decide) (backOf (W := 0) (rm1_1t l Z aw hw [] b73 sc d0 df df df k73 h132 n0 f133 f134 g_b73 hc125) hZ (hw _ (List.mem_of_getElem? (i := 5) rfl)) (hw _ (List.mem_of_getElem? (i := 4) rfl)) (by decide) (by decide)) (g := (mkF m 287 #[.val (.int p0), .val (.int p1), .val (.int p2), .val (.int p3), .val (.int p4), .val (.int p5), .val (.int (1 : Int32)), .val (.double d0), .second, .val (.double d1), .second, .val (.double d2), .second, .val (.double df), .second, .val (.double sc), .second, .val (.ref b73), .val (.ref b95)] [(.double sc), (.int (1 : Int32)), (.ref b73)])) rfl (by rw [hml]; rfl) (argsL := [(.ref b73), (.int (1 : Int32)), (.double sc)]) (rest := []) (lenOf pd_1 rfl) rfl (by show 2 * 0 + _ ≤ _; exact Nat.le_of_eq rfl) (hb hby at_287) rfl e132 (by decide) (by decide)
      obtain ⟨rfl, N136q, K136, y136_0⟩ := hQ136
      have f137 : n0 ≤ T136.heap.size := Nat.le_trans f133 K136.1
      have f138 : Arv Z T136.heap b95 k95 .double (4 : Int32) [(.double sc), (.double d0), (.double df), (.double df)] (.double (0 : UInt64)) := f135.keep K136 (ninS (Ne.symm ne_b73_b95) nin0)
      have N136 := Fr.app N132 N136q
      refine OwnGo.of st136 ?_
      show OwnGo p.tables e below _ (T136.setTop (mkF m 290 #[.val (.int p0), .val (.int p1), .val (.int p2), .val (.int p3), .val (.int p4), .val (.int p5), .val (.int (1 : Int32)), .val (.double d0), .second, .val (.double d1), .second, .val (.double d2), .second, .val (.double df), .second, .val (.double sc), .second, .val (.ref b73), .val (.ref b95)] []))
      refine OwnGo.of (A := T136.setTop (mkF m 290 #[.val (.int p0), .val (.int p1), .val (.int p2), .val (.int p3), .val (.int p4), .val (.int p5), .val (.int (1 : Int32)), .val (.double d0), .second, .val (.double d1), .second, .val (.double d2), .second, .val (.double df), .second, .val (.double sc), .second, .val (.ref b73), .val (.ref b95)] [])) (B := T136.setTop (mkF m 293 #[.val (.int p0), .val (.int p1), .val (.int p2), .val (.int p3), .val (.int p4), .val (.int p5), .val (.int (1 : Int32)), .val (.double d0), .second, .val (.double d1), .second, .val (.double d2), .second, .val (.double df), .second, .val (.double sc), .second, .val (.ref b73), .val (.ref b95)] [(.int (0 : Int32)), (.ref b73)])) (fun t k => ?_) ?_
      · show Steps p.tables e below (T136.setTop (mkF m 290 #[.val (.int p0), .val (.int p1), .val (.int p2), .val (.int p3), .val (.int p4), .val (.int p5), .val (.int (1 : Int32)), .val (.double d0), .second, .val (.double d1), .second, .val (.double d2), .second, .val (.double df), .second, .val (.double sc), .second, .val (.ref b73), .val (.ref b95)] [])) t
        refine XS.aload X136.here hx rfl (hb hby at_290) rfl rfl ?_
        show Steps p.tables e below (T136.setTop (mkF m 292 #[.val (.int p0), .val (.int p1), .val (.int p2), .val (.int p3), .val (.int p4), .val (.int p5), .val (.int (1 : Int32)), .val (.double d0), .second, .val (.double d1), .second, .val (.double d2), .second, .val (.double df), .second, .val (.double sc), .second, .val (.ref b73), .val (.ref b95)] [(.ref b73)])) t
        refine XS.iconst X136.here hx rfl (hb hby at_292) ?_
        exact k
      have cq139 := y136_0
      obtain ⟨clq139, Arq139, qq139, Sq139, Nq139, Hq139, Gq139⟩ := cq139
      have hinq139 := inb_of (j := (0 : Int32)) Sq139 ⟨by decide, by decide⟩
      refine OwnGo.of (X136.daload hx (j := (0 : Int32)) (v := (.double sc)) Arq139.1 (State.isArrayOf_alike hZ.alike Arq139.2.1) Arq139.2.2 hinq139 (Hq139.at hinq139 rfl) (g := (mkF m 293 #[.val (.int p0), .val (.int p1), .val (.int p2), .val (.int p3), .val (.int p4), .val (.int p5), .val (.int (1 : Int32)), .val (.double d0), .second, .val (.double d1), .second, .val (.double d2), .second, .val (.double df), .second, .val (.double sc), .second, .val (.ref b73), .val (.ref b95)] [(.int (0 : Int32)), (.ref b73)])) rfl rfl (hb hby at_293)) ?_
      show OwnGo p.tables e below _ (T136.setTop (mkF m 294 #[.val (.int p0), .val (.int p1), .val (.int p2), .val (.int p3), .val (.int p4), .val (.int p5), .val (.int (1 : Int32)), .val (.double d0), .second, .val (.double d1), .second, .val (.double d2), .second, .val (.double df), .second, .val (.double sc), .second, .val (.ref b73), .val (.ref b95)] [(.double sc)]))
      refine OwnGo.of (A := T136.setTop (mkF m 294 #[.val (.int p0), .val (.int p1), .val (.int p2), .val (.int p3), .val (.int p4), .val (.int p5), .val (.int (1 : Int32)), .val (.double d0), .second, .val (.double d1), .second, .val (.double d2), .second, .val (.double df), .second, .val (.double sc), .second, .val (.ref b73), .val (.ref b95)] [(.double sc)])) (B := T136.setTop (mkF m 297 #[.val (.int p0), .val (.int p1), .val (.int p2), .val (.int p3), .val (.int p4), .val (.int p5), .val (.int (1 : Int32)), .val (.double d0), .second, .val (.double d1), .second, .val (.double d2), .second, .val (.double df), .second, .val (.double sc), .second, .val (.ref b73), .val (.ref b95)] [(.int (0 : Int32)), (.ref b95), (.double sc)])) (fun t k => ?_) ?_
      · show Steps p.tables e below (T136.setTop (mkF m 294 #[.val (.int p0), .val (.int p1), .val (.int p2), .val (.int p3), .val (.int p4), .val (.int p5), .val (.int (1 : Int32)), .val (.double d0), .second, .val (.double d1), .second, .val (.double d2), .second, .val (.double df), .second, .val (.double sc), .second, .val (.ref b73), .val (.ref b95)] [(.double sc)])) t
        refine XS.aload X136.here hx rfl (hb hby at_294) rfl rfl ?_
        show Steps p.tables e below (T136.setTop (mkF m 296 #[.val (.int p0), .val (.int p1), .val (.int p2), .val (.int p3), .val (.int p4), .val (.int p5), .val (.int (1 : Int32)), .val (.double d0), .second, .val (.double d1), .second, .val (.double d2), .second, .val (.double df), .second, .val (.double sc), .second, .val (.ref b73), .val (.ref b95)] [(.ref b95), (.double sc)])) t
        refine XS.iconst X136.here hx rfl (hb hby at_296) ?_
        exact k
      have cq140 := f138
      obtain ⟨clq140, Arq140, qq140, Sq140, Nq140, Hq140, Gq140⟩ := cq140
      have hinq140 := inb_of (j := (0 : Int32)) Sq140 ⟨by decide, by decide⟩
      refine OwnGo.of (X136.daload hx (j := (0 : Int32)) (v := (.double sc)) Arq140.1 (State.isArrayOf_alike hZ.alike Arq140.2.1) Arq140.2.2 hinq140 (Hq140.at hinq140 rfl) (g := (mkF m 297 #[.val (.int p0), .val (.int p1), .val (.int p2), .val (.int p3), .val (.int p4), .val (.int p5), .val (.int (1 : Int32)), .val (.double d0), .second, .val (.double d1), .second, .val (.double d2), .second, .val (.double df), .second, .val (.double sc), .second, .val (.ref b73), .val (.ref b95)] [(.int (0 : Int32)), (.ref b95), (.double sc)])) rfl rfl (hb hby at_297)) ?_
      show OwnGo p.tables e below _ (T136.setTop (mkF m 298 #[.val (.int p0), .val (.int p1), .val (.int p2), .val (.int p3), .val (.int p4), .val (.int p5), .val (.int (1 : Int32)), .val (.double d0), .second, .val (.double d1), .second, .val (.double d2), .second, .val (.double df), .second, .val (.double sc), .second, .val (.ref b73), .val (.ref b95)] [(.double sc), (.double sc)]))
      refine OwnGo.of (A := T136.setTop (mkF m 298 #[.val (.int p0), .val (.int p1), .val (.int p2), .val (.int p3), .val (.int p4), .val (.int p5), .val (.int (1 : Int32)), .val (.double d0), .second, .val (.double d1), .second, .val (.double d2), .second, .val (.double df), .second, .val (.double sc), .second, .val (.ref b73), .val (.ref b95)] [(.double sc), (.double sc)])) (B := T136.setTop (mkF m 299 #[.val (.int p0), .val (.int p1), .val (.int p2), .val (.int p3), .val (.int p4), .val (.int p5), .val (.int (1 : Int32)), .val (.double d0), .second, .val (.double d1), .second, .val (.double d2), .second, .val (.double df), .second, .val (.double sc), .second, .val (.ref b73), .val (.ref b95)] [(.int (cmpValue (FP.dcmp sc sc) .l))])) (fun t k => ?_) ?_
      · show Steps p.tables e below (T136.setTop (mkF m 298 #[.val (.int p0), .val (.int p1), .val (.int p2), .val (.int p3), .val (.int p4), .val (.int p5), .val (.int (1 : Int32)), .val (.double d0), .second, .val (.double d1), .second, .val (.double d2), .second, .val (.double df), .second, .val (.double sc), .second, .val (.ref b73), .val (.ref b95)] [(.double sc), (.double sc)])) t
        refine XS.dcmpS X136.here hx rfl (hb hby at_298) rfl rfl ?_
        exact k
      have hc141 : (cmpValue (FP.dcmp sc sc) .l) = (0 : Int32) := dcmpV_self nsc .l
      refine OwnGo.of (A := T136.setTop (mkF m 299 #[.val (.int p0), .val (.int p1), .val (.int p2), .val (.int p3), .val (.int p4), .val (.int p5), .val (.int (1 : Int32)), .val (.double d0), .second, .val (.double d1), .second, .val (.double d2), .second, .val (.double df), .second, .val (.double sc), .second, .val (.ref b73), .val (.ref b95)] [(.int (cmpValue (FP.dcmp sc sc) .l))])) (B := T136.setTop (mkF m 305 #[.val (.int p0), .val (.int p1), .val (.int p2), .val (.int p3), .val (.int p4), .val (.int p5), .val (.int (1 : Int32)), .val (.double d0), .second, .val (.double d1), .second, .val (.double d2), .second, .val (.double df), .second, .val (.double sc), .second, .val (.ref b73), .val (.ref b95)] [(.int (1 : Int32)), (.ref b73)])) (fun t k => ?_) ?_
      · show Steps p.tables e below (T136.setTop (mkF m 299 #[.val (.int p0), .val (.int p1), .val (.int p2), .val (.int p3), .val (.int p4), .val (.int p5), .val (.int (1 : Int32)), .val (.double d0), .second, .val (.double d1), .second, .val (.double d2), .second, .val (.double df), .second, .val (.double sc), .second, .val (.ref b73), .val (.ref b95)] [(.int (cmpValue (FP.dcmp sc sc) .l))])) t
        refine XS.ifNo X136.here hx rfl (hb hby at_299) rfl ((if0 _ _).trans (teq hc141).2) ?_
        show Steps p.tables e below (T136.setTop (mkF m 302 #[.val (.int p0), .val (.int p1), .val (.int p2), .val (.int p3), .val (.int p4), .val (.int p5), .val (.int (1 : Int32)), .val (.double d0), .second, .val (.double d1), .second, .val (.double d2), .second, .val (.double df), .second, .val (.double sc), .second, .val (.ref b73), .val (.ref b95)] [])) t
        refine XS.aload X136.here hx rfl (hb hby at_302) rfl rfl ?_
        show Steps p.tables e below (T136.setTop (mkF m 304 #[.val (.int p0), .val (.int p1), .val (.int p2), .val (.int p3), .val (.int p4), .val (.int p5), .val (.int (1 : Int32)), .val (.double d0), .second, .val (.double d1), .second, .val (.double d2), .second, .val (.double df), .second, .val (.double sc), .second, .val (.ref b73), .val (.ref b95)] [(.ref b73)])) t
        refine XS.iconst X136.here hx rfl (hb hby at_304) ?_
        exact k
      have cq142 := y136_0
      obtain ⟨clq142, Arq142, qq142, Sq142, Nq142, Hq142, Gq142⟩ := cq142
      have hinq142 := inb_of (j := (1 : Int32)) Sq142 ⟨by decide, by decide⟩
      refine OwnGo.of (X136.daload hx (j := (1 : Int32)) (v := (.double d0)) Arq142.1 (State.isArrayOf_alike hZ.alike Arq142.2.1) Arq142.2.2 hinq142 (Hq142.at hinq142 rfl) (g := (mkF m 305 #[.val (.int p0), .val (.int p1), .val (.int p2), .val (.int p3), .val (.int p4), .val (.int p5), .val (.int (1 : Int32)), .val (.double d0), .second, .val (.double d1), .second, .val (.double d2), .second, .val (.double df), .second, .val (.double sc), .second, .val (.ref b73), .val (.ref b95)] [(.int (1 : Int32)), (.ref b73)])) rfl rfl (hb hby at_305)) ?_
      show OwnGo p.tables e below _ (T136.setTop (mkF m 306 #[.val (.int p0), .val (.int p1), .val (.int p2), .val (.int p3), .val (.int p4), .val (.int p5), .val (.int (1 : Int32)), .val (.double d0), .second, .val (.double d1), .second, .val (.double d2), .second, .val (.double df), .second, .val (.double sc), .second, .val (.ref b73), .val (.ref b95)] [(.double d0)]))
      refine OwnGo.of (A := T136.setTop (mkF m 306 #[.val (.int p0), .val (.int p1), .val (.int p2), .val (.int p3), .val (.int p4), .val (.int p5), .val (.int (1 : Int32)), .val (.double d0), .second, .val (.double d1), .second, .val (.double d2), .second, .val (.double df), .second, .val (.double sc), .second, .val (.ref b73), .val (.ref b95)] [(.double d0)])) (B := T136.setTop (mkF m 309 #[.val (.int p0), .val (.int p1), .val (.int p2), .val (.int p3), .val (.int p4), .val (.int p5), .val (.int (1 : Int32)), .val (.double d0), .second, .val (.double d1), .second, .val (.double d2), .second, .val (.double df), .second, .val (.double sc), .second, .val (.ref b73), .val (.ref b95)] [(.int (1 : Int32)), (.ref b95), (.double d0)])) (fun t k => ?_) ?_
      · show Steps p.tables e below (T136.setTop (mkF m 306 #[.val (.int p0), .val (.int p1), .val (.int p2), .val (.int p3), .val (.int p4), .val (.int p5), .val (.int (1 : Int32)), .val (.double d0), .second, .val (.double d1), .second, .val (.double d2), .second, .val (.double df), .second, .val (.double sc), .second, .val (.ref b73), .val (.ref b95)] [(.double d0)])) t
        refine XS.aload X136.here hx rfl (hb hby at_306) rfl rfl ?_
        show Steps p.tables e below (T136.setTop (mkF m 308 #[.val (.int p0), .val (.int p1), .val (.int p2), .val (.int p3), .val (.int p4), .val (.int p5), .val (.int (1 : Int32)), .val (.double d0), .second, .val (.double d1), .second, .val (.double d2), .second, .val (.double df), .second, .val (.double sc), .second, .val (.ref b73), .val (.ref b95)] [(.ref b95), (.double d0)])) t
        refine XS.iconst X136.here hx rfl (hb hby at_308) ?_
        exact k
      have cq143 := f138
      obtain ⟨clq143, Arq143, qq143, Sq143, Nq143, Hq143, Gq143⟩ := cq143
      have hinq143 := inb_of (j := (1 : Int32)) Sq143 ⟨by decide, by decide⟩
      refine OwnGo.of (X136.daload hx (j := (1 : Int32)) (v := (.double d0)) Arq143.1 (State.isArrayOf_alike hZ.alike Arq143.2.1) Arq143.2.2 hinq143 (Hq143.at hinq143 rfl) (g := (mkF m 309 #[.val (.int p0), .val (.int p1), .val (.int p2), .val (.int p3), .val (.int p4), .val (.int p5), .val (.int (1 : Int32)), .val (.double d0), .second, .val (.double d1), .second, .val (.double d2), .second, .val (.double df), .second, .val (.double sc), .second, .val (.ref b73), .val (.ref b95)] [(.int (1 : Int32)), (.ref b95), (.double d0)])) rfl rfl (hb hby at_309)) ?_
      show OwnGo p.tables e below _ (T136.setTop (mkF m 310 #[.val (.int p0), .val (.int p1), .val (.int p2), .val (.int p3), .val (.int p4), .val (.int p5), .val (.int (1 : Int32)), .val (.double d0), .second, .val (.double d1), .second, .val (.double d2), .second, .val (.double df), .second, .val (.double sc), .second, .val (.ref b73), .val (.ref b95)] [(.double d0), (.double d0)]))
      refine OwnGo.of (A := T136.setTop (mkF m 310 #[.val (.int p0), .val (.int p1), .val (.int p2), .val (.int p3), .val (.int p4), .val (.int p5), .val (.int (1 : Int32)), .val (.double d0), .second, .val (.double d1), .second, .val (.double d2), .second, .val (.double df), .second, .val (.double sc), .second, .val (.ref b73), .val (.ref b95)] [(.double d0), (.double d0)])) (B := T136.setTop (mkF m 311 #[.val (.int p0), .val (.int p1), .val (.int p2), .val (.int p3), .val (.int p4), .val (.int p5), .val (.int (1 : Int32)), .val (.double d0), .second, .val (.double d1), .second, .val (.double d2), .second, .val (.double df), .second, .val (.double sc), .second, .val (.ref b73), .val (.ref b95)] [(.int (cmpValue (FP.dcmp d0 d0) .l))])) (fun t k => ?_) ?_
      · show Steps p.tables e below (T136.setTop (mkF m 310 #[.val (.int p0), .val (.int p1), .val (.int p2), .val (.int p3), .val (.int p4), .val (.int p5), .val (.int (1 : Int32)), .val (.double d0), .second, .val (.double d1), .second, .val (.double d2), .second, .val (.double df), .second, .val (.double sc), .second, .val (.ref b73), .val (.ref b95)] [(.double d0), (.double d0)])) t
        refine XS.dcmpS X136.here hx rfl (hb hby at_310) rfl rfl ?_
        exact k
      have hc144 : (cmpValue (FP.dcmp d0 d0) .l) = (0 : Int32) := dcmpV_self nd0 .l
      refine OwnGo.of (A := T136.setTop (mkF m 311 #[.val (.int p0), .val (.int p1), .val (.int p2), .val (.int p3), .val (.int p4), .val (.int p5), .val (.int (1 : Int32)), .val (.double d0), .second, .val (.double d1), .second, .val (.double d2), .second, .val (.double df), .second, .val (.double sc), .second, .val (.ref b73), .val (.ref b95)] [(.int (cmpValue (FP.dcmp d0 d0) .l))])) (B := T136.setTop (mkF m 317 #[.val (.int p0), .val (.int p1), .val (.int p2), .val (.int p3), .val (.int p4), .val (.int p5), .val (.int (1 : Int32)), .val (.double d0), .second, .val (.double d1), .second, .val (.double d2), .second, .val (.double df), .second, .val (.double sc), .second, .val (.ref b73), .val (.ref b95)] [(.int (2 : Int32)), (.ref b73)])) (fun t k => ?_) ?_
      · show Steps p.tables e below (T136.setTop (mkF m 311 #[.val (.int p0), .val (.int p1), .val (.int p2), .val (.int p3), .val (.int p4), .val (.int p5), .val (.int (1 : Int32)), .val (.double d0), .second, .val (.double d1), .second, .val (.double d2), .second, .val (.double df), .second, .val (.double sc), .second, .val (.ref b73), .val (.ref b95)] [(.int (cmpValue (FP.dcmp d0 d0) .l))])) t
        refine XS.ifNo X136.here hx rfl (hb hby at_311) rfl ((if0 _ _).trans (teq hc144).2) ?_
        show Steps p.tables e below (T136.setTop (mkF m 314 #[.val (.int p0), .val (.int p1), .val (.int p2), .val (.int p3), .val (.int p4), .val (.int p5), .val (.int (1 : Int32)), .val (.double d0), .second, .val (.double d1), .second, .val (.double d2), .second, .val (.double df), .second, .val (.double sc), .second, .val (.ref b73), .val (.ref b95)] [])) t
        refine XS.aload X136.here hx rfl (hb hby at_314) rfl rfl ?_
        show Steps p.tables e below (T136.setTop (mkF m 316 #[.val (.int p0), .val (.int p1), .val (.int p2), .val (.int p3), .val (.int p4), .val (.int p5), .val (.int (1 : Int32)), .val (.double d0), .second, .val (.double d1), .second, .val (.double d2), .second, .val (.double df), .second, .val (.double sc), .second, .val (.ref b73), .val (.ref b95)] [(.ref b73)])) t
        refine XS.iconst X136.here hx rfl (hb hby at_316) ?_
        exact k
      have cq145 := y136_0
      obtain ⟨clq145, Arq145, qq145, Sq145, Nq145, Hq145, Gq145⟩ := cq145
      have hinq145 := inb_of (j := (2 : Int32)) Sq145 ⟨by decide, by decide⟩
      refine OwnGo.of (X136.daload hx (j := (2 : Int32)) (v := (.double df)) Arq145.1 (State.isArrayOf_alike hZ.alike Arq145.2.1) Arq145.2.2 hinq145 (Hq145.at hinq145 rfl) (g := (mkF m 317 #[.val (.int p0), .val (.int p1), .val (.int p2), .val (.int p3), .val (.int p4), .val (.int p5), .val (.int (1 : Int32)), .val (.double d0), .second, .val (.double d1), .second, .val (.double d2), .second, .val (.double df), .second, .val (.double sc), .second, .val (.ref b73), .val (.ref b95)] [(.int (2 : Int32)), (.ref b73)])) rfl rfl (hb hby at_317)) ?_
      show OwnGo p.tables e below _ (T136.setTop (mkF m 318 #[.val (.int p0), .val (.int p1), .val (.int p2), .val (.int p3), .val (.int p4), .val (.int p5), .val (.int (1 : Int32)), .val (.double d0), .second, .val (.double d1), .second, .val (.double d2), .second, .val (.double df), .second, .val (.double sc), .second, .val (.ref b73), .val (.ref b95)] [(.double df)]))
      refine OwnGo.of (A := T136.setTop (mkF m 318 #[.val (.int p0), .val (.int p1), .val (.int p2), .val (.int p3), .val (.int p4), .val (.int p5), .val (.int (1 : Int32)), .val (.double d0), .second, .val (.double d1), .second, .val (.double d2), .second, .val (.double df), .second, .val (.double sc), .second, .val (.ref b73), .val (.ref b95)] [(.double df)])) (B := T136.setTop (mkF m 321 #[.val (.int p0), .val (.int p1), .val (.int p2), .val (.int p3), .val (.int p4), .val (.int p5), .val (.int (1 : Int32)), .val (.double d0), .second, .val (.double d1), .second, .val (.double d2), .second, .val (.double df), .second, .val (.double sc), .second, .val (.ref b73), .val (.ref b95)] [(.int (2 : Int32)), (.ref b95), (.double df)])) (fun t k => ?_) ?_
      · show Steps p.tables e below (T136.setTop (mkF m 318 #[.val (.int p0), .val (.int p1), .val (.int p2), .val (.int p3), .val (.int p4), .val (.int p5), .val (.int (1 : Int32)), .val (.double d0), .second, .val (.double d1), .second, .val (.double d2), .second, .val (.double df), .second, .val (.double sc), .second, .val (.ref b73), .val (.ref b95)] [(.double df)])) t
        refine XS.aload X136.here hx rfl (hb hby at_318) rfl rfl ?_
        show Steps p.tables e below (T136.setTop (mkF m 320 #[.val (.int p0), .val (.int p1), .val (.int p2), .val (.int p3), .val (.int p4), .val (.int p5), .val (.int (1 : Int32)), .val (.double d0), .second, .val (.double d1), .second, .val (.double d2), .second, .val (.double df), .second, .val (.double sc), .second, .val (.ref b73), .val (.ref b95)] [(.ref b95), (.double df)])) t
        refine XS.iconst X136.here hx rfl (hb hby at_320) ?_
        exact k
      have cq146 := f138
      obtain ⟨clq146, Arq146, qq146, Sq146, Nq146, Hq146, Gq146⟩ := cq146
      have hinq146 := inb_of (j := (2 : Int32)) Sq146 ⟨by decide, by decide⟩
      refine OwnGo.of (X136.daload hx (j := (2 : Int32)) (v := (.double df)) Arq146.1 (State.isArrayOf_alike hZ.alike Arq146.2.1) Arq146.2.2 hinq146 (Hq146.at hinq146 rfl) (g := (mkF m 321 #[.val (.int p0), .val (.int p1), .val (.int p2), .val (.int p3), .val (.int p4), .val (.int p5), .val (.int (1 : Int32)), .val (.double d0), .second, .val (.double d1), .second, .val (.double d2), .second, .val (.double df), .second, .val (.double sc), .second, .val (.ref b73), .val (.ref b95)] [(.int (2 : Int32)), (.ref b95), (.double df)])) rfl rfl (hb hby at_321)) ?_
      show OwnGo p.tables e below _ (T136.setTop (mkF m 322 #[.val (.int p0), .val (.int p1), .val (.int p2), .val (.int p3), .val (.int p4), .val (.int p5), .val (.int (1 : Int32)), .val (.double d0), .second, .val (.double d1), .second, .val (.double d2), .second, .val (.double df), .second, .val (.double sc), .second, .val (.ref b73), .val (.ref b95)] [(.double df), (.double df)]))
      refine OwnGo.of (A := T136.setTop (mkF m 322 #[.val (.int p0), .val (.int p1), .val (.int p2), .val (.int p3), .val (.int p4), .val (.int p5), .val (.int (1 : Int32)), .val (.double d0), .second, .val (.double d1), .second, .val (.double d2), .second, .val (.double df), .second, .val (.double sc), .second, .val (.ref b73), .val (.ref b95)] [(.double df), (.double df)])) (B := T136.setTop (mkF m 323 #[.val (.int p0), .val (.int p1), .val (.int p2), .val (.int p3), .val (.int p4), .val (.int p5), .val (.int (1 : Int32)), .val (.double d0), .second, .val (.double d1), .second, .val (.double d2), .second, .val (.double df), .second, .val (.double sc), .second, .val (.ref b73), .val (.ref b95)] [(.int (cmpValue (FP.dcmp df df) .l))])) (fun t k => ?_) ?_
      · show Steps p.tables e below (T136.setTop (mkF m 322 #[.val (.int p0), .val (.int p1), .val (.int p2), .val (.int p3), .val (.int p4), .val (.int p5), .val (.int (1 : Int32)), .val (.double d0), .second, .val (.double d1), .second, .val (.double d2), .second, .val (.double df), .second, .val (.double sc), .second, .val (.ref b73), .val (.ref b95)] [(.double df), (.double df)])) t
        refine XS.dcmpS X136.here hx rfl (hb hby at_322) rfl rfl ?_
        exact k
      have hc147 : (cmpValue (FP.dcmp df df) .l) = (0 : Int32) := dcmpV_self ndf .l
      refine OwnGo.of (A := T136.setTop (mkF m 323 #[.val (.int p0), .val (.int p1), .val (.int p2), .val (.int p3), .val (.int p4), .val (.int p5), .val (.int (1 : Int32)), .val (.double d0), .second, .val (.double d1), .second, .val (.double d2), .second, .val (.double df), .second, .val (.double sc), .second, .val (.ref b73), .val (.ref b95)] [(.int (cmpValue (FP.dcmp df df) .l))])) (B := T136.setTop (mkF m 329 #[.val (.int p0), .val (.int p1), .val (.int p2), .val (.int p3), .val (.int p4), .val (.int p5), .val (.int (1 : Int32)), .val (.double d0), .second, .val (.double d1), .second, .val (.double d2), .second, .val (.double df), .second, .val (.double sc), .second, .val (.ref b73), .val (.ref b95)] [(.int (3 : Int32)), (.ref b73)])) (fun t k => ?_) ?_
      · show Steps p.tables e below (T136.setTop (mkF m 323 #[.val (.int p0), .val (.int p1), .val (.int p2), .val (.int p3), .val (.int p4), .val (.int p5), .val (.int (1 : Int32)), .val (.double d0), .second, .val (.double d1), .second, .val (.double d2), .second, .val (.double df), .second, .val (.double sc), .second, .val (.ref b73), .val (.ref b95)] [(.int (cmpValue (FP.dcmp df df) .l))])) t
        refine XS.ifNo X136.here hx rfl (hb hby at_323) rfl ((if0 _ _).trans (teq hc147).2) ?_
        show Steps p.tables e below (T136.setTop (mkF m 326 #[.val (.int p0), .val (.int p1), .val (.int p2), .val (.int p3), .val (.int p4), .val (.int p5), .val (.int (1 : Int32)), .val (.double d0), .second, .val (.double d1), .second, .val (.double d2), .second, .val (.double df), .second, .val (.double sc), .second, .val (.ref b73), .val (.ref b95)] [])) t
        refine XS.aload X136.here hx rfl (hb hby at_326) rfl rfl ?_
        show Steps p.tables e below (T136.setTop (mkF m 328 #[.val (.int p0), .val (.int p1), .val (.int p2), .val (.int p3), .val (.int p4), .val (.int p5), .val (.int (1 : Int32)), .val (.double d0), .second, .val (.double d1), .second, .val (.double d2), .second, .val (.double df), .second, .val (.double sc), .second, .val (.ref b73), .val (.ref b95)] [(.ref b73)])) t
        refine XS.iconst X136.here hx rfl (hb hby at_328) ?_
        exact k
      have cq148 := y136_0
      obtain ⟨clq148, Arq148, qq148, Sq148, Nq148, Hq148, Gq148⟩ := cq148
      have hinq148 := inb_of (j := (3 : Int32)) Sq148 ⟨by decide, by decide⟩
      refine OwnGo.of (X136.daload hx (j := (3 : Int32)) (v := (.double df)) Arq148.1 (State.isArrayOf_alike hZ.alike Arq148.2.1) Arq148.2.2 hinq148 (Hq148.at hinq148 rfl) (g := (mkF m 329 #[.val (.int p0), .val (.int p1), .val (.int p2), .val (.int p3), .val (.int p4), .val (.int p5), .val (.int (1 : Int32)), .val (.double d0), .second, .val (.double d1), .second, .val (.double d2), .second, .val (.double df), .second, .val (.double sc), .second, .val (.ref b73), .val (.ref b95)] [(.int (3 : Int32)), (.ref b73)])) rfl rfl (hb hby at_329)) ?_
      show OwnGo p.tables e below _ (T136.setTop (mkF m 330 #[.val (.int p0), .val (.int p1), .val (.int p2), .val (.int p3), .val (.int p4), .val (.int p5), .val (.int (1 : Int32)), .val (.double d0), .second, .val (.double d1), .second, .val (.double d2), .second, .val (.double df), .second, .val (.double sc), .second, .val (.ref b73), .val (.ref b95)] [(.double df)]))
      refine OwnGo.of (A := T136.setTop (mkF m 330 #[.val (.int p0), .val (.int p1), .val (.int p2), .val (.int p3), .val (.int p4), .val (.int p5), .val (.int (1 : Int32)), .val (.double d0), .second, .val (.double d1), .second, .val (.double d2), .second, .val (.double df), .second, .val (.double sc), .second, .val (.ref b73), .val (.ref b95)] [(.double df)])) (B := T136.setTop (mkF m 333 #[.val (.int p0), .val (.int p1), .val (.int p2), .val (.int p3), .val (.int p4), .val (.int p5), .val (.int (1 : Int32)), .val (.double d0), .second, .val (.double d1), .second, .val (.double d2), .second, .val (.double df), .second, .val (.double sc), .second, .val (.ref b73), .val (.ref b95)] [(.int (3 : Int32)), (.ref b95), (.double df)])) (fun t k => ?_) ?_
      · show Steps p.tables e below (T136.setTop (mkF m 330 #[.val (.int p0), .val (.int p1), .val (.int p2), .val (.int p3), .val (.int p4), .val (.int p5), .val (.int (1 : Int32)), .val (.double d0), .second, .val (.double d1), .second, .val (.double d2), .second, .val (.double df), .second, .val (.double sc), .second, .val (.ref b73), .val (.ref b95)] [(.double df)])) t
        refine XS.aload X136.here hx rfl (hb hby at_330) rfl rfl ?_
        show Steps p.tables e below (T136.setTop (mkF m 332 #[.val (.int p0), .val (.int p1), .val (.int p2), .val (.int p3), .val (.int p4), .val (.int p5), .val (.int (1 : Int32)), .val (.double d0), .second, .val (.double d1), .second, .val (.double d2), .second, .val (.double df), .second, .val (.double sc), .second, .val (.ref b73), .val (.ref b95)] [(.ref b95), (.double df)])) t
        refine XS.iconst X136.here hx rfl (hb hby at_332) ?_
        exact k
      have cq149 := f138
      obtain ⟨clq149, Arq149, qq149, Sq149, Nq149, Hq149, Gq149⟩ := cq149
      have hinq149 := inb_of (j := (3 : Int32)) Sq149 ⟨by decide, by decide⟩
      refine OwnGo.of (X136.daload hx (j := (3 : Int32)) (v := (.double df)) Arq149.1 (State.isArrayOf_alike hZ.alike Arq149.2.1) Arq149.2.2 hinq149 (Hq149.at hinq149 rfl) (g := (mkF m 333 #[.val (.int p0), .val (.int p1), .val (.int p2), .val (.int p3), .val (.int p4), .val (.int p5), .val (.int (1 : Int32)), .val (.double d0), .second, .val (.double d1), .second, .val (.double d2), .second, .val (.double df), .second, .val (.double sc), .second, .val (.ref b73), .val (.ref b95)] [(.int (3 : Int32)), (.ref b95), (.double df)])) rfl rfl (hb hby at_333)) ?_
      show OwnGo p.tables e below _ (T136.setTop (mkF m 334 #[.val (.int p0), .val (.int p1), .val (.int p2), .val (.int p3), .val (.int p4), .val (.int p5), .val (.int (1 : Int32)), .val (.double d0), .second, .val (.double d1), .second, .val (.double d2), .second, .val (.double df), .second, .val (.double sc), .second, .val (.ref b73), .val (.ref b95)] [(.double df), (.double df)]))
      refine OwnGo.of (A := T136.setTop (mkF m 334 #[.val (.int p0), .val (.int p1), .val (.int p2), .val (.int p3), .val (.int p4), .val (.int p5), .val (.int (1 : Int32)), .val (.double d0), .second, .val (.double d1), .second, .val (.double d2), .second, .val (.double df), .second, .val (.double sc), .second, .val (.ref b73), .val (.ref b95)] [(.double df), (.double df)])) (B := T136.setTop (mkF m 335 #[.val (.int p0), .val (.int p1), .val (.int p2), .val (.int p3), .val (.int p4), .val (.int p5), .val (.int (1 : Int32)), .val (.double d0), .second, .val (.double d1), .second, .val (.double d2), .second, .val (.double df), .second, .val (.double sc), .second, .val (.ref b73), .val (.ref b95)] [(.int (cmpValue (FP.dcmp df df) .l))])) (fun t k => ?_) ?_
      · show Steps p.tables e below (T136.setTop (mkF m 334 #[.val (.int p0), .val (.int p1), .val (.int p2), .val (.int p3), .val (.int p4), .val (.int p5), .val (.int (1 : Int32)), .val (.double d0), .second, .val (.double d1), .second, .val (.double d2), .second, .val (.double df), .second, .val (.double sc), .second, .val (.ref b73), .val (.ref b95)] [(.double df), (.double df)])) t
        refine XS.dcmpS X136.here hx rfl (hb hby at_334) rfl rfl ?_
        exact k
      have hc150 : (cmpValue (FP.dcmp df df) .l) = (0 : Int32) := dcmpV_self ndf .l
      refine OwnGo.of (A := T136.setTop (mkF m 335 #[.val (.int p0), .val (.int p1), .val (.int p2), .val (.int p3), .val (.int p4), .val (.int p5), .val (.int (1 : Int32)), .val (.double d0), .second, .val (.double d1), .second, .val (.double d2), .second, .val (.double df), .second, .val (.double sc), .second, .val (.ref b73), .val (.ref b95)] [(.int (cmpValue (FP.dcmp df df) .l))])) (B := T136.setTop (mkF m 343 #[.val (.int p0), .val (.int p1), .val (.int p2), .val (.int p3), .val (.int p4), .val (.int p5), .val (.int (1 : Int32)), .val (.double d0), .second, .val (.double d1), .second, .val (.double d2), .second, .val (.double df), .second, .val (.double sc), .second, .val (.ref b73), .val (.ref b95)] [(.int (1 : Int32))])) (fun t k => ?_) ?_
      · show Steps p.tables e below (T136.setTop (mkF m 335 #[.val (.int p0), .val (.int p1), .val (.int p2), .val (.int p3), .val (.int p4), .val (.int p5), .val (.int (1 : Int32)), .val (.double d0), .second, .val (.double d1), .second, .val (.double d2), .second, .val (.double df), .second, .val (.double sc), .second, .val (.ref b73), .val (.ref b95)] [(.int (cmpValue (FP.dcmp df df) .l))])) t
        refine XS.ifNo X136.here hx rfl (hb hby at_335) rfl ((if0 _ _).trans (teq hc150).2) ?_
        show Steps p.tables e below (T136.setTop (mkF m 338 #[.val (.int p0), .val (.int p1), .val (.int p2), .val (.int p3), .val (.int p4), .val (.int p5), .val (.int (1 : Int32)), .val (.double d0), .second, .val (.double d1), .second, .val (.double d2), .second, .val (.double df), .second, .val (.double sc), .second, .val (.ref b73), .val (.ref b95)] [])) t
        refine XS.iconst X136.here hx rfl (hb hby at_338) ?_
        show Steps p.tables e below (T136.setTop (mkF m 339 #[.val (.int p0), .val (.int p1), .val (.int p2), .val (.int p3), .val (.int p4), .val (.int p5), .val (.int (1 : Int32)), .val (.double d0), .second, .val (.double d1), .second, .val (.double d2), .second, .val (.double df), .second, .val (.double sc), .second, .val (.ref b73), .val (.ref b95)] [(.int (1 : Int32))])) t
        refine XS.goto X136.here hx rfl (pc0 := 339) (pc' := 343) rfl (hb hby at_339) (by decide) (by decide) ?_
        exact k
      obtain ⟨fs, hr, hrun, hended, hW, hsame⟩ := X136.leave (v := some (.int (nar .boolean (1 : Int32)))) (fun h => by rw [Bd.returns] at h; cases h) hlk
      refine ⟨_, _, ?_, hrun, hended, _, _, rfl, ?_, ⟨_, rfl⟩, hW, hsame.mono (by decide) (by decide)⟩
      · show Steps p.tables e below (T136.setTop (mkF m 343 #[.val (.int p0), .val (.int p1), .val (.int p2), .val (.int p3), .val (.int p4), .val (.int p5), .val (.int (1 : Int32)), .val (.double d0), .second, .val (.double d1), .second, .val (.double d2), .second, .val (.double df), .second, .val (.double sc), .second, .val (.ref b73), .val (.ref b95)] [(.int (1 : Int32))])) _
        exact retN X136 hx (t := .boolean) Bd.returns (by simp) (hb hby at_343) hr
      · show Qrm0 Z p0 p1 p2 p3 p4 p5 h0 n0 _ (T136.setFrames fs).heap _
        rw [show (T136.setFrames fs).heap = T136.heap from rfl]
        exact ⟨rfl, N136⟩
    · refine OwnGo.of (A := T119.setTop (mkF m 164 #[.val (.int p0), .val (.int p1), .val (.int p2), .val (.int p3), .val (.int p4), .val (.int p5), .val (.int (1 : Int32)), .val (.double d0), .second, .val (.double d1), .second, .val (.double d2), .second, .val (.double df), .second, .val (.double sc), .second, .val (.ref b73), .val (.ref b95)] [(.int (cmpValue (FP.dcmp d0 sc) .l))])) (B := T119.setTop (mkF m 187 #[.val (.int p0), .val (.int p1), .val (.int p2), .val (.int p3), .val (.int p4), .val (.int p5), .val (.int (1 : Int32)), .val (.double d0), .second, .val (.double d1), .second, .val (.double d2), .second, .val (.double df), .second, .val (.double sc), .second, .val (.ref b73), .val (.ref b95)] [(.double sc), (.int (1 : Int32)), (.ref b95)])) (fun t k => ?_) ?_
      · show Steps p.tables e below (T119.setTop (mkF m 164 #[.val (.int p0), .val (.int p1), .val (.int p2), .val (.int p3), .val (.int p4), .val (.int p5), .val (.int (1 : Int32)), .val (.double d0), .second, .val (.double d1), .second, .val (.double d2), .second, .val (.double df), .second, .val (.double sc), .second, .val (.ref b73), .val (.ref b95)] [(.int (cmpValue (FP.dcmp d0 sc) .l))])) t
        refine XS.ifYes X119.here hx rfl (pc0 := 164) (pc' := 182) rfl (hb hby at_164) rfl ((if0 _ _).trans (flt hc125).2.2.2) (by decide) (by decide) ?_
        show Steps p.tables e below (T119.setTop (mkF m 182 #[.val (.int p0), .val (.int p1), .val (.int p2), .val (.int p3), .val (.int p4), .val (.int p5), .val (.int (1 : Int32)), .val (.double d0), .second, .val (.double d1), .second, .val (.double d2), .second, .val (.double df), .second, .val (.double sc), .second, .val (.ref b73), .val (.ref b95)] [])) t
        refine XS.aload X119.here hx rfl (hb hby at_182) rfl rfl ?_
        show Steps p.tables e below (T119.setTop (mkF m 184 #[.val (.int p0), .val (.int p1), .val (.int p2), .val (.int p3), .val (.int p4), .val (.int p5), .val (.int (1 : Int32)), .val (.double d0), .second, .val (.double d1), .second, .val (.double d2), .second, .val (.double df), .second, .val (.double sc), .second, .val (.ref b73), .val (.ref b95)] [(.ref b95)])) t
        refine XS.iconst X119.here hx rfl (hb hby at_184) ?_
        show Steps p.tables e below (T119.setTop (mkF m 185 #[.val (.int p0), .val (.int p1), .val (.int p2), .val (.int p3), .val (.int p4), .val (.int p5), .val (.int (1 : Int32)), .val (.double d0), .second, .val (.double d1), .second, .val (.double d2), .second, .val (.double df), .second, .val (.double sc), .second, .val (.ref b73), .val (.ref b95)] [(.int (1 : Int32)), (.ref b95)])) t
        refine XS.dload X119.here hx rfl (hb hby at_185) rfl ?_
        exact k
      have cq152 := f122
      obtain ⟨clq152, Arq152, qq152, Sq152, Nq152, Hq152, Gq152⟩ := cq152
      obtain ⟨T153, h153, X153, e153, W153, st153⟩ := stD X119 hx hZ e119 Arq152 (j := (1 : Int32)) (inb_of Sq152 ⟨by decide, by decide⟩) (g := (mkF m 187 #[.val (.int p0), .val (.int p1), .val (.int p2), .val (.int p3), .val (.int p4), .val (.int p5), .val (.int (1 : Int32)), .val (.double d0), .second, .val (.double d1), .second, .val (.double d2), .second, .val (.double df), .second, .val (.double sc), .second, .val (.ref b73), .val (.ref b95)] [(.double sc), (.int (1 : Int32)), (.ref b95)])) rfl rfl (hb hby at_187)
      refine OwnGo.of st153 ?_
      have N153 := Fr.snoc X153 N119 g_b95
      have f154 : n0 ≤ h153.size := Nat.le_trans f120 (Keep.of_wr W153).1
      have f155 : Arv Z h153 b73 k73 .double (4 : Int32) [(.double d0), (.double df), (.double df), (.double df)] (.double (0 : UInt64)) := f121.other W153 ne_b73_b95
      have f156 : Arv Z h153 b95 k95 .double (4 : Int32) [(.double d0), (.double sc), (.double df), (.double df)] (.double (0 : UInt64)) := Arv.set Arq152 qq152 Sq152 Nq152 Hq152 Gq152 rfl W153 1 rfl (Nat.le_of_ble_eq_true rfl)
      show OwnGo p.tables e below _ (T153.setTop (mkF m 188 #[.val (.int p0), .val (.int p1), .val (.int p2), .val (.int p3), .val (.int p4), .val (.int p5), .val (.int (1 : Int32)), .val (.double d0), .second, .val (.double d1), .second, .val (.double d2), .second, .val (.double df), .second, .val (.double sc), .second, .val (.ref b73), .val (.ref b95)] []))
      refine OwnGo.of (A := T153.setTop (mkF m 188 #[.val (.int p0), .val (.int p1), .val (.int p2), .val (.int p3), .val (.int p4), .val (.int p5), .val (.int (1 : Int32)), .val (.double d0), .second, .val (.double d1), .second, .val (.double d2), .second, .val (.double df), .second, .val (.double sc), .second, .val (.ref b73), .val (.ref b95)] [])) (B := T153.setTop (mkF m 287 #[.val (.int p0), .val (.int p1), .val (.int p2), .val (.int p3), .val (.int p4), .val (.int p5), .val (.int (1 : Int32)), .val (.double d0), .second, .val (.double d1), .second, .val (.double d2), .second, .val (.double df), .second, .val (.double sc), .second, .val (.ref b73), .val (.ref b95)] [(.double sc), (.int (1 : Int32)), (.ref b73)])) (fun t k => ?_) ?_
      · show Steps p.tables e below (T153.setTop (mkF m 188 #[.val (.int p0), .val (.int p1), .val (.int p2), .val (.int p3), .val (.int p4), .val (.int p5), .val (.int (1 : Int32)), .val (.double d0), .second, .val (.double d1), .second, .val (.double d2), .second, .val (.double df), .second, .val (.double sc), .second, .val (.ref b73), .val (.ref b95)] [])) t
        refine XS.goto X153.here hx rfl (pc0 := 188) (pc' := 281) rfl (hb hby at_188) (by decide) (by decide) ?_
        show Steps p.tables e below (T153.setTop (mkF m 281 #[.val (.int p0), .val (.int p1), .val (.int p2), .val (.int p3), .val (.int p4), .val (.int p5), .val (.int (1 : Int32)), .val (.double d0), .second, .val (.double d1), .second, .val (.double d2), .second, .val (.double df), .second, .val (.double sc), .second, .val (.ref b73), .val (.ref b95)] [])) t
        refine XS.aload X153.here hx rfl (hb hby at_281) rfl rfl ?_
        show Steps p.tables e below (T153.setTop (mkF m 283 #[.val (.int p0), .val (.int p1), .val (.int p2), .val (.int p3), .val (.int p4), .val (.int p5), .val (.int (1 : Int32)), .val (.double d0), .second, .val (.double d1), .second, .val (.double d2), .second, .val (.double df), .second, .val (.double sc), .second, .val (.ref b73), .val (.ref b95)] [(.ref b73)])) t
        refine XS.iload X153.here hx rfl (hb hby at_283) rfl ?_
        show Steps p.tables e below (T153.setTop (mkF m 285 #[.val (.int p0), .val (.int p1), .val (.int p2), .val (.int p3), .val (.int p4), .val (.int p5), .val (.int (1 : Int32)), .val (.double d0), .second, .val (.double d1), .second, .val (.double d2), .second, .val (.double df), .second, .val (.double sc), .second, .val (.ref b73), .val (.ref b95)] [(.int (1 : Int32)), (.ref b73)])) t
        refine XS.dload X153.here hx rfl (hb hby at_285) rfl ?_
        exact k
      obtain ⟨T157, L157, v157, X157, hQ157, st157⟩ := own_callS X153 hx (y := (⟨"com/example/rankwright/rankwright/rank/Accumulator", "siftUp", "([DID)V"⟩ : MethodName)) hown (mvT hZ (hw _ (List.mem_of_getElem? (i := 2) rfl))) (mvT hZ (hw _ (List.mem_of_getElem? (i := 3) rfl))) (mvT hZ (hw _ (List.mem_of_getElem? (i := 4) rfl))) (mvT hZ (hw _ (List.mem_of_getElem? (i := 5) rfl))) (by decide) (backOf (W := 0) (rm1_1f l Z aw hw [] b73 sc d0 df df df k73 h153 n0 f154 f155 g_b73 hc125) hZ (hw _ (List.mem_of_getElem? (i := 5) rfl)) (hw _ (List.mem_of_getElem? (i := 4) rfl)) (by decide) (by decide)) (g := (mkF m 287 #[.val (.int p0), .val (.int p1), .val (.int p2), .val (.int p3), .val (.int p4), .val (.int p5), .val (.int (1 : Int32)), .val (.double d0), .second, .val (.double d1), .second, .val (.double d2), .second, .val (.double df), .second, .val (.double sc), .second, .val (.ref b73), .val (.ref b95)] [(.double sc), (.int (1 : Int32)), (.ref b73)])) rfl (by rw [hml]; rfl) (argsL := [(.ref b73), (.int (1 : Int32)), (.double sc)]) (rest := []) (lenOf pd_1 rfl) rfl (by show 2 * 0 + _ ≤ _; exact Nat.le_of_eq rfl) (hb hby at_287) rfl e153 (by decide) (by decide)
      obtain ⟨rfl, N157q, K157, y157_0⟩ := hQ157
      have f158 : n0 ≤ T157.heap.size := Nat.le_trans f154 K157.1
      have f159 : Arv Z T157.heap b95 k95 .double (4 : Int32) [(.double d0), (.double sc), (.double df), (.double df)] (.double (0 : UInt64)) := f156.keep K157 (ninS (Ne.symm ne_b73_b95) nin0)
      have N157 := Fr.app N153 N157q
      refine OwnGo.of st157 ?_
      show OwnGo p.tables e below _ (T157.setTop (mkF m 290 #[.val (.int p0), .val (.int p1), .val (.int p2), .val (.int p3), .val (.int p4), .val (.int p5), .val (.int (1 : Int32)), .val (.double d0), .second, .val (.double d1), .second, .val (.double d2), .second, .val (.double df), .second, .val (.double sc), .second, .val (.ref b73), .val (.ref b95)] []))
      refine OwnGo.of (A := T157.setTop (mkF m 290 #[.val (.int p0), .val (.int p1), .val (.int p2), .val (.int p3), .val (.int p4), .val (.int p5), .val (.int (1 : Int32)), .val (.double d0), .second, .val (.double d1), .second, .val (.double d2), .second, .val (.double df), .second, .val (.double sc), .second, .val (.ref b73), .val (.ref b95)] [])) (B := T157.setTop (mkF m 293 #[.val (.int p0), .val (.int p1), .val (.int p2), .val (.int p3), .val (.int p4), .val (.int p5), .val (.int (1 : Int32)), .val (.double d0), .second, .val (.double d1), .second, .val (.double d2), .second, .val (.double df), .second, .val (.double sc), .second, .val (.ref b73), .val (.ref b95)] [(.int (0 : Int32)), (.ref b73)])) (fun t k => ?_) ?_
      · show Steps p.tables e below (T157.setTop (mkF m 290 #[.val (.int p0), .val (.int p1), .val (.int p2), .val (.int p3), .val (.int p4), .val (.int p5), .val (.int (1 : Int32)), .val (.double d0), .second, .val (.double d1), .second, .val (.double d2), .second, .val (.double df), .second, .val (.double sc), .second, .val (.ref b73), .val (.ref b95)] [])) t
        refine XS.aload X157.here hx rfl (hb hby at_290) rfl rfl ?_
        show Steps p.tables e below (T157.setTop (mkF m 292 #[.val (.int p0), .val (.int p1), .val (.int p2), .val (.int p3), .val (.int p4), .val (.int p5), .val (.int (1 : Int32)), .val (.double d0), .second, .val (.double d1), .second, .val (.double d2), .second, .val (.double df), .second, .val (.double sc), .second, .val (.ref b73), .val (.ref b95)] [(.ref b73)])) t
        refine XS.iconst X157.here hx rfl (hb hby at_292) ?_
        exact k
      have cq160 := y157_0
      obtain ⟨clq160, Arq160, qq160, Sq160, Nq160, Hq160, Gq160⟩ := cq160
      have hinq160 := inb_of (j := (0 : Int32)) Sq160 ⟨by decide, by decide⟩
      refine OwnGo.of (X157.daload hx (j := (0 : Int32)) (v := (.double d0)) Arq160.1 (State.isArrayOf_alike hZ.alike Arq160.2.1) Arq160.2.2 hinq160 (Hq160.at hinq160 rfl) (g := (mkF m 293 #[.val (.int p0), .val (.int p1), .val (.int p2), .val (.int p3), .val (.int p4), .val (.int p5), .val (.int (1 : Int32)), .val (.double d0), .second, .val (.double d1), .second, .val (.double d2), .second, .val (.double df), .second, .val (.double sc), .second, .val (.ref b73), .val (.ref b95)] [(.int (0 : Int32)), (.ref b73)])) rfl rfl (hb hby at_293)) ?_
      show OwnGo p.tables e below _ (T157.setTop (mkF m 294 #[.val (.int p0), .val (.int p1), .val (.int p2), .val (.int p3), .val (.int p4), .val (.int p5), .val (.int (1 : Int32)), .val (.double d0), .second, .val (.double d1), .second, .val (.double d2), .second, .val (.double df), .second, .val (.double sc), .second, .val (.ref b73), .val (.ref b95)] [(.double d0)]))
      refine OwnGo.of (A := T157.setTop (mkF m 294 #[.val (.int p0), .val (.int p1), .val (.int p2), .val (.int p3), .val (.int p4), .val (.int p5), .val (.int (1 : Int32)), .val (.double d0), .second, .val (.double d1), .second, .val (.double d2), .second, .val (.double df), .second, .val (.double sc), .second, .val (.ref b73), .val (.ref b95)] [(.double d0)])) (B := T157.setTop (mkF m 297 #[.val (.int p0), .val (.int p1), .val (.int p2), .val (.int p3), .val (.int p4), .val (.int p5), .val (.int (1 : Int32)), .val (.double d0), .second, .val (.double d1), .second, .val (.double d2), .second, .val (.double df), .second, .val (.double sc), .second, .val (.ref b73), .val (.ref b95)] [(.int (0 : Int32)), (.ref b95), (.double d0)])) (fun t k => ?_) ?_
      · show Steps p.tables e below (T157.setTop (mkF m 294 #[.val (.int p0), .val (.int p1), .val (.int p2), .val (.int p3), .val (.int p4), .val (.int p5), .val (.int (1 : Int32)), .val (.double d0), .second, .val (.double d1), .second, .val (.double d2), .second, .val (.double df), .second, .val (.double sc), .second, .val (.ref b73), .val (.ref b95)] [(.double d0)])) t
        refine XS.aload X157.here hx rfl (hb hby at_294) rfl rfl ?_
        show Steps p.tables e below (T157.setTop (mkF m 296 #[.val (.int p0), .val (.int p1), .val (.int p2), .val (.int p3), .val (.int p4), .val (.int p5), .val (.int (1 : Int32)), .val (.double d0), .second, .val (.double d1), .second, .val (.double d2), .second, .val (.double df), .second, .val (.double sc), .second, .val (.ref b73), .val (.ref b95)] [(.ref b95), (.double d0)])) t
        refine XS.iconst X157.here hx rfl (hb hby at_296) ?_
        exact k
      have cq161 := f159
      obtain ⟨clq161, Arq161, qq161, Sq161, Nq161, Hq161, Gq161⟩ := cq161
      have hinq161 := inb_of (j := (0 : Int32)) Sq161 ⟨by decide, by decide⟩
      refine OwnGo.of (X157.daload hx (j := (0 : Int32)) (v := (.double d0)) Arq161.1 (State.isArrayOf_alike hZ.alike Arq161.2.1) Arq161.2.2 hinq161 (Hq161.at hinq161 rfl) (g := (mkF m 297 #[.val (.int p0), .val (.int p1), .val (.int p2), .val (.int p3), .val (.int p4), .val (.int p5), .val (.int (1 : Int32)), .val (.double d0), .second, .val (.double d1), .second, .val (.double d2), .second, .val (.double df), .second, .val (.double sc), .second, .val (.ref b73), .val (.ref b95)] [(.int (0 : Int32)), (.ref b95), (.double d0)])) rfl rfl (hb hby at_297)) ?_
      show OwnGo p.tables e below _ (T157.setTop (mkF m 298 #[.val (.int p0), .val (.int p1), .val (.int p2), .val (.int p3), .val (.int p4), .val (.int p5), .val (.int (1 : Int32)), .val (.double d0), .second, .val (.double d1), .second, .val (.double d2), .second, .val (.double df), .second, .val (.double sc), .second, .val (.ref b73), .val (.ref b95)] [(.double d0), (.double d0)]))
      refine OwnGo.of (A := T157.setTop (mkF m 298 #[.val (.int p0), .val (.int p1), .val (.int p2), .val (.int p3), .val (.int p4), .val (.int p5), .val (.int (1 : Int32)), .val (.double d0), .second, .val (.double d1), .second, .val (.double d2), .second, .val (.double df), .second, .val (.double sc), .second, .val (.ref b73), .val (.ref b95)] [(.double d0), (.double d0)])) (B := T157.setTop (mkF m 299 #[.val (.int p0), .val (.int p1), .val (.int p2), .val (.int p3), .val (.int p4), .val (.int p5), .val (.int (1 : Int32)), .val (.double d0), .second, .val (.double d1), .second, .val (.double d2), .second, .val (.double df), .second, .val (.double sc), .second, .val (.ref b73), .val (.ref b95)] [(.int (cmpValue (FP.dcmp d0 d0) .l))])) (fun t k => ?_) ?_
      · show Steps p.tables e below (T157.setTop (mkF m 298 #[.val (.int p0), .val (.int p1), .val (.int p2), .val (.int p3), .val (.int p4), .val (.int p5), .val (.int (1 : Int32)), .val (.double d0), .second, .val (.double d1), .second, .val (.double d2), .second, .val (.double df), .second, .val (.double sc), .second, .val (.ref b73), .val (.ref b95)] [(.double d0), (.double d0)])) t
        refine XS.dcmpS X157.here hx rfl (hb hby at_298) rfl rfl ?_
        exact k
      have hc162 : (cmpValue (FP.dcmp d0 d0) .l) = (0 : Int32) := dcmpV_self nd0 .l
      refine OwnGo.of (A := T157.setTop (mkF m 299 #[.val (.int p0), .val (.int p1), .val (.int p2), .val (.int p3), .val (.int p4), .val (.int p5), .val (.int (1 : Int32)), .val (.double d0), .second, .val (.double d1), .second, .val (.double d2), .second, .val (.double df), .second, .val (.double sc), .second, .val (.ref b73), .val (.ref b95)] [(.int (cmpValue (FP.dcmp d0 d0) .l))])) (B := T157.setTop (mkF m 305 #[.val (.int p0), .val (.int p1), .val (.int p2), .val (.int p3), .val (.int p4), .val (.int p5), .val (.int (1 : Int32)), .val (.double d0), .second, .val (.double d1), .second, .val (.double d2), .second, .val (.double df), .second, .val (.double sc), .second, .val (.ref b73), .val (.ref b95)] [(.int (1 : Int32)), (.ref b73)])) (fun t k => ?_) ?_
      · show Steps p.tables e below (T157.setTop (mkF m 299 #[.val (.int p0), .val (.int p1), .val (.int p2), .val (.int p3), .val (.int p4), .val (.int p5), .val (.int (1 : Int32)), .val (.double d0), .second, .val (.double d1), .second, .val (.double d2), .second, .val (.double df), .second, .val (.double sc), .second, .val (.ref b73), .val (.ref b95)] [(.int (cmpValue (FP.dcmp d0 d0) .l))])) t
        refine XS.ifNo X157.here hx rfl (hb hby at_299) rfl ((if0 _ _).trans (teq hc162).2) ?_
        show Steps p.tables e below (T157.setTop (mkF m 302 #[.val (.int p0), .val (.int p1), .val (.int p2), .val (.int p3), .val (.int p4), .val (.int p5), .val (.int (1 : Int32)), .val (.double d0), .second, .val (.double d1), .second, .val (.double d2), .second, .val (.double df), .second, .val (.double sc), .second, .val (.ref b73), .val (.ref b95)] [])) t
        refine XS.aload X157.here hx rfl (hb hby at_302) rfl rfl ?_
        show Steps p.tables e below (T157.setTop (mkF m 304 #[.val (.int p0), .val (.int p1), .val (.int p2), .val (.int p3), .val (.int p4), .val (.int p5), .val (.int (1 : Int32)), .val (.double d0), .second, .val (.double d1), .second, .val (.double d2), .second, .val (.double df), .second, .val (.double sc), .second, .val (.ref b73), .val (.ref b95)] [(.ref b73)])) t
        refine XS.iconst X157.here hx rfl (hb hby at_304) ?_
        exact k
      have cq163 := y157_0
      obtain ⟨clq163, Arq163, qq163, Sq163, Nq163, Hq163, Gq163⟩ := cq163
      have hinq163 := inb_of (j := (1 : Int32)) Sq163 ⟨by decide, by decide⟩
      refine OwnGo.of (X157.daload hx (j := (1 : Int32)) (v := (.double sc)) Arq163.1 (State.isArrayOf_alike hZ.alike Arq163.2.1) Arq163.2.2 hinq163 (Hq163.at hinq163 rfl) (g := (mkF m 305 #[.val (.int p0), .val (.int p1), .val (.int p2), .val (.int p3), .val (.int p4), .val (.int p5), .val (.int (1 : Int32)), .val (.double d0), .second, .val (.double d1), .second, .val (.double d2), .second, .val (.double df), .second, .val (.double sc), .second, .val (.ref b73), .val (.ref b95)] [(.int (1 : Int32)), (.ref b73)])) rfl rfl (hb hby at_305)) ?_
      show OwnGo p.tables e below _ (T157.setTop (mkF m 306 #[.val (.int p0), .val (.int p1), .val (.int p2), .val (.int p3), .val (.int p4), .val (.int p5), .val (.int (1 : Int32)), .val (.double d0), .second, .val (.double d1), .second, .val (.double d2), .second, .val (.double df), .second, .val (.double sc), .second, .val (.ref b73), .val (.ref b95)] [(.double sc)]))
      refine OwnGo.of (A := T157.setTop (mkF m 306 #[.val (.int p0), .val (.int p1), .val (.int p2), .val (.int p3), .val (.int p4), .val (.int p5), .val (.int (1 : Int32)), .val (.double d0), .second, .val (.double d1), .second, .val (.double d2), .second, .val (.double df), .second, .val (.double sc), .second, .val (.ref b73), .val (.ref b95)] [(.double sc)])) (B := T157.setTop (mkF m 309 #[.val (.int p0), .val (.int p1), .val (.int p2), .val (.int p3), .val (.int p4), .val (.int p5), .val (.int (1 : Int32)), .val (.double d0), .second, .val (.double d1), .second, .val (.double d2), .second, .val (.double df), .second, .val (.double sc), .second, .val (.ref b73), .val (.ref b95)] [(.int (1 : Int32)), (.ref b95), (.double sc)])) (fun t k => ?_) ?_
      · show Steps p.tables e below (T157.setTop (mkF m 306 #[.val (.int p0), .val (.int p1), .val (.int p2), .val (.int p3), .val (.int p4), .val (.int p5), .val (.int (1 : Int32)), .val (.double d0), .second, .val (.double d1), .second, .val (.double d2), .second, .val (.double df), .second, .val (.double sc), .second, .val (.ref b73), .val (.ref b95)] [(.double sc)])) t
        refine XS.aload X157.here hx rfl (hb hby at_306) rfl rfl ?_
        show Steps p.tables e below (T157.setTop (mkF m 308 #[.val (.int p0), .val (.int p1), .val (.int p2), .val (.int p3), .val (.int p4), .val (.int p5), .val (.int (1 : Int32)), .val (.double d0), .second, .val (.double d1), .second, .val (.double d2), .second, .val (.double df), .second, .val (.double sc), .second, .val (.ref b73), .val (.ref b95)] [(.ref b95), (.double sc)])) t
        refine XS.iconst X157.here hx rfl (hb hby at_308) ?_
        exact k
      have cq164 := f159
      obtain ⟨clq164, Arq164, qq164, Sq164, Nq164, Hq164, Gq164⟩ := cq164
      have hinq164 := inb_of (j := (1 : Int32)) Sq164 ⟨by decide, by decide⟩
      refine OwnGo.of (X157.daload hx (j := (1 : Int32)) (v := (.double sc)) Arq164.1 (State.isArrayOf_alike hZ.alike Arq164.2.1) Arq164.2.2 hinq164 (Hq164.at hinq164 rfl) (g := (mkF m 309 #[.val (.int p0), .val (.int p1), .val (.int p2), .val (.int p3), .val (.int p4), .val (.int p5), .val (.int (1 : Int32)), .val (.double d0), .second, .val (.double d1), .second, .val (.double d2), .second, .val (.double df), .second, .val (.double sc), .second, .val (.ref b73), .val (.ref b95)] [(.int (1 : Int32)), (.ref b95), (.double sc)])) rfl rfl (hb hby at_309)) ?_
      show OwnGo p.tables e below _ (T157.setTop (mkF m 310 #[.val (.int p0), .val (.int p1), .val (.int p2), .val (.int p3), .val (.int p4), .val (.int p5), .val (.int (1 : Int32)), .val (.double d0), .second, .val (.double d1), .second, .val (.double d2), .second, .val (.double df), .second, .val (.double sc), .second, .val (.ref b73), .val (.ref b95)] [(.double sc), (.double sc)]))
      refine OwnGo.of (A := T157.setTop (mkF m 310 #[.val (.int p0), .val (.int p1), .val (.int p2), .val (.int p3), .val (.int p4), .val (.int p5), .val (.int (1 : Int32)), .val (.double d0), .second, .val (.double d1), .second, .val (.double d2), .second, .val (.double df), .second, .val (.double sc), .second, .val (.ref b73), .val (.ref b95)] [(.double sc), (.double sc)])) (B := T157.setTop (mkF m 311 #[.val (.int p0), .val (.int p1), .val (.int p2), .val (.int p3), .val (.int p4), .val (.int p5), .val (.int (1 : Int32)), .val (.double d0), .second, .val (.double d1), .second, .val (.double d2), .second, .val (.double df), .second, .val (.double sc), .second, .val (.ref b73), .val (.ref b95)] [(.int (cmpValue (FP.dcmp sc sc) .l))])) (fun t k => ?_) ?_
      · show Steps p.tables e below (T157.setTop (mkF m 310 #[.val (.int p0), .val (.int p1), .val (.int p2), .val (.int p3), .val (.int p4), .val (.int p5), .val (.int (1 : Int32)), .val (.double d0), .second, .val (.double d1), .second, .val (.double d2), .second, .val (.double df), .second, .val (.double sc), .second, .val (.ref b73), .val (.ref b95)] [(.double sc), (.double sc)])) t
        refine XS.dcmpS X157.here hx rfl (hb hby at_310) rfl rfl ?_
        exact k
      have hc165 : (cmpValue (FP.dcmp sc sc) .l) = (0 : Int32) := dcmpV_self nsc .l
      refine OwnGo.of (A := T157.setTop (mkF m 311 #[.val (.int p0), .val (.int p1), .val (.int p2), .val (.int p3), .val (.int p4), .val (.int p5), .val (.int (1 : Int32)), .val (.double d0), .second, .val (.double d1), .second, .val (.double d2), .second, .val (.double df), .second, .val (.double sc), .second, .val (.ref b73), .val (.ref b95)] [(.int (cmpValue (FP.dcmp sc sc) .l))])) (B := T157.setTop (mkF m 317 #[.val (.int p0), .val (.int p1), .val (.int p2), .val (.int p3), .val (.int p4), .val (.int p5), .val (.int (1 : Int32)), .val (.double d0), .second, .val (.double d1), .second, .val (.double d2), .second, .val (.double df), .second, .val (.double sc), .second, .val (.ref b73), .val (.ref b95)] [(.int (2 : Int32)), (.ref b73)])) (fun t k => ?_) ?_
      · show Steps p.tables e below (T157.setTop (mkF m 311 #[.val (.int p0), .val (.int p1), .val (.int p2), .val (.int p3), .val (.int p4), .val (.int p5), .val (.int (1 : Int32)), .val (.double d0), .second, .val (.double d1), .second, .val (.double d2), .second, .val (.double df), .second, .val (.double sc), .second, .val (.ref b73), .val (.ref b95)] [(.int (cmpValue (FP.dcmp sc sc) .l))])) t
        refine XS.ifNo X157.here hx rfl (hb hby at_311) rfl ((if0 _ _).trans (teq hc165).2) ?_
        show Steps p.tables e below (T157.setTop (mkF m 314 #[.val (.int p0), .val (.int p1), .val (.int p2), .val (.int p3), .val (.int p4), .val (.int p5), .val (.int (1 : Int32)), .val (.double d0), .second, .val (.double d1), .second, .val (.double d2), .second, .val (.double df), .second, .val (.double sc), .second, .val (.ref b73), .val (.ref b95)] [])) t
        refine XS.aload X157.here hx rfl (hb hby at_314) rfl rfl ?_
        show Steps p.tables e below (T157.setTop (mkF m 316 #[.val (.int p0), .val (.int p1), .val (.int p2), .val (.int p3), .val (.int p4), .val (.int p5), .val (.int (1 : Int32)), .val (.double d0), .second, .val (.double d1), .second, .val (.double d2), .second, .val (.double df), .second, .val (.double sc), .second, .val (.ref b73), .val (.ref b95)] [(.ref b73)])) t
        refine XS.iconst X157.here hx rfl (hb hby at_316) ?_
        exact k
      have cq166 := y157_0
      obtain ⟨clq166, Arq166, qq166, Sq166, Nq166, Hq166, Gq166⟩ := cq166
      have hinq166 := inb_of (j := (2 : Int32)) Sq166 ⟨by decide, by decide⟩
      refine OwnGo.of (X157.daload hx (j := (2 : Int32)) (v := (.double df)) Arq166.1 (State.isArrayOf_alike hZ.alike Arq166.2.1) Arq166.2.2 hinq166 (Hq166.at hinq166 rfl) (g := (mkF m 317 #[.val (.int p0), .val (.int p1), .val (.int p2), .val (.int p3), .val (.int p4), .val (.int p5), .val (.int (1 : Int32)), .val (.double d0), .second, .val (.double d1), .second, .val (.double d2), .second, .val (.double df), .second, .val (.double sc), .second, .val (.ref b73), .val (.ref b95)] [(.int (2 : Int32)), (.ref b73)])) rfl rfl (hb hby at_317)) ?_
      show OwnGo p.tables e below _ (T157.setTop (mkF m 318 #[.val (.int p0), .val (.int p1), .val (.int p2), .val (.int p3), .val (.int p4), .val (.int p5), .val (.int (1 : Int32)), .val (.double d0), .second, .val (.double d1), .second, .val (.double d2), .second, .val (.double df), .second, .val (.double sc), .second, .val (.ref b73), .val (.ref b95)] [(.double df)]))
      refine OwnGo.of (A := T157.setTop (mkF m 318 #[.val (.int p0), .val (.int p1), .val (.int p2), .val (.int p3), .val (.int p4), .val (.int p5), .val (.int (1 : Int32)), .val (.double d0), .second, .val (.double d1), .second, .val (.double d2), .second, .val (.double df), .second, .val (.double sc), .second, .val (.ref b73), .val (.ref b95)] [(.double df)])) (B := T157.setTop (mkF m 321 #[.val (.int p0), .val (.int p1), .val (.int p2), .val (.int p3), .val (.int p4), .val (.int p5), .val (.int (1 : Int32)), .val (.double d0), .second, .val (.double d1), .second, .val (.double d2), .second, .val (.double df), .second, .val (.double sc), .second, .val (.ref b73), .val (.ref b95)] [(.int (2 : Int32)), (.ref b95), (.double df)])) (fun t k => ?_) ?_
      · show Steps p.tables e below (T157.setTop (mkF m 318 #[.val (.int p0), .val (.int p1), .val (.int p2), .val (.int p3), .val (.int p4), .val (.int p5), .val (.int (1 : Int32)), .val (.double d0), .second, .val (.double d1), .second, .val (.double d2), .second, .val (.double df), .second, .val (.double sc), .second, .val (.ref b73), .val (.ref b95)] [(.double df)])) t
        refine XS.aload X157.here hx rfl (hb hby at_318) rfl rfl ?_
        show Steps p.tables e below (T157.setTop (mkF m 320 #[.val (.int p0), .val (.int p1), .val (.int p2), .val (.int p3), .val (.int p4), .val (.int p5), .val (.int (1 : Int32)), .val (.double d0), .second, .val (.double d1), .second, .val (.double d2), .second, .val (.double df), .second, .val (.double sc), .second, .val (.ref b73), .val (.ref b95)] [(.ref b95), (.double df)])) t
        refine XS.iconst X157.here hx rfl (hb hby at_320) ?_
        exact k
      have cq167 := f159
      obtain ⟨clq167, Arq167, qq167, Sq167, Nq167, Hq167, Gq167⟩ := cq167
      have hinq167 := inb_of (j := (2 : Int32)) Sq167 ⟨by decide, by decide⟩
      refine OwnGo.of (X157.daload hx (j := (2 : Int32)) (v := (.double df)) Arq167.1 (State.isArrayOf_alike hZ.alike Arq167.2.1) Arq167.2.2 hinq167 (Hq167.at hinq167 rfl) (g := (mkF m 321 #[.val (.int p0), .val (.int p1), .val (.int p2), .val (.int p3), .val (.int p4), .val (.int p5), .val (.int (1 : Int32)), .val (.double d0), .second, .val (.double d1), .second, .val (.double d2), .second, .val (.double df), .second, .val (.double sc), .second, .val (.ref b73), .val (.ref b95)] [(.int (2 : Int32)), (.ref b95), (.double df)])) rfl rfl (hb hby at_321)) ?_
      show OwnGo p.tables e below _ (T157.setTop (mkF m 322 #[.val (.int p0), .val (.int p1), .val (.int p2), .val (.int p3), .val (.int p4), .val (.int p5), .val (.int (1 : Int32)), .val (.double d0), .second, .val (.double d1), .second, .val (.double d2), .second, .val (.double df), .second, .val (.double sc), .second, .val (.ref b73), .val (.ref b95)] [(.double df), (.double df)]))
      refine OwnGo.of (A := T157.setTop (mkF m 322 #[.val (.int p0), .val (.int p1), .val (.int p2), .val (.int p3), .val (.int p4), .val (.int p5), .val (.int (1 : Int32)), .val (.double d0), .second, .val (.double d1), .second, .val (.double d2), .second, .val (.double df), .second, .val (.double sc), .second, .val (.ref b73), .val (.ref b95)] [(.double df), (.double df)])) (B := T157.setTop (mkF m 323 #[.val (.int p0), .val (.int p1), .val (.int p2), .val (.int p3), .val (.int p4), .val (.int p5), .val (.int (1 : Int32)), .val (.double d0), .second, .val (.double d1), .second, .val (.double d2), .second, .val (.double df), .second, .val (.double sc), .second, .val (.ref b73), .val (.ref b95)] [(.int (cmpValue (FP.dcmp df df) .l))])) (fun t k => ?_) ?_
      · show Steps p.tables e below (T157.setTop (mkF m 322 #[.val (.int p0), .val (.int p1), .val (.int p2), .val (.int p3), .val (.int p4), .val (.int p5), .val (.int (1 : Int32)), .val (.double d0), .second, .val (.double d1), .second, .val (.double d2), .second, .val (.double df), .second, .val (.double sc), .second, .val (.ref b73), .val (.ref b95)] [(.double df), (.double df)])) t
        refine XS.dcmpS X157.here hx rfl (hb hby at_322) rfl rfl ?_
        exact k
      have hc168 : (cmpValue (FP.dcmp df df) .l) = (0 : Int32) := dcmpV_self ndf .l
      refine OwnGo.of (A := T157.setTop (mkF m 323 #[.val (.int p0), .val (.int p1), .val (.int p2), .val (.int p3), .val (.int p4), .val (.int p5), .val (.int (1 : Int32)), .val (.double d0), .second, .val (.double d1), .second, .val (.double d2), .second, .val (.double df), .second, .val (.double sc), .second, .val (.ref b73), .val (.ref b95)] [(.int (cmpValue (FP.dcmp df df) .l))])) (B := T157.setTop (mkF m 329 #[.val (.int p0), .val (.int p1), .val (.int p2), .val (.int p3), .val (.int p4), .val (.int p5), .val (.int (1 : Int32)), .val (.double d0), .second, .val (.double d1), .second, .val (.double d2), .second, .val (.double df), .second, .val (.double sc), .second, .val (.ref b73), .val (.ref b95)] [(.int (3 : Int32)), (.ref b73)])) (fun t k => ?_) ?_
      · show Steps p.tables e below (T157.setTop (mkF m 323 #[.val (.int p0), .val (.int p1), .val (.int p2), .val (.int p3), .val (.int p4), .val (.int p5), .val (.int (1 : Int32)), .val (.double d0), .second, .val (.double d1), .second, .val (.double d2), .second, .val (.double df), .second, .val (.double sc), .second, .val (.ref b73), .val (.ref b95)] [(.int (cmpValue (FP.dcmp df df) .l))])) t
        refine XS.ifNo X157.here hx rfl (hb hby at_323) rfl ((if0 _ _).trans (teq hc168).2) ?_
        show Steps p.tables e below (T157.setTop (mkF m 326 #[.val (.int p0), .val (.int p1), .val (.int p2), .val (.int p3), .val (.int p4), .val (.int p5), .val (.int (1 : Int32)), .val (.double d0), .second, .val (.double d1), .second, .val (.double d2), .second, .val (.double df), .second, .val (.double sc), .second, .val (.ref b73), .val (.ref b95)] [])) t
        refine XS.aload X157.here hx rfl (hb hby at_326) rfl rfl ?_
        show Steps p.tables e below (T157.setTop (mkF m 328 #[.val (.int p0), .val (.int p1), .val (.int p2), .val (.int p3), .val (.int p4), .val (.int p5), .val (.int (1 : Int32)), .val (.double d0), .second, .val (.double d1), .second, .val (.double d2), .second, .val (.double df), .second, .val (.double sc), .second, .val (.ref b73), .val (.ref b95)] [(.ref b73)])) t
        refine XS.iconst X157.here hx rfl (hb hby at_328) ?_
        exact k
      have cq169 := y157_0
      obtain ⟨clq169, Arq169, qq169, Sq169, Nq169, Hq169, Gq169⟩ := cq169
      have hinq169 := inb_of (j := (3 : Int32)) Sq169 ⟨by decide, by decide⟩
      refine OwnGo.of (X157.daload hx (j := (3 : Int32)) (v := (.double df)) Arq169.1 (State.isArrayOf_alike hZ.alike Arq169.2.1) Arq169.2.2 hinq169 (Hq169.at hinq169 rfl) (g := (mkF m 329 #[.val (.int p0), .val (.int p1), .val (.int p2), .val (.int p3), .val (.int p4), .val (.int p5), .val (.int (1 : Int32)), .val (.double d0), .second, .val (.double d1), .second, .val (.double d2), .second, .val (.double df), .second, .val (.double sc), .second, .val (.ref b73), .val (.ref b95)] [(.int (3 : Int32)), (.ref b73)])) rfl rfl (hb hby at_329)) ?_
      show OwnGo p.tables e below _ (T157.setTop (mkF m 330 #[.val (.int p0), .val (.int p1), .val (.int p2), .val (.int p3), .val (.int p4), .val (.int p5), .val (.int (1 : Int32)), .val (.double d0), .second, .val (.double d1), .second, .val (.double d2), .second, .val (.double df), .second, .val (.double sc), .second, .val (.ref b73), .val (.ref b95)] [(.double df)]))
      refine OwnGo.of (A := T157.setTop (mkF m 330 #[.val (.int p0), .val (.int p1), .val (.int p2), .val (.int p3), .val (.int p4), .val (.int p5), .val (.int (1 : Int32)), .val (.double d0), .second, .val (.double d1), .second, .val (.double d2), .second, .val (.double df), .second, .val (.double sc), .second, .val (.ref b73), .val (.ref b95)] [(.double df)])) (B := T157.setTop (mkF m 333 #[.val (.int p0), .val (.int p1), .val (.int p2), .val (.int p3), .val (.int p4), .val (.int p5), .val (.int (1 : Int32)), .val (.double d0), .second, .val (.double d1), .second, .val (.double d2), .second, .val (.double df), .second, .val (.double sc), .second, .val (.ref b73), .val (.ref b95)] [(.int (3 : Int32)), (.ref b95), (.double df)])) (fun t k => ?_) ?_
      · show Steps p.tables e below (T157.setTop (mkF m 330 #[.val (.int p0), .val (.int p1), .val (.int p2), .val (.int p3), .val (.int p4), .val (.int p5), .val (.int (1 : Int32)), .val (.double d0), .second, .val (.double d1), .second, .val (.double d2), .second, .val (.double df), .second, .val (.double sc), .second, .val (.ref b73), .val (.ref b95)] [(.double df)])) t
        refine XS.aload X157.here hx rfl (hb hby at_330) rfl rfl ?_
        show Steps p.tables e below (T157.setTop (mkF m 332 #[.val (.int p0), .val (.int p1), .val (.int p2), .val (.int p3), .val (.int p4), .val (.int p5), .val (.int (1 : Int32)), .val (.double d0), .second, .val (.double d1), .second, .val (.double d2), .second, .val (.double df), .second, .val (.double sc), .second, .val (.ref b73), .val (.ref b95)] [(.ref b95), (.double df)])) t
        refine XS.iconst X157.here hx rfl (hb hby at_332) ?_
        exact k
      have cq170 := f159
      obtain ⟨clq170, Arq170, qq170, Sq170, Nq170, Hq170, Gq170⟩ := cq170
      have hinq170 := inb_of (j := (3 : Int32)) Sq170 ⟨by decide, by decide⟩
      refine OwnGo.of (X157.daload hx (j := (3 : Int32)) (v := (.double df)) Arq170.1 (State.isArrayOf_alike hZ.alike Arq170.2.1) Arq170.2.2 hinq170 (Hq170.at hinq170 rfl) (g := (mkF m 333 #[.val (.int p0), .val (.int p1), .val (.int p2), .val (.int p3), .val (.int p4), .val (.int p5), .val (.int (1 : Int32)), .val (.double d0), .second, .val (.double d1), .second, .val (.double d2), .second, .val (.double df), .second, .val (.double sc), .second, .val (.ref b73), .val (.ref b95)] [(.int (3 : Int32)), (.ref b95), (.double df)])) rfl rfl (hb hby at_333)) ?_
      show OwnGo p.tables e below _ (T157.setTop (mkF m 334 #[.val (.int p0), .val (.int p1), .val (.int p2), .val (.int p3), .val (.int p4), .val (.int p5), .val (.int (1 : Int32)), .val (.double d0), .second, .val (.double d1), .second, .val (.double d2), .second, .val (.double df), .second, .val (.double sc), .second, .val (.ref b73), .val (.ref b95)] [(.double df), (.double df)]))
      refine OwnGo.of (A := T157.setTop (mkF m 334 #[.val (.int p0), .val (.int p1), .val (.int p2), .val (.int p3), .val (.int p4), .val (.int p5), .val (.int (1 : Int32)), .val (.double d0), .second, .val (.double d1), .second, .val (.double d2), .second, .val (.double df), .second, .val (.double sc), .second, .val (.ref b73), .val (.ref b95)] [(.double df), (.double df)])) (B := T157.setTop (mkF m 335 #[.val (.int p0), .val (.int p1), .val (.int p2), .val (.int p3), .val (.int p4), .val (.int p5), .val (.int (1 : Int32)), .val (.double d0), .second, .val (.double d1), .second, .val (.double d2), .second, .val (.double df), .second, .val (.double sc), .second, .val (.ref b73), .val (.ref b95)] [(.int (cmpValue (FP.dcmp df df) .l))])) (fun t k => ?_) ?_
      · show Steps p.tables e below (T157.setTop (mkF m 334 #[.val (.int p0), .val (.int p1), .val (.int p2), .val (.int p3), .val (.int p4), .val (.int p5), .val (.int (1 : Int32)), .val (.double d0), .second, .val (.double d1), .second, .val (.double d2), .second, .val (.double df), .second, .val (.double sc), .second, .val (.ref b73), .val (.ref b95)] [(.double df), (.double df)])) t
        refine XS.dcmpS X157.here hx rfl (hb hby at_334) rfl rfl ?_
        exact k
      have hc171 : (cmpValue (FP.dcmp df df) .l) = (0 : Int32) := dcmpV_self ndf .l
      refine OwnGo.of (A := T157.setTop (mkF m 335 #[.val (.int p0), .val (.int p1), .val (.int p2), .val (.int p3), .val (.int p4), .val (.int p5), .val (.int (1 : Int32)), .val (.double d0), .second, .val (.double d1), .second, .val (.double d2), .second, .val (.double df), .second, .val (.double sc), .second, .val (.ref b73), .val (.ref b95)] [(.int (cmpValue (FP.dcmp df df) .l))])) (B := T157.setTop (mkF m 343 #[.val (.int p0), .val (.int p1), .val (.int p2), .val (.int p3), .val (.int p4), .val (.int p5), .val (.int (1 : Int32)), .val (.double d0), .second, .val (.double d1), .second, .val (.double d2), .second, .val (.double df), .second, .val (.double sc), .second, .val (.ref b73), .val (.ref b95)] [(.int (1 : Int32))])) (fun t k => ?_) ?_
      · show Steps p.tables e below (T157.setTop (mkF m 335 #[.val (.int p0), .val (.int p1), .val (.int p2), .val (.int p3), .val (.int p4), .val (.int p5), .val (.int (1 : Int32)), .val (.double d0), .second, .val (.double d1), .second, .val (.double d2), .second, .val (.double df), .second, .val (.double sc), .second, .val (.ref b73), .val (.ref b95)] [(.int (cmpValue (FP.dcmp df df) .l))])) t
        refine XS.ifNo X157.here hx rfl (hb hby at_335) rfl ((if0 _ _).trans (teq hc171).2) ?_
        show Steps p.tables e below (T157.setTop (mkF m 338 #[.val (.int p0), .val (.int p1), .val (.int p2), .val (.int p3), .val (.int p4), .val (.int p5), .val (.int (1 : Int32)), .val (.double d0), .second, .val (.double d1), .second, .val (.double d2), .second, .val (.double df), .second, .val (.double sc), .second, .val (.ref b73), .val (.ref b95)] [])) t
        refine XS.iconst X157.here hx rfl (hb hby at_338) ?_
        show Steps p.tables e below (T157.setTop (mkF m 339 #[.val (.int p0), .val (.int p1), .val (.int p2), .val (.int p3), .val (.int p4), .val (.int p5), .val (.int (1 : Int32)), .val (.double d0), .second, .val (.double d1), .second, .val (.double d2), .second, .val (.double df), .second, .val (.double sc), .second, .val (.ref b73), .val (.ref b95)] [(.int (1 : Int32))])) t
        refine XS.goto X157.here hx rfl (pc0 := 339) (pc' := 343) rfl (hb hby at_339) (by decide) (by decide) ?_
        exact k
      obtain ⟨fs, hr, hrun, hended, hW, hsame⟩ := X157.leave (v := some (.int (nar .boolean (1 : Int32)))) (fun h => by rw [Bd.returns] at h; cases h) hlk
      refine ⟨_, _, ?_, hrun, hended, _, _, rfl, ?_, ⟨_, rfl⟩, hW, hsame.mono (by decide) (by decide)⟩
      · show Steps p.tables e below (T157.setTop (mkF m 343 #[.val (.int p0), .val (.int p1), .val (.int p2), .val (.int p3), .val (.int p4), .val (.int p5), .val (.int (1 : Int32)), .val (.double d0), .second, .val (.double d1), .second, .val (.double d2), .second, .val (.double df), .second, .val (.double sc), .second, .val (.ref b73), .val (.ref b95)] [(.int (1 : Int32))])) _
        exact retN X157 hx (t := .boolean) Bd.returns (by simp) (hb hby at_343) hr
      · show Qrm0 Z p0 p1 p2 p3 p4 p5 h0 n0 _ (T157.setFrames fs).heap _
        rw [show (T157.setFrames fs).heap = T157.heap from rfl]
        exact ⟨rfl, N157⟩
  · rw [qa]
    show OwnGo p.tables e below _ (s₁.setTop (mkF m 41 #[.val (.int p0), .val (.int p1), .val (.int p2), .val (.int p3), .val (.int p4), .val (.int p5), .val (.int (2 : Int32)), .val (.double d0), .second, .val (.double d1), .second, .val (.double d2), .second, .val (.double df), .second, .val (.double sc), .second, .unset, .unset] []))
    refine OwnGo.of (A := s₁.setTop (mkF m 41 #[.val (.int p0), .val (.int p1), .val (.int p2), .val (.int p3), .val (.int p4), .val (.int p5), .val (.int (2 : Int32)), .val (.double d0), .second, .val (.double d1), .second, .val (.double d2), .second, .val (.double df), .second, .val (.double sc), .second, .unset, .unset] [])) (B := s₁.setTop (mkF m 42 #[.val (.int p0), .val (.int p1), .val (.int p2), .val (.int p3), .val (.int p4), .val (.int p5), .val (.int (2 : Int32)), .val (.double d0), .second, .val (.double d1), .second, .val (.double d2), .second, .val (.double df), .second, .val (.double sc), .second, .unset, .unset] [(.int (4 : Int32))])) (fun t k => ?_) ?_
    · show Steps p.tables e below (s₁.setTop (mkF m 41 #[.val (.int p0), .val (.int p1), .val (.int p2), .val (.int p3), .val (.int p4), .val (.int p5), .val (.int (2 : Int32)), .val (.double d0), .second, .val (.double d1), .second, .val (.double d2), .second, .val (.double df), .second, .val (.double sc), .second, .unset, .unset] [])) t
      refine XS.iconst X0.here hx rfl (hb hby at_41) ?_
      exact k
    obtain ⟨T173, h173, k173, X173, e173, E173, A173, st173⟩ := newP X0 hx hZ (hw _ (List.mem_of_getElem? (i := 1) rfl)) e0 (g := (mkF m 42 #[.val (.int p0), .val (.int p1), .val (.int p2), .val (.int p3), .val (.int p4), .val (.int p5), .val (.int (2 : Int32)), .val (.double d0), .second, .val (.double d1), .second, .val (.double d2), .second, .val (.double df), .second, .val (.double sc), .second, .unset, .unset] [(.int (4 : Int32))])) rfl (hb hby at_42) rfl (by decide) (cap := 4) (by decide) (by decide) (by decide) (by decide)
    obtain ⟨b173, g173⟩ : ∃ z, z = h0.size := ⟨_, rfl⟩
    rw [← g173] at A173 st173
    refine OwnGo.of st173 ?_
    have g_b173 : n0 ≤ b173 := Nat.le_trans Z0 (Nat.le_of_eq g173.symm)
    have f174 : n0 ≤ h173.size := Nat.le_trans Z0 E173.1
    have f175 : Arv Z h173 b173 k173 .double (4 : Int32) [(.double (0 : UInt64)), (.double (0 : UInt64)), (.double (0 : UInt64)), (.double (0 : UInt64))] (.double (0 : UInt64)) := (Arv.new A173 (by decide)).pad (pad_rep [] (.double (0 : UInt64)) 4)
    show OwnGo p.tables e below _ (T173.setTop (mkF m 44 #[.val (.int p0), .val (.int p1), .val (.int p2), .val (.int p3), .val (.int p4), .val (.int p5), .val (.int (2 : Int32)), .val (.double d0), .second, .val (.double d1), .second, .val (.double d2), .second, .val (.double df), .second, .val (.double sc), .second, .unset, .unset] [(.ref b173)]))
    refine OwnGo.of (A := T173.setTop (mkF m 44 #[.val (.int p0), .val (.int p1), .val (.int p2), .val (.int p3), .val (.int p4), .val (.int p5), .val (.int (2 : Int32)), .val (.double d0), .second, .val (.double d1), .second, .val (.double d2), .second, .val (.double df), .second, .val (.double sc), .second, .unset, .unset] [(.ref b173)])) (B := T173.setTop (mkF m 51 #[.val (.int p0), .val (.int p1), .val (.int p2), .val (.int p3), .val (.int p4), .val (.int p5), .val (.int (2 : Int32)), .val (.double d0), .second, .val (.double d1), .second, .val (.double d2), .second, .val (.double df), .second, .val (.double sc), .second, .val (.ref b173), .unset] [(.int (2 : Int32)), (.int (0 : Int32)), (.ref b173)])) (fun t k => ?_) ?_
    · show Steps p.tables e below (T173.setTop (mkF m 44 #[.val (.int p0), .val (.int p1), .val (.int p2), .val (.int p3), .val (.int p4), .val (.int p5), .val (.int (2 : Int32)), .val (.double d0), .second, .val (.double d1), .second, .val (.double d2), .second, .val (.double df), .second, .val (.double sc), .second, .unset, .unset] [(.ref b173)])) t
      refine XS.astore X173.here hx rfl (hb hby at_44) rfl rfl (l' := #[.val (.int p0), .val (.int p1), .val (.int p2), .val (.int p3), .val (.int p4), .val (.int p5), .val (.int (2 : Int32)), .val (.double d0), .second, .val (.double d1), .second, .val (.double d2), .second, .val (.double df), .second, .val (.double sc), .second, .val (.ref b173), .unset]) rfl ?_
      show Steps p.tables e below (T173.setTop (mkF m 46 #[.val (.int p0), .val (.int p1), .val (.int p2), .val (.int p3), .val (.int p4), .val (.int p5), .val (.int (2 : Int32)), .val (.double d0), .second, .val (.double d1), .second, .val (.double d2), .second, .val (.double df), .second, .val (.double sc), .second, .val (.ref b173), .unset] [])) t
      refine XS.aload X173.here hx rfl (hb hby at_46) rfl rfl ?_
      show Steps p.tables e below (T173.setTop (mkF m 48 #[.val (.int p0), .val (.int p1), .val (.int p2), .val (.int p3), .val (.int p4), .val (.int p5), .val (.int (2 : Int32)), .val (.double d0), .second, .val (.double d1), .second, .val (.double d2), .second, .val (.double df), .second, .val (.double sc), .second, .val (.ref b173), .unset] [(.ref b173)])) t
      refine XS.iconst X173.here hx rfl (hb hby at_48) ?_
      show Steps p.tables e below (T173.setTop (mkF m 49 #[.val (.int p0), .val (.int p1), .val (.int p2), .val (.int p3), .val (.int p4), .val (.int p5), .val (.int (2 : Int32)), .val (.double d0), .second, .val (.double d1), .second, .val (.double d2), .second, .val (.double df), .second, .val (.double sc), .second, .val (.ref b173), .unset] [(.int (0 : Int32)), (.ref b173)])) t
      refine XS.iload X173.here hx rfl (hb hby at_49) rfl ?_
      exact k
    have hc176 : (0 : Int32) < (2 : Int32) := by decide
    refine OwnGo.of (A := T173.setTop (mkF m 51 #[.val (.int p0), .val (.int p1), .val (.int p2), .val (.int p3), .val (.int p4), .val (.int p5), .val (.int (2 : Int32)), .val (.double d0), .second, .val (.double d1), .second, .val (.double d2), .second, .val (.double df), .second, .val (.double sc), .second, .val (.ref b173), .unset] [(.int (2 : Int32)), (.int (0 : Int32)), (.ref b173)])) (B := T173.setTop (mkF m 61 #[.val (.int p0), .val (.int p1), .val (.int p2), .val (.int p3), .val (.int p4), .val (.int p5), .val (.int (2 : Int32)), .val (.double d0), .second, .val (.double d1), .second, .val (.double d2), .second, .val (.double df), .second, .val (.double sc), .second, .val (.ref b173), .unset] [(.double d0), (.int (0 : Int32)), (.ref b173)])) (fun t k => ?_) ?_
    · show Steps p.tables e below (T173.setTop (mkF m 51 #[.val (.int p0), .val (.int p1), .val (.int p2), .val (.int p3), .val (.int p4), .val (.int p5), .val (.int (2 : Int32)), .val (.double d0), .second, .val (.double d1), .second, .val (.double d2), .second, .val (.double df), .second, .val (.double sc), .second, .val (.ref b173), .unset] [(.int (2 : Int32)), (.int (0 : Int32)), (.ref b173)])) t
      refine XS.ifNo X173.here hx rfl (hb hby at_51) rfl ((if0 _ _).trans (tlt hc176).2.2.2) ?_
      show Steps p.tables e below (T173.setTop (mkF m 54 #[.val (.int p0), .val (.int p1), .val (.int p2), .val (.int p3), .val (.int p4), .val (.int p5), .val (.int (2 : Int32)), .val (.double d0), .second, .val (.double d1), .second, .val (.double d2), .second, .val (.double df), .second, .val (.double sc), .second, .val (.ref b173), .unset] [(.int (0 : Int32)), (.ref b173)])) t
      refine XS.dload X173.here hx rfl (hb hby at_54) rfl ?_
      show Steps p.tables e below (T173.setTop (mkF m 56 #[.val (.int p0), .val (.int p1), .val (.int p2), .val (.int p3), .val (.int p4), .val (.int p5), .val (.int (2 : Int32)), .val (.double d0), .second, .val (.double d1), .second, .val (.double d2), .second, .val (.double df), .second, .val (.double sc), .second, .val (.ref b173), .unset] [(.double d0), (.int (0 : Int32)), (.ref b173)])) t
      refine XS.goto X173.here hx rfl (pc0 := 56) (pc' := 61) rfl (hb hby at_56) (by decide) (by decide) ?_
      exact k
    have cq177 := f175
    obtain ⟨clq177, Arq177, qq177, Sq177, Nq177, Hq177, Gq177⟩ := cq177
    obtain ⟨T178, h178, X178, e178, W178, st178⟩ := stD X173 hx hZ e173 Arq177 (j := (0 : Int32)) (inb_of Sq177 ⟨by decide, by decide⟩) (g := (mkF m 61 #[.val (.int p0), .val (.int p1), .val (.int p2), .val (.int p3), .val (.int p4), .val (.int p5), .val (.int (2 : Int32)), .val (.double d0), .second, .val (.double d1), .second, .val (.double d2), .second, .val (.double df), .second, .val (.double sc), .second, .val (.ref b173), .unset] [(.double d0), (.int (0 : Int32)), (.ref b173)])) rfl rfl (hb hby at_61)
    refine OwnGo.of st178 ?_
    have N178 := Fr.snoc X178 N0 g_b173
    have f179 : n0 ≤ h178.size := Nat.le_trans f174 (Keep.of_wr W178).1
    have f180 : Arv Z h178 b173 k173 .double (4 : Int32) [(.double d0), (.double (0 : UInt64)), (.double (0 : UInt64)), (.double (0 : UInt64))] (.double (0 : UInt64)) := Arv.set Arq177 qq177 Sq177 Nq177 Hq177 Gq177 rfl W178 0 rfl (Nat.le_of_ble_eq_true rfl)
    show OwnGo p.tables e below _ (T178.setTop (mkF m 62 #[.val (.int p0), .val (.int p1), .val (.int p2), .val (.int p3), .val (.int p4), .val (.int p5), .val (.int (2 : Int32)), .val (.double d0), .second, .val (.double d1), .second, .val (.double d2), .second, .val (.double df), .second, .val (.double sc), .second, .val (.ref b173), .unset] []))
    refine OwnGo.of (A := T178.setTop (mkF m 62 #[.val (.int p0), .val (.int p1), .val (.int p2), .val (.int p3), .val (.int p4), .val (.int p5), .val (.int (2 : Int32)), .val (.double d0), .second, .val (.double d1), .second, .val (.double d2), .second, .val (.double df), .second, .val (.double sc), .second, .val (.ref b173), .unset] [])) (B := T178.setTop (mkF m 68 #[.val (.int p0), .val (.int p1), .val (.int p2), .val (.int p3), .val (.int p4), .val (.int p5), .val (.int (2 : Int32)), .val (.double d0), .second, .val (.double d1), .second, .val (.double d2), .second, .val (.double df), .second, .val (.double sc), .second, .val (.ref b173), .unset] [(.int (1 : Int32)), (.int (2 : Int32)), (.int (1 : Int32)), (.ref b173)])) (fun t k => ?_) ?_
    · show Steps p.tables e below (T178.setTop (mkF m 62 #[.val (.int p0), .val (.int p1), .val (.int p2), .val (.int p3), .val (.int p4), .val (.int p5), .val (.int (2 : Int32)), .val (.double d0), .second, .val (.double d1), .second, .val (.double d2), .second, .val (.double df), .second, .val (.double sc), .second, .val (.ref b173), .unset] [])) t
      refine XS.aload X178.here hx rfl (hb hby at_62) rfl rfl ?_
      show Steps p.tables e below (T178.setTop (mkF m 64 #[.val (.int p0), .val (.int p1), .val (.int p2), .val (.int p3), .val (.int p4), .val (.int p5), .val (.int (2 : Int32)), .val (.double d0), .second, .val (.double d1), .second, .val (.double d2), .second, .val (.double df), .second, .val (.double sc), .second, .val (.ref b173), .unset] [(.ref b173)])) t
      refine XS.iconst X178.here hx rfl (hb hby at_64) ?_
      show Steps p.tables e below (T178.setTop (mkF m 65 #[.val (.int p0), .val (.int p1), .val (.int p2), .val (.int p3), .val (.int p4), .val (.int p5), .val (.int (2 : Int32)), .val (.double d0), .second, .val (.double d1), .second, .val (.double d2), .second, .val (.double df), .second, .val (.double sc), .second, .val (.ref b173), .unset] [(.int (1 : Int32)), (.ref b173)])) t
      refine XS.iload X178.here hx rfl (hb hby at_65) rfl ?_
      show Steps p.tables e below (T178.setTop (mkF m 67 #[.val (.int p0), .val (.int p1), .val (.int p2), .val (.int p3), .val (.int p4), .val (.int p5), .val (.int (2 : Int32)), .val (.double d0), .second, .val (.double d1), .second, .val (.double d2), .second, .val (.double df), .second, .val (.double sc), .second, .val (.ref b173), .unset] [(.int (2 : Int32)), (.int (1 : Int32)), (.ref b173)])) t
      refine XS.iconst X178.here hx rfl (hb hby at_67) ?_
      exact k
    have hc181 : (1 : Int32) < (2 : Int32) := by decide
    refine OwnGo.of (A := T178.setTop (mkF m 68 #[.val (.int p0), .val (.int p1), .val (.int p2), .val (.int p3), .val (.int p4), .val (.int p5), .val (.int (2 : Int32)), .val (.double d0), .second, .val (.double d1), .second, .val (.double d2), .second, .val (.double df), .second, .val (.double sc), .second, .val (.ref b173), .unset] [(.int (1 : Int32)), (.int (2 : Int32)), (.int (1 : Int32)), (.ref b173)])) (B := T178.setTop (mkF m 78 #[.val (.int p0), .val (.int p1), .val (.int p2), .val (.int p3), .val (.int p4), .val (.int p5), .val (.int (2 : Int32)), .val (.double d0), .second, .val (.double d1), .second, .val (.double d2), .second, .val (.double df), .second, .val (.double sc), .second, .val (.ref b173), .unset] [(.double d1), (.int (1 : Int32)), (.ref b173)])) (fun t k => ?_) ?_
    · show Steps p.tables e below (T178.setTop (mkF m 68 #[.val (.int p0), .val (.int p1), .val (.int p2), .val (.int p3), .val (.int p4), .val (.int p5), .val (.int (2 : Int32)), .val (.double d0), .second, .val (.double d1), .second, .val (.double d2), .second, .val (.double df), .second, .val (.double sc), .second, .val (.ref b173), .unset] [(.int (1 : Int32)), (.int (2 : Int32)), (.int (1 : Int32)), (.ref b173)])) t
      refine XS.icmpNo X178.here hx rfl (hb hby at_68) rfl (tlt hc181).2.2.2 ?_
      show Steps p.tables e below (T178.setTop (mkF m 71 #[.val (.int p0), .val (.int p1), .val (.int p2), .val (.int p3), .val (.int p4), .val (.int p5), .val (.int (2 : Int32)), .val (.double d0), .second, .val (.double d1), .second, .val (.double d2), .second, .val (.double df), .second, .val (.double sc), .second, .val (.ref b173), .unset] [(.int (1 : Int32)), (.ref b173)])) t
      refine XS.dload X178.here hx rfl (hb hby at_71) rfl ?_
      show Steps p.tables e below (T178.setTop (mkF m 73 #[.val (.int p0), .val (.int p1), .val (.int p2), .val (.int p3), .val (.int p4), .val (.int p5), .val (.int (2 : Int32)), .val (.double d0), .second, .val (.double d1), .second, .val (.double d2), .second, .val (.double df), .second, .val (.double sc), .second, .val (.ref b173), .unset] [(.double d1), (.int (1 : Int32)), (.ref b173)])) t
      refine XS.goto X178.here hx rfl (pc0 := 73) (pc' := 78) rfl (hb hby at_73) (by decide) (by decide) ?_
      exact k
    have cq182 := f180
    obtain ⟨clq182, Arq182, qq182, Sq182, Nq182, Hq182, Gq182⟩ := cq182
    obtain ⟨T183, h183, X183, e183, W183, st183⟩ := stD X178 hx hZ e178 Arq182 (j := (1 : Int32)) (inb_of Sq182 ⟨by decide, by decide⟩) (g := (mkF m 78 #[.val (.int p0), .val (.int p1), .val (.int p2), .val (.int p3), .val (.int p4), .val (.int p5), .val (.int (2 : Int32)), .val (.double d0), .second, .val (.double d1), .second, .val (.double d2), .second, .val (.double df), .second, .val (.double sc), .second, .val (.ref b173), .unset] [(.double d1), (.int (1 : Int32)), (.ref b173)])) rfl rfl (hb hby at_78)
    refine OwnGo.of st183 ?_
    have N183 := Fr.snoc X183 N178 g_b173
    have f184 : n0 ≤ h183.size := Nat.le_trans f179 (Keep.of_wr W183).1
    have f185 : Arv Z h183 b173 k173 .double (4 : Int32) [(.double d0), (.double d1), (.double (0 : UInt64)), (.double (0 : UInt64))] (.double (0 : UInt64)) := Arv.set Arq182 qq182 Sq182 Nq182 Hq182 Gq182 rfl W183 1 rfl (Nat.le_of_ble_eq_true rfl)
    show OwnGo p.tables e below _ (T183.setTop (mkF m 79 #[.val (.int p0), .val (.int p1), .val (.int p2), .val (.int p3), .val (.int p4), .val (.int p5), .val (.int (2 : Int32)), .val (.double d0), .second, .val (.double d1), .second, .val (.double d2), .second, .val (.double df), .second, .val (.double sc), .second, .val (.ref b173), .unset] []))
    refine OwnGo.of (A := T183.setTop (mkF m 79 #[.val (.int p0), .val (.int p1), .val (.int p2), .val (.int p3), .val (.int p4), .val (.int p5), .val (.int (2 : Int32)), .val (.double d0), .second, .val (.double d1), .second, .val (.double d2), .second, .val (.double df), .second, .val (.double sc), .second, .val (.ref b173), .unset] [])) (B := T183.setTop (mkF m 85 #[.val (.int p0), .val (.int p1), .val (.int p2), .val (.int p3), .val (.int p4), .val (.int p5), .val (.int (2 : Int32)), .val (.double d0), .second, .val (.double d1), .second, .val (.double d2), .second, .val (.double df), .second, .val (.double sc), .second, .val (.ref b173), .unset] [(.int (2 : Int32)), (.int (2 : Int32)), (.int (2 : Int32)), (.ref b173)])) (fun t k => ?_) ?_
    · show Steps p.tables e below (T183.setTop (mkF m 79 #[.val (.int p0), .val (.int p1), .val (.int p2), .val (.int p3), .val (.int p4), .val (.int p5), .val (.int (2 : Int32)), .val (.double d0), .second, .val (.double d1), .second, .val (.double d2), .second, .val (.double df), .second, .val (.double sc), .second, .val (.ref b173), .unset] [])) t
      refine XS.aload X183.here hx rfl (hb hby at_79) rfl rfl ?_
      show Steps p.tables e below (T183.setTop (mkF m 81 #[.val (.int p0), .val (.int p1), .val (.int p2), .val (.int p3), .val (.int p4), .val (.int p5), .val (.int (2 : Int32)), .val (.double d0), .second, .val (.double d1), .second, .val (.double d2), .second, .val (.double df), .second, .val (.double sc), .second, .val (.ref b173), .unset] [(.ref b173)])) t
      refine XS.iconst X183.here hx rfl (hb hby at_81) ?_
      show Steps p.tables e below (T183.setTop (mkF m 82 #[.val (.int p0), .val (.int p1), .val (.int p2), .val (.int p3), .val (.int p4), .val (.int p5), .val (.int (2 : Int32)), .val (.double d0), .second, .val (.double d1), .second, .val (.double d2), .second, .val (.double df), .second, .val (.double sc), .second, .val (.ref b173), .unset] [(.int (2 : Int32)), (.ref b173)])) t
      refine XS.iload X183.here hx rfl (hb hby at_82) rfl ?_
      show Steps p.tables e below (T183.setTop (mkF m 84 #[.val (.int p0), .val (.int p1), .val (.int p2), .val (.int p3), .val (.int p4), .val (.int p5), .val (.int (2 : Int32)), .val (.double d0), .second, .val (.double d1), .second, .val (.double d2), .second, .val (.double df), .second, .val (.double sc), .second, .val (.ref b173), .unset] [(.int (2 : Int32)), (.int (2 : Int32)), (.ref b173)])) t
      refine XS.iconst X183.here hx rfl (hb hby at_84) ?_
      exact k
    have hc186 : ¬ ((2 : Int32) < (2 : Int32)) := by decide
    refine OwnGo.of (A := T183.setTop (mkF m 85 #[.val (.int p0), .val (.int p1), .val (.int p2), .val (.int p3), .val (.int p4), .val (.int p5), .val (.int (2 : Int32)), .val (.double d0), .second, .val (.double d1), .second, .val (.double d2), .second, .val (.double df), .second, .val (.double sc), .second, .val (.ref b173), .unset] [(.int (2 : Int32)), (.int (2 : Int32)), (.int (2 : Int32)), (.ref b173)])) (B := T183.setTop (mkF m 95 #[.val (.int p0), .val (.int p1), .val (.int p2), .val (.int p3), .val (.int p4), .val (.int p5), .val (.int (2 : Int32)), .val (.double d0), .second, .val (.double d1), .second, .val (.double d2), .second, .val (.double df), .second, .val (.double sc), .second, .val (.ref b173), .unset] [(.double df), (.int (2 : Int32)), (.ref b173)])) (fun t k => ?_) ?_
    · show Steps p.tables e below (T183.setTop (mkF m 85 #[.val (.int p0), .val (.int p1), .val (.int p2), .val (.int p3), .val (.int p4), .val (.int p5), .val (.int (2 : Int32)), .val (.double d0), .second, .val (.double d1), .second, .val (.double d2), .second, .val (.double df), .second, .val (.double sc), .second, .val (.ref b173), .unset] [(.int (2 : Int32)), (.int (2 : Int32)), (.int (2 : Int32)), (.ref b173)])) t
      refine XS.icmpYes X183.here hx rfl (pc0 := 85) (pc' := 93) rfl (hb hby at_85) rfl (flt hc186).2.2.2 (by decide) (by decide) ?_
      show Steps p.tables e below (T183.setTop (mkF m 93 #[.val (.int p0), .val (.int p1), .val (.int p2), .val (.int p3), .val (.int p4), .val (.int p5), .val (.int (2 : Int32)), .val (.double d0), .second, .val (.double d1), .second, .val (.double d2), .second, .val (.double df), .second, .val (.double sc), .second, .val (.ref b173), .unset] [(.int (2 : Int32)), (.ref b173)])) t
      refine XS.dload X183.here hx rfl (hb hby at_93) rfl ?_
      exact k
    have cq187 := f185
    obtain ⟨clq187, Arq187, qq187, Sq187, Nq187, Hq187, Gq187⟩ := cq187
    obtain ⟨T188, h188, X188, e188, W188, st188⟩ := stD X183 hx hZ e183 Arq187 (j := (2 : Int32)) (inb_of Sq187 ⟨by decide, by decide⟩) (g := (mkF m 95 #[.val (.int p0), .val (.int p1), .val (.int p2), .val (.int p3), .val (.int p4), .val (.int p5), .val (.int (2 : Int32)), .val (.double d0), .second, .val (.double d1), .second, .val (.double d2), .second, .val (.double df), .second, .val (.double sc), .second, .val (.ref b173), .unset] [(.double df), (.int (2 : Int32)), (.ref b173)])) rfl rfl (hb hby at_95)
    refine OwnGo.of st188 ?_
    have N188 := Fr.snoc X188 N183 g_b173
    have f189 : n0 ≤ h188.size := Nat.le_trans f184 (Keep.of_wr W188).1
    have f190 : Arv Z h188 b173 k173 .double (4 : Int32) [(.double d0), (.double d1), (.double df), (.double (0 : UInt64))] (.double (0 : UInt64)) := Arv.set Arq187 qq187 Sq187 Nq187 Hq187 Gq187 rfl W188 2 rfl (Nat.le_of_ble_eq_true rfl)
    show OwnGo p.tables e below _ (T188.setTop (mkF m 96 #[.val (.int p0), .val (.int p1), .val (.int p2), .val (.int p3), .val (.int p4), .val (.int p5), .val (.int (2 : Int32)), .val (.double d0), .second, .val (.double d1), .second, .val (.double d2), .second, .val (.double df), .second, .val (.double sc), .second, .val (.ref b173), .unset] []))
    refine OwnGo.of (A := T188.setTop (mkF m 96 #[.val (.int p0), .val (.int p1), .val (.int p2), .val (.int p3), .val (.int p4), .val (.int p5), .val (.int (2 : Int32)), .val (.double d0), .second, .val (.double d1), .second, .val (.double d2), .second, .val (.double df), .second, .val (.double sc), .second, .val (.ref b173), .unset] [])) (B := T188.setTop (mkF m 101 #[.val (.int p0), .val (.int p1), .val (.int p2), .val (.int p3), .val (.int p4), .val (.int p5), .val (.int (2 : Int32)), .val (.double d0), .second, .val (.double d1), .second, .val (.double d2), .second, .val (.double df), .second, .val (.double sc), .second, .val (.ref b173), .unset] [(.double df), (.int (3 : Int32)), (.ref b173)])) (fun t k => ?_) ?_
    · show Steps p.tables e below (T188.setTop (mkF m 96 #[.val (.int p0), .val (.int p1), .val (.int p2), .val (.int p3), .val (.int p4), .val (.int p5), .val (.int (2 : Int32)), .val (.double d0), .second, .val (.double d1), .second, .val (.double d2), .second, .val (.double df), .second, .val (.double sc), .second, .val (.ref b173), .unset] [])) t
      refine XS.aload X188.here hx rfl (hb hby at_96) rfl rfl ?_
      show Steps p.tables e below (T188.setTop (mkF m 98 #[.val (.int p0), .val (.int p1), .val (.int p2), .val (.int p3), .val (.int p4), .val (.int p5), .val (.int (2 : Int32)), .val (.double d0), .second, .val (.double d1), .second, .val (.double d2), .second, .val (.double df), .second, .val (.double sc), .second, .val (.ref b173), .unset] [(.ref b173)])) t
      refine XS.iconst X188.here hx rfl (hb hby at_98) ?_
      show Steps p.tables e below (T188.setTop (mkF m 99 #[.val (.int p0), .val (.int p1), .val (.int p2), .val (.int p3), .val (.int p4), .val (.int p5), .val (.int (2 : Int32)), .val (.double d0), .second, .val (.double d1), .second, .val (.double d2), .second, .val (.double df), .second, .val (.double sc), .second, .val (.ref b173), .unset] [(.int (3 : Int32)), (.ref b173)])) t
      refine XS.dload X188.here hx rfl (hb hby at_99) rfl ?_
      exact k
    have cq191 := f190
    obtain ⟨clq191, Arq191, qq191, Sq191, Nq191, Hq191, Gq191⟩ := cq191
    obtain ⟨T192, h192, X192, e192, W192, st192⟩ := stD X188 hx hZ e188 Arq191 (j := (3 : Int32)) (inb_of Sq191 ⟨by decide, by decide⟩) (g := (mkF m 101 #[.val (.int p0), .val (.int p1), .val (.int p2), .val (.int p3), .val (.int p4), .val (.int p5), .val (.int (2 : Int32)), .val (.double d0), .second, .val (.double d1), .second, .val (.double d2), .second, .val (.double df), .second, .val (.double sc), .second, .val (.ref b173), .unset] [(.double df), (.int (3 : Int32)), (.ref b173)])) rfl rfl (hb hby at_101)
    refine OwnGo.of st192 ?_
    have N192 := Fr.snoc X192 N188 g_b173
    have f193 : n0 ≤ h192.size := Nat.le_trans f189 (Keep.of_wr W192).1
    have f194 : Arv Z h192 b173 k173 .double (4 : Int32) [(.double d0), (.double d1), (.double df), (.double df)] (.double (0 : UInt64)) := Arv.set Arq191 qq191 Sq191 Nq191 Hq191 Gq191 rfl W192 3 rfl (Nat.le_of_ble_eq_true rfl)
    show OwnGo p.tables e below _ (T192.setTop (mkF m 102 #[.val (.int p0), .val (.int p1), .val (.int p2), .val (.int p3), .val (.int p4), .val (.int p5), .val (.int (2 : Int32)), .val (.double d0), .second, .val (.double d1), .second, .val (.double d2), .second, .val (.double df), .second, .val (.double sc), .second, .val (.ref b173), .unset] []))
    refine OwnGo.of (A := T192.setTop (mkF m 102 #[.val (.int p0), .val (.int p1), .val (.int p2), .val (.int p3), .val (.int p4), .val (.int p5), .val (.int (2 : Int32)), .val (.double d0), .second, .val (.double d1), .second, .val (.double d2), .second, .val (.double df), .second, .val (.double sc), .second, .val (.ref b173), .unset] [])) (B := T192.setTop (mkF m 103 #[.val (.int p0), .val (.int p1), .val (.int p2), .val (.int p3), .val (.int p4), .val (.int p5), .val (.int (2 : Int32)), .val (.double d0), .second, .val (.double d1), .second, .val (.double d2), .second, .val (.double df), .second, .val (.double sc), .second, .val (.ref b173), .unset] [(.int (4 : Int32))])) (fun t k => ?_) ?_
    · show Steps p.tables e below (T192.setTop (mkF m 102 #[.val (.int p0), .val (.int p1), .val (.int p2), .val (.int p3), .val (.int p4), .val (.int p5), .val (.int (2 : Int32)), .val (.double d0), .second, .val (.double d1), .second, .val (.double d2), .second, .val (.double df), .second, .val (.double sc), .second, .val (.ref b173), .unset] [])) t
      refine XS.iconst X192.here hx rfl (hb hby at_102) ?_
      exact k
    obtain ⟨T195, h195, k195, X195, e195, E195, A195, st195⟩ := newP X192 hx hZ (hw _ (List.mem_of_getElem? (i := 1) rfl)) e192 (g := (mkF m 103 #[.val (.int p0), .val (.int p1), .val (.int p2), .val (.int p3), .val (.int p4), .val (.int p5), .val (.int (2 : Int32)), .val (.double d0), .second, .val (.double d1), .second, .val (.double d2), .second, .val (.double df), .second, .val (.double sc), .second, .val (.ref b173), .unset] [(.int (4 : Int32))])) rfl (hb hby at_103) rfl (by decide) (cap := 4) (by decide) (by decide) (by decide) (by decide)
    obtain ⟨b195, g195⟩ : ∃ z, z = h192.size := ⟨_, rfl⟩
    rw [← g195] at A195 st195
    refine OwnGo.of st195 ?_
    have ne_b173_b195 : b173 ≠ b195 := Nat.ne_of_lt (Nat.lt_of_lt_of_le f194.lt (Nat.le_of_eq g195.symm))
    have g_b195 : n0 ≤ b195 := Nat.le_trans f193 (Nat.le_of_eq g195.symm)
    have f196 : n0 ≤ h195.size := Nat.le_trans f193 E195.1
    have f197 : Arv Z h195 b173 k173 .double (4 : Int32) [(.double d0), (.double d1), (.double df), (.double df)] (.double (0 : UInt64)) := f194.ext E195
    have f198 : Arv Z h195 b195 k195 .double (4 : Int32) [(.double (0 : UInt64)), (.double (0 : UInt64)), (.double (0 : UInt64)), (.double (0 : UInt64))] (.double (0 : UInt64)) := (Arv.new A195 (by decide)).pad (pad_rep [] (.double (0 : UInt64)) 4)
    show OwnGo p.tables e below _ (T195.setTop (mkF m 105 #[.val (.int p0), .val (.int p1), .val (.int p2), .val (.int p3), .val (.int p4), .val (.int p5), .val (.int (2 : Int32)), .val (.double d0), .second, .val (.double d1), .second, .val (.double d2), .second, .val (.double df), .second, .val (.double sc), .second, .val (.ref b173), .unset] [(.ref b195)]))
    refine OwnGo.of (A := T195.setTop (mkF m 105 #[.val (.int p0), .val (.int p1), .val (.int p2), .val (.int p3), .val (.int p4), .val (.int p5), .val (.int (2 : Int32)), .val (.double d0), .second, .val (.double d1), .second, .val (.double d2), .second, .val (.double df), .second, .val (.double sc), .second, .val (.ref b173), .unset] [(.ref b195)])) (B := T195.setTop (mkF m 113 #[.val (.int p0), .val (.int p1), .val (.int p2), .val (.int p3), .val (.int p4), .val (.int p5), .val (.int (2 : Int32)), .val (.double d0), .second, .val (.double d1), .second, .val (.double d2), .second, .val (.double df), .second, .val (.double sc), .second, .val (.ref b173), .val (.ref b195)] [(.int (0 : Int32)), (.ref b173), (.int (0 : Int32)), (.ref b195)])) (fun t k => ?_) ?_
    · show Steps p.tables e below (T195.setTop (mkF m 105 #[.val (.int p0), .val (.int p1), .val (.int p2), .val (.int p3), .val (.int p4), .val (.int p5), .val (.int (2 : Int32)), .val (.double d0), .second, .val (.double d1), .second, .val (.double d2), .second, .val (.double df), .second, .val (.double sc), .second, .val (.ref b173), .unset] [(.ref b195)])) t
      refine XS.astore X195.here hx rfl (hb hby at_105) rfl rfl (l' := #[.val (.int p0), .val (.int p1), .val (.int p2), .val (.int p3), .val (.int p4), .val (.int p5), .val (.int (2 : Int32)), .val (.double d0), .second, .val (.double d1), .second, .val (.double d2), .second, .val (.double df), .second, .val (.double sc), .second, .val (.ref b173), .val (.ref b195)]) rfl ?_
      show Steps p.tables e below (T195.setTop (mkF m 107 #[.val (.int p0), .val (.int p1), .val (.int p2), .val (.int p3), .val (.int p4), .val (.int p5), .val (.int (2 : Int32)), .val (.double d0), .second, .val (.double d1), .second, .val (.double d2), .second, .val (.double df), .second, .val (.double sc), .second, .val (.ref b173), .val (.ref b195)] [])) t
      refine XS.aload X195.here hx rfl (hb hby at_107) rfl rfl ?_
      show Steps p.tables e below (T195.setTop (mkF m 109 #[.val (.int p0), .val (.int p1), .val (.int p2), .val (.int p3), .val (.int p4), .val (.int p5), .val (.int (2 : Int32)), .val (.double d0), .second, .val (.double d1), .second, .val (.double d2), .second, .val (.double df), .second, .val (.double sc), .second, .val (.ref b173), .val (.ref b195)] [(.ref b195)])) t
      refine XS.iconst X195.here hx rfl (hb hby at_109) ?_
      show Steps p.tables e below (T195.setTop (mkF m 110 #[.val (.int p0), .val (.int p1), .val (.int p2), .val (.int p3), .val (.int p4), .val (.int p5), .val (.int (2 : Int32)), .val (.double d0), .second, .val (.double d1), .second, .val (.double d2), .second, .val (.double df), .second, .val (.double sc), .second, .val (.ref b173), .val (.ref b195)] [(.int (0 : Int32)), (.ref b195)])) t
      refine XS.aload X195.here hx rfl (hb hby at_110) rfl rfl ?_
      show Steps p.tables e below (T195.setTop (mkF m 112 #[.val (.int p0), .val (.int p1), .val (.int p2), .val (.int p3), .val (.int p4), .val (.int p5), .val (.int (2 : Int32)), .val (.double d0), .second, .val (.double d1), .second, .val (.double d2), .second, .val (.double df), .second, .val (.double sc), .second, .val (.ref b173), .val (.ref b195)] [(.ref b173), (.int (0 : Int32)), (.ref b195)])) t
      refine XS.iconst X195.here hx rfl (hb hby at_112) ?_
      exact k
    have cq199 := f197
    obtain ⟨clq199, Arq199, qq199, Sq199, Nq199, Hq199, Gq199⟩ := cq199
    have hinq199 := inb_of (j := (0 : Int32)) Sq199 ⟨by decide, by decide⟩
    refine OwnGo.of (X195.daload hx (j := (0 : Int32)) (v := (.double d0)) (by rw [e195]; exact Arq199.1) (State.isArrayOf_alike hZ.alike Arq199.2.1) Arq199.2.2 hinq199 (Hq199.at hinq199 rfl) (g := (mkF m 113 #[.val (.int p0), .val (.int p1), .val (.int p2), .val (.int p3), .val (.int p4), .val (.int p5), .val (.int (2 : Int32)), .val (.double d0), .second, .val (.double d1), .second, .val (.double d2), .second, .val (.double df), .second, .val (.double sc), .second, .val (.ref b173), .val (.ref b195)] [(.int (0 : Int32)), (.ref b173), (.int (0 : Int32)), (.ref b195)])) rfl rfl (hb hby at_113)) ?_
    show OwnGo p.tables e below _ (T195.setTop (mkF m 114 #[.val (.int p0), .val (.int p1), .val (.int p2), .val (.int p3), .val (.int p4), .val (.int p5), .val (.int (2 : Int32)), .val (.double d0), .second, .val (.double d1), .second, .val (.double d2), .second, .val (.double df), .second, .val (.double sc), .second, .val (.ref b173), .val (.ref b195)] [(.double d0), (.int (0 : Int32)), (.ref b195)]))
    have cq200 := f198
    obtain ⟨clq200, Arq200, qq200, Sq200, Nq200, Hq200, Gq200⟩ := cq200
    obtain ⟨T201, h201, X201, e201, W201, st201⟩ := stD X195 hx hZ e195 Arq200 (j := (0 : Int32)) (inb_of Sq200 ⟨by decide, by decide⟩) (g := (mkF m 114 #[.val (.int p0), .val (.int p1), .val (.int p2), .val (.int p3), .val (.int p4), .val (.int p5), .val (.int (2 : Int32)), .val (.double d0), .second, .val (.double d1), .second, .val (.double d2), .second, .val (.double df), .second, .val (.double sc), .second, .val (.ref b173), .val (.ref b195)] [(.double d0), (.int (0 : Int32)), (.ref b195)])) rfl rfl (hb hby at_114)
    refine OwnGo.of st201 ?_
    have N201 := Fr.snoc X201 N192 g_b195
    have f202 : n0 ≤ h201.size := Nat.le_trans f196 (Keep.of_wr W201).1
    have f203 : Arv Z h201 b173 k173 .double (4 : Int32) [(.double d0), (.double d1), (.double df), (.double df)] (.double (0 : UInt64)) := f197.other W201 ne_b173_b195
    have f204 : Arv Z h201 b195 k195 .double (4 : Int32) [(.double d0), (.double (0 : UInt64)), (.double (0 : UInt64)), (.double (0 : UInt64))] (.double (0 : UInt64)) := Arv.set Arq200 qq200 Sq200 Nq200 Hq200 Gq200 rfl W201 0 rfl (Nat.le_of_ble_eq_true rfl)
    show OwnGo p.tables e below _ (T201.setTop (mkF m 115 #[.val (.int p0), .val (.int p1), .val (.int p2), .val (.int p3), .val (.int p4), .val (.int p5), .val (.int (2 : Int32)), .val (.double d0), .second, .val (.double d1), .second, .val (.double d2), .second, .val (.double df), .second, .val (.double sc), .second, .val (.ref b173), .val (.ref b195)] []))
    refine OwnGo.of (A := T201.setTop (mkF m 115 #[.val (.int p0), .val (.int p1), .val (.int p2), .val (.int p3), .val (.int p4), .val (.int p5), .val (.int (2 : Int32)), .val (.double d0), .second, .val (.double d1), .second, .val (.double d2), .second, .val (.double df), .second, .val (.double sc), .second, .val (.ref b173), .val (.ref b195)] [])) (B := T201.setTop (mkF m 121 #[.val (.int p0), .val (.int p1), .val (.int p2), .val (.int p3), .val (.int p4), .val (.int p5), .val (.int (2 : Int32)), .val (.double d0), .second, .val (.double d1), .second, .val (.double d2), .second, .val (.double df), .second, .val (.double sc), .second, .val (.ref b173), .val (.ref b195)] [(.int (1 : Int32)), (.ref b173), (.int (1 : Int32)), (.ref b195)])) (fun t k => ?_) ?_
    · show Steps p.tables e below (T201.setTop (mkF m 115 #[.val (.int p0), .val (.int p1), .val (.int p2), .val (.int p3), .val (.int p4), .val (.int p5), .val (.int (2 : Int32)), .val (.double d0), .second, .val (.double d1), .second, .val (.double d2), .second, .val (.double df), .second, .val (.double sc), .second, .val (.ref b173), .val (.ref b195)] [])) t
      refine XS.aload X201.here hx rfl (hb hby at_115) rfl rfl ?_
      show Steps p.tables e below (T201.setTop (mkF m 117 #[.val (.int p0), .val (.int p1), .val (.int p2), .val (.int p3), .val (.int p4), .val (.int p5), .val (.int (2 : Int32)), .val (.double d0), .second, .val (.double d1), .second, .val (.double d2), .second, .val (.double df), .second, .val (.double sc), .second, .val (.ref b173), .val (.ref b195)] [(.ref b195)])) t
      refine XS.iconst X201.here hx rfl (hb hby at_117) ?_
      show Steps p.tables e below (T201.setTop (mkF m 118 #[.val (.int p0), .val (.int p1), .val (.int p2), .val (.int p3), .val (.int p4), .val (.int p5), .val (.int (2 : Int32)), .val (.double d0), .second, .val (.double d1), .second, .val (.double d2), .second, .val (.double df), .second, .val (.double sc), .second, .val (.ref b173), .val (.ref b195)] [(.int (1 : Int32)), (.ref b195)])) t
      refine XS.aload X201.here hx rfl (hb hby at_118) rfl rfl ?_
      show Steps p.tables e below (T201.setTop (mkF m 120 #[.val (.int p0), .val (.int p1), .val (.int p2), .val (.int p3), .val (.int p4), .val (.int p5), .val (.int (2 : Int32)), .val (.double d0), .second, .val (.double d1), .second, .val (.double d2), .second, .val (.double df), .second, .val (.double sc), .second, .val (.ref b173), .val (.ref b195)] [(.ref b173), (.int (1 : Int32)), (.ref b195)])) t
      refine XS.iconst X201.here hx rfl (hb hby at_120) ?_
      exact k
    have cq205 := f203
    obtain ⟨clq205, Arq205, qq205, Sq205, Nq205, Hq205, Gq205⟩ := cq205
    have hinq205 := inb_of (j := (1 : Int32)) Sq205 ⟨by decide, by decide⟩
    refine OwnGo.of (X201.daload hx (j := (1 : Int32)) (v := (.double d1)) (by rw [e201]; exact Arq205.1) (State.isArrayOf_alike hZ.alike Arq205.2.1) Arq205.2.2 hinq205 (Hq205.at hinq205 rfl) (g := (mkF m 121 #[.val (.int p0), .val (.int p1), .val (.int p2), .val (.int p3), .val (.int p4), .val (.int p5), .val (.int (2 : Int32)), .val (.double d0), .second, .val (.double d1), .second, .val (.double d2), .second, .val (.double df), .second, .val (.double sc), .second, .val (.ref b173), .val (.ref b195)] [(.int (1 : Int32)), (.ref b173), (.int (1 : Int32)), (.ref b195)])) rfl rfl (hb hby at_121)) ?_
    show OwnGo p.tables e below _ (T201.setTop (mkF m 122 #[.val (.int p0), .val (.int p1), .val (.int p2), .val (.int p3), .val (.int p4), .val (.int p5), .val (.int (2 : Int32)), .val (.double d0), .second, .val (.double d1), .second, .val (.double d2), .second, .val (.double df), .second, .val (.double sc), .second, .val (.ref b173), .val (.ref b195)] [(.double d1), (.int (1 : Int32)), (.ref b195)]))
    have cq206 := f204
    obtain ⟨clq206, Arq206, qq206, Sq206, Nq206, Hq206, Gq206⟩ := cq206
    obtain ⟨T207, h207, X207, e207, W207, st207⟩ := stD X201 hx hZ e201 Arq206 (j := (1 : Int32)) (inb_of Sq206 ⟨by decide, by decide⟩) (g := (mkF m 122 #[.val (.int p0), .val (.int p1), .val (.int p2), .val (.int p3), .val (.int p4), .val (.int p5), .val (.int (2 : Int32)), .val (.double d0), .second, .val (.double d1), .second, .val (.double d2), .second, .val (.double df), .second, .val (.double sc), .second, .val (.ref b173), .val (.ref b195)] [(.double d1), (.int (1 : Int32)), (.ref b195)])) rfl rfl (hb hby at_122)
    refine OwnGo.of st207 ?_
    have N207 := Fr.snoc X207 N201 g_b195
    have f208 : n0 ≤ h207.size := Nat.le_trans f202 (Keep.of_wr W207).1
    have f209 : Arv Z h207 b173 k173 .double (4 : Int32) [(.double d0), (.double d1), (.double df), (.double df)] (.double (0 : UInt64)) := f203.other W207 ne_b173_b195
    have f210 : Arv Z h207 b195 k195 .double (4 : Int32) [(.double d0), (.double d1), (.double (0 : UInt64)), (.double (0 : UInt64))] (.double (0 : UInt64)) := Arv.set Arq206 qq206 Sq206 Nq206 Hq206 Gq206 rfl W207 1 rfl (Nat.le_of_ble_eq_true rfl)
    show OwnGo p.tables e below _ (T207.setTop (mkF m 123 #[.val (.int p0), .val (.int p1), .val (.int p2), .val (.int p3), .val (.int p4), .val (.int p5), .val (.int (2 : Int32)), .val (.double d0), .second, .val (.double d1), .second, .val (.double d2), .second, .val (.double df), .second, .val (.double sc), .second, .val (.ref b173), .val (.ref b195)] []))
    refine OwnGo.of (A := T207.setTop (mkF m 123 #[.val (.int p0), .val (.int p1), .val (.int p2), .val (.int p3), .val (.int p4), .val (.int p5), .val (.int (2 : Int32)), .val (.double d0), .second, .val (.double d1), .second, .val (.double d2), .second, .val (.double df), .second, .val (.double sc), .second, .val (.ref b173), .val (.ref b195)] [])) (B := T207.setTop (mkF m 129 #[.val (.int p0), .val (.int p1), .val (.int p2), .val (.int p3), .val (.int p4), .val (.int p5), .val (.int (2 : Int32)), .val (.double d0), .second, .val (.double d1), .second, .val (.double d2), .second, .val (.double df), .second, .val (.double sc), .second, .val (.ref b173), .val (.ref b195)] [(.int (2 : Int32)), (.ref b173), (.int (2 : Int32)), (.ref b195)])) (fun t k => ?_) ?_
    · show Steps p.tables e below (T207.setTop (mkF m 123 #[.val (.int p0), .val (.int p1), .val (.int p2), .val (.int p3), .val (.int p4), .val (.int p5), .val (.int (2 : Int32)), .val (.double d0), .second, .val (.double d1), .second, .val (.double d2), .second, .val (.double df), .second, .val (.double sc), .second, .val (.ref b173), .val (.ref b195)] [])) t
      refine XS.aload X207.here hx rfl (hb hby at_123) rfl rfl ?_
      show Steps p.tables e below (T207.setTop (mkF m 125 #[.val (.int p0), .val (.int p1), .val (.int p2), .val (.int p3), .val (.int p4), .val (.int p5), .val (.int (2 : Int32)), .val (.double d0), .second, .val (.double d1), .second, .val (.double d2), .second, .val (.double df), .second, .val (.double sc), .second, .val (.ref b173), .val (.ref b195)] [(.ref b195)])) t
      refine XS.iconst X207.here hx rfl (hb hby at_125) ?_
      show Steps p.tables e below (T207.setTop (mkF m 126 #[.val (.int p0), .val (.int p1), .val (.int p2), .val (.int p3), .val (.int p4), .val (.int p5), .val (.int (2 : Int32)), .val (.double d0), .second, .val (.double d1), .second, .val (.double d2), .second, .val (.double df), .second, .val (.double sc), .second, .val (.ref b173), .val (.ref b195)] [(.int (2 : Int32)), (.ref b195)])) t
      refine XS.aload X207.here hx rfl (hb hby at_126) rfl rfl ?_
      show Steps p.tables e below (T207.setTop (mkF m 128 #[.val (.int p0), .val (.int p1), .val (.int p2), .val (.int p3), .val (.int p4), .val (.int p5), .val (.int (2 : Int32)), .val (.double d0), .second, .val (.double d1), .second, .val (.double d2), .second, .val (.double df), .second, .val (.double sc), .second, .val (.ref b173), .val (.ref b195)] [(.ref b173), (.int (2 : Int32)), (.ref b195)])) t
      refine XS.iconst X207.here hx rfl (hb hby at_128) ?_
      exact k
    have cq211 := f209
    obtain ⟨clq211, Arq211, qq211, Sq211, Nq211, Hq211, Gq211⟩ := cq211
    have hinq211 := inb_of (j := (2 : Int32)) Sq211 ⟨by decide, by decide⟩
    refine OwnGo.of (X207.daload hx (j := (2 : Int32)) (v := (.double df)) (by rw [e207]; exact Arq211.1) (State.isArrayOf_alike hZ.alike Arq211.2.1) Arq211.2.2 hinq211 (Hq211.at hinq211 rfl) (g := (mkF m 129 #[.val (.int p0), .val (.int p1), .val (.int p2), .val (.int p3), .val (.int p4), .val (.int p5), .val (.int (2 : Int32)), .val (.double d0), .second, .val (.double d1), .second, .val (.double d2), .second, .val (.double df), .second, .val (.double sc), .second, .val (.ref b173), .val (.ref b195)] [(.int (2 : Int32)), (.ref b173), (.int (2 : Int32)), (.ref b195)])) rfl rfl (hb hby at_129)) ?_
    show OwnGo p.tables e below _ (T207.setTop (mkF m 130 #[.val (.int p0), .val (.int p1), .val (.int p2), .val (.int p3), .val (.int p4), .val (.int p5), .val (.int (2 : Int32)), .val (.double d0), .second, .val (.double d1), .second, .val (.double d2), .second, .val (.double df), .second, .val (.double sc), .second, .val (.ref b173), .val (.ref b195)] [(.double df), (.int (2 : Int32)), (.ref b195)]))
    have cq212 := f210
    obtain ⟨clq212, Arq212, qq212, Sq212, Nq212, Hq212, Gq212⟩ := cq212
    obtain ⟨T213, h213, X213, e213, W213, st213⟩ := stD X207 hx hZ e207 Arq212 (j := (2 : Int32)) (inb_of Sq212 ⟨by decide, by decide⟩) (g := (mkF m 130 #[.val (.int p0), .val (.int p1), .val (.int p2), .val (.int p3), .val (.int p4), .val (.int p5), .val (.int (2 : Int32)), .val (.double d0), .second, .val (.double d1), .second, .val (.double d2), .second, .val (.double df), .second, .val (.double sc), .second, .val (.ref b173), .val (.ref b195)] [(.double df), (.int (2 : Int32)), (.ref b195)])) rfl rfl (hb hby at_130)
    refine OwnGo.of st213 ?_
    have N213 := Fr.snoc X213 N207 g_b195
    have f214 : n0 ≤ h213.size := Nat.le_trans f208 (Keep.of_wr W213).1
    have f215 : Arv Z h213 b173 k173 .double (4 : Int32) [(.double d0), (.double d1), (.double df), (.double df)] (.double (0 : UInt64)) := f209.other W213 ne_b173_b195
    have f216 : Arv Z h213 b195 k195 .double (4 : Int32) [(.double d0), (.double d1), (.double df), (.double (0 : UInt64))] (.double (0 : UInt64)) := Arv.set Arq212 qq212 Sq212 Nq212 Hq212 Gq212 rfl W213 2 rfl (Nat.le_of_ble_eq_true rfl)
    show OwnGo p.tables e below _ (T213.setTop (mkF m 131 #[.val (.int p0), .val (.int p1), .val (.int p2), .val (.int p3), .val (.int p4), .val (.int p5), .val (.int (2 : Int32)), .val (.double d0), .second, .val (.double d1), .second, .val (.double d2), .second, .val (.double df), .second, .val (.double sc), .second, .val (.ref b173), .val (.ref b195)] []))
    refine OwnGo.of (A := T213.setTop (mkF m 131 #[.val (.int p0), .val (.int p1), .val (.int p2), .val (.int p3), .val (.int p4), .val (.int p5), .val (.int (2 : Int32)), .val (.double d0), .second, .val (.double d1), .second, .val (.double d2), .second, .val (.double df), .second, .val (.double sc), .second, .val (.ref b173), .val (.ref b195)] [])) (B := T213.setTop (mkF m 137 #[.val (.int p0), .val (.int p1), .val (.int p2), .val (.int p3), .val (.int p4), .val (.int p5), .val (.int (2 : Int32)), .val (.double d0), .second, .val (.double d1), .second, .val (.double d2), .second, .val (.double df), .second, .val (.double sc), .second, .val (.ref b173), .val (.ref b195)] [(.int (3 : Int32)), (.ref b173), (.int (3 : Int32)), (.ref b195)])) (fun t k => ?_) ?_
    · show Steps p.tables e below (T213.setTop (mkF m 131 #[.val (.int p0), .val (.int p1), .val (.int p2), .val (.int p3), .val (.int p4), .val (.int p5), .val (.int (2 : Int32)), .val (.double d0), .second, .val (.double d1), .second, .val (.double d2), .second, .val (.double df), .second, .val (.double sc), .second, .val (.ref b173), .val (.ref b195)] [])) t
      refine XS.aload X213.here hx rfl (hb hby at_131) rfl rfl ?_
      show Steps p.tables e below (T213.setTop (mkF m 133 #[.val (.int p0), .val (.int p1), .val (.int p2), .val (.int p3), .val (.int p4), .val (.int p5), .val (.int (2 : Int32)), .val (.double d0), .second, .val (.double d1), .second, .val (.double d2), .second, .val (.double df), .second, .val (.double sc), .second, .val (.ref b173), .val (.ref b195)] [(.ref b195)])) t
      refine XS.iconst X213.here hx rfl (hb hby at_133) ?_
      show Steps p.tables e below (T213.setTop (mkF m 134 #[.val (.int p0), .val (.int p1), .val (.int p2), .val (.int p3), .val (.int p4), .val (.int p5), .val (.int (2 : Int32)), .val (.double d0), .second, .val (.double d1), .second, .val (.double d2), .second, .val (.double df), .second, .val (.double sc), .second, .val (.ref b173), .val (.ref b195)] [(.int (3 : Int32)), (.ref b195)])) t
      refine XS.aload X213.here hx rfl (hb hby at_134) rfl rfl ?_
      show Steps p.tables e below (T213.setTop (mkF m 136 #[.val (.int p0), .val (.int p1), .val (.int p2), .val (.int p3), .val (.int p4), .val (.int p5), .val (.int (2 : Int32)), .val (.double d0), .second, .val (.double d1), .second, .val (.double d2), .second, .val (.double df), .second, .val (.double sc), .second, .val (.ref b173), .val (.ref b195)] [(.ref b173), (.int (3 : Int32)), (.ref b195)])) t
      refine XS.iconst X213.here hx rfl (hb hby at_136) ?_
      exact k
    have cq217 := f215
    obtain ⟨clq217, Arq217, qq217, Sq217, Nq217, Hq217, Gq217⟩ := cq217
    have hinq217 := inb_of (j := (3 : Int32)) Sq217 ⟨by decide, by decide⟩
    refine OwnGo.of (X213.daload hx (j := (3 : Int32)) (v := (.double df)) (by rw [e213]; exact Arq217.1) (State.isArrayOf_alike hZ.alike Arq217.2.1) Arq217.2.2 hinq217 (Hq217.at hinq217 rfl) (g := (mkF m 137 #[.val (.int p0), .val (.int p1), .val (.int p2), .val (.int p3), .val (.int p4), .val (.int p5), .val (.int (2 : Int32)), .val (.double d0), .second, .val (.double d1), .second, .val (.double d2), .second, .val (.double df), .second, .val (.double sc), .second, .val (.ref b173), .val (.ref b195)] [(.int (3 : Int32)), (.ref b173), (.int (3 : Int32)), (.ref b195)])) rfl rfl (hb hby at_137)) ?_
    show OwnGo p.tables e below _ (T213.setTop (mkF m 138 #[.val (.int p0), .val (.int p1), .val (.int p2), .val (.int p3), .val (.int p4), .val (.int p5), .val (.int (2 : Int32)), .val (.double d0), .second, .val (.double d1), .second, .val (.double d2), .second, .val (.double df), .second, .val (.double sc), .second, .val (.ref b173), .val (.ref b195)] [(.double df), (.int (3 : Int32)), (.ref b195)]))
    have cq218 := f216
    obtain ⟨clq218, Arq218, qq218, Sq218, Nq218, Hq218, Gq218⟩ := cq218
    obtain ⟨T219, h219, X219, e219, W219, st219⟩ := stD X213 hx hZ e213 Arq218 (j := (3 : Int32)) (inb_of Sq218 ⟨by decide, by decide⟩) (g := (mkF m 138 #[.val (.int p0), .val (.int p1), .val (.int p2), .val (.int p3), .val (.int p4), .val (.int p5), .val (.int (2 : Int32)), .val (.double d0), .second, .val (.double d1), .second, .val (.double d2), .second, .val (.double df), .second, .val (.double sc), .second, .val (.ref b173), .val (.ref b195)] [(.double df), (.int (3 : Int32)), (.ref b195)])) rfl rfl (hb hby at_138)
    refine OwnGo.of st219 ?_
    have N219 := Fr.snoc X219 N213 g_b195
    have f220 : n0 ≤ h219.size := Nat.le_trans f214 (Keep.of_wr W219).1
    have f221 : Arv Z h219 b173 k173 .double (4 : Int32) [(.double d0), (.double d1), (.double df), (.double df)] (.double (0 : UInt64)) := f215.other W219 ne_b173_b195
    have f222 : Arv Z h219 b195 k195 .double (4 : Int32) [(.double d0), (.double d1), (.double df), (.double df)] (.double (0 : UInt64)) := Arv.set Arq218 qq218 Sq218 Nq218 Hq218 Gq218 rfl W219 3 rfl (Nat.le_of_ble_eq_true rfl)
    show OwnGo p.tables e below _ (T219.setTop (mkF m 139 #[.val (.int p0), .val (.int p1), .val (.int p2), .val (.int p3), .val (.int p4), .val (.int p5), .val (.int (2 : Int32)), .val (.double d0), .second, .val (.double d1), .second, .val (.double d2), .second, .val (.double df), .second, .val (.double sc), .second, .val (.ref b173), .val (.ref b195)] []))
    refine OwnGo.of (A := T219.setTop (mkF m 139 #[.val (.int p0), .val (.int p1), .val (.int p2), .val (.int p3), .val (.int p4), .val (.int p5), .val (.int (2 : Int32)), .val (.double d0), .second, .val (.double d1), .second, .val (.double d2), .second, .val (.double df), .second, .val (.double sc), .second, .val (.ref b173), .val (.ref b195)] [])) (B := T219.setTop (mkF m 141 #[.val (.int p0), .val (.int p1), .val (.int p2), .val (.int p3), .val (.int p4), .val (.int p5), .val (.int (2 : Int32)), .val (.double d0), .second, .val (.double d1), .second, .val (.double d2), .second, .val (.double df), .second, .val (.double sc), .second, .val (.ref b173), .val (.ref b195)] [(.int (2 : Int32))])) (fun t k => ?_) ?_
    · show Steps p.tables e below (T219.setTop (mkF m 139 #[.val (.int p0), .val (.int p1), .val (.int p2), .val (.int p3), .val (.int p4), .val (.int p5), .val (.int (2 : Int32)), .val (.double d0), .second, .val (.double d1), .second, .val (.double d2), .second, .val (.double df), .second, .val (.double sc), .second, .val (.ref b173), .val (.ref b195)] [])) t
      refine XS.iload X219.here hx rfl (hb hby at_139) rfl ?_
      exact k
    have hc223 : ¬ ((2 : Int32) = (0 : Int32)) := by decide
    refine OwnGo.of (A := T219.setTop (mkF m 141 #[.val (.int p0), .val (.int p1), .val (.int p2), .val (.int p3), .val (.int p4), .val (.int p5), .val (.int (2 : Int32)), .val (.double d0), .second, .val (.double d1), .second, .val (.double d2), .second, .val (.double df), .second, .val (.double sc), .second, .val (.ref b173), .val (.ref b195)] [(.int (2 : Int32))])) (B := T219.setTop (mkF m 156 #[.val (.int p0), .val (.int p1), .val (.int p2), .val (.int p3), .val (.int p4), .val (.int p5), .val (.int (2 : Int32)), .val (.double d0), .second, .val (.double d1), .second, .val (.double d2), .second, .val (.double df), .second, .val (.double sc), .second, .val (.ref b173), .val (.ref b195)] [(.int (1 : Int32)), (.int (2 : Int32))])) (fun t k => ?_) ?_
    · show Steps p.tables e below (T219.setTop (mkF m 141 #[.val (.int p0), .val (.int p1), .val (.int p2), .val (.int p3), .val (.int p4), .val (.int p5), .val (.int (2 : Int32)), .val (.double d0), .second, .val (.double d1), .second, .val (.double d2), .second, .val (.double df), .second, .val (.double sc), .second, .val (.ref b173), .val (.ref b195)] [(.int (2 : Int32))])) t
      refine XS.ifYes X219.here hx rfl (pc0 := 141) (pc' := 153) rfl (hb hby at_141) rfl ((if0 _ _).trans (feq hc223).2) (by decide) (by decide) ?_
      show Steps p.tables e below (T219.setTop (mkF m 153 #[.val (.int p0), .val (.int p1), .val (.int p2), .val (.int p3), .val (.int p4), .val (.int p5), .val (.int (2 : Int32)), .val (.double d0), .second, .val (.double d1), .second, .val (.double d2), .second, .val (.double df), .second, .val (.double sc), .second, .val (.ref b173), .val (.ref b195)] [])) t
      refine XS.iload X219.here hx rfl (hb hby at_153) rfl ?_
      show Steps p.tables e below (T219.setTop (mkF m 155 #[.val (.int p0), .val (.int p1), .val (.int p2), .val (.int p3), .val (.int p4), .val (.int p5), .val (.int (2 : Int32)), .val (.double d0), .second, .val (.double d1), .second, .val (.double d2), .second, .val (.double df), .second, .val (.double sc), .second, .val (.ref b173), .val (.ref b195)] [(.int (2 : Int32))])) t
      refine XS.iconst X219.here hx rfl (hb hby at_155) ?_
      exact k
    have hc224 : ¬ ((2 : Int32) = (1 : Int32)) := by decide
    refine OwnGo.of (A := T219.setTop (mkF m 156 #[.val (.int p0), .val (.int p1), .val (.int p2), .val (.int p3), .val (.int p4), .val (.int p5), .val (.int (2 : Int32)), .val (.double d0), .second, .val (.double d1), .second, .val (.double d2), .second, .val (.double df), .second, .val (.double sc), .second, .val (.ref b173), .val (.ref b195)] [(.int (1 : Int32)), (.int (2 : Int32))])) (B := T219.setTop (mkF m 194 #[.val (.int p0), .val (.int p1), .val (.int p2), .val (.int p3), .val (.int p4), .val (.int p5), .val (.int (2 : Int32)), .val (.double d0), .second, .val (.double d1), .second, .val (.double d2), .second, .val (.double df), .second, .val (.double sc), .second, .val (.ref b173), .val (.ref b195)] [(.int (2 : Int32)), (.int (2 : Int32))])) (fun t k => ?_) ?_
    · show Steps p.tables e below (T219.setTop (mkF m 156 #[.val (.int p0), .val (.int p1), .val (.int p2), .val (.int p3), .val (.int p4), .val (.int p5), .val (.int (2 : Int32)), .val (.double d0), .second, .val (.double d1), .second, .val (.double d2), .second, .val (.double df), .second, .val (.double sc), .second, .val (.ref b173), .val (.ref b195)] [(.int (1 : Int32)), (.int (2 : Int32))])) t
      refine XS.icmpYes X219.here hx rfl (pc0 := 156) (pc' := 191) rfl (hb hby at_156) rfl (feq hc224).2 (by decide) (by decide) ?_
      show Steps p.tables e below (T219.setTop (mkF m 191 #[.val (.int p0), .val (.int p1), .val (.int p2), .val (.int p3), .val (.int p4), .val (.int p5), .val (.int (2 : Int32)), .val (.double d0), .second, .val (.double d1), .second, .val (.double d2), .second, .val (.double df), .second, .val (.double sc), .second, .val (.ref b173), .val (.ref b195)] [])) t
      refine XS.iload X219.here hx rfl (hb hby at_191) rfl ?_
      show Steps p.tables e below (T219.setTop (mkF m 193 #[.val (.int p0), .val (.int p1), .val (.int p2), .val (.int p3), .val (.int p4), .val (.int p5), .val (.int (2 : Int32)), .val (.double d0), .second, .val (.double d1), .second, .val (.double d2), .second, .val (.double df), .second, .val (.double sc), .second, .val (.ref b173), .val (.ref b195)] [(.int (2 : Int32))])) t
      refine XS.iconst X219.here hx rfl (hb hby at_193) ?_
      exact k
    have hc225 : (2 : Int32) = (2 : Int32) := by decide
    refine OwnGo.of (A := T219.setTop (mkF m 194 #[.val (.int p0), .val (.int p1), .val (.int p2), .val (.int p3), .val (.int p4), .val (.int p5), .val (.int (2 : Int32)), .val (.double d0), .second, .val (.double d1), .second, .val (.double d2), .second, .val (.double df), .second, .val (.double sc), .second, .val (.ref b173), .val (.ref b195)] [(.int (2 : Int32)), (.int (2 : Int32))])) (B := T219.setTop (mkF m 202 #[.val (.int p0), .val (.int p1), .val (.int p2), .val (.int p3), .val (.int p4), .val (.int p5), .val (.int (2 : Int32)), .val (.double d0), .second, .val (.double d1), .second, .val (.double d2), .second, .val (.double df), .second, .val (.double sc), .second, .val (.ref b173), .val (.ref b195)] [(.int (cmpValue (FP.dcmp d0 sc) .l))])) (fun t k => ?_) ?_
    · show Steps p.tables e below (T219.setTop (mkF m 194 #[.val (.int p0), .val (.int p1), .val (.int p2), .val (.int p3), .val (.int p4), .val (.int p5), .val (.int (2 : Int32)), .val (.double d0), .second, .val (.double d1), .second, .val (.double d2), .second, .val (.double df), .second, .val (.double sc), .second, .val (.ref b173), .val (.ref b195)] [(.int (2 : Int32)), (.int (2 : Int32))])) t
      refine XS.icmpNo X219.here hx rfl (hb hby at_194) rfl (teq hc225).2 ?_
      show Steps p.tables e below (T219.setTop (mkF m 197 #[.val (.int p0), .val (.int p1), .val (.int p2), .val (.int p3), .val (.int p4), .val (.int p5), .val (.int (2 : Int32)), .val (.double d0), .second, .val (.double d1), .second, .val (.double d2), .second, .val (.double df), .second, .val (.double sc), .second, .val (.ref b173), .val (.ref b195)] [])) t
      refine XS.dload X219.here hx rfl (hb hby at_197) rfl ?_
      show Steps p.tables e below (T219.setTop (mkF m 199 #[.val (.int p0), .val (.int p1), .val (.int p2), .val (.int p3), .val (.int p4), .val (.int p5), .val (.int (2 : Int32)), .val (.double d0), .second, .val (.double d1), .second, .val (.double d2), .second, .val (.double df), .second, .val (.double sc), .second, .val (.ref b173), .val (.ref b195)] [(.double d0)])) t
      refine XS.dload X219.here hx rfl (hb hby at_199) rfl ?_
      show Steps p.tables e below (T219.setTop (mkF m 201 #[.val (.int p0), .val (.int p1), .val (.int p2), .val (.int p3), .val (.int p4), .val (.int p5), .val (.int (2 : Int32)), .val (.double d0), .second, .val (.double d1), .second, .val (.double d2), .second, .val (.double df), .second, .val (.double sc), .second, .val (.ref b173), .val (.ref b195)] [(.double sc), (.double d0)])) t
      refine XS.dcmpS X219.here hx rfl (hb hby at_201) rfl rfl ?_
      exact k
    by_cases hc226 : (0 : Int32) < (cmpValue (FP.dcmp d0 sc) .l)
    · refine OwnGo.of (A := T219.setTop (mkF m 202 #[.val (.int p0), .val (.int p1), .val (.int p2), .val (.int p3), .val (.int p4), .val (.int p5), .val (.int (2 : Int32)), .val (.double d0), .second, .val (.double d1), .second, .val (.double d2), .second, .val (.double df), .second, .val (.double sc), .second, .val (.ref b173), .val (.ref b195)] [(.int (cmpValue (FP.dcmp d0 sc) .l))])) (B := T219.setTop (mkF m 210 #[.val (.int p0), .val (.int p1), .val (.int p2), .val (.int p3), .val (.int p4), .val (.int p5), .val (.int (2 : Int32)), .val (.double d0), .second, .val (.double d1), .second, .val (.double d2), .second, .val (.double df), .second, .val (.double sc), .second, .val (.ref b173), .val (.ref b195)] [(.double d0), (.int (2 : Int32)), (.ref b195)])) (fun t k => ?_) ?_
      · show Steps p.tables e below (T219.setTop (mkF m 202 #[.val (.int p0), .val (.int p1), .val (.int p2), .val (.int p3), .val (.int p4), .val (.int p5), .val (.int (2 : Int32)), .val (.double d0), .second, .val (.double d1), .second, .val (.double d2), .second, .val (.double df), .second, .val (.double sc), .second, .val (.ref b173), .val (.ref b195)] [(.int (cmpValue (FP.dcmp d0 sc) .l))])) t
        refine XS.ifNo X219.here hx rfl (hb hby at_202) rfl ((if0 _ _).trans (tlt hc226).2.2.2) ?_
        show Steps p.tables e below (T219.setTop (mkF m 205 #[.val (.int p0), .val (.int p1), .val (.int p2), .val (.int p3), .val (.int p4), .val (.int p5), .val (.int (2 : Int32)), .val (.double d0), .second, .val (.double d1), .second, .val (.double d2), .second, .val (.double df), .second, .val (.double sc), .second, .val (.ref b173), .val (.ref b195)] [])) t
        refine XS.aload X219.here hx rfl (hb hby at_205) rfl rfl ?_
        show Steps p.tables e below (T219.setTop (mkF m 207 #[.val (.int p0), .val (.int p1), .val (.int p2), .val (.int p3), .val (.int p4), .val (.int p5), .val (.int (2 : Int32)), .val (.double d0), .second, .val (.double d1), .second, .val (.double d2), .second, .val (.double df), .second, .val (.double sc), .second, .val (.ref b173), .val (.ref b195)] [(.ref b195)])) t
        refine XS.iconst X219.here hx rfl (hb hby at_207) ?_
        show Steps p.tables e below (T219.setTop (mkF m 208 #[.val (.int p0), .val (.int p1), .val (.int p2), .val (.int p3), .val (.int p4), .val (.int p5), .val (.int (2 : Int32)), .val (.double d0), .second, .val (.double d1), .second, .val (.double d2), .second, .val (.double df), .second, .val (.double sc), .second, .val (.ref b173), .val (.ref b195)] [(.int (2 : Int32)), (.ref b195)])) t
        refine XS.dload X219.here hx rfl (hb hby at_208) rfl ?_
        exact k
      have cq227 := f222
      obtain ⟨clq227, Arq227, qq227, Sq227, Nq227, Hq227, Gq227⟩ := cq227
      obtain ⟨T228, h228, X228, e228, W228, st228⟩ := stD X219 hx hZ e219 Arq227 (j := (2 : Int32)) (inb_of Sq227 ⟨by decide, by decide⟩) (g := (mkF m 210 #[.val (.int p0), .val (.int p1), .val (.int p2), .val (.int p3), .val (.int p4), .val (.int p5), .val (.int (2 : Int32)), .val (.double d0), .second, .val (.double d1), .second, .val (.double d2), .second, .val (.double df), .second, .val (.double sc), .second, .val (.ref b173), .val (.ref b195)] [(.double d0), (.int (2 : Int32)), (.ref b195)])) rfl rfl (hb hby at_210)
      refine OwnGo.of st228 ?_
      have N228 := Fr.snoc X228 N219 g_b195
      have f229 : n0 ≤ h228.size := Nat.le_trans f220 (Keep.of_wr W228).1
      have f230 : Arv Z h228 b173 k173 .double (4 : Int32) [(.double d0), (.double d1), (.double df), (.double df)] (.double (0 : UInt64)) := f221.other W228 ne_b173_b195
      have f231 : Arv Z h228 b195 k195 .double (4 : Int32) [(.double d0), (.double d1), (.double d0), (.double df)] (.double (0 : UInt64)) := Arv.set Arq227 qq227 Sq227 Nq227 Hq227 Gq227 rfl W228 2 rfl (Nat.le_of_ble_eq_true rfl)
      show OwnGo p.tables e below _ (T228.setTop (mkF m 211 #[.val (.int p0), .val (.int p1), .val (.int p2), .val (.int p3), .val (.int p4), .val (.int p5), .val (.int (2 : Int32)), .val (.double d0), .second, .val (.double d1), .second, .val (.double d2), .second, .val (.double df), .second, .val (.double sc), .second, .val (.ref b173), .val (.ref b195)] []))
      refine OwnGo.of (A := T228.setTop (mkF m 211 #[.val (.int p0), .val (.int p1), .val (.int p2), .val (.int p3), .val (.int p4), .val (.int p5), .val (.int (2 : Int32)), .val (.double d0), .second, .val (.double d1), .second, .val (.double d2), .second, .val (.double df), .second, .val (.double sc), .second, .val (.ref b173), .val (.ref b195)] [])) (B := T228.setTop (mkF m 216 #[.val (.int p0), .val (.int p1), .val (.int p2), .val (.int p3), .val (.int p4), .val (.int p5), .val (.int (2 : Int32)), .val (.double d0), .second, .val (.double d1), .second, .val (.double d2), .second, .val (.double df), .second, .val (.double sc), .second, .val (.ref b173), .val (.ref b195)] [(.double sc), (.int (0 : Int32)), (.ref b195)])) (fun t k => ?_) ?_
      · show Steps p.tables e below (T228.setTop (mkF m 211 #[.val (.int p0), .val (.int p1), .val (.int p2), .val (.int p3), .val (.int p4), .val (.int p5), .val (.int (2 : Int32)), .val (.double d0), .second, .val (.double d1), .second, .val (.double d2), .second, .val (.double df), .second, .val (.double sc), .second, .val (.ref b173), .val (.ref b195)] [])) t
        refine XS.aload X228.here hx rfl (hb hby at_211) rfl rfl ?_
        show Steps p.tables e below (T228.setTop (mkF m 213 #[.val (.int p0), .val (.int p1), .val (.int p2), .val (.int p3), .val (.int p4), .val (.int p5), .val (.int (2 : Int32)), .val (.double d0), .second, .val (.double d1), .second, .val (.double d2), .second, .val (.double df), .second, .val (.double sc), .second, .val (.ref b173), .val (.ref b195)] [(.ref b195)])) t
        refine XS.iconst X228.here hx rfl (hb hby at_213) ?_
        show Steps p.tables e below (T228.setTop (mkF m 214 #[.val (.int p0), .val (.int p1), .val (.int p2), .val (.int p3), .val (.int p4), .val (.int p5), .val (.int (2 : Int32)), .val (.double d0), .second, .val (.double d1), .second, .val (.double d2), .second, .val (.double df), .second, .val (.double sc), .second, .val (.ref b173), .val (.ref b195)] [(.int (0 : Int32)), (.ref b195)])) t
        refine XS.dload X228.here hx rfl (hb hby at_214) rfl ?_
        exact k
      have cq232 := f231
      obtain ⟨clq232, Arq232, qq232, Sq232, Nq232, Hq232, Gq232⟩ := cq232
      obtain ⟨T233, h233, X233, e233, W233, st233⟩ := stD X228 hx hZ e228 Arq232 (j := (0 : Int32)) (inb_of Sq232 ⟨by decide, by decide⟩) (g := (mkF m 216 #[.val (.int p0), .val (.int p1), .val (.int p2), .val (.int p3), .val (.int p4), .val (.int p5), .val (.int (2 : Int32)), .val (.double d0), .second, .val (.double d1), .second, .val (.double d2), .second, .val (.double df), .second, .val (.double sc), .second, .val (.ref b173), .val (.ref b195)] [(.double sc), (.int (0 : Int32)), (.ref b195)])) rfl rfl (hb hby at_216)
      refine OwnGo.of st233 ?_
      have N233 := Fr.snoc X233 N228 g_b195
      have f234 : n0 ≤ h233.size := Nat.le_trans f229 (Keep.of_wr W233).1
      have f235 : Arv Z h233 b173 k173 .double (4 : Int32) [(.double d0), (.double d1), (.double df), (.double df)] (.double (0 : UInt64)) := f230.other W233 ne_b173_b195
      have f236 : Arv Z h233 b195 k195 .double (4 : Int32) [(.double sc), (.double d1), (.double d0), (.double df)] (.double (0 : UInt64)) := Arv.set Arq232 qq232 Sq232 Nq232 Hq232 Gq232 rfl W233 0 rfl (Nat.le_of_ble_eq_true rfl)
      show OwnGo p.tables e below _ (T233.setTop (mkF m 217 #[.val (.int p0), .val (.int p1), .val (.int p2), .val (.int p3), .val (.int p4), .val (.int p5), .val (.int (2 : Int32)), .val (.double d0), .second, .val (.double d1), .second, .val (.double d2), .second, .val (.double df), .second, .val (.double sc), .second, .val (.ref b173), .val (.ref b195)] []))
      refine OwnGo.of (A := T233.setTop (mkF m 217 #[.val (.int p0), .val (.int p1), .val (.int p2), .val (.int p3), .val (.int p4), .val (.int p5), .val (.int (2 : Int32)), .val (.double d0), .second, .val (.double d1), .second, .val (.double d2), .second, .val (.double df), .second, .val (.double sc), .second, .val (.ref b173), .val (.ref b195)] [])) (B := T233.setTop (mkF m 287 #[.val (.int p0), .val (.int p1), .val (.int p2), .val (.int p3), .val (.int p4), .val (.int p5), .val (.int (2 : Int32)), .val (.double d0), .second, .val (.double d1), .second, .val (.double d2), .second, .val (.double df), .second, .val (.double sc), .second, .val (.ref b173), .val (.ref b195)] [(.double sc), (.int (2 : Int32)), (.ref b173)])) (fun t k => ?_) ?_
      · show Steps p.tables e below (T233.setTop (mkF m 217 #[.val (.int p0), .val (.int p1), .val (.int p2), .val (.int p3), .val (.int p4), .val (.int p5), .val (.int (2 : Int32)), .val (.double d0), .second, .val (.double d1), .second, .val (.double d2), .second, .val (.double df), .second, .val (.double sc), .second, .val (.ref b173), .val (.ref b195)] [])) t
        refine XS.goto X233.here hx rfl (pc0 := 217) (pc' := 281) rfl (hb hby at_217) (by decide) (by decide) ?_
        show Steps p.tables e below (T233.setTop (mkF m 281 #[.val (.int p0), .val (.int p1), .val (.int p2), .val (.int p3), .val (.int p4), .val (.int p5), .val (.int (2 : Int32)), .val (.double d0), .second, .val (.double d1), .second, .val (.double d2), .second, .val (.double df), .second, .val (.double sc), .second, .val (.ref b173), .val (.ref b195)] [])) t
        refine XS.aload X233.here hx rfl (hb hby at_281) rfl rfl ?_
        show Steps p.tables e below (T233.setTop (mkF m 283 #[.val (.int p0), .val (.int p1), .val (.int p2), .val (.int p3), .val (.int p4), .val (.int p5), .val (.int (2 : Int32)), .val (.double d0), .second, .val (.double d1), .second, .val (.double d2), .second, .val (.double df), .second, .val (.double sc), .second, .val (.ref b173), .val (.ref b195)] [(.ref b173)])) t
        refine XS.iload X233.here hx rfl (hb hby at_283) rfl ?_
        show Steps p.tables e below (T233.setTop (mkF m 285 #[.val (.int p0), .val (.int p1), .val (.int p2), .val (.int p3), .val (.int p4), .val (.int p5), .val (.int (2 : Int32)), .val (.double d0), .second, .val (.double d1), .second, .val (.double d2), .second, .val (.double df), .second, .val (.double sc), .second, .val (.ref b173), .val (.ref b195)] [(.int (2 : Int32)), (.ref b173)])) t
        refine XS.dload X233.here hx rfl (hb hby at_285) rfl ?_
        exact k
      obtain ⟨T237, L237, v237, X237, hQ237, st237⟩ := own_callS X233 hx (y := (⟨"com/example/rankwright/rankwright/rank/Accumulator", "siftUp", "([DID)V"⟩ : MethodName)) hown (mvT hZ (hw _ (List.mem_of_getElem? (i := 2) rfl))) (mvT hZ (hw _ (List.mem_of_getElem? (i := 3) rfl))) (mvT hZ (hw _ (List.mem_of_getElem? (i := 4) rfl))) (mvT hZ (hw _ (List.mem_of_getElem? (i := 5) rfl))) (by decide) (backOf (W := 0) (rm1_2t l Z aw hw [] b173 sc d0 d1 df df k173 h233 n0 f234 f235 g_b173 hc226) hZ (hw _ (List.mem_of_getElem? (i := 5) rfl)) (hw _ (List.mem_of_getElem? (i := 4) rfl)) (by decide) (by decide)) (g := (mkF m 287 #[.val (.int p0), .val (.int p1), .val (.int p2), .val (.int p3), .val (.int p4), .val (.int p5), .val (.int (2 : Int32)), .val (.double d0), .second, .val (.double d1), .second, .val (.double d2), .second, .val (.double df), .second, .val (.double sc), .second, .val (.ref b173), .val (.ref b195)] [(.double sc), (.int (2 : Int32)), (.ref b173)])) rfl (by rw [hml]; rfl) (argsL := [(.ref b173), (.int (2 : Int32)), (.double sc)]) (rest := []) (lenOf pd_1 rfl) rfl (by show 2 * 0 + _ ≤ _; exact Nat.le_of_eq rfl) (hb hby at_287) rfl e233 (by decide) (by decide)
      obtain ⟨rfl, N237q, K237, y237_0⟩ := hQ237
      have f238 : n0 ≤ T237.heap.size := Nat.le_trans f234 K237.1
      have f239 : Arv Z T237.heap b195 k195 .double (4 : Int32) [(.double sc), (.double d1), (.double d0), (.double df)] (.double (0 : UInt64)) := f236.keep K237 (ninS (Ne.symm ne_b173_b195) nin0)
      have N237 := Fr.app N233 N237q
      refine OwnGo.of st237 ?_
      show OwnGo p.tables e below _ (T237.setTop (mkF m 290 #[.val (.int p0), .val (.int p1), .val (.int p2), .val (.int p3), .val (.int p4), .val (.int p5), .val (.int (2 : Int32)), .val (.double d0), .second, .val (.double d1), .second, .val (.double d2), .second, .val (.double df), .second, .val (.double sc), .second, .val (.ref b173), .val (.ref b195)] []))
      refine OwnGo.of (A := T237.setTop (mkF m 290 #[.val (.int p0), .val (.int p1), .val (.int p2), .val (.int p3), .val (.int p4), .val (.int p5), .val (.int (2 : Int32)), .val (.double d0), .second, .val (.double d1), .second, .val (.double d2), .second, .val (.double df), .second, .val (.double sc), .second, .val (.ref b173), .val (.ref b195)] [])) (B := T237.setTop (mkF m 293 #[.val (.int p0), .val (.int p1), .val (.int p2), .val (.int p3), .val (.int p4), .val (.int p5), .val (.int (2 : Int32)), .val (.double d0), .second, .val (.double d1), .second, .val (.double d2), .second, .val (.double df), .second, .val (.double sc), .second, .val (.ref b173), .val (.ref b195)] [(.int (0 : Int32)), (.ref b173)])) (fun t k => ?_) ?_
      · show Steps p.tables e below (T237.setTop (mkF m 290 #[.val (.int p0), .val (.int p1), .val (.int p2), .val (.int p3), .val (.int p4), .val (.int p5), .val (.int (2 : Int32)), .val (.double d0), .second, .val (.double d1), .second, .val (.double d2), .second, .val (.double df), .second, .val (.double sc), .second, .val (.ref b173), .val (.ref b195)] [])) t
        refine XS.aload X237.here hx rfl (hb hby at_290) rfl rfl ?_
        show Steps p.tables e below (T237.setTop (mkF m 292 #[.val (.int p0), .val (.int p1), .val (.int p2), .val (.int p3), .val (.int p4), .val (.int p5), .val (.int (2 : Int32)), .val (.double d0), .second, .val (.double d1), .second, .val (.double d2), .second, .val (.double df), .second, .val (.double sc), .second, .val (.ref b173), .val (.ref b195)] [(.ref b173)])) t
        refine XS.iconst X237.here hx rfl (hb hby at_292) ?_
        exact k
      have cq240 := y237_0
      obtain ⟨clq240, Arq240, qq240, Sq240, Nq240, Hq240, Gq240⟩ := cq240
      have hinq240 := inb_of (j := (0 : Int32)) Sq240 ⟨by decide, by decide⟩
      refine OwnGo.of (X237.daload hx (j := (0 : Int32)) (v := (.double sc)) Arq240.1 (State.isArrayOf_alike hZ.alike Arq240.2.1) Arq240.2.2 hinq240 (Hq240.at hinq240 rfl) (g := (mkF m 293 #[.val (.int p0), .val (.int p1), .val (.int p2), .val (.int p3), .val (.int p4), .val (.int p5), .val (.int (2 : Int32)), .val (.double d0), .second, .val (.double d1), .second, .val (.double d2), .second, .val (.double df), .second, .val (.double sc), .second, .val (.ref b173), .val (.ref b195)] [(.int (0 : Int32)), (.ref b173)])) rfl rfl (hb hby at_293)) ?_
      show OwnGo p.tables e below _ (T237.setTop (mkF m 294 #[.val (.int p0), .val (.int p1), .val (.int p2), .val (.int p3), .val (.int p4), .val (.int p5), .val (.int (2 : Int32)), .val (.double d0), .second, .val (.double d1), .second, .val (.double d2), .second, .val (.double df), .second, .val (.double sc), .second, .val (.ref b173), .val (.ref b195)] [(.double sc)]))
      refine OwnGo.of (A := T237.setTop (mkF m 294 #[.val (.int p0), .val (.int p1), .val (.int p2), .val (.int p3), .val (.int p4), .val (.int p5), .val (.int (2 : Int32)), .val (.double d0), .second, .val (.double d1), .second, .val (.double d2), .second, .val (.double df), .second, .val (.double sc), .second, .val (.ref b173), .val (.ref b195)] [(.double sc)])) (B := T237.setTop (mkF m 297 #[.val (.int p0), .val (.int p1), .val (.int p2), .val (.int p3), .val (.int p4), .val (.int p5), .val (.int (2 : Int32)), .val (.double d0), .second, .val (.double d1), .second, .val (.double d2), .second, .val (.double df), .second, .val (.double sc), .second, .val (.ref b173), .val (.ref b195)] [(.int (0 : Int32)), (.ref b195), (.double sc)])) (fun t k => ?_) ?_
      · show Steps p.tables e below (T237.setTop (mkF m 294 #[.val (.int p0), .val (.int p1), .val (.int p2), .val (.int p3), .val (.int p4), .val (.int p5), .val (.int (2 : Int32)), .val (.double d0), .second, .val (.double d1), .second, .val (.double d2), .second, .val (.double df), .second, .val (.double sc), .second, .val (.ref b173), .val (.ref b195)] [(.double sc)])) t
        refine XS.aload X237.here hx rfl (hb hby at_294) rfl rfl ?_
        show Steps p.tables e below (T237.setTop (mkF m 296 #[.val (.int p0), .val (.int p1), .val (.int p2), .val (.int p3), .val (.int p4), .val (.int p5), .val (.int (2 : Int32)), .val (.double d0), .second, .val (.double d1), .second, .val (.double d2), .second, .val (.double df), .second, .val (.double sc), .second, .val (.ref b173), .val (.ref b195)] [(.ref b195), (.double sc)])) t
        refine XS.iconst X237.here hx rfl (hb hby at_296) ?_
        exact k
      have cq241 := f239
      obtain ⟨clq241, Arq241, qq241, Sq241, Nq241, Hq241, Gq241⟩ := cq241
      have hinq241 := inb_of (j := (0 : Int32)) Sq241 ⟨by decide, by decide⟩
      refine OwnGo.of (X237.daload hx (j := (0 : Int32)) (v := (.double sc)) Arq241.1 (State.isArrayOf_alike hZ.alike Arq241.2.1) Arq241.2.2 hinq241 (Hq241.at hinq241 rfl) (g := (mkF m 297 #[.val (.int p0), .val (.int p1), .val (.int p2), .val (.int p3), .val (.int p4), .val (.int p5), .val (.int (2 : Int32)), .val (.double d0), .second, .val (.double d1), .second, .val (.double d2), .second, .val (.double df), .second, .val (.double sc), .second, .val (.ref b173), .val (.ref b195)] [(.int (0 : Int32)), (.ref b195), (.double sc)])) rfl rfl (hb hby at_297)) ?_
      show OwnGo p.tables e below _ (T237.setTop (mkF m 298 #[.val (.int p0), .val (.int p1), .val (.int p2), .val (.int p3), .val (.int p4), .val (.int p5), .val (.int (2 : Int32)), .val (.double d0), .second, .val (.double d1), .second, .val (.double d2), .second, .val (.double df), .second, .val (.double sc), .second, .val (.ref b173), .val (.ref b195)] [(.double sc), (.double sc)]))
      refine OwnGo.of (A := T237.setTop (mkF m 298 #[.val (.int p0), .val (.int p1), .val (.int p2), .val (.int p3), .val (.int p4), .val (.int p5), .val (.int (2 : Int32)), .val (.double d0), .second, .val (.double d1), .second, .val (.double d2), .second, .val (.double df), .second, .val (.double sc), .second, .val (.ref b173), .val (.ref b195)] [(.double sc), (.double sc)])) (B := T237.setTop (mkF m 299 #[.val (.int p0), .val (.int p1), .val (.int p2), .val (.int p3), .val (.int p4), .val (.int p5), .val (.int (2 : Int32)), .val (.double d0), .second, .val (.double d1), .second, .val (.double d2), .second, .val (.double df), .second, .val (.double sc), .second, .val (.ref b173), .val (.ref b195)] [(.int (cmpValue (FP.dcmp sc sc) .l))])) (fun t k => ?_) ?_
      · show Steps p.tables e below (T237.setTop (mkF m 298 #[.val (.int p0), .val (.int p1), .val (.int p2), .val (.int p3), .val (.int p4), .val (.int p5), .val (.int (2 : Int32)), .val (.double d0), .second, .val (.double d1), .second, .val (.double d2), .second, .val (.double df), .second, .val (.double sc), .second, .val (.ref b173), .val (.ref b195)] [(.double sc), (.double sc)])) t
        refine XS.dcmpS X237.here hx rfl (hb hby at_298) rfl rfl ?_
        exact k
      have hc242 : (cmpValue (FP.dcmp sc sc) .l) = (0 : Int32) := dcmpV_self nsc .l
      refine OwnGo.of (A := T237.setTop (mkF m 299 #[.val (.int p0), .val (.int p1), .val (.int p2), .val (.int p3), .val (.int p4), .val (.int p5), .val (.int (2 : Int32)), .val (.double d0), .second, .val (.double d1), .second, .val (.double d2), .second, .val (.double df), .second, .val (.double sc), .second, .val (.ref b173), .val (.ref b195)] [(.int (cmpValue (FP.dcmp sc sc) .l))])) (B := T237.setTop (mkF m 305 #[.val (.int p0), .val (.int p1), .val (.int p2), .val (.int p3), .val (.int p4), .val (.int p5), .val (.int (2 : Int32)), .val (.double d0), .second, .val (.double d1), .second, .val (.double d2), .second, .val (.double df), .second, .val (.double sc), .second, .val (.ref b173), .val (.ref b195)] [(.int (1 : Int32)), (.ref b173)])) (fun t k => ?_) ?_
      · show Steps p.tables e below (T237.setTop (mkF m 299 #[.val (.int p0), .val (.int p1), .val (.int p2), .val (.int p3), .val (.int p4), .val (.int p5), .val (.int (2 : Int32)), .val (.double d0), .second, .val (.double d1), .second, .val (.double d2), .second, .val (.double df), .second, .val (.double sc), .second, .val (.ref b173), .val (.ref b195)] [(.int (cmpValue (FP.dcmp sc sc) .l))])) t
        refine XS.ifNo X237.here hx rfl (hb hby at_299) rfl ((if0 _ _).trans (teq hc242).2) ?_
        show Steps p.tables e below (T237.setTop (mkF m 302 #[.val (.int p0), .val (.int p1), .val (.int p2), .val (.int p3), .val (.int p4), .val (.int p5), .val (.int (2 : Int32)), .val (.double d0), .second, .val (.double d1), .second, .val (.double d2), .second, .val (.double df), .second, .val (.double sc), .second, .val (.ref b173), .val (.ref b195)] [])) t
        refine XS.aload X237.here hx rfl (hb hby at_302) rfl rfl ?_
        show Steps p.tables e below (T237.setTop (mkF m 304 #[.val (.int p0), .val (.int p1), .val (.int p2), .val (.int p3), .val (.int p4), .val (.int p5), .val (.int (2 : Int32)), .val (.double d0), .second, .val (.double d1), .second, .val (.double d2), .second, .val (.double df), .second, .val (.double sc), .second, .val (.ref b173), .val (.ref b195)] [(.ref b173)])) t
        refine XS.iconst X237.here hx rfl (hb hby at_304) ?_
        exact k
      have cq243 := y237_0
      obtain ⟨clq243, Arq243, qq243, Sq243, Nq243, Hq243, Gq243⟩ := cq243
      have hinq243 := inb_of (j := (1 : Int32)) Sq243 ⟨by decide, by decide⟩
      refine OwnGo.of (X237.daload hx (j := (1 : Int32)) (v := (.double d1)) Arq243.1 (State.isArrayOf_alike hZ.alike Arq243.2.1) Arq243.2.2 hinq243 (Hq243.at hinq243 rfl) (g := (mkF m 305 #[.val (.int p0), .val (.int p1), .val (.int p2), .val (.int p3), .val (.int p4), .val (.int p5), .val (.int (2 : Int32)), .val (.double d0), .second, .val (.double d1), .second, .val (.double d2), .second, .val (.double df), .second, .val (.double sc), .second, .val (.ref b173), .val (.ref b195)] [(.int (1 : Int32)), (.ref b173)])) rfl rfl (hb hby at_305)) ?_
      show OwnGo p.tables e below _ (T237.setTop (mkF m 306 #[.val (.int p0), .val (.int p1), .val (.int p2), .val (.int p3), .val (.int p4), .val (.int p5), .val (.int (2 : Int32)), .val (.double d0), .second, .val (.double d1), .second, .val (.double d2), .second, .val (.double df), .second, .val (.double sc), .second, .val (.ref b173), .val (.ref b195)] [(.double d1)]))
      refine OwnGo.of (A := T237.setTop (mkF m 306 #[.val (.int p0), .val (.int p1), .val (.int p2), .val (.int p3), .val (.int p4), .val (.int p5), .val (.int (2 : Int32)), .val (.double d0), .second, .val (.double d1), .second, .val (.double d2), .second, .val (.double df), .second, .val (.double sc), .second, .val (.ref b173), .val (.ref b195)] [(.double d1)])) (B := T237.setTop (mkF m 309 #[.val (.int p0), .val (.int p1), .val (.int p2), .val (.int p3), .val (.int p4), .val (.int p5), .val (.int (2 : Int32)), .val (.double d0), .second, .val (.double d1), .second, .val (.double d2), .second, .val (.double df), .second, .val (.double sc), .second, .val (.ref b173), .val (.ref b195)] [(.int (1 : Int32)), (.ref b195), (.double d1)])) (fun t k => ?_) ?_
      · show Steps p.tables e below (T237.setTop (mkF m 306 #[.val (.int p0), .val (.int p1), .val (.int p2), .val (.int p3), .val (.int p4), .val (.int p5), .val (.int (2 : Int32)), .val (.double d0), .second, .val (.double d1), .second, .val (.double d2), .second, .val (.double df), .second, .val (.double sc), .second, .val (.ref b173), .val (.ref b195)] [(.double d1)])) t
        refine XS.aload X237.here hx rfl (hb hby at_306) rfl rfl ?_
        show Steps p.tables e below (T237.setTop (mkF m 308 #[.val (.int p0), .val (.int p1), .val (.int p2), .val (.int p3), .val (.int p4), .val (.int p5), .val (.int (2 : Int32)), .val (.double d0), .second, .val (.double d1), .second, .val (.double d2), .second, .val (.double df), .second, .val (.double sc), .second, .val (.ref b173), .val (.ref b195)] [(.ref b195), (.double d1)])) t
        refine XS.iconst X237.here hx rfl (hb hby at_308) ?_
        exact k
      have cq244 := f239
      obtain ⟨clq244, Arq244, qq244, Sq244, Nq244, Hq244, Gq244⟩ := cq244
      have hinq244 := inb_of (j := (1 : Int32)) Sq244 ⟨by decide, by decide⟩
      refine OwnGo.of (X237.daload hx (j := (1 : Int32)) (v := (.double d1)) Arq244.1 (State.isArrayOf_alike hZ.alike Arq244.2.1) Arq244.2.2 hinq244 (Hq244.at hinq244 rfl) (g := (mkF m 309 #[.val (.int p0), .val (.int p1), .val (.int p2), .val (.int p3), .val (.int p4), .val (.int p5), .val (.int (2 : Int32)), .val (.double d0), .second, .val (.double d1), .second, .val (.double d2), .second, .val (.double df), .second, .val (.double sc), .second, .val (.ref b173), .val (.ref b195)] [(.int (1 : Int32)), (.ref b195), (.double d1)])) rfl rfl (hb hby at_309)) ?_
      show OwnGo p.tables e below _ (T237.setTop (mkF m 310 #[.val (.int p0), .val (.int p1), .val (.int p2), .val (.int p3), .val (.int p4), .val (.int p5), .val (.int (2 : Int32)), .val (.double d0), .second, .val (.double d1), .second, .val (.double d2), .second, .val (.double df), .second, .val (.double sc), .second, .val (.ref b173), .val (.ref b195)] [(.double d1), (.double d1)]))
      refine OwnGo.of (A := T237.setTop (mkF m 310 #[.val (.int p0), .val (.int p1), .val (.int p2), .val (.int p3), .val (.int p4), .val (.int p5), .val (.int (2 : Int32)), .val (.double d0), .second, .val (.double d1), .second, .val (.double d2), .second, .val (.double df), .second, .val (.double sc), .second, .val (.ref b173), .val (.ref b195)] [(.double d1), (.double d1)])) (B := T237.setTop (mkF m 311 #[.val (.int p0), .val (.int p1), .val (.int p2), .val (.int p3), .val (.int p4), .val (.int p5), .val (.int (2 : Int32)), .val (.double d0), .second, .val (.double d1), .second, .val (.double d2), .second, .val (.double df), .second, .val (.double sc), .second, .val (.ref b173), .val (.ref b195)] [(.int (cmpValue (FP.dcmp d1 d1) .l))])) (fun t k => ?_) ?_
      · show Steps p.tables e below (T237.setTop (mkF m 310 #[.val (.int p0), .val (.int p1), .val (.int p2), .val (.int p3), .val (.int p4), .val (.int p5), .val (.int (2 : Int32)), .val (.double d0), .second, .val (.double d1), .second, .val (.double d2), .second, .val (.double df), .second, .val (.double sc), .second, .val (.ref b173), .val (.ref b195)] [(.double d1), (.double d1)])) t
        refine XS.dcmpS X237.here hx rfl (hb hby at_310) rfl rfl ?_
        exact k
      have hc245 : (cmpValue (FP.dcmp d1 d1) .l) = (0 : Int32) := dcmpV_self nd1 .l
      refine OwnGo.of (A := T237.setTop (mkF m 311 #[.val (.int p0), .val (.int p1), .val (.int p2), .val (.int p3), .val (.int p4), .val (.int p5), .val (.int (2 : Int32)), .val (.double d0), .second, .val (.double d1), .second, .val (.double d2), .second, .val (.double df), .second, .val (.double sc), .second, .val (.ref b173), .val (.ref b195)] [(.int (cmpValue (FP.dcmp d1 d1) .l))])) (B := T237.setTop (mkF m 317 #[.val (.int p0), .val (.int p1), .val (.int p2), .val (.int p3), .val (.int p4), .val (.int p5), .val (.int (2 : Int32)), .val (.double d0), .second, .val (.double d1), .second, .val (.double d2), .second, .val (.double df), .second, .val (.double sc), .second, .val (.ref b173), .val (.ref b195)] [(.int (2 : Int32)), (.ref b173)])) (fun t k => ?_) ?_
      · show Steps p.tables e below (T237.setTop (mkF m 311 #[.val (.int p0), .val (.int p1), .val (.int p2), .val (.int p3), .val (.int p4), .val (.int p5), .val (.int (2 : Int32)), .val (.double d0), .second, .val (.double d1), .second, .val (.double d2), .second, .val (.double df), .second, .val (.double sc), .second, .val (.ref b173), .val (.ref b195)] [(.int (cmpValue (FP.dcmp d1 d1) .l))])) t
        refine XS.ifNo X237.here hx rfl (hb hby at_311) rfl ((if0 _ _).trans (teq hc245).2) ?_
        show Steps p.tables e below (T237.setTop (mkF m 314 #[.val (.int p0), .val (.int p1), .val (.int p2), .val (.int p3), .val (.int p4), .val (.int p5), .val (.int (2 : Int32)), .val (.double d0), .second, .val (.double d1), .second, .val (.double d2), .second, .val (.double df), .second, .val (.double sc), .second, .val (.ref b173), .val (.ref b195)] [])) t
        refine XS.aload X237.here hx rfl (hb hby at_314) rfl rfl ?_
        show Steps p.tables e below (T237.setTop (mkF m 316 #[.val (.int p0), .val (.int p1), .val (.int p2), .val (.int p3), .val (.int p4), .val (.int p5), .val (.int (2 : Int32)), .val (.double d0), .second, .val (.double d1), .second, .val (.double d2), .second, .val (.double df), .second, .val (.double sc), .second, .val (.ref b173), .val (.ref b195)] [(.ref b173)])) t
        refine XS.iconst X237.here hx rfl (hb hby at_316) ?_
        exact k
      have cq246 := y237_0
      obtain ⟨clq246, Arq246, qq246, Sq246, Nq246, Hq246, Gq246⟩ := cq246
      have hinq246 := inb_of (j := (2 : Int32)) Sq246 ⟨by decide, by decide⟩
      refine OwnGo.of (X237.daload hx (j := (2 : Int32)) (v := (.double d0)) Arq246.1 (State.isArrayOf_alike hZ.alike Arq246.2.1) Arq246.2.2 hinq246 (Hq246.at hinq246 rfl) (g := (mkF m 317 #[.val (.int p0), .val (.int p1), .val (.int p2), .val (.int p3), .val (.int p4), .val (.int p5), .val (.int (2 : Int32)), .val (.double d0), .second, .val (.double d1), .second, .val (.double d2), .second, .val (.double df), .second, .val (.double sc), .second, .val (.ref b173), .val (.ref b195)] [(.int (2 : Int32)), (.ref b173)])) rfl rfl (hb hby at_317)) ?_
      show OwnGo p.tables e below _ (T237.setTop (mkF m 318 #[.val (.int p0), .val (.int p1), .val (.int p2), .val (.int p3), .val (.int p4), .val (.int p5), .val (.int (2 : Int32)), .val (.double d0), .second, .val (.double d1), .second, .val (.double d2), .second, .val (.double df), .second, .val (.double sc), .second, .val (.ref b173), .val (.ref b195)] [(.double d0)]))
      refine OwnGo.of (A := T237.setTop (mkF m 318 #[.val (.int p0), .val (.int p1), .val (.int p2), .val (.int p3), .val (.int p4), .val (.int p5), .val (.int (2 : Int32)), .val (.double d0), .second, .val (.double d1), .second, .val (.double d2), .second, .val (.double df), .second, .val (.double sc), .second, .val (.ref b173), .val (.ref b195)] [(.double d0)])) (B := T237.setTop (mkF m 321 #[.val (.int p0), .val (.int p1), .val (.int p2), .val (.int p3), .val (.int p4), .val (.int p5), .val (.int (2 : Int32)), .val (.double d0), .second, .val (.double d1), .second, .val (.double d2), .second, .val (.double df), .second, .val (.double sc), .second, .val (.ref b173), .val (.ref b195)] [(.int (2 : Int32)), (.ref b195), (.double d0)])) (fun t k => ?_) ?_
      · show Steps p.tables e below (T237.setTop (mkF m 318 #[.val (.int p0), .val (.int p1), .val (.int p2), .val (.int p3), .val (.int p4), .val (.int p5), .val (.int (2 : Int32)), .val (.double d0), .second, .val (.double d1), .second, .val (.double d2), .second, .val (.double df), .second, .val (.double sc), .second, .val (.ref b173), .val (.ref b195)] [(.double d0)])) t
        refine XS.aload X237.here hx rfl (hb hby at_318) rfl rfl ?_
        show Steps p.tables e below (T237.setTop (mkF m 320 #[.val (.int p0), .val (.int p1), .val (.int p2), .val (.int p3), .val (.int p4), .val (.int p5), .val (.int (2 : Int32)), .val (.double d0), .second, .val (.double d1), .second, .val (.double d2), .second, .val (.double df), .second, .val (.double sc), .second, .val (.ref b173), .val (.ref b195)] [(.ref b195), (.double d0)])) t
        refine XS.iconst X237.here hx rfl (hb hby at_320) ?_
        exact k
      have cq247 := f239
      obtain ⟨clq247, Arq247, qq247, Sq247, Nq247, Hq247, Gq247⟩ := cq247
      have hinq247 := inb_of (j := (2 : Int32)) Sq247 ⟨by decide, by decide⟩
      refine OwnGo.of (X237.daload hx (j := (2 : Int32)) (v := (.double d0)) Arq247.1 (State.isArrayOf_alike hZ.alike Arq247.2.1) Arq247.2.2 hinq247 (Hq247.at hinq247 rfl) (g := (mkF m 321 #[.val (.int p0), .val (.int p1), .val (.int p2), .val (.int p3), .val (.int p4), .val (.int p5), .val (.int (2 : Int32)), .val (.double d0), .second, .val (.double d1), .second, .val (.double d2), .second, .val (.double df), .second, .val (.double sc), .second, .val (.ref b173), .val (.ref b195)] [(.int (2 : Int32)), (.ref b195), (.double d0)])) rfl rfl (hb hby at_321)) ?_
      show OwnGo p.tables e below _ (T237.setTop (mkF m 322 #[.val (.int p0), .val (.int p1), .val (.int p2), .val (.int p3), .val (.int p4), .val (.int p5), .val (.int (2 : Int32)), .val (.double d0), .second, .val (.double d1), .second, .val (.double d2), .second, .val (.double df), .second, .val (.double sc), .second, .val (.ref b173), .val (.ref b195)] [(.double d0), (.double d0)]))
      refine OwnGo.of (A := T237.setTop (mkF m 322 #[.val (.int p0), .val (.int p1), .val (.int p2), .val (.int p3), .val (.int p4), .val (.int p5), .val (.int (2 : Int32)), .val (.double d0), .second, .val (.double d1), .second, .val (.double d2), .second, .val (.double df), .second, .val (.double sc), .second, .val (.ref b173), .val (.ref b195)] [(.double d0), (.double d0)])) (B := T237.setTop (mkF m 323 #[.val (.int p0), .val (.int p1), .val (.int p2), .val (.int p3), .val (.int p4), .val (.int p5), .val (.int (2 : Int32)), .val (.double d0), .second, .val (.double d1), .second, .val (.double d2), .second, .val (.double df), .second, .val (.double sc), .second, .val (.ref b173), .val (.ref b195)] [(.int (cmpValue (FP.dcmp d0 d0) .l))])) (fun t k => ?_) ?_
      · show Steps p.tables e below (T237.setTop (mkF m 322 #[.val (.int p0), .val (.int p1), .val (.int p2), .val (.int p3), .val (.int p4), .val (.int p5), .val (.int (2 : Int32)), .val (.double d0), .second, .val (.double d1), .second, .val (.double d2), .second, .val (.double df), .second, .val (.double sc), .second, .val (.ref b173), .val (.ref b195)] [(.double d0), (.double d0)])) t
        refine XS.dcmpS X237.here hx rfl (hb hby at_322) rfl rfl ?_
        exact k
      have hc248 : (cmpValue (FP.dcmp d0 d0) .l) = (0 : Int32) := dcmpV_self nd0 .l
      refine OwnGo.of (A := T237.setTop (mkF m 323 #[.val (.int p0), .val (.int p1), .val (.int p2), .val (.int p3), .val (.int p4), .val (.int p5), .val (.int (2 : Int32)), .val (.double d0), .second, .val (.double d1), .second, .val (.double d2), .second, .val (.double df), .second, .val (.double sc), .second, .val (.ref b173), .val (.ref b195)] [(.int (cmpValue (FP.dcmp d0 d0) .l))])) (B := T237.setTop (mkF m 329 #[.val (.int p0), .val (.int p1), .val (.int p2), .val (.int p3), .val (.int p4), .val (.int p5), .val (.int (2 : Int32)), .val (.double d0), .second, .val (.double d1), .second, .val (.double d2), .second, .val (.double df), .second, .val (.double sc), .second, .val (.ref b173), .val (.ref b195)] [(.int (3 : Int32)), (.ref b173)])) (fun t k => ?_) ?_
      · show Steps p.tables e below (T237.setTop (mkF m 323 #[.val (.int p0), .val (.int p1), .val (.int p2), .val (.int p3), .val (.int p4), .val (.int p5), .val (.int (2 : Int32)), .val (.double d0), .second, .val (.double d1), .second, .val (.double d2), .second, .val (.double df), .second, .val (.double sc), .second, .val (.ref b173), .val (.ref b195)] [(.int (cmpValue (FP.dcmp d0 d0) .l))])) t
        refine XS.ifNo X237.here hx rfl (hb hby at_323) rfl ((if0 _ _).trans (teq hc248).2) ?_
        show Steps p.tables e below (T237.setTop (mkF m 326 #[.val (.int p0), .val (.int p1), .val (.int p2), .val (.int p3), .val (.int p4), .val (.int p5), .val (.int (2 : Int32)), .val (.double d0), .second, .val (.double d1), .second, .val (.double d2), .second, .val (.double df), .second, .val (.double sc), .second, .val (.ref b173), .val (.ref b195)] [])) t
        refine XS.aload X237.here hx rfl (hb hby at_326) rfl rfl ?_
        show Steps p.tables e below (T237.setTop (mkF m 328 #[.val (.int p0), .val (.int p1), .val (.int p2), .val (.int p3), .val (.int p4), .val (.int p5), .val (.int (2 : Int32)), .val (.double d0), .second, .val (.double d1), .second, .val (.double d2), .second, .val (.double df), .second, .val (.double sc), .second, .val (.ref b173), .val (.ref b195)] [(.ref b173)])) t
        refine XS.iconst X237.here hx rfl (hb hby at_328) ?_
        exact k
      have cq249 := y237_0
      obtain ⟨clq249, Arq249, qq249, Sq249, Nq249, Hq249, Gq249⟩ := cq249
      have hinq249 := inb_of (j := (3 : Int32)) Sq249 ⟨by decide, by decide⟩
      refine OwnGo.of (X237.daload hx (j := (3 : Int32)) (v := (.double df)) Arq249.1 (State.isArrayOf_alike hZ.alike Arq249.2.1) Arq249.2.2 hinq249 (Hq249.at hinq249 rfl) (g := (mkF m 329 #[.val (.int p0), .val (.int p1), .val (.int p2), .val (.int p3), .val (.int p4), .val (.int p5), .val (.int (2 : Int32)), .val (.double d0), .second, .val (.double d1), .second, .val (.double d2), .second, .val (.double df), .second, .val (.double sc), .second, .val (.ref b173), .val (.ref b195)] [(.int (3 : Int32)), (.ref b173)])) rfl rfl (hb hby at_329)) ?_
      show OwnGo p.tables e below _ (T237.setTop (mkF m 330 #[.val (.int p0), .val (.int p1), .val (.int p2), .val (.int p3), .val (.int p4), .val (.int p5), .val (.int (2 : Int32)), .val (.double d0), .second, .val (.double d1), .second, .val (.double d2), .second, .val (.double df), .second, .val (.double sc), .second, .val (.ref b173), .val (.ref b195)] [(.double df)]))
      refine OwnGo.of (A := T237.setTop (mkF m 330 #[.val (.int p0), .val (.int p1), .val (.int p2), .val (.int p3), .val (.int p4), .val (.int p5), .val (.int (2 : Int32)), .val (.double d0), .second, .val (.double d1), .second, .val (.double d2), .second, .val (.double df), .second, .val (.double sc), .second, .val (.ref b173), .val (.ref b195)] [(.double df)])) (B := T237.setTop (mkF m 333 #[.val (.int p0), .val (.int p1), .val (.int p2), .val (.int p3), .val (.int p4), .val (.int p5), .val (.int (2 : Int32)), .val (.double d0), .second, .val (.double d1), .second, .val (.double d2), .second, .val (.double df), .second, .val (.double sc), .second, .val (.ref b173), .val (.ref b195)] [(.int (3 : Int32)), (.ref b195), (.double df)])) (fun t k => ?_) ?_
      · show Steps p.tables e below (T237.setTop (mkF m 330 #[.val (.int p0), .val (.int p1), .val (.int p2), .val (.int p3), .val (.int p4), .val (.int p5), .val (.int (2 : Int32)), .val (.double d0), .second, .val (.double d1), .second, .val (.double d2), .second, .val (.double df), .second, .val (.double sc), .second, .val (.ref b173), .val (.ref b195)] [(.double df)])) t
        refine XS.aload X237.here hx rfl (hb hby at_330) rfl rfl ?_
        show Steps p.tables e below (T237.setTop (mkF m 332 #[.val (.int p0), .val (.int p1), .val (.int p2), .val (.int p3), .val (.int p4), .val (.int p5), .val (.int (2 : Int32)), .val (.double d0), .second, .val (.double d1), .second, .val (.double d2), .second, .val (.double df), .second, .val (.double sc), .second, .val (.ref b173), .val (.ref b195)] [(.ref b195), (.double df)])) t
        refine XS.iconst X237.here hx rfl (hb hby at_332) ?_
        exact k
      have cq250 := f239
      obtain ⟨clq250, Arq250, qq250, Sq250, Nq250, Hq250, Gq250⟩ := cq250
      have hinq250 := inb_of (j := (3 : Int32)) Sq250 ⟨by decide, by decide⟩
      refine OwnGo.of (X237.daload hx (j := (3 : Int32)) (v := (.double df)) Arq250.1 (State.isArrayOf_alike hZ.alike Arq250.2.1) Arq250.2.2 hinq250 (Hq250.at hinq250 rfl) (g := (mkF m 333 #[.val (.int p0), .val (.int p1), .val (.int p2), .val (.int p3), .val (.int p4), .val (.int p5), .val (.int (2 : Int32)), .val (.double d0), .second, .val (.double d1), .second, .val (.double d2), .second, .val (.double df), .second, .val (.double sc), .second, .val (.ref b173), .val (.ref b195)] [(.int (3 : Int32)), (.ref b195), (.double df)])) rfl rfl (hb hby at_333)) ?_
      show OwnGo p.tables e below _ (T237.setTop (mkF m 334 #[.val (.int p0), .val (.int p1), .val (.int p2), .val (.int p3), .val (.int p4), .val (.int p5), .val (.int (2 : Int32)), .val (.double d0), .second, .val (.double d1), .second, .val (.double d2), .second, .val (.double df), .second, .val (.double sc), .second, .val (.ref b173), .val (.ref b195)] [(.double df), (.double df)]))
      refine OwnGo.of (A := T237.setTop (mkF m 334 #[.val (.int p0), .val (.int p1), .val (.int p2), .val (.int p3), .val (.int p4), .val (.int p5), .val (.int (2 : Int32)), .val (.double d0), .second, .val (.double d1), .second, .val (.double d2), .second, .val (.double df), .second, .val (.double sc), .second, .val (.ref b173), .val (.ref b195)] [(.double df), (.double df)])) (B := T237.setTop (mkF m 335 #[.val (.int p0), .val (.int p1), .val (.int p2), .val (.int p3), .val (.int p4), .val (.int p5), .val (.int (2 : Int32)), .val (.double d0), .second, .val (.double d1), .second, .val (.double d2), .second, .val (.double df), .second, .val (.double sc), .second, .val (.ref b173), .val (.ref b195)] [(.int (cmpValue (FP.dcmp df df) .l))])) (fun t k => ?_) ?_
      · show Steps p.tables e below (T237.setTop (mkF m 334 #[.val (.int p0), .val (.int p1), .val (.int p2), .val (.int p3), .val (.int p4), .val (.int p5), .val (.int (2 : Int32)), .val (.double d0), .second, .val (.double d1), .second, .val (.double d2), .second, .val (.double df), .second, .val (.double sc), .second, .val (.ref b173), .val (.ref b195)] [(.double df), (.double df)])) t
        refine XS.dcmpS X237.here hx rfl (hb hby at_334) rfl rfl ?_
        exact k
      have hc251 : (cmpValue (FP.dcmp df df) .l) = (0 : Int32) := dcmpV_self ndf .l
      refine OwnGo.of (A := T237.setTop (mkF m 335 #[.val (.int p0), .val (.int p1), .val (.int p2), .val (.int p3), .val (.int p4), .val (.int p5), .val (.int (2 : Int32)), .val (.double d0), .second, .val (.double d1), .second, .val (.double d2), .second, .val (.double df), .second, .val (.double sc), .second, .val (.ref b173), .val (.ref b195)] [(.int (cmpValue (FP.dcmp df df) .l))])) (B := T237.setTop (mkF m 343 #[.val (.int p0), .val (.int p1), .val (.int p2), .val (.int p3), .val (.int p4), .val (.int p5), .val (.int (2 : Int32)), .val (.double d0), .second, .val (.double d1), .second, .val (.double d2), .second, .val (.double df), .second, .val (.double sc), .second, .val (.ref b173), .val (.ref b195)] [(.int (1 : Int32))])) (fun t k => ?_) ?_
      · show Steps p.tables e below (T237.setTop (mkF m 335 #[.val (.int p0), .val (.int p1), .val (.int p2), .val (.int p3), .val (.int p4), .val (.int p5), .val (.int (2 : Int32)), .val (.double d0), .second, .val (.double d1), .second, .val (.double d2), .second, .val (.double df), .second, .val (.double sc), .second, .val (.ref b173), .val (.ref b195)] [(.int (cmpValue (FP.dcmp df df) .l))])) t
        refine XS.ifNo X237.here hx rfl (hb hby at_335) rfl ((if0 _ _).trans (teq hc251).2) ?_
        show Steps p.tables e below (T237.setTop (mkF m 338 #[.val (.int p0), .val (.int p1), .val (.int p2), .val (.int p3), .val (.int p4), .val (.int p5), .val (.int (2 : Int32)), .val (.double d0), .second, .val (.double d1), .second, .val (.double d2), .second, .val (.double df), .second, .val (.double sc), .second, .val (.ref b173), .val (.ref b195)] [])) t
        refine XS.iconst X237.here hx rfl (hb hby at_338) ?_
        show Steps p.tables e below (T237.setTop (mkF m 339 #[.val (.int p0), .val (.int p1), .val (.int p2), .val (.int p3), .val (.int p4), .val (.int p5), .val (.int (2 : Int32)), .val (.double d0), .second, .val (.double d1), .second, .val (.double d2), .second, .val (.double df), .second, .val (.double sc), .second, .val (.ref b173), .val (.ref b195)] [(.int (1 : Int32))])) t
        refine XS.goto X237.here hx rfl (pc0 := 339) (pc' := 343) rfl (hb hby at_339) (by decide) (by decide) ?_
        exact k
      obtain ⟨fs, hr, hrun, hended, hW, hsame⟩ := X237.leave (v := some (.int (nar .boolean (1 : Int32)))) (fun h => by rw [Bd.returns] at h; cases h) hlk
      refine ⟨_, _, ?_, hrun, hended, _, _, rfl, ?_, ⟨_, rfl⟩, hW, hsame.mono (by decide) (by decide)⟩
      · show Steps p.tables e below (T237.setTop (mkF m 343 #[.val (.int p0), .val (.int p1), .val (.int p2), .val (.int p3), .val (.int p4), .val (.int p5), .val (.int (2 : Int32)), .val (.double d0), .second, .val (.double d1), .second, .val (.double d2), .second, .val (.double df), .second, .val (.double sc), .second, .val (.ref b173), .val (.ref b195)] [(.int (1 : Int32))])) _
        exact retN X237 hx (t := .boolean) Bd.returns (by simp) (hb hby at_343) hr
      · show Qrm0 Z p0 p1 p2 p3 p4 p5 h0 n0 _ (T237.setFrames fs).heap _
        rw [show (T237.setFrames fs).heap = T237.heap from rfl]
        exact ⟨rfl, N237⟩
    · refine OwnGo.of (A := T219.setTop (mkF m 202 #[.val (.int p0), .val (.int p1), .val (.int p2), .val (.int p3), .val (.int p4), .val (.int p5), .val (.int (2 : Int32)), .val (.double d0), .second, .val (.double d1), .second, .val (.double d2), .second, .val (.double df), .second, .val (.double sc), .second, .val (.ref b173), .val (.ref b195)] [(.int (cmpValue (FP.dcmp d0 sc) .l))])) (B := T219.setTop (mkF m 225 #[.val (.int p0), .val (.int p1), .val (.int p2), .val (.int p3), .val (.int p4), .val (.int p5), .val (.int (2 : Int32)), .val (.double d0), .second, .val (.double d1), .second, .val (.double d2), .second, .val (.double df), .second, .val (.double sc), .second, .val (.ref b173), .val (.ref b195)] [(.double sc), (.int (2 : Int32)), (.ref b195)])) (fun t k => ?_) ?_
      · show Steps p.tables e below (T219.setTop (mkF m 202 #[.val (.int p0), .val (.int p1), .val (.int p2), .val (.int p3), .val (.int p4), .val (.int p5), .val (.int (2 : Int32)), .val (.double d0), .second, .val (.double d1), .second, .val (.double d2), .second, .val (.double df), .second, .val (.double sc), .second, .val (.ref b173), .val (.ref b195)] [(.int (cmpValue (FP.dcmp d0 sc) .l))])) t
        refine XS.ifYes X219.here hx rfl (pc0 := 202) (pc' := 220) rfl (hb hby at_202) rfl ((if0 _ _).trans (flt hc226).2.2.2) (by decide) (by decide) ?_
        show Steps p.tables e below (T219.setTop (mkF m 220 #[.val (.int p0), .val (.int p1), .val (.int p2), .val (.int p3), .val (.int p4), .val (.int p5), .val (.int (2 : Int32)), .val (.double d0), .second, .val (.double d1), .second, .val (.double d2), .second, .val (.double df), .second, .val (.double sc), .second, .val (.ref b173), .val (.ref b195)] [])) t
        refine XS.aload X219.here hx rfl (hb hby at_220) rfl rfl ?_
        show Steps p.tables e below (T219.setTop (mkF m 222 #[.val (.int p0), .val (.int p1), .val (.int p2), .val (.int p3), .val (.int p4), .val (.int p5), .val (.int (2 : Int32)), .val (.double d0), .second, .val (.double d1), .second, .val (.double d2), .second, .val (.double df), .second, .val (.double sc), .second, .val (.ref b173), .val (.ref b195)] [(.ref b195)])) t
        refine XS.iconst X219.here hx rfl (hb hby at_222) ?_
        show Steps p.tables e below (T219.setTop (mkF m 223 #[.val (.int p0), .val (.int p1), .val (.int p2), .val (.int p3), .val (.int p4), .val (.int p5), .val (.int (2 : Int32)), .val (.double d0), .second, .val (.double d1), .second, .val (.double d2), .second, .val (.double df), .second, .val (.double sc), .second, .val (.ref b173), .val (.ref b195)] [(.int (2 : Int32)), (.ref b195)])) t
        refine XS.dload X219.here hx rfl (hb hby at_223) rfl ?_
        exact k
      have cq253 := f222
      obtain ⟨clq253, Arq253, qq253, Sq253, Nq253, Hq253, Gq253⟩ := cq253
      obtain ⟨T254, h254, X254, e254, W254, st254⟩ := stD X219 hx hZ e219 Arq253 (j := (2 : Int32)) (inb_of Sq253 ⟨by decide, by decide⟩) (g := (mkF m 225 #[.val (.int p0), .val (.int p1), .val (.int p2), .val (.int p3), .val (.int p4), .val (.int p5), .val (.int (2 : Int32)), .val (.double d0), .second, .val (.double d1), .second, .val (.double d2), .second, .val (.double df), .second, .val (.double sc), .second, .val (.ref b173), .val (.ref b195)] [(.double sc), (.int (2 : Int32)), (.ref b195)])) rfl rfl (hb hby at_225)
      refine OwnGo.of st254 ?_
      have N254 := Fr.snoc X254 N219 g_b195
      have f255 : n0 ≤ h254.size := Nat.le_trans f220 (Keep.of_wr W254).1
      have f256 : Arv Z h254 b173 k173 .double (4 : Int32) [(.double d0), (.double d1), (.double df), (.double df)] (.double (0 : UInt64)) := f221.other W254 ne_b173_b195
      have f257 : Arv Z h254 b195 k195 .double (4 : Int32) [(.double d0), (.double d1), (.double sc), (.double df)] (.double (0 : UInt64)) := Arv.set Arq253 qq253 Sq253 Nq253 Hq253 Gq253 rfl W254 2 rfl (Nat.le_of_ble_eq_true rfl)
      show OwnGo p.tables e below _ (T254.setTop (mkF m 226 #[.val (.int p0), .val (.int p1), .val (.int p2), .val (.int p3), .val (.int p4), .val (.int p5), .val (.int (2 : Int32)), .val (.double d0), .second, .val (.double d1), .second, .val (.double d2), .second, .val (.double df), .second, .val (.double sc), .second, .val (.ref b173), .val (.ref b195)] []))
      refine OwnGo.of (A := T254.setTop (mkF m 226 #[.val (.int p0), .val (.int p1), .val (.int p2), .val (.int p3), .val (.int p4), .val (.int p5), .val (.int (2 : Int32)), .val (.double d0), .second, .val (.double d1), .second, .val (.double d2), .second, .val (.double df), .second, .val (.double sc), .second, .val (.ref b173), .val (.ref b195)] [])) (B := T254.setTop (mkF m 287 #[.val (.int p0), .val (.int p1), .val (.int p2), .val (.int p3), .val (.int p4), .val (.int p5), .val (.int (2 : Int32)), .val (.double d0), .second, .val (.double d1), .second, .val (.double d2), .second, .val (.double df), .second, .val (.double sc), .second, .val (.ref b173), .val (.ref b195)] [(.double sc), (.int (2 : Int32)), (.ref b173)])) (fun t k => ?_) ?_
      · show Steps p.tables e below (T254.setTop (mkF m 226 #[.val (.int p0), .val (.int p1), .val (.int p2), .val (.int p3), .val (.int p4), .val (.int p5), .val (.int (2 : Int32)), .val (.double d0), .second, .val (.double d1), .second, .val (.double d2), .second, .val (.double df), .second, .val (.double sc), .second, .val (.ref b173), .val (.ref b195)] [])) t
        refine XS.goto X254.here hx rfl (pc0 := 226) (pc' := 281) rfl (hb hby at_226) (by decide) (by decide) ?_
        show Steps p.tables e below (T254.setTop (mkF m 281 #[.val (.int p0), .val (.int p1), .val (.int p2), .val (.int p3), .val (.int p4), .val (.int p5), .val (.int (2 : Int32)), .val (.double d0), .second, .val (.double d1), .second, .val (.double d2), .second, .val (.double df), .second, .val (.double sc), .second, .val (.ref b173), .val (.ref b195)] [])) t
        refine XS.aload X254.here hx rfl (hb hby at_281) rfl rfl ?_
        show Steps p.tables e below (T254.setTop (mkF m 283 #[.val (.int p0), .val (.int p1), .val (.int p2), .val (.int p3), .val (.int p4), .val (.int p5), .val (.int (2 : Int32)), .val (.double d0), .second, .val (.double d1), .second, .val (.double d2), .second, .val (.double df), .second, .val (.double sc), .second, .val (.ref b173), .val (.ref b195)] [(.ref b173)])) t
        refine XS.iload X254.here hx rfl (hb hby at_283) rfl ?_
        show Steps p.tables e below (T254.setTop (mkF m 285 #[.val (.int p0), .val (.int p1), .val (.int p2), .val (.int p3), .val (.int p4), .val (.int p5), .val (.int (2 : Int32)), .val (.double d0), .second, .val (.double d1), .second, .val (.double d2), .second, .val (.double df), .second, .val (.double sc), .second, .val (.ref b173), .val (.ref b195)] [(.int (2 : Int32)), (.ref b173)])) t
        refine XS.dload X254.here hx rfl (hb hby at_285) rfl ?_
        exact k
      obtain ⟨T258, L258, v258, X258, hQ258, st258⟩ := own_callS X254 hx (y := (⟨"com/example/rankwright/rankwright/rank/Accumulator", "siftUp", "([DID)V"⟩ : MethodName)) hown (mvT hZ (hw _ (List.mem_of_getElem? (i := 2) rfl))) (mvT hZ (hw _ (List.mem_of_getElem? (i := 3) rfl))) (mvT hZ (hw _ (List.mem_of_getElem? (i := 4) rfl))) (mvT hZ (hw _ (List.mem_of_getElem? (i := 5) rfl))) (by decide) (backOf (W := 0) (rm1_2f l Z aw hw [] b173 sc d0 d1 df df k173 h254 n0 f255 f256 g_b173 hc226) hZ (hw _ (List.mem_of_getElem? (i := 5) rfl)) (hw _ (List.mem_of_getElem? (i := 4) rfl)) (by decide) (by decide)) (g := (mkF m 287 #[.val (.int p0), .val (.int p1), .val (.int p2), .val (.int p3), .val (.int p4), .val (.int p5), .val (.int (2 : Int32)), .val (.double d0), .second, .val (.double d1), .second, .val (.double d2), .second, .val (.double df), .second, .val (.double sc), .second, .val (.ref b173), .val (.ref b195)] [(.double sc), (.int (2 : Int32)), (.ref b173)])) rfl (by rw [hml]; rfl) (argsL := [(.ref b173), (.int (2 : Int32)), (.double sc)]) (rest := []) (lenOf pd_1 rfl) rfl (by show 2 * 0 + _ ≤ _; exact Nat.le_of_eq rfl) (hb hby at_287) rfl e254 (by decide) (by decide)
      obtain ⟨rfl, N258q, K258, y258_0⟩ := hQ258
      have f259 : n0 ≤ T258.heap.size := Nat.le_trans f255 K258.1
      have f260 : Arv Z T258.heap b195 k195 .double (4 : Int32) [(.double d0), (.double d1), (.double sc), (.double df)] (.double (0 : UInt64)) := f257.keep K258 (ninS (Ne.symm ne_b173_b195) nin0)
      have N258 := Fr.app N254 N258q
      refine OwnGo.of st258 ?_
      show OwnGo p.tables e below _ (T258.setTop (mkF m 290 #[.val (.int p0), .val (.int p1), .val (.int p2), .val (.int p3), .val (.int p4), .val (.int p5), .val (.int (2 : Int32)), .val (.double d0), .second, .val (.double d1), .second, .val (.double d2), .second, .val (.double df), .second, .val (.double sc), .second, .val (.ref b173), .val (.ref b195)] []))
      refine OwnGo.of (A := T258.setTop (mkF m 290 #[.val (.int p0), .val (.int p1), .val (.int p2), .val (.int p3), .val (.int p4), .val (.int p5), .val (.int (2 : Int32)), .val (.double d0), .second, .val (.double d1), .second, .val (.double d2), .second, .val (.double df), .second, .val (.double sc), .second, .val (.ref b173), .val (.ref b195)] [])) (B := T258.setTop (mkF m 293 #[.val (.int p0), .val (.int p1), .val (.int p2), .val (.int p3), .val (.int p4), .val (.int p5), .val (.int (2 : Int32)), .val (.double d0), .second, .val (.double d1), .second, .val (.double d2), .second, .val (.double df), .second, .val (.double sc), .second, .val (.ref b173), .val (.ref b195)] [(.int (0 : Int32)), (.ref b173)])) (fun t k => ?_) ?_
      · show Steps p.tables e below (T258.setTop (mkF m 290 #[.val (.int p0), .val (.int p1), .val (.int p2), .val (.int p3), .val (.int p4), .val (.int p5), .val (.int (2 : Int32)), .val (.double d0), .second, .val (.double d1), .second, .val (.double d2), .second, .val (.double df), .second, .val (.double sc), .second, .val (.ref b173), .val (.ref b195)] [])) t
        refine XS.aload X258.here hx rfl (hb hby at_290) rfl rfl ?_
        show Steps p.tables e below (T258.setTop (mkF m 292 #[.val (.int p0), .val (.int p1), .val (.int p2), .val (.int p3), .val (.int p4), .val (.int p5), .val (.int (2 : Int32)), .val (.double d0), .second, .val (.double d1), .second, .val (.double d2), .second, .val (.double df), .second, .val (.double sc), .second, .val (.ref b173), .val (.ref b195)] [(.ref b173)])) t
        refine XS.iconst X258.here hx rfl (hb hby at_292) ?_
        exact k
      have cq261 := y258_0
      obtain ⟨clq261, Arq261, qq261, Sq261, Nq261, Hq261, Gq261⟩ := cq261
      have hinq261 := inb_of (j := (0 : Int32)) Sq261 ⟨by decide, by decide⟩
      refine OwnGo.of (X258.daload hx (j := (0 : Int32)) (v := (.double d0)) Arq261.1 (State.isArrayOf_alike hZ.alike Arq261.2.1) Arq261.2.2 hinq261 (Hq261.at hinq261 rfl) (g := (mkF m 293 #[.val (.int p0), .val (.int p1), .val (.int p2), .val (.int p3), .val (.int p4), .val (.int p5), .val (.int (2 : Int32)), .val (.double d0), .second, .val (.double d1), .second, .val (.double d2), .second, .val (.double df), .second, .val (.double sc), .second, .val (.ref b173), .val (.ref b195)] [(.int (0 : Int32)), (.ref b173)])) rfl rfl (hb hby at_293)) ?_
      show OwnGo p.tables e below _ (T258.setTop (mkF m 294 #[.val (.int p0), .val (.int p1), .val (.int p2), .val (.int p3), .val (.int p4), .val (.int p5), .val (.int (2 : Int32)), .val (.double d0), .second, .val (.double d1), .second, .val (.double d2), .second, .val (.double df), .second, .val (.double sc), .second, .val (.ref b173), .val (.ref b195)] [(.double d0)]))
      refine OwnGo.of (A := T258.setTop (mkF m 294 #[.val (.int p0), .val (.int p1), .val (.int p2), .val (.int p3), .val (.int p4), .val (.int p5), .val (.int (2 : Int32)), .val (.double d0), .second, .val (.double d1), .second, .val (.double d2), .second, .val (.double df), .second, .val (.double sc), .second, .val (.ref b173), .val (.ref b195)] [(.double d0)])) (B := T258.setTop (mkF m 297 #[.val (.int p0), .val (.int p1), .val (.int p2), .val (.int p3), .val (.int p4), .val (.int p5), .val (.int (2 : Int32)), .val (.double d0), .second, .val (.double d1), .second, .val (.double d2), .second, .val (.double df), .second, .val (.double sc), .second, .val (.ref b173), .val (.ref b195)] [(.int (0 : Int32)), (.ref b195), (.double d0)])) (fun t k => ?_) ?_
      · show Steps p.tables e below (T258.setTop (mkF m 294 #[.val (.int p0), .val (.int p1), .val (.int p2), .val (.int p3), .val (.int p4), .val (.int p5), .val (.int (2 : Int32)), .val (.double d0), .second, .val (.double d1), .second, .val (.double d2), .second, .val (.double df), .second, .val (.double sc), .second, .val (.ref b173), .val (.ref b195)] [(.double d0)])) t
        refine XS.aload X258.here hx rfl (hb hby at_294) rfl rfl ?_
        show Steps p.tables e below (T258.setTop (mkF m 296 #[.val (.int p0), .val (.int p1), .val (.int p2), .val (.int p3), .val (.int p4), .val (.int p5), .val (.int (2 : Int32)), .val (.double d0), .second, .val (.double d1), .second, .val (.double d2), .second, .val (.double df), .second, .val (.double sc), .second, .val (.ref b173), .val (.ref b195)] [(.ref b195), (.double d0)])) t
        refine XS.iconst X258.here hx rfl (hb hby at_296) ?_
        exact k
      have cq262 := f260
      obtain ⟨clq262, Arq262, qq262, Sq262, Nq262, Hq262, Gq262⟩ := cq262
      have hinq262 := inb_of (j := (0 : Int32)) Sq262 ⟨by decide, by decide⟩
      refine OwnGo.of (X258.daload hx (j := (0 : Int32)) (v := (.double d0)) Arq262.1 (State.isArrayOf_alike hZ.alike Arq262.2.1) Arq262.2.2 hinq262 (Hq262.at hinq262 rfl) (g := (mkF m 297 #[.val (.int p0), .val (.int p1), .val (.int p2), .val (.int p3), .val (.int p4), .val (.int p5), .val (.int (2 : Int32)), .val (.double d0), .second, .val (.double d1), .second, .val (.double d2), .second, .val (.double df), .second, .val (.double sc), .second, .val (.ref b173), .val (.ref b195)] [(.int (0 : Int32)), (.ref b195), (.double d0)])) rfl rfl (hb hby at_297)) ?_
      show OwnGo p.tables e below _ (T258.setTop (mkF m 298 #[.val (.int p0), .val (.int p1), .val (.int p2), .val (.int p3), .val (.int p4), .val (.int p5), .val (.int (2 : Int32)), .val (.double d0), .second, .val (.double d1), .second, .val (.double d2), .second, .val (.double df), .second, .val (.double sc), .second, .val (.ref b173), .val (.ref b195)] [(.double d0), (.double d0)]))
      refine OwnGo.of (A := T258.setTop (mkF m 298 #[.val (.int p0), .val (.int p1), .val (.int p2), .val (.int p3), .val (.int p4), .val (.int p5), .val (.int (2 : Int32)), .val (.double d0), .second, .val (.double d1), .second, .val (.double d2), .second, .val (.double df), .second, .val (.double sc), .second, .val (.ref b173), .val (.ref b195)] [(.double d0), (.double d0)])) (B := T258.setTop (mkF m 299 #[.val (.int p0), .val (.int p1), .val (.int p2), .val (.int p3), .val (.int p4), .val (.int p5), .val (.int (2 : Int32)), .val (.double d0), .second, .val (.double d1), .second, .val (.double d2), .second, .val (.double df), .second, .val (.double sc), .second, .val (.ref b173), .val (.ref b195)] [(.int (cmpValue (FP.dcmp d0 d0) .l))])) (fun t k => ?_) ?_
      · show Steps p.tables e below (T258.setTop (mkF m 298 #[.val (.int p0), .val (.int p1), .val (.int p2), .val (.int p3), .val (.int p4), .val (.int p5), .val (.int (2 : Int32)), .val (.double d0), .second, .val (.double d1), .second, .val (.double d2), .second, .val (.double df), .second, .val (.double sc), .second, .val (.ref b173), .val (.ref b195)] [(.double d0), (.double d0)])) t
        refine XS.dcmpS X258.here hx rfl (hb hby at_298) rfl rfl ?_
        exact k
      have hc263 : (cmpValue (FP.dcmp d0 d0) .l) = (0 : Int32) := dcmpV_self nd0 .l
      refine OwnGo.of (A := T258.setTop (mkF m 299 #[.val (.int p0), .val (.int p1), .val (.int p2), .val (.int p3), .val (.int p4), .val (.int p5), .val (.int (2 : Int32)), .val (.double d0), .second, .val (.double d1), .second, .val (.double d2), .second, .val (.double df), .second, .val (.double sc), .second, .val (.ref b173), .val (.ref b195)] [(.int (cmpValue (FP.dcmp d0 d0) .l))])) (B := T258.setTop (mkF m 305 #[.val (.int p0), .val (.int p1), .val (.int p2), .val (.int p3), .val (.int p4), .val (.int p5), .val (.int (2 : Int32)), .val (.double d0), .second, .val (.double d1), .second, .val (.double d2), .second, .val (.double df), .second, .val (.double sc), .second, .val (.ref b173), .val (.ref b195)] [(.int (1 : Int32)), (.ref b173)])) (fun t k => ?_) ?_
      · show Steps p.tables e below (T258.setTop (mkF m 299 #[.val (.int p0), .val (.int p1), .val (.int p2), .val (.int p3), .val (.int p4), .val (.int p5), .val (.int (2 : Int32)), .val (.double d0), .second, .val (.double d1), .second, .val (.double d2), .second, .val (.double df), .second, .val (.double sc), .second, .val (.ref b173), .val (.ref b195)] [(.int (cmpValue (FP.dcmp d0 d0) .l))])) t
        refine XS.ifNo X258.here hx rfl (hb hby at_299) rfl ((if0 _ _).trans (teq hc263).2) ?_
        show Steps p.tables e below (T258.setTop (mkF m 302 #[.val (.int p0), .val (.int p1), .val (.int p2), .val (.int p3), .val (.int p4), .val (.int p5), .val (.int (2 : Int32)), .val (.double d0), .second, .val (.double d1), .second, .val (.double d2), .second, .val (.double df), .second, .val (.double sc), .second, .val (.ref b173), .val (.ref b195)] [])) t
        refine XS.aload X258.here hx rfl (hb hby at_302) rfl rfl ?_
        show Steps p.tables e below (T258.setTop (mkF m 304 #[.val (.int p0), .val (.int p1), .val (.int p2), .val (.int p3), .val (.int p4), .val (.int p5), .val (.int (2 : Int32)), .val (.double d0), .second, .val (.double d1), .second, .val (.double d2), .second, .val (.double df), .second, .val (.double sc), .second, .val (.ref b173), .val (.ref b195)] [(.ref b173)])) t
        refine XS.iconst X258.here hx rfl (hb hby at_304) ?_
        exact k
      have cq264 := y258_0
      obtain ⟨clq264, Arq264, qq264, Sq264, Nq264, Hq264, Gq264⟩ := cq264
      have hinq264 := inb_of (j := (1 : Int32)) Sq264 ⟨by decide, by decide⟩
      refine OwnGo.of (X258.daload hx (j := (1 : Int32)) (v := (.double d1)) Arq264.1 (State.isArrayOf_alike hZ.alike Arq264.2.1) Arq264.2.2 hinq264 (Hq264.at hinq264 rfl) (g := (mkF m 305 #[.val (.int p0), .val (.int p1), .val (.int p2), .val (.int p3), .val (.int p4), .val (.int p5), .val (.int (2 : Int32)), .val (.double d0), .second, .val (.double d1), .second, .val (.double d2), .second, .val (.double df), .second, .val (.double sc), .second, .val (.ref b173), .val (.ref b195)] [(.int (1 : Int32)), (.ref b173)])) rfl rfl (hb hby at_305)) ?_
      show OwnGo p.tables e below _ (T258.setTop (mkF m 306 #[.val (.int p0), .val (.int p1), .val (.int p2), .val (.int p3), .val (.int p4), .val (.int p5), .val (.int (2 : Int32)), .val (.double d0), .second, .val (.double d1), .second, .val (.double d2), .second, .val (.double df), .second, .val (.double sc), .second, .val (.ref b173), .val (.ref b195)] [(.double d1)]))
      refine OwnGo.of (A := T258.setTop (mkF m 306 #[.val (.int p0), .val (.int p1), .val (.int p2), .val (.int p3), .val (.int p4), .val (.int p5), .val (.int (2 : Int32)), .val (.double d0), .second, .val (.double d1), .second, .val (.double d2), .second, .val (.double df), .second, .val (.double sc), .second, .val (.ref b173), .val (.ref b195)] [(.double d1)])) (B := T258.setTop (mkF m 309 #[.val (.int p0), .val (.int p1), .val (.int p2), .val (.int p3), .val (.int p4), .val (.int p5), .val (.int (2 : Int32)), .val (.double d0), .second, .val (.double d1), .second, .val (.double d2), .second, .val (.double df), .second, .val (.double sc), .second, .val (.ref b173), .val (.ref b195)] [(.int (1 : Int32)), (.ref b195), (.double d1)])) (fun t k => ?_) ?_
      · show Steps p.tables e below (T258.setTop (mkF m 306 #[.val (.int p0), .val (.int p1), .val (.int p2), .val (.int p3), .val (.int p4), .val (.int p5), .val (.int (2 : Int32)), .val (.double d0), .second, .val (.double d1), .second, .val (.double d2), .second, .val (.double df), .second, .val (.double sc), .second, .val (.ref b173), .val (.ref b195)] [(.double d1)])) t
        refine XS.aload X258.here hx rfl (hb hby at_306) rfl rfl ?_
        show Steps p.tables e below (T258.setTop (mkF m 308 #[.val (.int p0), .val (.int p1), .val (.int p2), .val (.int p3), .val (.int p4), .val (.int p5), .val (.int (2 : Int32)), .val (.double d0), .second, .val (.double d1), .second, .val (.double d2), .second, .val (.double df), .second, .val (.double sc), .second, .val (.ref b173), .val (.ref b195)] [(.ref b195), (.double d1)])) t
        refine XS.iconst X258.here hx rfl (hb hby at_308) ?_
        exact k
      have cq265 := f260
      obtain ⟨clq265, Arq265, qq265, Sq265, Nq265, Hq265, Gq265⟩ := cq265
      have hinq265 := inb_of (j := (1 : Int32)) Sq265 ⟨by decide, by decide⟩
      refine OwnGo.of (X258.daload hx (j := (1 : Int32)) (v := (.double d1)) Arq265.1 (State.isArrayOf_alike hZ.alike Arq265.2.1) Arq265.2.2 hinq265 (Hq265.at hinq265 rfl) (g := (mkF m 309 #[.val (.int p0), .val (.int p1), .val (.int p2), .val (.int p3), .val (.int p4), .val (.int p5), .val (.int (2 : Int32)), .val (.double d0), .second, .val (.double d1), .second, .val (.double d2), .second, .val (.double df), .second, .val (.double sc), .second, .val (.ref b173), .val (.ref b195)] [(.int (1 : Int32)), (.ref b195), (.double d1)])) rfl rfl (hb hby at_309)) ?_
      show OwnGo p.tables e below _ (T258.setTop (mkF m 310 #[.val (.int p0), .val (.int p1), .val (.int p2), .val (.int p3), .val (.int p4), .val (.int p5), .val (.int (2 : Int32)), .val (.double d0), .second, .val (.double d1), .second, .val (.double d2), .second, .val (.double df), .second, .val (.double sc), .second, .val (.ref b173), .val (.ref b195)] [(.double d1), (.double d1)]))
      refine OwnGo.of (A := T258.setTop (mkF m 310 #[.val (.int p0), .val (.int p1), .val (.int p2), .val (.int p3), .val (.int p4), .val (.int p5), .val (.int (2 : Int32)), .val (.double d0), .second, .val (.double d1), .second, .val (.double d2), .second, .val (.double df), .second, .val (.double sc), .second, .val (.ref b173), .val (.ref b195)] [(.double d1), (.double d1)])) (B := T258.setTop (mkF m 311 #[.val (.int p0), .val (.int p1), .val (.int p2), .val (.int p3), .val (.int p4), .val (.int p5), .val (.int (2 : Int32)), .val (.double d0), .second, .val (.double d1), .second, .val (.double d2), .second, .val (.double df), .second, .val (.double sc), .second, .val (.ref b173), .val (.ref b195)] [(.int (cmpValue (FP.dcmp d1 d1) .l))])) (fun t k => ?_) ?_
      · show Steps p.tables e below (T258.setTop (mkF m 310 #[.val (.int p0), .val (.int p1), .val (.int p2), .val (.int p3), .val (.int p4), .val (.int p5), .val (.int (2 : Int32)), .val (.double d0), .second, .val (.double d1), .second, .val (.double d2), .second, .val (.double df), .second, .val (.double sc), .second, .val (.ref b173), .val (.ref b195)] [(.double d1), (.double d1)])) t
        refine XS.dcmpS X258.here hx rfl (hb hby at_310) rfl rfl ?_
        exact k
      have hc266 : (cmpValue (FP.dcmp d1 d1) .l) = (0 : Int32) := dcmpV_self nd1 .l
      refine OwnGo.of (A := T258.setTop (mkF m 311 #[.val (.int p0), .val (.int p1), .val (.int p2), .val (.int p3), .val (.int p4), .val (.int p5), .val (.int (2 : Int32)), .val (.double d0), .second, .val (.double d1), .second, .val (.double d2), .second, .val (.double df), .second, .val (.double sc), .second, .val (.ref b173), .val (.ref b195)] [(.int (cmpValue (FP.dcmp d1 d1) .l))])) (B := T258.setTop (mkF m 317 #[.val (.int p0), .val (.int p1), .val (.int p2), .val (.int p3), .val (.int p4), .val (.int p5), .val (.int (2 : Int32)), .val (.double d0), .second, .val (.double d1), .second, .val (.double d2), .second, .val (.double df), .second, .val (.double sc), .second, .val (.ref b173), .val (.ref b195)] [(.int (2 : Int32)), (.ref b173)])) (fun t k => ?_) ?_
      · show Steps p.tables e below (T258.setTop (mkF m 311 #[.val (.int p0), .val (.int p1), .val (.int p2), .val (.int p3), .val (.int p4), .val (.int p5), .val (.int (2 : Int32)), .val (.double d0), .second, .val (.double d1), .second, .val (.double d2), .second, .val (.double df), .second, .val (.double sc), .second, .val (.ref b173), .val (.ref b195)] [(.int (cmpValue (FP.dcmp d1 d1) .l))])) t
        refine XS.ifNo X258.here hx rfl (hb hby at_311) rfl ((if0 _ _).trans (teq hc266).2) ?_
        show Steps p.tables e below (T258.setTop (mkF m 314 #[.val (.int p0), .val (.int p1), .val (.int p2), .val (.int p3), .val (.int p4), .val (.int p5), .val (.int (2 : Int32)), .val (.double d0), .second, .val (.double d1), .second, .val (.double d2), .second, .val (.double df), .second, .val (.double sc), .second, .val (.ref b173), .val (.ref b195)] [])) t
        refine XS.aload X258.here hx rfl (hb hby at_314) rfl rfl ?_
        show Steps p.tables e below (T258.setTop (mkF m 316 #[.val (.int p0), .val (.int p1), .val (.int p2), .val (.int p3), .val (.int p4), .val (.int p5), .val (.int (2 : Int32)), .val (.double d0), .second, .val (.double d1), .second, .val (.double d2), .second, .val (.double df), .second, .val (.double sc), .second, .val (.ref b173), .val (.ref b195)] [(.ref b173)])) t
        refine XS.iconst X258.here hx rfl (hb hby at_316) ?_
        exact k
      have cq267 := y258_0
      obtain ⟨clq267, Arq267, qq267, Sq267, Nq267, Hq267, Gq267⟩ := cq267
      have hinq267 := inb_of (j := (2 : Int32)) Sq267 ⟨by decide, by decide⟩
      refine OwnGo.of (X258.daload hx (j := (2 : Int32)) (v := (.double sc)) Arq267.1 (State.isArrayOf_alike hZ.alike Arq267.2.1) Arq267.2.2 hinq267 (Hq267.at hinq267 rfl) (g := (mkF m 317 #[.val (.int p0), .val (.int p1), .val (.int p2), .val (.int p3), .val (.int p4), .val (.int p5), .val (.int (2 : Int32)), .val (.double d0), .second, .val (.double d1), .second, .val (.double d2), .second, .val (.double df), .second, .val (.double sc), .second, .val (.ref b173), .val (.ref b195)] [(.int (2 : Int32)), (.ref b173)])) rfl rfl (hb hby at_317)) ?_
      show OwnGo p.tables e below _ (T258.setTop (mkF m 318 #[.val (.int p0), .val (.int p1), .val (.int p2), .val (.int p3), .val (.int p4), .val (.int p5), .val (.int (2 : Int32)), .val (.double d0), .second, .val (.double d1), .second, .val (.double d2), .second, .val (.double df), .second, .val (.double sc), .second, .val (.ref b173), .val (.ref b195)] [(.double sc)]))
      refine OwnGo.of (A := T258.setTop (mkF m 318 #[.val (.int p0), .val (.int p1), .val (.int p2), .val (.int p3), .val (.int p4), .val (.int p5), .val (.int (2 : Int32)), .val (.double d0), .second, .val (.double d1), .second, .val (.double d2), .second, .val (.double df), .second, .val (.double sc), .second, .val (.ref b173), .val (.ref b195)] [(.double sc)])) (B := T258.setTop (mkF m 321 #[.val (.int p0), .val (.int p1), .val (.int p2), .val (.int p3), .val (.int p4), .val (.int p5), .val (.int (2 : Int32)), .val (.double d0), .second, .val (.double d1), .second, .val (.double d2), .second, .val (.double df), .second, .val (.double sc), .second, .val (.ref b173), .val (.ref b195)] [(.int (2 : Int32)), (.ref b195), (.double sc)])) (fun t k => ?_) ?_
      · show Steps p.tables e below (T258.setTop (mkF m 318 #[.val (.int p0), .val (.int p1), .val (.int p2), .val (.int p3), .val (.int p4), .val (.int p5), .val (.int (2 : Int32)), .val (.double d0), .second, .val (.double d1), .second, .val (.double d2), .second, .val (.double df), .second, .val (.double sc), .second, .val (.ref b173), .val (.ref b195)] [(.double sc)])) t
        refine XS.aload X258.here hx rfl (hb hby at_318) rfl rfl ?_
        show Steps p.tables e below (T258.setTop (mkF m 320 #[.val (.int p0), .val (.int p1), .val (.int p2), .val (.int p3), .val (.int p4), .val (.int p5), .val (.int (2 : Int32)), .val (.double d0), .second, .val (.double d1), .second, .val (.double d2), .second, .val (.double df), .second, .val (.double sc), .second, .val (.ref b173), .val (.ref b195)] [(.ref b195), (.double sc)])) t
        refine XS.iconst X258.here hx rfl (hb hby at_320) ?_
        exact k
      have cq268 := f260
      obtain ⟨clq268, Arq268, qq268, Sq268, Nq268, Hq268, Gq268⟩ := cq268
      have hinq268 := inb_of (j := (2 : Int32)) Sq268 ⟨by decide, by decide⟩
      refine OwnGo.of (X258.daload hx (j := (2 : Int32)) (v := (.double sc)) Arq268.1 (State.isArrayOf_alike hZ.alike Arq268.2.1) Arq268.2.2 hinq268 (Hq268.at hinq268 rfl) (g := (mkF m 321 #[.val (.int p0), .val (.int p1), .val (.int p2), .val (.int p3), .val (.int p4), .val (.int p5), .val (.int (2 : Int32)), .val (.double d0), .second, .val (.double d1), .second, .val (.double d2), .second, .val (.double df), .second, .val (.double sc), .second, .val (.ref b173), .val (.ref b195)] [(.int (2 : Int32)), (.ref b195), (.double sc)])) rfl rfl (hb hby at_321)) ?_
      show OwnGo p.tables e below _ (T258.setTop (mkF m 322 #[.val (.int p0), .val (.int p1), .val (.int p2), .val (.int p3), .val (.int p4), .val (.int p5), .val (.int (2 : Int32)), .val (.double d0), .second, .val (.double d1), .second, .val (.double d2), .second, .val (.double df), .second, .val (.double sc), .second, .val (.ref b173), .val (.ref b195)] [(.double sc), (.double sc)]))
      refine OwnGo.of (A := T258.setTop (mkF m 322 #[.val (.int p0), .val (.int p1), .val (.int p2), .val (.int p3), .val (.int p4), .val (.int p5), .val (.int (2 : Int32)), .val (.double d0), .second, .val (.double d1), .second, .val (.double d2), .second, .val (.double df), .second, .val (.double sc), .second, .val (.ref b173), .val (.ref b195)] [(.double sc), (.double sc)])) (B := T258.setTop (mkF m 323 #[.val (.int p0), .val (.int p1), .val (.int p2), .val (.int p3), .val (.int p4), .val (.int p5), .val (.int (2 : Int32)), .val (.double d0), .second, .val (.double d1), .second, .val (.double d2), .second, .val (.double df), .second, .val (.double sc), .second, .val (.ref b173), .val (.ref b195)] [(.int (cmpValue (FP.dcmp sc sc) .l))])) (fun t k => ?_) ?_
      · show Steps p.tables e below (T258.setTop (mkF m 322 #[.val (.int p0), .val (.int p1), .val (.int p2), .val (.int p3), .val (.int p4), .val (.int p5), .val (.int (2 : Int32)), .val (.double d0), .second, .val (.double d1), .second, .val (.double d2), .second, .val (.double df), .second, .val (.double sc), .second, .val (.ref b173), .val (.ref b195)] [(.double sc), (.double sc)])) t
        refine XS.dcmpS X258.here hx rfl (hb hby at_322) rfl rfl ?_
        exact k
      have hc269 : (cmpValue (FP.dcmp sc sc) .l) = (0 : Int32) := dcmpV_self nsc .l
      refine OwnGo.of (A := T258.setTop (mkF m 323 #[.val (.int p0), .val (.int p1), .val (.int p2), .val (.int p3), .val (.int p4), .val (.int p5), .val (.int (2 : Int32)), .val (.double d0), .second, .val (.double d1), .second, .val (.double d2), .second, .val (.double df), .second, .val (.double sc), .second, .val (.ref b173), .val (.ref b195)] [(.int (cmpValue (FP.dcmp sc sc) .l))])) (B := T258.setTop (mkF m 329 #[.val (.int p0), .val (.int p1), .val (.int p2), .val (.int p3), .val (.int p4), .val (.int p5), .val (.int (2 : Int32)), .val (.double d0), .second, .val (.double d1), .second, .val (.double d2), .second, .val (.double df), .second, .val (.double sc), .second, .val (.ref b173), .val (.ref b195)] [(.int (3 : Int32)), (.ref b173)])) (fun t k => ?_) ?_
      · show Steps p.tables e below (T258.setTop (mkF m 323 #[.val (.int p0), .val (.int p1), .val (.int p2), .val (.int p3), .val (.int p4), .val (.int p5), .val (.int (2 : Int32)), .val (.double d0), .second, .val (.double d1), .second, .val (.double d2), .second, .val (.double df), .second, .val (.double sc), .second, .val (.ref b173), .val (.ref b195)] [(.int (cmpValue (FP.dcmp sc sc) .l))])) t
        refine XS.ifNo X258.here hx rfl (hb hby at_323) rfl ((if0 _ _).trans (teq hc269).2) ?_
        show Steps p.tables e below (T258.setTop (mkF m 326 #[.val (.int p0), .val (.int p1), .val (.int p2), .val (.int p3), .val (.int p4), .val (.int p5), .val (.int (2 : Int32)), .val (.double d0), .second, .val (.double d1), .second, .val (.double d2), .second, .val (.double df), .second, .val (.double sc), .second, .val (.ref b173), .val (.ref b195)] [])) t
        refine XS.aload X258.here hx rfl (hb hby at_326) rfl rfl ?_
        show Steps p.tables e below (T258.setTop (mkF m 328 #[.val (.int p0), .val (.int p1), .val (.int p2), .val (.int p3), .val (.int p4), .val (.int p5), .val (.int (2 : Int32)), .val (.double d0), .second, .val (.double d1), .second, .val (.double d2), .second, .val (.double df), .second, .val (.double sc), .second, .val (.ref b173), .val (.ref b195)] [(.ref b173)])) t
        refine XS.iconst X258.here hx rfl (hb hby at_328) ?_
        exact k
      have cq270 := y258_0
      obtain ⟨clq270, Arq270, qq270, Sq270, Nq270, Hq270, Gq270⟩ := cq270
      have hinq270 := inb_of (j := (3 : Int32)) Sq270 ⟨by decide, by decide⟩
      refine OwnGo.of (X258.daload hx (j := (3 : Int32)) (v := (.double df)) Arq270.1 (State.isArrayOf_alike hZ.alike Arq270.2.1) Arq270.2.2 hinq270 (Hq270.at hinq270 rfl) (g := (mkF m 329 #[.val (.int p0), .val (.int p1), .val (.int p2), .val (.int p3), .val (.int p4), .val (.int p5), .val (.int (2 : Int32)), .val (.double d0), .second, .val (.double d1), .second, .val (.double d2), .second, .val (.double df), .second, .val (.double sc), .second, .val (.ref b173), .val (.ref b195)] [(.int (3 : Int32)), (.ref b173)])) rfl rfl (hb hby at_329)) ?_
      show OwnGo p.tables e below _ (T258.setTop (mkF m 330 #[.val (.int p0), .val (.int p1), .val (.int p2), .val (.int p3), .val (.int p4), .val (.int p5), .val (.int (2 : Int32)), .val (.double d0), .second, .val (.double d1), .second, .val (.double d2), .second, .val (.double df), .second, .val (.double sc), .second, .val (.ref b173), .val (.ref b195)] [(.double df)]))
      refine OwnGo.of (A := T258.setTop (mkF m 330 #[.val (.int p0), .val (.int p1), .val (.int p2), .val (.int p3), .val (.int p4), .val (.int p5), .val (.int (2 : Int32)), .val (.double d0), .second, .val (.double d1), .second, .val (.double d2), .second, .val (.double df), .second, .val (.double sc), .second, .val (.ref b173), .val (.ref b195)] [(.double df)])) (B := T258.setTop (mkF m 333 #[.val (.int p0), .val (.int p1), .val (.int p2), .val (.int p3), .val (.int p4), .val (.int p5), .val (.int (2 : Int32)), .val (.double d0), .second, .val (.double d1), .second, .val (.double d2), .second, .val (.double df), .second, .val (.double sc), .second, .val (.ref b173), .val (.ref b195)] [(.int (3 : Int32)), (.ref b195), (.double df)])) (fun t k => ?_) ?_
      · show Steps p.tables e below (T258.setTop (mkF m 330 #[.val (.int p0), .val (.int p1), .val (.int p2), .val (.int p3), .val (.int p4), .val (.int p5), .val (.int (2 : Int32)), .val (.double d0), .second, .val (.double d1), .second, .val (.double d2), .second, .val (.double df), .second, .val (.double sc), .second, .val (.ref b173), .val (.ref b195)] [(.double df)])) t
        refine XS.aload X258.here hx rfl (hb hby at_330) rfl rfl ?_
        show Steps p.tables e below (T258.setTop (mkF m 332 #[.val (.int p0), .val (.int p1), .val (.int p2), .val (.int p3), .val (.int p4), .val (.int p5), .val (.int (2 : Int32)), .val (.double d0), .second, .val (.double d1), .second, .val (.double d2), .second, .val (.double df), .second, .val (.double sc), .second, .val (.ref b173), .val (.ref b195)] [(.ref b195), (.double df)])) t
        refine XS.iconst X258.here hx rfl (hb hby at_332) ?_
        exact k
      have cq271 := f260
      obtain ⟨clq271, Arq271, qq271, Sq271, Nq271, Hq271, Gq271⟩ := cq271
      have hinq271 := inb_of (j := (3 : Int32)) Sq271 ⟨by decide, by decide⟩
      refine OwnGo.of (X258.daload hx (j := (3 : Int32)) (v := (.double df)) Arq271.1 (State.isArrayOf_alike hZ.alike Arq271.2.1) Arq271.2.2 hinq271 (Hq271.at hinq271 rfl) (g := (mkF m 333 #[.val (.int p0), .val (.int p1), .val (.int p2), .val (.int p3), .val (.int p4), .val (.int p5), .val (.int (2 : Int32)), .val (.double d0), .second, .val (.double d1), .second, .val (.double d2), .second, .val (.double df), .second, .val (.double sc), .second, .val (.ref b173), .val (.ref b195)] [(.int (3 : Int32)), (.ref b195), (.double df)])) rfl rfl (hb hby at_333)) ?_
      show OwnGo p.tables e below _ (T258.setTop (mkF m 334 #[.val (.int p0), .val (.int p1), .val (.int p2), .val (.int p3), .val (.int p4), .val (.int p5), .val (.int (2 : Int32)), .val (.double d0), .second, .val (.double d1), .second, .val (.double d2), .second, .val (.double df), .second, .val (.double sc), .second, .val (.ref b173), .val (.ref b195)] [(.double df), (.double df)]))
      refine OwnGo.of (A := T258.setTop (mkF m 334 #[.val (.int p0), .val (.int p1), .val (.int p2), .val (.int p3), .val (.int p4), .val (.int p5), .val (.int (2 : Int32)), .val (.double d0), .second, .val (.double d1), .second, .val (.double d2), .second, .val (.double df), .second, .val (.double sc), .second, .val (.ref b173), .val (.ref b195)] [(.double df), (.double df)])) (B := T258.setTop (mkF m 335 #[.val (.int p0), .val (.int p1), .val (.int p2), .val (.int p3), .val (.int p4), .val (.int p5), .val (.int (2 : Int32)), .val (.double d0), .second, .val (.double d1), .second, .val (.double d2), .second, .val (.double df), .second, .val (.double sc), .second, .val (.ref b173), .val (.ref b195)] [(.int (cmpValue (FP.dcmp df df) .l))])) (fun t k => ?_) ?_
      · show Steps p.tables e below (T258.setTop (mkF m 334 #[.val (.int p0), .val (.int p1), .val (.int p2), .val (.int p3), .val (.int p4), .val (.int p5), .val (.int (2 : Int32)), .val (.double d0), .second, .val (.double d1), .second, .val (.double d2), .second, .val (.double df), .second, .val (.double sc), .second, .val (.ref b173), .val (.ref b195)] [(.double df), (.double df)])) t
        refine XS.dcmpS X258.here hx rfl (hb hby at_334) rfl rfl ?_
        exact k
      have hc272 : (cmpValue (FP.dcmp df df) .l) = (0 : Int32) := dcmpV_self ndf .l
      refine OwnGo.of (A := T258.setTop (mkF m 335 #[.val (.int p0), .val (.int p1), .val (.int p2), .val (.int p3), .val (.int p4), .val (.int p5), .val (.int (2 : Int32)), .val (.double d0), .second, .val (.double d1), .second, .val (.double d2), .second, .val (.double df), .second, .val (.double sc), .second, .val (.ref b173), .val (.ref b195)] [(.int (cmpValue (FP.dcmp df df) .l))])) (B := T258.setTop (mkF m 343 #[.val (.int p0), .val (.int p1), .val (.int p2), .val (.int p3), .val (.int p4), .val (.int p5), .val (.int (2 : Int32)), .val (.double d0), .second, .val (.double d1), .second, .val (.double d2), .second, .val (.double df), .second, .val (.double sc), .second, .val (.ref b173), .val (.ref b195)] [(.int (1 : Int32))])) (fun t k => ?_) ?_
      · show Steps p.tables e below (T258.setTop (mkF m 335 #[.val (.int p0), .val (.int p1), .val (.int p2), .val (.int p3), .val (.int p4), .val (.int p5), .val (.int (2 : Int32)), .val (.double d0), .second, .val (.double d1), .second, .val (.double d2), .second, .val (.double df), .second, .val (.double sc), .second, .val (.ref b173), .val (.ref b195)] [(.int (cmpValue (FP.dcmp df df) .l))])) t
        refine XS.ifNo X258.here hx rfl (hb hby at_335) rfl ((if0 _ _).trans (teq hc272).2) ?_
        show Steps p.tables e below (T258.setTop (mkF m 338 #[.val (.int p0), .val (.int p1), .val (.int p2), .val (.int p3), .val (.int p4), .val (.int p5), .val (.int (2 : Int32)), .val (.double d0), .second, .val (.double d1), .second, .val (.double d2), .second, .val (.double df), .second, .val (.double sc), .second, .val (.ref b173), .val (.ref b195)] [])) t
        refine XS.iconst X258.here hx rfl (hb hby at_338) ?_
        show Steps p.tables e below (T258.setTop (mkF m 339 #[.val (.int p0), .val (.int p1), .val (.int p2), .val (.int p3), .val (.int p4), .val (.int p5), .val (.int (2 : Int32)), .val (.double d0), .second, .val (.double d1), .second, .val (.double d2), .second, .val (.double df), .second, .val (.double sc), .second, .val (.ref b173), .val (.ref b195)] [(.int (1 : Int32))])) t
        refine XS.goto X258.here hx rfl (pc0 := 339) (pc' := 343) rfl (hb hby at_339) (by decide) (by decide) ?_
        exact k
      obtain ⟨fs, hr, hrun, hended, hW, hsame⟩ := X258.leave (v := some (.int (nar .boolean (1 : Int32)))) (fun h => by rw [Bd.returns] at h; cases h) hlk
      refine ⟨_, _, ?_, hrun, hended, _, _, rfl, ?_, ⟨_, rfl⟩, hW, hsame.mono (by decide) (by decide)⟩
      · show Steps p.tables e below (T258.setTop (mkF m 343 #[.val (.int p0), .val (.int p1), .val (.int p2), .val (.int p3), .val (.int p4), .val (.int p5), .val (.int (2 : Int32)), .val (.double d0), .second, .val (.double d1), .second, .val (.double d2), .second, .val (.double df), .second, .val (.double sc), .second, .val (.ref b173), .val (.ref b195)] [(.int (1 : Int32))])) _
        exact retN X258 hx (t := .boolean) Bd.returns (by simp) (hb hby at_343) hr
      · show Qrm0 Z p0 p1 p2 p3 p4 p5 h0 n0 _ (T258.setFrames fs).heap _
        rw [show (T258.setFrames fs).heap = T258.heap from rfl]
        exact ⟨rfl, N258⟩
  · rw [qa]
    show OwnGo p.tables e below _ (s₁.setTop (mkF m 41 #[.val (.int p0), .val (.int p1), .val (.int p2), .val (.int p3), .val (.int p4), .val (.int p5), .val (.int (3 : Int32)), .val (.double d0), .second, .val (.double d1), .second, .val (.double d2), .second, .val (.double df), .second, .val (.double sc), .second, .unset, .unset] []))
    refine OwnGo.of (A := s₁.setTop (mkF m 41 #[.val (.int p0), .val (.int p1), .val (.int p2), .val (.int p3), .val (.int p4), .val (.int p5), .val (.int (3 : Int32)), .val (.double d0), .second, .val (.double d1), .second, .val (.double d2), .second, .val (.double df), .second, .val (.double sc), .second, .unset, .unset] [])) (B := s₁.setTop (mkF m 42 #[.val (.int p0), .val (.int p1), .val (.int p2), .val (.int p3), .val (.int p4), .val (.int p5), .val (.int (3 : Int32)), .val (.double d0), .second, .val (.double d1), .second, .val (.double d2), .second, .val (.double df), .second, .val (.double sc), .second, .unset, .unset] [(.int (4 : Int32))])) (fun t k => ?_) ?_
    · show Steps p.tables e below (s₁.setTop (mkF m 41 #[.val (.int p0), .val (.int p1), .val (.int p2), .val (.int p3), .val (.int p4), .val (.int p5), .val (.int (3 : Int32)), .val (.double d0), .second, .val (.double d1), .second, .val (.double d2), .second, .val (.double df), .second, .val (.double sc), .second, .unset, .unset] [])) t
      refine XS.iconst X0.here hx rfl (hb hby at_41) ?_
      exact k
    obtain ⟨T274, h274, k274, X274, e274, E274, A274, st274⟩ := newP X0 hx hZ (hw _ (List.mem_of_getElem? (i := 1) rfl)) e0 (g := (mkF m 42 #[.val (.int p0), .val (.int p1), .val (.int p2), .val (.int p3), .val (.int p4), .val (.int p5), .val (.int (3 : Int32)), .val (.double d0), .second, .val (.double d1), .second, .val (.double d2), .second, .val (.double df), .second, .val (.double sc), .second, .unset, .unset] [(.int (4 : Int32))])) rfl (hb hby at_42) rfl (by decide) (cap := 4) (by decide) (by decide) (by decide) (by decide)
    obtain ⟨b274, g274⟩ : ∃ z, z = h0.size := ⟨_, rfl⟩
    rw [← g274] at A274 st274
    refine OwnGo.of st274 ?_
    have g_b274 : n0 ≤ b274 := Nat.le_trans Z0 (Nat.le_of_eq g274.symm)
    have f275 : n0 ≤ h274.size := Nat.le_trans Z0 E274.1
    have f276 : Arv Z h274 b274 k274 .double (4 : Int32) [(.double (0 : UInt64)), (.double (0 : UInt64)), (.double (0 : UInt64)), (.double (0 : UInt64))] (.double (0 : UInt64)) := (Arv.new A274 (by decide)).pad (pad_rep [] (.double (0 : UInt64)) 4)
    show OwnGo p.tables e below _ (T274.setTop (mkF m 44 #[.val (.int p0), .val (.int p1), .val (.int p2), .val (.int p3), .val (.int p4), .val (.int p5), .val (.int (3 : Int32)), .val (.double d0), .second, .val (.double d1), .second, .val (.double d2), .second, .val (.double df), .second, .val (.double sc), .second, .unset, .unset] [(.ref b274)]))
    refine OwnGo.of (A := T274.setTop (mkF m 44 #[.val (.int p0), .val (.int p1), .val (.int p2), .val (.int p3), .val (.int p4), .val (.int p5), .val (.int (3 : Int32)), .val (.double d0), .second, .val (.double d1), .second, .val (.double d2), .second, .val (.double df), .second, .val (.double sc), .second, .unset, .unset] [(.ref b274)])) (B := T274.setTop (mkF m 51 #[.val (.int p0), .val (.int p1), .val (.int p2), .val (.int p3), .val (.int p4), .val (.int p5), .val (.int (3 : Int32)), .val (.double d0), .second, .val (.double d1), .second, .val (.double d2), .second, .val (.double df), .second, .val (.double sc), .second, .val (.ref b274), .unset] [(.int (3 : Int32)), (.int (0 : Int32)), (.ref b274)])) (fun t k => ?_) ?_
    · show Steps p.tables e below (T274.setTop (mkF m 44 #[.val (.int p0), .val (.int p1), .val (.int p2), .val (.int p3), .val (.int p4), .val (.int p5), .val (.int (3 : Int32)), .val (.double d0), .second, .val (.double d1), .second, .val (.double d2), .second, .val (.double df), .second, .val (.double sc), .second, .unset, .unset] [(.ref b274)])) t
      refine XS.astore X274.here hx rfl (hb hby at_44) rfl rfl (l' := #[.val (.int p0), .val (.int p1), .val (.int p2), .val (.int p3), .val (.int p4), .val (.int p5), .val (.int (3 : Int32)), .val (.double d0), .second, .val (.double d1), .second, .val (.double d2), .second, .val (.double df), .second, .val (.double sc), .second, .val (.ref b274), .unset]) rfl ?_
      show Steps p.tables e below (T274.setTop (mkF m 46 #[.val (.int p0), .val (.int p1), .val (.int p2), .val (.int p3), .val (.int p4), .val (.int p5), .val (.int (3 : Int32)), .val (.double d0), .second, .val (.double d1), .second, .val (.double d2), .second, .val (.double df), .second, .val (.double sc), .second, .val (.ref b274), .unset] [])) t
      refine XS.aload X274.here hx rfl (hb hby at_46) rfl rfl ?_
      show Steps p.tables e below (T274.setTop (mkF m 48 #[.val (.int p0), .val (.int p1), .val (.int p2), .val (.int p3), .val (.int p4), .val (.int p5), .val (.int (3 : Int32)), .val (.double d0), .second, .val (.double d1), .second, .val (.double d2), .second, .val (.double df), .second, .val (.double sc), .second, .val (.ref b274), .unset] [(.ref b274)])) t
      refine XS.iconst X274.here hx rfl (hb hby at_48) ?_
      show Steps p.tables e below (T274.setTop (mkF m 49 #[.val (.int p0), .val (.int p1), .val (.int p2), .val (.int p3), .val (.int p4), .val (.int p5), .val (.int (3 : Int32)), .val (.double d0), .second, .val (.double d1), .second, .val (.double d2), .second, .val (.double df), .second, .val (.double sc), .second, .val (.ref b274), .unset] [(.int (0 : Int32)), (.ref b274)])) t
      refine XS.iload X274.here hx rfl (hb hby at_49) rfl ?_
      exact k
    have hc277 : (0 : Int32) < (3 : Int32) := by decide
    refine OwnGo.of (A := T274.setTop (mkF m 51 #[.val (.int p0), .val (.int p1), .val (.int p2), .val (.int p3), .val (.int p4), .val (.int p5), .val (.int (3 : Int32)), .val (.double d0), .second, .val (.double d1), .second, .val (.double d2), .second, .val (.double df), .second, .val (.double sc), .second, .val (.ref b274), .unset] [(.int (3 : Int32)), (.int (0 : Int32)), (.ref b274)])) (B := T274.setTop (mkF m 61 #[.val (.int p0), .val (.int p1), .val (.int p2), .val (.int p3), .val (.int p4), .val (.int p5), .val (.int (3 : Int32)), .val (.double d0), .second, .val (.double d1), .second, .val (.double d2), .second, .val (.double df), .second, .val (.double sc), .second, .val (.ref b274), .unset] [(.double d0), (.int (0 : Int32)), (.ref b274)])) (fun t k => ?_) ?_
    · show Steps p.tables e below (T274.setTop (mkF m 51 #[.val (.int p0), .val (.int p1), .val (.int p2), .val (.int p3), .val (.int p4), .val (.int p5), .val (.int (3 : Int32)), .val (.double d0), .second, .val (.double d1), .second, .val (.double d2), .second, .val (.double df), .second, .val (.double sc), .second, .val (.ref b274), .unset] [(.int (3 : Int32)), (.int (0 : Int32)), (.ref b274)])) t
      refine XS.ifNo X274.here hx rfl (hb hby at_51) rfl ((if0 _ _).trans (tlt hc277).2.2.2) ?_
      show Steps p.tables e below (T274.setTop (mkF m 54 #[.val (.int p0), .val (.int p1), .val (.int p2), .val (.int p3), .val (.int p4), .val (.int p5), .val (.int (3 : Int32)), .val (.double d0), .second, .val (.double d1), .second, .val (.double d2), .second, .val (.double df), .second, .val (.double sc), .second, .val (.ref b274), .unset] [(.int (0 : Int32)), (.ref b274)])) t
      refine XS.dload X274.here hx rfl (hb hby at_54) rfl ?_
      show Steps p.tables e below (T274.setTop (mkF m 56 #[.val (.int p0), .val (.int p1), .val (.int p2), .val (.int p3), .val (.int p4), .val (.int p5), .val (.int (3 : Int32)), .val (.double d0), .second, .val (.double d1), .second, .val (.double d2), .second, .val (.double df), .second, .val (.double sc), .second, .val (.ref b274), .unset] [(.double d0), (.int (0 : Int32)), (.ref b274)])) t
      refine XS.goto X274.here hx rfl (pc0 := 56) (pc' := 61) rfl (hb hby at_56) (by decide) (by decide) ?_
      exact k
    have cq278 := f276
    obtain ⟨clq278, Arq278, qq278, Sq278, Nq278, Hq278, Gq278⟩ := cq278
    obtain ⟨T279, h279, X279, e279, W279, st279⟩ := stD X274 hx hZ e274 Arq278 (j := (0 : Int32)) (inb_of Sq278 ⟨by decide, by decide⟩) (g := (mkF m 61 #[.val (.int p0), .val (.int p1), .val (.int p2), .val (.int p3), .val (.int p4), .val (.int p5), .val (.int (3 : Int32)), .val (.double d0), .second, .val (.double d1), .second, .val (.double d2), .second, .val (.double df), .second, .val (.double sc), .second, .val (.ref b274), .unset] [(.double d0), (.int (0 : Int32)), (.ref b274)])) rfl rfl (hb hby at_61)
    refine OwnGo.of st279 ?_
    have N279 := Fr.snoc X279 N0 g_b274
    have f280 : n0 ≤ h279.size := Nat.le_trans f275 (Keep.of_wr W279).1
    have f281 : Arv Z h279 b274 k274 .double (4 : Int32) [(.double d0), (.double (0 : UInt64)), (.double (0 : UInt64)), (.double (0 : UInt64))] (.double (0 : UInt64)) := Arv.set Arq278 qq278 Sq278 Nq278 Hq278 Gq278 rfl W279 0 rfl (Nat.le_of_ble_eq_true rfl)
    show OwnGo p.tables e below _ (T279.setTop (mkF m 62 #[.val (.int p0), .val (.int p1), .val (.int p2), .val (.int p3), .val (.int p4), .val (.int p5), .val (.int (3 : Int32)), .val (.double d0), .second, .val (.double d1), .second, .val (.double d2), .second, .val (.double df), .second, .val (.double sc), .second, .val (.ref b274), .unset] []))
    refine OwnGo.of (A := T279.setTop (mkF m 62 #[.val (.int p0), .val (.int p1), .val (.int p2), .val (.int p3), .val (.int p4), .val (.int p5), .val (.int (3 : Int32)), .val (.double d0), .second, .val (.double d1), .second, .val (.double d2), .second, .val (.double df), .second, .val (.double sc), .second, .val (.ref b274), .unset] [])) (B := T279.setTop (mkF m 68 #[.val (.int p0), .val (.int p1), .val (.int p2), .val (.int p3), .val (.int p4), .val (.int p5), .val (.int (3 : Int32)), .val (.double d0), .second, .val (.double d1), .second, .val (.double d2), .second, .val (.double df), .second, .val (.double sc), .second, .val (.ref b274), .unset] [(.int (1 : Int32)), (.int (3 : Int32)), (.int (1 : Int32)), (.ref b274)])) (fun t k => ?_) ?_
    · show Steps p.tables e below (T279.setTop (mkF m 62 #[.val (.int p0), .val (.int p1), .val (.int p2), .val (.int p3), .val (.int p4), .val (.int p5), .val (.int (3 : Int32)), .val (.double d0), .second, .val (.double d1), .second, .val (.double d2), .second, .val (.double df), .second, .val (.double sc), .second, .val (.ref b274), .unset] [])) t
      refine XS.aload X279.here hx rfl (hb hby at_62) rfl rfl ?_
      show Steps p.tables e below (T279.setTop (mkF m 64 #[.val (.int p0), .val (.int p1), .val (.int p2), .val (.int p3), .val (.int p4), .val (.int p5), .val (.int (3 : Int32)), .val (.double d0), .second, .val (.double d1), .second, .val (.double d2), .second, .val (.double df), .second, .val (.double sc), .second, .val (.ref b274), .unset] [(.ref b274)])) t
      refine XS.iconst X279.here hx rfl (hb hby at_64) ?_
      show Steps p.tables e below (T279.setTop (mkF m 65 #[.val (.int p0), .val (.int p1), .val (.int p2), .val (.int p3), .val (.int p4), .val (.int p5), .val (.int (3 : Int32)), .val (.double d0), .second, .val (.double d1), .second, .val (.double d2), .second, .val (.double df), .second, .val (.double sc), .second, .val (.ref b274), .unset] [(.int (1 : Int32)), (.ref b274)])) t
      refine XS.iload X279.here hx rfl (hb hby at_65) rfl ?_
      show Steps p.tables e below (T279.setTop (mkF m 67 #[.val (.int p0), .val (.int p1), .val (.int p2), .val (.int p3), .val (.int p4), .val (.int p5), .val (.int (3 : Int32)), .val (.double d0), .second, .val (.double d1), .second, .val (.double d2), .second, .val (.double df), .second, .val (.double sc), .second, .val (.ref b274), .unset] [(.int (3 : Int32)), (.int (1 : Int32)), (.ref b274)])) t
      refine XS.iconst X279.here hx rfl (hb hby at_67) ?_
      exact k
    have hc282 : (1 : Int32) < (3 : Int32) := by decide
    refine OwnGo.of (A := T279.setTop (mkF m 68 #[.val (.int p0), .val (.int p1), .val (.int p2), .val (.int p3), .val (.int p4), .val (.int p5), .val (.int (3 : Int32)), .val (.double d0), .second, .val (.double d1), .second, .val (.double d2), .second, .val (.double df), .second, .val (.double sc), .second, .val (.ref b274), .unset] [(.int (1 : Int32)), (.int (3 : Int32)), (.int (1 : Int32)), (.ref b274)])) (B := T279.setTop (mkF m 78 #[.val (.int p0), .val (.int p1), .val (.int p2), .val (.int p3), .val (.int p4), .val (.int p5), .val (.int (3 : Int32)), .val (.double d0), .second, .val (.double d1), .second, .val (.double d2), .second, .val (.double df), .second, .val (.double sc), .second, .val (.ref b274), .unset] [(.double d1), (.int (1 : Int32)), (.ref b274)])) (fun t k => ?_) ?_
    · show Steps p.tables e below (T279.setTop (mkF m 68 #[.val (.int p0), .val (.int p1), .val (.int p2), .val (.int p3), .val (.int p4), .val (.int p5), .val (.int (3 : Int32)), .val (.double d0), .second, .val (.double d1), .second, .val (.double d2), .second, .val (.double df), .second, .val (.double sc), .second, .val (.ref b274), .unset] [(.int (1 : Int32)), (.int (3 : Int32)), (.int (1 : Int32)), (.ref b274)])) t
      refine XS.icmpNo X279.here hx rfl (hb hby at_68) rfl (tlt hc282).2.2.2 ?_
      show Steps p.tables e below (T279.setTop (mkF m 71 #[.val (.int p0), .val (.int p1), .val (.int p2), .val (.int p3), .val (.int p4), .val (.int p5), .val (.int (3 : Int32)), .val (.double d0), .second, .val (.double d1), .second, .val (.double d2), .second, .val (.double df), .second, .val (.double sc), .second, .val (.ref b274), .unset] [(.int (1 : Int32)), (.ref b274)])) t
      refine XS.dload X279.here hx rfl (hb hby at_71) rfl ?_
      show Steps p.tables e below (T279.setTop (mkF m 73 #[.val (.int p0), .val (.int p1), .val (.int p2), .val (.int p3), .val (.int p4), .val (.int p5), .val (.int (3 : Int32)), .val (.double d0), .second, .val (.double d1), .second, .val (.double d2), .second, .val (.double df), .second, .val (.double sc), .second, .val (.ref b274), .unset] [(.double d1), (.int (1 : Int32)), (.ref b274)])) t
      refine XS.goto X279.here hx rfl (pc0 := 73) (pc' := 78) rfl (hb hby at_73) (by decide) (by decide) ?_
      exact k
    have cq283 := f281
    obtain ⟨clq283, Arq283, qq283, Sq283, Nq283, Hq283, Gq283⟩ := cq283
    obtain ⟨T284, h284, X284, e284, W284, st284⟩ := stD X279 hx hZ e279 Arq283 (j := (1 : Int32)) (inb_of Sq283 ⟨by decide, by decide⟩) (g := (mkF m 78 #[.val (.int p0), .val (.int p1), .val (.int p2), .val (.int p3), .val (.int p4), .val (.int p5), .val (.int (3 : Int32)), .val (.double d0), .second, .val (.double d1), .second, .val (.double d2), .second, .val (.double df), .second, .val (.double sc), .second, .val (.ref b274), .unset] [(.double d1), (.int (1 : Int32)), (.ref b274)])) rfl rfl (hb hby at_78)
    refine OwnGo.of st284 ?_
    have N284 := Fr.snoc X284 N279 g_b274
    have f285 : n0 ≤ h284.size := Nat.le_trans f280 (Keep.of_wr W284).1
    have f286 : Arv Z h284 b274 k274 .double (4 : Int32) [(.double d0), (.double d1), (.double (0 : UInt64)), (.double (0 : UInt64))] (.double (0 : UInt64)) := Arv.set Arq283 qq283 Sq283 Nq283 Hq283 Gq283 rfl W284 1 rfl (Nat.le_of_ble_eq_true rfl)
    show OwnGo p.tables e below _ (T284.setTop (mkF m 79 #[.val (.int p0), .val (.int p1), .val (.int p2), .val (.int p3), .val (.int p4), .val (.int p5), .val (.int (3 : Int32)), .val (.double d0), .second, .val (.double d1), .second, .val (.double d2), .second, .val (.double df), .second, .val (.double sc), .second, .val (.ref b274), .unset] []))
    refine OwnGo.of (A := T284.setTop (mkF m 79 #[.val (.int p0), .val (.int p1), .val (.int p2), .val (.int p3), .val (.int p4), .val (.int p5), .val (.int (3 : Int32)), .val (.double d0), .second, .val (.double d1), .second, .val (.double d2), .second, .val (.double df), .second, .val (.double sc), .second, .val (.ref b274), .unset] [])) (B := T284.setTop (mkF m 85 #[.val (.int p0), .val (.int p1), .val (.int p2), .val (.int p3), .val (.int p4), .val (.int p5), .val (.int (3 : Int32)), .val (.double d0), .second, .val (.double d1), .second, .val (.double d2), .second, .val (.double df), .second, .val (.double sc), .second, .val (.ref b274), .unset] [(.int (2 : Int32)), (.int (3 : Int32)), (.int (2 : Int32)), (.ref b274)])) (fun t k => ?_) ?_
    · show Steps p.tables e below (T284.setTop (mkF m 79 #[.val (.int p0), .val (.int p1), .val (.int p2), .val (.int p3), .val (.int p4), .val (.int p5), .val (.int (3 : Int32)), .val (.double d0), .second, .val (.double d1), .second, .val (.double d2), .second, .val (.double df), .second, .val (.double sc), .second, .val (.ref b274), .unset] [])) t
      refine XS.aload X284.here hx rfl (hb hby at_79) rfl rfl ?_
      show Steps p.tables e below (T284.setTop (mkF m 81 #[.val (.int p0), .val (.int p1), .val (.int p2), .val (.int p3), .val (.int p4), .val (.int p5), .val (.int (3 : Int32)), .val (.double d0), .second, .val (.double d1), .second, .val (.double d2), .second, .val (.double df), .second, .val (.double sc), .second, .val (.ref b274), .unset] [(.ref b274)])) t
      refine XS.iconst X284.here hx rfl (hb hby at_81) ?_
      show Steps p.tables e below (T284.setTop (mkF m 82 #[.val (.int p0), .val (.int p1), .val (.int p2), .val (.int p3), .val (.int p4), .val (.int p5), .val (.int (3 : Int32)), .val (.double d0), .second, .val (.double d1), .second, .val (.double d2), .second, .val (.double df), .second, .val (.double sc), .second, .val (.ref b274), .unset] [(.int (2 : Int32)), (.ref b274)])) t
      refine XS.iload X284.here hx rfl (hb hby at_82) rfl ?_
      show Steps p.tables e below (T284.setTop (mkF m 84 #[.val (.int p0), .val (.int p1), .val (.int p2), .val (.int p3), .val (.int p4), .val (.int p5), .val (.int (3 : Int32)), .val (.double d0), .second, .val (.double d1), .second, .val (.double d2), .second, .val (.double df), .second, .val (.double sc), .second, .val (.ref b274), .unset] [(.int (3 : Int32)), (.int (2 : Int32)), (.ref b274)])) t
      refine XS.iconst X284.here hx rfl (hb hby at_84) ?_
      exact k
    have hc287 : (2 : Int32) < (3 : Int32) := by decide
    refine OwnGo.of (A := T284.setTop (mkF m 85 #[.val (.int p0), .val (.int p1), .val (.int p2), .val (.int p3), .val (.int p4), .val (.int p5), .val (.int (3 : Int32)), .val (.double d0), .second, .val (.double d1), .second, .val (.double d2), .second, .val (.double df), .second, .val (.double sc), .second, .val (.ref b274), .unset] [(.int (2 : Int32)), (.int (3 : Int32)), (.int (2 : Int32)), (.ref b274)])) (B := T284.setTop (mkF m 95 #[.val (.int p0), .val (.int p1), .val (.int p2), .val (.int p3), .val (.int p4), .val (.int p5), .val (.int (3 : Int32)), .val (.double d0), .second, .val (.double d1), .second, .val (.double d2), .second, .val (.double df), .second, .val (.double sc), .second, .val (.ref b274), .unset] [(.double d2), (.int (2 : Int32)), (.ref b274)])) (fun t k => ?_) ?_
    · show Steps p.tables e below (T284.setTop (mkF m 85 #[.val (.int p0), .val (.int p1), .val (.int p2), .val (.int p3), .val (.int p4), .val (.int p5), .val (.int (3 : Int32)), .val (.double d0), .second, .val (.double d1), .second, .val (.double d2), .second, .val (.double df), .second, .val (.double sc), .second, .val (.ref b274), .unset] [(.int (2 : Int32)), (.int (3 : Int32)), (.int (2 : Int32)), (.ref b274)])) t
      refine XS.icmpNo X284.here hx rfl (hb hby at_85) rfl (tlt hc287).2.2.2 ?_
      show Steps p.tables e below (T284.setTop (mkF m 88 #[.val (.int p0), .val (.int p1), .val (.int p2), .val (.int p3), .val (.int p4), .val (.int p5), .val (.int (3 : Int32)), .val (.double d0), .second, .val (.double d1), .second, .val (.double d2), .second, .val (.double df), .second, .val (.double sc), .second, .val (.ref b274), .unset] [(.int (2 : Int32)), (.ref b274)])) t
      refine XS.dload X284.here hx rfl (hb hby at_88) rfl ?_
      show Steps p.tables e below (T284.setTop (mkF m 90 #[.val (.int p0), .val (.int p1), .val (.int p2), .val (.int p3), .val (.int p4), .val (.int p5), .val (.int (3 : Int32)), .val (.double d0), .second, .val (.double d1), .second, .val (.double d2), .second, .val (.double df), .second, .val (.double sc), .second, .val (.ref b274), .unset] [(.double d2), (.int (2 : Int32)), (.ref b274)])) t
      refine XS.goto X284.here hx rfl (pc0 := 90) (pc' := 95) rfl (hb hby at_90) (by decide) (by decide) ?_
      exact k
    have cq288 := f286
    obtain ⟨clq288, Arq288, qq288, Sq288, Nq288, Hq288, Gq288⟩ := cq288
    obtain ⟨T289, h289, X289, e289, W289, st289⟩ := stD X284 hx hZ e284 Arq288 (j := (2 : Int32)) (inb_of Sq288 ⟨by decide, by decide⟩) (g := (mkF m 95 #[.val (.int p0), .val (.int p1), .val (.int p2), .val (.int p3), .val (.int p4), .val (.int p5), .val (.int (3 : Int32)), .val (.double d0), .second, .val (.double d1), .second, .val (.double d2), .second, .val (.double df), .second, .val (.double sc), .second, .val (.ref b274), .unset] [(.double d2), (.int (2 : Int32)), (.ref b274)])) rfl rfl (hb hby at_95)
    refine OwnGo.of st289 ?_
    have N289 := Fr.snoc X289 N284 g_b274
    have f290 : n0 ≤ h289.size := Nat.le_trans f285 (Keep.of_wr W289).1
    have f291 : Arv Z h289 b274 k274 .double (4 : Int32) [(.double d0), (.double d1), (.double d2), (.double (0 : UInt64))] (.double (0 : UInt64)) := Arv.set Arq288 qq288 Sq288 Nq288 Hq288 Gq288 rfl W289 2 rfl (Nat.le_of_ble_eq_true rfl)
    show OwnGo p.tables e below _ (T289.setTop (mkF m 96 #[.val (.int p0), .val (.int p1), .val (.int p2), .val (.int p3), .val (.int p4), .val (.int p5), .val (.int (3 : Int32)), .val (.double d0), .second, .val (.double d1), .second, .val (.double d2), .second, .val (.double df), .second, .val (.double sc), .second, .val (.ref b274), .unset] []))
    refine OwnGo.of (A := T289.setTop (mkF m 96 #[.val (.int p0), .val (.int p1), .val (.int p2), .val (.int p3), .val (.int p4), .val (.int p5), .val (.int (3 : Int32)), .val (.double d0), .second, .val (.double d1), .second, .val (.double d2), .second, .val (.double df), .second, .val (.double sc), .second, .val (.ref b274), .unset] [])) (B := T289.setTop (mkF m 101 #[.val (.int p0), .val (.int p1), .val (.int p2), .val (.int p3), .val (.int p4), .val (.int p5), .val (.int (3 : Int32)), .val (.double d0), .second, .val (.double d1), .second, .val (.double d2), .second, .val (.double df), .second, .val (.double sc), .second, .val (.ref b274), .unset] [(.double df), (.int (3 : Int32)), (.ref b274)])) (fun t k => ?_) ?_
    · show Steps p.tables e below (T289.setTop (mkF m 96 #[.val (.int p0), .val (.int p1), .val (.int p2), .val (.int p3), .val (.int p4), .val (.int p5), .val (.int (3 : Int32)), .val (.double d0), .second, .val (.double d1), .second, .val (.double d2), .second, .val (.double df), .second, .val (.double sc), .second, .val (.ref b274), .unset] [])) t
      refine XS.aload X289.here hx rfl (hb hby at_96) rfl rfl ?_
      show Steps p.tables e below (T289.setTop (mkF m 98 #[.val (.int p0), .val (.int p1), .val (.int p2), .val (.int p3), .val (.int p4), .val (.int p5), .val (.int (3 : Int32)), .val (.double d0), .second, .val (.double d1), .second, .val (.double d2), .second, .val (.double df), .second, .val (.double sc), .second, .val (.ref b274), .unset] [(.ref b274)])) t
      refine XS.iconst X289.here hx rfl (hb hby at_98) ?_
      show Steps p.tables e below (T289.setTop (mkF m 99 #[.val (.int p0), .val (.int p1), .val (.int p2), .val (.int p3), .val (.int p4), .val (.int p5), .val (.int (3 : Int32)), .val (.double d0), .second, .val (.double d1), .second, .val (.double d2), .second, .val (.double df), .second, .val (.double sc), .second, .val (.ref b274), .unset] [(.int (3 : Int32)), (.ref b274)])) t
      refine XS.dload X289.here hx rfl (hb hby at_99) rfl ?_
      exact k
    have cq292 := f291
    obtain ⟨clq292, Arq292, qq292, Sq292, Nq292, Hq292, Gq292⟩ := cq292
    obtain ⟨T293, h293, X293, e293, W293, st293⟩ := stD X289 hx hZ e289 Arq292 (j := (3 : Int32)) (inb_of Sq292 ⟨by decide, by decide⟩) (g := (mkF m 101 #[.val (.int p0), .val (.int p1), .val (.int p2), .val (.int p3), .val (.int p4), .val (.int p5), .val (.int (3 : Int32)), .val (.double d0), .second, .val (.double d1), .second, .val (.double d2), .second, .val (.double df), .second, .val (.double sc), .second, .val (.ref b274), .unset] [(.double df), (.int (3 : Int32)), (.ref b274)])) rfl rfl (hb hby at_101)
    refine OwnGo.of st293 ?_
    have N293 := Fr.snoc X293 N289 g_b274
    have f294 : n0 ≤ h293.size := Nat.le_trans f290 (Keep.of_wr W293).1
    have f295 : Arv Z h293 b274 k274 .double (4 : Int32) [(.double d0), (.double d1), (.double d2), (.double df)] (.double (0 : UInt64)) := Arv.set Arq292 qq292 Sq292 Nq292 Hq292 Gq292 rfl W293 3 rfl (Nat.le_of_ble_eq_true rfl)
    show OwnGo p.tables e below _ (T293.setTop (mkF m 102 #[.val (.int p0), .val (.int p1), .val (.int p2), .val (.int p3), .val (.int p4), .val (.int p5), .val (.int (3 : Int32)), .val (.double d0), .second, .val (.double d1), .second, .val (.double d2), .second, .val (.double df), .second, .val (.double sc), .second, .val (.ref b274), .unset] []))
    refine OwnGo.of (A := T293.setTop (mkF m 102 #[.val (.int p0), .val (.int p1), .val (.int p2), .val (.int p3), .val (.int p4), .val (.int p5), .val (.int (3 : Int32)), .val (.double d0), .second, .val (.double d1), .second, .val (.double d2), .second, .val (.double df), .second, .val (.double sc), .second, .val (.ref b274), .unset] [])) (B := T293.setTop (mkF m 103 #[.val (.int p0), .val (.int p1), .val (.int p2), .val (.int p3), .val (.int p4), .val (.int p5), .val (.int (3 : Int32)), .val (.double d0), .second, .val (.double d1), .second, .val (.double d2), .second, .val (.double df), .second, .val (.double sc), .second, .val (.ref b274), .unset] [(.int (4 : Int32))])) (fun t k => ?_) ?_
    · show Steps p.tables e below (T293.setTop (mkF m 102 #[.val (.int p0), .val (.int p1), .val (.int p2), .val (.int p3), .val (.int p4), .val (.int p5), .val (.int (3 : Int32)), .val (.double d0), .second, .val (.double d1), .second, .val (.double d2), .second, .val (.double df), .second, .val (.double sc), .second, .val (.ref b274), .unset] [])) t
      refine XS.iconst X293.here hx rfl (hb hby at_102) ?_
      exact k
    obtain ⟨T296, h296, k296, X296, e296, E296, A296, st296⟩ := newP X293 hx hZ (hw _ (List.mem_of_getElem? (i := 1) rfl)) e293 (g := (mkF m 103 #[.val (.int p0), .val (.int p1), .val (.int p2), .val (.int p3), .val (.int p4), .val (.int p5), .val (.int (3 : Int32)), .val (.double d0), .second, .val (.double d1), .second, .val (.double d2), .second, .val (.double df), .second, .val (.double sc), .second, .val (.ref b274), .unset] [(.int (4 : Int32))])) rfl (hb hby at_103) rfl (by decide) (cap := 4) (by decide) (by decide) (by decide) (by decide)
    obtain ⟨b296, g296⟩ : ∃ z, z = h293.size := ⟨_, rfl⟩
    rw [← g296] at A296 st296
    refine OwnGo.of st296 ?_
    have ne_b274_b296 : b274 ≠ b296 := Nat.ne_of_lt (Nat.lt_of_lt_of_le f295.lt (Nat.le_of_eq g296.symm))
    have g_b296 : n0 ≤ b296 := Nat.le_trans f294 (Nat.le_of_eq g296.symm)
    have f297 : n0 ≤ h296.size := Nat.le_trans f294 E296.1
    have f298 : Arv Z h296 b274 k274 .double (4 : Int32) [(.double d0), (.double d1), (.double d2), (.double df)] (.double (0 : UInt64)) := f295.ext E296
    have f299 : Arv Z h296 b296 k296 .double (4 : Int32) [(.double (0 : UInt64)), (.double (0 : UInt64)), (.double (0 : UInt64)), (.double (0 : UInt64))] (.double (0 : UInt64)) := (Arv.new A296 (by decide)).pad (pad_rep [] (.double (0 : UInt64)) 4)
    show OwnGo p.tables e below _ (T296.setTop (mkF m 105 #[.val (.int p0), .val (.int p1), .val (.int p2), .val (.int p3), .val (.int p4), .val (.int p5), .val (.int (3 : Int32)), .val (.double d0), .second, .val (.double d1), .second, .val (.double d2), .second, .val (.double df), .second, .val (.double sc), .second, .val (.ref b274), .unset] [(.ref b296)]))
    refine OwnGo.of (A := T296.setTop (mkF m 105 #[.val (.int p0), .val (.int p1), .val (.int p2), .val (.int p3), .val (.int p4), .val (.int p5), .val (.int (3 : Int32)), .val (.double d0), .second, .val (.double d1), .second, .val (.double d2), .second, .val (.double df), .second, .val (.double sc), .second, .val (.ref b274), .unset] [(.ref b296)])) (B := T296.setTop (mkF m 113 #[.val (.int p0), .val (.int p1), .val (.int p2), .val (.int p3), .val (.int p4), .val (.int p5), .val (.int (3 : Int32)), .val (.double d0), .second, .val (.double d1), .second, .val (.double d2), .second, .val (.double df), .second, .val (.double sc), .second, .val (.ref b274), .val (.ref b296)] [(.int (0 : Int32)), (.ref b274), (.int (0 : Int32)), (.ref b296)])) (fun t k => ?_) ?_
    · show Steps p.tables e below (T296.setTop (mkF m 105 #[.val (.int p0), .val (.int p1), .val (.int p2), .val (.int p3), .val (.int p4), .val (.int p5), .val (.int (3 : Int32)), .val (.double d0), .second, .val (.double d1), .second, .val (.double d2), .second, .val (.double df), .second, .val (.double sc), .second, .val (.ref b274), .unset] [(.ref b296)])) t
      refine XS.astore X296.here hx rfl (hb hby at_105) rfl rfl (l' := #[.val (.int p0), .val (.int p1), .val (.int p2), .val (.int p3), .val (.int p4), .val (.int p5), .val (.int (3 : Int32)), .val (.double d0), .second, .val (.double d1), .second, .val (.double d2), .second, .val (.double df), .second, .val (.double sc), .second, .val (.ref b274), .val (.ref b296)]) rfl ?_
      show Steps p.tables e below (T296.setTop (mkF m 107 #[.val (.int p0), .val (.int p1), .val (.int p2), .val (.int p3), .val (.int p4), .val (.int p5), .val (.int (3 : Int32)), .val (.double d0), .second, .val (.double d1), .second, .val (.double d2), .second, .val (.double df), .second, .val (.double sc), .second, .val (.ref b274), .val (.ref b296)] [])) t
      refine XS.aload X296.here hx rfl (hb hby at_107) rfl rfl ?_
      show Steps p.tables e below (T296.setTop (mkF m 109 #[.val (.int p0), .val (.int p1), .val (.int p2), .val (.int p3), .val (.int p4), .val (.int p5), .val (.int (3 : Int32)), .val (.double d0), .second, .val (.double d1), .second, .val (.double d2), .second, .val (.double df), .second, .val (.double sc), .second, .val (.ref b274), .val (.ref b296)] [(.ref b296)])) t
      refine XS.iconst X296.here hx rfl (hb hby at_109) ?_
      show Steps p.tables e below (T296.setTop (mkF m 110 #[.val (.int p0), .val (.int p1), .val (.int p2), .val (.int p3), .val (.int p4), .val (.int p5), .val (.int (3 : Int32)), .val (.double d0), .second, .val (.double d1), .second, .val (.double d2), .second, .val (.double df), .second, .val (.double sc), .second, .val (.ref b274), .val (.ref b296)] [(.int (0 : Int32)), (.ref b296)])) t
      refine XS.aload X296.here hx rfl (hb hby at_110) rfl rfl ?_
      show Steps p.tables e below (T296.setTop (mkF m 112 #[.val (.int p0), .val (.int p1), .val (.int p2), .val (.int p3), .val (.int p4), .val (.int p5), .val (.int (3 : Int32)), .val (.double d0), .second, .val (.double d1), .second, .val (.double d2), .second, .val (.double df), .second, .val (.double sc), .second, .val (.ref b274), .val (.ref b296)] [(.ref b274), (.int (0 : Int32)), (.ref b296)])) t
      refine XS.iconst X296.here hx rfl (hb hby at_112) ?_
      exact k
    have cq300 := f298
    obtain ⟨clq300, Arq300, qq300, Sq300, Nq300, Hq300, Gq300⟩ := cq300
    have hinq300 := inb_of (j := (0 : Int32)) Sq300 ⟨by decide, by decide⟩
    refine OwnGo.of (X296.daload hx (j := (0 : Int32)) (v := (.double d0)) (by rw [e296]; exact Arq300.1) (State.isArrayOf_alike hZ.alike Arq300.2.1) Arq300.2.2 hinq300 (Hq300.at hinq300 rfl) (g := (mkF m 113 #[.val (.int p0), .val (.int p1), .val (.int p2), .val (.int p3), .val (.int p4), .val (.int p5), .val (.int (3 : Int32)), .val (.double d0), .second, .val (.double d1), .second, .val (.double d2), .second, .val (.double df), .second, .val (.double sc), .second, .val (.ref b274), .val (.ref b296)] [(.int (0 : Int32)), (.ref b274), (.int (0 : Int32)), (.ref b296)])) rfl rfl (hb hby at_113)) ?_
    show OwnGo p.tables e below _ (T296.setTop (mkF m 114 #[.val (.int p0), .val (.int p1), .val (.int p2), .val (.int p3), .val (.int p4), .val (.int p5), .val (.int (3 : Int32)), .val (.double d0), .second, .val (.double d1), .second, .val (.double d2), .second, .val (.double df), .second, .val (.double sc), .second, .val (.ref b274), .val (.ref b296)] [(.double d0), (.int (0 : Int32)), (.ref b296)]))
    have cq301 := f299
    obtain ⟨clq301, Arq301, qq301, Sq301, Nq301, Hq301, Gq301⟩ := cq301
    obtain ⟨T302, h302, X302, e302, W302, st302⟩ := stD X296 hx hZ e296 Arq301 (j := (0 : Int32)) (inb_of Sq301 ⟨by decide, by decide⟩) (g := (mkF m 114 #[.val (.int p0), .val (.int p1), .val (.int p2), .val (.int p3), .val (.int p4), .val (.int p5), .val (.int (3 : Int32)), .val (.double d0), .second, .val (.double d1), .second, .val (.double d2), .second, .val (.double df), .second, .val (.double sc), .second, .val (.ref b274), .val (.ref b296)] [(.double d0), (.int (0 : Int32)), (.ref b296)])) rfl rfl (hb hby at_114)
    refine OwnGo.of st302 ?_
    have N302 := Fr.snoc X302 N293 g_b296
    have f303 : n0 ≤ h302.size := Nat.le_trans f297 (Keep.of_wr W302).1
    have f304 : Arv Z h302 b274 k274 .double (4 : Int32) [(.double d0), (.double d1), (.double d2), (.double df)] (.double (0 : UInt64)) := f298.other W302 ne_b274_b296
    have f305 : Arv Z h302 b296 k296 .double (4 : Int32) [(.double d0), (.double (0 : UInt64)), (.double (0 : UInt64)), (.double (0 : UInt64))] (.double (0 : UInt64)) := Arv.set Arq301 qq301 Sq301 Nq301 Hq301 Gq301 rfl W302 0 rfl (Nat.le_of_ble_eq_true rfl)
    show OwnGo p.tables e below _ (T302.setTop (mkF m 115 #[.val (.int p0), .val (.int p1), .val (.int p2), .val (.int p3), .val (.int p4), .val (.int p5), .val (.int (3 : Int32)), .val (.double d0), .second, .val (.double d1), .second, .val (.double d2), .second, .val (.double df), .second, .val (.double sc), .second, .val (.ref b274), .val (.ref b296)] []))
    refine OwnGo.of (A := T302.setTop (mkF m 115 #[.val (.int p0), .val (.int p1), .val (.int p2), .val (.int p3), .val (.int p4), .val (.int p5), .val (.int (3 : Int32)), .val (.double d0), .second, .val (.double d1), .second, .val (.double d2), .second, .val (.double df), .second, .val (.double sc), .second, .val (.ref b274), .val (.ref b296)] [])) (B := T302.setTop (mkF m 121 #[.val (.int p0), .val (.int p1), .val (.int p2), .val (.int p3), .val (.int p4), .val (.int p5), .val (.int (3 : Int32)), .val (.double d0), .second, .val (.double d1), .second, .val (.double d2), .second, .val (.double df), .second, .val (.double sc), .second, .val (.ref b274), .val (.ref b296)] [(.int (1 : Int32)), (.ref b274), (.int (1 : Int32)), (.ref b296)])) (fun t k => ?_) ?_
    · show Steps p.tables e below (T302.setTop (mkF m 115 #[.val (.int p0), .val (.int p1), .val (.int p2), .val (.int p3), .val (.int p4), .val (.int p5), .val (.int (3 : Int32)), .val (.double d0), .second, .val (.double d1), .second, .val (.double d2), .second, .val (.double df), .second, .val (.double sc), .second, .val (.ref b274), .val (.ref b296)] [])) t
      refine XS.aload X302.here hx rfl (hb hby at_115) rfl rfl ?_
      show Steps p.tables e below (T302.setTop (mkF m 117 #[.val (.int p0), .val (.int p1), .val (.int p2), .val (.int p3), .val (.int p4), .val (.int p5), .val (.int (3 : Int32)), .val (.double d0), .second, .val (.double d1), .second, .val (.double d2), .second, .val (.double df), .second, .val (.double sc), .second, .val (.ref b274), .val (.ref b296)] [(.ref b296)])) t
      refine XS.iconst X302.here hx rfl (hb hby at_117) ?_
      show Steps p.tables e below (T302.setTop (mkF m 118 #[.val (.int p0), .val (.int p1), .val (.int p2), .val (.int p3), .val (.int p4), .val (.int p5), .val (.int (3 : Int32)), .val (.double d0), .second, .val (.double d1), .second, .val (.double d2), .second, .val (.double df), .second, .val (.double sc), .second, .val (.ref b274), .val (.ref b296)] [(.int (1 : Int32)), (.ref b296)])) t
      refine XS.aload X302.here hx rfl (hb hby at_118) rfl rfl ?_
      show Steps p.tables e below (T302.setTop (mkF m 120 #[.val (.int p0), .val (.int p1), .val (.int p2), .val (.int p3), .val (.int p4), .val (.int p5), .val (.int (3 : Int32)), .val (.double d0), .second, .val (.double d1), .second, .val (.double d2), .second, .val (.double df), .second, .val (.double sc), .second, .val (.ref b274), .val (.ref b296)] [(.ref b274), (.int (1 : Int32)), (.ref b296)])) t
      refine XS.iconst X302.here hx rfl (hb hby at_120) ?_
      exact k
    have cq306 := f304
    obtain ⟨clq306, Arq306, qq306, Sq306, Nq306, Hq306, Gq306⟩ := cq306
    have hinq306 := inb_of (j := (1 : Int32)) Sq306 ⟨by decide, by decide⟩
    refine OwnGo.of (X302.daload hx (j := (1 : Int32)) (v := (.double d1)) (by rw [e302]; exact Arq306.1) (State.isArrayOf_alike hZ.alike Arq306.2.1) Arq306.2.2 hinq306 (Hq306.at hinq306 rfl) (g := (mkF m 121 #[.val (.int p0), .val (.int p1), .val (.int p2), .val (.int p3), .val (.int p4), .val (.int p5), .val (.int (3 : Int32)), .val (.double d0), .second, .val (.double d1), .second, .val (.double d2), .second, .val (.double df), .second, .val (.double sc), .second, .val (.ref b274), .val (.ref b296)] [(.int (1 : Int32)), (.ref b274), (.int (1 : Int32)), (.ref b296)])) rfl rfl (hb hby at_121)) ?_
    show OwnGo p.tables e below _ (T302.setTop (mkF m 122 #[.val (.int p0), .val (.int p1), .val (.int p2), .val (.int p3), .val (.int p4), .val (.int p5), .val (.int (3 : Int32)), .val (.double d0), .second, .val (.double d1), .second, .val (.double d2), .second, .val (.double df), .second, .val (.double sc), .second, .val (.ref b274), .val (.ref b296)] [(.double d1), (.int (1 : Int32)), (.ref b296)]))
    have cq307 := f305
    obtain ⟨clq307, Arq307, qq307, Sq307, Nq307, Hq307, Gq307⟩ := cq307
    obtain ⟨T308, h308, X308, e308, W308, st308⟩ := stD X302 hx hZ e302 Arq307 (j := (1 : Int32)) (inb_of Sq307 ⟨by decide, by decide⟩) (g := (mkF m 122 #[.val (.int p0), .val (.int p1), .val (.int p2), .val (.int p3), .val (.int p4), .val (.int p5), .val (.int (3 : Int32)), .val (.double d0), .second, .val (.double d1), .second, .val (.double d2), .second, .val (.double df), .second, .val (.double sc), .second, .val (.ref b274), .val (.ref b296)] [(.double d1), (.int (1 : Int32)), (.ref b296)])) rfl rfl (hb hby at_122)
    refine OwnGo.of st308 ?_
    have N308 := Fr.snoc X308 N302 g_b296
    have f309 : n0 ≤ h308.size := Nat.le_trans f303 (Keep.of_wr W308).1
    have f310 : Arv Z h308 b274 k274 .double (4 : Int32) [(.double d0), (.double d1), (.double d2), (.double df)] (.double (0 : UInt64)) := f304.other W308 ne_b274_b296
    have f311 : Arv Z h308 b296 k296 .double (4 : Int32) [(.double d0), (.double d1), (.double (0 : UInt64)), (.double (0 : UInt64))] (.double (0 : UInt64)) := Arv.set Arq307 qq307 Sq307 Nq307 Hq307 Gq307 rfl W308 1 rfl (Nat.le_of_ble_eq_true rfl)
    show OwnGo p.tables e below _ (T308.setTop (mkF m 123 #[.val (.int p0), .val (.int p1), .val (.int p2), .val (.int p3), .val (.int p4), .val (.int p5), .val (.int (3 : Int32)), .val (.double d0), .second, .val (.double d1), .second, .val (.double d2), .second, .val (.double df), .second, .val (.double sc), .second, .val (.ref b274), .val (.ref b296)] []))
    refine OwnGo.of (A := T308.setTop (mkF m 123 #[.val (.int p0), .val (.int p1), .val (.int p2), .val (.int p3), .val (.int p4), .val (.int p5), .val (.int (3 : Int32)), .val (.double d0), .second, .val (.double d1), .second, .val (.double d2), .second, .val (.double df), .second, .val (.double sc), .second, .val (.ref b274), .val (.ref b296)] [])) (B := T308.setTop (mkF m 129 #[.val (.int p0), .val (.int p1), .val (.int p2), .val (.int p3), .val (.int p4), .val (.int p5), .val (.int (3 : Int32)), .val (.double d0), .second, .val (.double d1), .second, .val (.double d2), .second, .val (.double df), .second, .val (.double sc), .second, .val (.ref b274), .val (.ref b296)] [(.int (2 : Int32)), (.ref b274), (.int (2 : Int32)), (.ref b296)])) (fun t k => ?_) ?_
    · show Steps p.tables e below (T308.setTop (mkF m 123 #[.val (.int p0), .val (.int p1), .val (.int p2), .val (.int p3), .val (.int p4), .val (.int p5), .val (.int (3 : Int32)), .val (.double d0), .second, .val (.double d1), .second, .val (.double d2), .second, .val (.double df), .second, .val (.double sc), .second, .val (.ref b274), .val (.ref b296)] [])) t
      refine XS.aload X308.here hx rfl (hb hby at_123) rfl rfl ?_
      show Steps p.tables e below (T308.setTop (mkF m 125 #[.val (.int p0), .val (.int p1), .val (.int p2), .val (.int p3), .val (.int p4), .val (.int p5), .val (.int (3 : Int32)), .val (.double d0), .second, .val (.double d1), .second, .val (.double d2), .second, .val (.double df), .second, .val (.double sc), .second, .val (.ref b274), .val (.ref b296)] [(.ref b296)])) t
      refine XS.iconst X308.here hx rfl (hb hby at_125) ?_
      show Steps p.tables e below (T308.setTop (mkF m 126 #[.val (.int p0), .val (.int p1), .val (.int p2), .val (.int p3), .val (.int p4), .val (.int p5), .val (.int (3 : Int32)), .val (.double d0), .second, .val (.double d1), .second, .val (.double d2), .second, .val (.double df), .second, .val (.double sc), .second, .val (.ref b274), .val (.ref b296)] [(.int (2 : Int32)), (.ref b296)])) t
      refine XS.aload X308.here hx rfl (hb hby at_126) rfl rfl ?_
      show Steps p.tables e below (T308.setTop (mkF m 128 #[.val (.int p0), .val (.int p1), .val (.int p2), .val (.int p3), .val (.int p4), .val (.int p5), .val (.int (3 : Int32)), .val (.double d0), .second, .val (.double d1), .second, .val (.double d2), .second, .val (.double df), .second, .val (.double sc), .second, .val (.ref b274), .val (.ref b296)] [(.ref b274), (.int (2 : Int32)), (.ref b296)])) t
      refine XS.iconst X308.here hx rfl (hb hby at_128) ?_
      exact k
    have cq312 := f310
    obtain ⟨clq312, Arq312, qq312, Sq312, Nq312, Hq312, Gq312⟩ := cq312
    have hinq312 := inb_of (j := (2 : Int32)) Sq312 ⟨by decide, by decide⟩
    refine OwnGo.of (X308.daload hx (j := (2 : Int32)) (v := (.double d2)) (by rw [e308]; exact Arq312.1) (State.isArrayOf_alike hZ.alike Arq312.2.1) Arq312.2.2 hinq312 (Hq312.at hinq312 rfl) (g := (mkF m 129 #[.val (.int p0), .val (.int p1), .val (.int p2), .val (.int p3), .val (.int p4), .val (.int p5), .val (.int (3 : Int32)), .val (.double d0), .second, .val (.double d1), .second, .val (.double d2), .second, .val (.double df), .second, .val (.double sc), .second, .val (.ref b274), .val (.ref b296)] [(.int (2 : Int32)), (.ref b274), (.int (2 : Int32)), (.ref b296)])) rfl rfl (hb hby at_129)) ?_
    show OwnGo p.tables e below _ (T308.setTop (mkF m 130 #[.val (.int p0), .val (.int p1), .val (.int p2), .val (.int p3), .val (.int p4), .val (.int p5), .val (.int (3 : Int32)), .val (.double d0), .second, .val (.double d1), .second, .val (.double d2), .second, .val (.double df), .second, .val (.double sc), .second, .val (.ref b274), .val (.ref b296)] [(.double d2), (.int (2 : Int32)), (.ref b296)]))
    have cq313 := f311
    obtain ⟨clq313, Arq313, qq313, Sq313, Nq313, Hq313, Gq313⟩ := cq313
    obtain ⟨T314, h314, X314, e314, W314, st314⟩ := stD X308 hx hZ e308 Arq313 (j := (2 : Int32)) (inb_of Sq313 ⟨by decide, by decide⟩) (g := (mkF m 130 #[.val (.int p0), .val (.int p1), .val (.int p2), .val (.int p3), .val (.int p4), .val (.int p5), .val (.int (3 : Int32)), .val (.double d0), .second, .val (.double d1), .second, .val (.double d2), .second, .val (.double df), .second, .val (.double sc), .second, .val (.ref b274), .val (.ref b296)] [(.double d2), (.int (2 : Int32)), (.ref b296)])) rfl rfl (hb hby at_130)
    refine OwnGo.of st314 ?_
    have N314 := Fr.snoc X314 N308 g_b296
    have f315 : n0 ≤ h314.size := Nat.le_trans f309 (Keep.of_wr W314).1
    have f316 : Arv Z h314 b274 k274 .double (4 : Int32) [(.double d0), (.double d1), (.double d2), (.double df)] (.double (0 : UInt64)) := f310.other W314 ne_b274_b296
    have f317 : Arv Z h314 b296 k296 .double (4 : Int32) [(.double d0), (.double d1), (.double d2), (.double (0 : UInt64))] (.double (0 : UInt64)) := Arv.set Arq313 qq313 Sq313 Nq313 Hq313 Gq313 rfl W314 2 rfl (Nat.le_of_ble_eq_true rfl)
    show OwnGo p.tables e below _ (T314.setTop (mkF m 131 #[.val (.int p0), .val (.int p1), .val (.int p2), .val (.int p3), .val (.int p4), .val (.int p5), .val (.int (3 : Int32)), .val (.double d0), .second, .val (.double d1), .second, .val (.double d2), .second, .val (.double df), .second, .val (.double sc), .second, .val (.ref b274), .val (.ref b296)] []))
    refine OwnGo.of (A := T314.setTop (mkF m 131 #[.val (.int p0), .val (.int p1), .val (.int p2), .val (.int p3), .val (.int p4), .val (.int p5), .val (.int (3 : Int32)), .val (.double d0), .second, .val (.double d1), .second, .val (.double d2), .second, .val (.double df), .second, .val (.double sc), .second, .val (.ref b274), .val (.ref b296)] [])) (B := T314.setTop (mkF m 137 #[.val (.int p0), .val (.int p1), .val (.int p2), .val (.int p3), .val (.int p4), .val (.int p5), .val (.int (3 : Int32)), .val (.double d0), .second, .val (.double d1), .second, .val (.double d2), .second, .val (.double df), .second, .val (.double sc), .second, .val (.ref b274), .val (.ref b296)] [(.int (3 : Int32)), (.ref b274), (.int (3 : Int32)), (.ref b296)])) (fun t k => ?_) ?_
    · show Steps p.tables e below (T314.setTop (mkF m 131 #[.val (.int p0), .val (.int p1), .val (.int p2), .val (.int p3), .val (.int p4), .val (.int p5), .val (.int (3 : Int32)), .val (.double d0), .second, .val (.double d1), .second, .val (.double d2), .second, .val (.double df), .second, .val (.double sc), .second, .val (.ref b274), .val (.ref b296)] [])) t
      refine XS.aload X314.here hx rfl (hb hby at_131) rfl rfl ?_
      show Steps p.tables e below (T314.setTop (mkF m 133 #[.val (.int p0), .val (.int p1), .val (.int p2), .val (.int p3), .val (.int p4), .val (.int p5), .val (.int (3 : Int32)), .val (.double d0), .second, .val (.double d1), .second, .val (.double d2), .second, .val (.double df), .second, .val (.double sc), .second, .val (.ref b274), .val (.ref b296)] [(.ref b296)])) t
      refine XS.iconst X314.here hx rfl (hb hby at_133) ?_
      show Steps p.tables e below (T314.setTop (mkF m 134 #[.val (.int p0), .val (.int p1), .val (.int p2), .val (.int p3), .val (.int p4), .val (.int p5), .val (.int (3 : Int32)), .val (.double d0), .second, .val (.double d1), .second, .val (.double d2), .second, .val (.double df), .second, .val (.double sc), .second, .val (.ref b274), .val (.ref b296)] [(.int (3 : Int32)), (.ref b296)])) t
      refine XS.aload X314.here hx rfl (hb hby at_134) rfl rfl ?_
      show Steps p.tables e below (T314.setTop (mkF m 136 #[.val (.int p0), .val (.int p1), .val (.int p2), .val (.int p3), .val (.int p4), .val (.int p5), .val (.int (3 : Int32)), .val (.double d0), .second, .val (.double d1), .second, .val (.double d2), .second, .val (.double df), .second, .val (.double sc), .second, .val (.ref b274), .val (.ref b296)] [(.ref b274), (.int (3 : Int32)), (.ref b296)])) t
      refine XS.iconst X314.here hx rfl (hb hby at_136) ?_
      exact k
    have cq318 := f316
    obtain ⟨clq318, Arq318, qq318, Sq318, Nq318, Hq318, Gq318⟩ := cq318
    have hinq318 := inb_of (j := (3 : Int32)) Sq318 ⟨by decide, by decide⟩
    refine OwnGo.of (X314.daload hx (j := (3 : Int32)) (v := (.double df)) (by rw [e314]; exact Arq318.1) (State.isArrayOf_alike hZ.alike Arq318.2.1) Arq318.2.2 hinq318 (Hq318.at hinq318 rfl) (g := (mkF m 137 #[.val (.int p0), .val (.int p1), .val (.int p2), .val (.int p3), .val (.int p4), .val (.int p5), .val (.int (3 : Int32)), .val (.double d0), .second, .val (.double d1), .second, .val (.double d2), .second, .val (.double df), .second, .val (.double sc), .second, .val (.ref b274), .val (.ref b296)] [(.int (3 : Int32)), (.ref b274), (.int (3 : Int32)), (.ref b296)])) rfl rfl (hb hby at_137)) ?_
    show OwnGo p.tables e below _ (T314.setTop (mkF m 138 #[.val (.int p0), .val (.int p1), .val (.int p2), .val (.int p3), .val (.int p4), .val (.int p5), .val (.int (3 : Int32)), .val (.double d0), .second, .val (.double d1), .second, .val (.double d2), .second, .val (.double df), .second, .val (.double sc), .second, .val (.ref b274), .val (.ref b296)] [(.double df), (.int (3 : Int32)), (.ref b296)]))
    have cq319 := f317
    obtain ⟨clq319, Arq319, qq319, Sq319, Nq319, Hq319, Gq319⟩ := cq319
    obtain ⟨T320, h320, X320, e320, W320, st320⟩ := stD X314 hx hZ e314 Arq319 (j := (3 : Int32)) (inb_of Sq319 ⟨by decide, by decide⟩) (g := (mkF m 138 #[.val (.int p0), .val (.int p1), .val (.int p2), .val (.int p3), .val (.int p4), .val (.int p5), .val (.int (3 : Int32)), .val (.double d0), .second, .val (.double d1), .second, .val (.double d2), .second, .val (.double df), .second, .val (.double sc), .second, .val (.ref b274), .val (.ref b296)] [(.double df), (.int (3 : Int32)), (.ref b296)])) rfl rfl (hb hby at_138)
    refine OwnGo.of st320 ?_
    have N320 := Fr.snoc X320 N314 g_b296
    have f321 : n0 ≤ h320.size := Nat.le_trans f315 (Keep.of_wr W320).1
    have f322 : Arv Z h320 b274 k274 .double (4 : Int32) [(.double d0), (.double d1), (.double d2), (.double df)] (.double (0 : UInt64)) := f316.other W320 ne_b274_b296
    have f323 : Arv Z h320 b296 k296 .double (4 : Int32) [(.double d0), (.double d1), (.double d2), (.double df)] (.double (0 : UInt64)) := Arv.set Arq319 qq319 Sq319 Nq319 Hq319 Gq319 rfl W320 3 rfl (Nat.le_of_ble_eq_true rfl)
    show OwnGo p.tables e below _ (T320.setTop (mkF m 139 #[.val (.int p0), .val (.int p1), .val (.int p2), .val (.int p3), .val (.int p4), .val (.int p5), .val (.int (3 : Int32)), .val (.double d0), .second, .val (.double d1), .second, .val (.double d2), .second, .val (.double df), .second, .val (.double sc), .second, .val (.ref b274), .val (.ref b296)] []))
    refine OwnGo.of (A := T320.setTop (mkF m 139 #[.val (.int p0), .val (.int p1), .val (.int p2), .val (.int p3), .val (.int p4), .val (.int p5), .val (.int (3 : Int32)), .val (.double d0), .second, .val (.double d1), .second, .val (.double d2), .second, .val (.double df), .second, .val (.double sc), .second, .val (.ref b274), .val (.ref b296)] [])) (B := T320.setTop (mkF m 141 #[.val (.int p0), .val (.int p1), .val (.int p2), .val (.int p3), .val (.int p4), .val (.int p5), .val (.int (3 : Int32)), .val (.double d0), .second, .val (.double d1), .second, .val (.double d2), .second, .val (.double df), .second, .val (.double sc), .second, .val (.ref b274), .val (.ref b296)] [(.int (3 : Int32))])) (fun t k => ?_) ?_
    · show Steps p.tables e below (T320.setTop (mkF m 139 #[.val (.int p0), .val (.int p1), .val (.int p2), .val (.int p3), .val (.int p4), .val (.int p5), .val (.int (3 : Int32)), .val (.double d0), .second, .val (.double d1), .second, .val (.double d2), .second, .val (.double df), .second, .val (.double sc), .second, .val (.ref b274), .val (.ref b296)] [])) t
      refine XS.iload X320.here hx rfl (hb hby at_139) rfl ?_
      exact k
    have hc324 : ¬ ((3 : Int32) = (0 : Int32)) := by decide
    refine OwnGo.of (A := T320.setTop (mkF m 141 #[.val (.int p0), .val (.int p1), .val (.int p2), .val (.int p3), .val (.int p4), .val (.int p5), .val (.int (3 : Int32)), .val (.double d0), .second, .val (.double d1), .second, .val (.double d2), .second, .val (.double df), .second, .val (.double sc), .second, .val (.ref b274), .val (.ref b296)] [(.int (3 : Int32))])) (B := T320.setTop (mkF m 156 #[.val (.int p0), .val (.int p1), .val (.int p2), .val (.int p3), .val (.int p4), .val (.int p5), .val (.int (3 : Int32)), .val (.double d0), .second, .val (.double d1), .second, .val (.double d2), .second, .val (.double df), .second, .val (.double sc), .second, .val (.ref b274), .val (.ref b296)] [(.int (1 : Int32)), (.int (3 : Int32))])) (fun t k => ?_) ?_
    · show Steps p.tables e below (T320.setTop (mkF m 141 #[.val (.int p0), .val (.int p1), .val (.int p2), .val (.int p3), .val (.int p4), .val (.int p5), .val (.int (3 : Int32)), .val (.double d0), .second, .val (.double d1), .second, .val (.double d2), .second, .val (.double df), .second, .val (.double sc), .second, .val (.ref b274), .val (.ref b296)] [(.int (3 : Int32))])) t
      refine XS.ifYes X320.here hx rfl (pc0 := 141) (pc' := 153) rfl (hb hby at_141) rfl ((if0 _ _).trans (feq hc324).2) (by decide) (by decide) ?_
      show Steps p.tables e below (T320.setTop (mkF m 153 #[.val (.int p0), .val (.int p1), .val (.int p2), .val (.int p3), .val (.int p4), .val (.int p5), .val (.int (3 : Int32)), .val (.double d0), .second, .val (.double d1), .second, .val (.double d2), .second, .val (.double df), .second, .val (.double sc), .second, .val (.ref b274), .val (.ref b296)] [])) t
      refine XS.iload X320.here hx rfl (hb hby at_153) rfl ?_
      show Steps p.tables e below (T320.setTop (mkF m 155 #[.val (.int p0), .val (.int p1), .val (.int p2), .val (.int p3), .val (.int p4), .val (.int p5), .val (.int (3 : Int32)), .val (.double d0), .second, .val (.double d1), .second, .val (.double d2), .second, .val (.double df), .second, .val (.double sc), .second, .val (.ref b274), .val (.ref b296)] [(.int (3 : Int32))])) t
      refine XS.iconst X320.here hx rfl (hb hby at_155) ?_
      exact k
    have hc325 : ¬ ((3 : Int32) = (1 : Int32)) := by decide
    refine OwnGo.of (A := T320.setTop (mkF m 156 #[.val (.int p0), .val (.int p1), .val (.int p2), .val (.int p3), .val (.int p4), .val (.int p5), .val (.int (3 : Int32)), .val (.double d0), .second, .val (.double d1), .second, .val (.double d2), .second, .val (.double df), .second, .val (.double sc), .second, .val (.ref b274), .val (.ref b296)] [(.int (1 : Int32)), (.int (3 : Int32))])) (B := T320.setTop (mkF m 194 #[.val (.int p0), .val (.int p1), .val (.int p2), .val (.int p3), .val (.int p4), .val (.int p5), .val (.int (3 : Int32)), .val (.double d0), .second, .val (.double d1), .second, .val (.double d2), .second, .val (.double df), .second, .val (.double sc), .second, .val (.ref b274), .val (.ref b296)] [(.int (2 : Int32)), (.int (3 : Int32))])) (fun t k => ?_) ?_
    · show Steps p.tables e below (T320.setTop (mkF m 156 #[.val (.int p0), .val (.int p1), .val (.int p2), .val (.int p3), .val (.int p4), .val (.int p5), .val (.int (3 : Int32)), .val (.double d0), .second, .val (.double d1), .second, .val (.double d2), .second, .val (.double df), .second, .val (.double sc), .second, .val (.ref b274), .val (.ref b296)] [(.int (1 : Int32)), (.int (3 : Int32))])) t
      refine XS.icmpYes X320.here hx rfl (pc0 := 156) (pc' := 191) rfl (hb hby at_156) rfl (feq hc325).2 (by decide) (by decide) ?_
      show Steps p.tables e below (T320.setTop (mkF m 191 #[.val (.int p0), .val (.int p1), .val (.int p2), .val (.int p3), .val (.int p4), .val (.int p5), .val (.int (3 : Int32)), .val (.double d0), .second, .val (.double d1), .second, .val (.double d2), .second, .val (.double df), .second, .val (.double sc), .second, .val (.ref b274), .val (.ref b296)] [])) t
      refine XS.iload X320.here hx rfl (hb hby at_191) rfl ?_
      show Steps p.tables e below (T320.setTop (mkF m 193 #[.val (.int p0), .val (.int p1), .val (.int p2), .val (.int p3), .val (.int p4), .val (.int p5), .val (.int (3 : Int32)), .val (.double d0), .second, .val (.double d1), .second, .val (.double d2), .second, .val (.double df), .second, .val (.double sc), .second, .val (.ref b274), .val (.ref b296)] [(.int (3 : Int32))])) t
      refine XS.iconst X320.here hx rfl (hb hby at_193) ?_
      exact k
    have hc326 : ¬ ((3 : Int32) = (2 : Int32)) := by decide
    refine OwnGo.of (A := T320.setTop (mkF m 194 #[.val (.int p0), .val (.int p1), .val (.int p2), .val (.int p3), .val (.int p4), .val (.int p5), .val (.int (3 : Int32)), .val (.double d0), .second, .val (.double d1), .second, .val (.double d2), .second, .val (.double df), .second, .val (.double sc), .second, .val (.ref b274), .val (.ref b296)] [(.int (2 : Int32)), (.int (3 : Int32))])) (B := T320.setTop (mkF m 234 #[.val (.int p0), .val (.int p1), .val (.int p2), .val (.int p3), .val (.int p4), .val (.int p5), .val (.int (3 : Int32)), .val (.double d0), .second, .val (.double d1), .second, .val (.double d2), .second, .val (.double df), .second, .val (.double sc), .second, .val (.ref b274), .val (.ref b296)] [(.int (cmpValue (FP.dcmp d1 sc) .l))])) (fun t k => ?_) ?_
    · show Steps p.tables e below (T320.setTop (mkF m 194 #[.val (.int p0), .val (.int p1), .val (.int p2), .val (.int p3), .val (.int p4), .val (.int p5), .val (.int (3 : Int32)), .val (.double d0), .second, .val (.double d1), .second, .val (.double d2), .second, .val (.double df), .second, .val (.double sc), .second, .val (.ref b274), .val (.ref b296)] [(.int (2 : Int32)), (.int (3 : Int32))])) t
      refine XS.icmpYes X320.here hx rfl (pc0 := 194) (pc' := 229) rfl (hb hby at_194) rfl (feq hc326).2 (by decide) (by decide) ?_
      show Steps p.tables e below (T320.setTop (mkF m 229 #[.val (.int p0), .val (.int p1), .val (.int p2), .val (.int p3), .val (.int p4), .val (.int p5), .val (.int (3 : Int32)), .val (.double d0), .second, .val (.double d1), .second, .val (.double d2), .second, .val (.double df), .second, .val (.double sc), .second, .val (.ref b274), .val (.ref b296)] [])) t
      refine XS.dload X320.here hx rfl (hb hby at_229) rfl ?_
      show Steps p.tables e below (T320.setTop (mkF m 231 #[.val (.int p0), .val (.int p1), .val (.int p2), .val (.int p3), .val (.int p4), .val (.int p5), .val (.int (3 : Int32)), .val (.double d0), .second, .val (.double d1), .second, .val (.double d2), .second, .val (.double df), .second, .val (.double sc), .second, .val (.ref b274), .val (.ref b296)] [(.double d1)])) t
      refine XS.dload X320.here hx rfl (hb hby at_231) rfl ?_
      show Steps p.tables e below (T320.setTop (mkF m 233 #[.val (.int p0), .val (.int p1), .val (.int p2), .val (.int p3), .val (.int p4), .val (.int p5), .val (.int (3 : Int32)), .val (.double d0), .second, .val (.double d1), .second, .val (.double d2), .second, .val (.double df), .second, .val (.double sc), .second, .val (.ref b274), .val (.ref b296)] [(.double sc), (.double d1)])) t
      refine XS.dcmpS X320.here hx rfl (hb hby at_233) rfl rfl ?_
      exact k
    by_cases hc327 : (0 : Int32) < (cmpValue (FP.dcmp d1 sc) .l)
    · refine OwnGo.of (A := T320.setTop (mkF m 234 #[.val (.int p0), .val (.int p1), .val (.int p2), .val (.int p3), .val (.int p4), .val (.int p5), .val (.int (3 : Int32)), .val (.double d0), .second, .val (.double d1), .second, .val (.double d2), .second, .val (.double df), .second, .val (.double sc), .second, .val (.ref b274), .val (.ref b296)] [(.int (cmpValue (FP.dcmp d1 sc) .l))])) (B := T320.setTop (mkF m 242 #[.val (.int p0), .val (.int p1), .val (.int p2), .val (.int p3), .val (.int p4), .val (.int p5), .val (.int (3 : Int32)), .val (.double d0), .second, .val (.double d1), .second, .val (.double d2), .second, .val (.double df), .second, .val (.double sc), .second, .val (.ref b274), .val (.ref b296)] [(.double d1), (.int (3 : Int32)), (.ref b296)])) (fun t k => ?_) ?_
      · show Steps p.tables e below (T320.setTop (mkF m 234 #[.val (.int p0), .val (.int p1), .val (.int p2), .val (.int p3), .val (.int p4), .val (.int p5), .val (.int (3 : Int32)), .val (.double d0), .second, .val (.double d1), .second, .val (.double d2), .second, .val (.double df), .second, .val (.double sc), .second, .val (.ref b274), .val (.ref b296)] [(.int (cmpValue (FP.dcmp d1 sc) .l))])) t
        refine XS.ifNo X320.here hx rfl (hb hby at_234) rfl ((if0 _ _).trans (tlt hc327).2.2.2) ?_
        show Steps p.tables e below (T320.setTop (mkF m 237 #[.val (.int p0), .val (.int p1), .val (.int p2), .val (.int p3), .val (.int p4), .val (.int p5), .val (.int (3 : Int32)), .val (.double d0), .second, .val (.double d1), .second, .val (.double d2), .second, .val (.double df), .second, .val (.double sc), .second, .val (.ref b274), .val (.ref b296)] [])) t
        refine XS.aload X320.here hx rfl (hb hby at_237) rfl rfl ?_
        show Steps p.tables e below (T320.setTop (mkF m 239 #[.val (.int p0), .val (.int p1), .val (.int p2), .val (.int p3), .val (.int p4), .val (.int p5), .val (.int (3 : Int32)), .val (.double d0), .second, .val (.double d1), .second, .val (.double d2), .second, .val (.double df), .second, .val (.double sc), .second, .val (.ref b274), .val (.ref b296)] [(.ref b296)])) t
        refine XS.iconst X320.here hx rfl (hb hby at_239) ?_
        show Steps p.tables e below (T320.setTop (mkF m 240 #[.val (.int p0), .val (.int p1), .val (.int p2), .val (.int p3), .val (.int p4), .val (.int p5), .val (.int (3 : Int32)), .val (.double d0), .second, .val (.double d1), .second, .val (.double d2), .second, .val (.double df), .second, .val (.double sc), .second, .val (.ref b274), .val (.ref b296)] [(.int (3 : Int32)), (.ref b296)])) t
        refine XS.dload X320.here hx rfl (hb hby at_240) rfl ?_
        exact k
      have cq328 := f323
      obtain ⟨clq328, Arq328, qq328, Sq328, Nq328, Hq328, Gq328⟩ := cq328
      obtain ⟨T329, h329, X329, e329, W329, st329⟩ := stD X320 hx hZ e320 Arq328 (j := (3 : Int32)) (inb_of Sq328 ⟨by decide, by decide⟩) (g := (mkF m 242 #[.val (.int p0), .val (.int p1), .val (.int p2), .val (.int p3), .val (.int p4), .val (.int p5), .val (.int (3 : Int32)), .val (.double d0), .second, .val (.double d1), .second, .val (.double d2), .second, .val (.double df), .second, .val (.double sc), .second, .val (.ref b274), .val (.ref b296)] [(.double d1), (.int (3 : Int32)), (.ref b296)])) rfl rfl (hb hby at_242)
      refine OwnGo.of st329 ?_
      have N329 := Fr.snoc X329 N320 g_b296
      have f330 : n0 ≤ h329.size := Nat.le_trans f321 (Keep.of_wr W329).1
      have f331 : Arv Z h329 b274 k274 .double (4 : Int32) [(.double d0), (.double d1), (.double d2), (.double df)] (.double (0 : UInt64)) := f322.other W329 ne_b274_b296
      have f332 : Arv Z h329 b296 k296 .double (4 : Int32) [(.double d0), (.double d1), (.double d2), (.double d1)] (.double (0 : UInt64)) := Arv.set Arq328 qq328 Sq328 Nq328 Hq328 Gq328 rfl W329 3 rfl (Nat.le_of_ble_eq_true rfl)
      show OwnGo p.tables e below _ (T329.setTop (mkF m 243 #[.val (.int p0), .val (.int p1), .val (.int p2), .val (.int p3), .val (.int p4), .val (.int p5), .val (.int (3 : Int32)), .val (.double d0), .second, .val (.double d1), .second, .val (.double d2), .second, .val (.double df), .second, .val (.double sc), .second, .val (.ref b274), .val (.ref b296)] []))
      refine OwnGo.of (A := T329.setTop (mkF m 243 #[.val (.int p0), .val (.int p1), .val (.int p2), .val (.int p3), .val (.int p4), .val (.int p5), .val (.int (3 : Int32)), .val (.double d0), .second, .val (.double d1), .second, .val (.double d2), .second, .val (.double df), .second, .val (.double sc), .second, .val (.ref b274), .val (.ref b296)] [])) (B := T329.setTop (mkF m 248 #[.val (.int p0), .val (.int p1), .val (.int p2), .val (.int p3), .val (.int p4), .val (.int p5), .val (.int (3 : Int32)), .val (.double d0), .second, .val (.double d1), .second, .val (.double d2), .second, .val (.double df), .second, .val (.double sc), .second, .val (.ref b274), .val (.ref b296)] [(.int (cmpValue (FP.dcmp d0 sc) .l))])) (fun t k => ?_) ?_
      · show Steps p.tables e below (T329.setTop (mkF m 243 #[.val (.int p0), .val (.int p1), .val (.int p2), .val (.int p3), .val (.int p4), .val (.int p5), .val (.int (3 : Int32)), .val (.double d0), .second, .val (.double d1), .second, .val (.double d2), .second, .val (.double df), .second, .val (.double sc), .second, .val (.ref b274), .val (.ref b296)] [])) t
        refine XS.dload X329.here hx rfl (hb hby at_243) rfl ?_
        show Steps p.tables e below (T329.setTop (mkF m 245 #[.val (.int p0), .val (.int p1), .val (.int p2), .val (.int p3), .val (.int p4), .val (.int p5), .val (.int (3 : Int32)), .val (.double d0), .second, .val (.double d1), .second, .val (.double d2), .second, .val (.double df), .second, .val (.double sc), .second, .val (.ref b274), .val (.ref b296)] [(.double d0)])) t
        refine XS.dload X329.here hx rfl (hb hby at_245) rfl ?_
        show Steps p.tables e below (T329.setTop (mkF m 247 #[.val (.int p0), .val (.int p1), .val (.int p2), .val (.int p3), .val (.int p4), .val (.int p5), .val (.int (3 : Int32)), .val (.double d0), .second, .val (.double d1), .second, .val (.double d2), .second, .val (.double df), .second, .val (.double sc), .second, .val (.ref b274), .val (.ref b296)] [(.double sc), (.double d0)])) t
        refine XS.dcmpS X329.here hx rfl (hb hby at_247) rfl rfl ?_
        exact k
      by_cases hc333 : (0 : Int32) < (cmpValue (FP.dcmp d0 sc) .l)
      · refine OwnGo.of (A := T329.setTop (mkF m 248 #[.val (.int p0), .val (.int p1), .val (.int p2), .val (.int p3), .val (.int p4), .val (.int p5), .val (.int (3 : Int32)), .val (.double d0), .second, .val (.double d1), .second, .val (.double d2), .second, .val (.double df), .second, .val (.double sc), .second, .val (.ref b274), .val (.ref b296)] [(.int (cmpValue (FP.dcmp d0 sc) .l))])) (B := T329.setTop (mkF m 256 #[.val (.int p0), .val (.int p1), .val (.int p2), .val (.int p3), .val (.int p4), .val (.int p5), .val (.int (3 : Int32)), .val (.double d0), .second, .val (.double d1), .second, .val (.double d2), .second, .val (.double df), .second, .val (.double sc), .second, .val (.ref b274), .val (.ref b296)] [(.double d0), (.int (1 : Int32)), (.ref b296)])) (fun t k => ?_) ?_
        · show Steps p.tables e below (T329.setTop (mkF m 248 #[.val (.int p0), .val (.int p1), .val (.int p2), .val (.int p3), .val (.int p4), .val (.int p5), .val (.int (3 : Int32)), .val (.double d0), .second, .val (.double d1), .second, .val (.double d2), .second, .val (.double df), .second, .val (.double sc), .second, .val (.ref b274), .val (.ref b296)] [(.int (cmpValue (FP.dcmp d0 sc) .l))])) t
          refine XS.ifNo X329.here hx rfl (hb hby at_248) rfl ((if0 _ _).trans (tlt hc333).2.2.2) ?_
          show Steps p.tables e below (T329.setTop (mkF m 251 #[.val (.int p0), .val (.int p1), .val (.int p2), .val (.int p3), .val (.int p4), .val (.int p5), .val (.int (3 : Int32)), .val (.double d0), .second, .val (.double d1), .second, .val (.double d2), .second, .val (.double df), .second, .val (.double sc), .second, .val (.ref b274), .val (.ref b296)] [])) t
          refine XS.aload X329.here hx rfl (hb hby at_251) rfl rfl ?_
          show Steps p.tables e below (T329.setTop (mkF m 253 #[.val (.int p0), .val (.int p1), .val (.int p2), .val (.int p3), .val (.int p4), .val (.int p5), .val (.int (3 : Int32)), .val (.double d0), .second, .val (.double d1), .second, .val (.double d2), .second, .val (.double df), .second, .val (.double sc), .second, .val (.ref b274), .val (.ref b296)] [(.ref b296)])) t
          refine XS.iconst X329.here hx rfl (hb hby at_253) ?_
          show Steps p.tables e below (T329.setTop (mkF m 254 #[.val (.int p0), .val (.int p1), .val (.int p2), .val (.int p3), .val (.int p4), .val (.int p5), .val (.int (3 : Int32)), .val (.double d0), .second, .val (.double d1), .second, .val (.double d2), .second, .val (.double df), .second, .val (.double sc), .second, .val (.ref b274), .val (.ref b296)] [(.int (1 : Int32)), (.ref b296)])) t
          refine XS.dload X329.here hx rfl (hb hby at_254) rfl ?_
          exact k
        have cq334 := f332
        obtain ⟨clq334, Arq334, qq334, Sq334, Nq334, Hq334, Gq334⟩ := cq334
        obtain ⟨T335, h335, X335, e335, W335, st335⟩ := stD X329 hx hZ e329 Arq334 (j := (1 : Int32)) (inb_of Sq334 ⟨by decide, by decide⟩) (g := (mkF m 256 #[.val (.int p0), .val (.int p1), .val (.int p2), .val (.int p3), .val (.int p4), .val (.int p5), .val (.int (3 : Int32)), .val (.double d0), .second, .val (.double d1), .second, .val (.double d2), .second, .val (.double df), .second, .val (.double sc), .second, .val (.ref b274), .val (.ref b296)] [(.double d0), (.int (1 : Int32)), (.ref b296)])) rfl rfl (hb hby at_256)
        refine OwnGo.of st335 ?_
        have N335 := Fr.snoc X335 N329 g_b296
        have f336 : n0 ≤ h335.size := Nat.le_trans f330 (Keep.of_wr W335).1
        have f337 : Arv Z h335 b274 k274 .double (4 : Int32) [(.double d0), (.double d1), (.double d2), (.double df)] (.double (0 : UInt64)) := f331.other W335 ne_b274_b296
        have f338 : Arv Z h335 b296 k296 .double (4 : Int32) [(.double d0), (.double d0), (.double d2), (.double d1)] (.double (0 : UInt64)) := Arv.set Arq334 qq334 Sq334 Nq334 Hq334 Gq334 rfl W335 1 rfl (Nat.le_of_ble_eq_true rfl)
        show OwnGo p.tables e below _ (T335.setTop (mkF m 257 #[.val (.int p0), .val (.int p1), .val (.int p2), .val (.int p3), .val (.int p4), .val (.int p5), .val (.int (3 : Int32)), .val (.double d0), .second, .val (.double d1), .second, .val (.double d2), .second, .val (.double df), .second, .val (.double sc), .second, .val (.ref b274), .val (.ref b296)] []))
        refine OwnGo.of (A := T335.setTop (mkF m 257 #[.val (.int p0), .val (.int p1), .val (.int p2), .val (.int p3), .val (.int p4), .val (.int p5), .val (.int (3 : Int32)), .val (.double d0), .second, .val (.double d1), .second, .val (.double d2), .second, .val (.double df), .second, .val (.double sc), .second, .val (.ref b274), .val (.ref b296)] [])) (B := T335.setTop (mkF m 262 #[.val (.int p0), .val (.int p1), .val (.int p2), .val (.int p3), .val (.int p4), .val (.int p5), .val (.int (3 : Int32)), .val (.double d0), .second, .val (.double d1), .second, .val (.double d2), .second, .val (.double df), .second, .val (.double sc), .second, .val (.ref b274), .val (.ref b296)] [(.double sc), (.int (0 : Int32)), (.ref b296)])) (fun t k => ?_) ?_
        · show Steps p.tables e below (T335.setTop (mkF m 257 #[.val (.int p0), .val (.int p1), .val (.int p2), .val (.int p3), .val (.int p4), .val (.int p5), .val (.int (3 : Int32)), .val (.double d0), .second, .val (.double d1), .second, .val (.double d2), .second, .val (.double df), .second, .val (.double sc), .second, .val (.ref b274), .val (.ref b296)] [])) t
          refine XS.aload X335.here hx rfl (hb hby at_257) rfl rfl ?_
          show Steps p.tables e below (T335.setTop (mkF m 259 #[.val (.int p0), .val (.int p1), .val (.int p2), .val (.int p3), .val (.int p4), .val (.int p5), .val (.int (3 : Int32)), .val (.double d0), .second, .val (.double d1), .second, .val (.double d2), .second, .val (.double df), .second, .val (.double sc), .second, .val (.ref b274), .val (.ref b296)] [(.ref b296)])) t
          refine XS.iconst X335.here hx rfl (hb hby at_259) ?_
          show Steps p.tables e below (T335.setTop (mkF m 260 #[.val (.int p0), .val (.int p1), .val (.int p2), .val (.int p3), .val (.int p4), .val (.int p5), .val (.int (3 : Int32)), .val (.double d0), .second, .val (.double d1), .second, .val (.double d2), .second, .val (.double df), .second, .val (.double sc), .second, .val (.ref b274), .val (.ref b296)] [(.int (0 : Int32)), (.ref b296)])) t
          refine XS.dload X335.here hx rfl (hb hby at_260) rfl ?_
          exact k
        have cq339 := f338
        obtain ⟨clq339, Arq339, qq339, Sq339, Nq339, Hq339, Gq339⟩ := cq339
        obtain ⟨T340, h340, X340, e340, W340, st340⟩ := stD X335 hx hZ e335 Arq339 (j := (0 : Int32)) (inb_of Sq339 ⟨by decide, by decide⟩) (g := (mkF m 262 #[.val (.int p0), .val (.int p1), .val (.int p2), .val (.int p3), .val (.int p4), .val (.int p5), .val (.int (3 : Int32)), .val (.double d0), .second, .val (.double d1), .second, .val (.double d2), .second, .val (.double df), .second, .val (.double sc), .second, .val (.ref b274), .val (.ref b296)] [(.double sc), (.int (0 : Int32)), (.ref b296)])) rfl rfl (hb hby at_262)
        refine OwnGo.of st340 ?_
        have N340 := Fr.snoc X340 N335 g_b296
        have f341 : n0 ≤ h340.size := Nat.le_trans f336 (Keep.of_wr W340).1
        have f342 : Arv Z h340 b274 k274 .double (4 : Int32) [(.double d0), (.double d1), (.double d2), (.double df)] (.double (0 : UInt64)) := f337.other W340 ne_b274_b296
        have f343 : Arv Z h340 b296 k296 .double (4 : Int32) [(.double sc), (.double d0), (.double d2), (.double d1)] (.double (0 : UInt64)) := Arv.set Arq339 qq339 Sq339 Nq339 Hq339 Gq339 rfl W340 0 rfl (Nat.le_of_ble_eq_true rfl)
        show OwnGo p.tables e below _ (T340.setTop (mkF m 263 #[.val (.int p0), .val (.int p1), .val (.int p2), .val (.int p3), .val (.int p4), .val (.int p5), .val (.int (3 : Int32)), .val (.double d0), .second, .val (.double d1), .second, .val (.double d2), .second, .val (.double df), .second, .val (.double sc), .second, .val (.ref b274), .val (.ref b296)] []))
        refine OwnGo.of (A := T340.setTop (mkF m 263 #[.val (.int p0), .val (.int p1), .val (.int p2), .val (.int p3), .val (.int p4), .val (.int p5), .val (.int (3 : Int32)), .val (.double d0), .second, .val (.double d1), .second, .val (.double d2), .second, .val (.double df), .second, .val (.double sc), .second, .val (.ref b274), .val (.ref b296)] [])) (B := T340.setTop (mkF m 287 #[.val (.int p0), .val (.int p1), .val (.int p2), .val (.int p3), .val (.int p4), .val (.int p5), .val (.int (3 : Int32)), .val (.double d0), .second, .val (.double d1), .second, .val (.double d2), .second, .val (.double df), .second, .val (.double sc), .second, .val (.ref b274), .val (.ref b296)] [(.double sc), (.int (3 : Int32)), (.ref b274)])) (fun t k => ?_) ?_
        · show Steps p.tables e below (T340.setTop (mkF m 263 #[.val (.int p0), .val (.int p1), .val (.int p2), .val (.int p3), .val (.int p4), .val (.int p5), .val (.int (3 : Int32)), .val (.double d0), .second, .val (.double d1), .second, .val (.double d2), .second, .val (.double df), .second, .val (.double sc), .second, .val (.ref b274), .val (.ref b296)] [])) t
          refine XS.goto X340.here hx rfl (pc0 := 263) (pc' := 281) rfl (hb hby at_263) (by decide) (by decide) ?_
          show Steps p.tables e below (T340.setTop (mkF m 281 #[.val (.int p0), .val (.int p1), .val (.int p2), .val (.int p3), .val (.int p4), .val (.int p5), .val (.int (3 : Int32)), .val (.double d0), .second, .val (.double d1), .second, .val (.double d2), .second, .val (.double df), .second, .val (.double sc), .second, .val (.ref b274), .val (.ref b296)] [])) t
          refine XS.aload X340.here hx rfl (hb hby at_281) rfl rfl ?_
          show Steps p.tables e below (T340.setTop (mkF m 283 #[.val (.int p0), .val (.int p1), .val (.int p2), .val (.int p3), .val (.int p4), .val (.int p5), .val (.int (3 : Int32)), .val (.double d0), .second, .val (.double d1), .second, .val (.double d2), .second, .val (.double df), .second, .val (.double sc), .second, .val (.ref b274), .val (.ref b296)] [(.ref b274)])) t
          refine XS.iload X340.here hx rfl (hb hby at_283) rfl ?_
          show Steps p.tables e below (T340.setTop (mkF m 285 #[.val (.int p0), .val (.int p1), .val (.int p2), .val (.int p3), .val (.int p4), .val (.int p5), .val (.int (3 : Int32)), .val (.double d0), .second, .val (.double d1), .second, .val (.double d2), .second, .val (.double df), .second, .val (.double sc), .second, .val (.ref b274), .val (.ref b296)] [(.int (3 : Int32)), (.ref b274)])) t
          refine XS.dload X340.here hx rfl (hb hby at_285) rfl ?_
          exact k
        obtain ⟨T344, L344, v344, X344, hQ344, st344⟩ := own_callS X340 hx (y := (⟨"com/example/rankwright/rankwright/rank/Accumulator", "siftUp", "([DID)V"⟩ : MethodName)) hown (mvT hZ (hw _ (List.mem_of_getElem? (i := 2) rfl))) (mvT hZ (hw _ (List.mem_of_getElem? (i := 3) rfl))) (mvT hZ (hw _ (List.mem_of_getElem? (i := 4) rfl))) (mvT hZ (hw _ (List.mem_of_getElem? (i := 5) rfl))) (by decide) (backOf (W := 0) (rm1_3tt l Z aw hw [] b274 sc d0 d1 d2 df k274 h340 n0 f341 f342 g_b274 hc327 hc333) hZ (hw _ (List.mem_of_getElem? (i := 5) rfl)) (hw _ (List.mem_of_getElem? (i := 4) rfl)) (by decide) (by decide)) (g := (mkF m 287 #[.val (.int p0), .val (.int p1), .val (.int p2), .val (.int p3), .val (.int p4), .val (.int p5), .val (.int (3 : Int32)), .val (.double d0), .second, .val (.double d1), .second, .val (.double d2), .second, .val (.double df), .second, .val (.double sc), .second, .val (.ref b274), .val (.ref b296)] [(.double sc), (.int (3 : Int32)), (.ref b274)])) rfl (by rw [hml]; rfl) (argsL := [(.ref b274), (.int (3 : Int32)), (.double sc)]) (rest := []) (lenOf pd_1 rfl) rfl (by show 2 * 0 + _ ≤ _; exact Nat.le_of_eq rfl) (hb hby at_287) rfl e340 (by decide) (by decide)
        obtain ⟨rfl, N344q, K344, y344_0⟩ := hQ344
        have f345 : n0 ≤ T344.heap.size := Nat.le_trans f341 K344.1
        have f346 : Arv Z T344.heap b296 k296 .double (4 : Int32) [(.double sc), (.double d0), (.double d2), (.double d1)] (.double (0 : UInt64)) := f343.keep K344 (ninS (Ne.symm ne_b274_b296) nin0)
        have N344 := Fr.app N340 N344q
        refine OwnGo.of st344 ?_
        show OwnGo p.tables e below _ (T344.setTop (mkF m 290 #[.val (.int p0), .val (.int p1), .val (.int p2), .val (.int p3), .val (.int p4), .val (.int p5), .val (.int (3 : Int32)), .val (.double d0), .second, .val (.double d1), .second, .val (.double d2), .second, .val (.double df), .second, .val (.double sc), .second, .val (.ref b274), .val (.ref b296)] []))
        refine OwnGo.of (A := T344.setTop (mkF m 290 #[.val (.int p0), .val (.int p1), .val (.int p2), .val (.int p3), .val (.int p4), .val (.int p5), .val (.int (3 : Int32)), .val (.double d0), .second, .val (.double d1), .second, .val (.double d2), .second, .val (.double df), .second, .val (.double sc), .second, .val (.ref b274), .val (.ref b296)] [])) (B := T344.setTop (mkF m 293 #[.val (.int p0), .val (.int p1), .val (.int p2), .val (.int p3), .val (.int p4), .val (.int p5), .val (.int (3 : Int32)), .val (.double d0), .second, .val (.double d1), .second, .val (.double d2), .second, .val (.double df), .second, .val (.double sc), .second, .val (.ref b274), .val (.ref b296)] [(.int (0 : Int32)), (.ref b274)])) (fun t k => ?_) ?_
        · show Steps p.tables e below (T344.setTop (mkF m 290 #[.val (.int p0), .val (.int p1), .val (.int p2), .val (.int p3), .val (.int p4), .val (.int p5), .val (.int (3 : Int32)), .val (.double d0), .second, .val (.double d1), .second, .val (.double d2), .second, .val (.double df), .second, .val (.double sc), .second, .val (.ref b274), .val (.ref b296)] [])) t
          refine XS.aload X344.here hx rfl (hb hby at_290) rfl rfl ?_
          show Steps p.tables e below (T344.setTop (mkF m 292 #[.val (.int p0), .val (.int p1), .val (.int p2), .val (.int p3), .val (.int p4), .val (.int p5), .val (.int (3 : Int32)), .val (.double d0), .second, .val (.double d1), .second, .val (.double d2), .second, .val (.double df), .second, .val (.double sc), .second, .val (.ref b274), .val (.ref b296)] [(.ref b274)])) t
          refine XS.iconst X344.here hx rfl (hb hby at_292) ?_
          exact k
        have cq347 := y344_0
        obtain ⟨clq347, Arq347, qq347, Sq347, Nq347, Hq347, Gq347⟩ := cq347
        have hinq347 := inb_of (j := (0 : Int32)) Sq347 ⟨by decide, by decide⟩
        refine OwnGo.of (X344.daload hx (j := (0 : Int32)) (v := (.double sc)) Arq347.1 (State.isArrayOf_alike hZ.alike Arq347.2.1) Arq347.2.2 hinq347 (Hq347.at hinq347 rfl) (g := (mkF m 293 #[.val (.int p0), .val (.int p1), .val (.int p2), .val (.int p3), .val (.int p4), .val (.int p5), .val (.int (3 : Int32)), .val (.double d0), .second, .val (.double d1), .second, .val (.double d2), .second, .val (.double df), .second, .val (.double sc), .second, .val (.ref b274), .val (.ref b296)] [(.int (0 : Int32)), (.ref b274)])) rfl rfl (hb hby at_293)) ?_
        show OwnGo p.tables e below _ (T344.setTop (mkF m 294 #[.val (.int p0), .val (.int p1), .val (.int p2), .val (.int p3), .val (.int p4), .val (.int p5), .val (.int (3 : Int32)), .val (.double d0), .second, .val (.double d1), .second, .val (.double d2), .second, .val (.double df), .second, .val (.double sc), .second, .val (.ref b274), .val (.ref b296)] [(.double sc)]))
        refine OwnGo.of (A := T344.setTop (mkF m 294 #[.val (.int p0), .val (.int p1), .val (.int p2), .val (.int p3), .val (.int p4), .val (.int p5), .val (.int (3 : Int32)), .val (.double d0), .second, .val (.double d1), .second, .val (.double d2), .second, .val (.double df), .second, .val (.double sc), .second, .val (.ref b274), .val (.ref b296)] [(.double sc)])) (B := T344.setTop (mkF m 297 #[.val (.int p0), .val (.int p1), .val (.int p2), .val (.int p3), .val (.int p4), .val (.int p5), .val (.int (3 : Int32)), .val (.double d0), .second, .val (.double d1), .second, .val (.double d2), .second, .val (.double df), .second, .val (.double sc), .second, .val (.ref b274), .val (.ref b296)] [(.int (0 : Int32)), (.ref b296), (.double sc)])) (fun t k => ?_) ?_
        · show Steps p.tables e below (T344.setTop (mkF m 294 #[.val (.int p0), .val (.int p1), .val (.int p2), .val (.int p3), .val (.int p4), .val (.int p5), .val (.int (3 : Int32)), .val (.double d0), .second, .val (.double d1), .second, .val (.double d2), .second, .val (.double df), .second, .val (.double sc), .second, .val (.ref b274), .val (.ref b296)] [(.double sc)])) t
          refine XS.aload X344.here hx rfl (hb hby at_294) rfl rfl ?_
          show Steps p.tables e below (T344.setTop (mkF m 296 #[.val (.int p0), .val (.int p1), .val (.int p2), .val (.int p3), .val (.int p4), .val (.int p5), .val (.int (3 : Int32)), .val (.double d0), .second, .val (.double d1), .second, .val (.double d2), .second, .val (.double df), .second, .val (.double sc), .second, .val (.ref b274), .val (.ref b296)] [(.ref b296), (.double sc)])) t
          refine XS.iconst X344.here hx rfl (hb hby at_296) ?_
          exact k
        have cq348 := f346
        obtain ⟨clq348, Arq348, qq348, Sq348, Nq348, Hq348, Gq348⟩ := cq348
        have hinq348 := inb_of (j := (0 : Int32)) Sq348 ⟨by decide, by decide⟩
        refine OwnGo.of (X344.daload hx (j := (0 : Int32)) (v := (.double sc)) Arq348.1 (State.isArrayOf_alike hZ.alike Arq348.2.1) Arq348.2.2 hinq348 (Hq348.at hinq348 rfl) (g := (mkF m 297 #[.val (.int p0), .val (.int p1), .val (.int p2), .val (.int p3), .val (.int p4), .val (.int p5), .val (.int (3 : Int32)), .val (.double d0), .second, .val (.double d1), .second, .val (.double d2), .second, .val (.double df), .second, .val (.double sc), .second, .val (.ref b274), .val (.ref b296)] [(.int (0 : Int32)), (.ref b296), (.double sc)])) rfl rfl (hb hby at_297)) ?_
        show OwnGo p.tables e below _ (T344.setTop (mkF m 298 #[.val (.int p0), .val (.int p1), .val (.int p2), .val (.int p3), .val (.int p4), .val (.int p5), .val (.int (3 : Int32)), .val (.double d0), .second, .val (.double d1), .second, .val (.double d2), .second, .val (.double df), .second, .val (.double sc), .second, .val (.ref b274), .val (.ref b296)] [(.double sc), (.double sc)]))
        refine OwnGo.of (A := T344.setTop (mkF m 298 #[.val (.int p0), .val (.int p1), .val (.int p2), .val (.int p3), .val (.int p4), .val (.int p5), .val (.int (3 : Int32)), .val (.double d0), .second, .val (.double d1), .second, .val (.double d2), .second, .val (.double df), .second, .val (.double sc), .second, .val (.ref b274), .val (.ref b296)] [(.double sc), (.double sc)])) (B := T344.setTop (mkF m 299 #[.val (.int p0), .val (.int p1), .val (.int p2), .val (.int p3), .val (.int p4), .val (.int p5), .val (.int (3 : Int32)), .val (.double d0), .second, .val (.double d1), .second, .val (.double d2), .second, .val (.double df), .second, .val (.double sc), .second, .val (.ref b274), .val (.ref b296)] [(.int (cmpValue (FP.dcmp sc sc) .l))])) (fun t k => ?_) ?_
        · show Steps p.tables e below (T344.setTop (mkF m 298 #[.val (.int p0), .val (.int p1), .val (.int p2), .val (.int p3), .val (.int p4), .val (.int p5), .val (.int (3 : Int32)), .val (.double d0), .second, .val (.double d1), .second, .val (.double d2), .second, .val (.double df), .second, .val (.double sc), .second, .val (.ref b274), .val (.ref b296)] [(.double sc), (.double sc)])) t
          refine XS.dcmpS X344.here hx rfl (hb hby at_298) rfl rfl ?_
          exact k
        have hc349 : (cmpValue (FP.dcmp sc sc) .l) = (0 : Int32) := dcmpV_self nsc .l
        refine OwnGo.of (A := T344.setTop (mkF m 299 #[.val (.int p0), .val (.int p1), .val (.int p2), .val (.int p3), .val (.int p4), .val (.int p5), .val (.int (3 : Int32)), .val (.double d0), .second, .val (.double d1), .second, .val (.double d2), .second, .val (.double df), .second, .val (.double sc), .second, .val (.ref b274), .val (.ref b296)] [(.int (cmpValue (FP.dcmp sc sc) .l))])) (B := T344.setTop (mkF m 305 #[.val (.int p0), .val (.int p1), .val (.int p2), .val (.int p3), .val (.int p4), .val (.int p5), .val (.int (3 : Int32)), .val (.double d0), .second, .val (.double d1), .second, .val (.double d2), .second, .val (.double df), .second, .val (.double sc), .second, .val (.ref b274), .val (.ref b296)] [(.int (1 : Int32)), (.ref b274)])) (fun t k => ?_) ?_
        · show Steps p.tables e below (T344.setTop (mkF m 299 #[.val (.int p0), .val (.int p1), .val (.int p2), .val (.int p3), .val (.int p4), .val (.int p5), .val (.int (3 : Int32)), .val (.double d0), .second, .val (.double d1), .second, .val (.double d2), .second, .val (.double df), .second, .val (.double sc), .second, .val (.ref b274), .val (.ref b296)] [(.int (cmpValue (FP.dcmp sc sc) .l))])) t
          refine XS.ifNo X344.here hx rfl (hb hby at_299) rfl ((if0 _ _).trans (teq hc349).2) ?_
          show Steps p.tables e below (T344.setTop (mkF m 302 #[.val (.int p0), .val (.int p1), .val (.int p2), .val (.int p3), .val (.int p4), .val (.int p5), .val (.int (3 : Int32)), .val (.double d0), .second, .val (.double d1), .second, .val (.double d2), .second, .val (.double df), .second, .val (.double sc), .second, .val (.ref b274), .val (.ref b296)] [])) t
          refine XS.aload X344.here hx rfl (hb hby at_302) rfl rfl ?_
          show Steps p.tables e below (T344.setTop (mkF m 304 #[.val (.int p0), .val (.int p1), .val (.int p2), .val (.int p3), .val (.int p4), .val (.int p5), .val (.int (3 : Int32)), .val (.double d0), .second, .val (.double d1), .second, .val (.double d2), .second, .val (.double df), .second, .val (.double sc), .second, .val (.ref b274), .val (.ref b296)] [(.ref b274)])) t
          refine XS.iconst X344.here hx rfl (hb hby at_304) ?_
          exact k
        have cq350 := y344_0
        obtain ⟨clq350, Arq350, qq350, Sq350, Nq350, Hq350, Gq350⟩ := cq350
        have hinq350 := inb_of (j := (1 : Int32)) Sq350 ⟨by decide, by decide⟩
        refine OwnGo.of (X344.daload hx (j := (1 : Int32)) (v := (.double d0)) Arq350.1 (State.isArrayOf_alike hZ.alike Arq350.2.1) Arq350.2.2 hinq350 (Hq350.at hinq350 rfl) (g := (mkF m 305 #[.val (.int p0), .val (.int p1), .val (.int p2), .val (.int p3), .val (.int p4), .val (.int p5), .val (.int (3 : Int32)), .val (.double d0), .second, .val (.double d1), .second, .val (.double d2), .second, .val (.double df), .second, .val (.double sc), .second, .val (.ref b274), .val (.ref b296)] [(.int (1 : Int32)), (.ref b274)])) rfl rfl (hb hby at_305)) ?_
        show OwnGo p.tables e below _ (T344.setTop (mkF m 306 #[.val (.int p0), .val (.int p1), .val (.int p2), .val (.int p3), .val (.int p4), .val (.int p5), .val (.int (3 : Int32)), .val (.double d0), .second, .val (.double d1), .second, .val (.double d2), .second, .val (.double df), .second, .val (.double sc), .second, .val (.ref b274), .val (.ref b296)] [(.double d0)]))
        refine OwnGo.of (A := T344.setTop (mkF m 306 #[.val (.int p0), .val (.int p1), .val (.int p2), .val (.int p3), .val (.int p4), .val (.int p5), .val (.int (3 : Int32)), .val (.double d0), .second, .val (.double d1), .second, .val (.double d2), .second, .val (.double df), .second, .val (.double sc), .second, .val (.ref b274), .val (.ref b296)] [(.double d0)])) (B := T344.setTop (mkF m 309 #[.val (.int p0), .val (.int p1), .val (.int p2), .val (.int p3), .val (.int p4), .val (.int p5), .val (.int (3 : Int32)), .val (.double d0), .second, .val (.double d1), .second, .val (.double d2), .second, .val (.double df), .second, .val (.double sc), .second, .val (.ref b274), .val (.ref b296)] [(.int (1 : Int32)), (.ref b296), (.double d0)])) (fun t k => ?_) ?_
        · show Steps p.tables e below (T344.setTop (mkF m 306 #[.val (.int p0), .val (.int p1), .val (.int p2), .val (.int p3), .val (.int p4), .val (.int p5), .val (.int (3 : Int32)), .val (.double d0), .second, .val (.double d1), .second, .val (.double d2), .second, .val (.double df), .second, .val (.double sc), .second, .val (.ref b274), .val (.ref b296)] [(.double d0)])) t
          refine XS.aload X344.here hx rfl (hb hby at_306) rfl rfl ?_
          show Steps p.tables e below (T344.setTop (mkF m 308 #[.val (.int p0), .val (.int p1), .val (.int p2), .val (.int p3), .val (.int p4), .val (.int p5), .val (.int (3 : Int32)), .val (.double d0), .second, .val (.double d1), .second, .val (.double d2), .second, .val (.double df), .second, .val (.double sc), .second, .val (.ref b274), .val (.ref b296)] [(.ref b296), (.double d0)])) t
          refine XS.iconst X344.here hx rfl (hb hby at_308) ?_
          exact k
        have cq351 := f346
        obtain ⟨clq351, Arq351, qq351, Sq351, Nq351, Hq351, Gq351⟩ := cq351
        have hinq351 := inb_of (j := (1 : Int32)) Sq351 ⟨by decide, by decide⟩
        refine OwnGo.of (X344.daload hx (j := (1 : Int32)) (v := (.double d0)) Arq351.1 (State.isArrayOf_alike hZ.alike Arq351.2.1) Arq351.2.2 hinq351 (Hq351.at hinq351 rfl) (g := (mkF m 309 #[.val (.int p0), .val (.int p1), .val (.int p2), .val (.int p3), .val (.int p4), .val (.int p5), .val (.int (3 : Int32)), .val (.double d0), .second, .val (.double d1), .second, .val (.double d2), .second, .val (.double df), .second, .val (.double sc), .second, .val (.ref b274), .val (.ref b296)] [(.int (1 : Int32)), (.ref b296), (.double d0)])) rfl rfl (hb hby at_309)) ?_
        show OwnGo p.tables e below _ (T344.setTop (mkF m 310 #[.val (.int p0), .val (.int p1), .val (.int p2), .val (.int p3), .val (.int p4), .val (.int p5), .val (.int (3 : Int32)), .val (.double d0), .second, .val (.double d1), .second, .val (.double d2), .second, .val (.double df), .second, .val (.double sc), .second, .val (.ref b274), .val (.ref b296)] [(.double d0), (.double d0)]))
        refine OwnGo.of (A := T344.setTop (mkF m 310 #[.val (.int p0), .val (.int p1), .val (.int p2), .val (.int p3), .val (.int p4), .val (.int p5), .val (.int (3 : Int32)), .val (.double d0), .second, .val (.double d1), .second, .val (.double d2), .second, .val (.double df), .second, .val (.double sc), .second, .val (.ref b274), .val (.ref b296)] [(.double d0), (.double d0)])) (B := T344.setTop (mkF m 311 #[.val (.int p0), .val (.int p1), .val (.int p2), .val (.int p3), .val (.int p4), .val (.int p5), .val (.int (3 : Int32)), .val (.double d0), .second, .val (.double d1), .second, .val (.double d2), .second, .val (.double df), .second, .val (.double sc), .second, .val (.ref b274), .val (.ref b296)] [(.int (cmpValue (FP.dcmp d0 d0) .l))])) (fun t k => ?_) ?_
        · show Steps p.tables e below (T344.setTop (mkF m 310 #[.val (.int p0), .val (.int p1), .val (.int p2), .val (.int p3), .val (.int p4), .val (.int p5), .val (.int (3 : Int32)), .val (.double d0), .second, .val (.double d1), .second, .val (.double d2), .second, .val (.double df), .second, .val (.double sc), .second, .val (.ref b274), .val (.ref b296)] [(.double d0), (.double d0)])) t
          refine XS.dcmpS X344.here hx rfl (hb hby at_310) rfl rfl ?_
          exact k
        have hc352 : (cmpValue (FP.dcmp d0 d0) .l) = (0 : Int32) := dcmpV_self nd0 .l
        refine OwnGo.of (A := T344.setTop (mkF m 311 #[.val (.int p0), .val (.int p1), .val (.int p2), .val (.int p3), .val (.int p4), .val (.int p5), .val (.int (3 : Int32)), .val (.double d0), .second, .val (.double d1), .second, .val (.double d2), .second, .val (.double df), .second, .val (.double sc), .second, .val (.ref b274), .val (.ref b296)] [(.int (cmpValue (FP.dcmp d0 d0) .l))])) (B := T344.setTop (mkF m 317 #[.val (.int p0), .val (.int p1), .val (.int p2), .val (.int p3), .val (.int p4), .val (.int p5), .val (.int (3 : Int32)), .val (.double d0), .second, .val (.double d1), .second, .val (.double d2), .second, .val (.double df), .second, .val (.double sc), .second, .val (.ref b274), .val (.ref b296)] [(.int (2 : Int32)), (.ref b274)])) (fun t k => ?_) ?_
        · show Steps p.tables e below (T344.setTop (mkF m 311 #[.val (.int p0), .val (.int p1), .val (.int p2), .val (.int p3), .val (.int p4), .val (.int p5), .val (.int (3 : Int32)), .val (.double d0), .second, .val (.double d1), .second, .val (.double d2), .second, .val (.double df), .second, .val (.double sc), .second, .val (.ref b274), .val (.ref b296)] [(.int (cmpValue (FP.dcmp d0 d0) .l))])) t
          refine XS.ifNo X344.here hx rfl (hb hby at_311) rfl ((if0 _ _).trans (teq hc352).2) ?_
          show Steps p.tables e below (T344.setTop (mkF m 314 #[.val (.int p0), .val (.int p1), .val (.int p2), .val (.int p3), .val (.int p4), .val (.int p5), .val (.int (3 : Int32)), .val (.double d0), .second, .val (.double d1), .second, .val (.double d2), .second, .val (.double df), .second, .val (.double sc), .second, .val (.ref b274), .val (.ref b296)] [])) t
          refine XS.aload X344.here hx rfl (hb hby at_314) rfl rfl ?_
          show Steps p.tables e below (T344.setTop (mkF m 316 #[.val (.int p0), .val (.int p1), .val (.int p2), .val (.int p3), .val (.int p4), .val (.int p5), .val (.int (3 : Int32)), .val (.double d0), .second, .val (.double d1), .second, .val (.double d2), .second, .val (.double df), .second, .val (.double sc), .second, .val (.ref b274), .val (.ref b296)] [(.ref b274)])) t
          refine XS.iconst X344.here hx rfl (hb hby at_316) ?_
          exact k
        have cq353 := y344_0
        obtain ⟨clq353, Arq353, qq353, Sq353, Nq353, Hq353, Gq353⟩ := cq353
        have hinq353 := inb_of (j := (2 : Int32)) Sq353 ⟨by decide, by decide⟩
        refine OwnGo.of (X344.daload hx (j := (2 : Int32)) (v := (.double d2)) Arq353.1 (State.isArrayOf_alike hZ.alike Arq353.2.1) Arq353.2.2 hinq353 (Hq353.at hinq353 rfl) (g := (mkF m 317 #[.val (.int p0), .val (.int p1), .val (.int p2), .val (.int p3), .val (.int p4), .val (.int p5), .val (.int (3 : Int32)), .val (.double d0), .second, .val (.double d1), .second, .val (.double d2), .second, .val (.double df), .second, .val (.double sc), .second, .val (.ref b274), .val (.ref b296)] [(.int (2 : Int32)), (.ref b274)])) rfl rfl (hb hby at_317)) ?_
        show OwnGo p.tables e below _ (T344.setTop (mkF m 318 #[.val (.int p0), .val (.int p1), .val (.int p2), .val (.int p3), .val (.int p4), .val (.int p5), .val (.int (3 : Int32)), .val (.double d0), .second, .val (.double d1), .second, .val (.double d2), .second, .val (.double df), .second, .val (.double sc), .second, .val (.ref b274), .val (.ref b296)] [(.double d2)]))
        refine OwnGo.of (A := T344.setTop (mkF m 318 #[.val (.int p0), .val (.int p1), .val (.int p2), .val (.int p3), .val (.int p4), .val (.int p5), .val (.int (3 : Int32)), .val (.double d0), .second, .val (.double d1), .second, .val (.double d2), .second, .val (.double df), .second, .val (.double sc), .second, .val (.ref b274), .val (.ref b296)] [(.double d2)])) (B := T344.setTop (mkF m 321 #[.val (.int p0), .val (.int p1), .val (.int p2), .val (.int p3), .val (.int p4), .val (.int p5), .val (.int (3 : Int32)), .val (.double d0), .second, .val (.double d1), .second, .val (.double d2), .second, .val (.double df), .second, .val (.double sc), .second, .val (.ref b274), .val (.ref b296)] [(.int (2 : Int32)), (.ref b296), (.double d2)])) (fun t k => ?_) ?_
        · show Steps p.tables e below (T344.setTop (mkF m 318 #[.val (.int p0), .val (.int p1), .val (.int p2), .val (.int p3), .val (.int p4), .val (.int p5), .val (.int (3 : Int32)), .val (.double d0), .second, .val (.double d1), .second, .val (.double d2), .second, .val (.double df), .second, .val (.double sc), .second, .val (.ref b274), .val (.ref b296)] [(.double d2)])) t
          refine XS.aload X344.here hx rfl (hb hby at_318) rfl rfl ?_
          show Steps p.tables e below (T344.setTop (mkF m 320 #[.val (.int p0), .val (.int p1), .val (.int p2), .val (.int p3), .val (.int p4), .val (.int p5), .val (.int (3 : Int32)), .val (.double d0), .second, .val (.double d1), .second, .val (.double d2), .second, .val (.double df), .second, .val (.double sc), .second, .val (.ref b274), .val (.ref b296)] [(.ref b296), (.double d2)])) t
          refine XS.iconst X344.here hx rfl (hb hby at_320) ?_
          exact k
        have cq354 := f346
        obtain ⟨clq354, Arq354, qq354, Sq354, Nq354, Hq354, Gq354⟩ := cq354
        have hinq354 := inb_of (j := (2 : Int32)) Sq354 ⟨by decide, by decide⟩
        refine OwnGo.of (X344.daload hx (j := (2 : Int32)) (v := (.double d2)) Arq354.1 (State.isArrayOf_alike hZ.alike Arq354.2.1) Arq354.2.2 hinq354 (Hq354.at hinq354 rfl) (g := (mkF m 321 #[.val (.int p0), .val (.int p1), .val (.int p2), .val (.int p3), .val (.int p4), .val (.int p5), .val (.int (3 : Int32)), .val (.double d0), .second, .val (.double d1), .second, .val (.double d2), .second, .val (.double df), .second, .val (.double sc), .second, .val (.ref b274), .val (.ref b296)] [(.int (2 : Int32)), (.ref b296), (.double d2)])) rfl rfl (hb hby at_321)) ?_
        show OwnGo p.tables e below _ (T344.setTop (mkF m 322 #[.val (.int p0), .val (.int p1), .val (.int p2), .val (.int p3), .val (.int p4), .val (.int p5), .val (.int (3 : Int32)), .val (.double d0), .second, .val (.double d1), .second, .val (.double d2), .second, .val (.double df), .second, .val (.double sc), .second, .val (.ref b274), .val (.ref b296)] [(.double d2), (.double d2)]))
        refine OwnGo.of (A := T344.setTop (mkF m 322 #[.val (.int p0), .val (.int p1), .val (.int p2), .val (.int p3), .val (.int p4), .val (.int p5), .val (.int (3 : Int32)), .val (.double d0), .second, .val (.double d1), .second, .val (.double d2), .second, .val (.double df), .second, .val (.double sc), .second, .val (.ref b274), .val (.ref b296)] [(.double d2), (.double d2)])) (B := T344.setTop (mkF m 323 #[.val (.int p0), .val (.int p1), .val (.int p2), .val (.int p3), .val (.int p4), .val (.int p5), .val (.int (3 : Int32)), .val (.double d0), .second, .val (.double d1), .second, .val (.double d2), .second, .val (.double df), .second, .val (.double sc), .second, .val (.ref b274), .val (.ref b296)] [(.int (cmpValue (FP.dcmp d2 d2) .l))])) (fun t k => ?_) ?_
        · show Steps p.tables e below (T344.setTop (mkF m 322 #[.val (.int p0), .val (.int p1), .val (.int p2), .val (.int p3), .val (.int p4), .val (.int p5), .val (.int (3 : Int32)), .val (.double d0), .second, .val (.double d1), .second, .val (.double d2), .second, .val (.double df), .second, .val (.double sc), .second, .val (.ref b274), .val (.ref b296)] [(.double d2), (.double d2)])) t
          refine XS.dcmpS X344.here hx rfl (hb hby at_322) rfl rfl ?_
          exact k
        have hc355 : (cmpValue (FP.dcmp d2 d2) .l) = (0 : Int32) := dcmpV_self nd2 .l
        refine OwnGo.of (A := T344.setTop (mkF m 323 #[.val (.int p0), .val (.int p1), .val (.int p2), .val (.int p3), .val (.int p4), .val (.int p5), .val (.int (3 : Int32)), .val (.double d0), .second, .val (.double d1), .second, .val (.double d2), .second, .val (.double df), .second, .val (.double sc), .second, .val (.ref b274), .val (.ref b296)] [(.int (cmpValue (FP.dcmp d2 d2) .l))])) (B := T344.setTop (mkF m 329 #[.val (.int p0), .val (.int p1), .val (.int p2), .val (.int p3), .val (.int p4), .val (.int p5), .val (.int (3 : Int32)), .val (.double d0), .second, .val (.double d1), .second, .val (.double d2), .second, .val (.double df), .second, .val (.double sc), .second, .val (.ref b274), .val (.ref b296)] [(.int (3 : Int32)), (.ref b274)])) (fun t k => ?_) ?_
        · show Steps p.tables e below (T344.setTop (mkF m 323 #[.val (.int p0), .val (.int p1), .val (.int p2), .val (.int p3), .val (.int p4), .val (.int p5), .val (.int (3 : Int32)), .val (.double d0), .second, .val (.double d1), .second, .val (.double d2), .second, .val (.double df), .second, .val (.double sc), .second, .val (.ref b274), .val (.ref b296)] [(.int (cmpValue (FP.dcmp d2 d2) .l))])) t
          refine XS.ifNo X344.here hx rfl (hb hby at_323) rfl ((if0 _ _).trans (teq hc355).2) ?_
          show Steps p.tables e below (T344.setTop (mkF m 326 #[.val (.int p0), .val (.int p1), .val (.int p2), .val (.int p3), .val (.int p4), .val (.int p5), .val (.int (3 : Int32)), .val (.double d0), .second, .val (.double d1), .second, .val (.double d2), .second, .val (.double df), .second, .val (.double sc), .second, .val (.ref b274), .val (.ref b296)] [])) t
          refine XS.aload X344.here hx rfl (hb hby at_326) rfl rfl ?_
          show Steps p.tables e below (T344.setTop (mkF m 328 #[.val (.int p0), .val (.int p1), .val (.int p2), .val (.int p3), .val (.int p4), .val (.int p5), .val (.int (3 : Int32)), .val (.double d0), .second, .val (.double d1), .second, .val (.double d2), .second, .val (.double df), .second, .val (.double sc), .second, .val (.ref b274), .val (.ref b296)] [(.ref b274)])) t
          refine XS.iconst X344.here hx rfl (hb hby at_328) ?_
          exact k
        have cq356 := y344_0
        obtain ⟨clq356, Arq356, qq356, Sq356, Nq356, Hq356, Gq356⟩ := cq356
        have hinq356 := inb_of (j := (3 : Int32)) Sq356 ⟨by decide, by decide⟩
        refine OwnGo.of (X344.daload hx (j := (3 : Int32)) (v := (.double d1)) Arq356.1 (State.isArrayOf_alike hZ.alike Arq356.2.1) Arq356.2.2 hinq356 (Hq356.at hinq356 rfl) (g := (mkF m 329 #[.val (.int p0), .val (.int p1), .val (.int p2), .val (.int p3), .val (.int p4), .val (.int p5), .val (.int (3 : Int32)), .val (.double d0), .second, .val (.double d1), .second, .val (.double d2), .second, .val (.double df), .second, .val (.double sc), .second, .val (.ref b274), .val (.ref b296)] [(.int (3 : Int32)), (.ref b274)])) rfl rfl (hb hby at_329)) ?_
        show OwnGo p.tables e below _ (T344.setTop (mkF m 330 #[.val (.int p0), .val (.int p1), .val (.int p2), .val (.int p3), .val (.int p4), .val (.int p5), .val (.int (3 : Int32)), .val (.double d0), .second, .val (.double d1), .second, .val (.double d2), .second, .val (.double df), .second, .val (.double sc), .second, .val (.ref b274), .val (.ref b296)] [(.double d1)]))
        refine OwnGo.of (A := T344.setTop (mkF m 330 #[.val (.int p0), .val (.int p1), .val (.int p2), .val (.int p3), .val (.int p4), .val (.int p5), .val (.int (3 : Int32)), .val (.double d0), .second, .val (.double d1), .second, .val (.double d2), .second, .val (.double df), .second, .val (.double sc), .second, .val (.ref b274), .val (.ref b296)] [(.double d1)])) (B := T344.setTop (mkF m 333 #[.val (.int p0), .val (.int p1), .val (.int p2), .val (.int p3), .val (.int p4), .val (.int p5), .val (.int (3 : Int32)), .val (.double d0), .second, .val (.double d1), .second, .val (.double d2), .second, .val (.double df), .second, .val (.double sc), .second, .val (.ref b274), .val (.ref b296)] [(.int (3 : Int32)), (.ref b296), (.double d1)])) (fun t k => ?_) ?_
        · show Steps p.tables e below (T344.setTop (mkF m 330 #[.val (.int p0), .val (.int p1), .val (.int p2), .val (.int p3), .val (.int p4), .val (.int p5), .val (.int (3 : Int32)), .val (.double d0), .second, .val (.double d1), .second, .val (.double d2), .second, .val (.double df), .second, .val (.double sc), .second, .val (.ref b274), .val (.ref b296)] [(.double d1)])) t
          refine XS.aload X344.here hx rfl (hb hby at_330) rfl rfl ?_
          show Steps p.tables e below (T344.setTop (mkF m 332 #[.val (.int p0), .val (.int p1), .val (.int p2), .val (.int p3), .val (.int p4), .val (.int p5), .val (.int (3 : Int32)), .val (.double d0), .second, .val (.double d1), .second, .val (.double d2), .second, .val (.double df), .second, .val (.double sc), .second, .val (.ref b274), .val (.ref b296)] [(.ref b296), (.double d1)])) t
          refine XS.iconst X344.here hx rfl (hb hby at_332) ?_
          exact k
        have cq357 := f346
        obtain ⟨clq357, Arq357, qq357, Sq357, Nq357, Hq357, Gq357⟩ := cq357
        have hinq357 := inb_of (j := (3 : Int32)) Sq357 ⟨by decide, by decide⟩
        refine OwnGo.of (X344.daload hx (j := (3 : Int32)) (v := (.double d1)) Arq357.1 (State.isArrayOf_alike hZ.alike Arq357.2.1) Arq357.2.2 hinq357 (Hq357.at hinq357 rfl) (g := (mkF m 333 #[.val (.int p0), .val (.int p1), .val (.int p2), .val (.int p3), .val (.int p4), .val (.int p5), .val (.int (3 : Int32)), .val (.double d0), .second, .val (.double d1), .second, .val (.double d2), .second, .val (.double df), .second, .val (.double sc), .second, .val (.ref b274), .val (.ref b296)] [(.int (3 : Int32)), (.ref b296), (.double d1)])) rfl rfl (hb hby at_333)) ?_
        show OwnGo p.tables e below _ (T344.setTop (mkF m 334 #[.val (.int p0), .val (.int p1), .val (.int p2), .val (.int p3), .val (.int p4), .val (.int p5), .val (.int (3 : Int32)), .val (.double d0), .second, .val (.double d1), .second, .val (.double d2), .second, .val (.double df), .second, .val (.double sc), .second, .val (.ref b274), .val (.ref b296)] [(.double d1), (.double d1)]))
        refine OwnGo.of (A := T344.setTop (mkF m 334 #[.val (.int p0), .val (.int p1), .val (.int p2), .val (.int p3), .val (.int p4), .val (.int p5), .val (.int (3 : Int32)), .val (.double d0), .second, .val (.double d1), .second, .val (.double d2), .second, .val (.double df), .second, .val (.double sc), .second, .val (.ref b274), .val (.ref b296)] [(.double d1), (.double d1)])) (B := T344.setTop (mkF m 335 #[.val (.int p0), .val (.int p1), .val (.int p2), .val (.int p3), .val (.int p4), .val (.int p5), .val (.int (3 : Int32)), .val (.double d0), .second, .val (.double d1), .second, .val (.double d2), .second, .val (.double df), .second, .val (.double sc), .second, .val (.ref b274), .val (.ref b296)] [(.int (cmpValue (FP.dcmp d1 d1) .l))])) (fun t k => ?_) ?_
        · show Steps p.tables e below (T344.setTop (mkF m 334 #[.val (.int p0), .val (.int p1), .val (.int p2), .val (.int p3), .val (.int p4), .val (.int p5), .val (.int (3 : Int32)), .val (.double d0), .second, .val (.double d1), .second, .val (.double d2), .second, .val (.double df), .second, .val (.double sc), .second, .val (.ref b274), .val (.ref b296)] [(.double d1), (.double d1)])) t
          refine XS.dcmpS X344.here hx rfl (hb hby at_334) rfl rfl ?_
          exact k
        have hc358 : (cmpValue (FP.dcmp d1 d1) .l) = (0 : Int32) := dcmpV_self nd1 .l
        refine OwnGo.of (A := T344.setTop (mkF m 335 #[.val (.int p0), .val (.int p1), .val (.int p2), .val (.int p3), .val (.int p4), .val (.int p5), .val (.int (3 : Int32)), .val (.double d0), .second, .val (.double d1), .second, .val (.double d2), .second, .val (.double df), .second, .val (.double sc), .second, .val (.ref b274), .val (.ref b296)] [(.int (cmpValue (FP.dcmp d1 d1) .l))])) (B := T344.setTop (mkF m 343 #[.val (.int p0), .val (.int p1), .val (.int p2), .val (.int p3), .val (.int p4), .val (.int p5), .val (.int (3 : Int32)), .val (.double d0), .second, .val (.double d1), .second, .val (.double d2), .second, .val (.double df), .second, .val (.double sc), .second, .val (.ref b274), .val (.ref b296)] [(.int (1 : Int32))])) (fun t k => ?_) ?_
        · show Steps p.tables e below (T344.setTop (mkF m 335 #[.val (.int p0), .val (.int p1), .val (.int p2), .val (.int p3), .val (.int p4), .val (.int p5), .val (.int (3 : Int32)), .val (.double d0), .second, .val (.double d1), .second, .val (.double d2), .second, .val (.double df), .second, .val (.double sc), .second, .val (.ref b274), .val (.ref b296)] [(.int (cmpValue (FP.dcmp d1 d1) .l))])) t
          refine XS.ifNo X344.here hx rfl (hb hby at_335) rfl ((if0 _ _).trans (teq hc358).2) ?_
          show Steps p.tables e below (T344.setTop (mkF m 338 #[.val (.int p0), .val (.int p1), .val (.int p2), .val (.int p3), .val (.int p4), .val (.int p5), .val (.int (3 : Int32)), .val (.double d0), .second, .val (.double d1), .second, .val (.double d2), .second, .val (.double df), .second, .val (.double sc), .second, .val (.ref b274), .val (.ref b296)] [])) t
          refine XS.iconst X344.here hx rfl (hb hby at_338) ?_
          show Steps p.tables e below (T344.setTop (mkF m 339 #[.val (.int p0), .val (.int p1), .val (.int p2), .val (.int p3), .val (.int p4), .val (.int p5), .val (.int (3 : Int32)), .val (.double d0), .second, .val (.double d1), .second, .val (.double d2), .second, .val (.double df), .second, .val (.double sc), .second, .val (.ref b274), .val (.ref b296)] [(.int (1 : Int32))])) t
          refine XS.goto X344.here hx rfl (pc0 := 339) (pc' := 343) rfl (hb hby at_339) (by decide) (by decide) ?_
          exact k
        obtain ⟨fs, hr, hrun, hended, hW, hsame⟩ := X344.leave (v := some (.int (nar .boolean (1 : Int32)))) (fun h => by rw [Bd.returns] at h; cases h) hlk
        refine ⟨_, _, ?_, hrun, hended, _, _, rfl, ?_, ⟨_, rfl⟩, hW, hsame.mono (by decide) (by decide)⟩
        · show Steps p.tables e below (T344.setTop (mkF m 343 #[.val (.int p0), .val (.int p1), .val (.int p2), .val (.int p3), .val (.int p4), .val (.int p5), .val (.int (3 : Int32)), .val (.double d0), .second, .val (.double d1), .second, .val (.double d2), .second, .val (.double df), .second, .val (.double sc), .second, .val (.ref b274), .val (.ref b296)] [(.int (1 : Int32))])) _
          exact retN X344 hx (t := .boolean) Bd.returns (by simp) (hb hby at_343) hr
        · show Qrm0 Z p0 p1 p2 p3 p4 p5 h0 n0 _ (T344.setFrames fs).heap _
          rw [show (T344.setFrames fs).heap = T344.heap from rfl]
          exact ⟨rfl, N344⟩
      · refine OwnGo.of (A := T329.setTop (mkF m 248 #[.val (.int p0), .val (.int p1), .val (.int p2), .val (.int p3), .val (.int p4), .val (.int p5), .val (.int (3 : Int32)), .val (.double d0), .second, .val (.double d1), .second, .val (.double d2), .second, .val (.double df), .second, .val (.double sc), .second, .val (.ref b274), .val (.ref b296)] [(.int (cmpValue (FP.dcmp d0 sc) .l))])) (B := T329.setTop (mkF m 271 #[.val (.int p0), .val (.int p1), .val (.int p2), .val (.int p3), .val (.int p4), .val (.int p5), .val (.int (3 : Int32)), .val (.double d0), .second, .val (.double d1), .second, .val (.double d2), .second, .val (.double df), .second, .val (.double sc), .second, .val (.ref b274), .val (.ref b296)] [(.double sc), (.int (1 : Int32)), (.ref b296)])) (fun t k => ?_) ?_
        · show Steps p.tables e below (T329.setTop (mkF m 248 #[.val (.int p0), .val (.int p1), .val (.int p2), .val (.int p3), .val (.int p4), .val (.int p5), .val (.int (3 : Int32)), .val (.double d0), .second, .val (.double d1), .second, .val (.double d2), .second, .val (.double df), .second, .val (.double sc), .second, .val (.ref b274), .val (.ref b296)] [(.int (cmpValue (FP.dcmp d0 sc) .l))])) t
          refine XS.ifYes X329.here hx rfl (pc0 := 248) (pc' := 266) rfl (hb hby at_248) rfl ((if0 _ _).trans (flt hc333).2.2.2) (by decide) (by decide) ?_
          show Steps p.tables e below (T329.setTop (mkF m 266 #[.val (.int p0), .val (.int p1), .val (.int p2), .val (.int p3), .val (.int p4), .val (.int p5), .val (.int (3 : Int32)), .val (.double d0), .second, .val (.double d1), .second, .val (.double d2), .second, .val (.double df), .second, .val (.double sc), .second, .val (.ref b274), .val (.ref b296)] [])) t
          refine XS.aload X329.here hx rfl (hb hby at_266) rfl rfl ?_
          show Steps p.tables e below (T329.setTop (mkF m 268 #[.val (.int p0), .val (.int p1), .val (.int p2), .val (.int p3), .val (.int p4), .val (.int p5), .val (.int (3 : Int32)), .val (.double d0), .second, .val (.double d1), .second, .val (.double d2), .second, .val (.double df), .second, .val (.double sc), .second, .val (.ref b274), .val (.ref b296)] [(.ref b296)])) t
          refine XS.iconst X329.here hx rfl (hb hby at_268) ?_
          show Steps p.tables e below (T329.setTop (mkF m 269 #[.val (.int p0), .val (.int p1), .val (.int p2), .val (.int p3), .val (.int p4), .val (.int p5), .val (.int (3 : Int32)), .val (.double d0), .second, .val (.double d1), .second, .val (.double d2), .second, .val (.double df), .second, .val (.double sc), .second, .val (.ref b274), .val (.ref b296)] [(.int (1 : Int32)), (.ref b296)])) t
          refine XS.dload X329.here hx rfl (hb hby at_269) rfl ?_
          exact k
        have cq360 := f332
        obtain ⟨clq360, Arq360, qq360, Sq360, Nq360, Hq360, Gq360⟩ := cq360
        obtain ⟨T361, h361, X361, e361, W361, st361⟩ := stD X329 hx hZ e329 Arq360 (j := (1 : Int32)) (inb_of Sq360 ⟨by decide, by decide⟩) (g := (mkF m 271 #[.val (.int p0), .val (.int p1), .val (.int p2), .val (.int p3), .val (.int p4), .val (.int p5), .val (.int (3 : Int32)), .val (.double d0), .second, .val (.double d1), .second, .val (.double d2), .second, .val (.double df), .second, .val (.double sc), .second, .val (.ref b274), .val (.ref b296)] [(.double sc), (.int (1 : Int32)), (.ref b296)])) rfl rfl (hb hby at_271)
        refine OwnGo.of st361 ?_
        have N361 := Fr.snoc X361 N329 g_b296
        have f362 : n0 ≤ h361.size := Nat.le_trans f330 (Keep.of_wr W361).1
        have f363 : Arv Z h361 b274 k274 .double (4 : Int32) [(.double d0), (.double d1), (.double d2), (.double df)] (.double (0 : UInt64)) := f331.other W361 ne_b274_b296
        have f364 : Arv Z h361 b296 k296 .double (4 : Int32) [(.double d0), (.double sc), (.double d2), (.double d1)] (.double (0 : UInt64)) := Arv.set Arq360 qq360 Sq360 Nq360 Hq360 Gq360 rfl W361 1 rfl (Nat.le_of_ble_eq_true rfl)
        show OwnGo p.tables e below _ (T361.setTop (mkF m 272 #[.val (.int p0), .val (.int p1), .val (.int p2), .val (.int p3), .val (.int p4), .val (.int p5), .val (.int (3 : Int32)), .val (.double d0), .second, .val (.double d1), .second, .val (.double d2), .second, .val (.double df), .second, .val (.double sc), .second, .val (.ref b274), .val (.ref b296)] []))
        refine OwnGo.of (A := T361.setTop (mkF m 272 #[.val (.int p0), .val (.int p1), .val (.int p2), .val (.int p3), .val (.int p4), .val (.int p5), .val (.int (3 : Int32)), .val (.double d0), .second, .val (.double d1), .second, .val (.double d2), .second, .val (.double df), .second, .val (.double sc), .second, .val (.ref b274), .val (.ref b296)] [])) (B := T361.setTop (mkF m 287 #[.val (.int p0), .val (.int p1), .val (.int p2), .val (.int p3), .val (.int p4), .val (.int p5), .val (.int (3 : Int32)), .val (.double d0), .second, .val (.double d1), .second, .val (.double d2), .second, .val (.double df), .second, .val (.double sc), .second, .val (.ref b274), .val (.ref b296)] [(.double sc), (.int (3 : Int32)), (.ref b274)])) (fun t k => ?_) ?_
        · show Steps p.tables e below (T361.setTop (mkF m 272 #[.val (.int p0), .val (.int p1), .val (.int p2), .val (.int p3), .val (.int p4), .val (.int p5), .val (.int (3 : Int32)), .val (.double d0), .second, .val (.double d1), .second, .val (.double d2), .second, .val (.double df), .second, .val (.double sc), .second, .val (.ref b274), .val (.ref b296)] [])) t
          refine XS.goto X361.here hx rfl (pc0 := 272) (pc' := 281) rfl (hb hby at_272) (by decide) (by decide) ?_
          show Steps p.tables e below (T361.setTop (mkF m 281 #[.val (.int p0), .val (.int p1), .val (.int p2), .val (.int p3), .val (.int p4), .val (.int p5), .val (.int (3 : Int32)), .val (.double d0), .second, .val (.double d1), .second, .val (.double d2), .second, .val (.double df), .second, .val (.double sc), .second, .val (.ref b274), .val (.ref b296)] [])) t
          refine XS.aload X361.here hx rfl (hb hby at_281) rfl rfl ?_
          show Steps p.tables e below (T361.setTop (mkF m 283 #[.val (.int p0), .val (.int p1), .val (.int p2), .val (.int p3), .val (.int p4), .val (.int p5), .val (.int (3 : Int32)), .val (.double d0), .second, .val (.double d1), .second, .val (.double d2), .second, .val (.double df), .second, .val (.double sc), .second, .val (.ref b274), .val (.ref b296)] [(.ref b274)])) t
          refine XS.iload X361.here hx rfl (hb hby at_283) rfl ?_
          show Steps p.tables e below (T361.setTop (mkF m 285 #[.val (.int p0), .val (.int p1), .val (.int p2), .val (.int p3), .val (.int p4), .val (.int p5), .val (.int (3 : Int32)), .val (.double d0), .second, .val (.double d1), .second, .val (.double d2), .second, .val (.double df), .second, .val (.double sc), .second, .val (.ref b274), .val (.ref b296)] [(.int (3 : Int32)), (.ref b274)])) t
          refine XS.dload X361.here hx rfl (hb hby at_285) rfl ?_
          exact k
        obtain ⟨T365, L365, v365, X365, hQ365, st365⟩ := own_callS X361 hx (y := (⟨"com/example/rankwright/rankwright/rank/Accumulator", "siftUp", "([DID)V"⟩ : MethodName)) hown (mvT hZ (hw _ (List.mem_of_getElem? (i := 2) rfl))) (mvT hZ (hw _ (List.mem_of_getElem? (i := 3) rfl))) (mvT hZ (hw _ (List.mem_of_getElem? (i := 4) rfl))) (mvT hZ (hw _ (List.mem_of_getElem? (i := 5) rfl))) (by decide) (backOf (W := 0) (rm1_3tf l Z aw hw [] b274 sc d0 d1 d2 df k274 h361 n0 f362 f363 g_b274 hc327 hc333) hZ (hw _ (List.mem_of_getElem? (i := 5) rfl)) (hw _ (List.mem_of_getElem? (i := 4) rfl)) (by decide) (by decide)) (g := (mkF m 287 #[.val (.int p0), .val (.int p1), .val (.int p2), .val (.int p3), .val (.int p4), .val (.int p5), .val (.int (3 : Int32)), .val (.double d0), .second, .val (.double d1), .second, .val (.double d2), .second, .val (.double df), .second, .val (.double sc), .second, .val (.ref b274), .val (.ref b296)] [(.double sc), (.int (3 : Int32)), (.ref b274)])) rfl (by rw [hml]; rfl) (argsL := [(.ref b274), (.int (3 : Int32)), (.double sc)]) (rest := []) (lenOf pd_1 rfl) rfl (by show 2 * 0 + _ ≤ _; exact Nat.le_of_eq rfl) (hb hby at_287) rfl e361 (by decide) (by decide)
        obtain ⟨rfl, N365q, K365, y365_0⟩ := hQ365
        have f366 : n0 ≤ T365.heap.size := Nat.le_trans f362 K365.1
        have f367 : Arv Z T365.heap b296 k296 .double (4 : Int32) [(.double d0), (.double sc), (.double d2), (.double d1)] (.double (0 : UInt64)) := f364.keep K365 (ninS (Ne.symm ne_b274_b296) nin0)
        have N365 := Fr.app N361 N365q
        refine OwnGo.of st365 ?_
        show OwnGo p.tables e below _ (T365.setTop (mkF m 290 #[.val (.int p0), .val (.int p1), .val (.int p2), .val (.int p3), .val (.int p4), .val (.int p5), .val (.int (3 : Int32)), .val (.double d0), .second, .val (.double d1), .second, .val (.double d2), .second, .val (.double df), .second, .val (.double sc), .second, .val (.ref b274), .val (.ref b296)] []))
        refine OwnGo.of (A := T365.setTop (mkF m 290 #[.val (.int p0), .val (.int p1), .val (.int p2), .val (.int p3), .val (.int p4), .val (.int p5), .val (.int (3 : Int32)), .val (.double d0), .second, .val (.double d1), .second, .val (.double d2), .second, .val (.double df), .second, .val (.double sc), .second, .val (.ref b274), .val (.ref b296)] [])) (B := T365.setTop (mkF m 293 #[.val (.int p0), .val (.int p1), .val (.int p2), .val (.int p3), .val (.int p4), .val (.int p5), .val (.int (3 : Int32)), .val (.double d0), .second, .val (.double d1), .second, .val (.double d2), .second, .val (.double df), .second, .val (.double sc), .second, .val (.ref b274), .val (.ref b296)] [(.int (0 : Int32)), (.ref b274)])) (fun t k => ?_) ?_
        · show Steps p.tables e below (T365.setTop (mkF m 290 #[.val (.int p0), .val (.int p1), .val (.int p2), .val (.int p3), .val (.int p4), .val (.int p5), .val (.int (3 : Int32)), .val (.double d0), .second, .val (.double d1), .second, .val (.double d2), .second, .val (.double df), .second, .val (.double sc), .second, .val (.ref b274), .val (.ref b296)] [])) t
          refine XS.aload X365.here hx rfl (hb hby at_290) rfl rfl ?_
          show Steps p.tables e below (T365.setTop (mkF m 292 #[.val (.int p0), .val (.int p1), .val (.int p2), .val (.int p3), .val (.int p4), .val (.int p5), .val (.int (3 : Int32)), .val (.double d0), .second, .val (.double d1), .second, .val (.double d2), .second, .val (.double df), .second, .val (.double sc), .second, .val (.ref b274), .val (.ref b296)] [(.ref b274)])) t
          refine XS.iconst X365.here hx rfl (hb hby at_292) ?_
          exact k
        have cq368 := y365_0
        obtain ⟨clq368, Arq368, qq368, Sq368, Nq368, Hq368, Gq368⟩ := cq368
        have hinq368 := inb_of (j := (0 : Int32)) Sq368 ⟨by decide, by decide⟩
        refine OwnGo.of (X365.daload hx (j := (0 : Int32)) (v := (.double d0)) Arq368.1 (State.isArrayOf_alike hZ.alike Arq368.2.1) Arq368.2.2 hinq368 (Hq368.at hinq368 rfl) (g := (mkF m 293 #[.val (.int p0), .val (.int p1), .val (.int p2), .val (.int p3), .val (.int p4), .val (.int p5), .val (.int (3 : Int32)), .val (.double d0), .second, .val (.double d1), .second, .val (.double d2), .second, .val (.double df), .second, .val (.double sc), .second, .val (.ref b274), .val (.ref b296)] [(.int (0 : Int32)), (.ref b274)])) rfl rfl (hb hby at_293)) ?_
        show OwnGo p.tables e below _ (T365.setTop (mkF m 294 #[.val (.int p0), .val (.int p1), .val (.int p2), .val (.int p3), .val (.int p4), .val (.int p5), .val (.int (3 : Int32)), .val (.double d0), .second, .val (.double d1), .second, .val (.double d2), .second, .val (.double df), .second, .val (.double sc), .second, .val (.ref b274), .val (.ref b296)] [(.double d0)]))
        refine OwnGo.of (A := T365.setTop (mkF m 294 #[.val (.int p0), .val (.int p1), .val (.int p2), .val (.int p3), .val (.int p4), .val (.int p5), .val (.int (3 : Int32)), .val (.double d0), .second, .val (.double d1), .second, .val (.double d2), .second, .val (.double df), .second, .val (.double sc), .second, .val (.ref b274), .val (.ref b296)] [(.double d0)])) (B := T365.setTop (mkF m 297 #[.val (.int p0), .val (.int p1), .val (.int p2), .val (.int p3), .val (.int p4), .val (.int p5), .val (.int (3 : Int32)), .val (.double d0), .second, .val (.double d1), .second, .val (.double d2), .second, .val (.double df), .second, .val (.double sc), .second, .val (.ref b274), .val (.ref b296)] [(.int (0 : Int32)), (.ref b296), (.double d0)])) (fun t k => ?_) ?_
        · show Steps p.tables e below (T365.setTop (mkF m 294 #[.val (.int p0), .val (.int p1), .val (.int p2), .val (.int p3), .val (.int p4), .val (.int p5), .val (.int (3 : Int32)), .val (.double d0), .second, .val (.double d1), .second, .val (.double d2), .second, .val (.double df), .second, .val (.double sc), .second, .val (.ref b274), .val (.ref b296)] [(.double d0)])) t
          refine XS.aload X365.here hx rfl (hb hby at_294) rfl rfl ?_
          show Steps p.tables e below (T365.setTop (mkF m 296 #[.val (.int p0), .val (.int p1), .val (.int p2), .val (.int p3), .val (.int p4), .val (.int p5), .val (.int (3 : Int32)), .val (.double d0), .second, .val (.double d1), .second, .val (.double d2), .second, .val (.double df), .second, .val (.double sc), .second, .val (.ref b274), .val (.ref b296)] [(.ref b296), (.double d0)])) t
          refine XS.iconst X365.here hx rfl (hb hby at_296) ?_
          exact k
        have cq369 := f367
        obtain ⟨clq369, Arq369, qq369, Sq369, Nq369, Hq369, Gq369⟩ := cq369
        have hinq369 := inb_of (j := (0 : Int32)) Sq369 ⟨by decide, by decide⟩
        refine OwnGo.of (X365.daload hx (j := (0 : Int32)) (v := (.double d0)) Arq369.1 (State.isArrayOf_alike hZ.alike Arq369.2.1) Arq369.2.2 hinq369 (Hq369.at hinq369 rfl) (g := (mkF m 297 #[.val (.int p0), .val (.int p1), .val (.int p2), .val (.int p3), .val (.int p4), .val (.int p5), .val (.int (3 : Int32)), .val (.double d0), .second, .val (.double d1), .second, .val (.double d2), .second, .val (.double df), .second, .val (.double sc), .second, .val (.ref b274), .val (.ref b296)] [(.int (0 : Int32)), (.ref b296), (.double d0)])) rfl rfl (hb hby at_297)) ?_
        show OwnGo p.tables e below _ (T365.setTop (mkF m 298 #[.val (.int p0), .val (.int p1), .val (.int p2), .val (.int p3), .val (.int p4), .val (.int p5), .val (.int (3 : Int32)), .val (.double d0), .second, .val (.double d1), .second, .val (.double d2), .second, .val (.double df), .second, .val (.double sc), .second, .val (.ref b274), .val (.ref b296)] [(.double d0), (.double d0)]))
        refine OwnGo.of (A := T365.setTop (mkF m 298 #[.val (.int p0), .val (.int p1), .val (.int p2), .val (.int p3), .val (.int p4), .val (.int p5), .val (.int (3 : Int32)), .val (.double d0), .second, .val (.double d1), .second, .val (.double d2), .second, .val (.double df), .second, .val (.double sc), .second, .val (.ref b274), .val (.ref b296)] [(.double d0), (.double d0)])) (B := T365.setTop (mkF m 299 #[.val (.int p0), .val (.int p1), .val (.int p2), .val (.int p3), .val (.int p4), .val (.int p5), .val (.int (3 : Int32)), .val (.double d0), .second, .val (.double d1), .second, .val (.double d2), .second, .val (.double df), .second, .val (.double sc), .second, .val (.ref b274), .val (.ref b296)] [(.int (cmpValue (FP.dcmp d0 d0) .l))])) (fun t k => ?_) ?_
        · show Steps p.tables e below (T365.setTop (mkF m 298 #[.val (.int p0), .val (.int p1), .val (.int p2), .val (.int p3), .val (.int p4), .val (.int p5), .val (.int (3 : Int32)), .val (.double d0), .second, .val (.double d1), .second, .val (.double d2), .second, .val (.double df), .second, .val (.double sc), .second, .val (.ref b274), .val (.ref b296)] [(.double d0), (.double d0)])) t
          refine XS.dcmpS X365.here hx rfl (hb hby at_298) rfl rfl ?_
          exact k
        have hc370 : (cmpValue (FP.dcmp d0 d0) .l) = (0 : Int32) := dcmpV_self nd0 .l
        refine OwnGo.of (A := T365.setTop (mkF m 299 #[.val (.int p0), .val (.int p1), .val (.int p2), .val (.int p3), .val (.int p4), .val (.int p5), .val (.int (3 : Int32)), .val (.double d0), .second, .val (.double d1), .second, .val (.double d2), .second, .val (.double df), .second, .val (.double sc), .second, .val (.ref b274), .val (.ref b296)] [(.int (cmpValue (FP.dcmp d0 d0) .l))])) (B := T365.setTop (mkF m 305 #[.val (.int p0), .val (.int p1), .val (.int p2), .val (.int p3), .val (.int p4), .val (.int p5), .val (.int (3 : Int32)), .val (.double d0), .second, .val (.double d1), .second, .val (.double d2), .second, .val (.double df), .second, .val (.double sc), .second, .val (.ref b274), .val (.ref b296)] [(.int (1 : Int32)), (.ref b274)])) (fun t k => ?_) ?_
        · show Steps p.tables e below (T365.setTop (mkF m 299 #[.val (.int p0), .val (.int p1), .val (.int p2), .val (.int p3), .val (.int p4), .val (.int p5), .val (.int (3 : Int32)), .val (.double d0), .second, .val (.double d1), .second, .val (.double d2), .second, .val (.double df), .second, .val (.double sc), .second, .val (.ref b274), .val (.ref b296)] [(.int (cmpValue (FP.dcmp d0 d0) .l))])) t
          refine XS.ifNo X365.here hx rfl (hb hby at_299) rfl ((if0 _ _).trans (teq hc370).2) ?_
          show Steps p.tables e below (T365.setTop (mkF m 302 #[.val (.int p0), .val (.int p1), .val (.int p2), .val (.int p3), .val (.int p4), .val (.int p5), .val (.int (3 : Int32)), .val (.double d0), .second, .val (.double d1), .second, .val (.double d2), .second, .val (.double df), .second, .val (.double sc), .second, .val (.ref b274), .val (.ref b296)] [])) t
          refine XS.aload X365.here hx rfl (hb hby at_302) rfl rfl ?_
          show Steps p.tables e below (T365.setTop (mkF m 304 #[.val (.int p0), .val (.int p1), .val (.int p2), .val (.int p3), .val (.int p4), .val (.int p5), .val (.int (3 : Int32)), .val (.double d0), .second, .val (.double d1), .second, .val (.double d2), .second, .val (.double df), .second, .val (.double sc), .second, .val (.ref b274), .val (.ref b296)] [(.ref b274)])) t
          refine XS.iconst X365.here hx rfl (hb hby at_304) ?_
          exact k
        have cq371 := y365_0
        obtain ⟨clq371, Arq371, qq371, Sq371, Nq371, Hq371, Gq371⟩ := cq371
        have hinq371 := inb_of (j := (1 : Int32)) Sq371 ⟨by decide, by decide⟩
        refine OwnGo.of (X365.daload hx (j := (1 : Int32)) (v := (.double sc)) Arq371.1 (State.isArrayOf_alike hZ.alike Arq371.2.1) Arq371.2.2 hinq371 (Hq371.at hinq371 rfl) (g := (mkF m 305 #[.val (.int p0), .val (.int p1), .val (.int p2), .val (.int p3), .val (.int p4), .val (.int p5), .val (.int (3 : Int32)), .val (.double d0), .second, .val (.double d1), .second, .val (.double d2), .second, .val (.double df), .second, .val (.double sc), .second, .val (.ref b274), .val (.ref b296)] [(.int (1 : Int32)), (.ref b274)])) rfl rfl (hb hby at_305)) ?_
        show OwnGo p.tables e below _ (T365.setTop (mkF m 306 #[.val (.int p0), .val (.int p1), .val (.int p2), .val (.int p3), .val (.int p4), .val (.int p5), .val (.int (3 : Int32)), .val (.double d0), .second, .val (.double d1), .second, .val (.double d2), .second, .val (.double df), .second, .val (.double sc), .second, .val (.ref b274), .val (.ref b296)] [(.double sc)]))
        refine OwnGo.of (A := T365.setTop (mkF m 306 #[.val (.int p0), .val (.int p1), .val (.int p2), .val (.int p3), .val (.int p4), .val (.int p5), .val (.int (3 : Int32)), .val (.double d0), .second, .val (.double d1), .second, .val (.double d2), .second, .val (.double df), .second, .val (.double sc), .second, .val (.ref b274), .val (.ref b296)] [(.double sc)])) (B := T365.setTop (mkF m 309 #[.val (.int p0), .val (.int p1), .val (.int p2), .val (.int p3), .val (.int p4), .val (.int p5), .val (.int (3 : Int32)), .val (.double d0), .second, .val (.double d1), .second, .val (.double d2), .second, .val (.double df), .second, .val (.double sc), .second, .val (.ref b274), .val (.ref b296)] [(.int (1 : Int32)), (.ref b296), (.double sc)])) (fun t k => ?_) ?_
        · show Steps p.tables e below (T365.setTop (mkF m 306 #[.val (.int p0), .val (.int p1), .val (.int p2), .val (.int p3), .val (.int p4), .val (.int p5), .val (.int (3 : Int32)), .val (.double d0), .second, .val (.double d1), .second, .val (.double d2), .second, .val (.double df), .second, .val (.double sc), .second, .val (.ref b274), .val (.ref b296)] [(.double sc)])) t
          refine XS.aload X365.here hx rfl (hb hby at_306) rfl rfl ?_
          show Steps p.tables e below (T365.setTop (mkF m 308 #[.val (.int p0), .val (.int p1), .val (.int p2), .val (.int p3), .val (.int p4), .val (.int p5), .val (.int (3 : Int32)), .val (.double d0), .second, .val (.double d1), .second, .val (.double d2), .second, .val (.double df), .second, .val (.double sc), .second, .val (.ref b274), .val (.ref b296)] [(.ref b296), (.double sc)])) t
          refine XS.iconst X365.here hx rfl (hb hby at_308) ?_
          exact k
        have cq372 := f367
        obtain ⟨clq372, Arq372, qq372, Sq372, Nq372, Hq372, Gq372⟩ := cq372
        have hinq372 := inb_of (j := (1 : Int32)) Sq372 ⟨by decide, by decide⟩
        refine OwnGo.of (X365.daload hx (j := (1 : Int32)) (v := (.double sc)) Arq372.1 (State.isArrayOf_alike hZ.alike Arq372.2.1) Arq372.2.2 hinq372 (Hq372.at hinq372 rfl) (g := (mkF m 309 #[.val (.int p0), .val (.int p1), .val (.int p2), .val (.int p3), .val (.int p4), .val (.int p5), .val (.int (3 : Int32)), .val (.double d0), .second, .val (.double d1), .second, .val (.double d2), .second, .val (.double df), .second, .val (.double sc), .second, .val (.ref b274), .val (.ref b296)] [(.int (1 : Int32)), (.ref b296), (.double sc)])) rfl rfl (hb hby at_309)) ?_
        show OwnGo p.tables e below _ (T365.setTop (mkF m 310 #[.val (.int p0), .val (.int p1), .val (.int p2), .val (.int p3), .val (.int p4), .val (.int p5), .val (.int (3 : Int32)), .val (.double d0), .second, .val (.double d1), .second, .val (.double d2), .second, .val (.double df), .second, .val (.double sc), .second, .val (.ref b274), .val (.ref b296)] [(.double sc), (.double sc)]))
        refine OwnGo.of (A := T365.setTop (mkF m 310 #[.val (.int p0), .val (.int p1), .val (.int p2), .val (.int p3), .val (.int p4), .val (.int p5), .val (.int (3 : Int32)), .val (.double d0), .second, .val (.double d1), .second, .val (.double d2), .second, .val (.double df), .second, .val (.double sc), .second, .val (.ref b274), .val (.ref b296)] [(.double sc), (.double sc)])) (B := T365.setTop (mkF m 311 #[.val (.int p0), .val (.int p1), .val (.int p2), .val (.int p3), .val (.int p4), .val (.int p5), .val (.int (3 : Int32)), .val (.double d0), .second, .val (.double d1), .second, .val (.double d2), .second, .val (.double df), .second, .val (.double sc), .second, .val (.ref b274), .val (.ref b296)] [(.int (cmpValue (FP.dcmp sc sc) .l))])) (fun t k => ?_) ?_
        · show Steps p.tables e below (T365.setTop (mkF m 310 #[.val (.int p0), .val (.int p1), .val (.int p2), .val (.int p3), .val (.int p4), .val (.int p5), .val (.int (3 : Int32)), .val (.double d0), .second, .val (.double d1), .second, .val (.double d2), .second, .val (.double df), .second, .val (.double sc), .second, .val (.ref b274), .val (.ref b296)] [(.double sc), (.double sc)])) t
          refine XS.dcmpS X365.here hx rfl (hb hby at_310) rfl rfl ?_
          exact k
        have hc373 : (cmpValue (FP.dcmp sc sc) .l) = (0 : Int32) := dcmpV_self nsc .l
        refine OwnGo.of (A := T365.setTop (mkF m 311 #[.val (.int p0), .val (.int p1), .val (.int p2), .val (.int p3), .val (.int p4), .val (.int p5), .val (.int (3 : Int32)), .val (.double d0), .second, .val (.double d1), .second, .val (.double d2), .second, .val (.double df), .second, .val (.double sc), .second, .val (.ref b274), .val (.ref b296)] [(.int (cmpValue (FP.dcmp sc sc) .l))])) (B := T365.setTop (mkF m 317 #[.val (.int p0), .val (.int p1), .val (.int p2), .val (.int p3), .val (.int p4), .val (.int p5), .val (.int (3 : Int32)), .val (.double d0), .second, .val (.double d1), .second, .val (.double d2), .second, .val (.double df), .second, .val (.double sc), .second, .val (.ref b274), .val (.ref b296)] [(.int (2 : Int32)), (.ref b274)])) (fun t k => ?_) ?_
        · show Steps p.tables e below (T365.setTop (mkF m 311 #[.val (.int p0), .val (.int p1), .val (.int p2), .val (.int p3), .val (.int p4), .val (.int p5), .val (.int (3 : Int32)), .val (.double d0), .second, .val (.double d1), .second, .val (.double d2), .second, .val (.double df), .second, .val (.double sc), .second, .val (.ref b274), .val (.ref b296)] [(.int (cmpValue (FP.dcmp sc sc) .l))])) t
          refine XS.ifNo X365.here hx rfl (hb hby at_311) rfl ((if0 _ _).trans (teq hc373).2) ?_
          show Steps p.tables e below (T365.setTop (mkF m 314 #[.val (.int p0), .val (.int p1), .val (.int p2), .val (.int p3), .val (.int p4), .val (.int p5), .val (.int (3 : Int32)), .val (.double d0), .second, .val (.double d1), .second, .val (.double d2), .second, .val (.double df), .second, .val (.double sc), .second, .val (.ref b274), .val (.ref b296)] [])) t
          refine XS.aload X365.here hx rfl (hb hby at_314) rfl rfl ?_
          show Steps p.tables e below (T365.setTop (mkF m 316 #[.val (.int p0), .val (.int p1), .val (.int p2), .val (.int p3), .val (.int p4), .val (.int p5), .val (.int (3 : Int32)), .val (.double d0), .second, .val (.double d1), .second, .val (.double d2), .second, .val (.double df), .second, .val (.double sc), .second, .val (.ref b274), .val (.ref b296)] [(.ref b274)])) t
          refine XS.iconst X365.here hx rfl (hb hby at_316) ?_
          exact k
        have cq374 := y365_0
        obtain ⟨clq374, Arq374, qq374, Sq374, Nq374, Hq374, Gq374⟩ := cq374
        have hinq374 := inb_of (j := (2 : Int32)) Sq374 ⟨by decide, by decide⟩
        refine OwnGo.of (X365.daload hx (j := (2 : Int32)) (v := (.double d2)) Arq374.1 (State.isArrayOf_alike hZ.alike Arq374.2.1) Arq374.2.2 hinq374 (Hq374.at hinq374 rfl) (g := (mkF m 317 #[.val (.int p0), .val (.int p1), .val (.int p2), .val (.int p3), .val (.int p4), .val (.int p5), .val (.int (3 : Int32)), .val (.double d0), .second, .val (.double d1), .second, .val (.double d2), .second, .val (.double df), .second, .val (.double sc), .second, .val (.ref b274), .val (.ref b296)] [(.int (2 : Int32)), (.ref b274)])) rfl rfl (hb hby at_317)) ?_
        show OwnGo p.tables e below _ (T365.setTop (mkF m 318 #[.val (.int p0), .val (.int p1), .val (.int p2), .val (.int p3), .val (.int p4), .val (.int p5), .val (.int (3 : Int32)), .val (.double d0), .second, .val (.double d1), .second, .val (.double d2), .second, .val (.double df), .second, .val (.double sc), .second, .val (.ref b274), .val (.ref b296)] [(.double d2)]))
        refine OwnGo.of (A := T365.setTop (mkF m 318 #[.val (.int p0), .val (.int p1), .val (.int p2), .val (.int p3), .val (.int p4), .val (.int p5), .val (.int (3 : Int32)), .val (.double d0), .second, .val (.double d1), .second, .val (.double d2), .second, .val (.double df), .second, .val (.double sc), .second, .val (.ref b274), .val (.ref b296)] [(.double d2)])) (B := T365.setTop (mkF m 321 #[.val (.int p0), .val (.int p1), .val (.int p2), .val (.int p3), .val (.int p4), .val (.int p5), .val (.int (3 : Int32)), .val (.double d0), .second, .val (.double d1), .second, .val (.double d2), .second, .val (.double df), .second, .val (.double sc), .second, .val (.ref b274), .val (.ref b296)] [(.int (2 : Int32)), (.ref b296), (.double d2)])) (fun t k => ?_) ?_
        · show Steps p.tables e below (T365.setTop (mkF m 318 #[.val (.int p0), .val (.int p1), .val (.int p2), .val (.int p3), .val (.int p4), .val (.int p5), .val (.int (3 : Int32)), .val (.double d0), .second, .val (.double d1), .second, .val (.double d2), .second, .val (.double df), .second, .val (.double sc), .second, .val (.ref b274), .val (.ref b296)] [(.double d2)])) t
          refine XS.aload X365.here hx rfl (hb hby at_318) rfl rfl ?_
          show Steps p.tables e below (T365.setTop (mkF m 320 #[.val (.int p0), .val (.int p1), .val (.int p2), .val (.int p3), .val (.int p4), .val (.int p5), .val (.int (3 : Int32)), .val (.double d0), .second, .val (.double d1), .second, .val (.double d2), .second, .val (.double df), .second, .val (.double sc), .second, .val (.ref b274), .val (.ref b296)] [(.ref b296), (.double d2)])) t
          refine XS.iconst X365.here hx rfl (hb hby at_320) ?_
          exact k
        have cq375 := f367
        obtain ⟨clq375, Arq375, qq375, Sq375, Nq375, Hq375, Gq375⟩ := cq375
        have hinq375 := inb_of (j := (2 : Int32)) Sq375 ⟨by decide, by decide⟩
        refine OwnGo.of (X365.daload hx (j := (2 : Int32)) (v := (.double d2)) Arq375.1 (State.isArrayOf_alike hZ.alike Arq375.2.1) Arq375.2.2 hinq375 (Hq375.at hinq375 rfl) (g := (mkF m 321 #[.val (.int p0), .val (.int p1), .val (.int p2), .val (.int p3), .val (.int p4), .val (.int p5), .val (.int (3 : Int32)), .val (.double d0), .second, .val (.double d1), .second, .val (.double d2), .second, .val (.double df), .second, .val (.double sc), .second, .val (.ref b274), .val (.ref b296)] [(.int (2 : Int32)), (.ref b296), (.double d2)])) rfl rfl (hb hby at_321)) ?_
        show OwnGo p.tables e below _ (T365.setTop (mkF m 322 #[.val (.int p0), .val (.int p1), .val (.int p2), .val (.int p3), .val (.int p4), .val (.int p5), .val (.int (3 : Int32)), .val (.double d0), .second, .val (.double d1), .second, .val (.double d2), .second, .val (.double df), .second, .val (.double sc), .second, .val (.ref b274), .val (.ref b296)] [(.double d2), (.double d2)]))
        refine OwnGo.of (A := T365.setTop (mkF m 322 #[.val (.int p0), .val (.int p1), .val (.int p2), .val (.int p3), .val (.int p4), .val (.int p5), .val (.int (3 : Int32)), .val (.double d0), .second, .val (.double d1), .second, .val (.double d2), .second, .val (.double df), .second, .val (.double sc), .second, .val (.ref b274), .val (.ref b296)] [(.double d2), (.double d2)])) (B := T365.setTop (mkF m 323 #[.val (.int p0), .val (.int p1), .val (.int p2), .val (.int p3), .val (.int p4), .val (.int p5), .val (.int (3 : Int32)), .val (.double d0), .second, .val (.double d1), .second, .val (.double d2), .second, .val (.double df), .second, .val (.double sc), .second, .val (.ref b274), .val (.ref b296)] [(.int (cmpValue (FP.dcmp d2 d2) .l))])) (fun t k => ?_) ?_
        · show Steps p.tables e below (T365.setTop (mkF m 322 #[.val (.int p0), .val (.int p1), .val (.int p2), .val (.int p3), .val (.int p4), .val (.int p5), .val (.int (3 : Int32)), .val (.double d0), .second, .val (.double d1), .second, .val (.double d2), .second, .val (.double df), .second, .val (.double sc), .second, .val (.ref b274), .val (.ref b296)] [(.double d2), (.double d2)])) t
          refine XS.dcmpS X365.here hx rfl (hb hby at_322) rfl rfl ?_
          exact k
        have hc376 : (cmpValue (FP.dcmp d2 d2) .l) = (0 : Int32) := dcmpV_self nd2 .l
        refine OwnGo.of (A := T365.setTop (mkF m 323 #[.val (.int p0), .val (.int p1), .val (.int p2), .val (.int p3), .val (.int p4), .val (.int p5), .val (.int (3 : Int32)), .val (.double d0), .second, .val (.double d1), .second, .val (.double d2), .second, .val (.double df), .second, .val (.double sc), .second, .val (.ref b274), .val (.ref b296)] [(.int (cmpValue (FP.dcmp d2 d2) .l))])) (B := T365.setTop (mkF m 329 #[.val (.int p0), .val (.int p1), .val (.int p2), .val (.int p3), .val (.int p4), .val (.int p5), .val (.int (3 : Int32)), .val (.double d0), .second, .val (.double d1), .second, .val (.double d2), .second, .val (.double df), .second, .val (.double sc), .second, .val (.ref b274), .val (.ref b296)] [(.int (3 : Int32)), (.ref b274)])) (fun t k => ?_) ?_
        · show Steps p.tables e below (T365.setTop (mkF m 323 #[.val (.int p0), .val (.int p1), .val (.int p2), .val (.int p3), .val (.int p4), .val (.int p5), .val (.int (3 : Int32)), .val (.double d0), .second, .val (.double d1), .second, .val (.double d2), .second, .val (.double df), .second, .val (.double sc), .second, .val (.ref b274), .val (.ref b296)] [(.int (cmpValue (FP.dcmp d2 d2) .l))])) t
          refine XS.ifNo X365.here hx rfl (hb hby at_323) rfl ((if0 _ _).trans (teq hc376).2) ?_
          show Steps p.tables e below (T365.setTop (mkF m 326 #[.val (.int p0), .val (.int p1), .val (.int p2), .val (.int p3), .val (.int p4), .val (.int p5), .val (.int (3 : Int32)), .val (.double d0), .second, .val (.double d1), .second, .val (.double d2), .second, .val (.double df), .second, .val (.double sc), .second, .val (.ref b274), .val (.ref b296)] [])) t
          refine XS.aload X365.here hx rfl (hb hby at_326) rfl rfl ?_
          show Steps p.tables e below (T365.setTop (mkF m 328 #[.val (.int p0), .val (.int p1), .val (.int p2), .val (.int p3), .val (.int p4), .val (.int p5), .val (.int (3 : Int32)), .val (.double d0), .second, .val (.double d1), .second, .val (.double d2), .second, .val (.double df), .second, .val (.double sc), .second, .val (.ref b274), .val (.ref b296)] [(.ref b274)])) t
          refine XS.iconst X365.here hx rfl (hb hby at_328) ?_
          exact k
        have cq377 := y365_0
        obtain ⟨clq377, Arq377, qq377, Sq377, Nq377, Hq377, Gq377⟩ := cq377
        have hinq377 := inb_of (j := (3 : Int32)) Sq377 ⟨by decide, by decide⟩
        refine OwnGo.of (X365.daload hx (j := (3 : Int32)) (v := (.double d1)) Arq377.1 (State.isArrayOf_alike hZ.alike Arq377.2.1) Arq377.2.2 hinq377 (Hq377.at hinq377 rfl) (g := (mkF m 329 #[.val (.int p0), .val (.int p1), .val (.int p2), .val (.int p3), .val (.int p4), .val (.int p5), .val (.int (3 : Int32)), .val (.double d0), .second, .val (.double d1), .second, .val (.double d2), .second, .val (.double df), .second, .val (.double sc), .second, .val (.ref b274), .val (.ref b296)] [(.int (3 : Int32)), (.ref b274)])) rfl rfl (hb hby at_329)) ?_
        show OwnGo p.tables e below _ (T365.setTop (mkF m 330 #[.val (.int p0), .val (.int p1), .val (.int p2), .val (.int p3), .val (.int p4), .val (.int p5), .val (.int (3 : Int32)), .val (.double d0), .second, .val (.double d1), .second, .val (.double d2), .second, .val (.double df), .second, .val (.double sc), .second, .val (.ref b274), .val (.ref b296)] [(.double d1)]))
        refine OwnGo.of (A := T365.setTop (mkF m 330 #[.val (.int p0), .val (.int p1), .val (.int p2), .val (.int p3), .val (.int p4), .val (.int p5), .val (.int (3 : Int32)), .val (.double d0), .second, .val (.double d1), .second, .val (.double d2), .second, .val (.double df), .second, .val (.double sc), .second, .val (.ref b274), .val (.ref b296)] [(.double d1)])) (B := T365.setTop (mkF m 333 #[.val (.int p0), .val (.int p1), .val (.int p2), .val (.int p3), .val (.int p4), .val (.int p5), .val (.int (3 : Int32)), .val (.double d0), .second, .val (.double d1), .second, .val (.double d2), .second, .val (.double df), .second, .val (.double sc), .second, .val (.ref b274), .val (.ref b296)] [(.int (3 : Int32)), (.ref b296), (.double d1)])) (fun t k => ?_) ?_
        · show Steps p.tables e below (T365.setTop (mkF m 330 #[.val (.int p0), .val (.int p1), .val (.int p2), .val (.int p3), .val (.int p4), .val (.int p5), .val (.int (3 : Int32)), .val (.double d0), .second, .val (.double d1), .second, .val (.double d2), .second, .val (.double df), .second, .val (.double sc), .second, .val (.ref b274), .val (.ref b296)] [(.double d1)])) t
          refine XS.aload X365.here hx rfl (hb hby at_330) rfl rfl ?_
          show Steps p.tables e below (T365.setTop (mkF m 332 #[.val (.int p0), .val (.int p1), .val (.int p2), .val (.int p3), .val (.int p4), .val (.int p5), .val (.int (3 : Int32)), .val (.double d0), .second, .val (.double d1), .second, .val (.double d2), .second, .val (.double df), .second, .val (.double sc), .second, .val (.ref b274), .val (.ref b296)] [(.ref b296), (.double d1)])) t
          refine XS.iconst X365.here hx rfl (hb hby at_332) ?_
          exact k
        have cq378 := f367
        obtain ⟨clq378, Arq378, qq378, Sq378, Nq378, Hq378, Gq378⟩ := cq378
        have hinq378 := inb_of (j := (3 : Int32)) Sq378 ⟨by decide, by decide⟩
        refine OwnGo.of (X365.daload hx (j := (3 : Int32)) (v := (.double d1)) Arq378.1 (State.isArrayOf_alike hZ.alike Arq378.2.1) Arq378.2.2 hinq378 (Hq378.at hinq378 rfl) (g := (mkF m 333 #[.val (.int p0), .val (.int p1), .val (.int p2), .val (.int p3), .val (.int p4), .val (.int p5), .val (.int (3 : Int32)), .val (.double d0), .second, .val (.double d1), .second, .val (.double d2), .second, .val (.double df), .second, .val (.double sc), .second, .val (.ref b274), .val (.ref b296)] [(.int (3 : Int32)), (.ref b296), (.double d1)])) rfl rfl (hb hby at_333)) ?_
        show OwnGo p.tables e below _ (T365.setTop (mkF m 334 #[.val (.int p0), .val (.int p1), .val (.int p2), .val (.int p3), .val (.int p4), .val (.int p5), .val (.int (3 : Int32)), .val (.double d0), .second, .val (.double d1), .second, .val (.double d2), .second, .val (.double df), .second, .val (.double sc), .second, .val (.ref b274), .val (.ref b296)] [(.double d1), (.double d1)]))
        refine OwnGo.of (A := T365.setTop (mkF m 334 #[.val (.int p0), .val (.int p1), .val (.int p2), .val (.int p3), .val (.int p4), .val (.int p5), .val (.int (3 : Int32)), .val (.double d0), .second, .val (.double d1), .second, .val (.double d2), .second, .val (.double df), .second, .val (.double sc), .second, .val (.ref b274), .val (.ref b296)] [(.double d1), (.double d1)])) (B := T365.setTop (mkF m 335 #[.val (.int p0), .val (.int p1), .val (.int p2), .val (.int p3), .val (.int p4), .val (.int p5), .val (.int (3 : Int32)), .val (.double d0), .second, .val (.double d1), .second, .val (.double d2), .second, .val (.double df), .second, .val (.double sc), .second, .val (.ref b274), .val (.ref b296)] [(.int (cmpValue (FP.dcmp d1 d1) .l))])) (fun t k => ?_) ?_
        · show Steps p.tables e below (T365.setTop (mkF m 334 #[.val (.int p0), .val (.int p1), .val (.int p2), .val (.int p3), .val (.int p4), .val (.int p5), .val (.int (3 : Int32)), .val (.double d0), .second, .val (.double d1), .second, .val (.double d2), .second, .val (.double df), .second, .val (.double sc), .second, .val (.ref b274), .val (.ref b296)] [(.double d1), (.double d1)])) t
          refine XS.dcmpS X365.here hx rfl (hb hby at_334) rfl rfl ?_
          exact k
        have hc379 : (cmpValue (FP.dcmp d1 d1) .l) = (0 : Int32) := dcmpV_self nd1 .l
        refine OwnGo.of (A := T365.setTop (mkF m 335 #[.val (.int p0), .val (.int p1), .val (.int p2), .val (.int p3), .val (.int p4), .val (.int p5), .val (.int (3 : Int32)), .val (.double d0), .second, .val (.double d1), .second, .val (.double d2), .second, .val (.double df), .second, .val (.double sc), .second, .val (.ref b274), .val (.ref b296)] [(.int (cmpValue (FP.dcmp d1 d1) .l))])) (B := T365.setTop (mkF m 343 #[.val (.int p0), .val (.int p1), .val (.int p2), .val (.int p3), .val (.int p4), .val (.int p5), .val (.int (3 : Int32)), .val (.double d0), .second, .val (.double d1), .second, .val (.double d2), .second, .val (.double df), .second, .val (.double sc), .second, .val (.ref b274), .val (.ref b296)] [(.int (1 : Int32))])) (fun t k => ?_) ?_
        · show Steps p.tables e below (T365.setTop (mkF m 335 #[.val (.int p0), .val (.int p1), .val (.int p2), .val (.int p3), .val (.int p4), .val (.int p5), .val (.int (3 : Int32)), .val (.double d0), .second, .val (.double d1), .second, .val (.double d2), .second, .val (.double df), .second, .val (.double sc), .second, .val (.ref b274), .val (.ref b296)] [(.int (cmpValue (FP.dcmp d1 d1) .l))])) t
          refine XS.ifNo X365.here hx rfl (hb hby at_335) rfl ((if0 _ _).trans (teq hc379).2) ?_
          show Steps p.tables e below (T365.setTop (mkF m 338 #[.val (.int p0), .val (.int p1), .val (.int p2), .val (.int p3), .val (.int p4), .val (.int p5), .val (.int (3 : Int32)), .val (.double d0), .second, .val (.double d1), .second, .val (.double d2), .second, .val (.double df), .second, .val (.double sc), .second, .val (.ref b274), .val (.ref b296)] [])) t
          refine XS.iconst X365.here hx rfl (hb hby at_338) ?_
          show Steps p.tables e below (T365.setTop (mkF m 339 #[.val (.int p0), .val (.int p1), .val (.int p2), .val (.int p3), .val (.int p4), .val (.int p5), .val (.int (3 : Int32)), .val (.double d0), .second, .val (.double d1), .second, .val (.double d2), .second, .val (.double df), .second, .val (.double sc), .second, .val (.ref b274), .val (.ref b296)] [(.int (1 : Int32))])) t
          refine XS.goto X365.here hx rfl (pc0 := 339) (pc' := 343) rfl (hb hby at_339) (by decide) (by decide) ?_
          exact k
        obtain ⟨fs, hr, hrun, hended, hW, hsame⟩ := X365.leave (v := some (.int (nar .boolean (1 : Int32)))) (fun h => by rw [Bd.returns] at h; cases h) hlk
        refine ⟨_, _, ?_, hrun, hended, _, _, rfl, ?_, ⟨_, rfl⟩, hW, hsame.mono (by decide) (by decide)⟩
        · show Steps p.tables e below (T365.setTop (mkF m 343 #[.val (.int p0), .val (.int p1), .val (.int p2), .val (.int p3), .val (.int p4), .val (.int p5), .val (.int (3 : Int32)), .val (.double d0), .second, .val (.double d1), .second, .val (.double d2), .second, .val (.double df), .second, .val (.double sc), .second, .val (.ref b274), .val (.ref b296)] [(.int (1 : Int32))])) _
          exact retN X365 hx (t := .boolean) Bd.returns (by simp) (hb hby at_343) hr
        · show Qrm0 Z p0 p1 p2 p3 p4 p5 h0 n0 _ (T365.setFrames fs).heap _
          rw [show (T365.setFrames fs).heap = T365.heap from rfl]
          exact ⟨rfl, N365⟩
    · refine OwnGo.of (A := T320.setTop (mkF m 234 #[.val (.int p0), .val (.int p1), .val (.int p2), .val (.int p3), .val (.int p4), .val (.int p5), .val (.int (3 : Int32)), .val (.double d0), .second, .val (.double d1), .second, .val (.double d2), .second, .val (.double df), .second, .val (.double sc), .second, .val (.ref b274), .val (.ref b296)] [(.int (cmpValue (FP.dcmp d1 sc) .l))])) (B := T320.setTop (mkF m 280 #[.val (.int p0), .val (.int p1), .val (.int p2), .val (.int p3), .val (.int p4), .val (.int p5), .val (.int (3 : Int32)), .val (.double d0), .second, .val (.double d1), .second, .val (.double d2), .second, .val (.double df), .second, .val (.double sc), .second, .val (.ref b274), .val (.ref b296)] [(.double sc), (.int (3 : Int32)), (.ref b296)])) (fun t k => ?_) ?_
      · show Steps p.tables e below (T320.setTop (mkF m 234 #[.val (.int p0), .val (.int p1), .val (.int p2), .val (.int p3), .val (.int p4), .val (.int p5), .val (.int (3 : Int32)), .val (.double d0), .second, .val (.double d1), .second, .val (.double d2), .second, .val (.double df), .second, .val (.double sc), .second, .val (.ref b274), .val (.ref b296)] [(.int (cmpValue (FP.dcmp d1 sc) .l))])) t
        refine XS.ifYes X320.here hx rfl (pc0 := 234) (pc' := 275) rfl (hb hby at_234) rfl ((if0 _ _).trans (flt hc327).2.2.2) (by decide) (by decide) ?_
        show Steps p.tables e below (T320.setTop (mkF m 275 #[.val (.int p0), .val (.int p1), .val (.int p2), .val (.int p3), .val (.int p4), .val (.int p5), .val (.int (3 : Int32)), .val (.double d0), .second, .val (.double d1), .second, .val (.double d2), .second, .val (.double df), .second, .val (.double sc), .second, .val (.ref b274), .val (.ref b296)] [])) t
        refine XS.aload X320.here hx rfl (hb hby at_275) rfl rfl ?_
        show Steps p.tables e below (T320.setTop (mkF m 277 #[.val (.int p0), .val (.int p1), .val (.int p2), .val (.int p3), .val (.int p4), .val (.int p5), .val (.int (3 : Int32)), .val (.double d0), .second, .val (.double d1), .second, .val (.double d2), .second, .val (.double df), .second, .val (.double sc), .second, .val (.ref b274), .val (.ref b296)] [(.ref b296)])) t
        refine XS.iconst X320.here hx rfl (hb hby at_277) ?_
        show Steps p.tables e below (T320.setTop (mkF m 278 #[.val (.int p0), .val (.int p1), .val (.int p2), .val (.int p3), .val (.int p4), .val (.int p5), .val (.int (3 : Int32)), .val (.double d0), .second, .val (.double d1), .second, .val (.double d2), .second, .val (.double df), .second, .val (.double sc), .second, .val (.ref b274), .val (.ref b296)] [(.int (3 : Int32)), (.ref b296)])) t
        refine XS.dload X320.here hx rfl (hb hby at_278) rfl ?_
        exact k
      have cq381 := f323
      obtain ⟨clq381, Arq381, qq381, Sq381, Nq381, Hq381, Gq381⟩ := cq381
      obtain ⟨T382, h382, X382, e382, W382, st382⟩ := stD X320 hx hZ e320 Arq381 (j := (3 : Int32)) (inb_of Sq381 ⟨by decide, by decide⟩) (g := (mkF m 280 #[.val (.int p0), .val (.int p1), .val (.int p2), .val (.int p3), .val (.int p4), .val (.int p5), .val (.int (3 : Int32)), .val (.double d0), .second, .val (.double d1), .second, .val (.double d2), .second, .val (.double df), .second, .val (.double sc), .second, .val (.ref b274), .val (.ref b296)] [(.double sc), (.int (3 : Int32)), (.ref b296)])) rfl rfl (hb hby at_280)
      refine OwnGo.of st382 ?_
      have N382 := Fr.snoc X382 N320 g_b296
      have f383 : n0 ≤ h382.size := Nat.le_trans f321 (Keep.of_wr W382).1
      have f384 : Arv Z h382 b274 k274 .double (4 : Int32) [(.double d0), (.double d1), (.double d2), (.double df)] (.double (0 : UInt64)) := f322.other W382 ne_b274_b296
      have f385 : Arv Z h382 b296 k296 .double (4 : Int32) [(.double d0), (.double d1), (.double d2), (.double sc)] (.double (0 : UInt64)) := Arv.set Arq381 qq381 Sq381 Nq381 Hq381 Gq381 rfl W382 3 rfl (Nat.le_of_ble_eq_true rfl)
      show OwnGo p.tables e below _ (T382.setTop (mkF m 281 #[.val (.int p0), .val (.int p1), .val (.int p2), .val (.int p3), .val (.int p4), .val (.int p5), .val (.int (3 : Int32)), .val (.double d0), .second, .val (.double d1), .second, .val (.double d2), .second, .val (.double df), .second, .val (.double sc), .second, .val (.ref b274), .val (.ref b296)] []))
      refine OwnGo.of (A := T382.setTop (mkF m 281 #[.val (.int p0), .val (.int p1), .val (.int p2), .val (.int p3), .val (.int p4), .val (.int p5), .val (.int (3 : Int32)), .val (.double d0), .second, .val (.double d1), .second, .val (.double d2), .second, .val (.double df), .second, .val (.double sc), .second, .val (.ref b274), .val (.ref b296)] [])) (B := T382.setTop (mkF m 287 #[.val (.int p0), .val (.int p1), .val (.int p2), .val (.int p3), .val (.int p4), .val (.int p5), .val (.int (3 : Int32)), .val (.double d0), .second, .val (.double d1), .second, .val (.double d2), .second, .val (.double df), .second, .val (.double sc), .second, .val (.ref b274), .val (.ref b296)] [(.double sc), (.int (3 : Int32)), (.ref b274)])) (fun t k => ?_) ?_
      · show Steps p.tables e below (T382.setTop (mkF m 281 #[.val (.int p0), .val (.int p1), .val (.int p2), .val (.int p3), .val (.int p4), .val (.int p5), .val (.int (3 : Int32)), .val (.double d0), .second, .val (.double d1), .second, .val (.double d2), .second, .val (.double df), .second, .val (.double sc), .second, .val (.ref b274), .val (.ref b296)] [])) t
        refine XS.aload X382.here hx rfl (hb hby at_281) rfl rfl ?_
        show Steps p.tables e below (T382.setTop (mkF m 283 #[.val (.int p0), .val (.int p1), .val (.int p2), .val (.int p3), .val (.int p4), .val (.int p5), .val (.int (3 : Int32)), .val (.double d0), .second, .val (.double d1), .second, .val (.double d2), .second, .val (.double df), .second, .val (.double sc), .second, .val (.ref b274), .val (.ref b296)] [(.ref b274)])) t
        refine XS.iload X382.here hx rfl (hb hby at_283) rfl ?_
        show Steps p.tables e below (T382.setTop (mkF m 285 #[.val (.int p0), .val (.int p1), .val (.int p2), .val (.int p3), .val (.int p4), .val (.int p5), .val (.int (3 : Int32)), .val (.double d0), .second, .val (.double d1), .second, .val (.double d2), .second, .val (.double df), .second, .val (.double sc), .second, .val (.ref b274), .val (.ref b296)] [(.int (3 : Int32)), (.ref b274)])) t
        refine XS.dload X382.here hx rfl (hb hby at_285) rfl ?_
        exact k
      obtain ⟨T386, L386, v386, X386, hQ386, st386⟩ := own_callS X382 hx (y := (⟨"com/example/rankwright/rankwright/rank/Accumulator", "siftUp", "([DID)V"⟩ : MethodName)) hown (mvT hZ (hw _ (List.mem_of_getElem? (i := 2) rfl))) (mvT hZ (hw _ (List.mem_of_getElem? (i := 3) rfl))) (mvT hZ (hw _ (List.mem_of_getElem? (i := 4) rfl))) (mvT hZ (hw _ (List.mem_of_getElem? (i := 5) rfl))) (by decide) (backOf (W := 0) (rm1_3f l Z aw hw [] b274 sc d0 d1 d2 df k274 h382 n0 f383 f384 g_b274 hc327) hZ (hw _ (List.mem_of_getElem? (i := 5) rfl)) (hw _ (List.mem_of_getElem? (i := 4) rfl)) (by decide) (by decide)) (g := (mkF m 287 #[.val (.int p0), .val (.int p1), .val (.int p2), .val (.int p3), .val (.int p4), .val (.int p5), .val (.int (3 : Int32)), .val (.double d0), .second, .val (.double d1), .second, .val (.double d2), .second, .val (.double df), .second, .val (.double sc), .second, .val (.ref b274), .val (.ref b296)] [(.double sc), (.int (3 : Int32)), (.ref b274)])) rfl (by rw [hml]; rfl) (argsL := [(.ref b274), (.int (3 : Int32)), (.double sc)]) (rest := []) (lenOf pd_1 rfl) rfl (by show 2 * 0 + _ ≤ _; exact Nat.le_of_eq rfl) (hb hby at_287) rfl e382 (by decide) (by decide)
      obtain ⟨rfl, N386q, K386, y386_0⟩ := hQ386
      have f387 : n0 ≤ T386.heap.size := Nat.le_trans f383 K386.1
      have f388 : Arv Z T386.heap b296 k296 .double (4 : Int32) [(.double d0), (.double d1), (.double d2), (.double sc)] (.double (0 : UInt64)) := f385.keep K386 (ninS (Ne.symm ne_b274_b296) nin0)
      have N386 := Fr.app N382 N386q
      refine OwnGo.of st386 ?_
      show OwnGo p.tables e below _ (T386.setTop (mkF m 290 #[.val (.int p0), .val (.int p1), .val (.int p2), .val (.int p3), .val (.int p4), .val (.int p5), .val (.int (3 : Int32)), .val (.double d0), .second, .val (.double d1), .second, .val (.double d2), .second, .val (.double df), .second, .val (.double sc), .second, .val (.ref b274), .val (.ref b296)] []))
      refine OwnGo.of (A := T386.setTop (mkF m 290 #[.val (.int p0), .val (.int p1), .val (.int p2), .val (.int p3), .val (.int p4), .val (.int p5), .val (.int (3 : Int32)), .val (.double d0), .second, .val (.double d1), .second, .val (.double d2), .second, .val (.double df), .second, .val (.double sc), .second, .val (.ref b274), .val (.ref b296)] [])) (B := T386.setTop (mkF m 293 #[.val (.int p0), .val (.int p1), .val (.int p2), .val (.int p3), .val (.int p4), .val (.int p5), .val (.int (3 : Int32)), .val (.double d0), .second, .val (.double d1), .second, .val (.double d2), .second, .val (.double df), .second, .val (.double sc), .second, .val (.ref b274), .val (.ref b296)] [(.int (0 : Int32)), (.ref b274)])) (fun t k => ?_) ?_
      · show Steps p.tables e below (T386.setTop (mkF m 290 #[.val (.int p0), .val (.int p1), .val (.int p2), .val (.int p3), .val (.int p4), .val (.int p5), .val (.int (3 : Int32)), .val (.double d0), .second, .val (.double d1), .second, .val (.double d2), .second, .val (.double df), .second, .val (.double sc), .second, .val (.ref b274), .val (.ref b296)] [])) t
        refine XS.aload X386.here hx rfl (hb hby at_290) rfl rfl ?_
        show Steps p.tables e below (T386.setTop (mkF m 292 #[.val (.int p0), .val (.int p1), .val (.int p2), .val (.int p3), .val (.int p4), .val (.int p5), .val (.int (3 : Int32)), .val (.double d0), .second, .val (.double d1), .second, .val (.double d2), .second, .val (.double df), .second, .val (.double sc), .second, .val (.ref b274), .val (.ref b296)] [(.ref b274)])) t
        refine XS.iconst X386.here hx rfl (hb hby at_292) ?_
        exact k
      have cq389 := y386_0
      obtain ⟨clq389, Arq389, qq389, Sq389, Nq389, Hq389, Gq389⟩ := cq389
      have hinq389 := inb_of (j := (0 : Int32)) Sq389 ⟨by decide, by decide⟩
      refine OwnGo.of (X386.daload hx (j := (0 : Int32)) (v := (.double d0)) Arq389.1 (State.isArrayOf_alike hZ.alike Arq389.2.1) Arq389.2.2 hinq389 (Hq389.at hinq389 rfl) (g := (mkF m 293 #[.val (.int p0), .val (.int p1), .val (.int p2), .val (.int p3), .val (.int p4), .val (.int p5), .val (.int (3 : Int32)), .val (.double d0), .second, .val (.double d1), .second, .val (.double d2), .second, .val (.double df), .second, .val (.double sc), .second, .val (.ref b274), .val (.ref b296)] [(.int (0 : Int32)), (.ref b274)])) rfl rfl (hb hby at_293)) ?_
      show OwnGo p.tables e below _ (T386.setTop (mkF m 294 #[.val (.int p0), .val (.int p1), .val (.int p2), .val (.int p3), .val (.int p4), .val (.int p5), .val (.int (3 : Int32)), .val (.double d0), .second, .val (.double d1), .second, .val (.double d2), .second, .val (.double df), .second, .val (.double sc), .second, .val (.ref b274), .val (.ref b296)] [(.double d0)]))
      refine OwnGo.of (A := T386.setTop (mkF m 294 #[.val (.int p0), .val (.int p1), .val (.int p2), .val (.int p3), .val (.int p4), .val (.int p5), .val (.int (3 : Int32)), .val (.double d0), .second, .val (.double d1), .second, .val (.double d2), .second, .val (.double df), .second, .val (.double sc), .second, .val (.ref b274), .val (.ref b296)] [(.double d0)])) (B := T386.setTop (mkF m 297 #[.val (.int p0), .val (.int p1), .val (.int p2), .val (.int p3), .val (.int p4), .val (.int p5), .val (.int (3 : Int32)), .val (.double d0), .second, .val (.double d1), .second, .val (.double d2), .second, .val (.double df), .second, .val (.double sc), .second, .val (.ref b274), .val (.ref b296)] [(.int (0 : Int32)), (.ref b296), (.double d0)])) (fun t k => ?_) ?_
      · show Steps p.tables e below (T386.setTop (mkF m 294 #[.val (.int p0), .val (.int p1), .val (.int p2), .val (.int p3), .val (.int p4), .val (.int p5), .val (.int (3 : Int32)), .val (.double d0), .second, .val (.double d1), .second, .val (.double d2), .second, .val (.double df), .second, .val (.double sc), .second, .val (.ref b274), .val (.ref b296)] [(.double d0)])) t
        refine XS.aload X386.here hx rfl (hb hby at_294) rfl rfl ?_
        show Steps p.tables e below (T386.setTop (mkF m 296 #[.val (.int p0), .val (.int p1), .val (.int p2), .val (.int p3), .val (.int p4), .val (.int p5), .val (.int (3 : Int32)), .val (.double d0), .second, .val (.double d1), .second, .val (.double d2), .second, .val (.double df), .second, .val (.double sc), .second, .val (.ref b274), .val (.ref b296)] [(.ref b296), (.double d0)])) t
        refine XS.iconst X386.here hx rfl (hb hby at_296) ?_
        exact k
      have cq390 := f388
      obtain ⟨clq390, Arq390, qq390, Sq390, Nq390, Hq390, Gq390⟩ := cq390
      have hinq390 := inb_of (j := (0 : Int32)) Sq390 ⟨by decide, by decide⟩
      refine OwnGo.of (X386.daload hx (j := (0 : Int32)) (v := (.double d0)) Arq390.1 (State.isArrayOf_alike hZ.alike Arq390.2.1) Arq390.2.2 hinq390 (Hq390.at hinq390 rfl) (g := (mkF m 297 #[.val (.int p0), .val (.int p1), .val (.int p2), .val (.int p3), .val (.int p4), .val (.int p5), .val (.int (3 : Int32)), .val (.double d0), .second, .val (.double d1), .second, .val (.double d2), .second, .val (.double df), .second, .val (.double sc), .second, .val (.ref b274), .val (.ref b296)] [(.int (0 : Int32)), (.ref b296), (.double d0)])) rfl rfl (hb hby at_297)) ?_
      show OwnGo p.tables e below _ (T386.setTop (mkF m 298 #[.val (.int p0), .val (.int p1), .val (.int p2), .val (.int p3), .val (.int p4), .val (.int p5), .val (.int (3 : Int32)), .val (.double d0), .second, .val (.double d1), .second, .val (.double d2), .second, .val (.double df), .second, .val (.double sc), .second, .val (.ref b274), .val (.ref b296)] [(.double d0), (.double d0)]))
      refine OwnGo.of (A := T386.setTop (mkF m 298 #[.val (.int p0), .val (.int p1), .val (.int p2), .val (.int p3), .val (.int p4), .val (.int p5), .val (.int (3 : Int32)), .val (.double d0), .second, .val (.double d1), .second, .val (.double d2), .second, .val (.double df), .second, .val (.double sc), .second, .val (.ref b274), .val (.ref b296)] [(.double d0), (.double d0)])) (B := T386.setTop (mkF m 299 #[.val (.int p0), .val (.int p1), .val (.int p2), .val (.int p3), .val (.int p4), .val (.int p5), .val (.int (3 : Int32)), .val (.double d0), .second, .val (.double d1), .second, .val (.double d2), .second, .val (.double df), .second, .val (.double sc), .second, .val (.ref b274), .val (.ref b296)] [(.int (cmpValue (FP.dcmp d0 d0) .l))])) (fun t k => ?_) ?_
      · show Steps p.tables e below (T386.setTop (mkF m 298 #[.val (.int p0), .val (.int p1), .val (.int p2), .val (.int p3), .val (.int p4), .val (.int p5), .val (.int (3 : Int32)), .val (.double d0), .second, .val (.double d1), .second, .val (.double d2), .second, .val (.double df), .second, .val (.double sc), .second, .val (.ref b274), .val (.ref b296)] [(.double d0), (.double d0)])) t
        refine XS.dcmpS X386.here hx rfl (hb hby at_298) rfl rfl ?_
        exact k
      have hc391 : (cmpValue (FP.dcmp d0 d0) .l) = (0 : Int32) := dcmpV_self nd0 .l
      refine OwnGo.of (A := T386.setTop (mkF m 299 #[.val (.int p0), .val (.int p1), .val (.int p2), .val (.int p3), .val (.int p4), .val (.int p5), .val (.int (3 : Int32)), .val (.double d0), .second, .val (.double d1), .second, .val (.double d2), .second, .val (.double df), .second, .val (.double sc), .second, .val (.ref b274), .val (.ref b296)] [(.int (cmpValue (FP.dcmp d0 d0) .l))])) (B := T386.setTop (mkF m 305 #[.val (.int p0), .val (.int p1), .val (.int p2), .val (.int p3), .val (.int p4), .val (.int p5), .val (.int (3 : Int32)), .val (.double d0), .second, .val (.double d1), .second, .val (.double d2), .second, .val (.double df), .second, .val (.double sc), .second, .val (.ref b274), .val (.ref b296)] [(.int (1 : Int32)), (.ref b274)])) (fun t k => ?_) ?_
      · show Steps p.tables e below (T386.setTop (mkF m 299 #[.val (.int p0), .val (.int p1), .val (.int p2), .val (.int p3), .val (.int p4), .val (.int p5), .val (.int (3 : Int32)), .val (.double d0), .second, .val (.double d1), .second, .val (.double d2), .second, .val (.double df), .second, .val (.double sc), .second, .val (.ref b274), .val (.ref b296)] [(.int (cmpValue (FP.dcmp d0 d0) .l))])) t
        refine XS.ifNo X386.here hx rfl (hb hby at_299) rfl ((if0 _ _).trans (teq hc391).2) ?_
        show Steps p.tables e below (T386.setTop (mkF m 302 #[.val (.int p0), .val (.int p1), .val (.int p2), .val (.int p3), .val (.int p4), .val (.int p5), .val (.int (3 : Int32)), .val (.double d0), .second, .val (.double d1), .second, .val (.double d2), .second, .val (.double df), .second, .val (.double sc), .second, .val (.ref b274), .val (.ref b296)] [])) t
        refine XS.aload X386.here hx rfl (hb hby at_302) rfl rfl ?_
        show Steps p.tables e below (T386.setTop (mkF m 304 #[.val (.int p0), .val (.int p1), .val (.int p2), .val (.int p3), .val (.int p4), .val (.int p5), .val (.int (3 : Int32)), .val (.double d0), .second, .val (.double d1), .second, .val (.double d2), .second, .val (.double df), .second, .val (.double sc), .second, .val (.ref b274), .val (.ref b296)] [(.ref b274)])) t
        refine XS.iconst X386.here hx rfl (hb hby at_304) ?_
        exact k
      have cq392 := y386_0
      obtain ⟨clq392, Arq392, qq392, Sq392, Nq392, Hq392, Gq392⟩ := cq392
      have hinq392 := inb_of (j := (1 : Int32)) Sq392 ⟨by decide, by decide⟩
      refine OwnGo.of (X386.daload hx (j := (1 : Int32)) (v := (.double d1)) Arq392.1 (State.isArrayOf_alike hZ.alike Arq392.2.1) Arq392.2.2 hinq392 (Hq392.at hinq392 rfl) (g := (mkF m 305 #[.val (.int p0), .val (.int p1), .val (.int p2), .val (.int p3), .val (.int p4), .val (.int p5), .val (.int (3 : Int32)), .val (.double d0), .second, .val (.double d1), .second, .val (.double d2), .second, .val (.double df), .second, .val (.double sc), .second, .val (.ref b274), .val (.ref b296)] [(.int (1 : Int32)), (.ref b274)])) rfl rfl (hb hby at_305)) ?_
      show OwnGo p.tables e below _ (T386.setTop (mkF m 306 #[.val (.int p0), .val (.int p1), .val (.int p2), .val (.int p3), .val (.int p4), .val (.int p5), .val (.int (3 : Int32)), .val (.double d0), .second, .val (.double d1), .second, .val (.double d2), .second, .val (.double df), .second, .val (.double sc), .second, .val (.ref b274), .val (.ref b296)] [(.double d1)]))
      refine OwnGo.of (A := T386.setTop (mkF m 306 #[.val (.int p0), .val (.int p1), .val (.int p2), .val (.int p3), .val (.int p4), .val (.int p5), .val (.int (3 : Int32)), .val (.double d0), .second, .val (.double d1), .second, .val (.double d2), .second, .val (.double df), .second, .val (.double sc), .second, .val (.ref b274), .val (.ref b296)] [(.double d1)])) (B := T386.setTop (mkF m 309 #[.val (.int p0), .val (.int p1), .val (.int p2), .val (.int p3), .val (.int p4), .val (.int p5), .val (.int (3 : Int32)), .val (.double d0), .second, .val (.double d1), .second, .val (.double d2), .second, .val (.double df), .second, .val (.double sc), .second, .val (.ref b274), .val (.ref b296)] [(.int (1 : Int32)), (.ref b296), (.double d1)])) (fun t k => ?_) ?_
      · show Steps p.tables e below (T386.setTop (mkF m 306 #[.val (.int p0), .val (.int p1), .val (.int p2), .val (.int p3), .val (.int p4), .val (.int p5), .val (.int (3 : Int32)), .val (.double d0), .second, .val (.double d1), .second, .val (.double d2), .second, .val (.double df), .second, .val (.double sc), .second, .val (.ref b274), .val (.ref b296)] [(.double d1)])) t
        refine XS.aload X386.here hx rfl (hb hby at_306) rfl rfl ?_
        show Steps p.tables e below (T386.setTop (mkF m 308 #[.val (.int p0), .val (.int p1), .val (.int p2), .val (.int p3), .val (.int p4), .val (.int p5), .val (.int (3 : Int32)), .val (.double d0), .second, .val (.double d1), .second, .val (.double d2), .second, .val (.double df), .second, .val (.double sc), .second, .val (.ref b274), .val (.ref b296)] [(.ref b296), (.double d1)])) t
        refine XS.iconst X386.here hx rfl (hb hby at_308) ?_
        exact k
      have cq393 := f388
      obtain ⟨clq393, Arq393, qq393, Sq393, Nq393, Hq393, Gq393⟩ := cq393
      have hinq393 := inb_of (j := (1 : Int32)) Sq393 ⟨by decide, by decide⟩
      refine OwnGo.of (X386.daload hx (j := (1 : Int32)) (v := (.double d1)) Arq393.1 (State.isArrayOf_alike hZ.alike Arq393.2.1) Arq393.2.2 hinq393 (Hq393.at hinq393 rfl) (g := (mkF m 309 #[.val (.int p0), .val (.int p1), .val (.int p2), .val (.int p3), .val (.int p4), .val (.int p5), .val (.int (3 : Int32)), .val (.double d0), .second, .val (.double d1), .second, .val (.double d2), .second, .val (.double df), .second, .val (.double sc), .second, .val (.ref b274), .val (.ref b296)] [(.int (1 : Int32)), (.ref b296), (.double d1)])) rfl rfl (hb hby at_309)) ?_
      show OwnGo p.tables e below _ (T386.setTop (mkF m 310 #[.val (.int p0), .val (.int p1), .val (.int p2), .val (.int p3), .val (.int p4), .val (.int p5), .val (.int (3 : Int32)), .val (.double d0), .second, .val (.double d1), .second, .val (.double d2), .second, .val (.double df), .second, .val (.double sc), .second, .val (.ref b274), .val (.ref b296)] [(.double d1), (.double d1)]))
      refine OwnGo.of (A := T386.setTop (mkF m 310 #[.val (.int p0), .val (.int p1), .val (.int p2), .val (.int p3), .val (.int p4), .val (.int p5), .val (.int (3 : Int32)), .val (.double d0), .second, .val (.double d1), .second, .val (.double d2), .second, .val (.double df), .second, .val (.double sc), .second, .val (.ref b274), .val (.ref b296)] [(.double d1), (.double d1)])) (B := T386.setTop (mkF m 311 #[.val (.int p0), .val (.int p1), .val (.int p2), .val (.int p3), .val (.int p4), .val (.int p5), .val (.int (3 : Int32)), .val (.double d0), .second, .val (.double d1), .second, .val (.double d2), .second, .val (.double df), .second, .val (.double sc), .second, .val (.ref b274), .val (.ref b296)] [(.int (cmpValue (FP.dcmp d1 d1) .l))])) (fun t k => ?_) ?_
      · show Steps p.tables e below (T386.setTop (mkF m 310 #[.val (.int p0), .val (.int p1), .val (.int p2), .val (.int p3), .val (.int p4), .val (.int p5), .val (.int (3 : Int32)), .val (.double d0), .second, .val (.double d1), .second, .val (.double d2), .second, .val (.double df), .second, .val (.double sc), .second, .val (.ref b274), .val (.ref b296)] [(.double d1), (.double d1)])) t
        refine XS.dcmpS X386.here hx rfl (hb hby at_310) rfl rfl ?_
        exact k
      have hc394 : (cmpValue (FP.dcmp d1 d1) .l) = (0 : Int32) := dcmpV_self nd1 .l
      refine OwnGo.of (A := T386.setTop (mkF m 311 #[.val (.int p0), .val (.int p1), .val (.int p2), .val (.int p3), .val (.int p4), .val (.int p5), .val (.int (3 : Int32)), .val (.double d0), .second, .val (.double d1), .second, .val (.double d2), .second, .val (.double df), .second, .val (.double sc), .second, .val (.ref b274), .val (.ref b296)] [(.int (cmpValue (FP.dcmp d1 d1) .l))])) (B := T386.setTop (mkF m 317 #[.val (.int p0), .val (.int p1), .val (.int p2), .val (.int p3), .val (.int p4), .val (.int p5), .val (.int (3 : Int32)), .val (.double d0), .second, .val (.double d1), .second, .val (.double d2), .second, .val (.double df), .second, .val (.double sc), .second, .val (.ref b274), .val (.ref b296)] [(.int (2 : Int32)), (.ref b274)])) (fun t k => ?_) ?_
      · show Steps p.tables e below (T386.setTop (mkF m 311 #[.val (.int p0), .val (.int p1), .val (.int p2), .val (.int p3), .val (.int p4), .val (.int p5), .val (.int (3 : Int32)), .val (.double d0), .second, .val (.double d1), .second, .val (.double d2), .second, .val (.double df), .second, .val (.double sc), .second, .val (.ref b274), .val (.ref b296)] [(.int (cmpValue (FP.dcmp d1 d1) .l))])) t
        refine XS.ifNo X386.here hx rfl (hb hby at_311) rfl ((if0 _ _).trans (teq hc394).2) ?_
        show Steps p.tables e below (T386.setTop (mkF m 314 #[.val (.int p0), .val (.int p1), .val (.int p2), .val (.int p3), .val (.int p4), .val (.int p5), .val (.int (3 : Int32)), .val (.double d0), .second, .val (.double d1), .second, .val (.double d2), .second, .val (.double df), .second, .val (.double sc), .second, .val (.ref b274), .val (.ref b296)] [])) t
        refine XS.aload X386.here hx rfl (hb hby at_314) rfl rfl ?_
        show Steps p.tables e below (T386.setTop (mkF m 316 #[.val (.int p0), .val (.int p1), .val (.int p2), .val (.int p3), .val (.int p4), .val (.int p5), .val (.int (3 : Int32)), .val (.double d0), .second, .val (.double d1), .second, .val (.double d2), .second, .val (.double df), .second, .val (.double sc), .second, .val (.ref b274), .val (.ref b296)] [(.ref b274)])) t
        refine XS.iconst X386.here hx rfl (hb hby at_316) ?_
        exact k
      have cq395 := y386_0
      obtain ⟨clq395, Arq395, qq395, Sq395, Nq395, Hq395, Gq395⟩ := cq395
      have hinq395 := inb_of (j := (2 : Int32)) Sq395 ⟨by decide, by decide⟩
      refine OwnGo.of (X386.daload hx (j := (2 : Int32)) (v := (.double d2)) Arq395.1 (State.isArrayOf_alike hZ.alike Arq395.2.1) Arq395.2.2 hinq395 (Hq395.at hinq395 rfl) (g := (mkF m 317 #[.val (.int p0), .val (.int p1), .val (.int p2), .val (.int p3), .val (.int p4), .val (.int p5), .val (.int (3 : Int32)), .val (.double d0), .second, .val (.double d1), .second, .val (.double d2), .second, .val (.double df), .second, .val (.double sc), .second, .val (.ref b274), .val (.ref b296)] [(.int (2 : Int32)), (.ref b274)])) rfl rfl (hb hby at_317)) ?_
      show OwnGo p.tables e below _ (T386.setTop (mkF m 318 #[.val (.int p0), .val (.int p1), .val (.int p2), .val (.int p3), .val (.int p4), .val (.int p5), .val (.int (3 : Int32)), .val (.double d0), .second, .val (.double d1), .second, .val (.double d2), .second, .val (.double df), .second, .val (.double sc), .second, .val (.ref b274), .val (.ref b296)] [(.double d2)]))
      refine OwnGo.of (A := T386.setTop (mkF m 318 #[.val (.int p0), .val (.int p1), .val (.int p2), .val (.int p3), .val (.int p4), .val (.int p5), .val (.int (3 : Int32)), .val (.double d0), .second, .val (.double d1), .second, .val (.double d2), .second, .val (.double df), .second, .val (.double sc), .second, .val (.ref b274), .val (.ref b296)] [(.double d2)])) (B := T386.setTop (mkF m 321 #[.val (.int p0), .val (.int p1), .val (.int p2), .val (.int p3), .val (.int p4), .val (.int p5), .val (.int (3 : Int32)), .val (.double d0), .second, .val (.double d1), .second, .val (.double d2), .second, .val (.double df), .second, .val (.double sc), .second, .val (.ref b274), .val (.ref b296)] [(.int (2 : Int32)), (.ref b296), (.double d2)])) (fun t k => ?_) ?_
      · show Steps p.tables e below (T386.setTop (mkF m 318 #[.val (.int p0), .val (.int p1), .val (.int p2), .val (.int p3), .val (.int p4), .val (.int p5), .val (.int (3 : Int32)), .val (.double d0), .second, .val (.double d1), .second, .val (.double d2), .second, .val (.double df), .second, .val (.double sc), .second, .val (.ref b274), .val (.ref b296)] [(.double d2)])) t
        refine XS.aload X386.here hx rfl (hb hby at_318) rfl rfl ?_
        show Steps p.tables e below (T386.setTop (mkF m 320 #[.val (.int p0), .val (.int p1), .val (.int p2), .val (.int p3), .val (.int p4), .val (.int p5), .val (.int (3 : Int32)), .val (.double d0), .second, .val (.double d1), .second, .val (.double d2), .second, .val (.double df), .second, .val (.double sc), .second, .val (.ref b274), .val (.ref b296)] [(.ref b296), (.double d2)])) t
        refine XS.iconst X386.here hx rfl (hb hby at_320) ?_
        exact k
      have cq396 := f388
      obtain ⟨clq396, Arq396, qq396, Sq396, Nq396, Hq396, Gq396⟩ := cq396
      have hinq396 := inb_of (j := (2 : Int32)) Sq396 ⟨by decide, by decide⟩
      refine OwnGo.of (X386.daload hx (j := (2 : Int32)) (v := (.double d2)) Arq396.1 (State.isArrayOf_alike hZ.alike Arq396.2.1) Arq396.2.2 hinq396 (Hq396.at hinq396 rfl) (g := (mkF m 321 #[.val (.int p0), .val (.int p1), .val (.int p2), .val (.int p3), .val (.int p4), .val (.int p5), .val (.int (3 : Int32)), .val (.double d0), .second, .val (.double d1), .second, .val (.double d2), .second, .val (.double df), .second, .val (.double sc), .second, .val (.ref b274), .val (.ref b296)] [(.int (2 : Int32)), (.ref b296), (.double d2)])) rfl rfl (hb hby at_321)) ?_
      show OwnGo p.tables e below _ (T386.setTop (mkF m 322 #[.val (.int p0), .val (.int p1), .val (.int p2), .val (.int p3), .val (.int p4), .val (.int p5), .val (.int (3 : Int32)), .val (.double d0), .second, .val (.double d1), .second, .val (.double d2), .second, .val (.double df), .second, .val (.double sc), .second, .val (.ref b274), .val (.ref b296)] [(.double d2), (.double d2)]))
      refine OwnGo.of (A := T386.setTop (mkF m 322 #[.val (.int p0), .val (.int p1), .val (.int p2), .val (.int p3), .val (.int p4), .val (.int p5), .val (.int (3 : Int32)), .val (.double d0), .second, .val (.double d1), .second, .val (.double d2), .second, .val (.double df), .second, .val (.double sc), .second, .val (.ref b274), .val (.ref b296)] [(.double d2), (.double d2)])) (B := T386.setTop (mkF m 323 #[.val (.int p0), .val (.int p1), .val (.int p2), .val (.int p3), .val (.int p4), .val (.int p5), .val (.int (3 : Int32)), .val (.double d0), .second, .val (.double d1), .second, .val (.double d2), .second, .val (.double df), .second, .val (.double sc), .second, .val (.ref b274), .val (.ref b296)] [(.int (cmpValue (FP.dcmp d2 d2) .l))])) (fun t k => ?_) ?_
      · show Steps p.tables e below (T386.setTop (mkF m 322 #[.val (.int p0), .val (.int p1), .val (.int p2), .val (.int p3), .val (.int p4), .val (.int p5), .val (.int (3 : Int32)), .val (.double d0), .second, .val (.double d1), .second, .val (.double d2), .second, .val (.double df), .second, .val (.double sc), .second, .val (.ref b274), .val (.ref b296)] [(.double d2), (.double d2)])) t
        refine XS.dcmpS X386.here hx rfl (hb hby at_322) rfl rfl ?_
        exact k
      have hc397 : (cmpValue (FP.dcmp d2 d2) .l) = (0 : Int32) := dcmpV_self nd2 .l
      refine OwnGo.of (A := T386.setTop (mkF m 323 #[.val (.int p0), .val (.int p1), .val (.int p2), .val (.int p3), .val (.int p4), .val (.int p5), .val (.int (3 : Int32)), .val (.double d0), .second, .val (.double d1), .second, .val (.double d2), .second, .val (.double df), .second, .val (.double sc), .second, .val (.ref b274), .val (.ref b296)] [(.int (cmpValue (FP.dcmp d2 d2) .l))])) (B := T386.setTop (mkF m 329 #[.val (.int p0), .val (.int p1), .val (.int p2), .val (.int p3), .val (.int p4), .val (.int p5), .val (.int (3 : Int32)), .val (.double d0), .second, .val (.double d1), .second, .val (.double d2), .second, .val (.double df), .second, .val (.double sc), .second, .val (.ref b274), .val (.ref b296)] [(.int (3 : Int32)), (.ref b274)])) (fun t k => ?_) ?_
      · show Steps p.tables e below (T386.setTop (mkF m 323 #[.val (.int p0), .val (.int p1), .val (.int p2), .val (.int p3), .val (.int p4), .val (.int p5), .val (.int (3 : Int32)), .val (.double d0), .second, .val (.double d1), .second, .val (.double d2), .second, .val (.double df), .second, .val (.double sc), .second, .val (.ref b274), .val (.ref b296)] [(.int (cmpValue (FP.dcmp d2 d2) .l))])) t
        refine XS.ifNo X386.here hx rfl (hb hby at_323) rfl ((if0 _ _).trans (teq hc397).2) ?_
        show Steps p.tables e below (T386.setTop (mkF m 326 #[.val (.int p0), .val (.int p1), .val (.int p2), .val (.int p3), .val (.int p4), .val (.int p5), .val (.int (3 : Int32)), .val (.double d0), .second, .val (.double d1), .second, .val (.double d2), .second, .val (.double df), .second, .val (.double sc), .second, .val (.ref b274), .val (.ref b296)] [])) t
        refine XS.aload X386.here hx rfl (hb hby at_326) rfl rfl ?_
        show Steps p.tables e below (T386.setTop (mkF m 328 #[.val (.int p0), .val (.int p1), .val (.int p2), .val (.int p3), .val (.int p4), .val (.int p5), .val (.int (3 : Int32)), .val (.double d0), .second, .val (.double d1), .second, .val (.double d2), .second, .val (.double df), .second, .val (.double sc), .second, .val (.ref b274), .val (.ref b296)] [(.ref b274)])) t
        refine XS.iconst X386.here hx rfl (hb hby at_328) ?_
        exact k
      have cq398 := y386_0
      obtain ⟨clq398, Arq398, qq398, Sq398, Nq398, Hq398, Gq398⟩ := cq398
      have hinq398 := inb_of (j := (3 : Int32)) Sq398 ⟨by decide, by decide⟩
      refine OwnGo.of (X386.daload hx (j := (3 : Int32)) (v := (.double sc)) Arq398.1 (State.isArrayOf_alike hZ.alike Arq398.2.1) Arq398.2.2 hinq398 (Hq398.at hinq398 rfl) (g := (mkF m 329 #[.val (.int p0), .val (.int p1), .val (.int p2), .val (.int p3), .val (.int p4), .val (.int p5), .val (.int (3 : Int32)), .val (.double d0), .second, .val (.double d1), .second, .val (.double d2), .second, .val (.double df), .second, .val (.double sc), .second, .val (.ref b274), .val (.ref b296)] [(.int (3 : Int32)), (.ref b274)])) rfl rfl (hb hby at_329)) ?_
      show OwnGo p.tables e below _ (T386.setTop (mkF m 330 #[.val (.int p0), .val (.int p1), .val (.int p2), .val (.int p3), .val (.int p4), .val (.int p5), .val (.int (3 : Int32)), .val (.double d0), .second, .val (.double d1), .second, .val (.double d2), .second, .val (.double df), .second, .val (.double sc), .second, .val (.ref b274), .val (.ref b296)] [(.double sc)]))
      refine OwnGo.of (A := T386.setTop (mkF m 330 #[.val (.int p0), .val (.int p1), .val (.int p2), .val (.int p3), .val (.int p4), .val (.int p5), .val (.int (3 : Int32)), .val (.double d0), .second, .val (.double d1), .second, .val (.double d2), .second, .val (.double df), .second, .val (.double sc), .second, .val (.ref b274), .val (.ref b296)] [(.double sc)])) (B := T386.setTop (mkF m 333 #[.val (.int p0), .val (.int p1), .val (.int p2), .val (.int p3), .val (.int p4), .val (.int p5), .val (.int (3 : Int32)), .val (.double d0), .second, .val (.double d1), .second, .val (.double d2), .second, .val (.double df), .second, .val (.double sc), .second, .val (.ref b274), .val (.ref b296)] [(.int (3 : Int32)), (.ref b296), (.double sc)])) (fun t k => ?_) ?_
      · show Steps p.tables e below (T386.setTop (mkF m 330 #[.val (.int p0), .val (.int p1), .val (.int p2), .val (.int p3), .val (.int p4), .val (.int p5), .val (.int (3 : Int32)), .val (.double d0), .second, .val (.double d1), .second, .val (.double d2), .second, .val (.double df), .second, .val (.double sc), .second, .val (.ref b274), .val (.ref b296)] [(.double sc)])) t
        refine XS.aload X386.here hx rfl (hb hby at_330) rfl rfl ?_
        show Steps p.tables e below (T386.setTop (mkF m 332 #[.val (.int p0), .val (.int p1), .val (.int p2), .val (.int p3), .val (.int p4), .val (.int p5), .val (.int (3 : Int32)), .val (.double d0), .second, .val (.double d1), .second, .val (.double d2), .second, .val (.double df), .second, .val (.double sc), .second, .val (.ref b274), .val (.ref b296)] [(.ref b296), (.double sc)])) t
        refine XS.iconst X386.here hx rfl (hb hby at_332) ?_
        exact k
      have cq399 := f388
      obtain ⟨clq399, Arq399, qq399, Sq399, Nq399, Hq399, Gq399⟩ := cq399
      have hinq399 := inb_of (j := (3 : Int32)) Sq399 ⟨by decide, by decide⟩
      refine OwnGo.of (X386.daload hx (j := (3 : Int32)) (v := (.double sc)) Arq399.1 (State.isArrayOf_alike hZ.alike Arq399.2.1) Arq399.2.2 hinq399 (Hq399.at hinq399 rfl) (g := (mkF m 333 #[.val (.int p0), .val (.int p1), .val (.int p2), .val (.int p3), .val (.int p4), .val (.int p5), .val (.int (3 : Int32)), .val (.double d0), .second, .val (.double d1), .second, .val (.double d2), .second, .val (.double df), .second, .val (.double sc), .second, .val (.ref b274), .val (.ref b296)] [(.int (3 : Int32)), (.ref b296), (.double sc)])) rfl rfl (hb hby at_333)) ?_
      show OwnGo p.tables e below _ (T386.setTop (mkF m 334 #[.val (.int p0), .val (.int p1), .val (.int p2), .val (.int p3), .val (.int p4), .val (.int p5), .val (.int (3 : Int32)), .val (.double d0), .second, .val (.double d1), .second, .val (.double d2), .second, .val (.double df), .second, .val (.double sc), .second, .val (.ref b274), .val (.ref b296)] [(.double sc), (.double sc)]))
      refine OwnGo.of (A := T386.setTop (mkF m 334 #[.val (.int p0), .val (.int p1), .val (.int p2), .val (.int p3), .val (.int p4), .val (.int p5), .val (.int (3 : Int32)), .val (.double d0), .second, .val (.double d1), .second, .val (.double d2), .second, .val (.double df), .second, .val (.double sc), .second, .val (.ref b274), .val (.ref b296)] [(.double sc), (.double sc)])) (B := T386.setTop (mkF m 335 #[.val (.int p0), .val (.int p1), .val (.int p2), .val (.int p3), .val (.int p4), .val (.int p5), .val (.int (3 : Int32)), .val (.double d0), .second, .val (.double d1), .second, .val (.double d2), .second, .val (.double df), .second, .val (.double sc), .second, .val (.ref b274), .val (.ref b296)] [(.int (cmpValue (FP.dcmp sc sc) .l))])) (fun t k => ?_) ?_
      · show Steps p.tables e below (T386.setTop (mkF m 334 #[.val (.int p0), .val (.int p1), .val (.int p2), .val (.int p3), .val (.int p4), .val (.int p5), .val (.int (3 : Int32)), .val (.double d0), .second, .val (.double d1), .second, .val (.double d2), .second, .val (.double df), .second, .val (.double sc), .second, .val (.ref b274), .val (.ref b296)] [(.double sc), (.double sc)])) t
        refine XS.dcmpS X386.here hx rfl (hb hby at_334) rfl rfl ?_
        exact k
      have hc400 : (cmpValue (FP.dcmp sc sc) .l) = (0 : Int32) := dcmpV_self nsc .l
      refine OwnGo.of (A := T386.setTop (mkF m 335 #[.val (.int p0), .val (.int p1), .val (.int p2), .val (.int p3), .val (.int p4), .val (.int p5), .val (.int (3 : Int32)), .val (.double d0), .second, .val (.double d1), .second, .val (.double d2), .second, .val (.double df), .second, .val (.double sc), .second, .val (.ref b274), .val (.ref b296)] [(.int (cmpValue (FP.dcmp sc sc) .l))])) (B := T386.setTop (mkF m 343 #[.val (.int p0), .val (.int p1), .val (.int p2), .val (.int p3), .val (.int p4), .val (.int p5), .val (.int (3 : Int32)), .val (.double d0), .second, .val (.double d1), .second, .val (.double d2), .second, .val (.double df), .second, .val (.double sc), .second, .val (.ref b274), .val (.ref b296)] [(.int (1 : Int32))])) (fun t k => ?_) ?_
      · show Steps p.tables e below (T386.setTop (mkF m 335 #[.val (.int p0), .val (.int p1), .val (.int p2), .val (.int p3), .val (.int p4), .val (.int p5), .val (.int (3 : Int32)), .val (.double d0), .second, .val (.double d1), .second, .val (.double d2), .second, .val (.double df), .second, .val (.double sc), .second, .val (.ref b274), .val (.ref b296)] [(.int (cmpValue (FP.dcmp sc sc) .l))])) t
        refine XS.ifNo X386.here hx rfl (hb hby at_335) rfl ((if0 _ _).trans (teq hc400).2) ?_
        show Steps p.tables e below (T386.setTop (mkF m 338 #[.val (.int p0), .val (.int p1), .val (.int p2), .val (.int p3), .val (.int p4), .val (.int p5), .val (.int (3 : Int32)), .val (.double d0), .second, .val (.double d1), .second, .val (.double d2), .second, .val (.double df), .second, .val (.double sc), .second, .val (.ref b274), .val (.ref b296)] [])) t
        refine XS.iconst X386.here hx rfl (hb hby at_338) ?_
        show Steps p.tables e below (T386.setTop (mkF m 339 #[.val (.int p0), .val (.int p1), .val (.int p2), .val (.int p3), .val (.int p4), .val (.int p5), .val (.int (3 : Int32)), .val (.double d0), .second, .val (.double d1), .second, .val (.double d2), .second, .val (.double df), .second, .val (.double sc), .second, .val (.ref b274), .val (.ref b296)] [(.int (1 : Int32))])) t
        refine XS.goto X386.here hx rfl (pc0 := 339) (pc' := 343) rfl (hb hby at_339) (by decide) (by decide) ?_
        exact k
      obtain ⟨fs, hr, hrun, hended, hW, hsame⟩ := X386.leave (v := some (.int (nar .boolean (1 : Int32)))) (fun h => by rw [Bd.returns] at h; cases h) hlk
      refine ⟨_, _, ?_, hrun, hended, _, _, rfl, ?_, ⟨_, rfl⟩, hW, hsame.mono (by decide) (by decide)⟩
      · show Steps p.tables e below (T386.setTop (mkF m 343 #[.val (.int p0), .val (.int p1), .val (.int p2), .val (.int p3), .val (.int p4), .val (.int p5), .val (.int (3 : Int32)), .val (.double d0), .second, .val (.double d1), .second, .val (.double d2), .second, .val (.double df), .second, .val (.double sc), .second, .val (.ref b274), .val (.ref b296)] [(.int (1 : Int32))])) _
        exact retN X386 hx (t := .boolean) Bd.returns (by simp) (hb hby at_343) hr
      · show Qrm0 Z p0 p1 p2 p3 p4 p5 h0 n0 _ (T386.setFrames fs).heap _
        rw [show (T386.setFrames fs).heap = T386.heap from rfl]
        exact ⟨rfl, N386⟩
set_option maxRecDepth 65536 in
set_option maxHeartbeats 40000000 in
theorem comes_1 {Post : Tables → Env → Array Value → State → Outcome → State → Prop} (hpost : ∀ tb e args s v u, (limb_1_1.after args s (.returned v) u = true ∧ limb_1_2.after args s (.returned v) u = true ∧ True) → FrameEnd s (.returned v) u (Jvm.fieldLocs frame_1_writes args s ++ Jvm.arrayLocs frame_1_arrays args s ++ Jvm.staticLocs frame_1_statics s) 16 128 → Post tb e args s (.returned v) u) :
    ArmFor flags0 classFile x code maxLocals ret World_1 tables_1 room_1 Calls_1 rest_1 Pre_1 Post := by
  intro l hfl _ _ p e ha hc hk s m args below hf hA hF happ hP
  obtain ⟨hcalls, hrest, hpre⟩ := hP
  obtain ⟨-, -, -, hnamed, -, -, -, hat⟩ := (Spec.applies_iff hf).mp happ
  obtain ⟨hg, hn⟩ := and_e (Cond.before_iff.mp (show (Jvm.Cond.and given_1 narrow_1).before args s = true from hpre))
  obtain ⟨gg1, gg2⟩ := and_e hg
  obtain ⟨gg3, gg4⟩ := and_e gg2
  obtain ⟨gg5, gg6⟩ := and_e gg4
  obtain ⟨gg7, gg8⟩ := and_e gg6
  obtain ⟨gg9, gg10⟩ := and_e gg8
  obtain ⟨gg11, gg12⟩ := and_e gg10
  obtain ⟨w0, w1, w2, w3, w4, w5, rfl⟩ : ∃ w0 w1 w2 w3 w4 w5 : Value, args = #[w0, w1, w2, w3, w4, w5] := by
    have hs : args.size = 6 := by simpa [Cond.value, given_1] using gg1
    obtain ⟨L⟩ := args
    match L, hs with
    | [w0, w1, w2, w3, w4, w5], _ => exact ⟨w0, w1, w2, w3, w4, w5, rfl⟩
  have hw := fun d (hd : d ∈ tables_1) => atoms_spec (ws := Jvm.Cond.code x code maxLocals ret :: tables_1) hat d (List.mem_cons_of_mem _ hd)
  have hfit : Fit s := fun {y c} hc i hi => by
    obtain ⟨ha, rfl⟩ := Array.getElem?_eq_some_iff.mp hc
    have q := List.all_eq_true.mp ((Array.all_eq_true_iff_forall_mem.mp hF) _ (Array.getElem_mem ha)) i (List.mem_range.mpr hi)
    simpa [Array.getElem?_eq_getElem hi] using q
  obtain ⟨i0, ei0⟩ := is_v gg3
  obtain rfl : w0 = (.int i0) := Option.some.inj ei0
  obtain ⟨i1, ei1⟩ := is_v gg5
  obtain rfl : w1 = (.int i1) := Option.some.inj ei1
  obtain ⟨i2, ei2⟩ := is_v gg7
  obtain rfl : w2 = (.int i2) := Option.some.inj ei2
  obtain ⟨i3, ei3⟩ := is_v gg9
  obtain rfl : w3 = (.int i3) := Option.some.inj ei3
  obtain ⟨i4, ei4⟩ := is_v gg11
  obtain rfl : w4 = (.int i4) := Option.some.inj ei4
  obtain ⟨i5, ei5⟩ := is_v gg12
  obtain rfl : w5 = (.int i5) := Option.some.inj ei5
  obtain ⟨n, o, h1, h2, h3, _, L, rfl, ⟨rfl, N⟩, hq⟩ := rm0 l s _ hw tables_1 i0 i1 i2 i3 i4 i5  s.heap s.heap.size (Nat.le_refl _)  p e ha hc hk s m _ below hf ((Spec.applies_iff_loose hf).mp happ).1 ⟨rfl, State.Warmed39.refl s, rfl⟩ trivial
  refine ⟨n, _, h1, h2, h3, hpost _ _ _ _ _ _ ⟨Cond.after_iff.mpr rfl, Cond.after_iff.mpr (eq_i res_at (Term.int_eval (1)) rfl), trivial⟩ ⟨hq.1, hq.2.1, (hq.2.2.sift fun y hy => Or.inr (N y hy)).mono (by decide) (by decide)⟩⟩
theorem main_1_1 : Claimed_1_1 := comes_1 fun _ _ _ _ _ _ h hF => ⟨h.1, hF⟩
theorem main_1_2 : Claimed_1_2 := comes_1 fun _ _ _ _ _ _ h hF => ⟨h.2.1, hF⟩
end Jvm.Pilot.@@N@@
namespace Jvm.Pilot.@@N@@
open Jvm Jvm.ClassFile Sem Op Lib Jvm.Free Jvm.Stand Jvm.Pilot.@@N@@.Jvm.D
/-! MADE BY PROGRAM (witnessworld.py) out of the Statement's table words and the real class files: 9 classes; the members and pool entries that the words name. The judged class is class 1, her method 1. -/
namespace start1
open Jvm.ClassFile
def u (s : String) : CpInfo := .utf8 (stringToUtf16 s)
/-- a pool by its gaps: so many unusable entries, then the entry; so many at the end -/
def gap : Nat → List CpInfo → List CpInfo
  | 0, r => r
  | n + 1, r => .unusable :: gap n r
def poolList (es : List (Nat × CpInfo)) (last : Nat) : List CpInfo := es.foldr (fun e r => gap e.1 (e.2 :: r)) (gap last [])
def pool (es : List (Nat × CpInfo)) (last : Nat) : Array CpInfo := ⟨poolList es last⟩
def fileOf (pool : Array CpInfo) (this : Nat) (attrs : Array Attribute := #[]) (ms : Array MethodInfo := #[]) (fl : Nat := 33) (sup : Nat := 0) (ifs : Array Nat := #[]) (fds : Array FieldInfo := #[]) : ClassFile where
  minorVersion := 0
  majorVersion := 65
  constantPool := pool
  accessFlags := fl
  thisClass := this
  superClass := sup
  interfaces := ifs
  fields := fds
  methods := ms
  attributes := attrs
def plain (name : String) (sup : Option ClassId) : Class where
  name := name
  kind := .ordinary
  loader := none
  accessFlags := 33
  super := sup
  interfaces := #[]
  cf := none
  fields := #[]
  methods := #[]
  instanceTypes := #[]
  staticTypes := #[]
  resolved := #[]
  callSites := []
  init := .initialized
  statics := none
  mirror := none

def pool0 : Array CpInfo := pool [(5, u "<init>"), (0, u "()V"), (1, .class_ 10), (1, u "java/lang/Object")] 113

def k0m0 : Method := { name := "<init>", desc := "()V", sig := { parameters := [], returnType := none }, accessFlags := 1, code := none }
/-- java/lang/Object -/
def k0 : Class := { plain "java/lang/Object" none with
  accessFlags := 33
  interfaces := #[]
  cf := some (fileOf pool0 8 #[] #[{ accessFlags := 1, nameIndex := 5, descriptorIndex := 6, attributes := #[] }] 33 0 #[] #[])
  fields := #[]
  methods := #[k0m0]
  instanceTypes := #[]
  staticTypes := #[]
  resolved := Array.replicate 124 none
  statics := none }

def pool1 : Array CpInfo := pool [(2, .class_ 4), (1, u "java/lang/Object"), (0, u "<init>"), (0, u "()V"), (0, .integer 2147483647), (0, .methodref 9 10), (0, .class_ 11), (0, .nameAndType 12 13), (0, u "com/example/rankwright/rankwright/rank/Accumulator"), (0, u "siftUp"), (0, u "([DID)V"), (0, .class_ 15), (0, u "com/example/rankwright/rankwright/rank/AccumulatorSiftUpPinLaw"), (2, u "law"), (0, u "(IIIIII)Z")] 5

def k1m0 : Method := { name := "<init>", desc := "()V", sig := { parameters := [], returnType := none }, accessFlags := 1, code := none }
def k1c1 : Code := { maxStack := 4, maxLocals := 19, code := code, exceptionTable := #[], attributes := #[] }
def k1m1 : Method := { name := "law", desc := "(IIIIII)Z", sig := { parameters := [.int, .int, .int, .int, .int, .int], returnType := some .boolean }, accessFlags := 9, code := some k1c1 }
/-- com/example/rankwright/rankwright/rank/AccumulatorSiftUpPinLaw -/
def k1 : Class := { plain "com/example/rankwright/rankwright/rank/AccumulatorSiftUpPinLaw" (some 0) with
  accessFlags := 49
  interfaces := #[]
  cf := some (fileOf pool1 14 #[] #[{ accessFlags := 1, nameIndex := 5, descriptorIndex := 6, attributes := #[] }, { accessFlags := 9, nameIndex := 18, descriptorIndex := 19, attributes := #[] }] 49 2 #[] #[])
  fields := #[]
  methods := #[k1m0, k1m1]
  instanceTypes := #[]
  staticTypes := #[]
  resolved := Array.replicate 25 none
  statics := none }

def pool2 : Array CpInfo := pool [(2, .class_ 4), (1, u "com/example/rankwright/rankwright/rank/Accumulator"), (3, .class_ 10), (1, u "java/lang/Object"), (3, u "documentCount"), (0, u "I"), (6, u "floor"), (0, u "D"), (2, u "mostByPlace"), (7, u "touched"), (0, u "Lcom/example/rankwright/rankwright/rank/Touched;"), (6, u "byPlace"), (0, u "[D"), (2, u "dense"), (0, u "Z"), (16, u "touchedWords"), (0, u "[J"), (2, u "documentsTouched"), (4, u "byDocument"), (1, .class_ 77), (1, u "com/example/rankwright/rankwright/rank/Accumulator$Values"), (66, .class_ 146), (1, u "com/example/rankwright/rankwright/rank/Accumulator$Ids"), (116, u "siftUp"), (0, u "([DID)V"), (20, u "PRINTED_EQUAL"), (1, u "BELOW"), (1, u "TIED"), (1, u "ABOVE"), (1, u "DENSE_SHARE"), (1, u "SELECTION_BUCKETS"), (26, .class_ 323), (0, u "com/example/rankwright/rankwright/rank/Accumulator$Ids$1")] 31

def k2c0 : Code := { maxStack := 5, maxLocals := 5, code := prog_94_method_24_code, exceptionTable := #[], attributes := #[] }
def k2m0 : Method := { name := "siftUp", desc := "([DID)V", sig := { parameters := [(.array .double), .int, .double], returnType := none }, accessFlags := 8, code := some k2c0 }
/-- com/example/rankwright/rankwright/rank/Accumulator -/
def k2 : Class := { plain "com/example/rankwright/rankwright/rank/Accumulator" (some 0) with
  accessFlags := 49
  interfaces := #[]
  cf := some (fileOf pool2 2 #[.nestMembers #[75, 144, 322]] #[{ accessFlags := 8, nameIndex := 263, descriptorIndex := 264, attributes := #[] }] 49 8 #[] #[{ accessFlags := 24, nameIndex := 285, descriptorIndex := 23, attributes := #[] }, { accessFlags := 26, nameIndex := 287, descriptorIndex := 15, attributes := #[] }, { accessFlags := 26, nameIndex := 289, descriptorIndex := 15, attributes := #[] }, { accessFlags := 26, nameIndex := 291, descriptorIndex := 15, attributes := #[] }, { accessFlags := 26, nameIndex := 293, descriptorIndex := 15, attributes := #[] }, { accessFlags := 26, nameIndex := 295, descriptorIndex := 15, attributes := #[] }, { accessFlags := 18, nameIndex := 14, descriptorIndex := 15, attributes := #[] }, { accessFlags := 18, nameIndex := 22, descriptorIndex := 23, attributes := #[] }, { accessFlags := 18, nameIndex := 26, descriptorIndex := 15, attributes := #[] }, { accessFlags := 18, nameIndex := 34, descriptorIndex := 35, attributes := #[] }, { accessFlags := 2, nameIndex := 42, descriptorIndex := 43, attributes := #[] }, { accessFlags := 2, nameIndex := 46, descriptorIndex := 47, attributes := #[] }, { accessFlags := 2, nameIndex := 73, descriptorIndex := 43, attributes := #[] }, { accessFlags := 2, nameIndex := 64, descriptorIndex := 65, attributes := #[] }, { accessFlags := 2, nameIndex := 68, descriptorIndex := 15, attributes := #[] }])
  fields := #[{ name := "PRINTED_EQUAL", type := .double, accessFlags := 24, slot := 0, constantValue := 0 }, { name := "BELOW", type := .int, accessFlags := 26, slot := 1, constantValue := 0 }, { name := "TIED", type := .int, accessFlags := 26, slot := 2, constantValue := 0 }, { name := "ABOVE", type := .int, accessFlags := 26, slot := 3, constantValue := 0 }, { name := "DENSE_SHARE", type := .int, accessFlags := 26, slot := 4, constantValue := 0 }, { name := "SELECTION_BUCKETS", type := .int, accessFlags := 26, slot := 5, constantValue := 0 }, { name := "documentCount", type := .int, accessFlags := 18, slot := 0, constantValue := 0 }, { name := "floor", type := .double, accessFlags := 18, slot := 1, constantValue := 0 }, { name := "mostByPlace", type := .int, accessFlags := 18, slot := 2, constantValue := 0 }, { name := "touched", type := (.object "com/example/rankwright/rankwright/rank/Touched"), accessFlags := 18, slot := 3, constantValue := 0 }, { name := "byPlace", type := (.array .double), accessFlags := 2, slot := 4, constantValue := 0 }, { name := "dense", type := .boolean, accessFlags := 2, slot := 5, constantValue := 0 }, { name := "byDocument", type := (.array .double), accessFlags := 2, slot := 6, constantValue := 0 }, { name := "touchedWords", type := (.array .long), accessFlags := 2, slot := 7, constantValue := 0 }, { name := "documentsTouched", type := .int, accessFlags := 2, slot := 8, constantValue := 0 }]
  methods := #[k2m0]
  instanceTypes := #[.int, .double, .int, (.object "com/example/rankwright/rankwright/rank/Touched"), (.array .double), .boolean, (.array .double), (.array .long), .int]
  staticTypes := #[.double, .int, .int, .int, .int, .int]
  resolved := Array.replicate 355 none
  statics := none }

def pool3 : Array CpInfo := pool [(1, u "java/lang/Cloneable"), (0, .class_ 1), (0, u "java/lang/Object"), (0, .class_ 3)] 3

/-- java/lang/Cloneable -/
def k3 : Class := { plain "java/lang/Cloneable" (some 0) with
  accessFlags := 1537
  interfaces := #[]
  cf := some (fileOf pool3 2 #[] #[] 1537 4 #[] #[])
  fields := #[]
  methods := #[]
  instanceTypes := #[]
  staticTypes := #[]
  resolved := Array.replicate 8 none
  statics := none }

def pool4 : Array CpInfo := pool [(1, u "java/io/Serializable"), (0, .class_ 1), (0, u "java/lang/Object"), (0, .class_ 3)] 3

/-- java/io/Serializable -/
def k4 : Class := { plain "java/io/Serializable" (some 0) with
  accessFlags := 1537
  interfaces := #[]
  cf := some (fileOf pool4 2 #[] #[] 1537 4 #[] #[])
  fields := #[]
  methods := #[]
  instanceTypes := #[]
  staticTypes := #[]
  resolved := Array.replicate 8 none
  statics := none }

/-- the primitive byte -/
def k5 : Class := { plain "byte" none with kind := .primitive 'B', accessFlags := 0x411 }
/-- [B -/
def k6 : Class := { plain "[B" (some 0) with kind := .array 5 .byte, interfaces := #[3, 4], accessFlags := 1041 }

/-- the primitive double -/
def k7 : Class := { plain "double" none with kind := .primitive 'D', accessFlags := 0x411 }
/-- [D -/
def k8 : Class := { plain "[D" (some 0) with kind := .array 7 .double, interfaces := #[3, 4], accessFlags := 1041 }

def heap : Heap := #[]
def classes : Array Class := #[k0, k1, k2, k3, k4, k5, k6, k7, k8]
def interned : List (Array UInt16 × Addr) := []
def slotsUsed : Nat := 0
def theMethod : MethodId := ⟨1, 1⟩
def args0 : Array Value := #[.int 300, .int 2, .int 5, .int 7, .int 3, .int 9]
def aboutOver (below : List Frame) : State where
  vm := { classes := classes, interned := interned.toArray }
  heap := heap
  slotsUsed := slotsUsed
  threads := #[{ frames := .invoking theMethod args0 :: below }]
def below0 : List Frame := [.native { method := ⟨0, 0⟩, args := #[] }]
def about1 : State := aboutOver below0
def p0 : Program := .bare "" "" ""
def e0 : Env := launch0.env 0 0 0
theorem w_frames : about1.frames = Frame.invoking theMethod args0 :: below0 := rfl
set_option maxRecDepth 65536 in
theorem w_args : argsFit about1.vm theMethod args0 = true := by decide +kernel
set_option maxRecDepth 65536 in
theorem w_heap : heapFits about1 = true := by decide +kernel
set_option maxRecDepth 65536 in
theorem w_runnable : about1.curStatus? = some .runnable := by decide +kernel
set_option maxRecDepth 65536 in
theorem w_alone : about1.alone = true := by decide +kernel
set_option maxRecDepth 65536 in
theorem w_named : about1.methodNamed? x = some theMethod := by decide +kernel
set_option maxRecDepth 65536 in
theorem w_hears : about1.hears theMethod below0 = true := by decide +kernel
set_option maxRecDepth 65536 in
theorem w_ripe : about1.ripe theMethod args0 below0 = true := by decide +kernel
theorem w_running : about1.status = .running := rfl
set_option maxRecDepth 65536 in
theorem w_room : about1.hasRoom e0.platform room_1 = true :=
  launch0.hasRoom_least _ room_1 (by decide +kernel) (by decide +kernel) (by decide +kernel) (by decide +kernel) (by decide +kernel) (by decide +kernel)
theorem allAtoms_all (ts : List Jvm.Cond) (a : Array Jvm.Value) (st : Jvm.State) : (allAtoms ts).before a st = ts.all (fun c => c.before a st) := by
  induction ts with
  | nil => rfl
  | cons c t ih =>
    show (Jvm.Cond.and c (allAtoms t)).before a st = _
    rw [Jvm.Cond.before_and, ih, List.all_cons]
def words1 : List Jvm.Cond := Jvm.Cond.code x code maxLocals ret :: tables_1
/-- a 'code' word, met by the world's own term for the bytes: nothing is compared byte by byte -/
theorem code_word {y : MethodName} {bytes : ByteArray} {mx : Nat} {rt : Option FieldType} {a : Array Value} {s : State} {m : MethodId} {meth : Method} {c : Code} (h1 : s.methodNamed? y = some m) (h2 : s.vm.method? m = some meth) (h3 : meth.code = some c) (h4 : c.code = bytes)
    (h5 : (c.maxLocals == mx && c.exceptionTable.isEmpty && decide (c.maxStack ≤ mostOperands) && decide (meth.sig.returnType = rt) && !meth.locks && decide (parseMethodDescriptor y.desc = some meth.sig)) = true) : (Jvm.Cond.code y bytes mx rt).before a s = true := by
  simp only [Bool.and_eq_true, beq_iff_eq, Bool.not_eq_true', decide_eq_true_eq] at h5
  obtain ⟨⟨⟨⟨⟨g1, g2⟩, g3⟩, g4⟩, g5⟩, g6⟩ := h5
  simp [Cond.before, Cond.holds, Cond.value, h1, h2, h3, h4, g1, g2, g3, g4, g5, g6]
def isCode : Jvm.Cond → Bool
  | .code _ _ _ _ => true
  | _ => false
theorem all_split {L : List Jvm.Cond} {P : Jvm.Cond → Bool} (h1 : L.all (fun c => isCode c || P c) = true) (h2 : ∀ c ∈ L.filter isCode, P c = true) : L.all P = true := by
  refine List.all_eq_true.mpr fun c hc => ?_
  have h := List.all_eq_true.mp h1 c hc
  rcases Bool.eq_false_or_eq_true (isCode c) with hi | hi
  · exact h2 c (List.mem_filter.mpr ⟨hc, hi⟩)
  · simpa [hi] using h
set_option maxRecDepth 65536 in
theorem w_c0 : (Jvm.Cond.code x code maxLocals ret).before args0 about1 = true := code_word (m := ⟨1, 1⟩) (meth := k1m1) (c := k1c1) (by decide +kernel) rfl rfl rfl (by decide +kernel)
set_option maxRecDepth 65536 in
theorem w_c1 : (Jvm.Cond.code ({ cls := "com/example/rankwright/rankwright/rank/Accumulator", name := "siftUp", desc := "([DID)V" } : Jvm.MethodName) prog_94_method_24_code (5 : Nat) (Option.none : Option Jvm.ClassFile.FieldType)).before args0 about1 = true := code_word (m := ⟨2, 0⟩) (meth := k2m0) (c := k2c0) (by decide +kernel) rfl rfl rfl (by decide +kernel)
def codes1 : List Jvm.Cond := [Jvm.Cond.code x code maxLocals ret, Jvm.Cond.code ({ cls := "com/example/rankwright/rankwright/rank/Accumulator", name := "siftUp", desc := "([DID)V" } : Jvm.MethodName) prog_94_method_24_code (5 : Nat) (Option.none : Option Jvm.ClassFile.FieldType)]
set_option maxRecDepth 65536 in
theorem codes_eq : words1.filter isCode = codes1 := rfl
theorem w_codes : ∀ c ∈ words1.filter isCode, c.before args0 about1 = true := by
  rw [codes_eq]
  intro c hc
  simp only [codes1, List.mem_cons, List.not_mem_nil, or_false] at hc
  rcases hc with rfl | rfl
  · exact w_c0
  · exact w_c1
set_option maxRecDepth 65536 in
theorem w_t1 : words1.all (fun c => isCode c || c.before args0 about1) = true := by decide +kernel
theorem w_tables : (allAtoms (Jvm.Cond.code x code maxLocals ret :: tables_1)).before args0 about1 = true := by
  rw [allAtoms_all]
  show words1.all (fun c => c.before args0 about1) = true
  refine all_split ?_ w_codes
  rw [w_t1]
set_option maxRecDepth 65536 in
theorem w_case : (Jvm.Cond.and given_1 narrow_1).before args0 about1 = true := by decide +kernel
theorem w_applies : (headSpec (Jvm.Cond.code x code maxLocals ret :: tables_1) room_1).applies x e0.platform about1 = true :=
  (Spec.applies_iff w_frames).mpr ⟨w_running, w_runnable, w_alone, w_named, w_hears, w_ripe, w_room, w_tables⟩
theorem atStart : AtStart classFile x code maxLocals ret World_1 tables_1 room_1 Calls_1 rest_1 Pre_1 launch0 p0 e0 about1 theMethod args0 below0 :=
  ⟨lists_1, trivial, launch0.admits_env _ _ _, launch0.least_env, fairChoices_fair.cas, fairChoices_fair.clock, w_frames, w_args, w_heap, w_applies, trivial, trivial, w_case⟩
end start1
theorem witness_1 : WitnessClaimed_1 := ⟨start1.p0, start1.e0, start1.about1, start1.theMethod, start1.args0, start1.below0, start1.atStart⟩
end Jvm.Pilot.@@N@@
