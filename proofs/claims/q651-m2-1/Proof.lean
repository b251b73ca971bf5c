import JvmDerived
import JvmDerived.Pilot.@@N@@Statement
import JvmDerived.Pilot.@@N@@Code
set_option linter.unusedVariables false
set_option linter.unusedSimpArgs false
namespace Jvm.Pilot.@@N@@
open Jvm Jvm.ClassFile Sem Op Lib Jvm.Free Jvm.Stand Jvm.LawKit Jvm.RoadKit Bundle Jvm.Pilot.@@N@@.Jvm.D
section OwnKit
variable {p : Program} {l : Launch} {e : Env} {R : Room} {s : State} {m : MethodId} {args : Array Value} {below : List Frame} {meth : Method} {c : Code} {T : State} {locs : List Loc} {cells slots : Nat}
theorem own_retI (X : Stand p l e R s m args below meth c T locs cells slots) (hx : p.tables.exec = Jvm.exec) {pc : Nat} {Ls : Array Slot} {z : Int32} {rest : List Value} (hret : meth.sig.returnType = some .int) (hd : decode c.code pc = .ok (.ireturn, 1)) {fs : List Frame}
    (hl : ∀ (f : JFrame) (acts : List Action), f.method = m → f.locked = none → f.entered = [] → (doReturn e (T.setTop f) acts (some (.int z))).1 = T.setFrames fs) : Steps p.tables e below (T.setTop (mkF m pc Ls (.int z :: rest))) (T.setFrames fs) :=
  retOut X hx hret rfl (Or.inl ⟨rfl, Or.inl rfl, z, rfl⟩) hd hl
theorem own_retL (X : Stand p l e R s m args below meth c T locs cells slots) (hx : p.tables.exec = Jvm.exec) {pc : Nat} {Ls : Array Slot} {z : Int64} {rest : List Value} (hret : meth.sig.returnType = some .long) (hd : decode c.code pc = .ok (.lreturn, 1)) {fs : List Frame}
    (hl : ∀ (f : JFrame) (acts : List Action), f.method = m → f.locked = none → f.entered = [] → (doReturn e (T.setTop f) acts (some (.long z))).1 = T.setFrames fs) : Steps p.tables e below (T.setTop (mkF m pc Ls (.long z :: rest))) (T.setFrames fs) :=
  retOut X hx hret rfl (Or.inr (Or.inl ⟨rfl, rfl, z, rfl⟩)) hd hl
theorem own_retA (X : Stand p l e R s m args below meth c T locs cells slots) (hx : p.tables.exec = Jvm.exec) {pc : Nat} {Ls : Array Slot} {t : FieldType} {v : Value} {rest : List Value} (hret : meth.sig.returnType = some t) (ht : t.isReference = true) (hv : v.isRef = true) (hn : narrow t v = v) (hd : decode c.code pc = .ok (.areturn, 1)) {fs : List Frame}
    (hl : ∀ (f : JFrame) (acts : List Action), f.method = m → f.locked = none → f.entered = [] → (doReturn e (T.setTop f) acts (some v)).1 = T.setFrames fs) : Steps p.tables e below (T.setTop (mkF m pc Ls (v :: rest))) (T.setFrames fs) :=
  retOut X hx hret hn (Or.inr (Or.inr (Or.inr (Or.inr ⟨rfl, ht, hv⟩)))) hd hl
theorem own_ns_exa {Z : State} {h : Heap} {a : Addr} {C : String} (F : Exa Z h a C) : ∃ c : Cell, h[a]? = some c ∧ c.vm.isStatics = false := by
  obtain ⟨c, _, h1, -, -, h4, -⟩ := F; exact ⟨c, h1, h4⟩
theorem own_ns_arv {Z : State} {h : Heap} {a : Addr} {k : ClassId} {ty : FieldType} {z : Int32} {vs : List Value} {dv : Value} (F : Arv Z h a k ty z vs dv) : ∃ c : Cell, h[a]? = some c ∧ c.vm.isStatics = false := by
  obtain ⟨c, A, -⟩ := F; exact ⟨c, A.1, A.plain⟩
theorem own_sta_keep {Z : State} {h h' : Heap} {C n d : String} {v : Value} {ws : List Addr} (F : Sta Z h C n d v) (K : Keep h h' ws) (q : ∀ x ∈ ws, ∃ c : Cell, h[x]? = some c ∧ c.vm.isStatics = false) : Sta Z h' C n d v := by
  obtain ⟨cf, i, k, f, st, cell, h1, h2, h3, h4, h5, h6, h7⟩ := F
  refine ⟨cf, i, k, f, st, cell, h1, h2, h3, h4, K.2.1 st cell h5 (fun m => ?_), h6, h7⟩
  obtain ⟨c, e1, e2⟩ := q st m; cases h5.symm.trans e1; rw [e2] at h6; cases h6
/-- from A the run ends, and then P -/
def OwnGo (tb : Tables) (e : Env) (below : List Frame) (P : Outcome → State → Prop) (A : State) : Prop := ∃ s₂ o, Steps tb e below A s₂ ∧ s₂.status = .running ∧ Ended s₂ below o ∧ P o s₂
theorem OwnGo.of {tb : Tables} {P : Outcome → State → Prop} {A B : State} (k : ∀ t, Steps tb e below B t → Steps tb e below A t) (g : OwnGo tb e below P B) : OwnGo tb e below P A := by
  obtain ⟨s2, o, h1, h2⟩ := g; exact ⟨s2, o, k _ h1, h2⟩
abbrev OwnPre (R : Room) (as' : Array Value) (h : Heap) (rc rs : Nat) : Pt → Array Value → Prop := fun A a => a = as' ∧ A.U.heap = h ∧ A.cells + rc ≤ R.cells ∧ A.slots + rs ≤ R.slots
abbrev OwnPost (Q : Option Value → Heap → List Loc → Prop) (rc rs : Nat) : Pt → Array Value → Option Value → Pt → Prop := fun A _ v B => ∃ L, Q v B.U.heap L ∧ B.locs = A.locs ++ L ∧ B.cells = A.cells + rc ∧ B.slots = A.slots + rs
theorem own_callS (X : Stand p l e R s m args below meth c T locs cells slots) (hexec : p.tables.exec = Jvm.exec) {own : String} {index : Nat} {y : MethodName} {bytes : ByteArray} {maxL : Nat} {ret : Option FieldType}
    (hown : s.vm.findClass own = some m.cls) (hlink : (Jvm.Cond.methodLink own index y).before args s = true) (hstat : (Jvm.Cond.static y).before args s = true) (hinit : (Jvm.Cond.initialized y.cls).before args s = true)
    (hcode : (Jvm.Cond.code y bytes maxL ret).before args s = true) (hy : y.cls ≠ "java/lang/invoke/MethodHandle" ∧ y.cls ≠ "java/lang/invoke/VarHandle")
    {W : Nat} {as' : Array Value} {h : Heap} {Q : Option Value → Heap → List Loc → Prop} {rc rs : Nat} (hK : Back l R p e below s args y 3 W (OwnPre R as' h rc rs) (OwnPost Q rc rs))
    {g : JFrame} (hg : g.method = m) (hsize : g.locals.size = c.maxLocals) {argsL rest : List Value} (hlen : ∀ sig, parseMethodDescriptor y.desc = some sig → argsL.length = sig.parameters.length)
    (hstack : g.stack = argsL.reverse ++ rest) (hW : 2 * g.monitorRoom + (rest.map fun v => v.category).sum ≤ W) (hdg : decode c.code g.pc = .ok (.invokestatic index, 3))
    (ha : argsL.toArray = as') (eT : T.heap = h) (hc : cells + rc ≤ R.cells) (hs : slots + rs ≤ R.slots) :
    ∃ (T' : State) (L : List Loc) (v : Option Value), Stand p l e R s m args below meth c T' (locs ++ L) (cells + rc) (slots + rs) ∧ Q v T'.heap L ∧ ∀ target, Steps p.tables e below (T'.setTop { g with pc := g.pc + 3, stack := v.toList ++ rest }) target → Steps p.tables e below (T.setTop g) target := by
  obtain ⟨v, _, ⟨T1, L1, k1, n1⟩, -, X1, ⟨Lc, hQ, l1, y1, z1⟩, st⟩ := Jvm.LawKit.callS X hexec hown hlink hstat hinit hcode hy hK hg hsize hlen hstack hW hdg (fun _ _ => ⟨ha, eT, hc, hs⟩)
  dsimp only [Pt.U, Pt.locs, Pt.cells, Pt.slots] at X1 l1 y1 z1 st hQ
  subst l1 y1 z1
  exact ⟨T1, Lc, v, X1, hQ, st⟩
theorem own_callI (X : Stand p l e R s m args below meth c T locs cells slots) (hexec : p.tables.exec = Jvm.exec) {own : String} {index : Nat} {y : MethodName} (hy1 : y.name = "<init>")
    (hown : s.vm.findClass own = some m.cls) (hlink : (Jvm.Cond.methodLink own index y).before args s = true) (hinst : (Jvm.Cond.instanceMethod y).before args s = true)
    {bytes : ByteArray} {maxL : Nat} (hcode : (Jvm.Cond.code y bytes maxL none).before args s = true) (hy : y.cls ≠ "java/lang/invoke/MethodHandle" ∧ y.cls ≠ "java/lang/invoke/VarHandle")
    {W : Nat} {as' : Array Value} {h : Heap} {Q : Option Value → Heap → List Loc → Prop} {rc rs : Nat} (hK : Back l R p e below s args y 3 W (OwnPre R as' h rc rs) (OwnPost Q rc rs))
    {g : JFrame} (hg : g.method = m) (hsize : g.locals.size = c.maxLocals) {a : Addr} {argsL rest : List Value}
    (hlen : ∀ sig, parseMethodDescriptor y.desc = some sig → argsL.length = sig.parameters.length) (hstack : g.stack = argsL.reverse ++ .ref a :: rest) (hW : 2 * g.monitorRoom + (rest.map fun v => v.category).sum ≤ W)
    (hdg : decode c.code g.pc = .ok (.invokespecial index, 3)) (ha : (Value.ref a :: argsL).toArray = as') (eT : T.heap = h) (hc : cells + rc ≤ R.cells) (hs : slots + rs ≤ R.slots) :
    ∃ (T' : State) (L : List Loc) (v : Option Value), Stand p l e R s m args below meth c T' (locs ++ L) (cells + rc) (slots + rs) ∧ Q v T'.heap L ∧ ∀ target, Steps p.tables e below (T'.setTop { g with pc := g.pc + 3, stack := v.toList ++ rest }) target → Steps p.tables e below (T.setTop g) target := by
  obtain ⟨v, _, ⟨T1, L1, k1, n1⟩, -, X1, ⟨Lc, hQ, l1, y1, z1⟩, st⟩ := X.specialBack hexec hy1 hown hlink hinst hcode hy hK hg hsize (Steps.refl _) hlen hstack hW hdg (fun _ _ => ⟨ha, eT, hc, hs⟩)
  dsimp only [Pt.U, Pt.locs, Pt.cells, Pt.slots] at X1 l1 y1 z1 st hQ
  subst l1 y1 z1
  exact ⟨T1, Lc, v, X1, hQ, fun t k => st.trans k⟩
theorem own_callV (X : Stand p l e R s m args below meth c T locs cells slots) (hexec : p.tables.exec = Jvm.exec) {own C : String} {index : Nat} {y z : MethodName}
    (hown : s.vm.findClass own = some m.cls) (hlink : (Jvm.Cond.methodLink own index y).before args s = true) (hdecl : (Jvm.Cond.declares y).before args s = true) (hnf : NotFace s y)
    (hsel : (Jvm.Cond.selects C y z).before args s = true) (hinst : (Jvm.Cond.instanceMethod z).before args s = true) (hy : y.cls ≠ "java/lang/invoke/MethodHandle" ∧ y.cls ≠ "java/lang/invoke/VarHandle")
    {W : Nat} {as' : Array Value} {h : Heap} {Q : Option Value → Heap → List Loc → Prop} {rc rs : Nat} (hK : Back l R p e below s args z 3 W (OwnPre R as' h rc rs) (OwnPost Q rc rs))
    {b : Addr} {cB : ClassId} (hcB : s.vm.findClass C = some cB) (hrecv : IsOf cB T b)
    {g : JFrame} (hg : g.method = m) (hsize : g.locals.size = c.maxLocals) {argsL rest : List Value}
    (hlen : ∀ sig, parseMethodDescriptor y.desc = some sig → argsL.length = sig.parameters.length) (hstack : g.stack = argsL.reverse ++ .ref b :: rest) (hW : 2 * g.monitorRoom + (rest.map fun v => v.category).sum ≤ W)
    (hdg : decode c.code g.pc = .ok (.invokevirtual index, 3)) (ha : (Value.ref b :: argsL).toArray = as') (eT : T.heap = h) (hc : cells + rc ≤ R.cells) (hs : slots + rs ≤ R.slots) :
    ∃ (T' : State) (L : List Loc) (v : Option Value), Stand p l e R s m args below meth c T' (locs ++ L) (cells + rc) (slots + rs) ∧ Q v T'.heap L ∧ ∀ target, Steps p.tables e below (T'.setTop { g with pc := g.pc + 3, stack := v.toList ++ rest }) target → Steps p.tables e below (T.setTop g) target := by
  obtain ⟨v, _, ⟨T1, L1, k1, n1⟩, -, X1, ⟨Lc, hQ, l1, y1, z1⟩, st⟩ := X.virtualBack hexec hown hlink hdecl hnf hsel hinst hy hK hcB hrecv hg hsize (Steps.refl _) hlen hstack hW hdg (fun _ _ => ⟨ha, eT, hc, hs⟩)
  dsimp only [Pt.U, Pt.locs, Pt.cells, Pt.slots] at X1 l1 y1 z1 st hQ
  subst l1 y1 z1
  exact ⟨T1, Lc, v, X1, hQ, fun t k => st.trans k⟩
end OwnKit

theorem own_setVm (T : State) : T.setVm T.vm = T := by cases T; rfl
theorem own_mvRef {Z s : State} {a0 args : Array Value} {own : String} {index : Nat} {y : MethodName} (hZ : Z.Warmed39 s.vm) (hi : (Jvm.Cond.instanceMethod y).before a0 Z = true) (h : (Jvm.Cond.methodRef own index y).before a0 Z = true) (hy : y.cls ≠ "java/lang/invoke/MethodHandle" ∧ y.cls ≠ "java/lang/invoke/VarHandle") : (Jvm.Cond.methodRef own index y).before args s = true := by
  obtain ⟨obj, methO, hnO, -⟩ := Cond.instanceMethod_spec hi
  have h1 : (Jvm.Cond.methodRef own index y).before a0 (Z.setVm s.vm) = true := Cond.methodRef_warmed39 hZ hnO hy h
  exact h1
theorem own_initRef {tb : Tables} [Ours tb] {e : Env} {below : List Frame} {s U : State} {mm : MethodId} {cc : Code} (h : At U mm cc below) (hexec : tb.exec = Jvm.exec) (hW : s.WarmedH U.vm) {own : String} (hown : s.vm.findClass own = some mm.cls) {idx : Nat} {t : MethodName} (ht1 : t.name = "<init>")
    (hnot : t.cls ≠ "java/lang/invoke/MethodHandle" ∧ t.cls ≠ "java/lang/invoke/VarHandle") {args : Array Value} {bytes : ByteArray} {maxL : Nat}
    (hlink : (Jvm.Cond.methodRef own idx t).before args s = true) (hinst : (Jvm.Cond.instanceMethod t).before args s = true) (hcode : (Jvm.Cond.code t bytes maxL none).before args s = true)
    {f : JFrame} (hf : f.method = mm) {a : Addr} {argsL rest : List Value} (hlen : ∀ sig, parseMethodDescriptor t.desc = some sig → argsL.length = sig.parameters.length) (hstack : f.stack = argsL.reverse ++ .ref a :: rest) (hd : decode cc.code f.pc = .ok (.invokespecial idx, 3)) :
    ∃ tm, s.methodNamed? t = some tm ∧ ∀ target, (∀ acts, Steps tb e below (doInvoke e (U.setTop { f with stack := rest }) acts tm (.ref a :: argsL).toArray).1 target) → Steps tb e below (U.setTop f) target := by
  subst hf
  obtain ⟨obj, methO, hnO, hmO, hstO, habO⟩ := Cond.instanceMethod_spec hinst
  obtain ⟨methO', cO, hmO', hcO, hbO, hlO, -, hlockO, -, hsigO⟩ := Cond.code_spec hnO hcode
  cases hmO.symm.trans hmO'
  obtain ⟨kO, hkO, hnameO⟩ := className_of_methodNamed hnO
  obtain ⟨hnameMO, hdescO⟩ := name_of_methodNamed hnO hmO
  have hl' : (Jvm.Cond.methodRef own idx t).before args (s.setVm U.vm) = true := Cond.methodRef_warmed hW hnO hnot hlink
  have hownU : (s.setVm U.vm).vm.findClass own = some f.method.cls := by show U.vm.findClass own = _; rw [hW.alike.findClass]; exact hown
  have hnU : (s.setVm U.vm).methodNamed? t = some obj := by rw [State.methodNamed?_setVm hW.alike]; exact hnO
  obtain ⟨obj', cI', hfI, hreadyI, hfindI, hnamedI⟩ := Cond.methodRef_named e hownU hl'
  cases (State.methodFound?_of_named hnU hnot).symm.trans hfI
  have hcls : (s.setVm U.vm).vm.findClass t.cls = some obj.cls := findClass_of_methodNamed hnU
  cases hcls.symm.trans hfindI
  obtain ⟨kO₂, hkO₂, heO₂⟩ := hW.alike.2.2 _ _ hkO
  have hmO₂ : U.vm.method? obj = some methO := by rw [hW.alike.method?]; exact hmO
  have hfound : lookupSpecial U.vm obj.cls "<init>" methO.desc = .method obj := by
    rw [hW.alike.lookupSpecial, hdescO, ← ht1]; exact lookupSpecial_of_named hnO hmO hstO
  refine ⟨obj, hnO, fun target hrest => ?_⟩
  jvm_step h [hexec, hd, invokespecial.wp_init (e := e) (s := U) (k := kO₂) (meth := methO) (m := obj) (a := a) (args := argsL) (rest := rest) (f := f) h.top hnamedI hreadyI hkO₂ hmO₂ (by rw [hnameMO]; exact ht1) hstO habO hfound (hlen _ hsigO) hstack]
  exact hrest
theorem own_callRef {p : Program} {l : Launch} {e : Env} {R : Room} {s : State} {m : MethodId} {args : Array Value} {below : List Frame} {meth : Method} {c : Code} {T : State} {locs : List Loc} {cells slots : Nat} (X : Stand p l e R s m args below meth c T locs cells slots) (hexec : p.tables.exec = Jvm.exec) {own : String} {index : Nat} {y : MethodName} (hy1 : y.name = "<init>")
    (hown : s.vm.findClass own = some m.cls) (hlink : (Jvm.Cond.methodRef own index y).before args s = true) (hinst : (Jvm.Cond.instanceMethod y).before args s = true)
    {bytes : ByteArray} {maxL : Nat} (hcode : (Jvm.Cond.code y bytes maxL none).before args s = true) (hy : y.cls ≠ "java/lang/invoke/MethodHandle" ∧ y.cls ≠ "java/lang/invoke/VarHandle")
    {W : Nat} {as' : Array Value} {h : Heap} {Q : Option Value → Heap → List Loc → Prop} {rc rs : Nat} (hK : Back l R p e below s args y 3 W (OwnPre R as' h rc rs) (OwnPost Q rc rs))
    {g : JFrame} (hg : g.method = m) (hsize : g.locals.size = c.maxLocals) {a : Addr} {argsL rest : List Value}
    (hlen : ∀ sig, parseMethodDescriptor y.desc = some sig → argsL.length = sig.parameters.length) (hstack : g.stack = argsL.reverse ++ .ref a :: rest) (hW : 2 * g.monitorRoom + (rest.map fun v => v.category).sum ≤ W)
    (hdg : decode c.code g.pc = .ok (.invokespecial index, 3)) (ha : (Value.ref a :: argsL).toArray = as') (eT : T.heap = h) (hc : cells + rc ≤ R.cells) (hs : slots + rs ≤ R.slots) :
    ∃ (T' : State) (L : List Loc) (v : Option Value), Stand p l e R s m args below meth c T' (locs ++ L) (cells + rc) (slots + rs) ∧ Q v T'.heap L ∧ ∀ target, Steps p.tables e below (T'.setTop { g with pc := g.pc + 3, stack := v.toList ++ rest }) target → Steps p.tables e below (T.setTop g) target := by
  obtain ⟨mk, hnamed, hstep₁⟩ := own_initRef (e := e) X.here hexec X.warmed hown hy1 hy hlink hinst hcode (f := g) hg hlen hstack hdg
  obtain ⟨v, ⟨T1, L1, k1, n1⟩, X1, ⟨Lc, hQ, l1, y1, z1⟩, st⟩ := hK m meth c ⟨T, locs, cells, slots⟩ { g with stack := rest } (.invokespecial index) mk (.ref a :: argsL).toArray X hg hsize hdg hW (X.named hnamed) ⟨ha, eT, hc, hs⟩
  dsimp only [Pt.U, Pt.locs, Pt.cells, Pt.slots] at X1 l1 y1 z1 st hQ
  subst l1 y1 z1
  exact ⟨T1, Lc, v, X1, hQ, fun t k => ((hstep₁ _ fun acts => by rw [doInvoke_state]; exact Steps.refl _).trans st).trans k⟩

def own_pick (q0 : Int64) (p1 : Int32) : Int64 := (if (p1 &&& (1 : Int32)) = (0 : Int32) then (q0 &&& (2097151 : Int64)) else (q0 &&& (9223372036854775807 : Int64)))
theorem pn_0 : plainName "com/example/sevenfold/sevenfold/PackedTablesTakePinLaw" = true := by first | (simp [plainName, overriddenIn]; done) | decide +kernel
theorem d1_0 : decode method_2_code 0 = .ok (.iload_n 2, 1) := by decide +kernel
theorem d1_1 : decode method_2_code 1 = .ok (.iconst 1, 1) := by decide +kernel
theorem d1_2 : decode method_2_code 2 = .ok (.iand, 1) := by decide +kernel
theorem d1_3 : decode method_2_code 3 = .ok (.ifCond .eq 11, 3) := by decide +kernel
theorem d1_6 : decode method_2_code 6 = .ok (.lload_n 0, 1) := by decide +kernel
theorem d1_7 : decode method_2_code 7 = .ok (.ldc2_w 9, 3) := by decide +kernel
theorem d1_10 : decode method_2_code 10 = .ok (.land, 1) := by decide +kernel
theorem d1_11 : decode method_2_code 11 = .ok (.goto 8, 3) := by decide +kernel
theorem d1_14 : decode method_2_code 14 = .ok (.lload_n 0, 1) := by decide +kernel
theorem d1_15 : decode method_2_code 15 = .ok (.ldc2_w 11, 3) := by decide +kernel
theorem d1_18 : decode method_2_code 18 = .ok (.land, 1) := by decide +kernel
theorem d1_19 : decode method_2_code 19 = .ok (.lreturn, 1) := by decide +kernel
theorem ef_rm1 (m : MethodId) (q0 : Int64) (p1 : Int32) : entryFrame m #[(.long q0), (.int p1)] 3 = mkF m 0 #[.val (.long q0), .second, .val (.int p1)] [] := by first | (simp [entryFrame, mkF, argsToLocals, Value.category]; done) | rfl
def Qrm1 (Z : State) (q0 : Int64) (p1 : Int32) (h0 : Heap) (n0 : Nat) (v : Option Value) (h : Heap) (L : List Loc) : Prop := v = some (.long (own_pick q0 p1)) ∧ Fr n0 L ∧ h = h0
set_option maxRecDepth 65536 in
set_option maxHeartbeats 40000000 in
theorem rm1 (l : Launch) (Z : State) (aw : Array Value) (hw : ∀ d ∈ tables_1, d.before aw Z = true) (ws : List Jvm.Cond) (q0 : Int64) (p1 : Int32) (h0 : Heap) (n0 : Nat) (Z0 : n0 ≤ h0.size) :
    MetFree l (⟨"com/example/sevenfold/sevenfold/PackedTablesTakePinLaw", "pick", "(JI)J"⟩ : MethodName) (head1 (Jvm.Cond.code (⟨"com/example/sevenfold/sevenfold/PackedTablesTakePinLaw", "pick", "(JI)J"⟩ : MethodName) method_2_code 3 (some .long) :: ws) ({ frames := 0, cells := 0, slots := 0, locals := 0 } : Room)) (fun a U => a = #[(.long q0), (.int p1)] ∧ Z.Warmed39 U.vm ∧ U.heap = h0) (fun _ _ _ _ _ => True) (fun _ U o U' => ∃ v L, o = .returned v ∧ Qrm1 Z q0 p1 h0 n0 v U'.heap L ∧ FrameEnd U o U' L ({ frames := 0, cells := 0, slots := 0, locals := 0 } : Room).cells ({ frames := 0, cells := 0, slots := 0, locals := 0 } : Room).slots) := by
  refine MetFree.of_bodySF (plainFor_of_name pn_0) hisR ?_
  intro p e s m args below meth c s₁ Bd hml0 hP hK
  obtain ⟨rfl, hZ, hh⟩ := hP
  have hx := Bd.exec
  have hby := Bd.bytes
  have hml : c.maxLocals = 3 := hml0
  have hown : s.vm.findClass "com/example/sevenfold/sevenfold/PackedTablesTakePinLaw" = some m.cls := findClass_of_methodNamed Bd.named
  have hnm := (name_of_methodNamed Bd.named Bd.method).1
  have X0 : Stand p l e ({ frames := 0, cells := 0, slots := 0, locals := 0 } : Room) s m #[(.long q0), (.int p1)] below meth c s₁ [] 0 0 := Stand.of_body Bd
  have e0 : s₁.heap = h0 := by rw [← hh, Bd.state]; rfl
  have N0 := Fr.nil n0
  have hlk := Bd.notSynchronized
  show OwnGo p.tables e below _ (s₁.setTop (entryFrame m #[(.long q0), (.int p1)] 3))
  rw [ef_rm1 m q0 p1]
  show OwnGo p.tables e below _ (s₁.setTop (mkF m 0 #[.val (.long q0), .second, .val (.int p1)] []))
  refine OwnGo.of (A := s₁.setTop (mkF m 0 #[.val (.long q0), .second, .val (.int p1)] [])) (B := s₁.setTop (mkF m 3 #[.val (.long q0), .second, .val (.int p1)] [(.int (p1 &&& (1 : Int32)))])) (fun t k => ?_) ?_
  · show Steps p.tables e below (s₁.setTop (mkF m 0 #[.val (.long q0), .second, .val (.int p1)] [])) t
    refine XS.iloadN X0.here hx rfl (hb hby d1_0) rfl ?_
    show Steps p.tables e below (s₁.setTop (mkF m 1 #[.val (.long q0), .second, .val (.int p1)] [(.int p1)])) t
    refine XS.iconst X0.here hx rfl (hb hby d1_1) ?_
    show Steps p.tables e below (s₁.setTop (mkF m 2 #[.val (.long q0), .second, .val (.int p1)] [(.int (1 : Int32)), (.int p1)])) t
    refine XS.iand X0.here hx rfl (hb hby d1_2) rfl ?_
    exact k
  by_cases hc1 : (p1 &&& (1 : Int32)) = (0 : Int32)
  · refine OwnGo.of (A := s₁.setTop (mkF m 3 #[.val (.long q0), .second, .val (.int p1)] [(.int (p1 &&& (1 : Int32)))])) (B := s₁.setTop (mkF m 19 #[.val (.long q0), .second, .val (.int p1)] [(.long (q0 &&& (2097151 : Int64)))])) (fun t k => ?_) ?_
    · show Steps p.tables e below (s₁.setTop (mkF m 3 #[.val (.long q0), .second, .val (.int p1)] [(.int (p1 &&& (1 : Int32)))])) t
      refine XS.ifYes X0.here hx rfl (pc0 := 3) (pc' := 14) rfl (hb hby d1_3) rfl ((if0 _ _).trans (teq hc1).1) (by decide) (by decide) ?_
      show Steps p.tables e below (s₁.setTop (mkF m 14 #[.val (.long q0), .second, .val (.int p1)] [])) t
      refine XS.lloadN X0.here hx rfl (hb hby d1_14) rfl ?_
      show Steps p.tables e below (s₁.setTop (mkF m 15 #[.val (.long q0), .second, .val (.int p1)] [(.long q0)])) t
      refine X0.ldc2Long hx hown (mvT hZ (hw _ (List.mem_of_getElem? (i := 6) rfl))) (g := (mkF m 15 #[.val (.long q0), .second, .val (.int p1)] [(.long q0)])) rfl (hb hby d1_15) _ ?_
      show Steps p.tables e below (s₁.setTop (mkF m 18 #[.val (.long q0), .second, .val (.int p1)] [(.long (2097151 : Int64)), (.long q0)])) t
      refine XS.land X0.here hx rfl (hb hby d1_18) rfl ?_
      exact k
    obtain ⟨fs, hr, hrun, hended, hW, hsame⟩ := X0.leave (v := some (.long (q0 &&& (2097151 : Int64)))) (fun h => by rw [Bd.returns] at h; cases h) hlk
    refine ⟨_, _, ?_, hrun, hended, _, _, rfl, ?_, ⟨_, rfl⟩, hW, hsame.mono (by decide) (by decide)⟩
    · show Steps p.tables e below (s₁.setTop (mkF m 19 #[.val (.long q0), .second, .val (.int p1)] [(.long (q0 &&& (2097151 : Int64)))])) _
      exact own_retL X0 hx Bd.returns (hb hby d1_19) hr
    · show Qrm1 Z q0 p1 h0 n0 _ (s₁.setFrames fs).heap _
      rw [show (s₁.setFrames fs).heap = h0 from e0]
      exact ⟨congrArg (fun z => some (Value.long z)) (by rw [own_pick, if_pos hc1]; try rfl), N0, rfl⟩
  · refine OwnGo.of (A := s₁.setTop (mkF m 3 #[.val (.long q0), .second, .val (.int p1)] [(.int (p1 &&& (1 : Int32)))])) (B := s₁.setTop (mkF m 19 #[.val (.long q0), .second, .val (.int p1)] [(.long (q0 &&& (9223372036854775807 : Int64)))])) (fun t k => ?_) ?_
    · show Steps p.tables e below (s₁.setTop (mkF m 3 #[.val (.long q0), .second, .val (.int p1)] [(.int (p1 &&& (1 : Int32)))])) t
      refine XS.ifNo X0.here hx rfl (hb hby d1_3) rfl ((if0 _ _).trans (feq hc1).1) ?_
      show Steps p.tables e below (s₁.setTop (mkF m 6 #[.val (.long q0), .second, .val (.int p1)] [])) t
      refine XS.lloadN X0.here hx rfl (hb hby d1_6) rfl ?_
      show Steps p.tables e below (s₁.setTop (mkF m 7 #[.val (.long q0), .second, .val (.int p1)] [(.long q0)])) t
      refine X0.ldc2Long hx hown (mvT hZ (hw _ (List.mem_of_getElem? (i := 5) rfl))) (g := (mkF m 7 #[.val (.long q0), .second, .val (.int p1)] [(.long q0)])) rfl (hb hby d1_7) _ ?_
      show Steps p.tables e below (s₁.setTop (mkF m 10 #[.val (.long q0), .second, .val (.int p1)] [(.long (9223372036854775807 : Int64)), (.long q0)])) t
      refine XS.land X0.here hx rfl (hb hby d1_10) rfl ?_
      show Steps p.tables e below (s₁.setTop (mkF m 11 #[.val (.long q0), .second, .val (.int p1)] [(.long (q0 &&& (9223372036854775807 : Int64)))])) t
      refine XS.goto X0.here hx rfl (pc0 := 11) (pc' := 19) rfl (hb hby d1_11) (by decide) (by decide) ?_
      exact k
    obtain ⟨fs, hr, hrun, hended, hW, hsame⟩ := X0.leave (v := some (.long (q0 &&& (9223372036854775807 : Int64)))) (fun h => by rw [Bd.returns] at h; cases h) hlk
    refine ⟨_, _, ?_, hrun, hended, _, _, rfl, ?_, ⟨_, rfl⟩, hW, hsame.mono (by decide) (by decide)⟩
    · show Steps p.tables e below (s₁.setTop (mkF m 19 #[.val (.long q0), .second, .val (.int p1)] [(.long (q0 &&& (9223372036854775807 : Int64)))])) _
      exact own_retL X0 hx Bd.returns (hb hby d1_19) hr
    · show Qrm1 Z q0 p1 h0 n0 _ (s₁.setFrames fs).heap _
      rw [show (s₁.setFrames fs).heap = h0 from e0]
      exact ⟨congrArg (fun z => some (Value.long z)) (by rw [own_pick, if_neg hc1]; try rfl), N0, rfl⟩
theorem pn_1 : plainName "com/example/sevenfold/sevenfold/PackedTables$Texts" = true := by first | (simp [plainName, overriddenIn]; done) | decide +kernel
theorem d4_0 : decode prog_10_method_1_code 0 = .ok (.aload_n 0, 1) := by decide +kernel
theorem d4_1 : decode prog_10_method_1_code 1 = .ok (.invokespecial 1, 3) := by decide +kernel
theorem d4_4 : decode prog_10_method_1_code 4 = .ok (.aload_n 0, 1) := by decide +kernel
theorem d4_5 : decode prog_10_method_1_code 5 = .ok (.bipush 64, 2) := by decide +kernel
theorem d4_7 : decode prog_10_method_1_code 7 = .ok (.newarray .char, 2) := by decide +kernel
theorem d4_9 : decode prog_10_method_1_code 9 = .ok (.putfield 7, 3) := by decide +kernel
theorem d4_12 : decode prog_10_method_1_code 12 = .ok (.aload_n 0, 1) := by decide +kernel
theorem d4_13 : decode prog_10_method_1_code 13 = .ok (.iconst 4, 1) := by decide +kernel
theorem d4_14 : decode prog_10_method_1_code 14 = .ok (.newarray .int, 2) := by decide +kernel
theorem d4_16 : decode prog_10_method_1_code 16 = .ok (.putfield 13, 3) := by decide +kernel
theorem d4_19 : decode prog_10_method_1_code 19 = .ok (.return_, 1) := by decide +kernel
theorem ef_rm4 (m : MethodId) (a0 : Addr) : entryFrame m #[(.ref a0)] 1 = mkF m 0 #[.val (.ref a0)] [] := by first | (simp [entryFrame, mkF, argsToLocals, Value.category]; done) | rfl
def Qrm4 (Z : State) (a0 : Addr) (h0 : Heap) (n0 : Nat) (v : Option Value) (h : Heap) (L : List Loc) : Prop := v = none ∧ Fr n0 L ∧ Keep h0 h [a0] ∧ Exa Z h a0 "com/example/sevenfold/sevenfold/PackedTables$Texts"
set_option maxRecDepth 65536 in
set_option maxHeartbeats 40000000 in
theorem rm4 (l : Launch) (Z : State) (aw : Array Value) (hw : ∀ d ∈ tables_1, d.before aw Z = true) (ws : List Jvm.Cond) (a0 : Addr) (h0 : Heap) (n0 : Nat) (Z0 : n0 ≤ h0.size) (E_a0 : Exa Z h0 a0 "com/example/sevenfold/sevenfold/PackedTables$Texts") (F_a0_chars : Fld Z h0 a0 "com/example/sevenfold/sevenfold/PackedTables$Texts" "chars" "[C" .null) (F_a0_ends : Fld Z h0 a0 "com/example/sevenfold/sevenfold/PackedTables$Texts" "ends" "[I" .null) (g_a0 : n0 ≤ a0) :
    MetFree l (⟨"com/example/sevenfold/sevenfold/PackedTables$Texts", "<init>", "()V"⟩ : MethodName) (head1 (Jvm.Cond.code (⟨"com/example/sevenfold/sevenfold/PackedTables$Texts", "<init>", "()V"⟩ : MethodName) prog_10_method_1_code 1 none :: ws) ({ frames := 1, cells := 2, slots := 68, locals := 12 } : Room)) (fun a U => a = #[(.ref a0)] ∧ Z.Warmed39 U.vm ∧ U.heap = h0) (fun _ _ _ _ _ => True) (fun _ U o U' => ∃ v L, o = .returned v ∧ Qrm4 Z a0 h0 n0 v U'.heap L ∧ FrameEnd U o U' L ({ frames := 1, cells := 2, slots := 68, locals := 12 } : Room).cells ({ frames := 1, cells := 2, slots := 68, locals := 12 } : Room).slots) := by
  refine MetFree.of_bodySF (plainFor_of_name pn_1) hisR ?_
  intro p e s m args below meth c s₁ Bd hml0 hP hK
  obtain ⟨rfl, hZ, hh⟩ := hP
  have hx := Bd.exec
  have hby := Bd.bytes
  have hml : c.maxLocals = 1 := hml0
  have hown : s.vm.findClass "com/example/sevenfold/sevenfold/PackedTables$Texts" = some m.cls := findClass_of_methodNamed Bd.named
  have hnm := (name_of_methodNamed Bd.named Bd.method).1
  have X0 : Stand p l e ({ frames := 1, cells := 2, slots := 68, locals := 12 } : Room) s m #[(.ref a0)] below meth c s₁ [] 0 0 := Stand.of_body Bd
  have e0 : s₁.heap = h0 := by rw [← hh, Bd.state]; rfl
  have N0 := Fr.nil n0
  have hlk := Bd.notSynchronized
  show OwnGo p.tables e below _ (s₁.setTop (entryFrame m #[(.ref a0)] 1))
  rw [ef_rm4 m a0]
  have K0 : Keep h0 h0 [a0] := Keep.refl _ _
  show OwnGo p.tables e below _ (s₁.setTop (mkF m 0 #[.val (.ref a0)] []))
  refine OwnGo.of (A := s₁.setTop (mkF m 0 #[.val (.ref a0)] [])) (B := s₁.setTop (mkF m 1 #[.val (.ref a0)] [(.ref a0)])) (fun t k => ?_) ?_
  · show Steps p.tables e below (s₁.setTop (mkF m 0 #[.val (.ref a0)] [])) t
    refine XS.aloadN X0.here hx rfl (hb hby d4_0) rfl rfl ?_
    exact k
  obtain ⟨T1, X1, e1, st1⟩ := initO X0 hx hZ hown (hw _ (List.mem_of_getElem? (i := 22) rfl)) (hw _ (List.mem_of_getElem? (i := 14) rfl)) (hw _ (List.mem_of_getElem? (i := 15) rfl)) e0 (g := (mkF m 1 #[.val (.ref a0)] [(.ref a0)])) rfl (by rw [hml]; rfl) rfl (hb hby d4_1) (by decide) (W := 0) (by show 2 * 0 + _ ≤ _; exact Nat.le_of_eq rfl) (by decide)
  refine OwnGo.of st1 ?_
  show OwnGo p.tables e below _ (T1.setTop (mkF m 4 #[.val (.ref a0)] []))
  refine OwnGo.of (A := T1.setTop (mkF m 4 #[.val (.ref a0)] [])) (B := T1.setTop (mkF m 7 #[.val (.ref a0)] [(.int (64 : Int32)), (.ref a0)])) (fun t k => ?_) ?_
  · show Steps p.tables e below (T1.setTop (mkF m 4 #[.val (.ref a0)] [])) t
    refine XS.aloadN X1.here hx rfl (hb hby d4_4) rfl rfl ?_
    show Steps p.tables e below (T1.setTop (mkF m 5 #[.val (.ref a0)] [(.ref a0)])) t
    refine XS.bipush X1.here hx rfl (hb hby d4_5) ?_
    exact k
  obtain ⟨T2, h2, k2, X2, e2, E2, A2, st2⟩ := newP X1 hx hZ (hw _ (List.mem_of_getElem? (i := 23) rfl)) e1 (g := (mkF m 7 #[.val (.ref a0)] [(.int (64 : Int32)), (.ref a0)])) rfl (hb hby d4_7) rfl (by decide) (cap := 64) (by decide) (by decide) (by decide) (by decide)
  obtain ⟨b2, g2⟩ : ∃ z, z = h0.size := ⟨_, rfl⟩
  rw [← g2] at A2 st2
  refine OwnGo.of st2 ?_
  have ne_a0_b2 : a0 ≠ b2 := Nat.ne_of_lt (Nat.lt_of_lt_of_le E_a0.lt (Nat.le_of_eq g2.symm))
  have g_b2 : n0 ≤ b2 := Nat.le_trans Z0 (Nat.le_of_eq g2.symm)
  have sz_b2 : h0.size ≤ b2 := Nat.le_trans K0.1 (Nat.le_of_eq g2.symm)
  have f3 : n0 ≤ h2.size := Nat.le_trans Z0 E2.1
  have f4 : Keep h0 h2 [a0] := K0.ext E2
  have f5 : Exa Z h2 a0 "com/example/sevenfold/sevenfold/PackedTables$Texts" := E_a0.ext E2
  have f6 : Fld Z h2 a0 "com/example/sevenfold/sevenfold/PackedTables$Texts" "chars" "[C" .null := F_a0_chars.ext E2
  have f7 : Fld Z h2 a0 "com/example/sevenfold/sevenfold/PackedTables$Texts" "ends" "[I" .null := F_a0_ends.ext E2
  show OwnGo p.tables e below _ (T2.setTop (mkF m 9 #[.val (.ref a0)] [(.ref b2), (.ref a0)]))
  obtain ⟨T8, h8, X8, e8, W8, st8⟩ := putF X2 hx hZ hown (host := "") (Or.inl (hw _ (List.mem_of_getElem? (i := 24) rfl))) Via.refl e2 f6 f5 (Or.inl (hw _ (List.mem_of_getElem? (i := 25) rfl))) (hw _ (List.mem_of_getElem? (i := 17) rfl)) (ty := (.array .char)) (by decide) rfl rfl (g := (mkF m 9 #[.val (.ref a0)] [(.ref b2), (.ref a0)])) rfl rfl (hb hby d4_9)
  refine OwnGo.of st8 ?_
  have N8 := Fr.snoc X8 N0 g_a0
  have f9 : n0 ≤ h8.size := Nat.le_trans f3 (Keep.of_wr W8).1
  have f10 : Keep h0 h8 [a0] := f4.wr W8 (Or.inl (List.mem_of_getElem? (i := 0) rfl))
  have f11 : Exa Z h8 a0 "com/example/sevenfold/sevenfold/PackedTables$Texts" := f5.wr W8
  have f12 : Fld Z h8 a0 "com/example/sevenfold/sevenfold/PackedTables$Texts" "ends" "[I" .null := f7.other W8 (Or.inr (slot_ne (Or.inl (hw _ (List.mem_of_getElem? (i := 28) rfl))) (Or.inl (hw _ (List.mem_of_getElem? (i := 25) rfl))) (by decide) (t := (.array .int)) (t' := (.array .char)) (by decide) (by decide)))
  have f13 : Fld Z h8 a0 "com/example/sevenfold/sevenfold/PackedTables$Texts" "chars" "[C" (.ref b2) := Fld.same W8 f6
  show OwnGo p.tables e below _ (T8.setTop (mkF m 12 #[.val (.ref a0)] []))
  refine OwnGo.of (A := T8.setTop (mkF m 12 #[.val (.ref a0)] [])) (B := T8.setTop (mkF m 14 #[.val (.ref a0)] [(.int (4 : Int32)), (.ref a0)])) (fun t k => ?_) ?_
  · show Steps p.tables e below (T8.setTop (mkF m 12 #[.val (.ref a0)] [])) t
    refine XS.aloadN X8.here hx rfl (hb hby d4_12) rfl rfl ?_
    show Steps p.tables e below (T8.setTop (mkF m 13 #[.val (.ref a0)] [(.ref a0)])) t
    refine XS.iconst X8.here hx rfl (hb hby d4_13) ?_
    exact k
  obtain ⟨T14, h14, k14, X14, e14, E14, A14, st14⟩ := newP X8 hx hZ (hw _ (List.mem_of_getElem? (i := 26) rfl)) e8 (g := (mkF m 14 #[.val (.ref a0)] [(.int (4 : Int32)), (.ref a0)])) rfl (hb hby d4_14) rfl (by decide) (cap := 4) (by decide) (by decide) (by decide) (by decide)
  obtain ⟨b14, g14⟩ : ∃ z, z = h8.size := ⟨_, rfl⟩
  rw [← g14] at A14 st14
  refine OwnGo.of st14 ?_
  have ne_a0_b14 : a0 ≠ b14 := Nat.ne_of_lt (Nat.lt_of_lt_of_le f11.lt (Nat.le_of_eq g14.symm))
  have g_b14 : n0 ≤ b14 := Nat.le_trans f9 (Nat.le_of_eq g14.symm)
  have sz_b14 : h0.size ≤ b14 := Nat.le_trans f10.1 (Nat.le_of_eq g14.symm)
  have f15 : n0 ≤ h14.size := Nat.le_trans f9 E14.1
  have f16 : Keep h0 h14 [a0] := f10.ext E14
  have f17 : Exa Z h14 a0 "com/example/sevenfold/sevenfold/PackedTables$Texts" := f11.ext E14
  have f18 : Fld Z h14 a0 "com/example/sevenfold/sevenfold/PackedTables$Texts" "ends" "[I" .null := f12.ext E14
  have f19 : Fld Z h14 a0 "com/example/sevenfold/sevenfold/PackedTables$Texts" "chars" "[C" (.ref b2) := f13.ext E14
  show OwnGo p.tables e below _ (T14.setTop (mkF m 16 #[.val (.ref a0)] [(.ref b14), (.ref a0)]))
  obtain ⟨T20, h20, X20, e20, W20, st20⟩ := putF X14 hx hZ hown (host := "") (Or.inl (hw _ (List.mem_of_getElem? (i := 27) rfl))) Via.refl e14 f18 f17 (Or.inl (hw _ (List.mem_of_getElem? (i := 28) rfl))) (hw _ (List.mem_of_getElem? (i := 17) rfl)) (ty := (.array .int)) (by decide) rfl rfl (g := (mkF m 16 #[.val (.ref a0)] [(.ref b14), (.ref a0)])) rfl rfl (hb hby d4_16)
  refine OwnGo.of st20 ?_
  have N20 := Fr.snoc X20 N8 g_a0
  have f21 : n0 ≤ h20.size := Nat.le_trans f15 (Keep.of_wr W20).1
  have f22 : Keep h0 h20 [a0] := f16.wr W20 (Or.inl (List.mem_of_getElem? (i := 0) rfl))
  have f23 : Exa Z h20 a0 "com/example/sevenfold/sevenfold/PackedTables$Texts" := f17.wr W20
  have f24 : Fld Z h20 a0 "com/example/sevenfold/sevenfold/PackedTables$Texts" "chars" "[C" (.ref b2) := f19.other W20 (Or.inr (slot_ne (Or.inl (hw _ (List.mem_of_getElem? (i := 25) rfl))) (Or.inl (hw _ (List.mem_of_getElem? (i := 28) rfl))) (by decide) (t := (.array .char)) (t' := (.array .int)) (by decide) (by decide)))
  have f25 : Fld Z h20 a0 "com/example/sevenfold/sevenfold/PackedTables$Texts" "ends" "[I" (.ref b14) := Fld.same W20 f18
  show OwnGo p.tables e below _ (T20.setTop (mkF m 19 #[.val (.ref a0)] []))
  obtain ⟨fs, hr, hrun, hended, hW, hsame⟩ := X20.leave (v := none) (fun _ => rfl) hlk
  refine ⟨_, _, ?_, hrun, hended, _, _, rfl, ?_, ⟨_, rfl⟩, hW, hsame.mono (by decide) (by decide)⟩
  · show Steps p.tables e below (T20.setTop (mkF m 19 #[.val (.ref a0)] [])) _
    exact X20.returnOut hx Bd.returns (hb hby d4_19) hr
  · show Qrm4 Z a0 h0 n0 _ (T20.setFrames fs).heap _
    rw [show (T20.setFrames fs).heap = h20 from e20]
    exact ⟨rfl, N20, f22, f23⟩
theorem pd_2 : parseMethodDescriptor "()V" = some ⟨[], none⟩ := by decide +kernel
theorem pn_3 : plainName "com/example/sevenfold/sevenfold/PackedTables" = true := by first | (simp [plainName, overriddenIn]; done) | decide +kernel
theorem d2_0 : decode prog_9_method_1_code 0 = .ok (.aload_n 0, 1) := by decide +kernel
theorem d2_1 : decode prog_9_method_1_code 1 = .ok (.invokespecial 1, 3) := by decide +kernel
theorem d2_4 : decode prog_9_method_1_code 4 = .ok (.aload_n 0, 1) := by decide +kernel
theorem d2_5 : decode prog_9_method_1_code 5 = .ok (.new 7, 3) := by decide +kernel
theorem d2_8 : decode prog_9_method_1_code 8 = .ok (.dup, 1) := by decide +kernel
theorem d2_9 : decode prog_9_method_1_code 9 = .ok (.invokespecial 9, 3) := by decide +kernel
theorem d2_12 : decode prog_9_method_1_code 12 = .ok (.putfield 10, 3) := by decide +kernel
theorem d2_15 : decode prog_9_method_1_code 15 = .ok (.aload_n 0, 1) := by decide +kernel
theorem d2_16 : decode prog_9_method_1_code 16 = .ok (.new 7, 3) := by decide +kernel
theorem d2_19 : decode prog_9_method_1_code 19 = .ok (.dup, 1) := by decide +kernel
theorem d2_20 : decode prog_9_method_1_code 20 = .ok (.invokespecial 9, 3) := by decide +kernel
theorem d2_23 : decode prog_9_method_1_code 23 = .ok (.putfield 16, 3) := by decide +kernel
theorem d2_26 : decode prog_9_method_1_code 26 = .ok (.aload_n 0, 1) := by decide +kernel
theorem d2_27 : decode prog_9_method_1_code 27 = .ok (.bipush 16, 2) := by decide +kernel
theorem d2_29 : decode prog_9_method_1_code 29 = .ok (.newarray .int, 2) := by decide +kernel
theorem d2_31 : decode prog_9_method_1_code 31 = .ok (.putfield 19, 3) := by decide +kernel
theorem d2_34 : decode prog_9_method_1_code 34 = .ok (.aload_n 0, 1) := by decide +kernel
theorem d2_35 : decode prog_9_method_1_code 35 = .ok (.iconst 4, 1) := by decide +kernel
theorem d2_36 : decode prog_9_method_1_code 36 = .ok (.newarray .int, 2) := by decide +kernel
theorem d2_38 : decode prog_9_method_1_code 38 = .ok (.putfield 23, 3) := by decide +kernel
theorem d2_41 : decode prog_9_method_1_code 41 = .ok (.aload_n 0, 1) := by decide +kernel
theorem d2_42 : decode prog_9_method_1_code 42 = .ok (.lload_n 1, 1) := by decide +kernel
theorem d2_43 : decode prog_9_method_1_code 43 = .ok (.putfield 26, 3) := by decide +kernel
theorem d2_46 : decode prog_9_method_1_code 46 = .ok (.return_, 1) := by decide +kernel
theorem ef_rm2 (m : MethodId) (a0 : Addr) (q1 : Int64) : entryFrame m #[(.ref a0), (.long q1)] 3 = mkF m 0 #[.val (.ref a0), .val (.long q1), .second] [] := by first | (simp [entryFrame, mkF, argsToLocals, Value.category]; done) | rfl
def Qrm2 (Z : State) (a0 : Addr) (q1 : Int64) (h0 : Heap) (n0 : Nat) (v : Option Value) (h : Heap) (L : List Loc) : Prop := v = none ∧ Fr n0 L ∧ Keep h0 h [a0] ∧ Exa Z h a0 "com/example/sevenfold/sevenfold/PackedTables" ∧ Fld Z h a0 "com/example/sevenfold/sevenfold/PackedTables" "size" "I" (.int (0 : Int32))
set_option maxRecDepth 65536 in
set_option maxHeartbeats 40000000 in
theorem rm2 (l : Launch) (Z : State) (aw : Array Value) (hw : ∀ d ∈ tables_1, d.before aw Z = true) (ws : List Jvm.Cond) (a0 : Addr) (q1 : Int64) (h0 : Heap) (n0 : Nat) (Z0 : n0 ≤ h0.size) (E_a0 : Exa Z h0 a0 "com/example/sevenfold/sevenfold/PackedTables") (F_a0_keys : Fld Z h0 a0 "com/example/sevenfold/sevenfold/PackedTables" "keys" "Lcom/example/sevenfold/sevenfold/PackedTables$Texts;" .null) (F_a0_strings : Fld Z h0 a0 "com/example/sevenfold/sevenfold/PackedTables" "strings" "Lcom/example/sevenfold/sevenfold/PackedTables$Texts;" .null) (F_a0_shapeKeys : Fld Z h0 a0 "com/example/sevenfold/sevenfold/PackedTables" "shapeKeys" "[I" .null) (F_a0_shapeEnds : Fld Z h0 a0 "com/example/sevenfold/sevenfold/PackedTables" "shapeEnds" "[I" .null) (F_a0_start : Fld Z h0 a0 "com/example/sevenfold/sevenfold/PackedTables" "start" "J" (.long (0 : Int64))) (F_a0_size : Fld Z h0 a0 "com/example/sevenfold/sevenfold/PackedTables" "size" "I" (.int (0 : Int32))) (g_a0 : n0 ≤ a0) :
    MetFree l (⟨"com/example/sevenfold/sevenfold/PackedTables", "<init>", "(J)V"⟩ : MethodName) (head1 (Jvm.Cond.code (⟨"com/example/sevenfold/sevenfold/PackedTables", "<init>", "(J)V"⟩ : MethodName) prog_9_method_1_code 3 none :: ws) ({ frames := 2, cells := 8, slots := 162, locals := 26 } : Room)) (fun a U => a = #[(.ref a0), (.long q1)] ∧ Z.Warmed39 U.vm ∧ U.heap = h0) (fun _ _ _ _ _ => True) (fun _ U o U' => ∃ v L, o = .returned v ∧ Qrm2 Z a0 q1 h0 n0 v U'.heap L ∧ FrameEnd U o U' L ({ frames := 2, cells := 8, slots := 162, locals := 26 } : Room).cells ({ frames := 2, cells := 8, slots := 162, locals := 26 } : Room).slots) := by
  refine MetFree.of_bodySF (plainFor_of_name pn_3) hisR ?_
  intro p e s m args below meth c s₁ Bd hml0 hP hK
  obtain ⟨rfl, hZ, hh⟩ := hP
  have hx := Bd.exec
  have hby := Bd.bytes
  have hml : c.maxLocals = 3 := hml0
  have hown : s.vm.findClass "com/example/sevenfold/sevenfold/PackedTables" = some m.cls := findClass_of_methodNamed Bd.named
  have hnm := (name_of_methodNamed Bd.named Bd.method).1
  have X0 : Stand p l e ({ frames := 2, cells := 8, slots := 162, locals := 26 } : Room) s m #[(.ref a0), (.long q1)] below meth c s₁ [] 0 0 := Stand.of_body Bd
  have e0 : s₁.heap = h0 := by rw [← hh, Bd.state]; rfl
  have N0 := Fr.nil n0
  have hlk := Bd.notSynchronized
  show OwnGo p.tables e below _ (s₁.setTop (entryFrame m #[(.ref a0), (.long q1)] 3))
  rw [ef_rm2 m a0 q1]
  have K0 : Keep h0 h0 [a0] := Keep.refl _ _
  show OwnGo p.tables e below _ (s₁.setTop (mkF m 0 #[.val (.ref a0), .val (.long q1), .second] []))
  refine OwnGo.of (A := s₁.setTop (mkF m 0 #[.val (.ref a0), .val (.long q1), .second] [])) (B := s₁.setTop (mkF m 1 #[.val (.ref a0), .val (.long q1), .second] [(.ref a0)])) (fun t k => ?_) ?_
  · show Steps p.tables e below (s₁.setTop (mkF m 0 #[.val (.ref a0), .val (.long q1), .second] [])) t
    refine XS.aloadN X0.here hx rfl (hb hby d2_0) rfl rfl ?_
    exact k
  obtain ⟨T1, X1, e1, st1⟩ := initO X0 hx hZ hown (hw _ (List.mem_of_getElem? (i := 13) rfl)) (hw _ (List.mem_of_getElem? (i := 14) rfl)) (hw _ (List.mem_of_getElem? (i := 15) rfl)) e0 (g := (mkF m 1 #[.val (.ref a0), .val (.long q1), .second] [(.ref a0)])) rfl (by rw [hml]; rfl) rfl (hb hby d2_1) (by decide) (W := 0) (by show 2 * 0 + _ ≤ _; exact Nat.le_of_eq rfl) (by decide)
  refine OwnGo.of st1 ?_
  show OwnGo p.tables e below _ (T1.setTop (mkF m 4 #[.val (.ref a0), .val (.long q1), .second] []))
  refine OwnGo.of (A := T1.setTop (mkF m 4 #[.val (.ref a0), .val (.long q1), .second] [])) (B := T1.setTop (mkF m 5 #[.val (.ref a0), .val (.long q1), .second] [(.ref a0)])) (fun t k => ?_) ?_
  · show Steps p.tables e below (T1.setTop (mkF m 4 #[.val (.ref a0), .val (.long q1), .second] [])) t
    refine XS.aloadN X1.here hx rfl (hb hby d2_4) rfl rfl ?_
    exact k
  obtain ⟨T2, h2, X2, e2, E2, A2, D2, -, st2⟩ := newO X1 hx hZ hown (hw _ (List.mem_of_getElem? (i := 16) rfl)) (hw _ (List.mem_of_getElem? (i := 17) rfl)) (hw _ (List.mem_of_getElem? (i := 18) rfl)) e1 (g := (mkF m 5 #[.val (.ref a0), .val (.long q1), .second] [(.ref a0)])) rfl (hb hby d2_5) (by decide) (by decide)
  obtain ⟨b2, g2⟩ : ∃ z, z = h0.size := ⟨_, rfl⟩
  rw [← g2] at A2 D2 st2
  refine OwnGo.of st2 ?_
  have ne_a0_b2 : a0 ≠ b2 := Nat.ne_of_lt (Nat.lt_of_lt_of_le E_a0.lt (Nat.le_of_eq g2.symm))
  have g_b2 : n0 ≤ b2 := Nat.le_trans Z0 (Nat.le_of_eq g2.symm)
  have sz_b2 : h0.size ≤ b2 := Nat.le_trans K0.1 (Nat.le_of_eq g2.symm)
  have f3 : n0 ≤ h2.size := Nat.le_trans Z0 E2.1
  have f4 : Keep h0 h2 [a0] := K0.ext E2
  have f5 : Exa Z h2 a0 "com/example/sevenfold/sevenfold/PackedTables" := E_a0.ext E2
  have f6 : Fld Z h2 a0 "com/example/sevenfold/sevenfold/PackedTables" "keys" "Lcom/example/sevenfold/sevenfold/PackedTables$Texts;" .null := F_a0_keys.ext E2
  have f7 : Fld Z h2 a0 "com/example/sevenfold/sevenfold/PackedTables" "strings" "Lcom/example/sevenfold/sevenfold/PackedTables$Texts;" .null := F_a0_strings.ext E2
  have f8 : Fld Z h2 a0 "com/example/sevenfold/sevenfold/PackedTables" "shapeKeys" "[I" .null := F_a0_shapeKeys.ext E2
  have f9 : Fld Z h2 a0 "com/example/sevenfold/sevenfold/PackedTables" "shapeEnds" "[I" .null := F_a0_shapeEnds.ext E2
  have f10 : Fld Z h2 a0 "com/example/sevenfold/sevenfold/PackedTables" "start" "J" (.long (0 : Int64)) := F_a0_start.ext E2
  have f11 : Fld Z h2 a0 "com/example/sevenfold/sevenfold/PackedTables" "size" "I" (.int (0 : Int32)) := F_a0_size.ext E2
  have f12 : Fld Z h2 b2 "com/example/sevenfold/sevenfold/PackedTables$Texts" "chars" "[C" .null := D2 (Or.inl (hw _ (List.mem_of_getElem? (i := 25) rfl))) (ty := (.array .char)) (by decide)
  have f13 : Fld Z h2 b2 "com/example/sevenfold/sevenfold/PackedTables$Texts" "ends" "[I" .null := D2 (Or.inl (hw _ (List.mem_of_getElem? (i := 28) rfl))) (ty := (.array .int)) (by decide)
  show OwnGo p.tables e below _ (T2.setTop (mkF m 8 #[.val (.ref a0), .val (.long q1), .second] [(.ref b2), (.ref a0)]))
  refine OwnGo.of (A := T2.setTop (mkF m 8 #[.val (.ref a0), .val (.long q1), .second] [(.ref b2), (.ref a0)])) (B := T2.setTop (mkF m 9 #[.val (.ref a0), .val (.long q1), .second] [(.ref b2), (.ref b2), (.ref a0)])) (fun t k => ?_) ?_
  · show Steps p.tables e below (T2.setTop (mkF m 8 #[.val (.ref a0), .val (.long q1), .second] [(.ref b2), (.ref a0)])) t
    refine XS.dup X2.here hx rfl (hb hby d2_8) rfl rfl ?_
    exact k
  obtain ⟨T14, L14, v14, X14, hQ14, st14⟩ := own_callRef X2 hx (y := (⟨"com/example/sevenfold/sevenfold/PackedTables$Texts", "<init>", "()V"⟩ : MethodName)) rfl hown (own_mvRef hZ (hw _ (List.mem_of_getElem? (i := 20) rfl)) (hw _ (List.mem_of_getElem? (i := 19) rfl)) (by decide)) (mvT hZ (hw _ (List.mem_of_getElem? (i := 20) rfl))) (mvT hZ (hw _ (List.mem_of_getElem? (i := 21) rfl))) (by decide) (backOf (W := 2) (rm4 l Z aw hw [] b2  h2 n0 f3 A2 f12 f13 g_b2) hZ (hw _ (List.mem_of_getElem? (i := 21) rfl)) (hw _ (List.mem_of_getElem? (i := 18) rfl)) (by decide) (by decide)) (g := (mkF m 9 #[.val (.ref a0), .val (.long q1), .second] [(.ref b2), (.ref b2), (.ref a0)])) rfl (by rw [hml]; rfl) (a := b2) (argsL := []) (rest := [(.ref b2), (.ref a0)]) (lenOf pd_2 rfl) rfl (by show 2 * 0 + _ ≤ _; exact Nat.le_of_eq rfl) (hb hby d2_9) rfl e2 (by decide) (by decide)
  obtain ⟨rfl, N14q, K14, y14_0⟩ := hQ14
  have f15 : n0 ≤ T14.heap.size := Nat.le_trans f3 K14.1
  have f16 : Keep h0 T14.heap [a0] := f4.trans K14 (allS (Or.inr sz_b2) all0)
  have f17 : Exa Z T14.heap a0 "com/example/sevenfold/sevenfold/PackedTables" := f5.keep K14
  have f18 : Fld Z T14.heap a0 "com/example/sevenfold/sevenfold/PackedTables" "keys" "Lcom/example/sevenfold/sevenfold/PackedTables$Texts;" .null := f6.keep K14 (ninS ne_a0_b2 nin0)
  have f19 : Fld Z T14.heap a0 "com/example/sevenfold/sevenfold/PackedTables" "strings" "Lcom/example/sevenfold/sevenfold/PackedTables$Texts;" .null := f7.keep K14 (ninS ne_a0_b2 nin0)
  have f20 : Fld Z T14.heap a0 "com/example/sevenfold/sevenfold/PackedTables" "shapeKeys" "[I" .null := f8.keep K14 (ninS ne_a0_b2 nin0)
  have f21 : Fld Z T14.heap a0 "com/example/sevenfold/sevenfold/PackedTables" "shapeEnds" "[I" .null := f9.keep K14 (ninS ne_a0_b2 nin0)
  have f22 : Fld Z T14.heap a0 "com/example/sevenfold/sevenfold/PackedTables" "start" "J" (.long (0 : Int64)) := f10.keep K14 (ninS ne_a0_b2 nin0)
  have f23 : Fld Z T14.heap a0 "com/example/sevenfold/sevenfold/PackedTables" "size" "I" (.int (0 : Int32)) := f11.keep K14 (ninS ne_a0_b2 nin0)
  have f24 : Exa Z T14.heap b2 "com/example/sevenfold/sevenfold/PackedTables$Texts" := A2.keep K14
  have N14 := Fr.app N0 N14q
  refine OwnGo.of st14 ?_
  show OwnGo p.tables e below _ (T14.setTop (mkF m 12 #[.val (.ref a0), .val (.long q1), .second] [(.ref b2), (.ref a0)]))
  obtain ⟨T25, h25, X25, e25, W25, st25⟩ := putF X14 hx hZ hown (host := "") (Or.inl (hw _ (List.mem_of_getElem? (i := 29) rfl))) Via.refl rfl f18 f17 (Or.inr ⟨(hw _ (List.mem_of_getElem? (i := 30) rfl)), rfl, hnm⟩) (hw _ (List.mem_of_getElem? (i := 8) rfl)) (ty := (.object "com/example/sevenfold/sevenfold/PackedTables$Texts")) (by decide) rfl rfl (g := (mkF m 12 #[.val (.ref a0), .val (.long q1), .second] [(.ref b2), (.ref a0)])) rfl rfl (hb hby d2_12)
  refine OwnGo.of st25 ?_
  have N25 := Fr.snoc X25 N14 g_a0
  have f26 : n0 ≤ h25.size := Nat.le_trans f15 (Keep.of_wr W25).1
  have f27 : Keep h0 h25 [a0] := f16.wr W25 (Or.inl (List.mem_of_getElem? (i := 0) rfl))
  have f28 : Exa Z h25 a0 "com/example/sevenfold/sevenfold/PackedTables" := f17.wr W25
  have f29 : Fld Z h25 a0 "com/example/sevenfold/sevenfold/PackedTables" "strings" "Lcom/example/sevenfold/sevenfold/PackedTables$Texts;" .null := f19.other W25 (Or.inr (slot_ne (Or.inr (hw _ (List.mem_of_getElem? (i := 32) rfl))) (Or.inr (hw _ (List.mem_of_getElem? (i := 30) rfl))) (by decide) (t := (.object "com/example/sevenfold/sevenfold/PackedTables$Texts")) (t' := (.object "com/example/sevenfold/sevenfold/PackedTables$Texts")) (by decide) (by decide)))
  have f30 : Fld Z h25 a0 "com/example/sevenfold/sevenfold/PackedTables" "shapeKeys" "[I" .null := f20.other W25 (Or.inr (slot_ne (Or.inl (hw _ (List.mem_of_getElem? (i := 34) rfl))) (Or.inr (hw _ (List.mem_of_getElem? (i := 30) rfl))) (by decide) (t := (.array .int)) (t' := (.object "com/example/sevenfold/sevenfold/PackedTables$Texts")) (by decide) (by decide)))
  have f31 : Fld Z h25 a0 "com/example/sevenfold/sevenfold/PackedTables" "shapeEnds" "[I" .null := f21.other W25 (Or.inr (slot_ne (Or.inl (hw _ (List.mem_of_getElem? (i := 36) rfl))) (Or.inr (hw _ (List.mem_of_getElem? (i := 30) rfl))) (by decide) (t := (.array .int)) (t' := (.object "com/example/sevenfold/sevenfold/PackedTables$Texts")) (by decide) (by decide)))
  have f32 : Fld Z h25 a0 "com/example/sevenfold/sevenfold/PackedTables" "start" "J" (.long (0 : Int64)) := f22.other W25 (Or.inr (slot_ne (Or.inr (hw _ (List.mem_of_getElem? (i := 38) rfl))) (Or.inr (hw _ (List.mem_of_getElem? (i := 30) rfl))) (by decide) (t := .long) (t' := (.object "com/example/sevenfold/sevenfold/PackedTables$Texts")) (by decide) (by decide)))
  have f33 : Fld Z h25 a0 "com/example/sevenfold/sevenfold/PackedTables" "size" "I" (.int (0 : Int32)) := f23.other W25 (Or.inr (slot_ne (Or.inl (hw _ (List.mem_of_getElem? (i := 46) rfl))) (Or.inr (hw _ (List.mem_of_getElem? (i := 30) rfl))) (by decide) (t := .int) (t' := (.object "com/example/sevenfold/sevenfold/PackedTables$Texts")) (by decide) (by decide)))
  have f34 : Exa Z h25 b2 "com/example/sevenfold/sevenfold/PackedTables$Texts" := y14_0.wr W25
  have f35 : Fld Z h25 a0 "com/example/sevenfold/sevenfold/PackedTables" "keys" "Lcom/example/sevenfold/sevenfold/PackedTables$Texts;" (.ref b2) := Fld.same W25 f18
  show OwnGo p.tables e below _ (T25.setTop (mkF m 15 #[.val (.ref a0), .val (.long q1), .second] []))
  refine OwnGo.of (A := T25.setTop (mkF m 15 #[.val (.ref a0), .val (.long q1), .second] [])) (B := T25.setTop (mkF m 16 #[.val (.ref a0), .val (.long q1), .second] [(.ref a0)])) (fun t k => ?_) ?_
  · show Steps p.tables e below (T25.setTop (mkF m 15 #[.val (.ref a0), .val (.long q1), .second] [])) t
    refine XS.aloadN X25.here hx rfl (hb hby d2_15) rfl rfl ?_
    exact k
  obtain ⟨T36, h36, X36, e36, E36, A36, D36, -, st36⟩ := newO X25 hx hZ hown (hw _ (List.mem_of_getElem? (i := 16) rfl)) (hw _ (List.mem_of_getElem? (i := 17) rfl)) (hw _ (List.mem_of_getElem? (i := 18) rfl)) e25 (g := (mkF m 16 #[.val (.ref a0), .val (.long q1), .second] [(.ref a0)])) rfl (hb hby d2_16) (by decide) (by decide)
  obtain ⟨b36, g36⟩ : ∃ z, z = h25.size := ⟨_, rfl⟩
  rw [← g36] at A36 D36 st36
  refine OwnGo.of st36 ?_
  have ne_a0_b36 : a0 ≠ b36 := Nat.ne_of_lt (Nat.lt_of_lt_of_le f28.lt (Nat.le_of_eq g36.symm))
  have ne_b2_b36 : b2 ≠ b36 := Nat.ne_of_lt (Nat.lt_of_lt_of_le f34.lt (Nat.le_of_eq g36.symm))
  have g_b36 : n0 ≤ b36 := Nat.le_trans f26 (Nat.le_of_eq g36.symm)
  have sz_b36 : h0.size ≤ b36 := Nat.le_trans f27.1 (Nat.le_of_eq g36.symm)
  have f37 : n0 ≤ h36.size := Nat.le_trans f26 E36.1
  have f38 : Keep h0 h36 [a0] := f27.ext E36
  have f39 : Exa Z h36 a0 "com/example/sevenfold/sevenfold/PackedTables" := f28.ext E36
  have f40 : Fld Z h36 a0 "com/example/sevenfold/sevenfold/PackedTables" "strings" "Lcom/example/sevenfold/sevenfold/PackedTables$Texts;" .null := f29.ext E36
  have f41 : Fld Z h36 a0 "com/example/sevenfold/sevenfold/PackedTables" "shapeKeys" "[I" .null := f30.ext E36
  have f42 : Fld Z h36 a0 "com/example/sevenfold/sevenfold/PackedTables" "shapeEnds" "[I" .null := f31.ext E36
  have f43 : Fld Z h36 a0 "com/example/sevenfold/sevenfold/PackedTables" "start" "J" (.long (0 : Int64)) := f32.ext E36
  have f44 : Fld Z h36 a0 "com/example/sevenfold/sevenfold/PackedTables" "size" "I" (.int (0 : Int32)) := f33.ext E36
  have f45 : Exa Z h36 b2 "com/example/sevenfold/sevenfold/PackedTables$Texts" := f34.ext E36
  have f46 : Fld Z h36 a0 "com/example/sevenfold/sevenfold/PackedTables" "keys" "Lcom/example/sevenfold/sevenfold/PackedTables$Texts;" (.ref b2) := f35.ext E36
  have f47 : Fld Z h36 b36 "com/example/sevenfold/sevenfold/PackedTables$Texts" "chars" "[C" .null := D36 (Or.inl (hw _ (List.mem_of_getElem? (i := 25) rfl))) (ty := (.array .char)) (by decide)
  have f48 : Fld Z h36 b36 "com/example/sevenfold/sevenfold/PackedTables$Texts" "ends" "[I" .null := D36 (Or.inl (hw _ (List.mem_of_getElem? (i := 28) rfl))) (ty := (.array .int)) (by decide)
  show OwnGo p.tables e below _ (T36.setTop (mkF m 19 #[.val (.ref a0), .val (.long q1), .second] [(.ref b36), (.ref a0)]))
  refine OwnGo.of (A := T36.setTop (mkF m 19 #[.val (.ref a0), .val (.long q1), .second] [(.ref b36), (.ref a0)])) (B := T36.setTop (mkF m 20 #[.val (.ref a0), .val (.long q1), .second] [(.ref b36), (.ref b36), (.ref a0)])) (fun t k => ?_) ?_
  · show Steps p.tables e below (T36.setTop (mkF m 19 #[.val (.ref a0), .val (.long q1), .second] [(.ref b36), (.ref a0)])) t
    refine XS.dup X36.here hx rfl (hb hby d2_19) rfl rfl ?_
    exact k
  obtain ⟨T49, L49, v49, X49, hQ49, st49⟩ := own_callRef X36 hx (y := (⟨"com/example/sevenfold/sevenfold/PackedTables$Texts", "<init>", "()V"⟩ : MethodName)) rfl hown (own_mvRef hZ (hw _ (List.mem_of_getElem? (i := 20) rfl)) (hw _ (List.mem_of_getElem? (i := 19) rfl)) (by decide)) (mvT hZ (hw _ (List.mem_of_getElem? (i := 20) rfl))) (mvT hZ (hw _ (List.mem_of_getElem? (i := 21) rfl))) (by decide) (backOf (W := 2) (rm4 l Z aw hw [] b36  h36 n0 f37 A36 f47 f48 g_b36) hZ (hw _ (List.mem_of_getElem? (i := 21) rfl)) (hw _ (List.mem_of_getElem? (i := 18) rfl)) (by decide) (by decide)) (g := (mkF m 20 #[.val (.ref a0), .val (.long q1), .second] [(.ref b36), (.ref b36), (.ref a0)])) rfl (by rw [hml]; rfl) (a := b36) (argsL := []) (rest := [(.ref b36), (.ref a0)]) (lenOf pd_2 rfl) rfl (by show 2 * 0 + _ ≤ _; exact Nat.le_of_eq rfl) (hb hby d2_20) rfl e36 (by decide) (by decide)
  obtain ⟨rfl, N49q, K49, y49_0⟩ := hQ49
  have f50 : n0 ≤ T49.heap.size := Nat.le_trans f37 K49.1
  have f51 : Keep h0 T49.heap [a0] := f38.trans K49 (allS (Or.inr sz_b36) all0)
  have f52 : Exa Z T49.heap a0 "com/example/sevenfold/sevenfold/PackedTables" := f39.keep K49
  have f53 : Fld Z T49.heap a0 "com/example/sevenfold/sevenfold/PackedTables" "strings" "Lcom/example/sevenfold/sevenfold/PackedTables$Texts;" .null := f40.keep K49 (ninS ne_a0_b36 nin0)
  have f54 : Fld Z T49.heap a0 "com/example/sevenfold/sevenfold/PackedTables" "shapeKeys" "[I" .null := f41.keep K49 (ninS ne_a0_b36 nin0)
  have f55 : Fld Z T49.heap a0 "com/example/sevenfold/sevenfold/PackedTables" "shapeEnds" "[I" .null := f42.keep K49 (ninS ne_a0_b36 nin0)
  have f56 : Fld Z T49.heap a0 "com/example/sevenfold/sevenfold/PackedTables" "start" "J" (.long (0 : Int64)) := f43.keep K49 (ninS ne_a0_b36 nin0)
  have f57 : Fld Z T49.heap a0 "com/example/sevenfold/sevenfold/PackedTables" "size" "I" (.int (0 : Int32)) := f44.keep K49 (ninS ne_a0_b36 nin0)
  have f58 : Exa Z T49.heap b2 "com/example/sevenfold/sevenfold/PackedTables$Texts" := f45.keep K49
  have f59 : Fld Z T49.heap a0 "com/example/sevenfold/sevenfold/PackedTables" "keys" "Lcom/example/sevenfold/sevenfold/PackedTables$Texts;" (.ref b2) := f46.keep K49 (ninS ne_a0_b36 nin0)
  have f60 : Exa Z T49.heap b36 "com/example/sevenfold/sevenfold/PackedTables$Texts" := A36.keep K49
  have N49 := Fr.app N25 N49q
  refine OwnGo.of st49 ?_
  show OwnGo p.tables e below _ (T49.setTop (mkF m 23 #[.val (.ref a0), .val (.long q1), .second] [(.ref b36), (.ref a0)]))
  obtain ⟨T61, h61, X61, e61, W61, st61⟩ := putF X49 hx hZ hown (host := "") (Or.inl (hw _ (List.mem_of_getElem? (i := 31) rfl))) Via.refl rfl f53 f52 (Or.inr ⟨(hw _ (List.mem_of_getElem? (i := 32) rfl)), rfl, hnm⟩) (hw _ (List.mem_of_getElem? (i := 8) rfl)) (ty := (.object "com/example/sevenfold/sevenfold/PackedTables$Texts")) (by decide) rfl rfl (g := (mkF m 23 #[.val (.ref a0), .val (.long q1), .second] [(.ref b36), (.ref a0)])) rfl rfl (hb hby d2_23)
  refine OwnGo.of st61 ?_
  have N61 := Fr.snoc X61 N49 g_a0
  have f62 : n0 ≤ h61.size := Nat.le_trans f50 (Keep.of_wr W61).1
  have f63 : Keep h0 h61 [a0] := f51.wr W61 (Or.inl (List.mem_of_getElem? (i := 0) rfl))
  have f64 : Exa Z h61 a0 "com/example/sevenfold/sevenfold/PackedTables" := f52.wr W61
  have f65 : Fld Z h61 a0 "com/example/sevenfold/sevenfold/PackedTables" "shapeKeys" "[I" .null := f54.other W61 (Or.inr (slot_ne (Or.inl (hw _ (List.mem_of_getElem? (i := 34) rfl))) (Or.inr (hw _ (List.mem_of_getElem? (i := 32) rfl))) (by decide) (t := (.array .int)) (t' := (.object "com/example/sevenfold/sevenfold/PackedTables$Texts")) (by decide) (by decide)))
  have f66 : Fld Z h61 a0 "com/example/sevenfold/sevenfold/PackedTables" "shapeEnds" "[I" .null := f55.other W61 (Or.inr (slot_ne (Or.inl (hw _ (List.mem_of_getElem? (i := 36) rfl))) (Or.inr (hw _ (List.mem_of_getElem? (i := 32) rfl))) (by decide) (t := (.array .int)) (t' := (.object "com/example/sevenfold/sevenfold/PackedTables$Texts")) (by decide) (by decide)))
  have f67 : Fld Z h61 a0 "com/example/sevenfold/sevenfold/PackedTables" "start" "J" (.long (0 : Int64)) := f56.other W61 (Or.inr (slot_ne (Or.inr (hw _ (List.mem_of_getElem? (i := 38) rfl))) (Or.inr (hw _ (List.mem_of_getElem? (i := 32) rfl))) (by decide) (t := .long) (t' := (.object "com/example/sevenfold/sevenfold/PackedTables$Texts")) (by decide) (by decide)))
  have f68 : Fld Z h61 a0 "com/example/sevenfold/sevenfold/PackedTables" "size" "I" (.int (0 : Int32)) := f57.other W61 (Or.inr (slot_ne (Or.inl (hw _ (List.mem_of_getElem? (i := 46) rfl))) (Or.inr (hw _ (List.mem_of_getElem? (i := 32) rfl))) (by decide) (t := .int) (t' := (.object "com/example/sevenfold/sevenfold/PackedTables$Texts")) (by decide) (by decide)))
  have f69 : Exa Z h61 b2 "com/example/sevenfold/sevenfold/PackedTables$Texts" := f58.wr W61
  have f70 : Fld Z h61 a0 "com/example/sevenfold/sevenfold/PackedTables" "keys" "Lcom/example/sevenfold/sevenfold/PackedTables$Texts;" (.ref b2) := f59.other W61 (Or.inr (slot_ne (Or.inr (hw _ (List.mem_of_getElem? (i := 30) rfl))) (Or.inr (hw _ (List.mem_of_getElem? (i := 32) rfl))) (by decide) (t := (.object "com/example/sevenfold/sevenfold/PackedTables$Texts")) (t' := (.object "com/example/sevenfold/sevenfold/PackedTables$Texts")) (by decide) (by decide)))
  have f71 : Exa Z h61 b36 "com/example/sevenfold/sevenfold/PackedTables$Texts" := y49_0.wr W61
  have f72 : Fld Z h61 a0 "com/example/sevenfold/sevenfold/PackedTables" "strings" "Lcom/example/sevenfold/sevenfold/PackedTables$Texts;" (.ref b36) := Fld.same W61 f53
  show OwnGo p.tables e below _ (T61.setTop (mkF m 26 #[.val (.ref a0), .val (.long q1), .second] []))
  refine OwnGo.of (A := T61.setTop (mkF m 26 #[.val (.ref a0), .val (.long q1), .second] [])) (B := T61.setTop (mkF m 29 #[.val (.ref a0), .val (.long q1), .second] [(.int (16 : Int32)), (.ref a0)])) (fun t k => ?_) ?_
  · show Steps p.tables e below (T61.setTop (mkF m 26 #[.val (.ref a0), .val (.long q1), .second] [])) t
    refine XS.aloadN X61.here hx rfl (hb hby d2_26) rfl rfl ?_
    show Steps p.tables e below (T61.setTop (mkF m 27 #[.val (.ref a0), .val (.long q1), .second] [(.ref a0)])) t
    refine XS.bipush X61.here hx rfl (hb hby d2_27) ?_
    exact k
  obtain ⟨T73, h73, k73, X73, e73, E73, A73, st73⟩ := newP X61 hx hZ (hw _ (List.mem_of_getElem? (i := 26) rfl)) e61 (g := (mkF m 29 #[.val (.ref a0), .val (.long q1), .second] [(.int (16 : Int32)), (.ref a0)])) rfl (hb hby d2_29) rfl (by decide) (cap := 16) (by decide) (by decide) (by decide) (by decide)
  obtain ⟨b73, g73⟩ : ∃ z, z = h61.size := ⟨_, rfl⟩
  rw [← g73] at A73 st73
  refine OwnGo.of st73 ?_
  have ne_a0_b73 : a0 ≠ b73 := Nat.ne_of_lt (Nat.lt_of_lt_of_le f64.lt (Nat.le_of_eq g73.symm))
  have ne_b2_b73 : b2 ≠ b73 := Nat.ne_of_lt (Nat.lt_of_lt_of_le f69.lt (Nat.le_of_eq g73.symm))
  have ne_b36_b73 : b36 ≠ b73 := Nat.ne_of_lt (Nat.lt_of_lt_of_le f71.lt (Nat.le_of_eq g73.symm))
  have g_b73 : n0 ≤ b73 := Nat.le_trans f62 (Nat.le_of_eq g73.symm)
  have sz_b73 : h0.size ≤ b73 := Nat.le_trans f63.1 (Nat.le_of_eq g73.symm)
  have f74 : n0 ≤ h73.size := Nat.le_trans f62 E73.1
  have f75 : Keep h0 h73 [a0] := f63.ext E73
  have f76 : Exa Z h73 a0 "com/example/sevenfold/sevenfold/PackedTables" := f64.ext E73
  have f77 : Fld Z h73 a0 "com/example/sevenfold/sevenfold/PackedTables" "shapeKeys" "[I" .null := f65.ext E73
  have f78 : Fld Z h73 a0 "com/example/sevenfold/sevenfold/PackedTables" "shapeEnds" "[I" .null := f66.ext E73
  have f79 : Fld Z h73 a0 "com/example/sevenfold/sevenfold/PackedTables" "start" "J" (.long (0 : Int64)) := f67.ext E73
  have f80 : Fld Z h73 a0 "com/example/sevenfold/sevenfold/PackedTables" "size" "I" (.int (0 : Int32)) := f68.ext E73
  have f81 : Exa Z h73 b2 "com/example/sevenfold/sevenfold/PackedTables$Texts" := f69.ext E73
  have f82 : Fld Z h73 a0 "com/example/sevenfold/sevenfold/PackedTables" "keys" "Lcom/example/sevenfold/sevenfold/PackedTables$Texts;" (.ref b2) := f70.ext E73
  have f83 : Exa Z h73 b36 "com/example/sevenfold/sevenfold/PackedTables$Texts" := f71.ext E73
  have f84 : Fld Z h73 a0 "com/example/sevenfold/sevenfold/PackedTables" "strings" "Lcom/example/sevenfold/sevenfold/PackedTables$Texts;" (.ref b36) := f72.ext E73
  show OwnGo p.tables e below _ (T73.setTop (mkF m 31 #[.val (.ref a0), .val (.long q1), .second] [(.ref b73), (.ref a0)]))
  obtain ⟨T85, h85, X85, e85, W85, st85⟩ := putF X73 hx hZ hown (host := "") (Or.inl (hw _ (List.mem_of_getElem? (i := 33) rfl))) Via.refl e73 f77 f76 (Or.inl (hw _ (List.mem_of_getElem? (i := 34) rfl))) (hw _ (List.mem_of_getElem? (i := 8) rfl)) (ty := (.array .int)) (by decide) rfl rfl (g := (mkF m 31 #[.val (.ref a0), .val (.long q1), .second] [(.ref b73), (.ref a0)])) rfl rfl (hb hby d2_31)
  refine OwnGo.of st85 ?_
  have N85 := Fr.snoc X85 N61 g_a0
  have f86 : n0 ≤ h85.size := Nat.le_trans f74 (Keep.of_wr W85).1
  have f87 : Keep h0 h85 [a0] := f75.wr W85 (Or.inl (List.mem_of_getElem? (i := 0) rfl))
  have f88 : Exa Z h85 a0 "com/example/sevenfold/sevenfold/PackedTables" := f76.wr W85
  have f89 : Fld Z h85 a0 "com/example/sevenfold/sevenfold/PackedTables" "shapeEnds" "[I" .null := f78.other W85 (Or.inr (slot_ne (Or.inl (hw _ (List.mem_of_getElem? (i := 36) rfl))) (Or.inl (hw _ (List.mem_of_getElem? (i := 34) rfl))) (by decide) (t := (.array .int)) (t' := (.array .int)) (by decide) (by decide)))
  have f90 : Fld Z h85 a0 "com/example/sevenfold/sevenfold/PackedTables" "start" "J" (.long (0 : Int64)) := f79.other W85 (Or.inr (slot_ne (Or.inr (hw _ (List.mem_of_getElem? (i := 38) rfl))) (Or.inl (hw _ (List.mem_of_getElem? (i := 34) rfl))) (by decide) (t := .long) (t' := (.array .int)) (by decide) (by decide)))
  have f91 : Fld Z h85 a0 "com/example/sevenfold/sevenfold/PackedTables" "size" "I" (.int (0 : Int32)) := f80.other W85 (Or.inr (slot_ne (Or.inl (hw _ (List.mem_of_getElem? (i := 46) rfl))) (Or.inl (hw _ (List.mem_of_getElem? (i := 34) rfl))) (by decide) (t := .int) (t' := (.array .int)) (by decide) (by decide)))
  have f92 : Exa Z h85 b2 "com/example/sevenfold/sevenfold/PackedTables$Texts" := f81.wr W85
  have f93 : Fld Z h85 a0 "com/example/sevenfold/sevenfold/PackedTables" "keys" "Lcom/example/sevenfold/sevenfold/PackedTables$Texts;" (.ref b2) := f82.other W85 (Or.inr (slot_ne (Or.inr (hw _ (List.mem_of_getElem? (i := 30) rfl))) (Or.inl (hw _ (List.mem_of_getElem? (i := 34) rfl))) (by decide) (t := (.object "com/example/sevenfold/sevenfold/PackedTables$Texts")) (t' := (.array .int)) (by decide) (by decide)))
  have f94 : Exa Z h85 b36 "com/example/sevenfold/sevenfold/PackedTables$Texts" := f83.wr W85
  have f95 : Fld Z h85 a0 "com/example/sevenfold/sevenfold/PackedTables" "strings" "Lcom/example/sevenfold/sevenfold/PackedTables$Texts;" (.ref b36) := f84.other W85 (Or.inr (slot_ne (Or.inr (hw _ (List.mem_of_getElem? (i := 32) rfl))) (Or.inl (hw _ (List.mem_of_getElem? (i := 34) rfl))) (by decide) (t := (.object "com/example/sevenfold/sevenfold/PackedTables$Texts")) (t' := (.array .int)) (by decide) (by decide)))
  have f96 : Fld Z h85 a0 "com/example/sevenfold/sevenfold/PackedTables" "shapeKeys" "[I" (.ref b73) := Fld.same W85 f77
  show OwnGo p.tables e below _ (T85.setTop (mkF m 34 #[.val (.ref a0), .val (.long q1), .second] []))
  refine OwnGo.of (A := T85.setTop (mkF m 34 #[.val (.ref a0), .val (.long q1), .second] [])) (B := T85.setTop (mkF m 36 #[.val (.ref a0), .val (.long q1), .second] [(.int (4 : Int32)), (.ref a0)])) (fun t k => ?_) ?_
  · show Steps p.tables e below (T85.setTop (mkF m 34 #[.val (.ref a0), .val (.long q1), .second] [])) t
    refine XS.aloadN X85.here hx rfl (hb hby d2_34) rfl rfl ?_
    show Steps p.tables e below (T85.setTop (mkF m 35 #[.val (.ref a0), .val (.long q1), .second] [(.ref a0)])) t
    refine XS.iconst X85.here hx rfl (hb hby d2_35) ?_
    exact k
  obtain ⟨T97, h97, k97, X97, e97, E97, A97, st97⟩ := newP X85 hx hZ (hw _ (List.mem_of_getElem? (i := 26) rfl)) e85 (g := (mkF m 36 #[.val (.ref a0), .val (.long q1), .second] [(.int (4 : Int32)), (.ref a0)])) rfl (hb hby d2_36) rfl (by decide) (cap := 4) (by decide) (by decide) (by decide) (by decide)
  obtain ⟨b97, g97⟩ : ∃ z, z = h85.size := ⟨_, rfl⟩
  rw [← g97] at A97 st97
  refine OwnGo.of st97 ?_
  have ne_a0_b97 : a0 ≠ b97 := Nat.ne_of_lt (Nat.lt_of_lt_of_le f88.lt (Nat.le_of_eq g97.symm))
  have ne_b2_b97 : b2 ≠ b97 := Nat.ne_of_lt (Nat.lt_of_lt_of_le f92.lt (Nat.le_of_eq g97.symm))
  have ne_b36_b97 : b36 ≠ b97 := Nat.ne_of_lt (Nat.lt_of_lt_of_le f94.lt (Nat.le_of_eq g97.symm))
  have g_b97 : n0 ≤ b97 := Nat.le_trans f86 (Nat.le_of_eq g97.symm)
  have sz_b97 : h0.size ≤ b97 := Nat.le_trans f87.1 (Nat.le_of_eq g97.symm)
  have f98 : n0 ≤ h97.size := Nat.le_trans f86 E97.1
  have f99 : Keep h0 h97 [a0] := f87.ext E97
  have f100 : Exa Z h97 a0 "com/example/sevenfold/sevenfold/PackedTables" := f88.ext E97
  have f101 : Fld Z h97 a0 "com/example/sevenfold/sevenfold/PackedTables" "shapeEnds" "[I" .null := f89.ext E97
  have f102 : Fld Z h97 a0 "com/example/sevenfold/sevenfold/PackedTables" "start" "J" (.long (0 : Int64)) := f90.ext E97
  have f103 : Fld Z h97 a0 "com/example/sevenfold/sevenfold/PackedTables" "size" "I" (.int (0 : Int32)) := f91.ext E97
  have f104 : Exa Z h97 b2 "com/example/sevenfold/sevenfold/PackedTables$Texts" := f92.ext E97
  have f105 : Fld Z h97 a0 "com/example/sevenfold/sevenfold/PackedTables" "keys" "Lcom/example/sevenfold/sevenfold/PackedTables$Texts;" (.ref b2) := f93.ext E97
  have f106 : Exa Z h97 b36 "com/example/sevenfold/sevenfold/PackedTables$Texts" := f94.ext E97
  have f107 : Fld Z h97 a0 "com/example/sevenfold/sevenfold/PackedTables" "strings" "Lcom/example/sevenfold/sevenfold/PackedTables$Texts;" (.ref b36) := f95.ext E97
  have f108 : Fld Z h97 a0 "com/example/sevenfold/sevenfold/PackedTables" "shapeKeys" "[I" (.ref b73) := f96.ext E97
  show OwnGo p.tables e below _ (T97.setTop (mkF m 38 #[.val (.ref a0), .val (.long q1), .second] [(.ref b97), (.ref a0)]))
  obtain ⟨T109, h109, X109, e109, W109, st109⟩ := putF X97 hx hZ hown (host := "") (Or.inl (hw _ (List.mem_of_getElem? (i := 35) rfl))) Via.refl e97 f101 f100 (Or.inl (hw _ (List.mem_of_getElem? (i := 36) rfl))) (hw _ (List.mem_of_getElem? (i := 8) rfl)) (ty := (.array .int)) (by decide) rfl rfl (g := (mkF m 38 #[.val (.ref a0), .val (.long q1), .second] [(.ref b97), (.ref a0)])) rfl rfl (hb hby d2_38)
  refine OwnGo.of st109 ?_
  have N109 := Fr.snoc X109 N85 g_a0
  have f110 : n0 ≤ h109.size := Nat.le_trans f98 (Keep.of_wr W109).1
  have f111 : Keep h0 h109 [a0] := f99.wr W109 (Or.inl (List.mem_of_getElem? (i := 0) rfl))
  have f112 : Exa Z h109 a0 "com/example/sevenfold/sevenfold/PackedTables" := f100.wr W109
  have f113 : Fld Z h109 a0 "com/example/sevenfold/sevenfold/PackedTables" "start" "J" (.long (0 : Int64)) := f102.other W109 (Or.inr (slot_ne (Or.inr (hw _ (List.mem_of_getElem? (i := 38) rfl))) (Or.inl (hw _ (List.mem_of_getElem? (i := 36) rfl))) (by decide) (t := .long) (t' := (.array .int)) (by decide) (by decide)))
  have f114 : Fld Z h109 a0 "com/example/sevenfold/sevenfold/PackedTables" "size" "I" (.int (0 : Int32)) := f103.other W109 (Or.inr (slot_ne (Or.inl (hw _ (List.mem_of_getElem? (i := 46) rfl))) (Or.inl (hw _ (List.mem_of_getElem? (i := 36) rfl))) (by decide) (t := .int) (t' := (.array .int)) (by decide) (by decide)))
  have f115 : Exa Z h109 b2 "com/example/sevenfold/sevenfold/PackedTables$Texts" := f104.wr W109
  have f116 : Fld Z h109 a0 "com/example/sevenfold/sevenfold/PackedTables" "keys" "Lcom/example/sevenfold/sevenfold/PackedTables$Texts;" (.ref b2) := f105.other W109 (Or.inr (slot_ne (Or.inr (hw _ (List.mem_of_getElem? (i := 30) rfl))) (Or.inl (hw _ (List.mem_of_getElem? (i := 36) rfl))) (by decide) (t := (.object "com/example/sevenfold/sevenfold/PackedTables$Texts")) (t' := (.array .int)) (by decide) (by decide)))
  have f117 : Exa Z h109 b36 "com/example/sevenfold/sevenfold/PackedTables$Texts" := f106.wr W109
  have f118 : Fld Z h109 a0 "com/example/sevenfold/sevenfold/PackedTables" "strings" "Lcom/example/sevenfold/sevenfold/PackedTables$Texts;" (.ref b36) := f107.other W109 (Or.inr (slot_ne (Or.inr (hw _ (List.mem_of_getElem? (i := 32) rfl))) (Or.inl (hw _ (List.mem_of_getElem? (i := 36) rfl))) (by decide) (t := (.object "com/example/sevenfold/sevenfold/PackedTables$Texts")) (t' := (.array .int)) (by decide) (by decide)))
  have f119 : Fld Z h109 a0 "com/example/sevenfold/sevenfold/PackedTables" "shapeKeys" "[I" (.ref b73) := f108.other W109 (Or.inr (slot_ne (Or.inl (hw _ (List.mem_of_getElem? (i := 34) rfl))) (Or.inl (hw _ (List.mem_of_getElem? (i := 36) rfl))) (by decide) (t := (.array .int)) (t' := (.array .int)) (by decide) (by decide)))
  have f120 : Fld Z h109 a0 "com/example/sevenfold/sevenfold/PackedTables" "shapeEnds" "[I" (.ref b97) := Fld.same W109 f101
  show OwnGo p.tables e below _ (T109.setTop (mkF m 41 #[.val (.ref a0), .val (.long q1), .second] []))
  refine OwnGo.of (A := T109.setTop (mkF m 41 #[.val (.ref a0), .val (.long q1), .second] [])) (B := T109.setTop (mkF m 43 #[.val (.ref a0), .val (.long q1), .second] [(.long q1), (.ref a0)])) (fun t k => ?_) ?_
  · show Steps p.tables e below (T109.setTop (mkF m 41 #[.val (.ref a0), .val (.long q1), .second] [])) t
    refine XS.aloadN X109.here hx rfl (hb hby d2_41) rfl rfl ?_
    show Steps p.tables e below (T109.setTop (mkF m 42 #[.val (.ref a0), .val (.long q1), .second] [(.ref a0)])) t
    refine XS.lloadN X109.here hx rfl (hb hby d2_42) rfl ?_
    exact k
  obtain ⟨T121, h121, X121, e121, W121, st121⟩ := putF X109 hx hZ hown (host := "") (Or.inl (hw _ (List.mem_of_getElem? (i := 37) rfl))) Via.refl e109 f113 f112 (Or.inr ⟨(hw _ (List.mem_of_getElem? (i := 38) rfl)), rfl, hnm⟩) (hw _ (List.mem_of_getElem? (i := 8) rfl)) (ty := .long) (by decide) rfl rfl (g := (mkF m 43 #[.val (.ref a0), .val (.long q1), .second] [(.long q1), (.ref a0)])) rfl rfl (hb hby d2_43)
  refine OwnGo.of st121 ?_
  have N121 := Fr.snoc X121 N109 g_a0
  have f122 : n0 ≤ h121.size := Nat.le_trans f110 (Keep.of_wr W121).1
  have f123 : Keep h0 h121 [a0] := f111.wr W121 (Or.inl (List.mem_of_getElem? (i := 0) rfl))
  have f124 : Exa Z h121 a0 "com/example/sevenfold/sevenfold/PackedTables" := f112.wr W121
  have f125 : Fld Z h121 a0 "com/example/sevenfold/sevenfold/PackedTables" "size" "I" (.int (0 : Int32)) := f114.other W121 (Or.inr (slot_ne (Or.inl (hw _ (List.mem_of_getElem? (i := 46) rfl))) (Or.inr (hw _ (List.mem_of_getElem? (i := 38) rfl))) (by decide) (t := .int) (t' := .long) (by decide) (by decide)))
  have f126 : Exa Z h121 b2 "com/example/sevenfold/sevenfold/PackedTables$Texts" := f115.wr W121
  have f127 : Fld Z h121 a0 "com/example/sevenfold/sevenfold/PackedTables" "keys" "Lcom/example/sevenfold/sevenfold/PackedTables$Texts;" (.ref b2) := f116.other W121 (Or.inr (slot_ne (Or.inr (hw _ (List.mem_of_getElem? (i := 30) rfl))) (Or.inr (hw _ (List.mem_of_getElem? (i := 38) rfl))) (by decide) (t := (.object "com/example/sevenfold/sevenfold/PackedTables$Texts")) (t' := .long) (by decide) (by decide)))
  have f128 : Exa Z h121 b36 "com/example/sevenfold/sevenfold/PackedTables$Texts" := f117.wr W121
  have f129 : Fld Z h121 a0 "com/example/sevenfold/sevenfold/PackedTables" "strings" "Lcom/example/sevenfold/sevenfold/PackedTables$Texts;" (.ref b36) := f118.other W121 (Or.inr (slot_ne (Or.inr (hw _ (List.mem_of_getElem? (i := 32) rfl))) (Or.inr (hw _ (List.mem_of_getElem? (i := 38) rfl))) (by decide) (t := (.object "com/example/sevenfold/sevenfold/PackedTables$Texts")) (t' := .long) (by decide) (by decide)))
  have f130 : Fld Z h121 a0 "com/example/sevenfold/sevenfold/PackedTables" "shapeKeys" "[I" (.ref b73) := f119.other W121 (Or.inr (slot_ne (Or.inl (hw _ (List.mem_of_getElem? (i := 34) rfl))) (Or.inr (hw _ (List.mem_of_getElem? (i := 38) rfl))) (by decide) (t := (.array .int)) (t' := .long) (by decide) (by decide)))
  have f131 : Fld Z h121 a0 "com/example/sevenfold/sevenfold/PackedTables" "shapeEnds" "[I" (.ref b97) := f120.other W121 (Or.inr (slot_ne (Or.inl (hw _ (List.mem_of_getElem? (i := 36) rfl))) (Or.inr (hw _ (List.mem_of_getElem? (i := 38) rfl))) (by decide) (t := (.array .int)) (t' := .long) (by decide) (by decide)))
  have f132 : Fld Z h121 a0 "com/example/sevenfold/sevenfold/PackedTables" "start" "J" (.long q1) := Fld.same W121 f113
  show OwnGo p.tables e below _ (T121.setTop (mkF m 46 #[.val (.ref a0), .val (.long q1), .second] []))
  obtain ⟨fs, hr, hrun, hended, hW, hsame⟩ := X121.leave (v := none) (fun _ => rfl) hlk
  refine ⟨_, _, ?_, hrun, hended, _, _, rfl, ?_, ⟨_, rfl⟩, hW, hsame.mono (by decide) (by decide)⟩
  · show Steps p.tables e below (T121.setTop (mkF m 46 #[.val (.ref a0), .val (.long q1), .second] [])) _
    exact X121.returnOut hx Bd.returns (hb hby d2_46) hr
  · show Qrm2 Z a0 q1 h0 n0 _ (T121.setFrames fs).heap _
    rw [show (T121.setFrames fs).heap = h121 from e121]
    exact ⟨rfl, N121, f123, f124, f125⟩

def own_tk (q : Int64) (u : Int32) : Int32 := if (0 : Int32) < (lcmpW q (((1048576 : Int32) - u).toInt64)) then 0 else 1
def own_sz (q : Int64) (u : Int32) : Int32 := if (0 : Int32) < (lcmpW q (((1048576 : Int32) - u).toInt64)) then u else u + q.toInt32
theorem d5_0 : decode prog_9_method_4_code 0 = .ok (.lload_n 1, 1) := by decide +kernel
theorem d5_1 : decode prog_9_method_4_code 1 = .ok (.ldc 34, 2) := by decide +kernel
theorem d5_3 : decode prog_9_method_4_code 3 = .ok (.aload_n 0, 1) := by decide +kernel
theorem d5_4 : decode prog_9_method_4_code 4 = .ok (.getfield 35, 3) := by decide +kernel
theorem d5_7 : decode prog_9_method_4_code 7 = .ok (.isub, 1) := by decide +kernel
theorem d5_8 : decode prog_9_method_4_code 8 = .ok (.i2l, 1) := by decide +kernel
theorem d5_9 : decode prog_9_method_4_code 9 = .ok (.lcmp, 1) := by decide +kernel
theorem d5_10 : decode prog_9_method_4_code 10 = .ok (.ifCond .le 5, 3) := by decide +kernel
theorem d5_13 : decode prog_9_method_4_code 13 = .ok (.iconst 0, 1) := by decide +kernel
theorem d5_14 : decode prog_9_method_4_code 14 = .ok (.ireturn, 1) := by decide +kernel
theorem d5_15 : decode prog_9_method_4_code 15 = .ok (.aload_n 0, 1) := by decide +kernel
theorem d5_16 : decode prog_9_method_4_code 16 = .ok (.dup, 1) := by decide +kernel
theorem d5_17 : decode prog_9_method_4_code 17 = .ok (.getfield 35, 3) := by decide +kernel
theorem d5_20 : decode prog_9_method_4_code 20 = .ok (.lload_n 1, 1) := by decide +kernel
theorem d5_21 : decode prog_9_method_4_code 21 = .ok (.l2i, 1) := by decide +kernel
theorem d5_22 : decode prog_9_method_4_code 22 = .ok (.iadd, 1) := by decide +kernel
theorem d5_23 : decode prog_9_method_4_code 23 = .ok (.putfield 35, 3) := by decide +kernel
theorem d5_26 : decode prog_9_method_4_code 26 = .ok (.iconst 1, 1) := by decide +kernel
theorem d5_27 : decode prog_9_method_4_code 27 = .ok (.ireturn, 1) := by decide +kernel
theorem ef_rm5 (m : MethodId) (a0 : Addr) (q1 : Int64) : entryFrame m #[(.ref a0), (.long q1)] 3 = mkF m 0 #[.val (.ref a0), .val (.long q1), .second] [] := by first | (simp [entryFrame, mkF, argsToLocals, Value.category]; done) | rfl
def Qrm5 (Z : State) (a0 : Addr) (q1 : Int64) (u1 : Int32) (h0 : Heap) (n0 : Nat) (v : Option Value) (h : Heap) (L : List Loc) : Prop := v = some (.int (own_tk q1 u1)) ∧ Fr n0 L ∧ Keep h0 h [a0] ∧ Exa Z h a0 "com/example/sevenfold/sevenfold/PackedTables" ∧ Fld Z h a0 "com/example/sevenfold/sevenfold/PackedTables" "size" "I" (.int (own_sz q1 u1))
set_option maxRecDepth 65536 in
set_option maxHeartbeats 40000000 in
theorem rm5 (l : Launch) (Z : State) (aw : Array Value) (hw : ∀ d ∈ tables_1, d.before aw Z = true) (ws : List Jvm.Cond) (a0 : Addr) (q1 : Int64) (u1 : Int32) (h0 : Heap) (n0 : Nat) (Z0 : n0 ≤ h0.size) (E_a0 : Exa Z h0 a0 "com/example/sevenfold/sevenfold/PackedTables") (F_a0_size : Fld Z h0 a0 "com/example/sevenfold/sevenfold/PackedTables" "size" "I" (.int u1)) (g_a0 : n0 ≤ a0) :
    MetFree l (⟨"com/example/sevenfold/sevenfold/PackedTables", "take", "(J)Z"⟩ : MethodName) (head1 (Jvm.Cond.code (⟨"com/example/sevenfold/sevenfold/PackedTables", "take", "(J)Z"⟩ : MethodName) prog_9_method_4_code 3 (some .boolean) :: ws) ({ frames := 0, cells := 0, slots := 0, locals := 0 } : Room)) (fun a U => a = #[(.ref a0), (.long q1)] ∧ Z.Warmed39 U.vm ∧ U.heap = h0) (fun _ _ _ _ _ => True) (fun _ U o U' => ∃ v L, o = .returned v ∧ Qrm5 Z a0 q1 u1 h0 n0 v U'.heap L ∧ FrameEnd U o U' L ({ frames := 0, cells := 0, slots := 0, locals := 0 } : Room).cells ({ frames := 0, cells := 0, slots := 0, locals := 0 } : Room).slots) := by
  refine MetFree.of_bodySF (plainFor_of_name pn_3) hisR ?_
  intro p e s m args below meth c s₁ Bd hml0 hP hK
  obtain ⟨rfl, hZ, hh⟩ := hP
  have hx := Bd.exec
  have hby := Bd.bytes
  have hml : c.maxLocals = 3 := hml0
  have hown : s.vm.findClass "com/example/sevenfold/sevenfold/PackedTables" = some m.cls := findClass_of_methodNamed Bd.named
  have hnm := (name_of_methodNamed Bd.named Bd.method).1
  have X0 : Stand p l e ({ frames := 0, cells := 0, slots := 0, locals := 0 } : Room) s m #[(.ref a0), (.long q1)] below meth c s₁ [] 0 0 := Stand.of_body Bd
  have e0 : s₁.heap = h0 := by rw [← hh, Bd.state]; rfl
  have N0 := Fr.nil n0
  have hlk := Bd.notSynchronized
  show OwnGo p.tables e below _ (s₁.setTop (entryFrame m #[(.ref a0), (.long q1)] 3))
  rw [ef_rm5 m a0 q1]
  have K0 : Keep h0 h0 [a0] := Keep.refl _ _
  show OwnGo p.tables e below _ (s₁.setTop (mkF m 0 #[.val (.ref a0), .val (.long q1), .second] []))
  refine OwnGo.of (A := s₁.setTop (mkF m 0 #[.val (.ref a0), .val (.long q1), .second] [])) (B := s₁.setTop (mkF m 4 #[.val (.ref a0), .val (.long q1), .second] [(.ref a0), (.int (1048576 : Int32)), (.long q1)])) (fun t k => ?_) ?_
  · show Steps p.tables e below (s₁.setTop (mkF m 0 #[.val (.ref a0), .val (.long q1), .second] [])) t
    refine XS.lloadN X0.here hx rfl (hb hby d5_0) rfl ?_
    show Steps p.tables e below (s₁.setTop (mkF m 1 #[.val (.ref a0), .val (.long q1), .second] [(.long q1)])) t
    refine X0.ldcInt hx hown (mvT hZ (hw _ (List.mem_of_getElem? (i := 44) rfl))) (g := (mkF m 1 #[.val (.ref a0), .val (.long q1), .second] [(.long q1)])) rfl (hb hby d5_1) _ ?_
    show Steps p.tables e below (s₁.setTop (mkF m 3 #[.val (.ref a0), .val (.long q1), .second] [(.int (1048576 : Int32)), (.long q1)])) t
    refine XS.aloadN X0.here hx rfl (hb hby d5_3) rfl rfl ?_
    exact k
  obtain ⟨T1, X1, e1, st1⟩ := getF X0 hx hZ hown (host := "") (Or.inl (hw _ (List.mem_of_getElem? (i := 45) rfl))) Via.refl e0 F_a0_size (g := (mkF m 4 #[.val (.ref a0), .val (.long q1), .second] [(.ref a0), (.int (1048576 : Int32)), (.long q1)])) rfl rfl (hb hby d5_4)
  refine OwnGo.of st1 ?_
  show OwnGo p.tables e below _ (T1.setTop (mkF m 7 #[.val (.ref a0), .val (.long q1), .second] [(.int u1), (.int (1048576 : Int32)), (.long q1)]))
  refine OwnGo.of (A := T1.setTop (mkF m 7 #[.val (.ref a0), .val (.long q1), .second] [(.int u1), (.int (1048576 : Int32)), (.long q1)])) (B := T1.setTop (mkF m 10 #[.val (.ref a0), .val (.long q1), .second] [(.int (lcmpW q1 (((1048576 : Int32) - u1).toInt64)))])) (fun t k => ?_) ?_
  · show Steps p.tables e below (T1.setTop (mkF m 7 #[.val (.ref a0), .val (.long q1), .second] [(.int u1), (.int (1048576 : Int32)), (.long q1)])) t
    refine XS.isub X1.here hx rfl (hb hby d5_7) rfl ?_
    show Steps p.tables e below (T1.setTop (mkF m 8 #[.val (.ref a0), .val (.long q1), .second] [(.int ((1048576 : Int32) - u1)), (.long q1)])) t
    refine XS.i2l X1.here hx rfl (hb hby d5_8) rfl ?_
    show Steps p.tables e below (T1.setTop (mkF m 9 #[.val (.ref a0), .val (.long q1), .second] [(.long (((1048576 : Int32) - u1).toInt64)), (.long q1)])) t
    refine XS.lcmp X1.here hx rfl (hb hby d5_9) rfl ?_
    exact k
  by_cases hc2 : (0 : Int32) < (lcmpW q1 (((1048576 : Int32) - u1).toInt64))
  · refine OwnGo.of (A := T1.setTop (mkF m 10 #[.val (.ref a0), .val (.long q1), .second] [(.int (lcmpW q1 (((1048576 : Int32) - u1).toInt64)))])) (B := T1.setTop (mkF m 14 #[.val (.ref a0), .val (.long q1), .second] [(.int (0 : Int32))])) (fun t k => ?_) ?_
    · show Steps p.tables e below (T1.setTop (mkF m 10 #[.val (.ref a0), .val (.long q1), .second] [(.int (lcmpW q1 (((1048576 : Int32) - u1).toInt64)))])) t
      refine XS.ifNo X1.here hx rfl (hb hby d5_10) rfl ((if0 _ _).trans (tlt hc2).2.2.2) ?_
      show Steps p.tables e below (T1.setTop (mkF m 13 #[.val (.ref a0), .val (.long q1), .second] [])) t
      refine XS.iconst X1.here hx rfl (hb hby d5_13) ?_
      exact k
    obtain ⟨fs, hr, hrun, hended, hW, hsame⟩ := X1.leave (v := some (.int (nar .boolean (0 : Int32)))) (fun h => by rw [Bd.returns] at h; cases h) hlk
    refine ⟨_, _, ?_, hrun, hended, _, _, rfl, ?_, ⟨_, rfl⟩, hW, hsame.mono (by decide) (by decide)⟩
    · show Steps p.tables e below (T1.setTop (mkF m 14 #[.val (.ref a0), .val (.long q1), .second] [(.int (0 : Int32))])) _
      exact retN X1 hx (t := .boolean) Bd.returns (by simp) (hb hby d5_14) hr
    · show Qrm5 Z a0 q1 u1 h0 n0 _ (T1.setFrames fs).heap _
      rw [show (T1.setFrames fs).heap = h0 from e1]
      refine ⟨?_, N0, K0, E_a0, ?_⟩
      · rw [own_tk, if_pos hc2]; rfl
      · rw [own_sz, if_pos hc2]; exact F_a0_size
  · refine OwnGo.of (A := T1.setTop (mkF m 10 #[.val (.ref a0), .val (.long q1), .second] [(.int (lcmpW q1 (((1048576 : Int32) - u1).toInt64)))])) (B := T1.setTop (mkF m 17 #[.val (.ref a0), .val (.long q1), .second] [(.ref a0), (.ref a0)])) (fun t k => ?_) ?_
    · show Steps p.tables e below (T1.setTop (mkF m 10 #[.val (.ref a0), .val (.long q1), .second] [(.int (lcmpW q1 (((1048576 : Int32) - u1).toInt64)))])) t
      refine XS.ifYes X1.here hx rfl (pc0 := 10) (pc' := 15) rfl (hb hby d5_10) rfl ((if0 _ _).trans (flt hc2).2.2.2) (by decide) (by decide) ?_
      show Steps p.tables e below (T1.setTop (mkF m 15 #[.val (.ref a0), .val (.long q1), .second] [])) t
      refine XS.aloadN X1.here hx rfl (hb hby d5_15) rfl rfl ?_
      show Steps p.tables e below (T1.setTop (mkF m 16 #[.val (.ref a0), .val (.long q1), .second] [(.ref a0)])) t
      refine XS.dup X1.here hx rfl (hb hby d5_16) rfl rfl ?_
      exact k
    obtain ⟨T4, X4, e4, st4⟩ := getF X1 hx hZ hown (host := "") (Or.inl (hw _ (List.mem_of_getElem? (i := 45) rfl))) Via.refl e1 F_a0_size (g := (mkF m 17 #[.val (.ref a0), .val (.long q1), .second] [(.ref a0), (.ref a0)])) rfl rfl (hb hby d5_17)
    refine OwnGo.of st4 ?_
    show OwnGo p.tables e below _ (T4.setTop (mkF m 20 #[.val (.ref a0), .val (.long q1), .second] [(.int u1), (.ref a0)]))
    refine OwnGo.of (A := T4.setTop (mkF m 20 #[.val (.ref a0), .val (.long q1), .second] [(.int u1), (.ref a0)])) (B := T4.setTop (mkF m 23 #[.val (.ref a0), .val (.long q1), .second] [(.int (u1 + (q1.toInt32))), (.ref a0)])) (fun t k => ?_) ?_
    · show Steps p.tables e below (T4.setTop (mkF m 20 #[.val (.ref a0), .val (.long q1), .second] [(.int u1), (.ref a0)])) t
      refine XS.lloadN X4.here hx rfl (hb hby d5_20) rfl ?_
      show Steps p.tables e below (T4.setTop (mkF m 21 #[.val (.ref a0), .val (.long q1), .second] [(.long q1), (.int u1), (.ref a0)])) t
      refine XS.l2i X4.here hx rfl (hb hby d5_21) rfl ?_
      show Steps p.tables e below (T4.setTop (mkF m 22 #[.val (.ref a0), .val (.long q1), .second] [(.int (q1.toInt32)), (.int u1), (.ref a0)])) t
      refine XS.iadd X4.here hx rfl (hb hby d5_22) rfl ?_
      exact k
    obtain ⟨T5, h5, X5, e5, W5, st5⟩ := putF X4 hx hZ hown (host := "") (Or.inl (hw _ (List.mem_of_getElem? (i := 45) rfl))) Via.refl e4 F_a0_size E_a0 (Or.inl (hw _ (List.mem_of_getElem? (i := 46) rfl))) (hw _ (List.mem_of_getElem? (i := 8) rfl)) (ty := .int) (by decide) rfl rfl (g := (mkF m 23 #[.val (.ref a0), .val (.long q1), .second] [(.int (u1 + (q1.toInt32))), (.ref a0)])) rfl rfl (hb hby d5_23)
    refine OwnGo.of st5 ?_
    have N5 := Fr.snoc X5 N0 g_a0
    have f6 : n0 ≤ h5.size := Nat.le_trans Z0 (Keep.of_wr W5).1
    have f7 : Keep h0 h5 [a0] := K0.wr W5 (Or.inl (List.mem_of_getElem? (i := 0) rfl))
    have f8 : Exa Z h5 a0 "com/example/sevenfold/sevenfold/PackedTables" := E_a0.wr W5
    have f9 : Fld Z h5 a0 "com/example/sevenfold/sevenfold/PackedTables" "size" "I" (.int (u1 + (q1.toInt32))) := Fld.same W5 F_a0_size
    show OwnGo p.tables e below _ (T5.setTop (mkF m 26 #[.val (.ref a0), .val (.long q1), .second] []))
    refine OwnGo.of (A := T5.setTop (mkF m 26 #[.val (.ref a0), .val (.long q1), .second] [])) (B := T5.setTop (mkF m 27 #[.val (.ref a0), .val (.long q1), .second] [(.int (1 : Int32))])) (fun t k => ?_) ?_
    · show Steps p.tables e below (T5.setTop (mkF m 26 #[.val (.ref a0), .val (.long q1), .second] [])) t
      refine XS.iconst X5.here hx rfl (hb hby d5_26) ?_
      exact k
    obtain ⟨fs, hr, hrun, hended, hW, hsame⟩ := X5.leave (v := some (.int (nar .boolean (1 : Int32)))) (fun h => by rw [Bd.returns] at h; cases h) hlk
    refine ⟨_, _, ?_, hrun, hended, _, _, rfl, ?_, ⟨_, rfl⟩, hW, hsame.mono (by decide) (by decide)⟩
    · show Steps p.tables e below (T5.setTop (mkF m 27 #[.val (.ref a0), .val (.long q1), .second] [(.int (1 : Int32))])) _
      exact retN X5 hx (t := .boolean) Bd.returns (by simp) (hb hby d5_27) hr
    · show Qrm5 Z a0 q1 u1 h0 n0 _ (T5.setFrames fs).heap _
      rw [show (T5.setFrames fs).heap = h5 from e5]
      refine ⟨?_, N5, f7, f8, ?_⟩
      · rw [own_tk, if_neg hc2]; rfl
      · rw [own_sz, if_neg hc2]; exact f9

def OwnSu (u : Int32) (sm : Int64) : Prop := u.toInt = sm.toInt ∧ 0 ≤ sm.toInt ∧ sm.toInt ≤ 1048576
theorem own_M : (1048576 : Int64).toInt = 1048576 := by decide
theorem own_M3 : (1048576 : Int32).toInt = 1048576 := by decide
theorem own_left {u : Int32} {sm : Int64} (h : OwnSu u sm) : ((1048576 : Int64) - sm).toInt = 1048576 - sm.toInt ∧ (((1048576 : Int32) - u).toInt64) = (1048576 : Int64) - sm := by
  obtain ⟨h1, h2, h3⟩ := h
  have a1 := c_lsub 1048576 sm
  have a2 := c_isub 1048576 u
  have a3 := c_i2l ((1048576 : Int32) - u)
  have r1 := rng64 ((1048576 : Int64) - sm)
  have r2 := rng32 ((1048576 : Int32) - u)
  rw [own_M] at a1; rw [own_M3] at a2
  have e1 : ((1048576 : Int64) - sm).toInt = 1048576 - sm.toInt := by omega
  refine ⟨e1, ?_⟩
  apply Int64.toInt_inj.mp; omega
theorem own_big {u : Int32} {sm : Int64} (h : OwnSu u sm) (q : Int64) : (0 : Int32) < (lcmpW q ((1048576 : Int64) - sm)) ↔ 1048576 - sm.toInt < q.toInt := by
  rw [lw_gt, Int64.lt_iff_toInt_lt, (own_left h).1]
theorem own_tk1 {u : Int32} {sm q : Int64} (h : OwnSu u sm) (c : (0 : Int32) < (lcmpW q ((1048576 : Int64) - sm))) : own_tk q u = 0 ∧ own_sz q u = u := by
  rw [own_tk, own_sz, (own_left h).2, if_pos c, if_pos c]; exact ⟨rfl, rfl⟩
theorem own_tk0 {u : Int32} {sm q : Int64} (h : OwnSu u sm) (c : ¬ ((0 : Int32) < (lcmpW q ((1048576 : Int64) - sm)))) : own_tk q u = 1 ∧ own_sz q u = u + q.toInt32 := by
  rw [own_tk, own_sz, (own_left h).2, if_neg c, if_neg c]; exact ⟨rfl, rfl⟩
theorem own_su1 {u : Int32} {sm q : Int64} (h : OwnSu u sm) (c : (0 : Int32) < (lcmpW q ((1048576 : Int64) - sm))) : OwnSu (own_sz q u) sm := by
  rw [(own_tk1 h c).2]; exact h
theorem own_su0 {u : Int32} {sm q : Int64} (h : OwnSu u sm) (hq : 0 ≤ q.toInt) (c : ¬ ((0 : Int32) < (lcmpW q ((1048576 : Int64) - sm)))) : OwnSu (own_sz q u) (sm + q) := by
  rw [(own_tk0 h c).2]
  rw [own_big h] at c
  obtain ⟨h1, h2, h3⟩ := h
  have a1 := c_ladd sm q
  have a2 := c_iadd u q.toInt32
  have a3 := c_l2i q
  have r1 := rng64 (sm + q)
  have r2 := rng32 (u + q.toInt32)
  have r3 := rng32 q.toInt32
  exact ⟨by omega, by omega, by omega⟩
theorem own_rest {u : Int32} {sm : Int64} (h : OwnSu u sm) : ¬ ((0 : Int32) < (lcmpW ((1048576 : Int64) - sm) ((1048576 : Int64) - sm))) := by
  rw [own_big h, (own_left h).1]; omega
theorem own_last {u : Int32} {sm : Int64} (h : OwnSu u sm) : own_tk (1 : Int64) (own_sz ((1048576 : Int64) - sm) u) = 0 := by
  have h2 := own_su0 (q := (1048576 : Int64) - sm) h (by rw [(own_left h).1]; obtain ⟨-, h2, h3⟩ := h; omega) (own_rest h)
  refine (own_tk1 h2 ?_).1
  have e := (own_left h).1
  rw [own_big h2, show (1 : Int64).toInt = 1 from by decide]
  have a1 := c_ladd sm ((1048576 : Int64) - sm)
  have r1 := rng64 (sm + ((1048576 : Int64) - sm))
  omega
theorem own_pick_nn (q : Int64) (p : Int32) : 0 ≤ (own_pick q p).toInt := by
  have h1 := c_maskL q 9223372036854775807 63 (by decide) (by decide)
  have h2 := c_maskL q 2097151 21 (by decide) (by decide)
  unfold own_pick; split <;> omega
theorem pd_4 : parseMethodDescriptor "(J)Z" = some ⟨[.long], some .boolean⟩ := by decide +kernel
theorem pd_5 : parseMethodDescriptor "(JI)J" = some ⟨[.long, .int], some .long⟩ := by decide +kernel
theorem pd_6 : parseMethodDescriptor "(J)V" = some ⟨[.long], none⟩ := by decide +kernel
theorem ef_rm0 (m : MethodId) (q0 : Int64) (q1 : Int64) (q2 : Int64) (q3 : Int64) (p4 : Int32) : entryFrame m #[(.long q0), (.long q1), (.long q2), (.long q3), (.int p4)] maxLocals = mkF m 0 #[.val (.long q0), .second, .val (.long q1), .second, .val (.long q2), .second, .val (.long q3), .second, .val (.int p4), .unset, .unset, .unset, .unset, .unset, .unset, .unset, .unset, .unset, .unset, .unset, .unset, .unset, .unset, .unset, .unset] [] := by first | (simp [entryFrame, mkF, argsToLocals, Value.category, maxLocals]; done) | rfl
def Qrm0 (Z : State) (q0 : Int64) (q1 : Int64) (q2 : Int64) (q3 : Int64) (p4 : Int32) (h0 : Heap) (n0 : Nat) (v : Option Value) (h : Heap) (L : List Loc) : Prop := v = some (.int 1) ∧ Fr n0 L
set_option maxRecDepth 65536 in
set_option maxHeartbeats 40000000 in
theorem rm0 (l : Launch) (Z : State) (aw : Array Value) (hw : ∀ d ∈ tables_1, d.before aw Z = true) (ws : List Jvm.Cond) (q0 : Int64) (q1 : Int64) (q2 : Int64) (q3 : Int64) (p4 : Int32) (h0 : Heap) (n0 : Nat) (Z0 : n0 ≤ h0.size) :
    MetFree l x (head1 (Jvm.Cond.code x code maxLocals ret :: ws) room_1) (fun a U => a = #[(.long q0), (.long q1), (.long q2), (.long q3), (.int p4)] ∧ Z.Warmed39 U.vm ∧ U.heap = h0) (fun _ _ _ _ _ => True) (fun _ U o U' => ∃ v L, o = .returned v ∧ Qrm0 Z q0 q1 q2 q3 p4 h0 n0 v U'.heap L ∧ FrameEnd U o U' L room_1.cells room_1.slots) := by
  refine MetFree.of_bodySF (plainFor_of_name pn_0) hisR ?_
  intro p e s m args below meth c s₁ Bd hml0 hP hK
  obtain ⟨rfl, hZ, hh⟩ := hP
  have hx := Bd.exec
  have hby := Bd.bytes
  have hml : c.maxLocals = 25 := hml0
  have hown : s.vm.findClass "com/example/sevenfold/sevenfold/PackedTablesTakePinLaw" = some m.cls := findClass_of_methodNamed Bd.named
  have hnm := (name_of_methodNamed Bd.named Bd.method).1
  have X0 : Stand p l e room_1 s m #[(.long q0), (.long q1), (.long q2), (.long q3), (.int p4)] below meth c s₁ [] 0 0 := Stand.of_body Bd
  have e0 : s₁.heap = h0 := by rw [← hh, Bd.state]; rfl
  have N0 := Fr.nil n0
  have hlk := Bd.notSynchronized
  show OwnGo p.tables e below _ (s₁.setTop (entryFrame m #[(.long q0), (.long q1), (.long q2), (.long q3), (.int p4)] maxLocals))
  rw [ef_rm0 m q0 q1 q2 q3 p4]
  have J180 : ∀ (Tj : State) (Lo : List Loc) (hj : Heap) (sl0 sl1 sl2 sl3 sl4 sl5 sl6 sl7 sl8 sl20 sl21 sl22 : Slot) (ia ib ic sm : Int64) (tt : Addr) (u : Int32) (Xj : Stand p l e room_1 s m #[(.long q0), (.long q1), (.long q2), (.long q3), (.int p4)] below meth c Tj Lo 9 170) (ej : Tj.heap = hj) (Nj : Fr n0 Lo) (Zj : n0 ≤ hj.size) (g_tt : n0 ≤ tt) (Ej : Exa Z hj tt "com/example/sevenfold/sevenfold/PackedTables") (Fj : Fld Z hj tt "com/example/sevenfold/sevenfold/PackedTables" "size" "I" (.int u)) (nia : 0 ≤ ia.toInt) (nib : 0 ≤ ib.toInt) (nic : 0 ≤ ic.toInt) (hsu : OwnSu u sm), OwnGo p.tables e below (fun o U' => ∃ v L, o = .returned v ∧ Qrm0 Z q0 q1 q2 q3 p4 h0 n0 v U'.heap L ∧ FrameEnd s o U' L room_1.cells room_1.slots) (Tj.setTop (mkF m 180 #[sl0, sl1, sl2, sl3, sl4, sl5, sl6, sl7, sl8, .val (.long (1048576 : Int64)), .second, .val (.long ia), .second, .val (.long ib), .second, .val (.long ic), .second, .val (.ref tt), .val (.long sm), .second, sl20, sl21, sl22, .unset, .unset] [])) := by
    intro Tj Lo hj sl0 sl1 sl2 sl3 sl4 sl5 sl6 sl7 sl8 sl20 sl21 sl22 ia ib ic sm tt u Xj ej Nj Zj g_tt Ej Fj nia nib nic hsu
    show OwnGo p.tables e below _ (Tj.setTop (mkF m 180 #[sl0, sl1, sl2, sl3, sl4, sl5, sl6, sl7, sl8, .val (.long (1048576 : Int64)), .second, .val (.long ia), .second, .val (.long ib), .second, .val (.long ic), .second, .val (.ref tt), .val (.long sm), .second, sl20, sl21, sl22, .unset, .unset] []))
    refine OwnGo.of (A := Tj.setTop (mkF m 180 #[sl0, sl1, sl2, sl3, sl4, sl5, sl6, sl7, sl8, .val (.long (1048576 : Int64)), .second, .val (.long ia), .second, .val (.long ib), .second, .val (.long ic), .second, .val (.ref tt), .val (.long sm), .second, sl20, sl21, sl22, .unset, .unset] [])) (B := Tj.setTop (mkF m 191 #[sl0, sl1, sl2, sl3, sl4, sl5, sl6, sl7, sl8, .val (.long (1048576 : Int64)), .second, .val (.long ia), .second, .val (.long ib), .second, .val (.long ic), .second, .val (.ref tt), .val (.long sm), .second, sl20, sl21, sl22, .val (.long ((1048576 : Int64) - sm)), .second] [(.long ((1048576 : Int64) - sm)), (.ref tt)])) (fun t k => ?_) ?_
    · show Steps p.tables e below (Tj.setTop (mkF m 180 #[sl0, sl1, sl2, sl3, sl4, sl5, sl6, sl7, sl8, .val (.long (1048576 : Int64)), .second, .val (.long ia), .second, .val (.long ib), .second, .val (.long ic), .second, .val (.ref tt), .val (.long sm), .second, sl20, sl21, sl22, .unset, .unset] [])) t
      refine XS.lload Xj.here hx rfl (hb hby at_180) rfl ?_
      show Steps p.tables e below (Tj.setTop (mkF m 182 #[sl0, sl1, sl2, sl3, sl4, sl5, sl6, sl7, sl8, .val (.long (1048576 : Int64)), .second, .val (.long ia), .second, .val (.long ib), .second, .val (.long ic), .second, .val (.ref tt), .val (.long sm), .second, sl20, sl21, sl22, .unset, .unset] [(.long (1048576 : Int64))])) t
      refine XS.lload Xj.here hx rfl (hb hby at_182) rfl ?_
      show Steps p.tables e below (Tj.setTop (mkF m 184 #[sl0, sl1, sl2, sl3, sl4, sl5, sl6, sl7, sl8, .val (.long (1048576 : Int64)), .second, .val (.long ia), .second, .val (.long ib), .second, .val (.long ic), .second, .val (.ref tt), .val (.long sm), .second, sl20, sl21, sl22, .unset, .unset] [(.long sm), (.long (1048576 : Int64))])) t
      refine XS.lsub Xj.here hx rfl (hb hby at_184) rfl ?_
      show Steps p.tables e below (Tj.setTop (mkF m 185 #[sl0, sl1, sl2, sl3, sl4, sl5, sl6, sl7, sl8, .val (.long (1048576 : Int64)), .second, .val (.long ia), .second, .val (.long ib), .second, .val (.long ic), .second, .val (.ref tt), .val (.long sm), .second, sl20, sl21, sl22, .unset, .unset] [(.long ((1048576 : Int64) - sm))])) t
      refine XS.lstore Xj.here hx rfl (hb hby at_185) rfl (l' := #[sl0, sl1, sl2, sl3, sl4, sl5, sl6, sl7, sl8, .val (.long (1048576 : Int64)), .second, .val (.long ia), .second, .val (.long ib), .second, .val (.long ic), .second, .val (.ref tt), .val (.long sm), .second, sl20, sl21, sl22, .val (.long ((1048576 : Int64) - sm)), .second]) rfl ?_
      show Steps p.tables e below (Tj.setTop (mkF m 187 #[sl0, sl1, sl2, sl3, sl4, sl5, sl6, sl7, sl8, .val (.long (1048576 : Int64)), .second, .val (.long ia), .second, .val (.long ib), .second, .val (.long ic), .second, .val (.ref tt), .val (.long sm), .second, sl20, sl21, sl22, .val (.long ((1048576 : Int64) - sm)), .second] [])) t
      refine XS.aload Xj.here hx rfl (hb hby at_187) rfl rfl ?_
      show Steps p.tables e below (Tj.setTop (mkF m 189 #[sl0, sl1, sl2, sl3, sl4, sl5, sl6, sl7, sl8, .val (.long (1048576 : Int64)), .second, .val (.long ia), .second, .val (.long ib), .second, .val (.long ic), .second, .val (.ref tt), .val (.long sm), .second, sl20, sl21, sl22, .val (.long ((1048576 : Int64) - sm)), .second] [(.ref tt)])) t
      refine XS.lload Xj.here hx rfl (hb hby at_189) rfl ?_
      exact k
    obtain ⟨cq1, kq1, q1a, q1b, q1c⟩ := isOf hZ ej Ej
    obtain ⟨T1, L1, v1, X1, hQ1, st1⟩ := own_callV Xj hx (y := (⟨"com/example/sevenfold/sevenfold/PackedTables", "take", "(J)Z"⟩ : MethodName)) (z := (⟨"com/example/sevenfold/sevenfold/PackedTables", "take", "(J)Z"⟩ : MethodName)) hown (mvT hZ (hw _ (List.mem_of_getElem? (i := 39) rfl))) (mvT hZ (hw _ (List.mem_of_getElem? (i := 40) rfl))) (notFace_of_selects (args := #[]) (mvT hZ (hw _ (List.mem_of_getElem? (i := 42) rfl)))) (mvT hZ (hw _ (List.mem_of_getElem? (i := 42) rfl))) (mvT hZ (hw _ (List.mem_of_getElem? (i := 41) rfl))) (by decide) (backOf (W := 0) (rm5 l Z aw hw [] tt ((1048576 : Int64) - sm) u hj n0 Zj Ej Fj g_tt) hZ (hw _ (List.mem_of_getElem? (i := 43) rfl)) (hw _ (List.mem_of_getElem? (i := 9) rfl)) (by decide) (by decide)) q1a q1c (g := (mkF m 191 #[sl0, sl1, sl2, sl3, sl4, sl5, sl6, sl7, sl8, .val (.long (1048576 : Int64)), .second, .val (.long ia), .second, .val (.long ib), .second, .val (.long ic), .second, .val (.ref tt), .val (.long sm), .second, sl20, sl21, sl22, .val (.long ((1048576 : Int64) - sm)), .second] [(.long ((1048576 : Int64) - sm)), (.ref tt)])) rfl (by rw [hml]; rfl) (argsL := [(.long ((1048576 : Int64) - sm))]) (rest := []) (lenOf pd_4 rfl) rfl (by show 2 * 0 + _ ≤ _; exact Nat.le_of_eq rfl) (hb hby at_191) rfl ej (by decide) (by decide)
    obtain ⟨rfl, N1q, K1, y1_0, y1_1⟩ := hQ1
    have f2 : Exa Z T1.heap tt "com/example/sevenfold/sevenfold/PackedTables" := Ej.keep K1
    have f3 : n0 ≤ T1.heap.size := Nat.le_trans Zj K1.1
    have N1 := Fr.app Nj N1q
    refine OwnGo.of st1 ?_
    show OwnGo p.tables e below _ (T1.setTop (mkF m 194 #[sl0, sl1, sl2, sl3, sl4, sl5, sl6, sl7, sl8, .val (.long (1048576 : Int64)), .second, .val (.long ia), .second, .val (.long ib), .second, .val (.long ic), .second, .val (.ref tt), .val (.long sm), .second, sl20, sl21, sl22, .val (.long ((1048576 : Int64) - sm)), .second] [(.int (own_tk ((1048576 : Int64) - sm) u))]))
    have hc4 : ¬ ((own_tk ((1048576 : Int64) - sm) u) = (0 : Int32)) := by rw [(own_tk0 hsu (own_rest hsu)).1]; decide
    refine OwnGo.of (A := T1.setTop (mkF m 194 #[sl0, sl1, sl2, sl3, sl4, sl5, sl6, sl7, sl8, .val (.long (1048576 : Int64)), .second, .val (.long ia), .second, .val (.long ib), .second, .val (.long ic), .second, .val (.ref tt), .val (.long sm), .second, sl20, sl21, sl22, .val (.long ((1048576 : Int64) - sm)), .second] [(.int (own_tk ((1048576 : Int64) - sm) u))])) (B := T1.setTop (mkF m 202 #[sl0, sl1, sl2, sl3, sl4, sl5, sl6, sl7, sl8, .val (.long (1048576 : Int64)), .second, .val (.long ia), .second, .val (.long ib), .second, .val (.long ic), .second, .val (.ref tt), .val (.long sm), .second, sl20, sl21, sl22, .val (.long ((1048576 : Int64) - sm)), .second] [(.long (1 : Int64)), (.ref tt)])) (fun t k => ?_) ?_
    · show Steps p.tables e below (T1.setTop (mkF m 194 #[sl0, sl1, sl2, sl3, sl4, sl5, sl6, sl7, sl8, .val (.long (1048576 : Int64)), .second, .val (.long ia), .second, .val (.long ib), .second, .val (.long ic), .second, .val (.ref tt), .val (.long sm), .second, sl20, sl21, sl22, .val (.long ((1048576 : Int64) - sm)), .second] [(.int (own_tk ((1048576 : Int64) - sm) u))])) t
      refine XS.ifYes X1.here hx rfl (pc0 := 194) (pc' := 199) rfl (hb hby at_194) rfl ((if0 _ _).trans (feq hc4).2) (by decide) (by decide) ?_
      show Steps p.tables e below (T1.setTop (mkF m 199 #[sl0, sl1, sl2, sl3, sl4, sl5, sl6, sl7, sl8, .val (.long (1048576 : Int64)), .second, .val (.long ia), .second, .val (.long ib), .second, .val (.long ic), .second, .val (.ref tt), .val (.long sm), .second, sl20, sl21, sl22, .val (.long ((1048576 : Int64) - sm)), .second] [])) t
      refine XS.aload X1.here hx rfl (hb hby at_199) rfl rfl ?_
      show Steps p.tables e below (T1.setTop (mkF m 201 #[sl0, sl1, sl2, sl3, sl4, sl5, sl6, sl7, sl8, .val (.long (1048576 : Int64)), .second, .val (.long ia), .second, .val (.long ib), .second, .val (.long ic), .second, .val (.ref tt), .val (.long sm), .second, sl20, sl21, sl22, .val (.long ((1048576 : Int64) - sm)), .second] [(.ref tt)])) t
      refine XS.lconst X1.here hx rfl (hb hby at_201) ?_
      exact k
    obtain ⟨cq5, kq5, q5a, q5b, q5c⟩ := isOf hZ rfl y1_0
    obtain ⟨T5, L5, v5, X5, hQ5, st5⟩ := own_callV X1 hx (y := (⟨"com/example/sevenfold/sevenfold/PackedTables", "take", "(J)Z"⟩ : MethodName)) (z := (⟨"com/example/sevenfold/sevenfold/PackedTables", "take", "(J)Z"⟩ : MethodName)) hown (mvT hZ (hw _ (List.mem_of_getElem? (i := 39) rfl))) (mvT hZ (hw _ (List.mem_of_getElem? (i := 40) rfl))) (notFace_of_selects (args := #[]) (mvT hZ (hw _ (List.mem_of_getElem? (i := 42) rfl)))) (mvT hZ (hw _ (List.mem_of_getElem? (i := 42) rfl))) (mvT hZ (hw _ (List.mem_of_getElem? (i := 41) rfl))) (by decide) (backOf (W := 0) (rm5 l Z aw hw [] tt (1 : Int64) (own_sz ((1048576 : Int64) - sm) u) T1.heap n0 f3 y1_0 y1_1 g_tt) hZ (hw _ (List.mem_of_getElem? (i := 43) rfl)) (hw _ (List.mem_of_getElem? (i := 9) rfl)) (by decide) (by decide)) q5a q5c (g := (mkF m 202 #[sl0, sl1, sl2, sl3, sl4, sl5, sl6, sl7, sl8, .val (.long (1048576 : Int64)), .second, .val (.long ia), .second, .val (.long ib), .second, .val (.long ic), .second, .val (.ref tt), .val (.long sm), .second, sl20, sl21, sl22, .val (.long ((1048576 : Int64) - sm)), .second] [(.long (1 : Int64)), (.ref tt)])) rfl (by rw [hml]; rfl) (argsL := [(.long (1 : Int64))]) (rest := []) (lenOf pd_4 rfl) rfl (by show 2 * 0 + _ ≤ _; exact Nat.le_of_eq rfl) (hb hby at_202) rfl rfl (by decide) (by decide)
    obtain ⟨rfl, N5q, K5, y5_0, y5_1⟩ := hQ5
    have f6 : Exa Z T5.heap tt "com/example/sevenfold/sevenfold/PackedTables" := y1_0.keep K5
    have f7 : n0 ≤ T5.heap.size := Nat.le_trans f3 K5.1
    have N5 := Fr.app N1 N5q
    refine OwnGo.of st5 ?_
    show OwnGo p.tables e below _ (T5.setTop (mkF m 205 #[sl0, sl1, sl2, sl3, sl4, sl5, sl6, sl7, sl8, .val (.long (1048576 : Int64)), .second, .val (.long ia), .second, .val (.long ib), .second, .val (.long ic), .second, .val (.ref tt), .val (.long sm), .second, sl20, sl21, sl22, .val (.long ((1048576 : Int64) - sm)), .second] [(.int (own_tk (1 : Int64) (own_sz ((1048576 : Int64) - sm) u)))]))
    have hc8 : (own_tk (1 : Int64) (own_sz ((1048576 : Int64) - sm) u)) = (0 : Int32) := own_last hsu
    refine OwnGo.of (A := T5.setTop (mkF m 205 #[sl0, sl1, sl2, sl3, sl4, sl5, sl6, sl7, sl8, .val (.long (1048576 : Int64)), .second, .val (.long ia), .second, .val (.long ib), .second, .val (.long ic), .second, .val (.ref tt), .val (.long sm), .second, sl20, sl21, sl22, .val (.long ((1048576 : Int64) - sm)), .second] [(.int (own_tk (1 : Int64) (own_sz ((1048576 : Int64) - sm) u)))])) (B := T5.setTop (mkF m 211 #[sl0, sl1, sl2, sl3, sl4, sl5, sl6, sl7, sl8, .val (.long (1048576 : Int64)), .second, .val (.long ia), .second, .val (.long ib), .second, .val (.long ic), .second, .val (.ref tt), .val (.long sm), .second, sl20, sl21, sl22, .val (.long ((1048576 : Int64) - sm)), .second] [(.int (1 : Int32))])) (fun t k => ?_) ?_
    · show Steps p.tables e below (T5.setTop (mkF m 205 #[sl0, sl1, sl2, sl3, sl4, sl5, sl6, sl7, sl8, .val (.long (1048576 : Int64)), .second, .val (.long ia), .second, .val (.long ib), .second, .val (.long ic), .second, .val (.ref tt), .val (.long sm), .second, sl20, sl21, sl22, .val (.long ((1048576 : Int64) - sm)), .second] [(.int (own_tk (1 : Int64) (own_sz ((1048576 : Int64) - sm) u)))])) t
      refine XS.ifYes X5.here hx rfl (pc0 := 205) (pc' := 210) rfl (hb hby at_205) rfl ((if0 _ _).trans (teq hc8).1) (by decide) (by decide) ?_
      show Steps p.tables e below (T5.setTop (mkF m 210 #[sl0, sl1, sl2, sl3, sl4, sl5, sl6, sl7, sl8, .val (.long (1048576 : Int64)), .second, .val (.long ia), .second, .val (.long ib), .second, .val (.long ic), .second, .val (.ref tt), .val (.long sm), .second, sl20, sl21, sl22, .val (.long ((1048576 : Int64) - sm)), .second] [])) t
      refine XS.iconst X5.here hx rfl (hb hby at_210) ?_
      exact k
    obtain ⟨fs, hr, hrun, hended, hW, hsame⟩ := X5.leave (v := some (.int (nar .boolean (1 : Int32)))) (fun h => by rw [Bd.returns] at h; cases h) hlk
    refine ⟨_, _, ?_, hrun, hended, _, _, rfl, ?_, ⟨_, rfl⟩, hW, hsame.mono (by decide) (by decide)⟩
    · show Steps p.tables e below (T5.setTop (mkF m 211 #[sl0, sl1, sl2, sl3, sl4, sl5, sl6, sl7, sl8, .val (.long (1048576 : Int64)), .second, .val (.long ia), .second, .val (.long ib), .second, .val (.long ic), .second, .val (.ref tt), .val (.long sm), .second, sl20, sl21, sl22, .val (.long ((1048576 : Int64) - sm)), .second] [(.int (1 : Int32))])) _
      exact retN X5 hx (t := .boolean) Bd.returns (by simp) (hb hby at_211) hr
    · show Qrm0 Z q0 q1 q2 q3 p4 h0 n0 _ (T5.setFrames fs).heap _
      rw [show (T5.setFrames fs).heap = T5.heap from rfl]
      exact ⟨rfl, N5⟩
  have J136 : ∀ (Tj : State) (Lo : List Loc) (hj : Heap) (sl0 sl1 sl2 sl3 sl4 sl5 sl6 sl7 sl8 sl20 sl21 : Slot) (ia ib ic sm : Int64) (tt : Addr) (u : Int32) (Xj : Stand p l e room_1 s m #[(.long q0), (.long q1), (.long q2), (.long q3), (.int p4)] below meth c Tj Lo 9 170) (ej : Tj.heap = hj) (Nj : Fr n0 Lo) (Zj : n0 ≤ hj.size) (g_tt : n0 ≤ tt) (Ej : Exa Z hj tt "com/example/sevenfold/sevenfold/PackedTables") (Fj : Fld Z hj tt "com/example/sevenfold/sevenfold/PackedTables" "size" "I" (.int u)) (nia : 0 ≤ ia.toInt) (nib : 0 ≤ ib.toInt) (nic : 0 ≤ ic.toInt) (hsu : OwnSu u sm), OwnGo p.tables e below (fun o U' => ∃ v L, o = .returned v ∧ Qrm0 Z q0 q1 q2 q3 p4 h0 n0 v U'.heap L ∧ FrameEnd s o U' L room_1.cells room_1.slots) (Tj.setTop (mkF m 136 #[sl0, sl1, sl2, sl3, sl4, sl5, sl6, sl7, sl8, .val (.long (1048576 : Int64)), .second, .val (.long ia), .second, .val (.long ib), .second, .val (.long ic), .second, .val (.ref tt), .val (.long sm), .second, sl20, sl21, .unset, .unset, .unset] [])) := by
    intro Tj Lo hj sl0 sl1 sl2 sl3 sl4 sl5 sl6 sl7 sl8 sl20 sl21 ia ib ic sm tt u Xj ej Nj Zj g_tt Ej Fj nia nib nic hsu
    show OwnGo p.tables e below _ (Tj.setTop (mkF m 136 #[sl0, sl1, sl2, sl3, sl4, sl5, sl6, sl7, sl8, .val (.long (1048576 : Int64)), .second, .val (.long ia), .second, .val (.long ib), .second, .val (.long ic), .second, .val (.ref tt), .val (.long sm), .second, sl20, sl21, .unset, .unset, .unset] []))
    refine OwnGo.of (A := Tj.setTop (mkF m 136 #[sl0, sl1, sl2, sl3, sl4, sl5, sl6, sl7, sl8, .val (.long (1048576 : Int64)), .second, .val (.long ia), .second, .val (.long ib), .second, .val (.long ic), .second, .val (.ref tt), .val (.long sm), .second, sl20, sl21, .unset, .unset, .unset] [])) (B := Tj.setTop (mkF m 144 #[sl0, sl1, sl2, sl3, sl4, sl5, sl6, sl7, sl8, .val (.long (1048576 : Int64)), .second, .val (.long ia), .second, .val (.long ib), .second, .val (.long ic), .second, .val (.ref tt), .val (.long sm), .second, sl20, sl21, .unset, .unset, .unset] [(.int (lcmpW ic ((1048576 : Int64) - sm)))])) (fun t k => ?_) ?_
    · show Steps p.tables e below (Tj.setTop (mkF m 136 #[sl0, sl1, sl2, sl3, sl4, sl5, sl6, sl7, sl8, .val (.long (1048576 : Int64)), .second, .val (.long ia), .second, .val (.long ib), .second, .val (.long ic), .second, .val (.ref tt), .val (.long sm), .second, sl20, sl21, .unset, .unset, .unset] [])) t
      refine XS.lload Xj.here hx rfl (hb hby at_136) rfl ?_
      show Steps p.tables e below (Tj.setTop (mkF m 138 #[sl0, sl1, sl2, sl3, sl4, sl5, sl6, sl7, sl8, .val (.long (1048576 : Int64)), .second, .val (.long ia), .second, .val (.long ib), .second, .val (.long ic), .second, .val (.ref tt), .val (.long sm), .second, sl20, sl21, .unset, .unset, .unset] [(.long ic)])) t
      refine XS.lload Xj.here hx rfl (hb hby at_138) rfl ?_
      show Steps p.tables e below (Tj.setTop (mkF m 140 #[sl0, sl1, sl2, sl3, sl4, sl5, sl6, sl7, sl8, .val (.long (1048576 : Int64)), .second, .val (.long ia), .second, .val (.long ib), .second, .val (.long ic), .second, .val (.ref tt), .val (.long sm), .second, sl20, sl21, .unset, .unset, .unset] [(.long (1048576 : Int64)), (.long ic)])) t
      refine XS.lload Xj.here hx rfl (hb hby at_140) rfl ?_
      show Steps p.tables e below (Tj.setTop (mkF m 142 #[sl0, sl1, sl2, sl3, sl4, sl5, sl6, sl7, sl8, .val (.long (1048576 : Int64)), .second, .val (.long ia), .second, .val (.long ib), .second, .val (.long ic), .second, .val (.ref tt), .val (.long sm), .second, sl20, sl21, .unset, .unset, .unset] [(.long sm), (.long (1048576 : Int64)), (.long ic)])) t
      refine XS.lsub Xj.here hx rfl (hb hby at_142) rfl ?_
      show Steps p.tables e below (Tj.setTop (mkF m 143 #[sl0, sl1, sl2, sl3, sl4, sl5, sl6, sl7, sl8, .val (.long (1048576 : Int64)), .second, .val (.long ia), .second, .val (.long ib), .second, .val (.long ic), .second, .val (.ref tt), .val (.long sm), .second, sl20, sl21, .unset, .unset, .unset] [(.long ((1048576 : Int64) - sm)), (.long ic)])) t
      refine XS.lcmp Xj.here hx rfl (hb hby at_143) rfl ?_
      exact k
    by_cases hc10 : (0 : Int32) < (lcmpW ic ((1048576 : Int64) - sm))
    · refine OwnGo.of (A := Tj.setTop (mkF m 144 #[sl0, sl1, sl2, sl3, sl4, sl5, sl6, sl7, sl8, .val (.long (1048576 : Int64)), .second, .val (.long ia), .second, .val (.long ib), .second, .val (.long ic), .second, .val (.ref tt), .val (.long sm), .second, sl20, sl21, .unset, .unset, .unset] [(.int (lcmpW ic ((1048576 : Int64) - sm)))])) (B := Tj.setTop (mkF m 158 #[sl0, sl1, sl2, sl3, sl4, sl5, sl6, sl7, sl8, .val (.long (1048576 : Int64)), .second, .val (.long ia), .second, .val (.long ib), .second, .val (.long ic), .second, .val (.ref tt), .val (.long sm), .second, sl20, sl21, .val (.int (0 : Int32)), .unset, .unset] [(.long ic), (.ref tt)])) (fun t k => ?_) ?_
      · show Steps p.tables e below (Tj.setTop (mkF m 144 #[sl0, sl1, sl2, sl3, sl4, sl5, sl6, sl7, sl8, .val (.long (1048576 : Int64)), .second, .val (.long ia), .second, .val (.long ib), .second, .val (.long ic), .second, .val (.ref tt), .val (.long sm), .second, sl20, sl21, .unset, .unset, .unset] [(.int (lcmpW ic ((1048576 : Int64) - sm)))])) t
        refine XS.ifYes Xj.here hx rfl (pc0 := 144) (pc' := 151) rfl (hb hby at_144) rfl ((if0 _ _).trans (tlt hc10).2.2.1) (by decide) (by decide) ?_
        show Steps p.tables e below (Tj.setTop (mkF m 151 #[sl0, sl1, sl2, sl3, sl4, sl5, sl6, sl7, sl8, .val (.long (1048576 : Int64)), .second, .val (.long ia), .second, .val (.long ib), .second, .val (.long ic), .second, .val (.ref tt), .val (.long sm), .second, sl20, sl21, .unset, .unset, .unset] [])) t
        refine XS.iconst Xj.here hx rfl (hb hby at_151) ?_
        show Steps p.tables e below (Tj.setTop (mkF m 152 #[sl0, sl1, sl2, sl3, sl4, sl5, sl6, sl7, sl8, .val (.long (1048576 : Int64)), .second, .val (.long ia), .second, .val (.long ib), .second, .val (.long ic), .second, .val (.ref tt), .val (.long sm), .second, sl20, sl21, .unset, .unset, .unset] [(.int (0 : Int32))])) t
        refine XS.istore Xj.here hx rfl (hb hby at_152) rfl (l' := #[sl0, sl1, sl2, sl3, sl4, sl5, sl6, sl7, sl8, .val (.long (1048576 : Int64)), .second, .val (.long ia), .second, .val (.long ib), .second, .val (.long ic), .second, .val (.ref tt), .val (.long sm), .second, sl20, sl21, .val (.int (0 : Int32)), .unset, .unset]) rfl ?_
        show Steps p.tables e below (Tj.setTop (mkF m 154 #[sl0, sl1, sl2, sl3, sl4, sl5, sl6, sl7, sl8, .val (.long (1048576 : Int64)), .second, .val (.long ia), .second, .val (.long ib), .second, .val (.long ic), .second, .val (.ref tt), .val (.long sm), .second, sl20, sl21, .val (.int (0 : Int32)), .unset, .unset] [])) t
        refine XS.aload Xj.here hx rfl (hb hby at_154) rfl rfl ?_
        show Steps p.tables e below (Tj.setTop (mkF m 156 #[sl0, sl1, sl2, sl3, sl4, sl5, sl6, sl7, sl8, .val (.long (1048576 : Int64)), .second, .val (.long ia), .second, .val (.long ib), .second, .val (.long ic), .second, .val (.ref tt), .val (.long sm), .second, sl20, sl21, .val (.int (0 : Int32)), .unset, .unset] [(.ref tt)])) t
        refine XS.lload Xj.here hx rfl (hb hby at_156) rfl ?_
        exact k
      obtain ⟨cq11, kq11, q11a, q11b, q11c⟩ := isOf hZ ej Ej
      obtain ⟨T11, L11, v11, X11, hQ11, st11⟩ := own_callV Xj hx (y := (⟨"com/example/sevenfold/sevenfold/PackedTables", "take", "(J)Z"⟩ : MethodName)) (z := (⟨"com/example/sevenfold/sevenfold/PackedTables", "take", "(J)Z"⟩ : MethodName)) hown (mvT hZ (hw _ (List.mem_of_getElem? (i := 39) rfl))) (mvT hZ (hw _ (List.mem_of_getElem? (i := 40) rfl))) (notFace_of_selects (args := #[]) (mvT hZ (hw _ (List.mem_of_getElem? (i := 42) rfl)))) (mvT hZ (hw _ (List.mem_of_getElem? (i := 42) rfl))) (mvT hZ (hw _ (List.mem_of_getElem? (i := 41) rfl))) (by decide) (backOf (W := 0) (rm5 l Z aw hw [] tt ic u hj n0 Zj Ej Fj g_tt) hZ (hw _ (List.mem_of_getElem? (i := 43) rfl)) (hw _ (List.mem_of_getElem? (i := 9) rfl)) (by decide) (by decide)) q11a q11c (g := (mkF m 158 #[sl0, sl1, sl2, sl3, sl4, sl5, sl6, sl7, sl8, .val (.long (1048576 : Int64)), .second, .val (.long ia), .second, .val (.long ib), .second, .val (.long ic), .second, .val (.ref tt), .val (.long sm), .second, sl20, sl21, .val (.int (0 : Int32)), .unset, .unset] [(.long ic), (.ref tt)])) rfl (by rw [hml]; rfl) (argsL := [(.long ic)]) (rest := []) (lenOf pd_4 rfl) rfl (by show 2 * 0 + _ ≤ _; exact Nat.le_of_eq rfl) (hb hby at_158) rfl ej (by decide) (by decide)
      obtain ⟨rfl, N11q, K11, y11_0, y11_1⟩ := hQ11
      have f12 : Exa Z T11.heap tt "com/example/sevenfold/sevenfold/PackedTables" := Ej.keep K11
      have f13 : n0 ≤ T11.heap.size := Nat.le_trans Zj K11.1
      have N11 := Fr.app Nj N11q
      refine OwnGo.of st11 ?_
      show OwnGo p.tables e below _ (T11.setTop (mkF m 161 #[sl0, sl1, sl2, sl3, sl4, sl5, sl6, sl7, sl8, .val (.long (1048576 : Int64)), .second, .val (.long ia), .second, .val (.long ib), .second, .val (.long ic), .second, .val (.ref tt), .val (.long sm), .second, sl20, sl21, .val (.int (0 : Int32)), .unset, .unset] [(.int (own_tk ic u))]))
      refine OwnGo.of (A := T11.setTop (mkF m 161 #[sl0, sl1, sl2, sl3, sl4, sl5, sl6, sl7, sl8, .val (.long (1048576 : Int64)), .second, .val (.long ia), .second, .val (.long ib), .second, .val (.long ic), .second, .val (.ref tt), .val (.long sm), .second, sl20, sl21, .val (.int (0 : Int32)), .unset, .unset] [(.int (own_tk ic u))])) (B := T11.setTop (mkF m 163 #[sl0, sl1, sl2, sl3, sl4, sl5, sl6, sl7, sl8, .val (.long (1048576 : Int64)), .second, .val (.long ia), .second, .val (.long ib), .second, .val (.long ic), .second, .val (.ref tt), .val (.long sm), .second, sl20, sl21, .val (.int (0 : Int32)), .unset, .unset] [(.int (0 : Int32)), (.int (own_tk ic u))])) (fun t k => ?_) ?_
      · show Steps p.tables e below (T11.setTop (mkF m 161 #[sl0, sl1, sl2, sl3, sl4, sl5, sl6, sl7, sl8, .val (.long (1048576 : Int64)), .second, .val (.long ia), .second, .val (.long ib), .second, .val (.long ic), .second, .val (.ref tt), .val (.long sm), .second, sl20, sl21, .val (.int (0 : Int32)), .unset, .unset] [(.int (own_tk ic u))])) t
        refine XS.iload X11.here hx rfl (hb hby at_161) rfl ?_
        exact k
      have hc14 : (own_tk ic u) = (0 : Int32) := (own_tk1 hsu hc10).1
      refine OwnGo.of (A := T11.setTop (mkF m 163 #[sl0, sl1, sl2, sl3, sl4, sl5, sl6, sl7, sl8, .val (.long (1048576 : Int64)), .second, .val (.long ia), .second, .val (.long ib), .second, .val (.long ic), .second, .val (.ref tt), .val (.long sm), .second, sl20, sl21, .val (.int (0 : Int32)), .unset, .unset] [(.int (0 : Int32)), (.int (own_tk ic u))])) (B := T11.setTop (mkF m 170 #[sl0, sl1, sl2, sl3, sl4, sl5, sl6, sl7, sl8, .val (.long (1048576 : Int64)), .second, .val (.long ia), .second, .val (.long ib), .second, .val (.long ic), .second, .val (.ref tt), .val (.long sm), .second, sl20, sl21, .val (.int (0 : Int32)), .unset, .unset] [(.int (0 : Int32))])) (fun t k => ?_) ?_
      · show Steps p.tables e below (T11.setTop (mkF m 163 #[sl0, sl1, sl2, sl3, sl4, sl5, sl6, sl7, sl8, .val (.long (1048576 : Int64)), .second, .val (.long ia), .second, .val (.long ib), .second, .val (.long ic), .second, .val (.ref tt), .val (.long sm), .second, sl20, sl21, .val (.int (0 : Int32)), .unset, .unset] [(.int (0 : Int32)), (.int (own_tk ic u))])) t
        refine XS.icmpYes X11.here hx rfl (pc0 := 163) (pc' := 168) rfl (hb hby at_163) rfl (teq hc14).1 (by decide) (by decide) ?_
        show Steps p.tables e below (T11.setTop (mkF m 168 #[sl0, sl1, sl2, sl3, sl4, sl5, sl6, sl7, sl8, .val (.long (1048576 : Int64)), .second, .val (.long ia), .second, .val (.long ib), .second, .val (.long ic), .second, .val (.ref tt), .val (.long sm), .second, sl20, sl21, .val (.int (0 : Int32)), .unset, .unset] [])) t
        refine XS.iload X11.here hx rfl (hb hby at_168) rfl ?_
        exact k
      have hc15 : (0 : Int32) = (0 : Int32) := rfl
      refine OwnGo.of (A := T11.setTop (mkF m 170 #[sl0, sl1, sl2, sl3, sl4, sl5, sl6, sl7, sl8, .val (.long (1048576 : Int64)), .second, .val (.long ia), .second, .val (.long ib), .second, .val (.long ic), .second, .val (.ref tt), .val (.long sm), .second, sl20, sl21, .val (.int (0 : Int32)), .unset, .unset] [(.int (0 : Int32))])) (B := T11.setTop (mkF m 180 #[sl0, sl1, sl2, sl3, sl4, sl5, sl6, sl7, sl8, .val (.long (1048576 : Int64)), .second, .val (.long ia), .second, .val (.long ib), .second, .val (.long ic), .second, .val (.ref tt), .val (.long sm), .second, sl20, sl21, .val (.int (0 : Int32)), .unset, .unset] [])) (fun t k => ?_) ?_
      · show Steps p.tables e below (T11.setTop (mkF m 170 #[sl0, sl1, sl2, sl3, sl4, sl5, sl6, sl7, sl8, .val (.long (1048576 : Int64)), .second, .val (.long ia), .second, .val (.long ib), .second, .val (.long ic), .second, .val (.ref tt), .val (.long sm), .second, sl20, sl21, .val (.int (0 : Int32)), .unset, .unset] [(.int (0 : Int32))])) t
        refine XS.ifYes X11.here hx rfl (pc0 := 170) (pc' := 180) rfl (hb hby at_170) rfl ((if0 _ _).trans (teq hc15).1) (by decide) (by decide) ?_
        exact k
      exact J180 T11 _ _ (sl0) (sl1) (sl2) (sl3) (sl4) (sl5) (sl6) (sl7) (sl8) (sl20) (sl21) (.val (.int (0 : Int32))) ia ib ic sm tt (own_sz ic u) X11 rfl N11 f13 g_tt y11_0 y11_1 nia nib nic (own_su1 hsu hc10)
    · refine OwnGo.of (A := Tj.setTop (mkF m 144 #[sl0, sl1, sl2, sl3, sl4, sl5, sl6, sl7, sl8, .val (.long (1048576 : Int64)), .second, .val (.long ia), .second, .val (.long ib), .second, .val (.long ic), .second, .val (.ref tt), .val (.long sm), .second, sl20, sl21, .unset, .unset, .unset] [(.int (lcmpW ic ((1048576 : Int64) - sm)))])) (B := Tj.setTop (mkF m 158 #[sl0, sl1, sl2, sl3, sl4, sl5, sl6, sl7, sl8, .val (.long (1048576 : Int64)), .second, .val (.long ia), .second, .val (.long ib), .second, .val (.long ic), .second, .val (.ref tt), .val (.long sm), .second, sl20, sl21, .val (.int (1 : Int32)), .unset, .unset] [(.long ic), (.ref tt)])) (fun t k => ?_) ?_
      · show Steps p.tables e below (Tj.setTop (mkF m 144 #[sl0, sl1, sl2, sl3, sl4, sl5, sl6, sl7, sl8, .val (.long (1048576 : Int64)), .second, .val (.long ia), .second, .val (.long ib), .second, .val (.long ic), .second, .val (.ref tt), .val (.long sm), .second, sl20, sl21, .unset, .unset, .unset] [(.int (lcmpW ic ((1048576 : Int64) - sm)))])) t
        refine XS.ifNo Xj.here hx rfl (hb hby at_144) rfl ((if0 _ _).trans (flt hc10).2.2.1) ?_
        show Steps p.tables e below (Tj.setTop (mkF m 147 #[sl0, sl1, sl2, sl3, sl4, sl5, sl6, sl7, sl8, .val (.long (1048576 : Int64)), .second, .val (.long ia), .second, .val (.long ib), .second, .val (.long ic), .second, .val (.ref tt), .val (.long sm), .second, sl20, sl21, .unset, .unset, .unset] [])) t
        refine XS.iconst Xj.here hx rfl (hb hby at_147) ?_
        show Steps p.tables e below (Tj.setTop (mkF m 148 #[sl0, sl1, sl2, sl3, sl4, sl5, sl6, sl7, sl8, .val (.long (1048576 : Int64)), .second, .val (.long ia), .second, .val (.long ib), .second, .val (.long ic), .second, .val (.ref tt), .val (.long sm), .second, sl20, sl21, .unset, .unset, .unset] [(.int (1 : Int32))])) t
        refine XS.goto Xj.here hx rfl (pc0 := 148) (pc' := 152) rfl (hb hby at_148) (by decide) (by decide) ?_
        show Steps p.tables e below (Tj.setTop (mkF m 152 #[sl0, sl1, sl2, sl3, sl4, sl5, sl6, sl7, sl8, .val (.long (1048576 : Int64)), .second, .val (.long ia), .second, .val (.long ib), .second, .val (.long ic), .second, .val (.ref tt), .val (.long sm), .second, sl20, sl21, .unset, .unset, .unset] [(.int (1 : Int32))])) t
        refine XS.istore Xj.here hx rfl (hb hby at_152) rfl (l' := #[sl0, sl1, sl2, sl3, sl4, sl5, sl6, sl7, sl8, .val (.long (1048576 : Int64)), .second, .val (.long ia), .second, .val (.long ib), .second, .val (.long ic), .second, .val (.ref tt), .val (.long sm), .second, sl20, sl21, .val (.int (1 : Int32)), .unset, .unset]) rfl ?_
        show Steps p.tables e below (Tj.setTop (mkF m 154 #[sl0, sl1, sl2, sl3, sl4, sl5, sl6, sl7, sl8, .val (.long (1048576 : Int64)), .second, .val (.long ia), .second, .val (.long ib), .second, .val (.long ic), .second, .val (.ref tt), .val (.long sm), .second, sl20, sl21, .val (.int (1 : Int32)), .unset, .unset] [])) t
        refine XS.aload Xj.here hx rfl (hb hby at_154) rfl rfl ?_
        show Steps p.tables e below (Tj.setTop (mkF m 156 #[sl0, sl1, sl2, sl3, sl4, sl5, sl6, sl7, sl8, .val (.long (1048576 : Int64)), .second, .val (.long ia), .second, .val (.long ib), .second, .val (.long ic), .second, .val (.ref tt), .val (.long sm), .second, sl20, sl21, .val (.int (1 : Int32)), .unset, .unset] [(.ref tt)])) t
        refine XS.lload Xj.here hx rfl (hb hby at_156) rfl ?_
        exact k
      obtain ⟨cq16, kq16, q16a, q16b, q16c⟩ := isOf hZ ej Ej
      obtain ⟨T16, L16, v16, X16, hQ16, st16⟩ := own_callV Xj hx (y := (⟨"com/example/sevenfold/sevenfold/PackedTables", "take", "(J)Z"⟩ : MethodName)) (z := (⟨"com/example/sevenfold/sevenfold/PackedTables", "take", "(J)Z"⟩ : MethodName)) hown (mvT hZ (hw _ (List.mem_of_getElem? (i := 39) rfl))) (mvT hZ (hw _ (List.mem_of_getElem? (i := 40) rfl))) (notFace_of_selects (args := #[]) (mvT hZ (hw _ (List.mem_of_getElem? (i := 42) rfl)))) (mvT hZ (hw _ (List.mem_of_getElem? (i := 42) rfl))) (mvT hZ (hw _ (List.mem_of_getElem? (i := 41) rfl))) (by decide) (backOf (W := 0) (rm5 l Z aw hw [] tt ic u hj n0 Zj Ej Fj g_tt) hZ (hw _ (List.mem_of_getElem? (i := 43) rfl)) (hw _ (List.mem_of_getElem? (i := 9) rfl)) (by decide) (by decide)) q16a q16c (g := (mkF m 158 #[sl0, sl1, sl2, sl3, sl4, sl5, sl6, sl7, sl8, .val (.long (1048576 : Int64)), .second, .val (.long ia), .second, .val (.long ib), .second, .val (.long ic), .second, .val (.ref tt), .val (.long sm), .second, sl20, sl21, .val (.int (1 : Int32)), .unset, .unset] [(.long ic), (.ref tt)])) rfl (by rw [hml]; rfl) (argsL := [(.long ic)]) (rest := []) (lenOf pd_4 rfl) rfl (by show 2 * 0 + _ ≤ _; exact Nat.le_of_eq rfl) (hb hby at_158) rfl ej (by decide) (by decide)
      obtain ⟨rfl, N16q, K16, y16_0, y16_1⟩ := hQ16
      have f17 : Exa Z T16.heap tt "com/example/sevenfold/sevenfold/PackedTables" := Ej.keep K16
      have f18 : n0 ≤ T16.heap.size := Nat.le_trans Zj K16.1
      have N16 := Fr.app Nj N16q
      refine OwnGo.of st16 ?_
      show OwnGo p.tables e below _ (T16.setTop (mkF m 161 #[sl0, sl1, sl2, sl3, sl4, sl5, sl6, sl7, sl8, .val (.long (1048576 : Int64)), .second, .val (.long ia), .second, .val (.long ib), .second, .val (.long ic), .second, .val (.ref tt), .val (.long sm), .second, sl20, sl21, .val (.int (1 : Int32)), .unset, .unset] [(.int (own_tk ic u))]))
      refine OwnGo.of (A := T16.setTop (mkF m 161 #[sl0, sl1, sl2, sl3, sl4, sl5, sl6, sl7, sl8, .val (.long (1048576 : Int64)), .second, .val (.long ia), .second, .val (.long ib), .second, .val (.long ic), .second, .val (.ref tt), .val (.long sm), .second, sl20, sl21, .val (.int (1 : Int32)), .unset, .unset] [(.int (own_tk ic u))])) (B := T16.setTop (mkF m 163 #[sl0, sl1, sl2, sl3, sl4, sl5, sl6, sl7, sl8, .val (.long (1048576 : Int64)), .second, .val (.long ia), .second, .val (.long ib), .second, .val (.long ic), .second, .val (.ref tt), .val (.long sm), .second, sl20, sl21, .val (.int (1 : Int32)), .unset, .unset] [(.int (1 : Int32)), (.int (own_tk ic u))])) (fun t k => ?_) ?_
      · show Steps p.tables e below (T16.setTop (mkF m 161 #[sl0, sl1, sl2, sl3, sl4, sl5, sl6, sl7, sl8, .val (.long (1048576 : Int64)), .second, .val (.long ia), .second, .val (.long ib), .second, .val (.long ic), .second, .val (.ref tt), .val (.long sm), .second, sl20, sl21, .val (.int (1 : Int32)), .unset, .unset] [(.int (own_tk ic u))])) t
        refine XS.iload X16.here hx rfl (hb hby at_161) rfl ?_
        exact k
      have hc19 : (own_tk ic u) = (1 : Int32) := (own_tk0 hsu hc10).1
      refine OwnGo.of (A := T16.setTop (mkF m 163 #[sl0, sl1, sl2, sl3, sl4, sl5, sl6, sl7, sl8, .val (.long (1048576 : Int64)), .second, .val (.long ia), .second, .val (.long ib), .second, .val (.long ic), .second, .val (.ref tt), .val (.long sm), .second, sl20, sl21, .val (.int (1 : Int32)), .unset, .unset] [(.int (1 : Int32)), (.int (own_tk ic u))])) (B := T16.setTop (mkF m 170 #[sl0, sl1, sl2, sl3, sl4, sl5, sl6, sl7, sl8, .val (.long (1048576 : Int64)), .second, .val (.long ia), .second, .val (.long ib), .second, .val (.long ic), .second, .val (.ref tt), .val (.long sm), .second, sl20, sl21, .val (.int (1 : Int32)), .unset, .unset] [(.int (1 : Int32))])) (fun t k => ?_) ?_
      · show Steps p.tables e below (T16.setTop (mkF m 163 #[sl0, sl1, sl2, sl3, sl4, sl5, sl6, sl7, sl8, .val (.long (1048576 : Int64)), .second, .val (.long ia), .second, .val (.long ib), .second, .val (.long ic), .second, .val (.ref tt), .val (.long sm), .second, sl20, sl21, .val (.int (1 : Int32)), .unset, .unset] [(.int (1 : Int32)), (.int (own_tk ic u))])) t
        refine XS.icmpYes X16.here hx rfl (pc0 := 163) (pc' := 168) rfl (hb hby at_163) rfl (teq hc19).1 (by decide) (by decide) ?_
        show Steps p.tables e below (T16.setTop (mkF m 168 #[sl0, sl1, sl2, sl3, sl4, sl5, sl6, sl7, sl8, .val (.long (1048576 : Int64)), .second, .val (.long ia), .second, .val (.long ib), .second, .val (.long ic), .second, .val (.ref tt), .val (.long sm), .second, sl20, sl21, .val (.int (1 : Int32)), .unset, .unset] [])) t
        refine XS.iload X16.here hx rfl (hb hby at_168) rfl ?_
        exact k
      have hc20 : ¬ ((1 : Int32) = (0 : Int32)) := by decide
      refine OwnGo.of (A := T16.setTop (mkF m 170 #[sl0, sl1, sl2, sl3, sl4, sl5, sl6, sl7, sl8, .val (.long (1048576 : Int64)), .second, .val (.long ia), .second, .val (.long ib), .second, .val (.long ic), .second, .val (.ref tt), .val (.long sm), .second, sl20, sl21, .val (.int (1 : Int32)), .unset, .unset] [(.int (1 : Int32))])) (B := T16.setTop (mkF m 180 #[sl0, sl1, sl2, sl3, sl4, sl5, sl6, sl7, sl8, .val (.long (1048576 : Int64)), .second, .val (.long ia), .second, .val (.long ib), .second, .val (.long ic), .second, .val (.ref tt), .val (.long (sm + ic)), .second, sl20, sl21, .val (.int (1 : Int32)), .unset, .unset] [])) (fun t k => ?_) ?_
      · show Steps p.tables e below (T16.setTop (mkF m 170 #[sl0, sl1, sl2, sl3, sl4, sl5, sl6, sl7, sl8, .val (.long (1048576 : Int64)), .second, .val (.long ia), .second, .val (.long ib), .second, .val (.long ic), .second, .val (.ref tt), .val (.long sm), .second, sl20, sl21, .val (.int (1 : Int32)), .unset, .unset] [(.int (1 : Int32))])) t
        refine XS.ifNo X16.here hx rfl (hb hby at_170) rfl ((if0 _ _).trans (feq hc20).1) ?_
        show Steps p.tables e below (T16.setTop (mkF m 173 #[sl0, sl1, sl2, sl3, sl4, sl5, sl6, sl7, sl8, .val (.long (1048576 : Int64)), .second, .val (.long ia), .second, .val (.long ib), .second, .val (.long ic), .second, .val (.ref tt), .val (.long sm), .second, sl20, sl21, .val (.int (1 : Int32)), .unset, .unset] [])) t
        refine XS.lload X16.here hx rfl (hb hby at_173) rfl ?_
        show Steps p.tables e below (T16.setTop (mkF m 175 #[sl0, sl1, sl2, sl3, sl4, sl5, sl6, sl7, sl8, .val (.long (1048576 : Int64)), .second, .val (.long ia), .second, .val (.long ib), .second, .val (.long ic), .second, .val (.ref tt), .val (.long sm), .second, sl20, sl21, .val (.int (1 : Int32)), .unset, .unset] [(.long sm)])) t
        refine XS.lload X16.here hx rfl (hb hby at_175) rfl ?_
        show Steps p.tables e below (T16.setTop (mkF m 177 #[sl0, sl1, sl2, sl3, sl4, sl5, sl6, sl7, sl8, .val (.long (1048576 : Int64)), .second, .val (.long ia), .second, .val (.long ib), .second, .val (.long ic), .second, .val (.ref tt), .val (.long sm), .second, sl20, sl21, .val (.int (1 : Int32)), .unset, .unset] [(.long ic), (.long sm)])) t
        refine XS.ladd X16.here hx rfl (hb hby at_177) rfl ?_
        show Steps p.tables e below (T16.setTop (mkF m 178 #[sl0, sl1, sl2, sl3, sl4, sl5, sl6, sl7, sl8, .val (.long (1048576 : Int64)), .second, .val (.long ia), .second, .val (.long ib), .second, .val (.long ic), .second, .val (.ref tt), .val (.long sm), .second, sl20, sl21, .val (.int (1 : Int32)), .unset, .unset] [(.long (sm + ic))])) t
        refine XS.lstore X16.here hx rfl (hb hby at_178) rfl (l' := #[sl0, sl1, sl2, sl3, sl4, sl5, sl6, sl7, sl8, .val (.long (1048576 : Int64)), .second, .val (.long ia), .second, .val (.long ib), .second, .val (.long ic), .second, .val (.ref tt), .val (.long (sm + ic)), .second, sl20, sl21, .val (.int (1 : Int32)), .unset, .unset]) rfl ?_
        exact k
      exact J180 T16 _ _ (sl0) (sl1) (sl2) (sl3) (sl4) (sl5) (sl6) (sl7) (sl8) (sl20) (sl21) (.val (.int (1 : Int32))) ia ib ic (sm + ic) tt (own_sz ic u) X16 rfl N16 f18 g_tt y16_0 y16_1 nia nib nic (own_su0 hsu nic hc10)
  have J92 : ∀ (Tj : State) (Lo : List Loc) (hj : Heap) (sl0 sl1 sl2 sl3 sl4 sl5 sl6 sl7 sl8 sl20 : Slot) (ia ib ic sm : Int64) (tt : Addr) (u : Int32) (Xj : Stand p l e room_1 s m #[(.long q0), (.long q1), (.long q2), (.long q3), (.int p4)] below meth c Tj Lo 9 170) (ej : Tj.heap = hj) (Nj : Fr n0 Lo) (Zj : n0 ≤ hj.size) (g_tt : n0 ≤ tt) (Ej : Exa Z hj tt "com/example/sevenfold/sevenfold/PackedTables") (Fj : Fld Z hj tt "com/example/sevenfold/sevenfold/PackedTables" "size" "I" (.int u)) (nia : 0 ≤ ia.toInt) (nib : 0 ≤ ib.toInt) (nic : 0 ≤ ic.toInt) (hsu : OwnSu u sm), OwnGo p.tables e below (fun o U' => ∃ v L, o = .returned v ∧ Qrm0 Z q0 q1 q2 q3 p4 h0 n0 v U'.heap L ∧ FrameEnd s o U' L room_1.cells room_1.slots) (Tj.setTop (mkF m 92 #[sl0, sl1, sl2, sl3, sl4, sl5, sl6, sl7, sl8, .val (.long (1048576 : Int64)), .second, .val (.long ia), .second, .val (.long ib), .second, .val (.long ic), .second, .val (.ref tt), .val (.long sm), .second, sl20, .unset, .unset, .unset, .unset] [])) := by
    intro Tj Lo hj sl0 sl1 sl2 sl3 sl4 sl5 sl6 sl7 sl8 sl20 ia ib ic sm tt u Xj ej Nj Zj g_tt Ej Fj nia nib nic hsu
    show OwnGo p.tables e below _ (Tj.setTop (mkF m 92 #[sl0, sl1, sl2, sl3, sl4, sl5, sl6, sl7, sl8, .val (.long (1048576 : Int64)), .second, .val (.long ia), .second, .val (.long ib), .second, .val (.long ic), .second, .val (.ref tt), .val (.long sm), .second, sl20, .unset, .unset, .unset, .unset] []))
    refine OwnGo.of (A := Tj.setTop (mkF m 92 #[sl0, sl1, sl2, sl3, sl4, sl5, sl6, sl7, sl8, .val (.long (1048576 : Int64)), .second, .val (.long ia), .second, .val (.long ib), .second, .val (.long ic), .second, .val (.ref tt), .val (.long sm), .second, sl20, .unset, .unset, .unset, .unset] [])) (B := Tj.setTop (mkF m 100 #[sl0, sl1, sl2, sl3, sl4, sl5, sl6, sl7, sl8, .val (.long (1048576 : Int64)), .second, .val (.long ia), .second, .val (.long ib), .second, .val (.long ic), .second, .val (.ref tt), .val (.long sm), .second, sl20, .unset, .unset, .unset, .unset] [(.int (lcmpW ib ((1048576 : Int64) - sm)))])) (fun t k => ?_) ?_
    · show Steps p.tables e below (Tj.setTop (mkF m 92 #[sl0, sl1, sl2, sl3, sl4, sl5, sl6, sl7, sl8, .val (.long (1048576 : Int64)), .second, .val (.long ia), .second, .val (.long ib), .second, .val (.long ic), .second, .val (.ref tt), .val (.long sm), .second, sl20, .unset, .unset, .unset, .unset] [])) t
      refine XS.lload Xj.here hx rfl (hb hby at_92) rfl ?_
      show Steps p.tables e below (Tj.setTop (mkF m 94 #[sl0, sl1, sl2, sl3, sl4, sl5, sl6, sl7, sl8, .val (.long (1048576 : Int64)), .second, .val (.long ia), .second, .val (.long ib), .second, .val (.long ic), .second, .val (.ref tt), .val (.long sm), .second, sl20, .unset, .unset, .unset, .unset] [(.long ib)])) t
      refine XS.lload Xj.here hx rfl (hb hby at_94) rfl ?_
      show Steps p.tables e below (Tj.setTop (mkF m 96 #[sl0, sl1, sl2, sl3, sl4, sl5, sl6, sl7, sl8, .val (.long (1048576 : Int64)), .second, .val (.long ia), .second, .val (.long ib), .second, .val (.long ic), .second, .val (.ref tt), .val (.long sm), .second, sl20, .unset, .unset, .unset, .unset] [(.long (1048576 : Int64)), (.long ib)])) t
      refine XS.lload Xj.here hx rfl (hb hby at_96) rfl ?_
      show Steps p.tables e below (Tj.setTop (mkF m 98 #[sl0, sl1, sl2, sl3, sl4, sl5, sl6, sl7, sl8, .val (.long (1048576 : Int64)), .second, .val (.long ia), .second, .val (.long ib), .second, .val (.long ic), .second, .val (.ref tt), .val (.long sm), .second, sl20, .unset, .unset, .unset, .unset] [(.long sm), (.long (1048576 : Int64)), (.long ib)])) t
      refine XS.lsub Xj.here hx rfl (hb hby at_98) rfl ?_
      show Steps p.tables e below (Tj.setTop (mkF m 99 #[sl0, sl1, sl2, sl3, sl4, sl5, sl6, sl7, sl8, .val (.long (1048576 : Int64)), .second, .val (.long ia), .second, .val (.long ib), .second, .val (.long ic), .second, .val (.ref tt), .val (.long sm), .second, sl20, .unset, .unset, .unset, .unset] [(.long ((1048576 : Int64) - sm)), (.long ib)])) t
      refine XS.lcmp Xj.here hx rfl (hb hby at_99) rfl ?_
      exact k
    by_cases hc21 : (0 : Int32) < (lcmpW ib ((1048576 : Int64) - sm))
    · refine OwnGo.of (A := Tj.setTop (mkF m 100 #[sl0, sl1, sl2, sl3, sl4, sl5, sl6, sl7, sl8, .val (.long (1048576 : Int64)), .second, .val (.long ia), .second, .val (.long ib), .second, .val (.long ic), .second, .val (.ref tt), .val (.long sm), .second, sl20, .unset, .unset, .unset, .unset] [(.int (lcmpW ib ((1048576 : Int64) - sm)))])) (B := Tj.setTop (mkF m 114 #[sl0, sl1, sl2, sl3, sl4, sl5, sl6, sl7, sl8, .val (.long (1048576 : Int64)), .second, .val (.long ia), .second, .val (.long ib), .second, .val (.long ic), .second, .val (.ref tt), .val (.long sm), .second, sl20, .val (.int (0 : Int32)), .unset, .unset, .unset] [(.long ib), (.ref tt)])) (fun t k => ?_) ?_
      · show Steps p.tables e below (Tj.setTop (mkF m 100 #[sl0, sl1, sl2, sl3, sl4, sl5, sl6, sl7, sl8, .val (.long (1048576 : Int64)), .second, .val (.long ia), .second, .val (.long ib), .second, .val (.long ic), .second, .val (.ref tt), .val (.long sm), .second, sl20, .unset, .unset, .unset, .unset] [(.int (lcmpW ib ((1048576 : Int64) - sm)))])) t
        refine XS.ifYes Xj.here hx rfl (pc0 := 100) (pc' := 107) rfl (hb hby at_100) rfl ((if0 _ _).trans (tlt hc21).2.2.1) (by decide) (by decide) ?_
        show Steps p.tables e below (Tj.setTop (mkF m 107 #[sl0, sl1, sl2, sl3, sl4, sl5, sl6, sl7, sl8, .val (.long (1048576 : Int64)), .second, .val (.long ia), .second, .val (.long ib), .second, .val (.long ic), .second, .val (.ref tt), .val (.long sm), .second, sl20, .unset, .unset, .unset, .unset] [])) t
        refine XS.iconst Xj.here hx rfl (hb hby at_107) ?_
        show Steps p.tables e below (Tj.setTop (mkF m 108 #[sl0, sl1, sl2, sl3, sl4, sl5, sl6, sl7, sl8, .val (.long (1048576 : Int64)), .second, .val (.long ia), .second, .val (.long ib), .second, .val (.long ic), .second, .val (.ref tt), .val (.long sm), .second, sl20, .unset, .unset, .unset, .unset] [(.int (0 : Int32))])) t
        refine XS.istore Xj.here hx rfl (hb hby at_108) rfl (l' := #[sl0, sl1, sl2, sl3, sl4, sl5, sl6, sl7, sl8, .val (.long (1048576 : Int64)), .second, .val (.long ia), .second, .val (.long ib), .second, .val (.long ic), .second, .val (.ref tt), .val (.long sm), .second, sl20, .val (.int (0 : Int32)), .unset, .unset, .unset]) rfl ?_
        show Steps p.tables e below (Tj.setTop (mkF m 110 #[sl0, sl1, sl2, sl3, sl4, sl5, sl6, sl7, sl8, .val (.long (1048576 : Int64)), .second, .val (.long ia), .second, .val (.long ib), .second, .val (.long ic), .second, .val (.ref tt), .val (.long sm), .second, sl20, .val (.int (0 : Int32)), .unset, .unset, .unset] [])) t
        refine XS.aload Xj.here hx rfl (hb hby at_110) rfl rfl ?_
        show Steps p.tables e below (Tj.setTop (mkF m 112 #[sl0, sl1, sl2, sl3, sl4, sl5, sl6, sl7, sl8, .val (.long (1048576 : Int64)), .second, .val (.long ia), .second, .val (.long ib), .second, .val (.long ic), .second, .val (.ref tt), .val (.long sm), .second, sl20, .val (.int (0 : Int32)), .unset, .unset, .unset] [(.ref tt)])) t
        refine XS.lload Xj.here hx rfl (hb hby at_112) rfl ?_
        exact k
      obtain ⟨cq22, kq22, q22a, q22b, q22c⟩ := isOf hZ ej Ej
      obtain ⟨T22, L22, v22, X22, hQ22, st22⟩ := own_callV Xj hx (y := (⟨"com/example/sevenfold/sevenfold/PackedTables", "take", "(J)Z"⟩ : MethodName)) (z := (⟨"com/example/sevenfold/sevenfold/PackedTables", "take", "(J)Z"⟩ : MethodName)) hown (mvT hZ (hw _ (List.mem_of_getElem? (i := 39) rfl))) (mvT hZ (hw _ (List.mem_of_getElem? (i := 40) rfl))) (notFace_of_selects (args := #[]) (mvT hZ (hw _ (List.mem_of_getElem? (i := 42) rfl)))) (mvT hZ (hw _ (List.mem_of_getElem? (i := 42) rfl))) (mvT hZ (hw _ (List.mem_of_getElem? (i := 41) rfl))) (by decide) (backOf (W := 0) (rm5 l Z aw hw [] tt ib u hj n0 Zj Ej Fj g_tt) hZ (hw _ (List.mem_of_getElem? (i := 43) rfl)) (hw _ (List.mem_of_getElem? (i := 9) rfl)) (by decide) (by decide)) q22a q22c (g := (mkF m 114 #[sl0, sl1, sl2, sl3, sl4, sl5, sl6, sl7, sl8, .val (.long (1048576 : Int64)), .second, .val (.long ia), .second, .val (.long ib), .second, .val (.long ic), .second, .val (.ref tt), .val (.long sm), .second, sl20, .val (.int (0 : Int32)), .unset, .unset, .unset] [(.long ib), (.ref tt)])) rfl (by rw [hml]; rfl) (argsL := [(.long ib)]) (rest := []) (lenOf pd_4 rfl) rfl (by show 2 * 0 + _ ≤ _; exact Nat.le_of_eq rfl) (hb hby at_114) rfl ej (by decide) (by decide)
      obtain ⟨rfl, N22q, K22, y22_0, y22_1⟩ := hQ22
      have f23 : Exa Z T22.heap tt "com/example/sevenfold/sevenfold/PackedTables" := Ej.keep K22
      have f24 : n0 ≤ T22.heap.size := Nat.le_trans Zj K22.1
      have N22 := Fr.app Nj N22q
      refine OwnGo.of st22 ?_
      show OwnGo p.tables e below _ (T22.setTop (mkF m 117 #[sl0, sl1, sl2, sl3, sl4, sl5, sl6, sl7, sl8, .val (.long (1048576 : Int64)), .second, .val (.long ia), .second, .val (.long ib), .second, .val (.long ic), .second, .val (.ref tt), .val (.long sm), .second, sl20, .val (.int (0 : Int32)), .unset, .unset, .unset] [(.int (own_tk ib u))]))
      refine OwnGo.of (A := T22.setTop (mkF m 117 #[sl0, sl1, sl2, sl3, sl4, sl5, sl6, sl7, sl8, .val (.long (1048576 : Int64)), .second, .val (.long ia), .second, .val (.long ib), .second, .val (.long ic), .second, .val (.ref tt), .val (.long sm), .second, sl20, .val (.int (0 : Int32)), .unset, .unset, .unset] [(.int (own_tk ib u))])) (B := T22.setTop (mkF m 119 #[sl0, sl1, sl2, sl3, sl4, sl5, sl6, sl7, sl8, .val (.long (1048576 : Int64)), .second, .val (.long ia), .second, .val (.long ib), .second, .val (.long ic), .second, .val (.ref tt), .val (.long sm), .second, sl20, .val (.int (0 : Int32)), .unset, .unset, .unset] [(.int (0 : Int32)), (.int (own_tk ib u))])) (fun t k => ?_) ?_
      · show Steps p.tables e below (T22.setTop (mkF m 117 #[sl0, sl1, sl2, sl3, sl4, sl5, sl6, sl7, sl8, .val (.long (1048576 : Int64)), .second, .val (.long ia), .second, .val (.long ib), .second, .val (.long ic), .second, .val (.ref tt), .val (.long sm), .second, sl20, .val (.int (0 : Int32)), .unset, .unset, .unset] [(.int (own_tk ib u))])) t
        refine XS.iload X22.here hx rfl (hb hby at_117) rfl ?_
        exact k
      have hc25 : (own_tk ib u) = (0 : Int32) := (own_tk1 hsu hc21).1
      refine OwnGo.of (A := T22.setTop (mkF m 119 #[sl0, sl1, sl2, sl3, sl4, sl5, sl6, sl7, sl8, .val (.long (1048576 : Int64)), .second, .val (.long ia), .second, .val (.long ib), .second, .val (.long ic), .second, .val (.ref tt), .val (.long sm), .second, sl20, .val (.int (0 : Int32)), .unset, .unset, .unset] [(.int (0 : Int32)), (.int (own_tk ib u))])) (B := T22.setTop (mkF m 126 #[sl0, sl1, sl2, sl3, sl4, sl5, sl6, sl7, sl8, .val (.long (1048576 : Int64)), .second, .val (.long ia), .second, .val (.long ib), .second, .val (.long ic), .second, .val (.ref tt), .val (.long sm), .second, sl20, .val (.int (0 : Int32)), .unset, .unset, .unset] [(.int (0 : Int32))])) (fun t k => ?_) ?_
      · show Steps p.tables e below (T22.setTop (mkF m 119 #[sl0, sl1, sl2, sl3, sl4, sl5, sl6, sl7, sl8, .val (.long (1048576 : Int64)), .second, .val (.long ia), .second, .val (.long ib), .second, .val (.long ic), .second, .val (.ref tt), .val (.long sm), .second, sl20, .val (.int (0 : Int32)), .unset, .unset, .unset] [(.int (0 : Int32)), (.int (own_tk ib u))])) t
        refine XS.icmpYes X22.here hx rfl (pc0 := 119) (pc' := 124) rfl (hb hby at_119) rfl (teq hc25).1 (by decide) (by decide) ?_
        show Steps p.tables e below (T22.setTop (mkF m 124 #[sl0, sl1, sl2, sl3, sl4, sl5, sl6, sl7, sl8, .val (.long (1048576 : Int64)), .second, .val (.long ia), .second, .val (.long ib), .second, .val (.long ic), .second, .val (.ref tt), .val (.long sm), .second, sl20, .val (.int (0 : Int32)), .unset, .unset, .unset] [])) t
        refine XS.iload X22.here hx rfl (hb hby at_124) rfl ?_
        exact k
      have hc26 : (0 : Int32) = (0 : Int32) := rfl
      refine OwnGo.of (A := T22.setTop (mkF m 126 #[sl0, sl1, sl2, sl3, sl4, sl5, sl6, sl7, sl8, .val (.long (1048576 : Int64)), .second, .val (.long ia), .second, .val (.long ib), .second, .val (.long ic), .second, .val (.ref tt), .val (.long sm), .second, sl20, .val (.int (0 : Int32)), .unset, .unset, .unset] [(.int (0 : Int32))])) (B := T22.setTop (mkF m 136 #[sl0, sl1, sl2, sl3, sl4, sl5, sl6, sl7, sl8, .val (.long (1048576 : Int64)), .second, .val (.long ia), .second, .val (.long ib), .second, .val (.long ic), .second, .val (.ref tt), .val (.long sm), .second, sl20, .val (.int (0 : Int32)), .unset, .unset, .unset] [])) (fun t k => ?_) ?_
      · show Steps p.tables e below (T22.setTop (mkF m 126 #[sl0, sl1, sl2, sl3, sl4, sl5, sl6, sl7, sl8, .val (.long (1048576 : Int64)), .second, .val (.long ia), .second, .val (.long ib), .second, .val (.long ic), .second, .val (.ref tt), .val (.long sm), .second, sl20, .val (.int (0 : Int32)), .unset, .unset, .unset] [(.int (0 : Int32))])) t
        refine XS.ifYes X22.here hx rfl (pc0 := 126) (pc' := 136) rfl (hb hby at_126) rfl ((if0 _ _).trans (teq hc26).1) (by decide) (by decide) ?_
        exact k
      exact J136 T22 _ _ (sl0) (sl1) (sl2) (sl3) (sl4) (sl5) (sl6) (sl7) (sl8) (sl20) (.val (.int (0 : Int32))) ia ib ic sm tt (own_sz ib u) X22 rfl N22 f24 g_tt y22_0 y22_1 nia nib nic (own_su1 hsu hc21)
    · refine OwnGo.of (A := Tj.setTop (mkF m 100 #[sl0, sl1, sl2, sl3, sl4, sl5, sl6, sl7, sl8, .val (.long (1048576 : Int64)), .second, .val (.long ia), .second, .val (.long ib), .second, .val (.long ic), .second, .val (.ref tt), .val (.long sm), .second, sl20, .unset, .unset, .unset, .unset] [(.int (lcmpW ib ((1048576 : Int64) - sm)))])) (B := Tj.setTop (mkF m 114 #[sl0, sl1, sl2, sl3, sl4, sl5, sl6, sl7, sl8, .val (.long (1048576 : Int64)), .second, .val (.long ia), .second, .val (.long ib), .second, .val (.long ic), .second, .val (.ref tt), .val (.long sm), .second, sl20, .val (.int (1 : Int32)), .unset, .unset, .unset] [(.long ib), (.ref tt)])) (fun t k => ?_) ?_
      · show Steps p.tables e below (Tj.setTop (mkF m 100 #[sl0, sl1, sl2, sl3, sl4, sl5, sl6, sl7, sl8, .val (.long (1048576 : Int64)), .second, .val (.long ia), .second, .val (.long ib), .second, .val (.long ic), .second, .val (.ref tt), .val (.long sm), .second, sl20, .unset, .unset, .unset, .unset] [(.int (lcmpW ib ((1048576 : Int64) - sm)))])) t
        refine XS.ifNo Xj.here hx rfl (hb hby at_100) rfl ((if0 _ _).trans (flt hc21).2.2.1) ?_
        show Steps p.tables e below (Tj.setTop (mkF m 103 #[sl0, sl1, sl2, sl3, sl4, sl5, sl6, sl7, sl8, .val (.long (1048576 : Int64)), .second, .val (.long ia), .second, .val (.long ib), .second, .val (.long ic), .second, .val (.ref tt), .val (.long sm), .second, sl20, .unset, .unset, .unset, .unset] [])) t
        refine XS.iconst Xj.here hx rfl (hb hby at_103) ?_
        show Steps p.tables e below (Tj.setTop (mkF m 104 #[sl0, sl1, sl2, sl3, sl4, sl5, sl6, sl7, sl8, .val (.long (1048576 : Int64)), .second, .val (.long ia), .second, .val (.long ib), .second, .val (.long ic), .second, .val (.ref tt), .val (.long sm), .second, sl20, .unset, .unset, .unset, .unset] [(.int (1 : Int32))])) t
        refine XS.goto Xj.here hx rfl (pc0 := 104) (pc' := 108) rfl (hb hby at_104) (by decide) (by decide) ?_
        show Steps p.tables e below (Tj.setTop (mkF m 108 #[sl0, sl1, sl2, sl3, sl4, sl5, sl6, sl7, sl8, .val (.long (1048576 : Int64)), .second, .val (.long ia), .second, .val (.long ib), .second, .val (.long ic), .second, .val (.ref tt), .val (.long sm), .second, sl20, .unset, .unset, .unset, .unset] [(.int (1 : Int32))])) t
        refine XS.istore Xj.here hx rfl (hb hby at_108) rfl (l' := #[sl0, sl1, sl2, sl3, sl4, sl5, sl6, sl7, sl8, .val (.long (1048576 : Int64)), .second, .val (.long ia), .second, .val (.long ib), .second, .val (.long ic), .second, .val (.ref tt), .val (.long sm), .second, sl20, .val (.int (1 : Int32)), .unset, .unset, .unset]) rfl ?_
        show Steps p.tables e below (Tj.setTop (mkF m 110 #[sl0, sl1, sl2, sl3, sl4, sl5, sl6, sl7, sl8, .val (.long (1048576 : Int64)), .second, .val (.long ia), .second, .val (.long ib), .second, .val (.long ic), .second, .val (.ref tt), .val (.long sm), .second, sl20, .val (.int (1 : Int32)), .unset, .unset, .unset] [])) t
        refine XS.aload Xj.here hx rfl (hb hby at_110) rfl rfl ?_
        show Steps p.tables e below (Tj.setTop (mkF m 112 #[sl0, sl1, sl2, sl3, sl4, sl5, sl6, sl7, sl8, .val (.long (1048576 : Int64)), .second, .val (.long ia), .second, .val (.long ib), .second, .val (.long ic), .second, .val (.ref tt), .val (.long sm), .second, sl20, .val (.int (1 : Int32)), .unset, .unset, .unset] [(.ref tt)])) t
        refine XS.lload Xj.here hx rfl (hb hby at_112) rfl ?_
        exact k
      obtain ⟨cq27, kq27, q27a, q27b, q27c⟩ := isOf hZ ej Ej
      obtain ⟨T27, L27, v27, X27, hQ27, st27⟩ := own_callV Xj hx (y := (⟨"com/example/sevenfold/sevenfold/PackedTables", "take", "(J)Z"⟩ : MethodName)) (z := (⟨"com/example/sevenfold/sevenfold/PackedTables", "take", "(J)Z"⟩ : MethodName)) hown (mvT hZ (hw _ (List.mem_of_getElem? (i := 39) rfl))) (mvT hZ (hw _ (List.mem_of_getElem? (i := 40) rfl))) (notFace_of_selects (args := #[]) (mvT hZ (hw _ (List.mem_of_getElem? (i := 42) rfl)))) (mvT hZ (hw _ (List.mem_of_getElem? (i := 42) rfl))) (mvT hZ (hw _ (List.mem_of_getElem? (i := 41) rfl))) (by decide) (backOf (W := 0) (rm5 l Z aw hw [] tt ib u hj n0 Zj Ej Fj g_tt) hZ (hw _ (List.mem_of_getElem? (i := 43) rfl)) (hw _ (List.mem_of_getElem? (i := 9) rfl)) (by decide) (by decide)) q27a q27c (g := (mkF m 114 #[sl0, sl1, sl2, sl3, sl4, sl5, sl6, sl7, sl8, .val (.long (1048576 : Int64)), .second, .val (.long ia), .second, .val (.long ib), .second, .val (.long ic), .second, .val (.ref tt), .val (.long sm), .second, sl20, .val (.int (1 : Int32)), .unset, .unset, .unset] [(.long ib), (.ref tt)])) rfl (by rw [hml]; rfl) (argsL := [(.long ib)]) (rest := []) (lenOf pd_4 rfl) rfl (by show 2 * 0 + _ ≤ _; exact Nat.le_of_eq rfl) (hb hby at_114) rfl ej (by decide) (by decide)
      obtain ⟨rfl, N27q, K27, y27_0, y27_1⟩ := hQ27
      have f28 : Exa Z T27.heap tt "com/example/sevenfold/sevenfold/PackedTables" := Ej.keep K27
      have f29 : n0 ≤ T27.heap.size := Nat.le_trans Zj K27.1
      have N27 := Fr.app Nj N27q
      refine OwnGo.of st27 ?_
      show OwnGo p.tables e below _ (T27.setTop (mkF m 117 #[sl0, sl1, sl2, sl3, sl4, sl5, sl6, sl7, sl8, .val (.long (1048576 : Int64)), .second, .val (.long ia), .second, .val (.long ib), .second, .val (.long ic), .second, .val (.ref tt), .val (.long sm), .second, sl20, .val (.int (1 : Int32)), .unset, .unset, .unset] [(.int (own_tk ib u))]))
      refine OwnGo.of (A := T27.setTop (mkF m 117 #[sl0, sl1, sl2, sl3, sl4, sl5, sl6, sl7, sl8, .val (.long (1048576 : Int64)), .second, .val (.long ia), .second, .val (.long ib), .second, .val (.long ic), .second, .val (.ref tt), .val (.long sm), .second, sl20, .val (.int (1 : Int32)), .unset, .unset, .unset] [(.int (own_tk ib u))])) (B := T27.setTop (mkF m 119 #[sl0, sl1, sl2, sl3, sl4, sl5, sl6, sl7, sl8, .val (.long (1048576 : Int64)), .second, .val (.long ia), .second, .val (.long ib), .second, .val (.long ic), .second, .val (.ref tt), .val (.long sm), .second, sl20, .val (.int (1 : Int32)), .unset, .unset, .unset] [(.int (1 : Int32)), (.int (own_tk ib u))])) (fun t k => ?_) ?_
      · show Steps p.tables e below (T27.setTop (mkF m 117 #[sl0, sl1, sl2, sl3, sl4, sl5, sl6, sl7, sl8, .val (.long (1048576 : Int64)), .second, .val (.long ia), .second, .val (.long ib), .second, .val (.long ic), .second, .val (.ref tt), .val (.long sm), .second, sl20, .val (.int (1 : Int32)), .unset, .unset, .unset] [(.int (own_tk ib u))])) t
        refine XS.iload X27.here hx rfl (hb hby at_117) rfl ?_
        exact k
      have hc30 : (own_tk ib u) = (1 : Int32) := (own_tk0 hsu hc21).1
      refine OwnGo.of (A := T27.setTop (mkF m 119 #[sl0, sl1, sl2, sl3, sl4, sl5, sl6, sl7, sl8, .val (.long (1048576 : Int64)), .second, .val (.long ia), .second, .val (.long ib), .second, .val (.long ic), .second, .val (.ref tt), .val (.long sm), .second, sl20, .val (.int (1 : Int32)), .unset, .unset, .unset] [(.int (1 : Int32)), (.int (own_tk ib u))])) (B := T27.setTop (mkF m 126 #[sl0, sl1, sl2, sl3, sl4, sl5, sl6, sl7, sl8, .val (.long (1048576 : Int64)), .second, .val (.long ia), .second, .val (.long ib), .second, .val (.long ic), .second, .val (.ref tt), .val (.long sm), .second, sl20, .val (.int (1 : Int32)), .unset, .unset, .unset] [(.int (1 : Int32))])) (fun t k => ?_) ?_
      · show Steps p.tables e below (T27.setTop (mkF m 119 #[sl0, sl1, sl2, sl3, sl4, sl5, sl6, sl7, sl8, .val (.long (1048576 : Int64)), .second, .val (.long ia), .second, .val (.long ib), .second, .val (.long ic), .second, .val (.ref tt), .val (.long sm), .second, sl20, .val (.int (1 : Int32)), .unset, .unset, .unset] [(.int (1 : Int32)), (.int (own_tk ib u))])) t
        refine XS.icmpYes X27.here hx rfl (pc0 := 119) (pc' := 124) rfl (hb hby at_119) rfl (teq hc30).1 (by decide) (by decide) ?_
        show Steps p.tables e below (T27.setTop (mkF m 124 #[sl0, sl1, sl2, sl3, sl4, sl5, sl6, sl7, sl8, .val (.long (1048576 : Int64)), .second, .val (.long ia), .second, .val (.long ib), .second, .val (.long ic), .second, .val (.ref tt), .val (.long sm), .second, sl20, .val (.int (1 : Int32)), .unset, .unset, .unset] [])) t
        refine XS.iload X27.here hx rfl (hb hby at_124) rfl ?_
        exact k
      have hc31 : ¬ ((1 : Int32) = (0 : Int32)) := by decide
      refine OwnGo.of (A := T27.setTop (mkF m 126 #[sl0, sl1, sl2, sl3, sl4, sl5, sl6, sl7, sl8, .val (.long (1048576 : Int64)), .second, .val (.long ia), .second, .val (.long ib), .second, .val (.long ic), .second, .val (.ref tt), .val (.long sm), .second, sl20, .val (.int (1 : Int32)), .unset, .unset, .unset] [(.int (1 : Int32))])) (B := T27.setTop (mkF m 136 #[sl0, sl1, sl2, sl3, sl4, sl5, sl6, sl7, sl8, .val (.long (1048576 : Int64)), .second, .val (.long ia), .second, .val (.long ib), .second, .val (.long ic), .second, .val (.ref tt), .val (.long (sm + ib)), .second, sl20, .val (.int (1 : Int32)), .unset, .unset, .unset] [])) (fun t k => ?_) ?_
      · show Steps p.tables e below (T27.setTop (mkF m 126 #[sl0, sl1, sl2, sl3, sl4, sl5, sl6, sl7, sl8, .val (.long (1048576 : Int64)), .second, .val (.long ia), .second, .val (.long ib), .second, .val (.long ic), .second, .val (.ref tt), .val (.long sm), .second, sl20, .val (.int (1 : Int32)), .unset, .unset, .unset] [(.int (1 : Int32))])) t
        refine XS.ifNo X27.here hx rfl (hb hby at_126) rfl ((if0 _ _).trans (feq hc31).1) ?_
        show Steps p.tables e below (T27.setTop (mkF m 129 #[sl0, sl1, sl2, sl3, sl4, sl5, sl6, sl7, sl8, .val (.long (1048576 : Int64)), .second, .val (.long ia), .second, .val (.long ib), .second, .val (.long ic), .second, .val (.ref tt), .val (.long sm), .second, sl20, .val (.int (1 : Int32)), .unset, .unset, .unset] [])) t
        refine XS.lload X27.here hx rfl (hb hby at_129) rfl ?_
        show Steps p.tables e below (T27.setTop (mkF m 131 #[sl0, sl1, sl2, sl3, sl4, sl5, sl6, sl7, sl8, .val (.long (1048576 : Int64)), .second, .val (.long ia), .second, .val (.long ib), .second, .val (.long ic), .second, .val (.ref tt), .val (.long sm), .second, sl20, .val (.int (1 : Int32)), .unset, .unset, .unset] [(.long sm)])) t
        refine XS.lload X27.here hx rfl (hb hby at_131) rfl ?_
        show Steps p.tables e below (T27.setTop (mkF m 133 #[sl0, sl1, sl2, sl3, sl4, sl5, sl6, sl7, sl8, .val (.long (1048576 : Int64)), .second, .val (.long ia), .second, .val (.long ib), .second, .val (.long ic), .second, .val (.ref tt), .val (.long sm), .second, sl20, .val (.int (1 : Int32)), .unset, .unset, .unset] [(.long ib), (.long sm)])) t
        refine XS.ladd X27.here hx rfl (hb hby at_133) rfl ?_
        show Steps p.tables e below (T27.setTop (mkF m 134 #[sl0, sl1, sl2, sl3, sl4, sl5, sl6, sl7, sl8, .val (.long (1048576 : Int64)), .second, .val (.long ia), .second, .val (.long ib), .second, .val (.long ic), .second, .val (.ref tt), .val (.long sm), .second, sl20, .val (.int (1 : Int32)), .unset, .unset, .unset] [(.long (sm + ib))])) t
        refine XS.lstore X27.here hx rfl (hb hby at_134) rfl (l' := #[sl0, sl1, sl2, sl3, sl4, sl5, sl6, sl7, sl8, .val (.long (1048576 : Int64)), .second, .val (.long ia), .second, .val (.long ib), .second, .val (.long ic), .second, .val (.ref tt), .val (.long (sm + ib)), .second, sl20, .val (.int (1 : Int32)), .unset, .unset, .unset]) rfl ?_
        exact k
      exact J136 T27 _ _ (sl0) (sl1) (sl2) (sl3) (sl4) (sl5) (sl6) (sl7) (sl8) (sl20) (.val (.int (1 : Int32))) ia ib ic (sm + ib) tt (own_sz ib u) X27 rfl N27 f29 g_tt y27_0 y27_1 nia nib nic (own_su0 hsu nib hc21)
  have J48 : ∀ (Tj : State) (Lo : List Loc) (hj : Heap) (sl0 sl1 sl2 sl3 sl4 sl5 sl6 sl7 sl8 : Slot) (ia ib ic sm : Int64) (tt : Addr) (u : Int32) (Xj : Stand p l e room_1 s m #[(.long q0), (.long q1), (.long q2), (.long q3), (.int p4)] below meth c Tj Lo 9 170) (ej : Tj.heap = hj) (Nj : Fr n0 Lo) (Zj : n0 ≤ hj.size) (g_tt : n0 ≤ tt) (Ej : Exa Z hj tt "com/example/sevenfold/sevenfold/PackedTables") (Fj : Fld Z hj tt "com/example/sevenfold/sevenfold/PackedTables" "size" "I" (.int u)) (nia : 0 ≤ ia.toInt) (nib : 0 ≤ ib.toInt) (nic : 0 ≤ ic.toInt) (hsu : OwnSu u sm), OwnGo p.tables e below (fun o U' => ∃ v L, o = .returned v ∧ Qrm0 Z q0 q1 q2 q3 p4 h0 n0 v U'.heap L ∧ FrameEnd s o U' L room_1.cells room_1.slots) (Tj.setTop (mkF m 48 #[sl0, sl1, sl2, sl3, sl4, sl5, sl6, sl7, sl8, .val (.long (1048576 : Int64)), .second, .val (.long ia), .second, .val (.long ib), .second, .val (.long ic), .second, .val (.ref tt), .val (.long sm), .second, .unset, .unset, .unset, .unset, .unset] [])) := by
    intro Tj Lo hj sl0 sl1 sl2 sl3 sl4 sl5 sl6 sl7 sl8 ia ib ic sm tt u Xj ej Nj Zj g_tt Ej Fj nia nib nic hsu
    show OwnGo p.tables e below _ (Tj.setTop (mkF m 48 #[sl0, sl1, sl2, sl3, sl4, sl5, sl6, sl7, sl8, .val (.long (1048576 : Int64)), .second, .val (.long ia), .second, .val (.long ib), .second, .val (.long ic), .second, .val (.ref tt), .val (.long sm), .second, .unset, .unset, .unset, .unset, .unset] []))
    refine OwnGo.of (A := Tj.setTop (mkF m 48 #[sl0, sl1, sl2, sl3, sl4, sl5, sl6, sl7, sl8, .val (.long (1048576 : Int64)), .second, .val (.long ia), .second, .val (.long ib), .second, .val (.long ic), .second, .val (.ref tt), .val (.long sm), .second, .unset, .unset, .unset, .unset, .unset] [])) (B := Tj.setTop (mkF m 56 #[sl0, sl1, sl2, sl3, sl4, sl5, sl6, sl7, sl8, .val (.long (1048576 : Int64)), .second, .val (.long ia), .second, .val (.long ib), .second, .val (.long ic), .second, .val (.ref tt), .val (.long sm), .second, .unset, .unset, .unset, .unset, .unset] [(.int (lcmpW ia ((1048576 : Int64) - sm)))])) (fun t k => ?_) ?_
    · show Steps p.tables e below (Tj.setTop (mkF m 48 #[sl0, sl1, sl2, sl3, sl4, sl5, sl6, sl7, sl8, .val (.long (1048576 : Int64)), .second, .val (.long ia), .second, .val (.long ib), .second, .val (.long ic), .second, .val (.ref tt), .val (.long sm), .second, .unset, .unset, .unset, .unset, .unset] [])) t
      refine XS.lload Xj.here hx rfl (hb hby at_48) rfl ?_
      show Steps p.tables e below (Tj.setTop (mkF m 50 #[sl0, sl1, sl2, sl3, sl4, sl5, sl6, sl7, sl8, .val (.long (1048576 : Int64)), .second, .val (.long ia), .second, .val (.long ib), .second, .val (.long ic), .second, .val (.ref tt), .val (.long sm), .second, .unset, .unset, .unset, .unset, .unset] [(.long ia)])) t
      refine XS.lload Xj.here hx rfl (hb hby at_50) rfl ?_
      show Steps p.tables e below (Tj.setTop (mkF m 52 #[sl0, sl1, sl2, sl3, sl4, sl5, sl6, sl7, sl8, .val (.long (1048576 : Int64)), .second, .val (.long ia), .second, .val (.long ib), .second, .val (.long ic), .second, .val (.ref tt), .val (.long sm), .second, .unset, .unset, .unset, .unset, .unset] [(.long (1048576 : Int64)), (.long ia)])) t
      refine XS.lload Xj.here hx rfl (hb hby at_52) rfl ?_
      show Steps p.tables e below (Tj.setTop (mkF m 54 #[sl0, sl1, sl2, sl3, sl4, sl5, sl6, sl7, sl8, .val (.long (1048576 : Int64)), .second, .val (.long ia), .second, .val (.long ib), .second, .val (.long ic), .second, .val (.ref tt), .val (.long sm), .second, .unset, .unset, .unset, .unset, .unset] [(.long sm), (.long (1048576 : Int64)), (.long ia)])) t
      refine XS.lsub Xj.here hx rfl (hb hby at_54) rfl ?_
      show Steps p.tables e below (Tj.setTop (mkF m 55 #[sl0, sl1, sl2, sl3, sl4, sl5, sl6, sl7, sl8, .val (.long (1048576 : Int64)), .second, .val (.long ia), .second, .val (.long ib), .second, .val (.long ic), .second, .val (.ref tt), .val (.long sm), .second, .unset, .unset, .unset, .unset, .unset] [(.long ((1048576 : Int64) - sm)), (.long ia)])) t
      refine XS.lcmp Xj.here hx rfl (hb hby at_55) rfl ?_
      exact k
    by_cases hc32 : (0 : Int32) < (lcmpW ia ((1048576 : Int64) - sm))
    · refine OwnGo.of (A := Tj.setTop (mkF m 56 #[sl0, sl1, sl2, sl3, sl4, sl5, sl6, sl7, sl8, .val (.long (1048576 : Int64)), .second, .val (.long ia), .second, .val (.long ib), .second, .val (.long ic), .second, .val (.ref tt), .val (.long sm), .second, .unset, .unset, .unset, .unset, .unset] [(.int (lcmpW ia ((1048576 : Int64) - sm)))])) (B := Tj.setTop (mkF m 70 #[sl0, sl1, sl2, sl3, sl4, sl5, sl6, sl7, sl8, .val (.long (1048576 : Int64)), .second, .val (.long ia), .second, .val (.long ib), .second, .val (.long ic), .second, .val (.ref tt), .val (.long sm), .second, .val (.int (0 : Int32)), .unset, .unset, .unset, .unset] [(.long ia), (.ref tt)])) (fun t k => ?_) ?_
      · show Steps p.tables e below (Tj.setTop (mkF m 56 #[sl0, sl1, sl2, sl3, sl4, sl5, sl6, sl7, sl8, .val (.long (1048576 : Int64)), .second, .val (.long ia), .second, .val (.long ib), .second, .val (.long ic), .second, .val (.ref tt), .val (.long sm), .second, .unset, .unset, .unset, .unset, .unset] [(.int (lcmpW ia ((1048576 : Int64) - sm)))])) t
        refine XS.ifYes Xj.here hx rfl (pc0 := 56) (pc' := 63) rfl (hb hby at_56) rfl ((if0 _ _).trans (tlt hc32).2.2.1) (by decide) (by decide) ?_
        show Steps p.tables e below (Tj.setTop (mkF m 63 #[sl0, sl1, sl2, sl3, sl4, sl5, sl6, sl7, sl8, .val (.long (1048576 : Int64)), .second, .val (.long ia), .second, .val (.long ib), .second, .val (.long ic), .second, .val (.ref tt), .val (.long sm), .second, .unset, .unset, .unset, .unset, .unset] [])) t
        refine XS.iconst Xj.here hx rfl (hb hby at_63) ?_
        show Steps p.tables e below (Tj.setTop (mkF m 64 #[sl0, sl1, sl2, sl3, sl4, sl5, sl6, sl7, sl8, .val (.long (1048576 : Int64)), .second, .val (.long ia), .second, .val (.long ib), .second, .val (.long ic), .second, .val (.ref tt), .val (.long sm), .second, .unset, .unset, .unset, .unset, .unset] [(.int (0 : Int32))])) t
        refine XS.istore Xj.here hx rfl (hb hby at_64) rfl (l' := #[sl0, sl1, sl2, sl3, sl4, sl5, sl6, sl7, sl8, .val (.long (1048576 : Int64)), .second, .val (.long ia), .second, .val (.long ib), .second, .val (.long ic), .second, .val (.ref tt), .val (.long sm), .second, .val (.int (0 : Int32)), .unset, .unset, .unset, .unset]) rfl ?_
        show Steps p.tables e below (Tj.setTop (mkF m 66 #[sl0, sl1, sl2, sl3, sl4, sl5, sl6, sl7, sl8, .val (.long (1048576 : Int64)), .second, .val (.long ia), .second, .val (.long ib), .second, .val (.long ic), .second, .val (.ref tt), .val (.long sm), .second, .val (.int (0 : Int32)), .unset, .unset, .unset, .unset] [])) t
        refine XS.aload Xj.here hx rfl (hb hby at_66) rfl rfl ?_
        show Steps p.tables e below (Tj.setTop (mkF m 68 #[sl0, sl1, sl2, sl3, sl4, sl5, sl6, sl7, sl8, .val (.long (1048576 : Int64)), .second, .val (.long ia), .second, .val (.long ib), .second, .val (.long ic), .second, .val (.ref tt), .val (.long sm), .second, .val (.int (0 : Int32)), .unset, .unset, .unset, .unset] [(.ref tt)])) t
        refine XS.lload Xj.here hx rfl (hb hby at_68) rfl ?_
        exact k
      obtain ⟨cq33, kq33, q33a, q33b, q33c⟩ := isOf hZ ej Ej
      obtain ⟨T33, L33, v33, X33, hQ33, st33⟩ := own_callV Xj hx (y := (⟨"com/example/sevenfold/sevenfold/PackedTables", "take", "(J)Z"⟩ : MethodName)) (z := (⟨"com/example/sevenfold/sevenfold/PackedTables", "take", "(J)Z"⟩ : MethodName)) hown (mvT hZ (hw _ (List.mem_of_getElem? (i := 39) rfl))) (mvT hZ (hw _ (List.mem_of_getElem? (i := 40) rfl))) (notFace_of_selects (args := #[]) (mvT hZ (hw _ (List.mem_of_getElem? (i := 42) rfl)))) (mvT hZ (hw _ (List.mem_of_getElem? (i := 42) rfl))) (mvT hZ (hw _ (List.mem_of_getElem? (i := 41) rfl))) (by decide) (backOf (W := 0) (rm5 l Z aw hw [] tt ia u hj n0 Zj Ej Fj g_tt) hZ (hw _ (List.mem_of_getElem? (i := 43) rfl)) (hw _ (List.mem_of_getElem? (i := 9) rfl)) (by decide) (by decide)) q33a q33c (g := (mkF m 70 #[sl0, sl1, sl2, sl3, sl4, sl5, sl6, sl7, sl8, .val (.long (1048576 : Int64)), .second, .val (.long ia), .second, .val (.long ib), .second, .val (.long ic), .second, .val (.ref tt), .val (.long sm), .second, .val (.int (0 : Int32)), .unset, .unset, .unset, .unset] [(.long ia), (.ref tt)])) rfl (by rw [hml]; rfl) (argsL := [(.long ia)]) (rest := []) (lenOf pd_4 rfl) rfl (by show 2 * 0 + _ ≤ _; exact Nat.le_of_eq rfl) (hb hby at_70) rfl ej (by decide) (by decide)
      obtain ⟨rfl, N33q, K33, y33_0, y33_1⟩ := hQ33
      have f34 : Exa Z T33.heap tt "com/example/sevenfold/sevenfold/PackedTables" := Ej.keep K33
      have f35 : n0 ≤ T33.heap.size := Nat.le_trans Zj K33.1
      have N33 := Fr.app Nj N33q
      refine OwnGo.of st33 ?_
      show OwnGo p.tables e below _ (T33.setTop (mkF m 73 #[sl0, sl1, sl2, sl3, sl4, sl5, sl6, sl7, sl8, .val (.long (1048576 : Int64)), .second, .val (.long ia), .second, .val (.long ib), .second, .val (.long ic), .second, .val (.ref tt), .val (.long sm), .second, .val (.int (0 : Int32)), .unset, .unset, .unset, .unset] [(.int (own_tk ia u))]))
      refine OwnGo.of (A := T33.setTop (mkF m 73 #[sl0, sl1, sl2, sl3, sl4, sl5, sl6, sl7, sl8, .val (.long (1048576 : Int64)), .second, .val (.long ia), .second, .val (.long ib), .second, .val (.long ic), .second, .val (.ref tt), .val (.long sm), .second, .val (.int (0 : Int32)), .unset, .unset, .unset, .unset] [(.int (own_tk ia u))])) (B := T33.setTop (mkF m 75 #[sl0, sl1, sl2, sl3, sl4, sl5, sl6, sl7, sl8, .val (.long (1048576 : Int64)), .second, .val (.long ia), .second, .val (.long ib), .second, .val (.long ic), .second, .val (.ref tt), .val (.long sm), .second, .val (.int (0 : Int32)), .unset, .unset, .unset, .unset] [(.int (0 : Int32)), (.int (own_tk ia u))])) (fun t k => ?_) ?_
      · show Steps p.tables e below (T33.setTop (mkF m 73 #[sl0, sl1, sl2, sl3, sl4, sl5, sl6, sl7, sl8, .val (.long (1048576 : Int64)), .second, .val (.long ia), .second, .val (.long ib), .second, .val (.long ic), .second, .val (.ref tt), .val (.long sm), .second, .val (.int (0 : Int32)), .unset, .unset, .unset, .unset] [(.int (own_tk ia u))])) t
        refine XS.iload X33.here hx rfl (hb hby at_73) rfl ?_
        exact k
      have hc36 : (own_tk ia u) = (0 : Int32) := (own_tk1 hsu hc32).1
      refine OwnGo.of (A := T33.setTop (mkF m 75 #[sl0, sl1, sl2, sl3, sl4, sl5, sl6, sl7, sl8, .val (.long (1048576 : Int64)), .second, .val (.long ia), .second, .val (.long ib), .second, .val (.long ic), .second, .val (.ref tt), .val (.long sm), .second, .val (.int (0 : Int32)), .unset, .unset, .unset, .unset] [(.int (0 : Int32)), (.int (own_tk ia u))])) (B := T33.setTop (mkF m 82 #[sl0, sl1, sl2, sl3, sl4, sl5, sl6, sl7, sl8, .val (.long (1048576 : Int64)), .second, .val (.long ia), .second, .val (.long ib), .second, .val (.long ic), .second, .val (.ref tt), .val (.long sm), .second, .val (.int (0 : Int32)), .unset, .unset, .unset, .unset] [(.int (0 : Int32))])) (fun t k => ?_) ?_
      · show Steps p.tables e below (T33.setTop (mkF m 75 #[sl0, sl1, sl2, sl3, sl4, sl5, sl6, sl7, sl8, .val (.long (1048576 : Int64)), .second, .val (.long ia), .second, .val (.long ib), .second, .val (.long ic), .second, .val (.ref tt), .val (.long sm), .second, .val (.int (0 : Int32)), .unset, .unset, .unset, .unset] [(.int (0 : Int32)), (.int (own_tk ia u))])) t
        refine XS.icmpYes X33.here hx rfl (pc0 := 75) (pc' := 80) rfl (hb hby at_75) rfl (teq hc36).1 (by decide) (by decide) ?_
        show Steps p.tables e below (T33.setTop (mkF m 80 #[sl0, sl1, sl2, sl3, sl4, sl5, sl6, sl7, sl8, .val (.long (1048576 : Int64)), .second, .val (.long ia), .second, .val (.long ib), .second, .val (.long ic), .second, .val (.ref tt), .val (.long sm), .second, .val (.int (0 : Int32)), .unset, .unset, .unset, .unset] [])) t
        refine XS.iload X33.here hx rfl (hb hby at_80) rfl ?_
        exact k
      have hc37 : (0 : Int32) = (0 : Int32) := rfl
      refine OwnGo.of (A := T33.setTop (mkF m 82 #[sl0, sl1, sl2, sl3, sl4, sl5, sl6, sl7, sl8, .val (.long (1048576 : Int64)), .second, .val (.long ia), .second, .val (.long ib), .second, .val (.long ic), .second, .val (.ref tt), .val (.long sm), .second, .val (.int (0 : Int32)), .unset, .unset, .unset, .unset] [(.int (0 : Int32))])) (B := T33.setTop (mkF m 92 #[sl0, sl1, sl2, sl3, sl4, sl5, sl6, sl7, sl8, .val (.long (1048576 : Int64)), .second, .val (.long ia), .second, .val (.long ib), .second, .val (.long ic), .second, .val (.ref tt), .val (.long sm), .second, .val (.int (0 : Int32)), .unset, .unset, .unset, .unset] [])) (fun t k => ?_) ?_
      · show Steps p.tables e below (T33.setTop (mkF m 82 #[sl0, sl1, sl2, sl3, sl4, sl5, sl6, sl7, sl8, .val (.long (1048576 : Int64)), .second, .val (.long ia), .second, .val (.long ib), .second, .val (.long ic), .second, .val (.ref tt), .val (.long sm), .second, .val (.int (0 : Int32)), .unset, .unset, .unset, .unset] [(.int (0 : Int32))])) t
        refine XS.ifYes X33.here hx rfl (pc0 := 82) (pc' := 92) rfl (hb hby at_82) rfl ((if0 _ _).trans (teq hc37).1) (by decide) (by decide) ?_
        exact k
      exact J92 T33 _ _ (sl0) (sl1) (sl2) (sl3) (sl4) (sl5) (sl6) (sl7) (sl8) (.val (.int (0 : Int32))) ia ib ic sm tt (own_sz ia u) X33 rfl N33 f35 g_tt y33_0 y33_1 nia nib nic (own_su1 hsu hc32)
    · refine OwnGo.of (A := Tj.setTop (mkF m 56 #[sl0, sl1, sl2, sl3, sl4, sl5, sl6, sl7, sl8, .val (.long (1048576 : Int64)), .second, .val (.long ia), .second, .val (.long ib), .second, .val (.long ic), .second, .val (.ref tt), .val (.long sm), .second, .unset, .unset, .unset, .unset, .unset] [(.int (lcmpW ia ((1048576 : Int64) - sm)))])) (B := Tj.setTop (mkF m 70 #[sl0, sl1, sl2, sl3, sl4, sl5, sl6, sl7, sl8, .val (.long (1048576 : Int64)), .second, .val (.long ia), .second, .val (.long ib), .second, .val (.long ic), .second, .val (.ref tt), .val (.long sm), .second, .val (.int (1 : Int32)), .unset, .unset, .unset, .unset] [(.long ia), (.ref tt)])) (fun t k => ?_) ?_
      · show Steps p.tables e below (Tj.setTop (mkF m 56 #[sl0, sl1, sl2, sl3, sl4, sl5, sl6, sl7, sl8, .val (.long (1048576 : Int64)), .second, .val (.long ia), .second, .val (.long ib), .second, .val (.long ic), .second, .val (.ref tt), .val (.long sm), .second, .unset, .unset, .unset, .unset, .unset] [(.int (lcmpW ia ((1048576 : Int64) - sm)))])) t
        refine XS.ifNo Xj.here hx rfl (hb hby at_56) rfl ((if0 _ _).trans (flt hc32).2.2.1) ?_
        show Steps p.tables e below (Tj.setTop (mkF m 59 #[sl0, sl1, sl2, sl3, sl4, sl5, sl6, sl7, sl8, .val (.long (1048576 : Int64)), .second, .val (.long ia), .second, .val (.long ib), .second, .val (.long ic), .second, .val (.ref tt), .val (.long sm), .second, .unset, .unset, .unset, .unset, .unset] [])) t
        refine XS.iconst Xj.here hx rfl (hb hby at_59) ?_
        show Steps p.tables e below (Tj.setTop (mkF m 60 #[sl0, sl1, sl2, sl3, sl4, sl5, sl6, sl7, sl8, .val (.long (1048576 : Int64)), .second, .val (.long ia), .second, .val (.long ib), .second, .val (.long ic), .second, .val (.ref tt), .val (.long sm), .second, .unset, .unset, .unset, .unset, .unset] [(.int (1 : Int32))])) t
        refine XS.goto Xj.here hx rfl (pc0 := 60) (pc' := 64) rfl (hb hby at_60) (by decide) (by decide) ?_
        show Steps p.tables e below (Tj.setTop (mkF m 64 #[sl0, sl1, sl2, sl3, sl4, sl5, sl6, sl7, sl8, .val (.long (1048576 : Int64)), .second, .val (.long ia), .second, .val (.long ib), .second, .val (.long ic), .second, .val (.ref tt), .val (.long sm), .second, .unset, .unset, .unset, .unset, .unset] [(.int (1 : Int32))])) t
        refine XS.istore Xj.here hx rfl (hb hby at_64) rfl (l' := #[sl0, sl1, sl2, sl3, sl4, sl5, sl6, sl7, sl8, .val (.long (1048576 : Int64)), .second, .val (.long ia), .second, .val (.long ib), .second, .val (.long ic), .second, .val (.ref tt), .val (.long sm), .second, .val (.int (1 : Int32)), .unset, .unset, .unset, .unset]) rfl ?_
        show Steps p.tables e below (Tj.setTop (mkF m 66 #[sl0, sl1, sl2, sl3, sl4, sl5, sl6, sl7, sl8, .val (.long (1048576 : Int64)), .second, .val (.long ia), .second, .val (.long ib), .second, .val (.long ic), .second, .val (.ref tt), .val (.long sm), .second, .val (.int (1 : Int32)), .unset, .unset, .unset, .unset] [])) t
        refine XS.aload Xj.here hx rfl (hb hby at_66) rfl rfl ?_
        show Steps p.tables e below (Tj.setTop (mkF m 68 #[sl0, sl1, sl2, sl3, sl4, sl5, sl6, sl7, sl8, .val (.long (1048576 : Int64)), .second, .val (.long ia), .second, .val (.long ib), .second, .val (.long ic), .second, .val (.ref tt), .val (.long sm), .second, .val (.int (1 : Int32)), .unset, .unset, .unset, .unset] [(.ref tt)])) t
        refine XS.lload Xj.here hx rfl (hb hby at_68) rfl ?_
        exact k
      obtain ⟨cq38, kq38, q38a, q38b, q38c⟩ := isOf hZ ej Ej
      obtain ⟨T38, L38, v38, X38, hQ38, st38⟩ := own_callV Xj hx (y := (⟨"com/example/sevenfold/sevenfold/PackedTables", "take", "(J)Z"⟩ : MethodName)) (z := (⟨"com/example/sevenfold/sevenfold/PackedTables", "take", "(J)Z"⟩ : MethodName)) hown (mvT hZ (hw _ (List.mem_of_getElem? (i := 39) rfl))) (mvT hZ (hw _ (List.mem_of_getElem? (i := 40) rfl))) (notFace_of_selects (args := #[]) (mvT hZ (hw _ (List.mem_of_getElem? (i := 42) rfl)))) (mvT hZ (hw _ (List.mem_of_getElem? (i := 42) rfl))) (mvT hZ (hw _ (List.mem_of_getElem? (i := 41) rfl))) (by decide) (backOf (W := 0) (rm5 l Z aw hw [] tt ia u hj n0 Zj Ej Fj g_tt) hZ (hw _ (List.mem_of_getElem? (i := 43) rfl)) (hw _ (List.mem_of_getElem? (i := 9) rfl)) (by decide) (by decide)) q38a q38c (g := (mkF m 70 #[sl0, sl1, sl2, sl3, sl4, sl5, sl6, sl7, sl8, .val (.long (1048576 : Int64)), .second, .val (.long ia), .second, .val (.long ib), .second, .val (.long ic), .second, .val (.ref tt), .val (.long sm), .second, .val (.int (1 : Int32)), .unset, .unset, .unset, .unset] [(.long ia), (.ref tt)])) rfl (by rw [hml]; rfl) (argsL := [(.long ia)]) (rest := []) (lenOf pd_4 rfl) rfl (by show 2 * 0 + _ ≤ _; exact Nat.le_of_eq rfl) (hb hby at_70) rfl ej (by decide) (by decide)
      obtain ⟨rfl, N38q, K38, y38_0, y38_1⟩ := hQ38
      have f39 : Exa Z T38.heap tt "com/example/sevenfold/sevenfold/PackedTables" := Ej.keep K38
      have f40 : n0 ≤ T38.heap.size := Nat.le_trans Zj K38.1
      have N38 := Fr.app Nj N38q
      refine OwnGo.of st38 ?_
      show OwnGo p.tables e below _ (T38.setTop (mkF m 73 #[sl0, sl1, sl2, sl3, sl4, sl5, sl6, sl7, sl8, .val (.long (1048576 : Int64)), .second, .val (.long ia), .second, .val (.long ib), .second, .val (.long ic), .second, .val (.ref tt), .val (.long sm), .second, .val (.int (1 : Int32)), .unset, .unset, .unset, .unset] [(.int (own_tk ia u))]))
      refine OwnGo.of (A := T38.setTop (mkF m 73 #[sl0, sl1, sl2, sl3, sl4, sl5, sl6, sl7, sl8, .val (.long (1048576 : Int64)), .second, .val (.long ia), .second, .val (.long ib), .second, .val (.long ic), .second, .val (.ref tt), .val (.long sm), .second, .val (.int (1 : Int32)), .unset, .unset, .unset, .unset] [(.int (own_tk ia u))])) (B := T38.setTop (mkF m 75 #[sl0, sl1, sl2, sl3, sl4, sl5, sl6, sl7, sl8, .val (.long (1048576 : Int64)), .second, .val (.long ia), .second, .val (.long ib), .second, .val (.long ic), .second, .val (.ref tt), .val (.long sm), .second, .val (.int (1 : Int32)), .unset, .unset, .unset, .unset] [(.int (1 : Int32)), (.int (own_tk ia u))])) (fun t k => ?_) ?_
      · show Steps p.tables e below (T38.setTop (mkF m 73 #[sl0, sl1, sl2, sl3, sl4, sl5, sl6, sl7, sl8, .val (.long (1048576 : Int64)), .second, .val (.long ia), .second, .val (.long ib), .second, .val (.long ic), .second, .val (.ref tt), .val (.long sm), .second, .val (.int (1 : Int32)), .unset, .unset, .unset, .unset] [(.int (own_tk ia u))])) t
        refine XS.iload X38.here hx rfl (hb hby at_73) rfl ?_
        exact k
      have hc41 : (own_tk ia u) = (1 : Int32) := (own_tk0 hsu hc32).1
      refine OwnGo.of (A := T38.setTop (mkF m 75 #[sl0, sl1, sl2, sl3, sl4, sl5, sl6, sl7, sl8, .val (.long (1048576 : Int64)), .second, .val (.long ia), .second, .val (.long ib), .second, .val (.long ic), .second, .val (.ref tt), .val (.long sm), .second, .val (.int (1 : Int32)), .unset, .unset, .unset, .unset] [(.int (1 : Int32)), (.int (own_tk ia u))])) (B := T38.setTop (mkF m 82 #[sl0, sl1, sl2, sl3, sl4, sl5, sl6, sl7, sl8, .val (.long (1048576 : Int64)), .second, .val (.long ia), .second, .val (.long ib), .second, .val (.long ic), .second, .val (.ref tt), .val (.long sm), .second, .val (.int (1 : Int32)), .unset, .unset, .unset, .unset] [(.int (1 : Int32))])) (fun t k => ?_) ?_
      · show Steps p.tables e below (T38.setTop (mkF m 75 #[sl0, sl1, sl2, sl3, sl4, sl5, sl6, sl7, sl8, .val (.long (1048576 : Int64)), .second, .val (.long ia), .second, .val (.long ib), .second, .val (.long ic), .second, .val (.ref tt), .val (.long sm), .second, .val (.int (1 : Int32)), .unset, .unset, .unset, .unset] [(.int (1 : Int32)), (.int (own_tk ia u))])) t
        refine XS.icmpYes X38.here hx rfl (pc0 := 75) (pc' := 80) rfl (hb hby at_75) rfl (teq hc41).1 (by decide) (by decide) ?_
        show Steps p.tables e below (T38.setTop (mkF m 80 #[sl0, sl1, sl2, sl3, sl4, sl5, sl6, sl7, sl8, .val (.long (1048576 : Int64)), .second, .val (.long ia), .second, .val (.long ib), .second, .val (.long ic), .second, .val (.ref tt), .val (.long sm), .second, .val (.int (1 : Int32)), .unset, .unset, .unset, .unset] [])) t
        refine XS.iload X38.here hx rfl (hb hby at_80) rfl ?_
        exact k
      have hc42 : ¬ ((1 : Int32) = (0 : Int32)) := by decide
      refine OwnGo.of (A := T38.setTop (mkF m 82 #[sl0, sl1, sl2, sl3, sl4, sl5, sl6, sl7, sl8, .val (.long (1048576 : Int64)), .second, .val (.long ia), .second, .val (.long ib), .second, .val (.long ic), .second, .val (.ref tt), .val (.long sm), .second, .val (.int (1 : Int32)), .unset, .unset, .unset, .unset] [(.int (1 : Int32))])) (B := T38.setTop (mkF m 92 #[sl0, sl1, sl2, sl3, sl4, sl5, sl6, sl7, sl8, .val (.long (1048576 : Int64)), .second, .val (.long ia), .second, .val (.long ib), .second, .val (.long ic), .second, .val (.ref tt), .val (.long (sm + ia)), .second, .val (.int (1 : Int32)), .unset, .unset, .unset, .unset] [])) (fun t k => ?_) ?_
      · show Steps p.tables e below (T38.setTop (mkF m 82 #[sl0, sl1, sl2, sl3, sl4, sl5, sl6, sl7, sl8, .val (.long (1048576 : Int64)), .second, .val (.long ia), .second, .val (.long ib), .second, .val (.long ic), .second, .val (.ref tt), .val (.long sm), .second, .val (.int (1 : Int32)), .unset, .unset, .unset, .unset] [(.int (1 : Int32))])) t
        refine XS.ifNo X38.here hx rfl (hb hby at_82) rfl ((if0 _ _).trans (feq hc42).1) ?_
        show Steps p.tables e below (T38.setTop (mkF m 85 #[sl0, sl1, sl2, sl3, sl4, sl5, sl6, sl7, sl8, .val (.long (1048576 : Int64)), .second, .val (.long ia), .second, .val (.long ib), .second, .val (.long ic), .second, .val (.ref tt), .val (.long sm), .second, .val (.int (1 : Int32)), .unset, .unset, .unset, .unset] [])) t
        refine XS.lload X38.here hx rfl (hb hby at_85) rfl ?_
        show Steps p.tables e below (T38.setTop (mkF m 87 #[sl0, sl1, sl2, sl3, sl4, sl5, sl6, sl7, sl8, .val (.long (1048576 : Int64)), .second, .val (.long ia), .second, .val (.long ib), .second, .val (.long ic), .second, .val (.ref tt), .val (.long sm), .second, .val (.int (1 : Int32)), .unset, .unset, .unset, .unset] [(.long sm)])) t
        refine XS.lload X38.here hx rfl (hb hby at_87) rfl ?_
        show Steps p.tables e below (T38.setTop (mkF m 89 #[sl0, sl1, sl2, sl3, sl4, sl5, sl6, sl7, sl8, .val (.long (1048576 : Int64)), .second, .val (.long ia), .second, .val (.long ib), .second, .val (.long ic), .second, .val (.ref tt), .val (.long sm), .second, .val (.int (1 : Int32)), .unset, .unset, .unset, .unset] [(.long ia), (.long sm)])) t
        refine XS.ladd X38.here hx rfl (hb hby at_89) rfl ?_
        show Steps p.tables e below (T38.setTop (mkF m 90 #[sl0, sl1, sl2, sl3, sl4, sl5, sl6, sl7, sl8, .val (.long (1048576 : Int64)), .second, .val (.long ia), .second, .val (.long ib), .second, .val (.long ic), .second, .val (.ref tt), .val (.long sm), .second, .val (.int (1 : Int32)), .unset, .unset, .unset, .unset] [(.long (sm + ia))])) t
        refine XS.lstore X38.here hx rfl (hb hby at_90) rfl (l' := #[sl0, sl1, sl2, sl3, sl4, sl5, sl6, sl7, sl8, .val (.long (1048576 : Int64)), .second, .val (.long ia), .second, .val (.long ib), .second, .val (.long ic), .second, .val (.ref tt), .val (.long (sm + ia)), .second, .val (.int (1 : Int32)), .unset, .unset, .unset, .unset]) rfl ?_
        exact k
      exact J92 T38 _ _ (sl0) (sl1) (sl2) (sl3) (sl4) (sl5) (sl6) (sl7) (sl8) (.val (.int (1 : Int32))) ia ib ic (sm + ia) tt (own_sz ia u) X38 rfl N38 f40 g_tt y38_0 y38_1 nia nib nic (own_su0 hsu nia hc32)
  show OwnGo p.tables e below _ (s₁.setTop (mkF m 0 #[.val (.long q0), .second, .val (.long q1), .second, .val (.long q2), .second, .val (.long q3), .second, .val (.int p4), .unset, .unset, .unset, .unset, .unset, .unset, .unset, .unset, .unset, .unset, .unset, .unset, .unset, .unset, .unset, .unset] []))
  refine OwnGo.of (A := s₁.setTop (mkF m 0 #[.val (.long q0), .second, .val (.long q1), .second, .val (.long q2), .second, .val (.long q3), .second, .val (.int p4), .unset, .unset, .unset, .unset, .unset, .unset, .unset, .unset, .unset, .unset, .unset, .unset, .unset, .unset, .unset, .unset] [])) (B := s₁.setTop (mkF m 8 #[.val (.long q0), .second, .val (.long q1), .second, .val (.long q2), .second, .val (.long q3), .second, .val (.int p4), .val (.long (1048576 : Int64)), .second, .unset, .unset, .unset, .unset, .unset, .unset, .unset, .unset, .unset, .unset, .unset, .unset, .unset, .unset] [(.int p4), (.long q1)])) (fun t k => ?_) ?_
  · show Steps p.tables e below (s₁.setTop (mkF m 0 #[.val (.long q0), .second, .val (.long q1), .second, .val (.long q2), .second, .val (.long q3), .second, .val (.int p4), .unset, .unset, .unset, .unset, .unset, .unset, .unset, .unset, .unset, .unset, .unset, .unset, .unset, .unset, .unset, .unset] [])) t
    refine X0.ldc2Long hx hown (mvT hZ (hw _ (List.mem_of_getElem? (i := 0) rfl))) (g := (mkF m 0 #[.val (.long q0), .second, .val (.long q1), .second, .val (.long q2), .second, .val (.long q3), .second, .val (.int p4), .unset, .unset, .unset, .unset, .unset, .unset, .unset, .unset, .unset, .unset, .unset, .unset, .unset, .unset, .unset, .unset] [])) rfl (hb hby at_0) _ ?_
    show Steps p.tables e below (s₁.setTop (mkF m 3 #[.val (.long q0), .second, .val (.long q1), .second, .val (.long q2), .second, .val (.long q3), .second, .val (.int p4), .unset, .unset, .unset, .unset, .unset, .unset, .unset, .unset, .unset, .unset, .unset, .unset, .unset, .unset, .unset, .unset] [(.long (1048576 : Int64))])) t
    refine XS.lstore X0.here hx rfl (hb hby at_3) rfl (l' := #[.val (.long q0), .second, .val (.long q1), .second, .val (.long q2), .second, .val (.long q3), .second, .val (.int p4), .val (.long (1048576 : Int64)), .second, .unset, .unset, .unset, .unset, .unset, .unset, .unset, .unset, .unset, .unset, .unset, .unset, .unset, .unset]) rfl ?_
    show Steps p.tables e below (s₁.setTop (mkF m 5 #[.val (.long q0), .second, .val (.long q1), .second, .val (.long q2), .second, .val (.long q3), .second, .val (.int p4), .val (.long (1048576 : Int64)), .second, .unset, .unset, .unset, .unset, .unset, .unset, .unset, .unset, .unset, .unset, .unset, .unset, .unset, .unset] [])) t
    refine XS.lloadN X0.here hx rfl (hb hby at_5) rfl ?_
    show Steps p.tables e below (s₁.setTop (mkF m 6 #[.val (.long q0), .second, .val (.long q1), .second, .val (.long q2), .second, .val (.long q3), .second, .val (.int p4), .val (.long (1048576 : Int64)), .second, .unset, .unset, .unset, .unset, .unset, .unset, .unset, .unset, .unset, .unset, .unset, .unset, .unset, .unset] [(.long q1)])) t
    refine XS.iload X0.here hx rfl (hb hby at_6) rfl ?_
    exact k
  obtain ⟨T43, L43, v43, X43, hQ43, st43⟩ := own_callS X0 hx (y := (⟨"com/example/sevenfold/sevenfold/PackedTablesTakePinLaw", "pick", "(JI)J"⟩ : MethodName)) hown (mvT hZ (hw _ (List.mem_of_getElem? (i := 1) rfl))) (mvT hZ (hw _ (List.mem_of_getElem? (i := 2) rfl))) (mvT hZ (hw _ (List.mem_of_getElem? (i := 3) rfl))) (mvT hZ (hw _ (List.mem_of_getElem? (i := 4) rfl))) (by decide) (backOf (W := 0) (rm1 l Z aw hw [] q1 p4  h0 n0 Z0 ) hZ (hw _ (List.mem_of_getElem? (i := 4) rfl)) (hw _ (List.mem_of_getElem? (i := 3) rfl)) (by decide) (by decide)) (g := (mkF m 8 #[.val (.long q0), .second, .val (.long q1), .second, .val (.long q2), .second, .val (.long q3), .second, .val (.int p4), .val (.long (1048576 : Int64)), .second, .unset, .unset, .unset, .unset, .unset, .unset, .unset, .unset, .unset, .unset, .unset, .unset, .unset, .unset] [(.int p4), (.long q1)])) rfl (by rw [hml]; rfl) (argsL := [(.long q1), (.int p4)]) (rest := []) (lenOf pd_5 rfl) rfl (by show 2 * 0 + _ ≤ _; exact Nat.le_of_eq rfl) (hb hby at_8) rfl e0 (by decide) (by decide)
  obtain ⟨rfl, N43q, eq43⟩ := hQ43
  have N43 := Fr.app N0 N43q
  refine OwnGo.of st43 ?_
  show OwnGo p.tables e below _ (T43.setTop (mkF m 11 #[.val (.long q0), .second, .val (.long q1), .second, .val (.long q2), .second, .val (.long q3), .second, .val (.int p4), .val (.long (1048576 : Int64)), .second, .unset, .unset, .unset, .unset, .unset, .unset, .unset, .unset, .unset, .unset, .unset, .unset, .unset, .unset] [(.long (own_pick q1 p4))]))
  refine OwnGo.of (A := T43.setTop (mkF m 11 #[.val (.long q0), .second, .val (.long q1), .second, .val (.long q2), .second, .val (.long q3), .second, .val (.int p4), .val (.long (1048576 : Int64)), .second, .unset, .unset, .unset, .unset, .unset, .unset, .unset, .unset, .unset, .unset, .unset, .unset, .unset, .unset] [(.long (own_pick q1 p4))])) (B := T43.setTop (mkF m 13 #[.val (.long q0), .second, .val (.long q1), .second, .val (.long q2), .second, .val (.long q3), .second, .val (.int p4), .val (.long (1048576 : Int64)), .second, .val (.long (own_pick q1 p4)), .second, .unset, .unset, .unset, .unset, .unset, .unset, .unset, .unset, .unset, .unset, .unset, .unset] [])) (fun t k => ?_) ?_
  · show Steps p.tables e below (T43.setTop (mkF m 11 #[.val (.long q0), .second, .val (.long q1), .second, .val (.long q2), .second, .val (.long q3), .second, .val (.int p4), .val (.long (1048576 : Int64)), .second, .unset, .unset, .unset, .unset, .unset, .unset, .unset, .unset, .unset, .unset, .unset, .unset, .unset, .unset] [(.long (own_pick q1 p4))])) t
    refine XS.lstore X43.here hx rfl (hb hby at_11) rfl (l' := #[.val (.long q0), .second, .val (.long q1), .second, .val (.long q2), .second, .val (.long q3), .second, .val (.int p4), .val (.long (1048576 : Int64)), .second, .val (.long (own_pick q1 p4)), .second, .unset, .unset, .unset, .unset, .unset, .unset, .unset, .unset, .unset, .unset, .unset, .unset]) rfl ?_
    exact k
  obtain ⟨ia, hia⟩ : ∃ z, z = (own_pick q1 p4) := ⟨_, rfl⟩
  have nia : 0 ≤ ia.toInt := by subst hia; exact own_pick_nn _ _
  rw [← hia]
  show OwnGo p.tables e below _ (T43.setTop (mkF m 13 #[.val (.long q0), .second, .val (.long q1), .second, .val (.long q2), .second, .val (.long q3), .second, .val (.int p4), .val (.long (1048576 : Int64)), .second, .val (.long ia), .second, .unset, .unset, .unset, .unset, .unset, .unset, .unset, .unset, .unset, .unset, .unset, .unset] []))
  refine OwnGo.of (A := T43.setTop (mkF m 13 #[.val (.long q0), .second, .val (.long q1), .second, .val (.long q2), .second, .val (.long q3), .second, .val (.int p4), .val (.long (1048576 : Int64)), .second, .val (.long ia), .second, .unset, .unset, .unset, .unset, .unset, .unset, .unset, .unset, .unset, .unset, .unset, .unset] [])) (B := T43.setTop (mkF m 19 #[.val (.long q0), .second, .val (.long q1), .second, .val (.long q2), .second, .val (.long q3), .second, .val (.int p4), .val (.long (1048576 : Int64)), .second, .val (.long ia), .second, .unset, .unset, .unset, .unset, .unset, .unset, .unset, .unset, .unset, .unset, .unset, .unset] [(.int (p4 >>> ((1 : Int32) &&& 31))), (.long q2)])) (fun t k => ?_) ?_
  · show Steps p.tables e below (T43.setTop (mkF m 13 #[.val (.long q0), .second, .val (.long q1), .second, .val (.long q2), .second, .val (.long q3), .second, .val (.int p4), .val (.long (1048576 : Int64)), .second, .val (.long ia), .second, .unset, .unset, .unset, .unset, .unset, .unset, .unset, .unset, .unset, .unset, .unset, .unset] [])) t
    refine XS.lload X43.here hx rfl (hb hby at_13) rfl ?_
    show Steps p.tables e below (T43.setTop (mkF m 15 #[.val (.long q0), .second, .val (.long q1), .second, .val (.long q2), .second, .val (.long q3), .second, .val (.int p4), .val (.long (1048576 : Int64)), .second, .val (.long ia), .second, .unset, .unset, .unset, .unset, .unset, .unset, .unset, .unset, .unset, .unset, .unset, .unset] [(.long q2)])) t
    refine XS.iload X43.here hx rfl (hb hby at_15) rfl ?_
    show Steps p.tables e below (T43.setTop (mkF m 17 #[.val (.long q0), .second, .val (.long q1), .second, .val (.long q2), .second, .val (.long q3), .second, .val (.int p4), .val (.long (1048576 : Int64)), .second, .val (.long ia), .second, .unset, .unset, .unset, .unset, .unset, .unset, .unset, .unset, .unset, .unset, .unset, .unset] [(.int p4), (.long q2)])) t
    refine XS.iconst X43.here hx rfl (hb hby at_17) ?_
    show Steps p.tables e below (T43.setTop (mkF m 18 #[.val (.long q0), .second, .val (.long q1), .second, .val (.long q2), .second, .val (.long q3), .second, .val (.int p4), .val (.long (1048576 : Int64)), .second, .val (.long ia), .second, .unset, .unset, .unset, .unset, .unset, .unset, .unset, .unset, .unset, .unset, .unset, .unset] [(.int (1 : Int32)), (.int p4), (.long q2)])) t
    refine XS.ishr X43.here hx rfl (hb hby at_18) rfl ?_
    exact k
  obtain ⟨T44, L44, v44, X44, hQ44, st44⟩ := own_callS X43 hx (y := (⟨"com/example/sevenfold/sevenfold/PackedTablesTakePinLaw", "pick", "(JI)J"⟩ : MethodName)) hown (mvT hZ (hw _ (List.mem_of_getElem? (i := 1) rfl))) (mvT hZ (hw _ (List.mem_of_getElem? (i := 2) rfl))) (mvT hZ (hw _ (List.mem_of_getElem? (i := 3) rfl))) (mvT hZ (hw _ (List.mem_of_getElem? (i := 4) rfl))) (by decide) (backOf (W := 0) (rm1 l Z aw hw [] q2 (p4 >>> ((1 : Int32) &&& 31))  h0 n0 Z0 ) hZ (hw _ (List.mem_of_getElem? (i := 4) rfl)) (hw _ (List.mem_of_getElem? (i := 3) rfl)) (by decide) (by decide)) (g := (mkF m 19 #[.val (.long q0), .second, .val (.long q1), .second, .val (.long q2), .second, .val (.long q3), .second, .val (.int p4), .val (.long (1048576 : Int64)), .second, .val (.long ia), .second, .unset, .unset, .unset, .unset, .unset, .unset, .unset, .unset, .unset, .unset, .unset, .unset] [(.int (p4 >>> ((1 : Int32) &&& 31))), (.long q2)])) rfl (by rw [hml]; rfl) (argsL := [(.long q2), (.int (p4 >>> ((1 : Int32) &&& 31)))]) (rest := []) (lenOf pd_5 rfl) rfl (by show 2 * 0 + _ ≤ _; exact Nat.le_of_eq rfl) (hb hby at_19) rfl eq43 (by decide) (by decide)
  obtain ⟨rfl, N44q, eq44⟩ := hQ44
  have N44 := Fr.app N43 N44q
  refine OwnGo.of st44 ?_
  show OwnGo p.tables e below _ (T44.setTop (mkF m 22 #[.val (.long q0), .second, .val (.long q1), .second, .val (.long q2), .second, .val (.long q3), .second, .val (.int p4), .val (.long (1048576 : Int64)), .second, .val (.long ia), .second, .unset, .unset, .unset, .unset, .unset, .unset, .unset, .unset, .unset, .unset, .unset, .unset] [(.long (own_pick q2 (p4 >>> ((1 : Int32) &&& 31))))]))
  refine OwnGo.of (A := T44.setTop (mkF m 22 #[.val (.long q0), .second, .val (.long q1), .second, .val (.long q2), .second, .val (.long q3), .second, .val (.int p4), .val (.long (1048576 : Int64)), .second, .val (.long ia), .second, .unset, .unset, .unset, .unset, .unset, .unset, .unset, .unset, .unset, .unset, .unset, .unset] [(.long (own_pick q2 (p4 >>> ((1 : Int32) &&& 31))))])) (B := T44.setTop (mkF m 24 #[.val (.long q0), .second, .val (.long q1), .second, .val (.long q2), .second, .val (.long q3), .second, .val (.int p4), .val (.long (1048576 : Int64)), .second, .val (.long ia), .second, .val (.long (own_pick q2 (p4 >>> ((1 : Int32) &&& 31)))), .second, .unset, .unset, .unset, .unset, .unset, .unset, .unset, .unset, .unset, .unset] [])) (fun t k => ?_) ?_
  · show Steps p.tables e below (T44.setTop (mkF m 22 #[.val (.long q0), .second, .val (.long q1), .second, .val (.long q2), .second, .val (.long q3), .second, .val (.int p4), .val (.long (1048576 : Int64)), .second, .val (.long ia), .second, .unset, .unset, .unset, .unset, .unset, .unset, .unset, .unset, .unset, .unset, .unset, .unset] [(.long (own_pick q2 (p4 >>> ((1 : Int32) &&& 31))))])) t
    refine XS.lstore X44.here hx rfl (hb hby at_22) rfl (l' := #[.val (.long q0), .second, .val (.long q1), .second, .val (.long q2), .second, .val (.long q3), .second, .val (.int p4), .val (.long (1048576 : Int64)), .second, .val (.long ia), .second, .val (.long (own_pick q2 (p4 >>> ((1 : Int32) &&& 31)))), .second, .unset, .unset, .unset, .unset, .unset, .unset, .unset, .unset, .unset, .unset]) rfl ?_
    exact k
  obtain ⟨ib, hib⟩ : ∃ z, z = (own_pick q2 (p4 >>> ((1 : Int32) &&& 31))) := ⟨_, rfl⟩
  have nib : 0 ≤ ib.toInt := by subst hib; exact own_pick_nn _ _
  rw [← hib]
  show OwnGo p.tables e below _ (T44.setTop (mkF m 24 #[.val (.long q0), .second, .val (.long q1), .second, .val (.long q2), .second, .val (.long q3), .second, .val (.int p4), .val (.long (1048576 : Int64)), .second, .val (.long ia), .second, .val (.long ib), .second, .unset, .unset, .unset, .unset, .unset, .unset, .unset, .unset, .unset, .unset] []))
  refine OwnGo.of (A := T44.setTop (mkF m 24 #[.val (.long q0), .second, .val (.long q1), .second, .val (.long q2), .second, .val (.long q3), .second, .val (.int p4), .val (.long (1048576 : Int64)), .second, .val (.long ia), .second, .val (.long ib), .second, .unset, .unset, .unset, .unset, .unset, .unset, .unset, .unset, .unset, .unset] [])) (B := T44.setTop (mkF m 30 #[.val (.long q0), .second, .val (.long q1), .second, .val (.long q2), .second, .val (.long q3), .second, .val (.int p4), .val (.long (1048576 : Int64)), .second, .val (.long ia), .second, .val (.long ib), .second, .unset, .unset, .unset, .unset, .unset, .unset, .unset, .unset, .unset, .unset] [(.int (p4 >>> ((2 : Int32) &&& 31))), (.long q3)])) (fun t k => ?_) ?_
  · show Steps p.tables e below (T44.setTop (mkF m 24 #[.val (.long q0), .second, .val (.long q1), .second, .val (.long q2), .second, .val (.long q3), .second, .val (.int p4), .val (.long (1048576 : Int64)), .second, .val (.long ia), .second, .val (.long ib), .second, .unset, .unset, .unset, .unset, .unset, .unset, .unset, .unset, .unset, .unset] [])) t
    refine XS.lload X44.here hx rfl (hb hby at_24) rfl ?_
    show Steps p.tables e below (T44.setTop (mkF m 26 #[.val (.long q0), .second, .val (.long q1), .second, .val (.long q2), .second, .val (.long q3), .second, .val (.int p4), .val (.long (1048576 : Int64)), .second, .val (.long ia), .second, .val (.long ib), .second, .unset, .unset, .unset, .unset, .unset, .unset, .unset, .unset, .unset, .unset] [(.long q3)])) t
    refine XS.iload X44.here hx rfl (hb hby at_26) rfl ?_
    show Steps p.tables e below (T44.setTop (mkF m 28 #[.val (.long q0), .second, .val (.long q1), .second, .val (.long q2), .second, .val (.long q3), .second, .val (.int p4), .val (.long (1048576 : Int64)), .second, .val (.long ia), .second, .val (.long ib), .second, .unset, .unset, .unset, .unset, .unset, .unset, .unset, .unset, .unset, .unset] [(.int p4), (.long q3)])) t
    refine XS.iconst X44.here hx rfl (hb hby at_28) ?_
    show Steps p.tables e below (T44.setTop (mkF m 29 #[.val (.long q0), .second, .val (.long q1), .second, .val (.long q2), .second, .val (.long q3), .second, .val (.int p4), .val (.long (1048576 : Int64)), .second, .val (.long ia), .second, .val (.long ib), .second, .unset, .unset, .unset, .unset, .unset, .unset, .unset, .unset, .unset, .unset] [(.int (2 : Int32)), (.int p4), (.long q3)])) t
    refine XS.ishr X44.here hx rfl (hb hby at_29) rfl ?_
    exact k
  obtain ⟨T45, L45, v45, X45, hQ45, st45⟩ := own_callS X44 hx (y := (⟨"com/example/sevenfold/sevenfold/PackedTablesTakePinLaw", "pick", "(JI)J"⟩ : MethodName)) hown (mvT hZ (hw _ (List.mem_of_getElem? (i := 1) rfl))) (mvT hZ (hw _ (List.mem_of_getElem? (i := 2) rfl))) (mvT hZ (hw _ (List.mem_of_getElem? (i := 3) rfl))) (mvT hZ (hw _ (List.mem_of_getElem? (i := 4) rfl))) (by decide) (backOf (W := 0) (rm1 l Z aw hw [] q3 (p4 >>> ((2 : Int32) &&& 31))  h0 n0 Z0 ) hZ (hw _ (List.mem_of_getElem? (i := 4) rfl)) (hw _ (List.mem_of_getElem? (i := 3) rfl)) (by decide) (by decide)) (g := (mkF m 30 #[.val (.long q0), .second, .val (.long q1), .second, .val (.long q2), .second, .val (.long q3), .second, .val (.int p4), .val (.long (1048576 : Int64)), .second, .val (.long ia), .second, .val (.long ib), .second, .unset, .unset, .unset, .unset, .unset, .unset, .unset, .unset, .unset, .unset] [(.int (p4 >>> ((2 : Int32) &&& 31))), (.long q3)])) rfl (by rw [hml]; rfl) (argsL := [(.long q3), (.int (p4 >>> ((2 : Int32) &&& 31)))]) (rest := []) (lenOf pd_5 rfl) rfl (by show 2 * 0 + _ ≤ _; exact Nat.le_of_eq rfl) (hb hby at_30) rfl eq44 (by decide) (by decide)
  obtain ⟨rfl, N45q, eq45⟩ := hQ45
  have N45 := Fr.app N44 N45q
  refine OwnGo.of st45 ?_
  show OwnGo p.tables e below _ (T45.setTop (mkF m 33 #[.val (.long q0), .second, .val (.long q1), .second, .val (.long q2), .second, .val (.long q3), .second, .val (.int p4), .val (.long (1048576 : Int64)), .second, .val (.long ia), .second, .val (.long ib), .second, .unset, .unset, .unset, .unset, .unset, .unset, .unset, .unset, .unset, .unset] [(.long (own_pick q3 (p4 >>> ((2 : Int32) &&& 31))))]))
  refine OwnGo.of (A := T45.setTop (mkF m 33 #[.val (.long q0), .second, .val (.long q1), .second, .val (.long q2), .second, .val (.long q3), .second, .val (.int p4), .val (.long (1048576 : Int64)), .second, .val (.long ia), .second, .val (.long ib), .second, .unset, .unset, .unset, .unset, .unset, .unset, .unset, .unset, .unset, .unset] [(.long (own_pick q3 (p4 >>> ((2 : Int32) &&& 31))))])) (B := T45.setTop (mkF m 35 #[.val (.long q0), .second, .val (.long q1), .second, .val (.long q2), .second, .val (.long q3), .second, .val (.int p4), .val (.long (1048576 : Int64)), .second, .val (.long ia), .second, .val (.long ib), .second, .val (.long (own_pick q3 (p4 >>> ((2 : Int32) &&& 31)))), .second, .unset, .unset, .unset, .unset, .unset, .unset, .unset, .unset] [])) (fun t k => ?_) ?_
  · show Steps p.tables e below (T45.setTop (mkF m 33 #[.val (.long q0), .second, .val (.long q1), .second, .val (.long q2), .second, .val (.long q3), .second, .val (.int p4), .val (.long (1048576 : Int64)), .second, .val (.long ia), .second, .val (.long ib), .second, .unset, .unset, .unset, .unset, .unset, .unset, .unset, .unset, .unset, .unset] [(.long (own_pick q3 (p4 >>> ((2 : Int32) &&& 31))))])) t
    refine XS.lstore X45.here hx rfl (hb hby at_33) rfl (l' := #[.val (.long q0), .second, .val (.long q1), .second, .val (.long q2), .second, .val (.long q3), .second, .val (.int p4), .val (.long (1048576 : Int64)), .second, .val (.long ia), .second, .val (.long ib), .second, .val (.long (own_pick q3 (p4 >>> ((2 : Int32) &&& 31)))), .second, .unset, .unset, .unset, .unset, .unset, .unset, .unset, .unset]) rfl ?_
    exact k
  obtain ⟨ic, hic⟩ : ∃ z, z = (own_pick q3 (p4 >>> ((2 : Int32) &&& 31))) := ⟨_, rfl⟩
  have nic : 0 ≤ ic.toInt := by subst hic; exact own_pick_nn _ _
  rw [← hic]
  show OwnGo p.tables e below _ (T45.setTop (mkF m 35 #[.val (.long q0), .second, .val (.long q1), .second, .val (.long q2), .second, .val (.long q3), .second, .val (.int p4), .val (.long (1048576 : Int64)), .second, .val (.long ia), .second, .val (.long ib), .second, .val (.long ic), .second, .unset, .unset, .unset, .unset, .unset, .unset, .unset, .unset] []))
  obtain ⟨T46, h46, X46, e46, E46, A46, D46, -, st46⟩ := newO X45 hx hZ hown (hw _ (List.mem_of_getElem? (i := 7) rfl)) (hw _ (List.mem_of_getElem? (i := 8) rfl)) (hw _ (List.mem_of_getElem? (i := 9) rfl)) eq45 (g := (mkF m 35 #[.val (.long q0), .second, .val (.long q1), .second, .val (.long q2), .second, .val (.long q3), .second, .val (.int p4), .val (.long (1048576 : Int64)), .second, .val (.long ia), .second, .val (.long ib), .second, .val (.long ic), .second, .unset, .unset, .unset, .unset, .unset, .unset, .unset, .unset] [])) rfl (hb hby at_35) (by decide) (by decide)
  obtain ⟨b46, g46⟩ : ∃ z, z = h0.size := ⟨_, rfl⟩
  rw [← g46] at A46 D46 st46
  refine OwnGo.of st46 ?_
  have g_b46 : n0 ≤ b46 := Nat.le_trans Z0 (Nat.le_of_eq g46.symm)
  have f47 : n0 ≤ h46.size := Nat.le_trans Z0 E46.1
  have f48 : Fld Z h46 b46 "com/example/sevenfold/sevenfold/PackedTables" "keys" "Lcom/example/sevenfold/sevenfold/PackedTables$Texts;" .null := D46 (Or.inr (hw _ (List.mem_of_getElem? (i := 30) rfl))) (ty := (.object "com/example/sevenfold/sevenfold/PackedTables$Texts")) (by decide)
  have f49 : Fld Z h46 b46 "com/example/sevenfold/sevenfold/PackedTables" "strings" "Lcom/example/sevenfold/sevenfold/PackedTables$Texts;" .null := D46 (Or.inr (hw _ (List.mem_of_getElem? (i := 32) rfl))) (ty := (.object "com/example/sevenfold/sevenfold/PackedTables$Texts")) (by decide)
  have f50 : Fld Z h46 b46 "com/example/sevenfold/sevenfold/PackedTables" "shapeKeys" "[I" .null := D46 (Or.inl (hw _ (List.mem_of_getElem? (i := 34) rfl))) (ty := (.array .int)) (by decide)
  have f51 : Fld Z h46 b46 "com/example/sevenfold/sevenfold/PackedTables" "shapeEnds" "[I" .null := D46 (Or.inl (hw _ (List.mem_of_getElem? (i := 36) rfl))) (ty := (.array .int)) (by decide)
  have f52 : Fld Z h46 b46 "com/example/sevenfold/sevenfold/PackedTables" "start" "J" (.long (0 : Int64)) := D46 (Or.inr (hw _ (List.mem_of_getElem? (i := 38) rfl))) (ty := .long) (by decide)
  have f53 : Fld Z h46 b46 "com/example/sevenfold/sevenfold/PackedTables" "size" "I" (.int (0 : Int32)) := D46 (Or.inl (hw _ (List.mem_of_getElem? (i := 46) rfl))) (ty := .int) (by decide)
  show OwnGo p.tables e below _ (T46.setTop (mkF m 38 #[.val (.long q0), .second, .val (.long q1), .second, .val (.long q2), .second, .val (.long q3), .second, .val (.int p4), .val (.long (1048576 : Int64)), .second, .val (.long ia), .second, .val (.long ib), .second, .val (.long ic), .second, .unset, .unset, .unset, .unset, .unset, .unset, .unset, .unset] [(.ref b46)]))
  refine OwnGo.of (A := T46.setTop (mkF m 38 #[.val (.long q0), .second, .val (.long q1), .second, .val (.long q2), .second, .val (.long q3), .second, .val (.int p4), .val (.long (1048576 : Int64)), .second, .val (.long ia), .second, .val (.long ib), .second, .val (.long ic), .second, .unset, .unset, .unset, .unset, .unset, .unset, .unset, .unset] [(.ref b46)])) (B := T46.setTop (mkF m 40 #[.val (.long q0), .second, .val (.long q1), .second, .val (.long q2), .second, .val (.long q3), .second, .val (.int p4), .val (.long (1048576 : Int64)), .second, .val (.long ia), .second, .val (.long ib), .second, .val (.long ic), .second, .unset, .unset, .unset, .unset, .unset, .unset, .unset, .unset] [(.long q0), (.ref b46), (.ref b46)])) (fun t k => ?_) ?_
  · show Steps p.tables e below (T46.setTop (mkF m 38 #[.val (.long q0), .second, .val (.long q1), .second, .val (.long q2), .second, .val (.long q3), .second, .val (.int p4), .val (.long (1048576 : Int64)), .second, .val (.long ia), .second, .val (.long ib), .second, .val (.long ic), .second, .unset, .unset, .unset, .unset, .unset, .unset, .unset, .unset] [(.ref b46)])) t
    refine XS.dup X46.here hx rfl (hb hby at_38) rfl rfl ?_
    show Steps p.tables e below (T46.setTop (mkF m 39 #[.val (.long q0), .second, .val (.long q1), .second, .val (.long q2), .second, .val (.long q3), .second, .val (.int p4), .val (.long (1048576 : Int64)), .second, .val (.long ia), .second, .val (.long ib), .second, .val (.long ic), .second, .unset, .unset, .unset, .unset, .unset, .unset, .unset, .unset] [(.ref b46), (.ref b46)])) t
    refine XS.lloadN X46.here hx rfl (hb hby at_39) rfl ?_
    exact k
  obtain ⟨T54, L54, v54, X54, hQ54, st54⟩ := own_callI X46 hx (y := (⟨"com/example/sevenfold/sevenfold/PackedTables", "<init>", "(J)V"⟩ : MethodName)) rfl hown (mvT hZ (hw _ (List.mem_of_getElem? (i := 10) rfl))) (mvT hZ (hw _ (List.mem_of_getElem? (i := 11) rfl))) (mvT hZ (hw _ (List.mem_of_getElem? (i := 12) rfl))) (by decide) (backOf (W := 1) (rm2 l Z aw hw [] b46 q0  h46 n0 f47 A46 f48 f49 f50 f51 f52 f53 g_b46) hZ (hw _ (List.mem_of_getElem? (i := 12) rfl)) (hw _ (List.mem_of_getElem? (i := 9) rfl)) (by decide) (by decide)) (g := (mkF m 40 #[.val (.long q0), .second, .val (.long q1), .second, .val (.long q2), .second, .val (.long q3), .second, .val (.int p4), .val (.long (1048576 : Int64)), .second, .val (.long ia), .second, .val (.long ib), .second, .val (.long ic), .second, .unset, .unset, .unset, .unset, .unset, .unset, .unset, .unset] [(.long q0), (.ref b46), (.ref b46)])) rfl (by rw [hml]; rfl) (a := b46) (argsL := [(.long q0)]) (rest := [(.ref b46)]) (lenOf pd_6 rfl) rfl (by show 2 * 0 + _ ≤ _; exact Nat.le_of_eq rfl) (hb hby at_40) rfl e46 (by decide) (by decide)
  obtain ⟨rfl, N54q, K54, y54_0, y54_1⟩ := hQ54
  have f55 : n0 ≤ T54.heap.size := Nat.le_trans f47 K54.1
  have f56 : Exa Z T54.heap b46 "com/example/sevenfold/sevenfold/PackedTables" := A46.keep K54
  have N54 := Fr.app N45 N54q
  refine OwnGo.of st54 ?_
  show OwnGo p.tables e below _ (T54.setTop (mkF m 43 #[.val (.long q0), .second, .val (.long q1), .second, .val (.long q2), .second, .val (.long q3), .second, .val (.int p4), .val (.long (1048576 : Int64)), .second, .val (.long ia), .second, .val (.long ib), .second, .val (.long ic), .second, .unset, .unset, .unset, .unset, .unset, .unset, .unset, .unset] [(.ref b46)]))
  refine OwnGo.of (A := T54.setTop (mkF m 43 #[.val (.long q0), .second, .val (.long q1), .second, .val (.long q2), .second, .val (.long q3), .second, .val (.int p4), .val (.long (1048576 : Int64)), .second, .val (.long ia), .second, .val (.long ib), .second, .val (.long ic), .second, .unset, .unset, .unset, .unset, .unset, .unset, .unset, .unset] [(.ref b46)])) (B := T54.setTop (mkF m 48 #[.val (.long q0), .second, .val (.long q1), .second, .val (.long q2), .second, .val (.long q3), .second, .val (.int p4), .val (.long (1048576 : Int64)), .second, .val (.long ia), .second, .val (.long ib), .second, .val (.long ic), .second, .val (.ref b46), .val (.long (0 : Int64)), .second, .unset, .unset, .unset, .unset, .unset] [])) (fun t k => ?_) ?_
  · show Steps p.tables e below (T54.setTop (mkF m 43 #[.val (.long q0), .second, .val (.long q1), .second, .val (.long q2), .second, .val (.long q3), .second, .val (.int p4), .val (.long (1048576 : Int64)), .second, .val (.long ia), .second, .val (.long ib), .second, .val (.long ic), .second, .unset, .unset, .unset, .unset, .unset, .unset, .unset, .unset] [(.ref b46)])) t
    refine XS.astore X54.here hx rfl (hb hby at_43) rfl rfl (l' := #[.val (.long q0), .second, .val (.long q1), .second, .val (.long q2), .second, .val (.long q3), .second, .val (.int p4), .val (.long (1048576 : Int64)), .second, .val (.long ia), .second, .val (.long ib), .second, .val (.long ic), .second, .val (.ref b46), .unset, .unset, .unset, .unset, .unset, .unset, .unset]) rfl ?_
    show Steps p.tables e below (T54.setTop (mkF m 45 #[.val (.long q0), .second, .val (.long q1), .second, .val (.long q2), .second, .val (.long q3), .second, .val (.int p4), .val (.long (1048576 : Int64)), .second, .val (.long ia), .second, .val (.long ib), .second, .val (.long ic), .second, .val (.ref b46), .unset, .unset, .unset, .unset, .unset, .unset, .unset] [])) t
    refine XS.lconst X54.here hx rfl (hb hby at_45) ?_
    show Steps p.tables e below (T54.setTop (mkF m 46 #[.val (.long q0), .second, .val (.long q1), .second, .val (.long q2), .second, .val (.long q3), .second, .val (.int p4), .val (.long (1048576 : Int64)), .second, .val (.long ia), .second, .val (.long ib), .second, .val (.long ic), .second, .val (.ref b46), .unset, .unset, .unset, .unset, .unset, .unset, .unset] [(.long (0 : Int64))])) t
    refine XS.lstore X54.here hx rfl (hb hby at_46) rfl (l' := #[.val (.long q0), .second, .val (.long q1), .second, .val (.long q2), .second, .val (.long q3), .second, .val (.int p4), .val (.long (1048576 : Int64)), .second, .val (.long ia), .second, .val (.long ib), .second, .val (.long ic), .second, .val (.ref b46), .val (.long (0 : Int64)), .second, .unset, .unset, .unset, .unset, .unset]) rfl ?_
    exact k
  exact J48 T54 _ _ (.val (.long q0)) (.second) (.val (.long q1)) (.second) (.val (.long q2)) (.second) (.val (.long q3)) (.second) (.val (.int p4)) ia ib ic (0 : Int64) b46 (0 : Int32) X54 rfl N54 f55 g_b46 y54_0 y54_1 nia nib nic ⟨by decide, by decide, by decide⟩
set_option maxRecDepth 65536 in
set_option maxHeartbeats 40000000 in
theorem comes_1 {Post : Tables → Env → Array Value → State → Outcome → State → Prop} (hpost : ∀ tb e args s v u, (limb_1_1.after args s (.returned v) u = true ∧ limb_1_2.after args s (.returned v) u = true ∧ True) → FrameEnd s (.returned v) u (Jvm.fieldLocs frame_1_writes args s ++ Jvm.arrayLocs frame_1_arrays args s ++ Jvm.staticLocs frame_1_statics s) 32 448 → Post tb e args s (.returned v) u) :
    ArmFor flags0 classFile x code maxLocals ret World_1 tables_1 room_1 Calls_1 rest_1 Pre_1 Post := by
  intro l hfl _ _ p e ha hc hk s m args below hf hA hF happ hP
  obtain ⟨hcalls, hrest, hpre⟩ := hP
  obtain ⟨-, -, -, hnamed, -, -, -, hat⟩ := (Spec.applies_iff hf).mp happ
  obtain ⟨hg, hn⟩ := and_e (Cond.before_iff.mp (show (Jvm.Cond.and given_1 narrow_1).before args s = true from hpre))
  obtain ⟨gg1, gg2⟩ := and_e hg
  obtain ⟨gg3, gg4⟩ := and_e gg2
  obtain ⟨gg5, gg6⟩ := and_e gg4
  obtain ⟨gg7, gg8⟩ := and_e gg6
  obtain ⟨gg9, gg10⟩ := and_e gg8
  obtain ⟨w0, w1, w2, w3, w4, rfl⟩ : ∃ w0 w1 w2 w3 w4 : Value, args = #[w0, w1, w2, w3, w4] := by
    have hs : args.size = 5 := by simpa [Cond.value, given_1] using gg1
    obtain ⟨L⟩ := args
    match L, hs with
    | [w0, w1, w2, w3, w4], _ => exact ⟨w0, w1, w2, w3, w4, rfl⟩
  have hw := fun d (hd : d ∈ tables_1) => atoms_spec (ws := Jvm.Cond.code x code maxLocals ret :: tables_1) hat d (List.mem_cons_of_mem _ hd)
  have hfit : Fit s := fun {y c} hc i hi => by
    obtain ⟨ha, rfl⟩ := Array.getElem?_eq_some_iff.mp hc
    have q := List.all_eq_true.mp ((Array.all_eq_true_iff_forall_mem.mp hF) _ (Array.getElem_mem ha)) i (List.mem_range.mpr hi)
    simpa [Array.getElem?_eq_getElem hi] using q
  obtain ⟨i0, ei0⟩ := isL_v gg3
  obtain rfl : w0 = (.long i0) := Option.some.inj ei0
  obtain ⟨i1, ei1⟩ := isL_v gg5
  obtain rfl : w1 = (.long i1) := Option.some.inj ei1
  obtain ⟨i2, ei2⟩ := isL_v gg7
  obtain rfl : w2 = (.long i2) := Option.some.inj ei2
  obtain ⟨i3, ei3⟩ := isL_v gg9
  obtain rfl : w3 = (.long i3) := Option.some.inj ei3
  obtain ⟨i4, ei4⟩ := is_v gg10
  obtain rfl : w4 = (.int i4) := Option.some.inj ei4
  obtain ⟨n, o, h1, h2, h3, _, L, rfl, ⟨rfl, N⟩, hq⟩ := rm0 l s _ hw tables_1 i0 i1 i2 i3 i4  s.heap s.heap.size (Nat.le_refl _)  p e ha hc hk s m _ below hf ((Spec.applies_iff_loose hf).mp happ).1 ⟨rfl, State.Warmed39.refl s, rfl⟩ trivial
  refine ⟨n, _, h1, h2, h3, hpost _ _ _ _ _ _ ⟨Cond.after_iff.mpr rfl, Cond.after_iff.mpr (eq_i res_at (Term.int_eval (1)) rfl), trivial⟩ ⟨hq.1, hq.2.1, (hq.2.2.sift fun y hy => Or.inr (N y hy)).mono (by decide) (by decide)⟩⟩
theorem main_1_1 : Claimed_1_1 := comes_1 fun _ _ _ _ _ _ h hF => ⟨h.1, hF⟩
theorem main_1_2 : Claimed_1_2 := comes_1 fun _ _ _ _ _ _ h hF => ⟨h.2.1, hF⟩
end Jvm.Pilot.@@N@@
namespace Jvm.Pilot.@@N@@
open Jvm Jvm.ClassFile Sem Op Lib Jvm.Free Jvm.Stand Jvm.Pilot.@@N@@.Jvm.D
/-! MADE BY PROGRAM (witnessworld.py) out of the Statement's table words and the real class files: 12 classes; the members and pool entries that the words name. The judged class is class 1, her method 2. -/
namespace start1
open Jvm.ClassFile
def u (s : String) : CpInfo := .utf8 (stringToUtf16 s)
/-- a pool by its gaps: so many unusable entries, then the entry; so many at the end -/
def gap : Nat → List CpInfo → List CpInfo
  | 0, r => r
  | n + 1, r => .unusable :: gap n r
def poolList (es : List (Nat × CpInfo)) (last : Nat) : List CpInfo := es.foldr (fun e r => gap e.1 (e.2 :: r)) (gap last [])
def pool (es : List (Nat × CpInfo)) (last : Nat) : Array CpInfo := ⟨poolList es last⟩
def fileOf (pool : Array CpInfo) (this : Nat) (attrs : Array Attribute := #[]) (ms : Array MethodInfo := #[]) (fl : Nat := 33) (sup : Nat := 0) (ifs : Array Nat := #[]) (fds : Array FieldInfo := #[]) : ClassFile where
  minorVersion := 0
  majorVersion := 65
  constantPool := pool
  accessFlags := fl
  thisClass := this
  superClass := sup
  interfaces := ifs
  fields := fds
  methods := ms
  attributes := attrs
def plain (name : String) (sup : Option ClassId) : Class where
  name := name
  kind := .ordinary
  loader := none
  accessFlags := 33
  super := sup
  interfaces := #[]
  cf := none
  fields := #[]
  methods := #[]
  instanceTypes := #[]
  staticTypes := #[]
  resolved := #[]
  callSites := []
  init := .initialized
  statics := none
  mirror := none

def pool0 : Array CpInfo := pool [(5, u "<init>"), (0, u "()V"), (1, .class_ 10), (1, u "java/lang/Object")] 113

def k0c0 : Code := { maxStack := 0, maxLocals := 1, code := object_method_1_code, exceptionTable := #[], attributes := #[] }
def k0m0 : Method := { name := "<init>", desc := "()V", sig := { parameters := [], returnType := none }, accessFlags := 1, code := some k0c0 }
/-- java/lang/Object -/
def k0 : Class := { plain "java/lang/Object" none with
  accessFlags := 33
  interfaces := #[]
  cf := some (fileOf pool0 8 #[] #[{ accessFlags := 1, nameIndex := 5, descriptorIndex := 6, attributes := #[] }] 33 0 #[] #[])
  fields := #[]
  methods := #[k0m0]
  instanceTypes := #[]
  staticTypes := #[]
  resolved := Array.replicate 124 none
  statics := none }

def pool1 : Array CpInfo := pool [(2, .class_ 4), (1, u "java/lang/Object"), (0, u "<init>"), (0, u "()V"), (2, .long 9223372036854775807), (1, .long 2097151), (1, .class_ 14), (0, u "com/example/sevenfold/sevenfold/PackedTables"), (0, .long 1048576), (1, .methodref 18 19), (0, .class_ 20), (0, .nameAndType 21 22), (0, u "com/example/sevenfold/sevenfold/PackedTablesTakePinLaw"), (0, u "pick"), (0, u "(JI)J"), (0, .methodref 13 24), (0, .nameAndType 5 25), (0, u "(J)V"), (0, .methodref 13 27), (0, .nameAndType 28 29), (0, u "take"), (0, u "(J)Z"), (3, u "law"), (0, u "(JJJJI)Z")] 2

def k1m0 : Method := { name := "<init>", desc := "()V", sig := { parameters := [], returnType := none }, accessFlags := 1, code := none }
def k1c1 : Code := { maxStack := 4, maxLocals := 3, code := method_2_code, exceptionTable := #[], attributes := #[] }
def k1m1 : Method := { name := "pick", desc := "(JI)J", sig := { parameters := [.long, .int], returnType := some .long }, accessFlags := 10, code := some k1c1 }
def k1c2 : Code := { maxStack := 6, maxLocals := 25, code := code, exceptionTable := #[], attributes := #[] }
def k1m2 : Method := { name := "law", desc := "(JJJJI)Z", sig := { parameters := [.long, .long, .long, .long, .int], returnType := some .boolean }, accessFlags := 9, code := some k1c2 }
/-- com/example/sevenfold/sevenfold/PackedTablesTakePinLaw -/
def k1 : Class := { plain "com/example/sevenfold/sevenfold/PackedTablesTakePinLaw" (some 0) with
  accessFlags := 49
  interfaces := #[]
  cf := some (fileOf pool1 18 #[] #[{ accessFlags := 1, nameIndex := 5, descriptorIndex := 6, attributes := #[] }, { accessFlags := 10, nameIndex := 21, descriptorIndex := 22, attributes := #[] }, { accessFlags := 9, nameIndex := 33, descriptorIndex := 34, attributes := #[] }] 49 2 #[] #[])
  fields := #[]
  methods := #[k1m0, k1m1, k1m2]
  instanceTypes := #[]
  staticTypes := #[]
  resolved := Array.replicate 37 none
  statics := none }

def pool2 : Array CpInfo := pool [(1, .methodref 2 3), (0, .class_ 4), (0, .nameAndType 5 6), (0, u "java/lang/Object"), (0, u "<init>"), (0, u "()V"), (0, .class_ 8), (0, u "com/example/sevenfold/sevenfold/PackedTables$Texts"), (0, .methodref 7 3), (0, .fieldref 11 12), (0, .class_ 13), (0, .nameAndType 14 15), (0, u "com/example/sevenfold/sevenfold/PackedTables"), (0, u "keys"), (0, u "Lcom/example/sevenfold/sevenfold/PackedTables$Texts;"), (0, .fieldref 11 17), (0, .nameAndType 18 15), (0, u "strings"), (0, .fieldref 11 20), (0, .nameAndType 21 22), (0, u "shapeKeys"), (0, u "[I"), (0, .fieldref 11 24), (0, .nameAndType 25 22), (0, u "shapeEnds"), (0, .fieldref 11 27), (0, .nameAndType 28 29), (0, u "start"), (0, u "J"), (4, .integer 1048576), (0, .fieldref 11 36), (0, .nameAndType 37 38), (0, u "size"), (0, u "I"), (6, u "shapeKeyCount"), (12, u "shapes"), (20, u "MAX_SIZE"), (1, u "GIVEN_ALLOWANCE"), (0, u "GIVEN_PER_BYTE"), (0, u "(J)V"), (6, u "take"), (0, u "(J)Z")] 19

def k2c0 : Code := { maxStack := 3, maxLocals := 3, code := prog_9_method_1_code, exceptionTable := #[], attributes := #[] }
def k2m0 : Method := { name := "<init>", desc := "(J)V", sig := { parameters := [.long], returnType := none }, accessFlags := 0, code := some k2c0 }
def k2c1 : Code := { maxStack := 4, maxLocals := 3, code := prog_9_method_4_code, exceptionTable := #[], attributes := #[] }
def k2m1 : Method := { name := "take", desc := "(J)Z", sig := { parameters := [.long], returnType := some .boolean }, accessFlags := 0, code := some k2c1 }
/-- com/example/sevenfold/sevenfold/PackedTables -/
def k2 : Class := { plain "com/example/sevenfold/sevenfold/PackedTables" (some 0) with
  accessFlags := 48
  interfaces := #[]
  cf := some (fileOf pool2 11 #[.nestMembers #[7]] #[{ accessFlags := 0, nameIndex := 5, descriptorIndex := 83, attributes := #[] }, { accessFlags := 0, nameIndex := 90, descriptorIndex := 91, attributes := #[] }] 48 2 #[] #[{ accessFlags := 24, nameIndex := 79, descriptorIndex := 38, attributes := #[] }, { accessFlags := 26, nameIndex := 81, descriptorIndex := 29, attributes := #[] }, { accessFlags := 24, nameIndex := 82, descriptorIndex := 29, attributes := #[] }, { accessFlags := 18, nameIndex := 28, descriptorIndex := 29, attributes := #[] }, { accessFlags := 18, nameIndex := 14, descriptorIndex := 15, attributes := #[] }, { accessFlags := 18, nameIndex := 18, descriptorIndex := 15, attributes := #[] }, { accessFlags := 2, nameIndex := 21, descriptorIndex := 22, attributes := #[] }, { accessFlags := 2, nameIndex := 25, descriptorIndex := 22, attributes := #[] }, { accessFlags := 2, nameIndex := 58, descriptorIndex := 38, attributes := #[] }, { accessFlags := 2, nameIndex := 45, descriptorIndex := 38, attributes := #[] }, { accessFlags := 2, nameIndex := 37, descriptorIndex := 38, attributes := #[] }])
  fields := #[{ name := "MAX_SIZE", type := .int, accessFlags := 24, slot := 0, constantValue := 0 }, { name := "GIVEN_ALLOWANCE", type := .long, accessFlags := 26, slot := 1, constantValue := 0 }, { name := "GIVEN_PER_BYTE", type := .long, accessFlags := 24, slot := 2, constantValue := 0 }, { name := "start", type := .long, accessFlags := 18, slot := 0, constantValue := 0 }, { name := "keys", type := (.object "com/example/sevenfold/sevenfold/PackedTables$Texts"), accessFlags := 18, slot := 1, constantValue := 0 }, { name := "strings", type := (.object "com/example/sevenfold/sevenfold/PackedTables$Texts"), accessFlags := 18, slot := 2, constantValue := 0 }, { name := "shapeKeys", type := (.array .int), accessFlags := 2, slot := 3, constantValue := 0 }, { name := "shapeEnds", type := (.array .int), accessFlags := 2, slot := 4, constantValue := 0 }, { name := "shapes", type := .int, accessFlags := 2, slot := 5, constantValue := 0 }, { name := "shapeKeyCount", type := .int, accessFlags := 2, slot := 6, constantValue := 0 }, { name := "size", type := .int, accessFlags := 2, slot := 7, constantValue := 0 }]
  methods := #[k2m0, k2m1]
  instanceTypes := #[.long, (.object "com/example/sevenfold/sevenfold/PackedTables$Texts"), (.object "com/example/sevenfold/sevenfold/PackedTables$Texts"), (.array .int), (.array .int), .int, .int, .int]
  staticTypes := #[.int, .long, .long]
  resolved := ((Array.replicate 111 none).setIfInBounds 7 (some (.cls 3))).setIfInBounds 9 (some (.method ⟨3, 0⟩))
  statics := none }

def pool3 : Array CpInfo := pool [(1, .methodref 2 3), (0, .class_ 4), (0, .nameAndType 5 6), (0, u "java/lang/Object"), (0, u "<init>"), (0, u "()V"), (0, .fieldref 8 9), (0, .class_ 10), (0, .nameAndType 11 12), (0, u "com/example/sevenfold/sevenfold/PackedTables$Texts"), (0, u "chars"), (0, u "[C"), (0, .fieldref 8 14), (0, .nameAndType 15 16), (0, u "ends"), (0, u "[I"), (2, u "count"), (0, u "I"), (7, .class_ 30), (1, u "com/example/sevenfold/sevenfold/PackedTables")] 30

def k3c0 : Code := { maxStack := 2, maxLocals := 1, code := prog_10_method_1_code, exceptionTable := #[], attributes := #[] }
def k3m0 : Method := { name := "<init>", desc := "()V", sig := { parameters := [], returnType := none }, accessFlags := 2, code := some k3c0 }
/-- com/example/sevenfold/sevenfold/PackedTables$Texts -/
def k3 : Class := { plain "com/example/sevenfold/sevenfold/PackedTables$Texts" (some 0) with
  accessFlags := 48
  interfaces := #[]
  cf := some (fileOf pool3 8 #[.nestHost 28] #[{ accessFlags := 2, nameIndex := 5, descriptorIndex := 6, attributes := #[] }] 48 2 #[] #[{ accessFlags := 2, nameIndex := 11, descriptorIndex := 12, attributes := #[] }, { accessFlags := 2, nameIndex := 15, descriptorIndex := 16, attributes := #[] }, { accessFlags := 2, nameIndex := 19, descriptorIndex := 20, attributes := #[] }])
  fields := #[{ name := "chars", type := (.array .char), accessFlags := 2, slot := 0, constantValue := 0 }, { name := "ends", type := (.array .int), accessFlags := 2, slot := 1, constantValue := 0 }, { name := "count", type := .int, accessFlags := 2, slot := 2, constantValue := 0 }]
  methods := #[k3m0]
  instanceTypes := #[(.array .char), (.array .int), .int]
  staticTypes := #[]
  resolved := Array.replicate 61 none
  statics := none }

def pool4 : Array CpInfo := pool [(1, u "java/lang/Cloneable"), (0, .class_ 1), (0, u "java/lang/Object"), (0, .class_ 3)] 3

/-- java/lang/Cloneable -/
def k4 : Class := { plain "java/lang/Cloneable" (some 0) with
  accessFlags := 1537
  interfaces := #[]
  cf := some (fileOf pool4 2 #[] #[] 1537 4 #[] #[])
  fields := #[]
  methods := #[]
  instanceTypes := #[]
  staticTypes := #[]
  resolved := Array.replicate 8 none
  statics := none }

def pool5 : Array CpInfo := pool [(1, u "java/io/Serializable"), (0, .class_ 1), (0, u "java/lang/Object"), (0, .class_ 3)] 3

/-- java/io/Serializable -/
def k5 : Class := { plain "java/io/Serializable" (some 0) with
  accessFlags := 1537
  interfaces := #[]
  cf := some (fileOf pool5 2 #[] #[] 1537 4 #[] #[])
  fields := #[]
  methods := #[]
  instanceTypes := #[]
  staticTypes := #[]
  resolved := Array.replicate 8 none
  statics := none }

/-- the primitive byte -/
def k6 : Class := { plain "byte" none with kind := .primitive 'B', accessFlags := 0x411 }
/-- [B -/
def k7 : Class := { plain "[B" (some 0) with kind := .array 6 .byte, interfaces := #[4, 5], accessFlags := 1041 }

/-- the primitive char -/
def k8 : Class := { plain "char" none with kind := .primitive 'C', accessFlags := 0x411 }
/-- [C -/
def k9 : Class := { plain "[C" (some 0) with kind := .array 8 .char, interfaces := #[4, 5], accessFlags := 1041 }

/-- the primitive int -/
def k10 : Class := { plain "int" none with kind := .primitive 'I', accessFlags := 0x411 }
/-- [I -/
def k11 : Class := { plain "[I" (some 0) with kind := .array 10 .int, interfaces := #[4, 5], accessFlags := 1041 }

def heap : Heap := #[]
def classes : Array Class := #[k0, k1, k2, k3, k4, k5, k6, k7, k8, k9, k10, k11]
def interned : List (Array UInt16 × Addr) := []
def slotsUsed : Nat := 0
def theMethod : MethodId := ⟨1, 2⟩
def args0 : Array Value := #[.long 3, .long 4, .long 5, .long 6, .int 7]
def aboutOver (below : List Frame) : State where
  vm := { classes := classes, interned := interned.toArray }
  heap := heap
  slotsUsed := slotsUsed
  threads := #[{ frames := .invoking theMethod args0 :: below }]
def below0 : List Frame := [.native { method := ⟨0, 0⟩, args := #[] }]
def about1 : State := aboutOver below0
def p0 : Program := .bare "" "" ""
def e0 : Env := launch0.env 0 0 0
theorem w_frames : about1.frames = Frame.invoking theMethod args0 :: below0 := rfl
set_option maxRecDepth 65536 in
theorem w_args : argsFit about1.vm theMethod args0 = true := by decide +kernel
set_option maxRecDepth 65536 in
theorem w_heap : heapFits about1 = true := by decide +kernel
set_option maxRecDepth 65536 in
theorem w_runnable : about1.curStatus? = some .runnable := by decide +kernel
set_option maxRecDepth 65536 in
theorem w_alone : about1.alone = true := by decide +kernel
set_option maxRecDepth 65536 in
theorem w_named : about1.methodNamed? x = some theMethod := by decide +kernel
set_option maxRecDepth 65536 in
theorem w_hears : about1.hears theMethod below0 = true := by decide +kernel
set_option maxRecDepth 65536 in
theorem w_ripe : about1.ripe theMethod args0 below0 = true := by decide +kernel
theorem w_running : about1.status = .running := rfl
set_option maxRecDepth 65536 in
theorem w_room : about1.hasRoom e0.platform room_1 = true :=
  launch0.hasRoom_least _ room_1 (by decide +kernel) (by decide +kernel) (by decide +kernel) (by decide +kernel) (by decide +kernel) (by decide +kernel)
theorem allAtoms_all (ts : List Jvm.Cond) (a : Array Jvm.Value) (st : Jvm.State) : (allAtoms ts).before a st = ts.all (fun c => c.before a st) := by
  induction ts with
  | nil => rfl
  | cons c t ih =>
    show (Jvm.Cond.and c (allAtoms t)).before a st = _
    rw [Jvm.Cond.before_and, ih, List.all_cons]
def words1 : List Jvm.Cond := Jvm.Cond.code x code maxLocals ret :: tables_1
/-- a 'code' word, met by the world's own term for the bytes: nothing is compared byte by byte -/
theorem code_word {y : MethodName} {bytes : ByteArray} {mx : Nat} {rt : Option FieldType} {a : Array Value} {s : State} {m : MethodId} {meth : Method} {c : Code} (h1 : s.methodNamed? y = some m) (h2 : s.vm.method? m = some meth) (h3 : meth.code = some c) (h4 : c.code = bytes)
    (h5 : (c.maxLocals == mx && c.exceptionTable.isEmpty && decide (c.maxStack ≤ mostOperands) && decide (meth.sig.returnType = rt) && !meth.locks && decide (parseMethodDescriptor y.desc = some meth.sig)) = true) : (Jvm.Cond.code y bytes mx rt).before a s = true := by
  simp only [Bool.and_eq_true, beq_iff_eq, Bool.not_eq_true', decide_eq_true_eq] at h5
  obtain ⟨⟨⟨⟨⟨g1, g2⟩, g3⟩, g4⟩, g5⟩, g6⟩ := h5
  simp [Cond.before, Cond.holds, Cond.value, h1, h2, h3, h4, g1, g2, g3, g4, g5, g6]
def isCode : Jvm.Cond → Bool
  | .code _ _ _ _ => true
  | _ => false
theorem all_split {L : List Jvm.Cond} {P : Jvm.Cond → Bool} (h1 : L.all (fun c => isCode c || P c) = true) (h2 : ∀ c ∈ L.filter isCode, P c = true) : L.all P = true := by
  refine List.all_eq_true.mpr fun c hc => ?_
  have h := List.all_eq_true.mp h1 c hc
  rcases Bool.eq_false_or_eq_true (isCode c) with hi | hi
  · exact h2 c (List.mem_filter.mpr ⟨hc, hi⟩)
  · simpa [hi] using h
set_option maxRecDepth 65536 in
theorem w_c0 : (Jvm.Cond.code x code maxLocals ret).before args0 about1 = true := code_word (m := ⟨1, 2⟩) (meth := k1m2) (c := k1c2) (by decide +kernel) rfl rfl rfl (by decide +kernel)
set_option maxRecDepth 65536 in
theorem w_c1 : (Jvm.Cond.code ({ cls := "com/example/sevenfold/sevenfold/PackedTablesTakePinLaw", name := "pick", desc := "(JI)J" } : Jvm.MethodName) method_2_code (3 : Nat) (Option.some Jvm.ClassFile.FieldType.long)).before args0 about1 = true := code_word (m := ⟨1, 1⟩) (meth := k1m1) (c := k1c1) (by decide +kernel) rfl rfl rfl (by decide +kernel)
set_option maxRecDepth 65536 in
theorem w_c2 : (Jvm.Cond.code ({ cls := "com/example/sevenfold/sevenfold/PackedTables", name := "<init>", desc := "(J)V" } : Jvm.MethodName) prog_9_method_1_code (3 : Nat) (Option.none : Option Jvm.ClassFile.FieldType)).before args0 about1 = true := code_word (m := ⟨2, 0⟩) (meth := k2m0) (c := k2c0) (by decide +kernel) rfl rfl rfl (by decide +kernel)
set_option maxRecDepth 65536 in
theorem w_c3 : (Jvm.Cond.code ({ cls := "java/lang/Object", name := "<init>", desc := "()V" } : Jvm.MethodName) object_method_1_code (1 : Nat) (Option.none : Option Jvm.ClassFile.FieldType)).before args0 about1 = true := code_word (m := ⟨0, 0⟩) (meth := k0m0) (c := k0c0) (by decide +kernel) rfl rfl rfl (by decide +kernel)
set_option maxRecDepth 65536 in
theorem w_c4 : (Jvm.Cond.code ({ cls := "com/example/sevenfold/sevenfold/PackedTables$Texts", name := "<init>", desc := "()V" } : Jvm.MethodName) prog_10_method_1_code (1 : Nat) (Option.none : Option Jvm.ClassFile.FieldType)).before args0 about1 = true := code_word (m := ⟨3, 0⟩) (meth := k3m0) (c := k3c0) (by decide +kernel) rfl rfl rfl (by decide +kernel)
set_option maxRecDepth 65536 in
theorem w_c5 : (Jvm.Cond.code ({ cls := "com/example/sevenfold/sevenfold/PackedTables", name := "take", desc := "(J)Z" } : Jvm.MethodName) prog_9_method_4_code (3 : Nat) (Option.some Jvm.ClassFile.FieldType.boolean)).before args0 about1 = true := code_word (m := ⟨2, 1⟩) (meth := k2m1) (c := k2c1) (by decide +kernel) rfl rfl rfl (by decide +kernel)
def codes1 : List Jvm.Cond := [Jvm.Cond.code x code maxLocals ret, Jvm.Cond.code ({ cls := "com/example/sevenfold/sevenfold/PackedTablesTakePinLaw", name := "pick", desc := "(JI)J" } : Jvm.MethodName) method_2_code (3 : Nat) (Option.some Jvm.ClassFile.FieldType.long), Jvm.Cond.code ({ cls := "com/example/sevenfold/sevenfold/PackedTables", name := "<init>", desc := "(J)V" } : Jvm.MethodName) prog_9_method_1_code (3 : Nat) (Option.none : Option Jvm.ClassFile.FieldType), Jvm.Cond.code ({ cls := "java/lang/Object", name := "<init>", desc := "()V" } : Jvm.MethodName) object_method_1_code (1 : Nat) (Option.none : Option Jvm.ClassFile.FieldType), Jvm.Cond.code ({ cls := "com/example/sevenfold/sevenfold/PackedTables$Texts", name := "<init>", desc := "()V" } : Jvm.MethodName) prog_10_method_1_code (1 : Nat) (Option.none : Option Jvm.ClassFile.FieldType), Jvm.Cond.code ({ cls := "com/example/sevenfold/sevenfold/PackedTables", name := "take", desc := "(J)Z" } : Jvm.MethodName) prog_9_method_4_code (3 : Nat) (Option.some Jvm.ClassFile.FieldType.boolean)]
set_option maxRecDepth 65536 in
theorem codes_eq : words1.filter isCode = codes1 := rfl
theorem w_codes : ∀ c ∈ words1.filter isCode, c.before args0 about1 = true := by
  rw [codes_eq]
  intro c hc
  simp only [codes1, List.mem_cons, List.not_mem_nil, or_false] at hc
  rcases hc with rfl | rfl | rfl | rfl | rfl | rfl
  · exact w_c0
  · exact w_c1
  · exact w_c2
  · exact w_c3
  · exact w_c4
  · exact w_c5
set_option maxRecDepth 65536 in
theorem w_t1 : (words1.take 24).all (fun c => isCode c || c.before args0 about1) = true := by decide +kernel
set_option maxRecDepth 65536 in
theorem w_t2 : (words1.drop 24).all (fun c => isCode c || c.before args0 about1) = true := by decide +kernel
theorem w_tables : (allAtoms (Jvm.Cond.code x code maxLocals ret :: tables_1)).before args0 about1 = true := by
  rw [allAtoms_all]
  show words1.all (fun c => c.before args0 about1) = true
  refine all_split ?_ w_codes
  rw [← List.take_append_drop 24 words1, List.all_append, w_t1, w_t2]
  rfl
set_option maxRecDepth 65536 in
theorem w_case : (Jvm.Cond.and given_1 narrow_1).before args0 about1 = true := by decide +kernel
theorem w_applies : (headSpec (Jvm.Cond.code x code maxLocals ret :: tables_1) room_1).applies x e0.platform about1 = true :=
  (Spec.applies_iff w_frames).mpr ⟨w_running, w_runnable, w_alone, w_named, w_hears, w_ripe, w_room, w_tables⟩
theorem atStart : AtStart classFile x code maxLocals ret World_1 tables_1 room_1 Calls_1 rest_1 Pre_1 launch0 p0 e0 about1 theMethod args0 below0 :=
  ⟨lists_1, trivial, launch0.admits_env _ _ _, launch0.least_env, fairChoices_fair.cas, fairChoices_fair.clock, w_frames, w_args, w_heap, w_applies, trivial, trivial, w_case⟩
end start1
theorem witness_1 : WitnessClaimed_1 := ⟨start1.p0, start1.e0, start1.about1, start1.theMethod, start1.args0, start1.below0, start1.atStart⟩
end Jvm.Pilot.@@N@@
