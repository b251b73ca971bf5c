import JvmDerived
import JvmDerived.Pilot.@@N@@Statement
import JvmDerived.Pilot.@@N@@Code
set_option linter.unusedVariables false
set_option linter.unusedSimpArgs false
namespace Jvm.Pilot.@@N@@
open Jvm Jvm.ClassFile Sem Op Lib Jvm.Free Jvm.Stand Jvm.LawKit Jvm.RoadKit Bundle Jvm.Pilot.@@N@@.Jvm.D
section OwnKit
variable {p : Program} {l : Launch} {e : Env} {R : Room} {s : State} {m : MethodId} {args : Array Value} {below : List Frame} {meth : Method} {c : Code} {T : State} {locs : List Loc} {cells slots : Nat}
theorem own_retI (X : Stand p l e R s m args below meth c T locs cells slots) (hx : p.tables.exec = Jvm.exec) {pc : Nat} {Ls : Array Slot} {z : Int32} {rest : List Value} (hret : meth.sig.returnType = some .int) (hd : decode c.code pc = .ok (.ireturn, 1)) {fs : List Frame}
    (hl : ∀ (f : JFrame) (acts : List Action), f.method = m → f.locked = none → f.entered = [] → (doReturn e (T.setTop f) acts (some (.int z))).1 = T.setFrames fs) : Steps p.tables e below (T.setTop (mkF m pc Ls (.int z :: rest))) (T.setFrames fs) :=
  retOut X hx hret rfl (Or.inl ⟨rfl, Or.inl rfl, z, rfl⟩) hd hl
theorem own_retL (X : Stand p l e R s m args below meth c T locs cells slots) (hx : p.tables.exec = Jvm.exec) {pc : Nat} {Ls : Array Slot} {z : Int64} {rest : List Value} (hret : meth.sig.returnType = some .long) (hd : decode c.code pc = .ok (.lreturn, 1)) {fs : List Frame}
    (hl : ∀ (f : JFrame) (acts : List Action), f.method = m → f.locked = none → f.entered = [] → (doReturn e (T.setTop f) acts (some (.long z))).1 = T.setFrames fs) : Steps p.tables e below (T.setTop (mkF m pc Ls (.long z :: rest))) (T.setFrames fs) :=
  retOut X hx hret rfl (Or.inr (Or.inl ⟨rfl, rfl, z, rfl⟩)) hd hl
theorem own_retD (X : Stand p l e R s m args below meth c T locs cells slots) (hx : p.tables.exec = Jvm.exec) {pc : Nat} {Ls : Array Slot} {z : UInt64} {rest : List Value} (hret : meth.sig.returnType = some .double) (hd : decode c.code pc = .ok (.dreturn, 1)) {fs : List Frame}
    (hl : ∀ (f : JFrame) (acts : List Action), f.method = m → f.locked = none → f.entered = [] → (doReturn e (T.setTop f) acts (some (.double z))).1 = T.setFrames fs) : Steps p.tables e below (T.setTop (mkF m pc Ls (.double z :: rest))) (T.setFrames fs) :=
  retOut X hx hret rfl (Or.inr (Or.inr (Or.inl ⟨rfl, rfl, z, rfl⟩))) hd hl
theorem own_retA (X : Stand p l e R s m args below meth c T locs cells slots) (hx : p.tables.exec = Jvm.exec) {pc : Nat} {Ls : Array Slot} {t : FieldType} {v : Value} {rest : List Value} (hret : meth.sig.returnType = some t) (ht : t.isReference = true) (hv : v.isRef = true) (hn : narrow t v = v) (hd : decode c.code pc = .ok (.areturn, 1)) {fs : List Frame}
    (hl : ∀ (f : JFrame) (acts : List Action), f.method = m → f.locked = none → f.entered = [] → (doReturn e (T.setTop f) acts (some v)).1 = T.setFrames fs) : Steps p.tables e below (T.setTop (mkF m pc Ls (v :: rest))) (T.setFrames fs) :=
  retOut X hx hret hn (Or.inr (Or.inr (Or.inr (Or.inr ⟨rfl, ht, hv⟩)))) hd hl
theorem own_ns_exa {Z : State} {h : Heap} {a : Addr} {C : String} (F : Exa Z h a C) : ∃ c : Cell, h[a]? = some c ∧ c.vm.isStatics = false := by
  obtain ⟨c, _, h1, -, -, h4, -⟩ := F; exact ⟨c, h1, h4⟩
theorem own_ns_arv {Z : State} {h : Heap} {a : Addr} {k : ClassId} {ty : FieldType} {z : Int32} {vs : List Value} {dv : Value} (F : Arv Z h a k ty z vs dv) : ∃ c : Cell, h[a]? = some c ∧ c.vm.isStatics = false := by
  obtain ⟨c, A, -⟩ := F; exact ⟨c, A.1, A.plain⟩
theorem own_sta_keep {Z : State} {h h' : Heap} {C n d : String} {v : Value} {ws : List Addr} (F : Sta Z h C n d v) (K : Keep h h' ws) (q : ∀ x ∈ ws, ∃ c : Cell, h[x]? = some c ∧ c.vm.isStatics = false) : Sta Z h' C n d v := by
  obtain ⟨cf, i, k, f, st, cell, h1, h2, h3, h4, h5, h6, h7⟩ := F
  refine ⟨cf, i, k, f, st, cell, h1, h2, h3, h4, K.2.1 st cell h5 (fun m => ?_), h6, h7⟩
  obtain ⟨c, e1, e2⟩ := q st m; cases h5.symm.trans e1; rw [e2] at h6; cases h6
/-- from A the run ends, and then P -/
def OwnGo (tb : Tables) (e : Env) (below : List Frame) (P : Outcome → State → Prop) (A : State) : Prop := ∃ s₂ o, Steps tb e below A s₂ ∧ s₂.status = .running ∧ Ended s₂ below o ∧ P o s₂
theorem OwnGo.of {tb : Tables} {P : Outcome → State → Prop} {A B : State} (k : ∀ t, Steps tb e below B t → Steps tb e below A t) (g : OwnGo tb e below P B) : OwnGo tb e below P A := by
  obtain ⟨s2, o, h1, h2⟩ := g; exact ⟨s2, o, k _ h1, h2⟩
abbrev OwnPre (R : Room) (as' : Array Value) (h : Heap) (rc rs : Nat) : Pt → Array Value → Prop := fun A a => a = as' ∧ A.U.heap = h ∧ A.cells + rc ≤ R.cells ∧ A.slots + rs ≤ R.slots
abbrev OwnPost (Q : Option Value → Heap → List Loc → Prop) (rc rs : Nat) : Pt → Array Value → Option Value → Pt → Prop := fun A _ v B => ∃ L, Q v B.U.heap L ∧ B.locs = A.locs ++ L ∧ B.cells = A.cells + rc ∧ B.slots = A.slots + rs
theorem own_callS (X : Stand p l e R s m args below meth c T locs cells slots) (hexec : p.tables.exec = Jvm.exec) {own : String} {index : Nat} {y : MethodName} {bytes : ByteArray} {maxL : Nat} {ret : Option FieldType}
    (hown : s.vm.findClass own = some m.cls) (hlink : (Jvm.Cond.methodLink own index y).before args s = true) (hstat : (Jvm.Cond.static y).before args s = true) (hinit : (Jvm.Cond.initialized y.cls).before args s = true)
    (hcode : (Jvm.Cond.code y bytes maxL ret).before args s = true) (hy : y.cls ≠ "java/lang/invoke/MethodHandle" ∧ y.cls ≠ "java/lang/invoke/VarHandle")
    {W : Nat} {as' : Array Value} {h : Heap} {Q : Option Value → Heap → List Loc → Prop} {rc rs : Nat} (hK : Back l R p e below s args y 3 W (OwnPre R as' h rc rs) (OwnPost Q rc rs))
    {g : JFrame} (hg : g.method = m) (hsize : g.locals.size = c.maxLocals) {argsL rest : List Value} (hlen : ∀ sig, parseMethodDescriptor y.desc = some sig → argsL.length = sig.parameters.length)
    (hstack : g.stack = argsL.reverse ++ rest) (hW : 2 * g.monitorRoom + (rest.map fun v => v.category).sum ≤ W) (hdg : decode c.code g.pc = .ok (.invokestatic index, 3))
    (ha : argsL.toArray = as') (eT : T.heap = h) (hc : cells + rc ≤ R.cells) (hs : slots + rs ≤ R.slots) :
    ∃ (T' : State) (L : List Loc) (v : Option Value), Stand p l e R s m args below meth c T' (locs ++ L) (cells + rc) (slots + rs) ∧ Q v T'.heap L ∧ ∀ target, Steps p.tables e below (T'.setTop { g with pc := g.pc + 3, stack := v.toList ++ rest }) target → Steps p.tables e below (T.setTop g) target := by
  obtain ⟨v, _, ⟨T1, L1, k1, n1⟩, -, X1, ⟨Lc, hQ, l1, y1, z1⟩, st⟩ := Jvm.LawKit.callS X hexec hown hlink hstat hinit hcode hy hK hg hsize hlen hstack hW hdg (fun _ _ => ⟨ha, eT, hc, hs⟩)
  dsimp only [Pt.U, Pt.locs, Pt.cells, Pt.slots] at X1 l1 y1 z1 st hQ
  subst l1 y1 z1
  exact ⟨T1, Lc, v, X1, hQ, st⟩
theorem own_callI (X : Stand p l e R s m args below meth c T locs cells slots) (hexec : p.tables.exec = Jvm.exec) {own : String} {index : Nat} {y : MethodName} (hy1 : y.name = "<init>")
    (hown : s.vm.findClass own = some m.cls) (hlink : (Jvm.Cond.methodLink own index y).before args s = true) (hinst : (Jvm.Cond.instanceMethod y).before args s = true)
    {bytes : ByteArray} {maxL : Nat} (hcode : (Jvm.Cond.code y bytes maxL none).before args s = true) (hy : y.cls ≠ "java/lang/invoke/MethodHandle" ∧ y.cls ≠ "java/lang/invoke/VarHandle")
    {W : Nat} {as' : Array Value} {h : Heap} {Q : Option Value → Heap → List Loc → Prop} {rc rs : Nat} (hK : Back l R p e below s args y 3 W (OwnPre R as' h rc rs) (OwnPost Q rc rs))
    {g : JFrame} (hg : g.method = m) (hsize : g.locals.size = c.maxLocals) {a : Addr} {argsL rest : List Value}
    (hlen : ∀ sig, parseMethodDescriptor y.desc = some sig → argsL.length = sig.parameters.length) (hstack : g.stack = argsL.reverse ++ .ref a :: rest) (hW : 2 * g.monitorRoom + (rest.map fun v => v.category).sum ≤ W)
    (hdg : decode c.code g.pc = .ok (.invokespecial index, 3)) (ha : (Value.ref a :: argsL).toArray = as') (eT : T.heap = h) (hc : cells + rc ≤ R.cells) (hs : slots + rs ≤ R.slots) :
    ∃ (T' : State) (L : List Loc) (v : Option Value), Stand p l e R s m args below meth c T' (locs ++ L) (cells + rc) (slots + rs) ∧ Q v T'.heap L ∧ ∀ target, Steps p.tables e below (T'.setTop { g with pc := g.pc + 3, stack := v.toList ++ rest }) target → Steps p.tables e below (T.setTop g) target := by
  obtain ⟨v, _, ⟨T1, L1, k1, n1⟩, -, X1, ⟨Lc, hQ, l1, y1, z1⟩, st⟩ := X.specialBack hexec hy1 hown hlink hinst hcode hy hK hg hsize (Steps.refl _) hlen hstack hW hdg (fun _ _ => ⟨ha, eT, hc, hs⟩)
  dsimp only [Pt.U, Pt.locs, Pt.cells, Pt.slots] at X1 l1 y1 z1 st hQ
  subst l1 y1 z1
  exact ⟨T1, Lc, v, X1, hQ, fun t k => st.trans k⟩
theorem own_callV (X : Stand p l e R s m args below meth c T locs cells slots) (hexec : p.tables.exec = Jvm.exec) {own C : String} {index : Nat} {y z : MethodName}
    (hown : s.vm.findClass own = some m.cls) (hlink : (Jvm.Cond.methodLink own index y).before args s = true) (hdecl : (Jvm.Cond.declares y).before args s = true) (hnf : NotFace s y)
    (hsel : (Jvm.Cond.selects C y z).before args s = true) (hinst : (Jvm.Cond.instanceMethod z).before args s = true) (hy : y.cls ≠ "java/lang/invoke/MethodHandle" ∧ y.cls ≠ "java/lang/invoke/VarHandle")
    {W : Nat} {as' : Array Value} {h : Heap} {Q : Option Value → Heap → List Loc → Prop} {rc rs : Nat} (hK : Back l R p e below s args z 3 W (OwnPre R as' h rc rs) (OwnPost Q rc rs))
    {b : Addr} {cB : ClassId} (hcB : s.vm.findClass C = some cB) (hrecv : IsOf cB T b)
    {g : JFrame} (hg : g.method = m) (hsize : g.locals.size = c.maxLocals) {argsL rest : List Value}
    (hlen : ∀ sig, parseMethodDescriptor y.desc = some sig → argsL.length = sig.parameters.length) (hstack : g.stack = argsL.reverse ++ .ref b :: rest) (hW : 2 * g.monitorRoom + (rest.map fun v => v.category).sum ≤ W)
    (hdg : decode c.code g.pc = .ok (.invokevirtual index, 3)) (ha : (Value.ref b :: argsL).toArray = as') (eT : T.heap = h) (hc : cells + rc ≤ R.cells) (hs : slots + rs ≤ R.slots) :
    ∃ (T' : State) (L : List Loc) (v : Option Value), Stand p l e R s m args below meth c T' (locs ++ L) (cells + rc) (slots + rs) ∧ Q v T'.heap L ∧ ∀ target, Steps p.tables e below (T'.setTop { g with pc := g.pc + 3, stack := v.toList ++ rest }) target → Steps p.tables e below (T.setTop g) target := by
  obtain ⟨v, _, ⟨T1, L1, k1, n1⟩, -, X1, ⟨Lc, hQ, l1, y1, z1⟩, st⟩ := X.virtualBack hexec hown hlink hdecl hnf hsel hinst hy hK hcB hrecv hg hsize (Steps.refl _) hlen hstack hW hdg (fun _ _ => ⟨ha, eT, hc, hs⟩)
  dsimp only [Pt.U, Pt.locs, Pt.cells, Pt.slots] at X1 l1 y1 z1 st hQ
  subst l1 y1 z1
  exact ⟨T1, Lc, v, X1, hQ, fun t k => st.trans k⟩
end OwnKit

def own_upd (F : Nat → Int64) (i : Nat) (v : Int64) : Nat → Int64 := fun j => if j = i then v else F j
def own_pw : Nat → Int64 → Int64
  | 0, x => x
  | k + 1, x => own_pw k x * x
def own_ap (W : Nat → Int64) (x : Int64) : Nat → Int64 := fun k => W k + own_pw k x
def own_ai (W : Nat → Int64) (b : Int32) (x : Int64) : Nat → Int64 := fun k => if b = 0 then W k else W k + own_pw k x
def own_sift : Nat → Nat → Int64 → Nat → (Nat → Int64) → (Nat → Int64)
  | 0, _, s, i, F => own_upd F i s
  | k + 1, n, s, i, F => if 2 * i + 1 < n then (if 2 * i + 2 < n then (if F (2 * i + 2) < F (2 * i + 1) then (if F (2 * i + 2) < s then own_sift k n s (2 * i + 2) (own_upd F i (F (2 * i + 2))) else own_upd F i s) else (if F (2 * i + 1) < s then own_sift k n s (2 * i + 1) (own_upd F i (F (2 * i + 1))) else own_upd F i s)) else (if F (2 * i + 1) < s then own_sift k n s (2 * i + 1) (own_upd F i (F (2 * i + 1))) else own_upd F i s)) else own_upd F i s
theorem own_ltn {p : Int32} {n : Nat} (hp : p.toInt = n) (k : Int32) (m : Nat) (hk : k.toInt = m) : k < p ↔ m < n := by
  rw [Int32.lt_iff_toInt_lt, hp, hk]; omega
theorem own_cl {a b : Int64} (ha : B53 a) (hb : B53 b) (o : CmpOp) : cmpValue (FP.dcmp (FP.l2d a) (FP.l2d b)) o < (0 : Int32) ↔ a < b := by
  rw [dcmpV_w ha hb, lw_lt]
theorem own_updB {F : Nat → Int64} {i : Nat} {v : Int64} (hF : ∀ j, B53 (F j)) (hv : B53 v) : ∀ j, B53 (own_upd F i v j) := fun j => by
  unfold own_upd; split
  · exact hv
  · exact hF j
def own_l10 (F : Nat → Int64) : List Value := [(.double (FP.l2d (F 0))), (.double (FP.l2d (F 1))), (.double (FP.l2d (F 2))), (.double (FP.l2d (F 3))), (.double (FP.l2d (F 4))), (.double (FP.l2d (F 5))), (.double (FP.l2d (F 6))), (.double (FP.l2d (F 7))), (.double (FP.l2d (F 8))), (.double (FP.l2d (F 9)))]
def own_l8 (W : Nat → Int64) : List Value := [(.long (W 0)), (.long (W 1)), (.long (W 2)), (.long (W 3)), (.long (W 4)), (.long (W 5)), (.long (W 6)), (.long (W 7))]
def own_sumF (f : Int64 → Int64) (G : Nat → Int64) : Nat → Int64
  | 0 => 0
  | k + 1 => own_sumF f G k + f (G k)
def own_sum1 (f : Int64 → Int64) (s : Int64) (F : Nat → Int64) : Nat → Int64
  | 0 => 0 + f s
  | k + 1 => own_sum1 f s F k + f (F (k + 1))
set_option maxRecDepth 10000 in
set_option maxHeartbeats 4000000 in
theorem own_perm (n : Nat) (hn : n < 8) (f : Int64 → Int64) (s : Int64) (F : Nat → Int64) : own_sumF f (own_sift 4 (n + 1) s 0 F) (n + 1) = own_sum1 f s F n := by
  have : n = 0 ∨ n = 1 ∨ n = 2 ∨ n = 3 ∨ n = 4 ∨ n = 5 ∨ n = 6 ∨ n = 7 := by omega
  rcases this with rfl | rfl | rfl | rfl | rfl | rfl | rfl | rfl
  all_goals
    simp only [own_sift, own_sumF, own_sum1, own_upd, Nat.reduceMul, Nat.reduceAdd, Nat.reduceLT, Nat.reduceEqDiff, Nat.lt_irrefl, if_true, if_false, Nat.succ_ne_zero, Nat.one_ne_zero, reduceIte, Nat.zero_add]
    repeat' split
    all_goals ((try simp only [own_upd, reduceIte, Nat.reduceEqDiff, Nat.succ_ne_zero, Nat.one_ne_zero, Nat.zero_ne_one, Nat.reduceAdd]); try ac_rfl)
def OwnHeap (n : Nat) (F : Nat → Int64) : Prop := (3 < n → (F 1).toInt ≤ (F 3).toInt) ∧ (4 < n → (F 1).toInt ≤ (F 4).toInt) ∧ (5 < n → (F 2).toInt ≤ (F 5).toInt) ∧ (6 < n → (F 2).toInt ≤ (F 6).toInt) ∧ (7 < n → (F 3).toInt ≤ (F 7).toInt)
set_option maxRecDepth 10000 in
set_option maxHeartbeats 4000000 in
theorem own_ord (n : Nat) (hn : n < 8) (s : Int64) (F : Nat → Int64) (hF : OwnHeap (n + 1) F) (i : Nat) (h1 : 1 ≤ i) (h2 : i < n + 1) : (own_sift 4 (n + 1) s 0 F ((i - 1) / 2)).toInt ≤ (own_sift 4 (n + 1) s 0 F i).toInt := by
  obtain ⟨h13, h14, h25, h26, h37⟩ := hF
  have : n = 0 ∨ n = 1 ∨ n = 2 ∨ n = 3 ∨ n = 4 ∨ n = 5 ∨ n = 6 ∨ n = 7 := by omega
  rcases this with rfl | rfl | rfl | rfl | rfl | rfl | rfl | rfl
  all_goals
    simp only [Nat.reduceAdd, Nat.reduceLT, forall_const, false_imp_iff, Nat.lt_irrefl] at h13 h14 h25 h26 h37
    simp only [own_sift, own_upd, Nat.reduceMul, Nat.reduceAdd, Nat.reduceLT, Nat.reduceEqDiff, Nat.lt_irrefl, if_true, if_false, Nat.succ_ne_zero, Nat.one_ne_zero, reduceIte, Nat.zero_add, Int64.lt_iff_toInt_lt]
    have : i = 1 ∨ i = 2 ∨ i = 3 ∨ i = 4 ∨ i = 5 ∨ i = 6 ∨ i = 7 := by omega
    rcases this with rfl | rfl | rfl | rfl | rfl | rfl | rfl
  all_goals first
    | (exfalso; omega)
    | (simp only [Nat.reduceSub, Nat.reduceDiv, Nat.reduceMul, Nat.reduceAdd, Nat.reduceEqDiff, Nat.succ_ne_zero, Nat.one_ne_zero, reduceIte]
       repeat' split
       all_goals ((try simp only [own_upd, reduceIte, Nat.reduceEqDiff, Nat.succ_ne_zero, Nat.one_ne_zero, Nat.zero_ne_one] at *); try omega))
set_option maxRecDepth 10000 in
set_option maxHeartbeats 4000000 in
theorem own_stay (n : Nat) (hn : n < 8) (s : Int64) (F : Nat → Int64) (i : Nat) (h : n + 1 ≤ i) : own_sift 4 (n + 1) s 0 F i = F i := by
  have : n = 0 ∨ n = 1 ∨ n = 2 ∨ n = 3 ∨ n = 4 ∨ n = 5 ∨ n = 6 ∨ n = 7 := by omega
  rcases this with rfl | rfl | rfl | rfl | rfl | rfl | rfl | rfl
  all_goals
    simp only [own_sift, Nat.reduceMul, Nat.reduceAdd, Nat.reduceLT, Nat.lt_irrefl, if_true, if_false, reduceIte, Nat.zero_add]
    repeat' split
    all_goals (simp only [own_upd]; repeat rw [if_neg (by omega)])
set_option maxRecDepth 10000 in
set_option maxHeartbeats 4000000 in
theorem own_siftB (k n : Nat) (s : Int64) (hs : B53 s) : ∀ (i : Nat) (F : Nat → Int64), (∀ j, B53 (F j)) → ∀ j, B53 (own_sift k n s i F j) := by
  have hu : ∀ (F : Nat → Int64) (i : Nat) (v : Int64), (∀ j, B53 (F j)) → B53 v → ∀ j, B53 (own_upd F i v j) := fun F i v hF hv j => by
    unfold own_upd; split
    · exact hv
    · exact hF j
  induction k with
  | zero => intro i F hF; exact hu F i s hF hs
  | succ k ih =>
    intro i F hF
    rw [own_sift]
    repeat' split
    all_goals first | exact ih _ _ (hu _ _ _ hF (hF _)) | exact hu _ _ _ hF hs

def own_inc (q0 : Int64) (p1 : Int32) : Int64 := (((q0.toUInt64 >>> (((3 : Int32) * p1) &&& 0x3f).toInt64.toUInt64).toInt64) &&& (7 : Int64))
theorem pn_0 : plainName "com/example/rankwright/rankwright/rank/AccumulatorSiftDownPinLaw" = true := by first | (simp [plainName, overriddenIn]; done) | decide +kernel
theorem d1_0 : decode method_3_code 0 = .ok (.lload_n 0, 1) := by decide +kernel
theorem d1_1 : decode method_3_code 1 = .ok (.iconst 3, 1) := by decide +kernel
theorem d1_2 : decode method_3_code 2 = .ok (.iload_n 2, 1) := by decide +kernel
theorem d1_3 : decode method_3_code 3 = .ok (.imul, 1) := by decide +kernel
theorem d1_4 : decode method_3_code 4 = .ok (.lushr, 1) := by decide +kernel
theorem d1_5 : decode method_3_code 5 = .ok (.ldc2_w 45, 3) := by decide +kernel
theorem d1_8 : decode method_3_code 8 = .ok (.land, 1) := by decide +kernel
theorem d1_9 : decode method_3_code 9 = .ok (.lreturn, 1) := by decide +kernel
theorem ef_rm1 (m : MethodId) (q0 : Int64) (p1 : Int32) : entryFrame m #[(.long q0), (.int p1)] 3 = mkF m 0 #[.val (.long q0), .second, .val (.int p1)] [] := by first | (simp [entryFrame, mkF, argsToLocals, Value.category]; done) | rfl
def Qrm1 (Z : State) (q0 : Int64) (p1 : Int32) (h0 : Heap) (n0 : Nat) (v : Option Value) (h : Heap) (L : List Loc) : Prop := v = some (.long (own_inc q0 p1)) ∧ Fr n0 L ∧ h = h0
set_option maxRecDepth 65536 in
set_option maxHeartbeats 40000000 in
theorem rm1 (l : Launch) (Z : State) (aw : Array Value) (hw : ∀ d ∈ tables_1, d.before aw Z = true) (ws : List Jvm.Cond) (q0 : Int64) (p1 : Int32) (h0 : Heap) (n0 : Nat) (Z0 : n0 ≤ h0.size) :
    MetFree l (⟨"com/example/rankwright/rankwright/rank/AccumulatorSiftDownPinLaw", "inc", "(JI)J"⟩ : MethodName) (head1 (Jvm.Cond.code (⟨"com/example/rankwright/rankwright/rank/AccumulatorSiftDownPinLaw", "inc", "(JI)J"⟩ : MethodName) method_3_code 3 (some .long) :: ws) ({ frames := 0, cells := 0, slots := 0, locals := 0 } : Room)) (fun a U => a = #[(.long q0), (.int p1)] ∧ Z.Warmed39 U.vm ∧ U.heap = h0) (fun _ _ _ _ _ => True) (fun _ U o U' => ∃ v L, o = .returned v ∧ Qrm1 Z q0 p1 h0 n0 v U'.heap L ∧ FrameEnd U o U' L ({ frames := 0, cells := 0, slots := 0, locals := 0 } : Room).cells ({ frames := 0, cells := 0, slots := 0, locals := 0 } : Room).slots) := by
  refine MetFree.of_bodySF (plainFor_of_name pn_0) hisR ?_
  intro p e s m args below meth c s₁ Bd hml0 hP hK
  obtain ⟨rfl, hZ, hh⟩ := hP
  have hx := Bd.exec
  have hby := Bd.bytes
  have hml : c.maxLocals = 3 := hml0
  have hown : s.vm.findClass "com/example/rankwright/rankwright/rank/AccumulatorSiftDownPinLaw" = some m.cls := findClass_of_methodNamed Bd.named
  have hnm := (name_of_methodNamed Bd.named Bd.method).1
  have X0 : Stand p l e ({ frames := 0, cells := 0, slots := 0, locals := 0 } : Room) s m #[(.long q0), (.int p1)] below meth c s₁ [] 0 0 := Stand.of_body Bd
  have e0 : s₁.heap = h0 := by rw [← hh, Bd.state]; rfl
  have N0 := Fr.nil n0
  have hlk := Bd.notSynchronized
  show OwnGo p.tables e below _ (s₁.setTop (entryFrame m #[(.long q0), (.int p1)] 3))
  rw [ef_rm1 m q0 p1]
  show OwnGo p.tables e below _ (s₁.setTop (mkF m 0 #[.val (.long q0), .second, .val (.int p1)] []))
  refine OwnGo.of (A := s₁.setTop (mkF m 0 #[.val (.long q0), .second, .val (.int p1)] [])) (B := s₁.setTop (mkF m 9 #[.val (.long q0), .second, .val (.int p1)] [(.long (((q0.toUInt64 >>> (((3 : Int32) * p1) &&& 0x3f).toInt64.toUInt64).toInt64) &&& (7 : Int64)))])) (fun t k => ?_) ?_
  · show Steps p.tables e below (s₁.setTop (mkF m 0 #[.val (.long q0), .second, .val (.int p1)] [])) t
    refine XS.lloadN X0.here hx rfl (hb hby d1_0) rfl ?_
    refine XS.iconst X0.here hx rfl (hb hby d1_1) ?_
    refine XS.iloadN X0.here hx rfl (hb hby d1_2) rfl ?_
    refine XS.imul X0.here hx rfl (hb hby d1_3) rfl ?_
    refine XS.lushr X0.here hx rfl (hb hby d1_4) rfl ?_
    refine X0.ldc2Long hx hown (mvT hZ (hw _ (List.mem_of_getElem? (i := 5) rfl))) (g := (mkF m 5 #[.val (.long q0), .second, .val (.int p1)] [(.long ((q0.toUInt64 >>> (((3 : Int32) * p1) &&& 0x3f).toInt64.toUInt64).toInt64))])) rfl (hb hby d1_5) _ ?_
    refine XS.land X0.here hx rfl (hb hby d1_8) rfl ?_
    exact k
  obtain ⟨fs, hr, hrun, hended, hW, hsame⟩ := X0.leave (v := some (.long (((q0.toUInt64 >>> (((3 : Int32) * p1) &&& 0x3f).toInt64.toUInt64).toInt64) &&& (7 : Int64)))) (fun h => by rw [Bd.returns] at h; cases h) hlk
  refine ⟨_, _, ?_, hrun, hended, _, _, rfl, ?_, ⟨_, rfl⟩, hW, hsame.mono (by decide) (by decide)⟩
  · show Steps p.tables e below (s₁.setTop (mkF m 9 #[.val (.long q0), .second, .val (.int p1)] [(.long (((q0.toUInt64 >>> (((3 : Int32) * p1) &&& 0x3f).toInt64.toUInt64).toInt64) &&& (7 : Int64)))])) _
    exact own_retL X0 hx Bd.returns (hb hby d1_9) hr
  · show Qrm1 Z q0 p1 h0 n0 _ (s₁.setFrames fs).heap _
    rw [show (s₁.setFrames fs).heap = h0 from e0]
    exact ⟨congrArg (fun z => some (Value.long z)) (by rw [own_inc]; try rfl), N0, rfl⟩
theorem d2_0 : decode method_4_code 0 = .ok (.iload_n 1, 1) := by decide +kernel
theorem d2_1 : decode method_4_code 1 = .ok (.iload_n 2, 1) := by decide +kernel
theorem d2_2 : decode method_4_code 2 = .ok (.if_icmp .ge 10, 3) := by decide +kernel
theorem d2_5 : decode method_4_code 5 = .ok (.aload_n 0, 1) := by decide +kernel
theorem d2_6 : decode method_4_code 6 = .ok (.iload_n 1, 1) := by decide +kernel
theorem d2_7 : decode method_4_code 7 = .ok (.laload, 1) := by decide +kernel
theorem d2_8 : decode method_4_code 8 = .ok (.l2d, 1) := by decide +kernel
theorem d2_9 : decode method_4_code 9 = .ok (.goto 4, 3) := by decide +kernel
theorem d2_12 : decode method_4_code 12 = .ok (.dload_n 3, 1) := by decide +kernel
theorem d2_13 : decode method_4_code 13 = .ok (.dreturn, 1) := by decide +kernel
theorem ef_rms_0 (m : MethodId) (a0 : Addr) (p2 : Int32) : entryFrame m #[(.ref a0), (.int (0 : Int32)), (.int p2), (.double (FP.l2d so))] 5 = mkF m 0 #[.val (.ref a0), .val (.int (0 : Int32)), .val (.int p2), .val (.double (FP.l2d so)), .second] [] := by first | (simp [entryFrame, mkF, argsToLocals, Value.category]; done) | rfl
def Qrms_0 (Z : State) (a0 : Addr) (p2 : Int32) (so : Int64) (v0 : Int64) (v1 : Int64) (v2 : Int64) (v3 : Int64) (v4 : Int64) (v5 : Int64) (v6 : Int64) (v7 : Int64) (ka : ClassId) (h0 : Heap) (n0 : Nat) (v : Option Value) (h : Heap) (L : List Loc) : Prop := v = some (.double (FP.l2d (if (0 : Int32) < p2 then v0 else so))) ∧ Fr n0 L ∧ h = h0
set_option maxRecDepth 65536 in
set_option maxHeartbeats 40000000 in
theorem rms_0 (l : Launch) (Z : State) (aw : Array Value) (hw : ∀ d ∈ tables_1, d.before aw Z = true) (ws : List Jvm.Cond) (a0 : Addr) (p2 : Int32) (so : Int64) (v0 : Int64) (v1 : Int64) (v2 : Int64) (v3 : Int64) (v4 : Int64) (v5 : Int64) (v6 : Int64) (v7 : Int64) (ka : ClassId) (h0 : Heap) (n0 : Nat) (Z0 : n0 ≤ h0.size) (V_a : Arv Z h0 a0 ka .long (8 : Int32) [(.long v0), (.long v1), (.long v2), (.long v3), (.long v4), (.long v5), (.long v6), (.long v7)] (.long (0 : Int64))) :
    MetFree l (⟨"com/example/rankwright/rankwright/rank/AccumulatorSiftDownPinLaw", "slot", "([JIID)D"⟩ : MethodName) (head1 (Jvm.Cond.code (⟨"com/example/rankwright/rankwright/rank/AccumulatorSiftDownPinLaw", "slot", "([JIID)D"⟩ : MethodName) method_4_code 5 (some .double) :: ws) ({ frames := 0, cells := 0, slots := 0, locals := 0 } : Room)) (fun a U => a = #[(.ref a0), (.int (0 : Int32)), (.int p2), (.double (FP.l2d so))] ∧ Z.Warmed39 U.vm ∧ U.heap = h0) (fun _ _ _ _ _ => True) (fun _ U o U' => ∃ v L, o = .returned v ∧ Qrms_0 Z a0 p2 so v0 v1 v2 v3 v4 v5 v6 v7 ka h0 n0 v U'.heap L ∧ FrameEnd U o U' L ({ frames := 0, cells := 0, slots := 0, locals := 0 } : Room).cells ({ frames := 0, cells := 0, slots := 0, locals := 0 } : Room).slots) := by
  refine MetFree.of_bodySF (plainFor_of_name pn_0) hisR ?_
  intro p e s m args below meth c s₁ Bd hml0 hP hK
  obtain ⟨rfl, hZ, hh⟩ := hP
  have hx := Bd.exec
  have hby := Bd.bytes
  have hml : c.maxLocals = 5 := hml0
  have hown : s.vm.findClass "com/example/rankwright/rankwright/rank/AccumulatorSiftDownPinLaw" = some m.cls := findClass_of_methodNamed Bd.named
  have hnm := (name_of_methodNamed Bd.named Bd.method).1
  have X0 : Stand p l e ({ frames := 0, cells := 0, slots := 0, locals := 0 } : Room) s m #[(.ref a0), (.int (0 : Int32)), (.int p2), (.double (FP.l2d so))] below meth c s₁ [] 0 0 := Stand.of_body Bd
  have e0 : s₁.heap = h0 := by rw [← hh, Bd.state]; rfl
  have N0 := Fr.nil n0
  have hlk := Bd.notSynchronized
  show OwnGo p.tables e below _ (s₁.setTop (entryFrame m #[(.ref a0), (.int (0 : Int32)), (.int p2), (.double (FP.l2d so))] 5))
  rw [ef_rms_0 m a0 p2]
  show OwnGo p.tables e below _ (s₁.setTop (mkF m 0 #[.val (.ref a0), .val (.int (0 : Int32)), .val (.int p2), .val (.double (FP.l2d so)), .second] []))
  refine OwnGo.of (A := s₁.setTop (mkF m 0 #[.val (.ref a0), .val (.int (0 : Int32)), .val (.int p2), .val (.double (FP.l2d so)), .second] [])) (B := s₁.setTop (mkF m 2 #[.val (.ref a0), .val (.int (0 : Int32)), .val (.int p2), .val (.double (FP.l2d so)), .second] [(.int p2), (.int (0 : Int32))])) (fun t k => ?_) ?_
  · show Steps p.tables e below (s₁.setTop (mkF m 0 #[.val (.ref a0), .val (.int (0 : Int32)), .val (.int p2), .val (.double (FP.l2d so)), .second] [])) t
    refine XS.iloadN X0.here hx rfl (hb hby d2_0) rfl ?_
    refine XS.iloadN X0.here hx rfl (hb hby d2_1) rfl ?_
    exact k
  by_cases hc1 : (0 : Int32) < p2
  · refine OwnGo.of (A := s₁.setTop (mkF m 2 #[.val (.ref a0), .val (.int (0 : Int32)), .val (.int p2), .val (.double (FP.l2d so)), .second] [(.int p2), (.int (0 : Int32))])) (B := s₁.setTop (mkF m 7 #[.val (.ref a0), .val (.int (0 : Int32)), .val (.int p2), .val (.double (FP.l2d so)), .second] [(.int (0 : Int32)), (.ref a0)])) (fun t k => ?_) ?_
    · show Steps p.tables e below (s₁.setTop (mkF m 2 #[.val (.ref a0), .val (.int (0 : Int32)), .val (.int p2), .val (.double (FP.l2d so)), .second] [(.int p2), (.int (0 : Int32))])) t
      refine XS.icmpNo X0.here hx rfl (hb hby d2_2) rfl (tlt hc1).2.1 ?_
      refine XS.aloadN X0.here hx rfl (hb hby d2_5) rfl rfl ?_
      refine XS.iloadN X0.here hx rfl (hb hby d2_6) rfl ?_
      exact k
    have cq2 := V_a
    obtain ⟨clq2, Arq2, qq2, Sq2, Nq2, Hq2, Gq2⟩ := cq2
    have hinq2 := inb_of (j := (0 : Int32)) Sq2 ⟨by decide, by decide⟩
    refine OwnGo.of (X0.laload hx (j := (0 : Int32)) (v := (.long v0)) (by rw [e0]; exact Arq2.1) (State.isArrayOf_alike hZ.alike Arq2.2.1) Arq2.2.2 hinq2 (Hq2.at hinq2 rfl) (g := (mkF m 7 #[.val (.ref a0), .val (.int (0 : Int32)), .val (.int p2), .val (.double (FP.l2d so)), .second] [(.int (0 : Int32)), (.ref a0)])) rfl rfl (hb hby d2_7)) ?_
    show OwnGo p.tables e below _ (s₁.setTop (mkF m 8 #[.val (.ref a0), .val (.int (0 : Int32)), .val (.int p2), .val (.double (FP.l2d so)), .second] [(.long v0)]))
    refine OwnGo.of (A := s₁.setTop (mkF m 8 #[.val (.ref a0), .val (.int (0 : Int32)), .val (.int p2), .val (.double (FP.l2d so)), .second] [(.long v0)])) (B := s₁.setTop (mkF m 13 #[.val (.ref a0), .val (.int (0 : Int32)), .val (.int p2), .val (.double (FP.l2d so)), .second] [(.double (FP.l2d v0))])) (fun t k => ?_) ?_
    · show Steps p.tables e below (s₁.setTop (mkF m 8 #[.val (.ref a0), .val (.int (0 : Int32)), .val (.int p2), .val (.double (FP.l2d so)), .second] [(.long v0)])) t
      refine XS.l2dS X0.here hx rfl (hb hby d2_8) rfl rfl ?_
      refine XS.goto X0.here hx rfl (pc0 := 9) (pc' := 13) rfl (hb hby d2_9) (by decide) (by decide) ?_
      exact k
    obtain ⟨fs, hr, hrun, hended, hW, hsame⟩ := X0.leave (v := some (.double (FP.l2d v0))) (fun h => by rw [Bd.returns] at h; cases h) hlk
    refine ⟨_, _, ?_, hrun, hended, _, _, rfl, ?_, ⟨_, rfl⟩, hW, hsame.mono (by decide) (by decide)⟩
    · show Steps p.tables e below (s₁.setTop (mkF m 13 #[.val (.ref a0), .val (.int (0 : Int32)), .val (.int p2), .val (.double (FP.l2d so)), .second] [(.double (FP.l2d v0))])) _
      exact own_retD X0 hx Bd.returns (hb hby d2_13) hr
    · show Qrms_0 Z a0 p2 so v0 v1 v2 v3 v4 v5 v6 v7 ka h0 n0 _ (s₁.setFrames fs).heap _
      rw [show (s₁.setFrames fs).heap = h0 from e0]
      exact ⟨by rw [if_pos hc1], N0, rfl⟩
  · refine OwnGo.of (A := s₁.setTop (mkF m 2 #[.val (.ref a0), .val (.int (0 : Int32)), .val (.int p2), .val (.double (FP.l2d so)), .second] [(.int p2), (.int (0 : Int32))])) (B := s₁.setTop (mkF m 13 #[.val (.ref a0), .val (.int (0 : Int32)), .val (.int p2), .val (.double (FP.l2d so)), .second] [(.double (FP.l2d so))])) (fun t k => ?_) ?_
    · show Steps p.tables e below (s₁.setTop (mkF m 2 #[.val (.ref a0), .val (.int (0 : Int32)), .val (.int p2), .val (.double (FP.l2d so)), .second] [(.int p2), (.int (0 : Int32))])) t
      refine XS.icmpYes X0.here hx rfl (pc0 := 2) (pc' := 12) rfl (hb hby d2_2) rfl (flt hc1).2.1 (by decide) (by decide) ?_
      refine XS.dloadN X0.here hx rfl (hb hby d2_12) rfl ?_
      exact k
    obtain ⟨fs, hr, hrun, hended, hW, hsame⟩ := X0.leave (v := some (.double (FP.l2d so))) (fun h => by rw [Bd.returns] at h; cases h) hlk
    refine ⟨_, _, ?_, hrun, hended, _, _, rfl, ?_, ⟨_, rfl⟩, hW, hsame.mono (by decide) (by decide)⟩
    · show Steps p.tables e below (s₁.setTop (mkF m 13 #[.val (.ref a0), .val (.int (0 : Int32)), .val (.int p2), .val (.double (FP.l2d so)), .second] [(.double (FP.l2d so))])) _
      exact own_retD X0 hx Bd.returns (hb hby d2_13) hr
    · show Qrms_0 Z a0 p2 so v0 v1 v2 v3 v4 v5 v6 v7 ka h0 n0 _ (s₁.setFrames fs).heap _
      rw [show (s₁.setFrames fs).heap = h0 from e0]
      exact ⟨by rw [if_neg hc1], N0, rfl⟩
theorem ef_rms_1 (m : MethodId) (a0 : Addr) (p2 : Int32) : entryFrame m #[(.ref a0), (.int (1 : Int32)), (.int p2), (.double (FP.l2d so))] 5 = mkF m 0 #[.val (.ref a0), .val (.int (1 : Int32)), .val (.int p2), .val (.double (FP.l2d so)), .second] [] := by first | (simp [entryFrame, mkF, argsToLocals, Value.category]; done) | rfl
def Qrms_1 (Z : State) (a0 : Addr) (p2 : Int32) (so : Int64) (v0 : Int64) (v1 : Int64) (v2 : Int64) (v3 : Int64) (v4 : Int64) (v5 : Int64) (v6 : Int64) (v7 : Int64) (ka : ClassId) (h0 : Heap) (n0 : Nat) (v : Option Value) (h : Heap) (L : List Loc) : Prop := v = some (.double (FP.l2d (if (1 : Int32) < p2 then v1 else so))) ∧ Fr n0 L ∧ h = h0
set_option maxRecDepth 65536 in
set_option maxHeartbeats 40000000 in
theorem rms_1 (l : Launch) (Z : State) (aw : Array Value) (hw : ∀ d ∈ tables_1, d.before aw Z = true) (ws : List Jvm.Cond) (a0 : Addr) (p2 : Int32) (so : Int64) (v0 : Int64) (v1 : Int64) (v2 : Int64) (v3 : Int64) (v4 : Int64) (v5 : Int64) (v6 : Int64) (v7 : Int64) (ka : ClassId) (h0 : Heap) (n0 : Nat) (Z0 : n0 ≤ h0.size) (V_a : Arv Z h0 a0 ka .long (8 : Int32) [(.long v0), (.long v1), (.long v2), (.long v3), (.long v4), (.long v5), (.long v6), (.long v7)] (.long (0 : Int64))) :
    MetFree l (⟨"com/example/rankwright/rankwright/rank/AccumulatorSiftDownPinLaw", "slot", "([JIID)D"⟩ : MethodName) (head1 (Jvm.Cond.code (⟨"com/example/rankwright/rankwright/rank/AccumulatorSiftDownPinLaw", "slot", "([JIID)D"⟩ : MethodName) method_4_code 5 (some .double) :: ws) ({ frames := 0, cells := 0, slots := 0, locals := 0 } : Room)) (fun a U => a = #[(.ref a0), (.int (1 : Int32)), (.int p2), (.double (FP.l2d so))] ∧ Z.Warmed39 U.vm ∧ U.heap = h0) (fun _ _ _ _ _ => True) (fun _ U o U' => ∃ v L, o = .returned v ∧ Qrms_1 Z a0 p2 so v0 v1 v2 v3 v4 v5 v6 v7 ka h0 n0 v U'.heap L ∧ FrameEnd U o U' L ({ frames := 0, cells := 0, slots := 0, locals := 0 } : Room).cells ({ frames := 0, cells := 0, slots := 0, locals := 0 } : Room).slots) := by
  refine MetFree.of_bodySF (plainFor_of_name pn_0) hisR ?_
  intro p e s m args below meth c s₁ Bd hml0 hP hK
  obtain ⟨rfl, hZ, hh⟩ := hP
  have hx := Bd.exec
  have hby := Bd.bytes
  have hml : c.maxLocals = 5 := hml0
  have hown : s.vm.findClass "com/example/rankwright/rankwright/rank/AccumulatorSiftDownPinLaw" = some m.cls := findClass_of_methodNamed Bd.named
  have hnm := (name_of_methodNamed Bd.named Bd.method).1
  have X0 : Stand p l e ({ frames := 0, cells := 0, slots := 0, locals := 0 } : Room) s m #[(.ref a0), (.int (1 : Int32)), (.int p2), (.double (FP.l2d so))] below meth c s₁ [] 0 0 := Stand.of_body Bd
  have e0 : s₁.heap = h0 := by rw [← hh, Bd.state]; rfl
  have N0 := Fr.nil n0
  have hlk := Bd.notSynchronized
  show OwnGo p.tables e below _ (s₁.setTop (entryFrame m #[(.ref a0), (.int (1 : Int32)), (.int p2), (.double (FP.l2d so))] 5))
  rw [ef_rms_1 m a0 p2]
  show OwnGo p.tables e below _ (s₁.setTop (mkF m 0 #[.val (.ref a0), .val (.int (1 : Int32)), .val (.int p2), .val (.double (FP.l2d so)), .second] []))
  refine OwnGo.of (A := s₁.setTop (mkF m 0 #[.val (.ref a0), .val (.int (1 : Int32)), .val (.int p2), .val (.double (FP.l2d so)), .second] [])) (B := s₁.setTop (mkF m 2 #[.val (.ref a0), .val (.int (1 : Int32)), .val (.int p2), .val (.double (FP.l2d so)), .second] [(.int p2), (.int (1 : Int32))])) (fun t k => ?_) ?_
  · show Steps p.tables e below (s₁.setTop (mkF m 0 #[.val (.ref a0), .val (.int (1 : Int32)), .val (.int p2), .val (.double (FP.l2d so)), .second] [])) t
    refine XS.iloadN X0.here hx rfl (hb hby d2_0) rfl ?_
    refine XS.iloadN X0.here hx rfl (hb hby d2_1) rfl ?_
    exact k
  by_cases hc1 : (1 : Int32) < p2
  · refine OwnGo.of (A := s₁.setTop (mkF m 2 #[.val (.ref a0), .val (.int (1 : Int32)), .val (.int p2), .val (.double (FP.l2d so)), .second] [(.int p2), (.int (1 : Int32))])) (B := s₁.setTop (mkF m 7 #[.val (.ref a0), .val (.int (1 : Int32)), .val (.int p2), .val (.double (FP.l2d so)), .second] [(.int (1 : Int32)), (.ref a0)])) (fun t k => ?_) ?_
    · show Steps p.tables e below (s₁.setTop (mkF m 2 #[.val (.ref a0), .val (.int (1 : Int32)), .val (.int p2), .val (.double (FP.l2d so)), .second] [(.int p2), (.int (1 : Int32))])) t
      refine XS.icmpNo X0.here hx rfl (hb hby d2_2) rfl (tlt hc1).2.1 ?_
      refine XS.aloadN X0.here hx rfl (hb hby d2_5) rfl rfl ?_
      refine XS.iloadN X0.here hx rfl (hb hby d2_6) rfl ?_
      exact k
    have cq2 := V_a
    obtain ⟨clq2, Arq2, qq2, Sq2, Nq2, Hq2, Gq2⟩ := cq2
    have hinq2 := inb_of (j := (1 : Int32)) Sq2 ⟨by decide, by decide⟩
    refine OwnGo.of (X0.laload hx (j := (1 : Int32)) (v := (.long v1)) (by rw [e0]; exact Arq2.1) (State.isArrayOf_alike hZ.alike Arq2.2.1) Arq2.2.2 hinq2 (Hq2.at hinq2 rfl) (g := (mkF m 7 #[.val (.ref a0), .val (.int (1 : Int32)), .val (.int p2), .val (.double (FP.l2d so)), .second] [(.int (1 : Int32)), (.ref a0)])) rfl rfl (hb hby d2_7)) ?_
    show OwnGo p.tables e below _ (s₁.setTop (mkF m 8 #[.val (.ref a0), .val (.int (1 : Int32)), .val (.int p2), .val (.double (FP.l2d so)), .second] [(.long v1)]))
    refine OwnGo.of (A := s₁.setTop (mkF m 8 #[.val (.ref a0), .val (.int (1 : Int32)), .val (.int p2), .val (.double (FP.l2d so)), .second] [(.long v1)])) (B := s₁.setTop (mkF m 13 #[.val (.ref a0), .val (.int (1 : Int32)), .val (.int p2), .val (.double (FP.l2d so)), .second] [(.double (FP.l2d v1))])) (fun t k => ?_) ?_
    · show Steps p.tables e below (s₁.setTop (mkF m 8 #[.val (.ref a0), .val (.int (1 : Int32)), .val (.int p2), .val (.double (FP.l2d so)), .second] [(.long v1)])) t
      refine XS.l2dS X0.here hx rfl (hb hby d2_8) rfl rfl ?_
      refine XS.goto X0.here hx rfl (pc0 := 9) (pc' := 13) rfl (hb hby d2_9) (by decide) (by decide) ?_
      exact k
    obtain ⟨fs, hr, hrun, hended, hW, hsame⟩ := X0.leave (v := some (.double (FP.l2d v1))) (fun h => by rw [Bd.returns] at h; cases h) hlk
    refine ⟨_, _, ?_, hrun, hended, _, _, rfl, ?_, ⟨_, rfl⟩, hW, hsame.mono (by decide) (by decide)⟩
    · show Steps p.tables e below (s₁.setTop (mkF m 13 #[.val (.ref a0), .val (.int (1 : Int32)), .val (.int p2), .val (.double (FP.l2d so)), .second] [(.double (FP.l2d v1))])) _
      exact own_retD X0 hx Bd.returns (hb hby d2_13) hr
    · show Qrms_1 Z a0 p2 so v0 v1 v2 v3 v4 v5 v6 v7 ka h0 n0 _ (s₁.setFrames fs).heap _
      rw [show (s₁.setFrames fs).heap = h0 from e0]
      exact ⟨by rw [if_pos hc1], N0, rfl⟩
  · refine OwnGo.of (A := s₁.setTop (mkF m 2 #[.val (.ref a0), .val (.int (1 : Int32)), .val (.int p2), .val (.double (FP.l2d so)), .second] [(.int p2), (.int (1 : Int32))])) (B := s₁.setTop (mkF m 13 #[.val (.ref a0), .val (.int (1 : Int32)), .val (.int p2), .val (.double (FP.l2d so)), .second] [(.double (FP.l2d so))])) (fun t k => ?_) ?_
    · show Steps p.tables e below (s₁.setTop (mkF m 2 #[.val (.ref a0), .val (.int (1 : Int32)), .val (.int p2), .val (.double (FP.l2d so)), .second] [(.int p2), (.int (1 : Int32))])) t
      refine XS.icmpYes X0.here hx rfl (pc0 := 2) (pc' := 12) rfl (hb hby d2_2) rfl (flt hc1).2.1 (by decide) (by decide) ?_
      refine XS.dloadN X0.here hx rfl (hb hby d2_12) rfl ?_
      exact k
    obtain ⟨fs, hr, hrun, hended, hW, hsame⟩ := X0.leave (v := some (.double (FP.l2d so))) (fun h => by rw [Bd.returns] at h; cases h) hlk
    refine ⟨_, _, ?_, hrun, hended, _, _, rfl, ?_, ⟨_, rfl⟩, hW, hsame.mono (by decide) (by decide)⟩
    · show Steps p.tables e below (s₁.setTop (mkF m 13 #[.val (.ref a0), .val (.int (1 : Int32)), .val (.int p2), .val (.double (FP.l2d so)), .second] [(.double (FP.l2d so))])) _
      exact own_retD X0 hx Bd.returns (hb hby d2_13) hr
    · show Qrms_1 Z a0 p2 so v0 v1 v2 v3 v4 v5 v6 v7 ka h0 n0 _ (s₁.setFrames fs).heap _
      rw [show (s₁.setFrames fs).heap = h0 from e0]
      exact ⟨by rw [if_neg hc1], N0, rfl⟩
theorem ef_rms_2 (m : MethodId) (a0 : Addr) (p2 : Int32) : entryFrame m #[(.ref a0), (.int (2 : Int32)), (.int p2), (.double (FP.l2d so))] 5 = mkF m 0 #[.val (.ref a0), .val (.int (2 : Int32)), .val (.int p2), .val (.double (FP.l2d so)), .second] [] := by first | (simp [entryFrame, mkF, argsToLocals, Value.category]; done) | rfl
def Qrms_2 (Z : State) (a0 : Addr) (p2 : Int32) (so : Int64) (v0 : Int64) (v1 : Int64) (v2 : Int64) (v3 : Int64) (v4 : Int64) (v5 : Int64) (v6 : Int64) (v7 : Int64) (ka : ClassId) (h0 : Heap) (n0 : Nat) (v : Option Value) (h : Heap) (L : List Loc) : Prop := v = some (.double (FP.l2d (if (2 : Int32) < p2 then v2 else so))) ∧ Fr n0 L ∧ h = h0
set_option maxRecDepth 65536 in
set_option maxHeartbeats 40000000 in
theorem rms_2 (l : Launch) (Z : State) (aw : Array Value) (hw : ∀ d ∈ tables_1, d.before aw Z = true) (ws : List Jvm.Cond) (a0 : Addr) (p2 : Int32) (so : Int64) (v0 : Int64) (v1 : Int64) (v2 : Int64) (v3 : Int64) (v4 : Int64) (v5 : Int64) (v6 : Int64) (v7 : Int64) (ka : ClassId) (h0 : Heap) (n0 : Nat) (Z0 : n0 ≤ h0.size) (V_a : Arv Z h0 a0 ka .long (8 : Int32) [(.long v0), (.long v1), (.long v2), (.long v3), (.long v4), (.long v5), (.long v6), (.long v7)] (.long (0 : Int64))) :
    MetFree l (⟨"com/example/rankwright/rankwright/rank/AccumulatorSiftDownPinLaw", "slot", "([JIID)D"⟩ : MethodName) (head1 (Jvm.Cond.code (⟨"com/example/rankwright/rankwright/rank/AccumulatorSiftDownPinLaw", "slot", "([JIID)D"⟩ : MethodName) method_4_code 5 (some .double) :: ws) ({ frames := 0, cells := 0, slots := 0, locals := 0 } : Room)) (fun a U => a = #[(.ref a0), (.int (2 : Int32)), (.int p2), (.double (FP.l2d so))] ∧ Z.Warmed39 U.vm ∧ U.heap = h0) (fun _ _ _ _ _ => True) (fun _ U o U' => ∃ v L, o = .returned v ∧ Qrms_2 Z a0 p2 so v0 v1 v2 v3 v4 v5 v6 v7 ka h0 n0 v U'.heap L ∧ FrameEnd U o U' L ({ frames := 0, cells := 0, slots := 0, locals := 0 } : Room).cells ({ frames := 0, cells := 0, slots := 0, locals := 0 } : Room).slots) := by
  refine MetFree.of_bodySF (plainFor_of_name pn_0) hisR ?_
  intro p e s m args below meth c s₁ Bd hml0 hP hK
  obtain ⟨rfl, hZ, hh⟩ := hP
  have hx := Bd.exec
  have hby := Bd.bytes
  have hml : c.maxLocals = 5 := hml0
  have hown : s.vm.findClass "com/example/rankwright/rankwright/rank/AccumulatorSiftDownPinLaw" = some m.cls := findClass_of_methodNamed Bd.named
  have hnm := (name_of_methodNamed Bd.named Bd.method).1
  have X0 : Stand p l e ({ frames := 0, cells := 0, slots := 0, locals := 0 } : Room) s m #[(.ref a0), (.int (2 : Int32)), (.int p2), (.double (FP.l2d so))] below meth c s₁ [] 0 0 := Stand.of_body Bd
  have e0 : s₁.heap = h0 := by rw [← hh, Bd.state]; rfl
  have N0 := Fr.nil n0
  have hlk := Bd.notSynchronized
  show OwnGo p.tables e below _ (s₁.setTop (entryFrame m #[(.ref a0), (.int (2 : Int32)), (.int p2), (.double (FP.l2d so))] 5))
  rw [ef_rms_2 m a0 p2]
  show OwnGo p.tables e below _ (s₁.setTop (mkF m 0 #[.val (.ref a0), .val (.int (2 : Int32)), .val (.int p2), .val (.double (FP.l2d so)), .second] []))
  refine OwnGo.of (A := s₁.setTop (mkF m 0 #[.val (.ref a0), .val (.int (2 : Int32)), .val (.int p2), .val (.double (FP.l2d so)), .second] [])) (B := s₁.setTop (mkF m 2 #[.val (.ref a0), .val (.int (2 : Int32)), .val (.int p2), .val (.double (FP.l2d so)), .second] [(.int p2), (.int (2 : Int32))])) (fun t k => ?_) ?_
  · show Steps p.tables e below (s₁.setTop (mkF m 0 #[.val (.ref a0), .val (.int (2 : Int32)), .val (.int p2), .val (.double (FP.l2d so)), .second] [])) t
    refine XS.iloadN X0.here hx rfl (hb hby d2_0) rfl ?_
    refine XS.iloadN X0.here hx rfl (hb hby d2_1) rfl ?_
    exact k
  by_cases hc1 : (2 : Int32) < p2
  · refine OwnGo.of (A := s₁.setTop (mkF m 2 #[.val (.ref a0), .val (.int (2 : Int32)), .val (.int p2), .val (.double (FP.l2d so)), .second] [(.int p2), (.int (2 : Int32))])) (B := s₁.setTop (mkF m 7 #[.val (.ref a0), .val (.int (2 : Int32)), .val (.int p2), .val (.double (FP.l2d so)), .second] [(.int (2 : Int32)), (.ref a0)])) (fun t k => ?_) ?_
    · show Steps p.tables e below (s₁.setTop (mkF m 2 #[.val (.ref a0), .val (.int (2 : Int32)), .val (.int p2), .val (.double (FP.l2d so)), .second] [(.int p2), (.int (2 : Int32))])) t
      refine XS.icmpNo X0.here hx rfl (hb hby d2_2) rfl (tlt hc1).2.1 ?_
      refine XS.aloadN X0.here hx rfl (hb hby d2_5) rfl rfl ?_
      refine XS.iloadN X0.here hx rfl (hb hby d2_6) rfl ?_
      exact k
    have cq2 := V_a
    obtain ⟨clq2, Arq2, qq2, Sq2, Nq2, Hq2, Gq2⟩ := cq2
    have hinq2 := inb_of (j := (2 : Int32)) Sq2 ⟨by decide, by decide⟩
    refine OwnGo.of (X0.laload hx (j := (2 : Int32)) (v := (.long v2)) (by rw [e0]; exact Arq2.1) (State.isArrayOf_alike hZ.alike Arq2.2.1) Arq2.2.2 hinq2 (Hq2.at hinq2 rfl) (g := (mkF m 7 #[.val (.ref a0), .val (.int (2 : Int32)), .val (.int p2), .val (.double (FP.l2d so)), .second] [(.int (2 : Int32)), (.ref a0)])) rfl rfl (hb hby d2_7)) ?_
    show OwnGo p.tables e below _ (s₁.setTop (mkF m 8 #[.val (.ref a0), .val (.int (2 : Int32)), .val (.int p2), .val (.double (FP.l2d so)), .second] [(.long v2)]))
    refine OwnGo.of (A := s₁.setTop (mkF m 8 #[.val (.ref a0), .val (.int (2 : Int32)), .val (.int p2), .val (.double (FP.l2d so)), .second] [(.long v2)])) (B := s₁.setTop (mkF m 13 #[.val (.ref a0), .val (.int (2 : Int32)), .val (.int p2), .val (.double (FP.l2d so)), .second] [(.double (FP.l2d v2))])) (fun t k => ?_) ?_
    · show Steps p.tables e below (s₁.setTop (mkF m 8 #[.val (.ref a0), .val (.int (2 : Int32)), .val (.int p2), .val (.double (FP.l2d so)), .second] [(.long v2)])) t
      refine XS.l2dS X0.here hx rfl (hb hby d2_8) rfl rfl ?_
      refine XS.goto X0.here hx rfl (pc0 := 9) (pc' := 13) rfl (hb hby d2_9) (by decide) (by decide) ?_
      exact k
    obtain ⟨fs, hr, hrun, hended, hW, hsame⟩ := X0.leave (v := some (.double (FP.l2d v2))) (fun h => by rw [Bd.returns] at h; cases h) hlk
    refine ⟨_, _, ?_, hrun, hended, _, _, rfl, ?_, ⟨_, rfl⟩, hW, hsame.mono (by decide) (by decide)⟩
    · show Steps p.tables e below (s₁.setTop (mkF m 13 #[.val (.ref a0), .val (.int (2 : Int32)), .val (.int p2), .val (.double (FP.l2d so)), .second] [(.double (FP.l2d v2))])) _
      exact own_retD X0 hx Bd.returns (hb hby d2_13) hr
    · show Qrms_2 Z a0 p2 so v0 v1 v2 v3 v4 v5 v6 v7 ka h0 n0 _ (s₁.setFrames fs).heap _
      rw [show (s₁.setFrames fs).heap = h0 from e0]
      exact ⟨by rw [if_pos hc1], N0, rfl⟩
  · refine OwnGo.of (A := s₁.setTop (mkF m 2 #[.val (.ref a0), .val (.int (2 : Int32)), .val (.int p2), .val (.double (FP.l2d so)), .second] [(.int p2), (.int (2 : Int32))])) (B := s₁.setTop (mkF m 13 #[.val (.ref a0), .val (.int (2 : Int32)), .val (.int p2), .val (.double (FP.l2d so)), .second] [(.double (FP.l2d so))])) (fun t k => ?_) ?_
    · show Steps p.tables e below (s₁.setTop (mkF m 2 #[.val (.ref a0), .val (.int (2 : Int32)), .val (.int p2), .val (.double (FP.l2d so)), .second] [(.int p2), (.int (2 : Int32))])) t
      refine XS.icmpYes X0.here hx rfl (pc0 := 2) (pc' := 12) rfl (hb hby d2_2) rfl (flt hc1).2.1 (by decide) (by decide) ?_
      refine XS.dloadN X0.here hx rfl (hb hby d2_12) rfl ?_
      exact k
    obtain ⟨fs, hr, hrun, hended, hW, hsame⟩ := X0.leave (v := some (.double (FP.l2d so))) (fun h => by rw [Bd.returns] at h; cases h) hlk
    refine ⟨_, _, ?_, hrun, hended, _, _, rfl, ?_, ⟨_, rfl⟩, hW, hsame.mono (by decide) (by decide)⟩
    · show Steps p.tables e below (s₁.setTop (mkF m 13 #[.val (.ref a0), .val (.int (2 : Int32)), .val (.int p2), .val (.double (FP.l2d so)), .second] [(.double (FP.l2d so))])) _
      exact own_retD X0 hx Bd.returns (hb hby d2_13) hr
    · show Qrms_2 Z a0 p2 so v0 v1 v2 v3 v4 v5 v6 v7 ka h0 n0 _ (s₁.setFrames fs).heap _
      rw [show (s₁.setFrames fs).heap = h0 from e0]
      exact ⟨by rw [if_neg hc1], N0, rfl⟩
theorem ef_rms_3 (m : MethodId) (a0 : Addr) (p2 : Int32) : entryFrame m #[(.ref a0), (.int (3 : Int32)), (.int p2), (.double (FP.l2d so))] 5 = mkF m 0 #[.val (.ref a0), .val (.int (3 : Int32)), .val (.int p2), .val (.double (FP.l2d so)), .second] [] := by first | (simp [entryFrame, mkF, argsToLocals, Value.category]; done) | rfl
def Qrms_3 (Z : State) (a0 : Addr) (p2 : Int32) (so : Int64) (v0 : Int64) (v1 : Int64) (v2 : Int64) (v3 : Int64) (v4 : Int64) (v5 : Int64) (v6 : Int64) (v7 : Int64) (ka : ClassId) (h0 : Heap) (n0 : Nat) (v : Option Value) (h : Heap) (L : List Loc) : Prop := v = some (.double (FP.l2d (if (3 : Int32) < p2 then v3 else so))) ∧ Fr n0 L ∧ h = h0
set_option maxRecDepth 65536 in
set_option maxHeartbeats 40000000 in
theorem rms_3 (l : Launch) (Z : State) (aw : Array Value) (hw : ∀ d ∈ tables_1, d.before aw Z = true) (ws : List Jvm.Cond) (a0 : Addr) (p2 : Int32) (so : Int64) (v0 : Int64) (v1 : Int64) (v2 : Int64) (v3 : Int64) (v4 : Int64) (v5 : Int64) (v6 : Int64) (v7 : Int64) (ka : ClassId) (h0 : Heap) (n0 : Nat) (Z0 : n0 ≤ h0.size) (V_a : Arv Z h0 a0 ka .long (8 : Int32) [(.long v0), (.long v1), (.long v2), (.long v3), (.long v4), (.long v5), (.long v6), (.long v7)] (.long (0 : Int64))) :
    MetFree l (⟨"com/example/rankwright/rankwright/rank/AccumulatorSiftDownPinLaw", "slot", "([JIID)D"⟩ : MethodName) (head1 (Jvm.Cond.code (⟨"com/example/rankwright/rankwright/rank/AccumulatorSiftDownPinLaw", "slot", "([JIID)D"⟩ : MethodName) method_4_code 5 (some .double) :: ws) ({ frames := 0, cells := 0, slots := 0, locals := 0 } : Room)) (fun a U => a = #[(.ref a0), (.int (3 : Int32)), (.int p2), (.double (FP.l2d so))] ∧ Z.Warmed39 U.vm ∧ U.heap = h0) (fun _ _ _ _ _ => True) (fun _ U o U' => ∃ v L, o = .returned v ∧ Qrms_3 Z a0 p2 so v0 v1 v2 v3 v4 v5 v6 v7 ka h0 n0 v U'.heap L ∧ FrameEnd U o U' L ({ frames := 0, cells := 0, slots := 0, locals := 0 } : Room).cells ({ frames := 0, cells := 0, slots := 0, locals := 0 } : Room).slots) := by
  refine MetFree.of_bodySF (plainFor_of_name pn_0) hisR ?_
  intro p e s m args below meth c s₁ Bd hml0 hP hK
  obtain ⟨rfl, hZ, hh⟩ := hP
  have hx := Bd.exec
  have hby := Bd.bytes
  have hml : c.maxLocals = 5 := hml0
  have hown : s.vm.findClass "com/example/rankwright/rankwright/rank/AccumulatorSiftDownPinLaw" = some m.cls := findClass_of_methodNamed Bd.named
  have hnm := (name_of_methodNamed Bd.named Bd.method).1
  have X0 : Stand p l e ({ frames := 0, cells := 0, slots := 0, locals := 0 } : Room) s m #[(.ref a0), (.int (3 : Int32)), (.int p2), (.double (FP.l2d so))] below meth c s₁ [] 0 0 := Stand.of_body Bd
  have e0 : s₁.heap = h0 := by rw [← hh, Bd.state]; rfl
  have N0 := Fr.nil n0
  have hlk := Bd.notSynchronized
  show OwnGo p.tables e below _ (s₁.setTop (entryFrame m #[(.ref a0), (.int (3 : Int32)), (.int p2), (.double (FP.l2d so))] 5))
  rw [ef_rms_3 m a0 p2]
  show OwnGo p.tables e below _ (s₁.setTop (mkF m 0 #[.val (.ref a0), .val (.int (3 : Int32)), .val (.int p2), .val (.double (FP.l2d so)), .second] []))
  refine OwnGo.of (A := s₁.setTop (mkF m 0 #[.val (.ref a0), .val (.int (3 : Int32)), .val (.int p2), .val (.double (FP.l2d so)), .second] [])) (B := s₁.setTop (mkF m 2 #[.val (.ref a0), .val (.int (3 : Int32)), .val (.int p2), .val (.double (FP.l2d so)), .second] [(.int p2), (.int (3 : Int32))])) (fun t k => ?_) ?_
  · show Steps p.tables e below (s₁.setTop (mkF m 0 #[.val (.ref a0), .val (.int (3 : Int32)), .val (.int p2), .val (.double (FP.l2d so)), .second] [])) t
    refine XS.iloadN X0.here hx rfl (hb hby d2_0) rfl ?_
    refine XS.iloadN X0.here hx rfl (hb hby d2_1) rfl ?_
    exact k
  by_cases hc1 : (3 : Int32) < p2
  · refine OwnGo.of (A := s₁.setTop (mkF m 2 #[.val (.ref a0), .val (.int (3 : Int32)), .val (.int p2), .val (.double (FP.l2d so)), .second] [(.int p2), (.int (3 : Int32))])) (B := s₁.setTop (mkF m 7 #[.val (.ref a0), .val (.int (3 : Int32)), .val (.int p2), .val (.double (FP.l2d so)), .second] [(.int (3 : Int32)), (.ref a0)])) (fun t k => ?_) ?_
    · show Steps p.tables e below (s₁.setTop (mkF m 2 #[.val (.ref a0), .val (.int (3 : Int32)), .val (.int p2), .val (.double (FP.l2d so)), .second] [(.int p2), (.int (3 : Int32))])) t
      refine XS.icmpNo X0.here hx rfl (hb hby d2_2) rfl (tlt hc1).2.1 ?_
      refine XS.aloadN X0.here hx rfl (hb hby d2_5) rfl rfl ?_
      refine XS.iloadN X0.here hx rfl (hb hby d2_6) rfl ?_
      exact k
    have cq2 := V_a
    obtain ⟨clq2, Arq2, qq2, Sq2, Nq2, Hq2, Gq2⟩ := cq2
    have hinq2 := inb_of (j := (3 : Int32)) Sq2 ⟨by decide, by decide⟩
    refine OwnGo.of (X0.laload hx (j := (3 : Int32)) (v := (.long v3)) (by rw [e0]; exact Arq2.1) (State.isArrayOf_alike hZ.alike Arq2.2.1) Arq2.2.2 hinq2 (Hq2.at hinq2 rfl) (g := (mkF m 7 #[.val (.ref a0), .val (.int (3 : Int32)), .val (.int p2), .val (.double (FP.l2d so)), .second] [(.int (3 : Int32)), (.ref a0)])) rfl rfl (hb hby d2_7)) ?_
    show OwnGo p.tables e below _ (s₁.setTop (mkF m 8 #[.val (.ref a0), .val (.int (3 : Int32)), .val (.int p2), .val (.double (FP.l2d so)), .second] [(.long v3)]))
    refine OwnGo.of (A := s₁.setTop (mkF m 8 #[.val (.ref a0), .val (.int (3 : Int32)), .val (.int p2), .val (.double (FP.l2d so)), .second] [(.long v3)])) (B := s₁.setTop (mkF m 13 #[.val (.ref a0), .val (.int (3 : Int32)), .val (.int p2), .val (.double (FP.l2d so)), .second] [(.double (FP.l2d v3))])) (fun t k => ?_) ?_
    · show Steps p.tables e below (s₁.setTop (mkF m 8 #[.val (.ref a0), .val (.int (3 : Int32)), .val (.int p2), .val (.double (FP.l2d so)), .second] [(.long v3)])) t
      refine XS.l2dS X0.here hx rfl (hb hby d2_8) rfl rfl ?_
      refine XS.goto X0.here hx rfl (pc0 := 9) (pc' := 13) rfl (hb hby d2_9) (by decide) (by decide) ?_
      exact k
    obtain ⟨fs, hr, hrun, hended, hW, hsame⟩ := X0.leave (v := some (.double (FP.l2d v3))) (fun h => by rw [Bd.returns] at h; cases h) hlk
    refine ⟨_, _, ?_, hrun, hended, _, _, rfl, ?_, ⟨_, rfl⟩, hW, hsame.mono (by decide) (by decide)⟩
    · show Steps p.tables e below (s₁.setTop (mkF m 13 #[.val (.ref a0), .val (.int (3 : Int32)), .val (.int p2), .val (.double (FP.l2d so)), .second] [(.double (FP.l2d v3))])) _
      exact own_retD X0 hx Bd.returns (hb hby d2_13) hr
    · show Qrms_3 Z a0 p2 so v0 v1 v2 v3 v4 v5 v6 v7 ka h0 n0 _ (s₁.setFrames fs).heap _
      rw [show (s₁.setFrames fs).heap = h0 from e0]
      exact ⟨by rw [if_pos hc1], N0, rfl⟩
  · refine OwnGo.of (A := s₁.setTop (mkF m 2 #[.val (.ref a0), .val (.int (3 : Int32)), .val (.int p2), .val (.double (FP.l2d so)), .second] [(.int p2), (.int (3 : Int32))])) (B := s₁.setTop (mkF m 13 #[.val (.ref a0), .val (.int (3 : Int32)), .val (.int p2), .val (.double (FP.l2d so)), .second] [(.double (FP.l2d so))])) (fun t k => ?_) ?_
    · show Steps p.tables e below (s₁.setTop (mkF m 2 #[.val (.ref a0), .val (.int (3 : Int32)), .val (.int p2), .val (.double (FP.l2d so)), .second] [(.int p2), (.int (3 : Int32))])) t
      refine XS.icmpYes X0.here hx rfl (pc0 := 2) (pc' := 12) rfl (hb hby d2_2) rfl (flt hc1).2.1 (by decide) (by decide) ?_
      refine XS.dloadN X0.here hx rfl (hb hby d2_12) rfl ?_
      exact k
    obtain ⟨fs, hr, hrun, hended, hW, hsame⟩ := X0.leave (v := some (.double (FP.l2d so))) (fun h => by rw [Bd.returns] at h; cases h) hlk
    refine ⟨_, _, ?_, hrun, hended, _, _, rfl, ?_, ⟨_, rfl⟩, hW, hsame.mono (by decide) (by decide)⟩
    · show Steps p.tables e below (s₁.setTop (mkF m 13 #[.val (.ref a0), .val (.int (3 : Int32)), .val (.int p2), .val (.double (FP.l2d so)), .second] [(.double (FP.l2d so))])) _
      exact own_retD X0 hx Bd.returns (hb hby d2_13) hr
    · show Qrms_3 Z a0 p2 so v0 v1 v2 v3 v4 v5 v6 v7 ka h0 n0 _ (s₁.setFrames fs).heap _
      rw [show (s₁.setFrames fs).heap = h0 from e0]
      exact ⟨by rw [if_neg hc1], N0, rfl⟩
theorem ef_rms_4 (m : MethodId) (a0 : Addr) (p2 : Int32) : entryFrame m #[(.ref a0), (.int (4 : Int32)), (.int p2), (.double (FP.l2d so))] 5 = mkF m 0 #[.val (.ref a0), .val (.int (4 : Int32)), .val (.int p2), .val (.double (FP.l2d so)), .second] [] := by first | (simp [entryFrame, mkF, argsToLocals, Value.category]; done) | rfl
def Qrms_4 (Z : State) (a0 : Addr) (p2 : Int32) (so : Int64) (v0 : Int64) (v1 : Int64) (v2 : Int64) (v3 : Int64) (v4 : Int64) (v5 : Int64) (v6 : Int64) (v7 : Int64) (ka : ClassId) (h0 : Heap) (n0 : Nat) (v : Option Value) (h : Heap) (L : List Loc) : Prop := v = some (.double (FP.l2d (if (4 : Int32) < p2 then v4 else so))) ∧ Fr n0 L ∧ h = h0
set_option maxRecDepth 65536 in
set_option maxHeartbeats 40000000 in
theorem rms_4 (l : Launch) (Z : State) (aw : Array Value) (hw : ∀ d ∈ tables_1, d.before aw Z = true) (ws : List Jvm.Cond) (a0 : Addr) (p2 : Int32) (so : Int64) (v0 : Int64) (v1 : Int64) (v2 : Int64) (v3 : Int64) (v4 : Int64) (v5 : Int64) (v6 : Int64) (v7 : Int64) (ka : ClassId) (h0 : Heap) (n0 : Nat) (Z0 : n0 ≤ h0.size) (V_a : Arv Z h0 a0 ka .long (8 : Int32) [(.long v0), (.long v1), (.long v2), (.long v3), (.long v4), (.long v5), (.long v6), (.long v7)] (.long (0 : Int64))) :
    MetFree l (⟨"com/example/rankwright/rankwright/rank/AccumulatorSiftDownPinLaw", "slot", "([JIID)D"⟩ : MethodName) (head1 (Jvm.Cond.code (⟨"com/example/rankwright/rankwright/rank/AccumulatorSiftDownPinLaw", "slot", "([JIID)D"⟩ : MethodName) method_4_code 5 (some .double) :: ws) ({ frames := 0, cells := 0, slots := 0, locals := 0 } : Room)) (fun a U => a = #[(.ref a0), (.int (4 : Int32)), (.int p2), (.double (FP.l2d so))] ∧ Z.Warmed39 U.vm ∧ U.heap = h0) (fun _ _ _ _ _ => True) (fun _ U o U' => ∃ v L, o = .returned v ∧ Qrms_4 Z a0 p2 so v0 v1 v2 v3 v4 v5 v6 v7 ka h0 n0 v U'.heap L ∧ FrameEnd U o U' L ({ frames := 0, cells := 0, slots := 0, locals := 0 } : Room).cells ({ frames := 0, cells := 0, slots := 0, locals := 0 } : Room).slots) := by
  refine MetFree.of_bodySF (plainFor_of_name pn_0) hisR ?_
  intro p e s m args below meth c s₁ Bd hml0 hP hK
  obtain ⟨rfl, hZ, hh⟩ := hP
  have hx := Bd.exec
  have hby := Bd.bytes
  have hml : c.maxLocals = 5 := hml0
  have hown : s.vm.findClass "com/example/rankwright/rankwright/rank/AccumulatorSiftDownPinLaw" = some m.cls := findClass_of_methodNamed Bd.named
  have hnm := (name_of_methodNamed Bd.named Bd.method).1
  have X0 : Stand p l e ({ frames := 0, cells := 0, slots := 0, locals := 0 } : Room) s m #[(.ref a0), (.int (4 : Int32)), (.int p2), (.double (FP.l2d so))] below meth c s₁ [] 0 0 := Stand.of_body Bd
  have e0 : s₁.heap = h0 := by rw [← hh, Bd.state]; rfl
  have N0 := Fr.nil n0
  have hlk := Bd.notSynchronized
  show OwnGo p.tables e below _ (s₁.setTop (entryFrame m #[(.ref a0), (.int (4 : Int32)), (.int p2), (.double (FP.l2d so))] 5))
  rw [ef_rms_4 m a0 p2]
  show OwnGo p.tables e below _ (s₁.setTop (mkF m 0 #[.val (.ref a0), .val (.int (4 : Int32)), .val (.int p2), .val (.double (FP.l2d so)), .second] []))
  refine OwnGo.of (A := s₁.setTop (mkF m 0 #[.val (.ref a0), .val (.int (4 : Int32)), .val (.int p2), .val (.double (FP.l2d so)), .second] [])) (B := s₁.setTop (mkF m 2 #[.val (.ref a0), .val (.int (4 : Int32)), .val (.int p2), .val (.double (FP.l2d so)), .second] [(.int p2), (.int (4 : Int32))])) (fun t k => ?_) ?_
  · show Steps p.tables e below (s₁.setTop (mkF m 0 #[.val (.ref a0), .val (.int (4 : Int32)), .val (.int p2), .val (.double (FP.l2d so)), .second] [])) t
    refine XS.iloadN X0.here hx rfl (hb hby d2_0) rfl ?_
    refine XS.iloadN X0.here hx rfl (hb hby d2_1) rfl ?_
    exact k
  by_cases hc1 : (4 : Int32) < p2
  · refine OwnGo.of (A := s₁.setTop (mkF m 2 #[.val (.ref a0), .val (.int (4 : Int32)), .val (.int p2), .val (.double (FP.l2d so)), .second] [(.int p2), (.int (4 : Int32))])) (B := s₁.setTop (mkF m 7 #[.val (.ref a0), .val (.int (4 : Int32)), .val (.int p2), .val (.double (FP.l2d so)), .second] [(.int (4 : Int32)), (.ref a0)])) (fun t k => ?_) ?_
    · show Steps p.tables e below (s₁.setTop (mkF m 2 #[.val (.ref a0), .val (.int (4 : Int32)), .val (.int p2), .val (.double (FP.l2d so)), .second] [(.int p2), (.int (4 : Int32))])) t
      refine XS.icmpNo X0.here hx rfl (hb hby d2_2) rfl (tlt hc1).2.1 ?_
      refine XS.aloadN X0.here hx rfl (hb hby d2_5) rfl rfl ?_
      refine XS.iloadN X0.here hx rfl (hb hby d2_6) rfl ?_
      exact k
    have cq2 := V_a
    obtain ⟨clq2, Arq2, qq2, Sq2, Nq2, Hq2, Gq2⟩ := cq2
    have hinq2 := inb_of (j := (4 : Int32)) Sq2 ⟨by decide, by decide⟩
    refine OwnGo.of (X0.laload hx (j := (4 : Int32)) (v := (.long v4)) (by rw [e0]; exact Arq2.1) (State.isArrayOf_alike hZ.alike Arq2.2.1) Arq2.2.2 hinq2 (Hq2.at hinq2 rfl) (g := (mkF m 7 #[.val (.ref a0), .val (.int (4 : Int32)), .val (.int p2), .val (.double (FP.l2d so)), .second] [(.int (4 : Int32)), (.ref a0)])) rfl rfl (hb hby d2_7)) ?_
    show OwnGo p.tables e below _ (s₁.setTop (mkF m 8 #[.val (.ref a0), .val (.int (4 : Int32)), .val (.int p2), .val (.double (FP.l2d so)), .second] [(.long v4)]))
    refine OwnGo.of (A := s₁.setTop (mkF m 8 #[.val (.ref a0), .val (.int (4 : Int32)), .val (.int p2), .val (.double (FP.l2d so)), .second] [(.long v4)])) (B := s₁.setTop (mkF m 13 #[.val (.ref a0), .val (.int (4 : Int32)), .val (.int p2), .val (.double (FP.l2d so)), .second] [(.double (FP.l2d v4))])) (fun t k => ?_) ?_
    · show Steps p.tables e below (s₁.setTop (mkF m 8 #[.val (.ref a0), .val (.int (4 : Int32)), .val (.int p2), .val (.double (FP.l2d so)), .second] [(.long v4)])) t
      refine XS.l2dS X0.here hx rfl (hb hby d2_8) rfl rfl ?_
      refine XS.goto X0.here hx rfl (pc0 := 9) (pc' := 13) rfl (hb hby d2_9) (by decide) (by decide) ?_
      exact k
    obtain ⟨fs, hr, hrun, hended, hW, hsame⟩ := X0.leave (v := some (.double (FP.l2d v4))) (fun h => by rw [Bd.returns] at h; cases h) hlk
    refine ⟨_, _, ?_, hrun, hended, _, _, rfl, ?_, ⟨_, rfl⟩, hW, hsame.mono (by decide) (by decide)⟩
    · show Steps p.tables e below (s₁.setTop (mkF m 13 #[.val (.ref a0), .val (.int (4 : Int32)), .val (.int p2), .val (.double (FP.l2d so)), .second] [(.double (FP.l2d v4))])) _
      exact own_retD X0 hx Bd.returns (hb hby d2_13) hr
    · show Qrms_4 Z a0 p2 so v0 v1 v2 v3 v4 v5 v6 v7 ka h0 n0 _ (s₁.setFrames fs).heap _
      rw [show (s₁.setFrames fs).heap = h0 from e0]
      exact ⟨by rw [if_pos hc1], N0, rfl⟩
  · refine OwnGo.of (A := s₁.setTop (mkF m 2 #[.val (.ref a0), .val (.int (4 : Int32)), .val (.int p2), .val (.double (FP.l2d so)), .second] [(.int p2), (.int (4 : Int32))])) (B := s₁.setTop (mkF m 13 #[.val (.ref a0), .val (.int (4 : Int32)), .val (.int p2), .val (.double (FP.l2d so)), .second] [(.double (FP.l2d so))])) (fun t k => ?_) ?_
    · show Steps p.tables e below (s₁.setTop (mkF m 2 #[.val (.ref a0), .val (.int (4 : Int32)), .val (.int p2), .val (.double (FP.l2d so)), .second] [(.int p2), (.int (4 : Int32))])) t
      refine XS.icmpYes X0.here hx rfl (pc0 := 2) (pc' := 12) rfl (hb hby d2_2) rfl (flt hc1).2.1 (by decide) (by decide) ?_
      refine XS.dloadN X0.here hx rfl (hb hby d2_12) rfl ?_
      exact k
    obtain ⟨fs, hr, hrun, hended, hW, hsame⟩ := X0.leave (v := some (.double (FP.l2d so))) (fun h => by rw [Bd.returns] at h; cases h) hlk
    refine ⟨_, _, ?_, hrun, hended, _, _, rfl, ?_, ⟨_, rfl⟩, hW, hsame.mono (by decide) (by decide)⟩
    · show Steps p.tables e below (s₁.setTop (mkF m 13 #[.val (.ref a0), .val (.int (4 : Int32)), .val (.int p2), .val (.double (FP.l2d so)), .second] [(.double (FP.l2d so))])) _
      exact own_retD X0 hx Bd.returns (hb hby d2_13) hr
    · show Qrms_4 Z a0 p2 so v0 v1 v2 v3 v4 v5 v6 v7 ka h0 n0 _ (s₁.setFrames fs).heap _
      rw [show (s₁.setFrames fs).heap = h0 from e0]
      exact ⟨by rw [if_neg hc1], N0, rfl⟩
theorem ef_rms_5 (m : MethodId) (a0 : Addr) (p2 : Int32) : entryFrame m #[(.ref a0), (.int (5 : Int32)), (.int p2), (.double (FP.l2d so))] 5 = mkF m 0 #[.val (.ref a0), .val (.int (5 : Int32)), .val (.int p2), .val (.double (FP.l2d so)), .second] [] := by first | (simp [entryFrame, mkF, argsToLocals, Value.category]; done) | rfl
def Qrms_5 (Z : State) (a0 : Addr) (p2 : Int32) (so : Int64) (v0 : Int64) (v1 : Int64) (v2 : Int64) (v3 : Int64) (v4 : Int64) (v5 : Int64) (v6 : Int64) (v7 : Int64) (ka : ClassId) (h0 : Heap) (n0 : Nat) (v : Option Value) (h : Heap) (L : List Loc) : Prop := v = some (.double (FP.l2d (if (5 : Int32) < p2 then v5 else so))) ∧ Fr n0 L ∧ h = h0
set_option maxRecDepth 65536 in
set_option maxHeartbeats 40000000 in
theorem rms_5 (l : Launch) (Z : State) (aw : Array Value) (hw : ∀ d ∈ tables_1, d.before aw Z = true) (ws : List Jvm.Cond) (a0 : Addr) (p2 : Int32) (so : Int64) (v0 : Int64) (v1 : Int64) (v2 : Int64) (v3 : Int64) (v4 : Int64) (v5 : Int64) (v6 : Int64) (v7 : Int64) (ka : ClassId) (h0 : Heap) (n0 : Nat) (Z0 : n0 ≤ h0.size) (V_a : Arv Z h0 a0 ka .long (8 : Int32) [(.long v0), (.long v1), (.long v2), (.long v3), (.long v4), (.long v5), (.long v6), (.long v7)] (.long (0 : Int64))) :
    MetFree l (⟨"com/example/rankwright/rankwright/rank/AccumulatorSiftDownPinLaw", "slot", "([JIID)D"⟩ : MethodName) (head1 (Jvm.Cond.code (⟨"com/example/rankwright/rankwright/rank/AccumulatorSiftDownPinLaw", "slot", "([JIID)D"⟩ : MethodName) method_4_code 5 (some .double) :: ws) ({ frames := 0, cells := 0, slots := 0, locals := 0 } : Room)) (fun a U => a = #[(.ref a0), (.int (5 : Int32)), (.int p2), (.double (FP.l2d so))] ∧ Z.Warmed39 U.vm ∧ U.heap = h0) (fun _ _ _ _ _ => True) (fun _ U o U' => ∃ v L, o = .returned v ∧ Qrms_5 Z a0 p2 so v0 v1 v2 v3 v4 v5 v6 v7 ka h0 n0 v U'.heap L ∧ FrameEnd U o U' L ({ frames := 0, cells := 0, slots := 0, locals := 0 } : Room).cells ({ frames := 0, cells := 0, slots := 0, locals := 0 } : Room).slots) := by
  refine MetFree.of_bodySF (plainFor_of_name pn_0) hisR ?_
  intro p e s m args below meth c s₁ Bd hml0 hP hK
  obtain ⟨rfl, hZ, hh⟩ := hP
  have hx := Bd.exec
  have hby := Bd.bytes
  have hml : c.maxLocals = 5 := hml0
  have hown : s.vm.findClass "com/example/rankwright/rankwright/rank/AccumulatorSiftDownPinLaw" = some m.cls := findClass_of_methodNamed Bd.named
  have hnm := (name_of_methodNamed Bd.named Bd.method).1
  have X0 : Stand p l e ({ frames := 0, cells := 0, slots := 0, locals := 0 } : Room) s m #[(.ref a0), (.int (5 : Int32)), (.int p2), (.double (FP.l2d so))] below meth c s₁ [] 0 0 := Stand.of_body Bd
  have e0 : s₁.heap = h0 := by rw [← hh, Bd.state]; rfl
  have N0 := Fr.nil n0
  have hlk := Bd.notSynchronized
  show OwnGo p.tables e below _ (s₁.setTop (entryFrame m #[(.ref a0), (.int (5 : Int32)), (.int p2), (.double (FP.l2d so))] 5))
  rw [ef_rms_5 m a0 p2]
  show OwnGo p.tables e below _ (s₁.setTop (mkF m 0 #[.val (.ref a0), .val (.int (5 : Int32)), .val (.int p2), .val (.double (FP.l2d so)), .second] []))
  refine OwnGo.of (A := s₁.setTop (mkF m 0 #[.val (.ref a0), .val (.int (5 : Int32)), .val (.int p2), .val (.double (FP.l2d so)), .second] [])) (B := s₁.setTop (mkF m 2 #[.val (.ref a0), .val (.int (5 : Int32)), .val (.int p2), .val (.double (FP.l2d so)), .second] [(.int p2), (.int (5 : Int32))])) (fun t k => ?_) ?_
  · show Steps p.tables e below (s₁.setTop (mkF m 0 #[.val (.ref a0), .val (.int (5 : Int32)), .val (.int p2), .val (.double (FP.l2d so)), .second] [])) t
    refine XS.iloadN X0.here hx rfl (hb hby d2_0) rfl ?_
    refine XS.iloadN X0.here hx rfl (hb hby d2_1) rfl ?_
    exact k
  by_cases hc1 : (5 : Int32) < p2
  · refine OwnGo.of (A := s₁.setTop (mkF m 2 #[.val (.ref a0), .val (.int (5 : Int32)), .val (.int p2), .val (.double (FP.l2d so)), .second] [(.int p2), (.int (5 : Int32))])) (B := s₁.setTop (mkF m 7 #[.val (.ref a0), .val (.int (5 : Int32)), .val (.int p2), .val (.double (FP.l2d so)), .second] [(.int (5 : Int32)), (.ref a0)])) (fun t k => ?_) ?_
    · show Steps p.tables e below (s₁.setTop (mkF m 2 #[.val (.ref a0), .val (.int (5 : Int32)), .val (.int p2), .val (.double (FP.l2d so)), .second] [(.int p2), (.int (5 : Int32))])) t
      refine XS.icmpNo X0.here hx rfl (hb hby d2_2) rfl (tlt hc1).2.1 ?_
      refine XS.aloadN X0.here hx rfl (hb hby d2_5) rfl rfl ?_
      refine XS.iloadN X0.here hx rfl (hb hby d2_6) rfl ?_
      exact k
    have cq2 := V_a
    obtain ⟨clq2, Arq2, qq2, Sq2, Nq2, Hq2, Gq2⟩ := cq2
    have hinq2 := inb_of (j := (5 : Int32)) Sq2 ⟨by decide, by decide⟩
    refine OwnGo.of (X0.laload hx (j := (5 : Int32)) (v := (.long v5)) (by rw [e0]; exact Arq2.1) (State.isArrayOf_alike hZ.alike Arq2.2.1) Arq2.2.2 hinq2 (Hq2.at hinq2 rfl) (g := (mkF m 7 #[.val (.ref a0), .val (.int (5 : Int32)), .val (.int p2), .val (.double (FP.l2d so)), .second] [(.int (5 : Int32)), (.ref a0)])) rfl rfl (hb hby d2_7)) ?_
    show OwnGo p.tables e below _ (s₁.setTop (mkF m 8 #[.val (.ref a0), .val (.int (5 : Int32)), .val (.int p2), .val (.double (FP.l2d so)), .second] [(.long v5)]))
    refine OwnGo.of (A := s₁.setTop (mkF m 8 #[.val (.ref a0), .val (.int (5 : Int32)), .val (.int p2), .val (.double (FP.l2d so)), .second] [(.long v5)])) (B := s₁.setTop (mkF m 13 #[.val (.ref a0), .val (.int (5 : Int32)), .val (.int p2), .val (.double (FP.l2d so)), .second] [(.double (FP.l2d v5))])) (fun t k => ?_) ?_
    · show Steps p.tables e below (s₁.setTop (mkF m 8 #[.val (.ref a0), .val (.int (5 : Int32)), .val (.int p2), .val (.double (FP.l2d so)), .second] [(.long v5)])) t
      refine XS.l2dS X0.here hx rfl (hb hby d2_8) rfl rfl ?_
      refine XS.goto X0.here hx rfl (pc0 := 9) (pc' := 13) rfl (hb hby d2_9) (by decide) (by decide) ?_
      exact k
    obtain ⟨fs, hr, hrun, hended, hW, hsame⟩ := X0.leave (v := some (.double (FP.l2d v5))) (fun h => by rw [Bd.returns] at h; cases h) hlk
    refine ⟨_, _, ?_, hrun, hended, _, _, rfl, ?_, ⟨_, rfl⟩, hW, hsame.mono (by decide) (by decide)⟩
    · show Steps p.tables e below (s₁.setTop (mkF m 13 #[.val (.ref a0), .val (.int (5 : Int32)), .val (.int p2), .val (.double (FP.l2d so)), .second] [(.double (FP.l2d v5))])) _
      exact own_retD X0 hx Bd.returns (hb hby d2_13) hr
    · show Qrms_5 Z a0 p2 so v0 v1 v2 v3 v4 v5 v6 v7 ka h0 n0 _ (s₁.setFrames fs).heap _
      rw [show (s₁.setFrames fs).heap = h0 from e0]
      exact ⟨by rw [if_pos hc1], N0, rfl⟩
  · refine OwnGo.of (A := s₁.setTop (mkF m 2 #[.val (.ref a0), .val (.int (5 : Int32)), .val (.int p2), .val (.double (FP.l2d so)), .second] [(.int p2), (.int (5 : Int32))])) (B := s₁.setTop (mkF m 13 #[.val (.ref a0), .val (.int (5 : Int32)), .val (.int p2), .val (.double (FP.l2d so)), .second] [(.double (FP.l2d so))])) (fun t k => ?_) ?_
    · show Steps p.tables e below (s₁.setTop (mkF m 2 #[.val (.ref a0), .val (.int (5 : Int32)), .val (.int p2), .val (.double (FP.l2d so)), .second] [(.int p2), (.int (5 : Int32))])) t
      refine XS.icmpYes X0.here hx rfl (pc0 := 2) (pc' := 12) rfl (hb hby d2_2) rfl (flt hc1).2.1 (by decide) (by decide) ?_
      refine XS.dloadN X0.here hx rfl (hb hby d2_12) rfl ?_
      exact k
    obtain ⟨fs, hr, hrun, hended, hW, hsame⟩ := X0.leave (v := some (.double (FP.l2d so))) (fun h => by rw [Bd.returns] at h; cases h) hlk
    refine ⟨_, _, ?_, hrun, hended, _, _, rfl, ?_, ⟨_, rfl⟩, hW, hsame.mono (by decide) (by decide)⟩
    · show Steps p.tables e below (s₁.setTop (mkF m 13 #[.val (.ref a0), .val (.int (5 : Int32)), .val (.int p2), .val (.double (FP.l2d so)), .second] [(.double (FP.l2d so))])) _
      exact own_retD X0 hx Bd.returns (hb hby d2_13) hr
    · show Qrms_5 Z a0 p2 so v0 v1 v2 v3 v4 v5 v6 v7 ka h0 n0 _ (s₁.setFrames fs).heap _
      rw [show (s₁.setFrames fs).heap = h0 from e0]
      exact ⟨by rw [if_neg hc1], N0, rfl⟩
theorem ef_rms_6 (m : MethodId) (a0 : Addr) (p2 : Int32) : entryFrame m #[(.ref a0), (.int (6 : Int32)), (.int p2), (.double (FP.l2d so))] 5 = mkF m 0 #[.val (.ref a0), .val (.int (6 : Int32)), .val (.int p2), .val (.double (FP.l2d so)), .second] [] := by first | (simp [entryFrame, mkF, argsToLocals, Value.category]; done) | rfl
def Qrms_6 (Z : State) (a0 : Addr) (p2 : Int32) (so : Int64) (v0 : Int64) (v1 : Int64) (v2 : Int64) (v3 : Int64) (v4 : Int64) (v5 : Int64) (v6 : Int64) (v7 : Int64) (ka : ClassId) (h0 : Heap) (n0 : Nat) (v : Option Value) (h : Heap) (L : List Loc) : Prop := v = some (.double (FP.l2d (if (6 : Int32) < p2 then v6 else so))) ∧ Fr n0 L ∧ h = h0
set_option maxRecDepth 65536 in
set_option maxHeartbeats 40000000 in
theorem rms_6 (l : Launch) (Z : State) (aw : Array Value) (hw : ∀ d ∈ tables_1, d.before aw Z = true) (ws : List Jvm.Cond) (a0 : Addr) (p2 : Int32) (so : Int64) (v0 : Int64) (v1 : Int64) (v2 : Int64) (v3 : Int64) (v4 : Int64) (v5 : Int64) (v6 : Int64) (v7 : Int64) (ka : ClassId) (h0 : Heap) (n0 : Nat) (Z0 : n0 ≤ h0.size) (V_a : Arv Z h0 a0 ka .long (8 : Int32) [(.long v0), (.long v1), (.long v2), (.long v3), (.long v4), (.long v5), (.long v6), (.long v7)] (.long (0 : Int64))) :
    MetFree l (⟨"com/example/rankwright/rankwright/rank/AccumulatorSiftDownPinLaw", "slot", "([JIID)D"⟩ : MethodName) (head1 (Jvm.Cond.code (⟨"com/example/rankwright/rankwright/rank/AccumulatorSiftDownPinLaw", "slot", "([JIID)D"⟩ : MethodName) method_4_code 5 (some .double) :: ws) ({ frames := 0, cells := 0, slots := 0, locals := 0 } : Room)) (fun a U => a = #[(.ref a0), (.int (6 : Int32)), (.int p2), (.double (FP.l2d so))] ∧ Z.Warmed39 U.vm ∧ U.heap = h0) (fun _ _ _ _ _ => True) (fun _ U o U' => ∃ v L, o = .returned v ∧ Qrms_6 Z a0 p2 so v0 v1 v2 v3 v4 v5 v6 v7 ka h0 n0 v U'.heap L ∧ FrameEnd U o U' L ({ frames := 0, cells := 0, slots := 0, locals := 0 } : Room).cells ({ frames := 0, cells := 0, slots := 0, locals := 0 } : Room).slots) := by
  refine MetFree.of_bodySF (plainFor_of_name pn_0) hisR ?_
  intro p e s m args below meth c s₁ Bd hml0 hP hK
  obtain ⟨rfl, hZ, hh⟩ := hP
  have hx := Bd.exec
  have hby := Bd.bytes
  have hml : c.maxLocals = 5 := hml0
  have hown : s.vm.findClass "com/example/rankwright/rankwright/rank/AccumulatorSiftDownPinLaw" = some m.cls := findClass_of_methodNamed Bd.named
  have hnm := (name_of_methodNamed Bd.named Bd.method).1
  have X0 : Stand p l e ({ frames := 0, cells := 0, slots := 0, locals := 0 } : Room) s m #[(.ref a0), (.int (6 : Int32)), (.int p2), (.double (FP.l2d so))] below meth c s₁ [] 0 0 := Stand.of_body Bd
  have e0 : s₁.heap = h0 := by rw [← hh, Bd.state]; rfl
  have N0 := Fr.nil n0
  have hlk := Bd.notSynchronized
  show OwnGo p.tables e below _ (s₁.setTop (entryFrame m #[(.ref a0), (.int (6 : Int32)), (.int p2), (.double (FP.l2d so))] 5))
  rw [ef_rms_6 m a0 p2]
  show OwnGo p.tables e below _ (s₁.setTop (mkF m 0 #[.val (.ref a0), .val (.int (6 : Int32)), .val (.int p2), .val (.double (FP.l2d so)), .second] []))
  refine OwnGo.of (A := s₁.setTop (mkF m 0 #[.val (.ref a0), .val (.int (6 : Int32)), .val (.int p2), .val (.double (FP.l2d so)), .second] [])) (B := s₁.setTop (mkF m 2 #[.val (.ref a0), .val (.int (6 : Int32)), .val (.int p2), .val (.double (FP.l2d so)), .second] [(.int p2), (.int (6 : Int32))])) (fun t k => ?_) ?_
  · show Steps p.tables e below (s₁.setTop (mkF m 0 #[.val (.ref a0), .val (.int (6 : Int32)), .val (.int p2), .val (.double (FP.l2d so)), .second] [])) t
    refine XS.iloadN X0.here hx rfl (hb hby d2_0) rfl ?_
    refine XS.iloadN X0.here hx rfl (hb hby d2_1) rfl ?_
    exact k
  by_cases hc1 : (6 : Int32) < p2
  · refine OwnGo.of (A := s₁.setTop (mkF m 2 #[.val (.ref a0), .val (.int (6 : Int32)), .val (.int p2), .val (.double (FP.l2d so)), .second] [(.int p2), (.int (6 : Int32))])) (B := s₁.setTop (mkF m 7 #[.val (.ref a0), .val (.int (6 : Int32)), .val (.int p2), .val (.double (FP.l2d so)), .second] [(.int (6 : Int32)), (.ref a0)])) (fun t k => ?_) ?_
    · show Steps p.tables e below (s₁.setTop (mkF m 2 #[.val (.ref a0), .val (.int (6 : Int32)), .val (.int p2), .val (.double (FP.l2d so)), .second] [(.int p2), (.int (6 : Int32))])) t
      refine XS.icmpNo X0.here hx rfl (hb hby d2_2) rfl (tlt hc1).2.1 ?_
      refine XS.aloadN X0.here hx rfl (hb hby d2_5) rfl rfl ?_
      refine XS.iloadN X0.here hx rfl (hb hby d2_6) rfl ?_
      exact k
    have cq2 := V_a
    obtain ⟨clq2, Arq2, qq2, Sq2, Nq2, Hq2, Gq2⟩ := cq2
    have hinq2 := inb_of (j := (6 : Int32)) Sq2 ⟨by decide, by decide⟩
    refine OwnGo.of (X0.laload hx (j := (6 : Int32)) (v := (.long v6)) (by rw [e0]; exact Arq2.1) (State.isArrayOf_alike hZ.alike Arq2.2.1) Arq2.2.2 hinq2 (Hq2.at hinq2 rfl) (g := (mkF m 7 #[.val (.ref a0), .val (.int (6 : Int32)), .val (.int p2), .val (.double (FP.l2d so)), .second] [(.int (6 : Int32)), (.ref a0)])) rfl rfl (hb hby d2_7)) ?_
    show OwnGo p.tables e below _ (s₁.setTop (mkF m 8 #[.val (.ref a0), .val (.int (6 : Int32)), .val (.int p2), .val (.double (FP.l2d so)), .second] [(.long v6)]))
    refine OwnGo.of (A := s₁.setTop (mkF m 8 #[.val (.ref a0), .val (.int (6 : Int32)), .val (.int p2), .val (.double (FP.l2d so)), .second] [(.long v6)])) (B := s₁.setTop (mkF m 13 #[.val (.ref a0), .val (.int (6 : Int32)), .val (.int p2), .val (.double (FP.l2d so)), .second] [(.double (FP.l2d v6))])) (fun t k => ?_) ?_
    · show Steps p.tables e below (s₁.setTop (mkF m 8 #[.val (.ref a0), .val (.int (6 : Int32)), .val (.int p2), .val (.double (FP.l2d so)), .second] [(.long v6)])) t
      refine XS.l2dS X0.here hx rfl (hb hby d2_8) rfl rfl ?_
      refine XS.goto X0.here hx rfl (pc0 := 9) (pc' := 13) rfl (hb hby d2_9) (by decide) (by decide) ?_
      exact k
    obtain ⟨fs, hr, hrun, hended, hW, hsame⟩ := X0.leave (v := some (.double (FP.l2d v6))) (fun h => by rw [Bd.returns] at h; cases h) hlk
    refine ⟨_, _, ?_, hrun, hended, _, _, rfl, ?_, ⟨_, rfl⟩, hW, hsame.mono (by decide) (by decide)⟩
    · show Steps p.tables e below (s₁.setTop (mkF m 13 #[.val (.ref a0), .val (.int (6 : Int32)), .val (.int p2), .val (.double (FP.l2d so)), .second] [(.double (FP.l2d v6))])) _
      exact own_retD X0 hx Bd.returns (hb hby d2_13) hr
    · show Qrms_6 Z a0 p2 so v0 v1 v2 v3 v4 v5 v6 v7 ka h0 n0 _ (s₁.setFrames fs).heap _
      rw [show (s₁.setFrames fs).heap = h0 from e0]
      exact ⟨by rw [if_pos hc1], N0, rfl⟩
  · refine OwnGo.of (A := s₁.setTop (mkF m 2 #[.val (.ref a0), .val (.int (6 : Int32)), .val (.int p2), .val (.double (FP.l2d so)), .second] [(.int p2), (.int (6 : Int32))])) (B := s₁.setTop (mkF m 13 #[.val (.ref a0), .val (.int (6 : Int32)), .val (.int p2), .val (.double (FP.l2d so)), .second] [(.double (FP.l2d so))])) (fun t k => ?_) ?_
    · show Steps p.tables e below (s₁.setTop (mkF m 2 #[.val (.ref a0), .val (.int (6 : Int32)), .val (.int p2), .val (.double (FP.l2d so)), .second] [(.int p2), (.int (6 : Int32))])) t
      refine XS.icmpYes X0.here hx rfl (pc0 := 2) (pc' := 12) rfl (hb hby d2_2) rfl (flt hc1).2.1 (by decide) (by decide) ?_
      refine XS.dloadN X0.here hx rfl (hb hby d2_12) rfl ?_
      exact k
    obtain ⟨fs, hr, hrun, hended, hW, hsame⟩ := X0.leave (v := some (.double (FP.l2d so))) (fun h => by rw [Bd.returns] at h; cases h) hlk
    refine ⟨_, _, ?_, hrun, hended, _, _, rfl, ?_, ⟨_, rfl⟩, hW, hsame.mono (by decide) (by decide)⟩
    · show Steps p.tables e below (s₁.setTop (mkF m 13 #[.val (.ref a0), .val (.int (6 : Int32)), .val (.int p2), .val (.double (FP.l2d so)), .second] [(.double (FP.l2d so))])) _
      exact own_retD X0 hx Bd.returns (hb hby d2_13) hr
    · show Qrms_6 Z a0 p2 so v0 v1 v2 v3 v4 v5 v6 v7 ka h0 n0 _ (s₁.setFrames fs).heap _
      rw [show (s₁.setFrames fs).heap = h0 from e0]
      exact ⟨by rw [if_neg hc1], N0, rfl⟩
theorem ef_rms_7 (m : MethodId) (a0 : Addr) (p2 : Int32) : entryFrame m #[(.ref a0), (.int (7 : Int32)), (.int p2), (.double (FP.l2d so))] 5 = mkF m 0 #[.val (.ref a0), .val (.int (7 : Int32)), .val (.int p2), .val (.double (FP.l2d so)), .second] [] := by first | (simp [entryFrame, mkF, argsToLocals, Value.category]; done) | rfl
def Qrms_7 (Z : State) (a0 : Addr) (p2 : Int32) (so : Int64) (v0 : Int64) (v1 : Int64) (v2 : Int64) (v3 : Int64) (v4 : Int64) (v5 : Int64) (v6 : Int64) (v7 : Int64) (ka : ClassId) (h0 : Heap) (n0 : Nat) (v : Option Value) (h : Heap) (L : List Loc) : Prop := v = some (.double (FP.l2d (if (7 : Int32) < p2 then v7 else so))) ∧ Fr n0 L ∧ h = h0
set_option maxRecDepth 65536 in
set_option maxHeartbeats 40000000 in
theorem rms_7 (l : Launch) (Z : State) (aw : Array Value) (hw : ∀ d ∈ tables_1, d.before aw Z = true) (ws : List Jvm.Cond) (a0 : Addr) (p2 : Int32) (so : Int64) (v0 : Int64) (v1 : Int64) (v2 : Int64) (v3 : Int64) (v4 : Int64) (v5 : Int64) (v6 : Int64) (v7 : Int64) (ka : ClassId) (h0 : Heap) (n0 : Nat) (Z0 : n0 ≤ h0.size) (V_a : Arv Z h0 a0 ka .long (8 : Int32) [(.long v0), (.long v1), (.long v2), (.long v3), (.long v4), (.long v5), (.long v6), (.long v7)] (.long (0 : Int64))) :
    MetFree l (⟨"com/example/rankwright/rankwright/rank/AccumulatorSiftDownPinLaw", "slot", "([JIID)D"⟩ : MethodName) (head1 (Jvm.Cond.code (⟨"com/example/rankwright/rankwright/rank/AccumulatorSiftDownPinLaw", "slot", "([JIID)D"⟩ : MethodName) method_4_code 5 (some .double) :: ws) ({ frames := 0, cells := 0, slots := 0, locals := 0 } : Room)) (fun a U => a = #[(.ref a0), (.int (7 : Int32)), (.int p2), (.double (FP.l2d so))] ∧ Z.Warmed39 U.vm ∧ U.heap = h0) (fun _ _ _ _ _ => True) (fun _ U o U' => ∃ v L, o = .returned v ∧ Qrms_7 Z a0 p2 so v0 v1 v2 v3 v4 v5 v6 v7 ka h0 n0 v U'.heap L ∧ FrameEnd U o U' L ({ frames := 0, cells := 0, slots := 0, locals := 0 } : Room).cells ({ frames := 0, cells := 0, slots := 0, locals := 0 } : Room).slots) := by
  refine MetFree.of_bodySF (plainFor_of_name pn_0) hisR ?_
  intro p e s m args below meth c s₁ Bd hml0 hP hK
  obtain ⟨rfl, hZ, hh⟩ := hP
  have hx := Bd.exec
  have hby := Bd.bytes
  have hml : c.maxLocals = 5 := hml0
  have hown : s.vm.findClass "com/example/rankwright/rankwright/rank/AccumulatorSiftDownPinLaw" = some m.cls := findClass_of_methodNamed Bd.named
  have hnm := (name_of_methodNamed Bd.named Bd.method).1
  have X0 : Stand p l e ({ frames := 0, cells := 0, slots := 0, locals := 0 } : Room) s m #[(.ref a0), (.int (7 : Int32)), (.int p2), (.double (FP.l2d so))] below meth c s₁ [] 0 0 := Stand.of_body Bd
  have e0 : s₁.heap = h0 := by rw [← hh, Bd.state]; rfl
  have N0 := Fr.nil n0
  have hlk := Bd.notSynchronized
  show OwnGo p.tables e below _ (s₁.setTop (entryFrame m #[(.ref a0), (.int (7 : Int32)), (.int p2), (.double (FP.l2d so))] 5))
  rw [ef_rms_7 m a0 p2]
  show OwnGo p.tables e below _ (s₁.setTop (mkF m 0 #[.val (.ref a0), .val (.int (7 : Int32)), .val (.int p2), .val (.double (FP.l2d so)), .second] []))
  refine OwnGo.of (A := s₁.setTop (mkF m 0 #[.val (.ref a0), .val (.int (7 : Int32)), .val (.int p2), .val (.double (FP.l2d so)), .second] [])) (B := s₁.setTop (mkF m 2 #[.val (.ref a0), .val (.int (7 : Int32)), .val (.int p2), .val (.double (FP.l2d so)), .second] [(.int p2), (.int (7 : Int32))])) (fun t k => ?_) ?_
  · show Steps p.tables e below (s₁.setTop (mkF m 0 #[.val (.ref a0), .val (.int (7 : Int32)), .val (.int p2), .val (.double (FP.l2d so)), .second] [])) t
    refine XS.iloadN X0.here hx rfl (hb hby d2_0) rfl ?_
    refine XS.iloadN X0.here hx rfl (hb hby d2_1) rfl ?_
    exact k
  by_cases hc1 : (7 : Int32) < p2
  · refine OwnGo.of (A := s₁.setTop (mkF m 2 #[.val (.ref a0), .val (.int (7 : Int32)), .val (.int p2), .val (.double (FP.l2d so)), .second] [(.int p2), (.int (7 : Int32))])) (B := s₁.setTop (mkF m 7 #[.val (.ref a0), .val (.int (7 : Int32)), .val (.int p2), .val (.double (FP.l2d so)), .second] [(.int (7 : Int32)), (.ref a0)])) (fun t k => ?_) ?_
    · show Steps p.tables e below (s₁.setTop (mkF m 2 #[.val (.ref a0), .val (.int (7 : Int32)), .val (.int p2), .val (.double (FP.l2d so)), .second] [(.int p2), (.int (7 : Int32))])) t
      refine XS.icmpNo X0.here hx rfl (hb hby d2_2) rfl (tlt hc1).2.1 ?_
      refine XS.aloadN X0.here hx rfl (hb hby d2_5) rfl rfl ?_
      refine XS.iloadN X0.here hx rfl (hb hby d2_6) rfl ?_
      exact k
    have cq2 := V_a
    obtain ⟨clq2, Arq2, qq2, Sq2, Nq2, Hq2, Gq2⟩ := cq2
    have hinq2 := inb_of (j := (7 : Int32)) Sq2 ⟨by decide, by decide⟩
    refine OwnGo.of (X0.laload hx (j := (7 : Int32)) (v := (.long v7)) (by rw [e0]; exact Arq2.1) (State.isArrayOf_alike hZ.alike Arq2.2.1) Arq2.2.2 hinq2 (Hq2.at hinq2 rfl) (g := (mkF m 7 #[.val (.ref a0), .val (.int (7 : Int32)), .val (.int p2), .val (.double (FP.l2d so)), .second] [(.int (7 : Int32)), (.ref a0)])) rfl rfl (hb hby d2_7)) ?_
    show OwnGo p.tables e below _ (s₁.setTop (mkF m 8 #[.val (.ref a0), .val (.int (7 : Int32)), .val (.int p2), .val (.double (FP.l2d so)), .second] [(.long v7)]))
    refine OwnGo.of (A := s₁.setTop (mkF m 8 #[.val (.ref a0), .val (.int (7 : Int32)), .val (.int p2), .val (.double (FP.l2d so)), .second] [(.long v7)])) (B := s₁.setTop (mkF m 13 #[.val (.ref a0), .val (.int (7 : Int32)), .val (.int p2), .val (.double (FP.l2d so)), .second] [(.double (FP.l2d v7))])) (fun t k => ?_) ?_
    · show Steps p.tables e below (s₁.setTop (mkF m 8 #[.val (.ref a0), .val (.int (7 : Int32)), .val (.int p2), .val (.double (FP.l2d so)), .second] [(.long v7)])) t
      refine XS.l2dS X0.here hx rfl (hb hby d2_8) rfl rfl ?_
      refine XS.goto X0.here hx rfl (pc0 := 9) (pc' := 13) rfl (hb hby d2_9) (by decide) (by decide) ?_
      exact k
    obtain ⟨fs, hr, hrun, hended, hW, hsame⟩ := X0.leave (v := some (.double (FP.l2d v7))) (fun h => by rw [Bd.returns] at h; cases h) hlk
    refine ⟨_, _, ?_, hrun, hended, _, _, rfl, ?_, ⟨_, rfl⟩, hW, hsame.mono (by decide) (by decide)⟩
    · show Steps p.tables e below (s₁.setTop (mkF m 13 #[.val (.ref a0), .val (.int (7 : Int32)), .val (.int p2), .val (.double (FP.l2d so)), .second] [(.double (FP.l2d v7))])) _
      exact own_retD X0 hx Bd.returns (hb hby d2_13) hr
    · show Qrms_7 Z a0 p2 so v0 v1 v2 v3 v4 v5 v6 v7 ka h0 n0 _ (s₁.setFrames fs).heap _
      rw [show (s₁.setFrames fs).heap = h0 from e0]
      exact ⟨by rw [if_pos hc1], N0, rfl⟩
  · refine OwnGo.of (A := s₁.setTop (mkF m 2 #[.val (.ref a0), .val (.int (7 : Int32)), .val (.int p2), .val (.double (FP.l2d so)), .second] [(.int p2), (.int (7 : Int32))])) (B := s₁.setTop (mkF m 13 #[.val (.ref a0), .val (.int (7 : Int32)), .val (.int p2), .val (.double (FP.l2d so)), .second] [(.double (FP.l2d so))])) (fun t k => ?_) ?_
    · show Steps p.tables e below (s₁.setTop (mkF m 2 #[.val (.ref a0), .val (.int (7 : Int32)), .val (.int p2), .val (.double (FP.l2d so)), .second] [(.int p2), (.int (7 : Int32))])) t
      refine XS.icmpYes X0.here hx rfl (pc0 := 2) (pc' := 12) rfl (hb hby d2_2) rfl (flt hc1).2.1 (by decide) (by decide) ?_
      refine XS.dloadN X0.here hx rfl (hb hby d2_12) rfl ?_
      exact k
    obtain ⟨fs, hr, hrun, hended, hW, hsame⟩ := X0.leave (v := some (.double (FP.l2d so))) (fun h => by rw [Bd.returns] at h; cases h) hlk
    refine ⟨_, _, ?_, hrun, hended, _, _, rfl, ?_, ⟨_, rfl⟩, hW, hsame.mono (by decide) (by decide)⟩
    · show Steps p.tables e below (s₁.setTop (mkF m 13 #[.val (.ref a0), .val (.int (7 : Int32)), .val (.int p2), .val (.double (FP.l2d so)), .second] [(.double (FP.l2d so))])) _
      exact own_retD X0 hx Bd.returns (hb hby d2_13) hr
    · show Qrms_7 Z a0 p2 so v0 v1 v2 v3 v4 v5 v6 v7 ka h0 n0 _ (s₁.setFrames fs).heap _
      rw [show (s₁.setFrames fs).heap = h0 from e0]
      exact ⟨by rw [if_neg hc1], N0, rfl⟩
theorem pn_1 : plainName "com/example/rankwright/rankwright/rank/Accumulator" = true := by first | (simp [plainName, overriddenIn]; done) | decide +kernel
theorem d3_0 : decode prog_94_method_25_code 0 = .ok (.iconst 0, 1) := by decide +kernel
theorem d3_1 : decode prog_94_method_25_code 1 = .ok (.istore 4, 2) := by decide +kernel
theorem d3_3 : decode prog_94_method_25_code 3 = .ok (.iconst 1, 1) := by decide +kernel
theorem d3_4 : decode prog_94_method_25_code 4 = .ok (.istore 5, 2) := by decide +kernel
theorem d3_6 : decode prog_94_method_25_code 6 = .ok (.iload 5, 2) := by decide +kernel
theorem d3_8 : decode prog_94_method_25_code 8 = .ok (.iload_n 1, 1) := by decide +kernel
theorem d3_9 : decode prog_94_method_25_code 9 = .ok (.if_icmp .ge 63, 3) := by decide +kernel
theorem d3_12 : decode prog_94_method_25_code 12 = .ok (.iload 5, 2) := by decide +kernel
theorem d3_14 : decode prog_94_method_25_code 14 = .ok (.iconst 1, 1) := by decide +kernel
theorem d3_15 : decode prog_94_method_25_code 15 = .ok (.iadd, 1) := by decide +kernel
theorem d3_16 : decode prog_94_method_25_code 16 = .ok (.iload_n 1, 1) := by decide +kernel
theorem d3_17 : decode prog_94_method_25_code 17 = .ok (.if_icmp .ge 20, 3) := by decide +kernel
theorem d3_20 : decode prog_94_method_25_code 20 = .ok (.aload_n 0, 1) := by decide +kernel
theorem d3_21 : decode prog_94_method_25_code 21 = .ok (.iload 5, 2) := by decide +kernel
theorem d3_23 : decode prog_94_method_25_code 23 = .ok (.iconst 1, 1) := by decide +kernel
theorem d3_24 : decode prog_94_method_25_code 24 = .ok (.iadd, 1) := by decide +kernel
theorem d3_25 : decode prog_94_method_25_code 25 = .ok (.daload, 1) := by decide +kernel
theorem d3_26 : decode prog_94_method_25_code 26 = .ok (.aload_n 0, 1) := by decide +kernel
theorem d3_27 : decode prog_94_method_25_code 27 = .ok (.iload 5, 2) := by decide +kernel
theorem d3_29 : decode prog_94_method_25_code 29 = .ok (.daload, 1) := by decide +kernel
theorem d3_30 : decode prog_94_method_25_code 30 = .ok (.dcmp .g, 1) := by decide +kernel
theorem d3_31 : decode prog_94_method_25_code 31 = .ok (.ifCond .ge 6, 3) := by decide +kernel
theorem d3_34 : decode prog_94_method_25_code 34 = .ok (.iinc 5 1, 3) := by decide +kernel
theorem d3_37 : decode prog_94_method_25_code 37 = .ok (.aload_n 0, 1) := by decide +kernel
theorem d3_38 : decode prog_94_method_25_code 38 = .ok (.iload 5, 2) := by decide +kernel
theorem d3_40 : decode prog_94_method_25_code 40 = .ok (.daload, 1) := by decide +kernel
theorem d3_41 : decode prog_94_method_25_code 41 = .ok (.dload_n 2, 1) := by decide +kernel
theorem d3_42 : decode prog_94_method_25_code 42 = .ok (.dcmp .l, 1) := by decide +kernel
theorem d3_43 : decode prog_94_method_25_code 43 = .ok (.ifCond .lt 6, 3) := by decide +kernel
theorem d3_46 : decode prog_94_method_25_code 46 = .ok (.goto 26, 3) := by decide +kernel
theorem d3_49 : decode prog_94_method_25_code 49 = .ok (.aload_n 0, 1) := by decide +kernel
theorem d3_50 : decode prog_94_method_25_code 50 = .ok (.iload 4, 2) := by decide +kernel
theorem d3_52 : decode prog_94_method_25_code 52 = .ok (.aload_n 0, 1) := by decide +kernel
theorem d3_53 : decode prog_94_method_25_code 53 = .ok (.iload 5, 2) := by decide +kernel
theorem d3_55 : decode prog_94_method_25_code 55 = .ok (.daload, 1) := by decide +kernel
theorem d3_56 : decode prog_94_method_25_code 56 = .ok (.dastore, 1) := by decide +kernel
theorem d3_57 : decode prog_94_method_25_code 57 = .ok (.iload 5, 2) := by decide +kernel
theorem d3_59 : decode prog_94_method_25_code 59 = .ok (.istore 4, 2) := by decide +kernel
theorem d3_61 : decode prog_94_method_25_code 61 = .ok (.iconst 2, 1) := by decide +kernel
theorem d3_62 : decode prog_94_method_25_code 62 = .ok (.iload 4, 2) := by decide +kernel
theorem d3_64 : decode prog_94_method_25_code 64 = .ok (.imul, 1) := by decide +kernel
theorem d3_65 : decode prog_94_method_25_code 65 = .ok (.iconst 1, 1) := by decide +kernel
theorem d3_66 : decode prog_94_method_25_code 66 = .ok (.iadd, 1) := by decide +kernel
theorem d3_67 : decode prog_94_method_25_code 67 = .ok (.istore 5, 2) := by decide +kernel
theorem d3_69 : decode prog_94_method_25_code 69 = .ok (.goto (-63), 3) := by decide +kernel
theorem d3_72 : decode prog_94_method_25_code 72 = .ok (.aload_n 0, 1) := by decide +kernel
theorem d3_73 : decode prog_94_method_25_code 73 = .ok (.iload 4, 2) := by decide +kernel
theorem d3_75 : decode prog_94_method_25_code 75 = .ok (.dload_n 2, 1) := by decide +kernel
theorem d3_76 : decode prog_94_method_25_code 76 = .ok (.dastore, 1) := by decide +kernel
theorem d3_77 : decode prog_94_method_25_code 77 = .ok (.return_, 1) := by decide +kernel
theorem ef_rmd (m : MethodId) (a0 : Addr) (p1 : Int32) : entryFrame m #[(.ref a0), (.int p1), (.double (FP.l2d sv))] 6 = mkF m 0 #[.val (.ref a0), .val (.int p1), .val (.double (FP.l2d sv)), .second, .unset, .unset] [] := by first | (simp [entryFrame, mkF, argsToLocals, Value.category]; done) | rfl
def Qrmd (Z : State) (a0 : Addr) (p1 : Int32) (sv : Int64) (F0 : Nat → Int64) (ka : ClassId) (nn : Nat) (h0 : Heap) (n0 : Nat) (G0 : Nat → Int64) (v : Option Value) (h : Heap) (L : List Loc) : Prop := v = none ∧ Fr n0 L ∧ Keep h0 h [a0] ∧ Arv Z h a0 ka .double (10 : Int32) (own_l10 (G0)) (.double (0 : UInt64))
set_option maxRecDepth 65536 in
set_option maxHeartbeats 40000000 in
theorem rmd (l : Launch) (Z : State) (aw : Array Value) (hw : ∀ d ∈ tables_1, d.before aw Z = true) (ws : List Jvm.Cond) (a0 : Addr) (p1 : Int32) (sv : Int64) (F0 : Nat → Int64) (ka : ClassId) (nn : Nat) (h0 : Heap) (n0 : Nat) (Z0 : n0 ≤ h0.size) (V_a : Arv Z h0 a0 ka .double (10 : Int32) (own_l10 (F0)) (.double (0 : UInt64))) (g_a0 : n0 ≤ a0) (hsv : B53 sv) (hF0 : ∀ j, B53 (F0 j)) (hp : p1.toInt = nn) (hn : 1 ≤ nn ∧ nn ≤ 8) :
    MetFree l (⟨"com/example/rankwright/rankwright/rank/Accumulator", "siftDown", "([DID)V"⟩ : MethodName) (head1 (Jvm.Cond.code (⟨"com/example/rankwright/rankwright/rank/Accumulator", "siftDown", "([DID)V"⟩ : MethodName) prog_94_method_25_code 6 none :: ws) ({ frames := 0, cells := 0, slots := 0, locals := 0 } : Room)) (fun a U => a = #[(.ref a0), (.int p1), (.double (FP.l2d sv))] ∧ Z.Warmed39 U.vm ∧ U.heap = h0) (fun _ _ _ _ _ => True) (fun _ U o U' => ∃ v L, o = .returned v ∧ Qrmd Z a0 p1 sv F0 ka nn h0 n0 (own_sift 4 nn sv 0 F0) v U'.heap L ∧ FrameEnd U o U' L ({ frames := 0, cells := 0, slots := 0, locals := 0 } : Room).cells ({ frames := 0, cells := 0, slots := 0, locals := 0 } : Room).slots) := by
  refine MetFree.of_bodySF (plainFor_of_name pn_1) hisR ?_
  intro p e s m args below meth c s₁ Bd hml0 hP hK
  obtain ⟨rfl, hZ, hh⟩ := hP
  have hx := Bd.exec
  have hby := Bd.bytes
  have hml : c.maxLocals = 6 := hml0
  have hown : s.vm.findClass "com/example/rankwright/rankwright/rank/Accumulator" = some m.cls := findClass_of_methodNamed Bd.named
  have hnm := (name_of_methodNamed Bd.named Bd.method).1
  have X0 : Stand p l e ({ frames := 0, cells := 0, slots := 0, locals := 0 } : Room) s m #[(.ref a0), (.int p1), (.double (FP.l2d sv))] below meth c s₁ [] 0 0 := Stand.of_body Bd
  have e0 : s₁.heap = h0 := by rw [← hh, Bd.state]; rfl
  have N0 := Fr.nil n0
  have hlk := Bd.notSynchronized
  show OwnGo p.tables e below _ (s₁.setTop (entryFrame m #[(.ref a0), (.int p1), (.double (FP.l2d sv))] 6))
  rw [ef_rmd m a0 p1]
  have K0 : Keep h0 h0 [a0] := Keep.refl _ _
  have J6_7 : ∀ (Tj : State) (Lo : List Loc) (hj : Heap) (F1 : Nat → Int64) (Xj : Stand p l e ({ frames := 0, cells := 0, slots := 0, locals := 0 } : Room) s m #[(.ref a0), (.int p1), (.double (FP.l2d sv))] below meth c Tj Lo 0 0) (ej : Tj.heap = hj) (Nj : Fr n0 Lo) (Zj : n0 ≤ hj.size) (Kj : Keep h0 hj [a0]) (Vj : Arv Z hj a0 ka .double (10 : Int32) (own_l10 (F1)) (.double (0 : UInt64))) (hF : ∀ j, B53 (F1 j)), OwnGo p.tables e below (fun o U' => ∃ v L, o = .returned v ∧ Qrmd Z a0 p1 sv F0 ka nn h0 n0 (own_sift 1 nn sv 7 F1) v U'.heap L ∧ FrameEnd s o U' L ({ frames := 0, cells := 0, slots := 0, locals := 0 } : Room).cells ({ frames := 0, cells := 0, slots := 0, locals := 0 } : Room).slots) (Tj.setTop (mkF m 6 #[.val (.ref a0), .val (.int p1), .val (.double (FP.l2d sv)), .second, .val (.int (7 : Int32)), .val (.int (15 : Int32))] [])) := by
    intro Tj Lo hj F1 Xj ej Nj Zj Kj Vj hF
    show OwnGo p.tables e below _ (Tj.setTop (mkF m 6 #[.val (.ref a0), .val (.int p1), .val (.double (FP.l2d sv)), .second, .val (.int (7 : Int32)), .val (.int (15 : Int32))] []))
    refine OwnGo.of (A := Tj.setTop (mkF m 6 #[.val (.ref a0), .val (.int p1), .val (.double (FP.l2d sv)), .second, .val (.int (7 : Int32)), .val (.int (15 : Int32))] [])) (B := Tj.setTop (mkF m 9 #[.val (.ref a0), .val (.int p1), .val (.double (FP.l2d sv)), .second, .val (.int (7 : Int32)), .val (.int (15 : Int32))] [(.int p1), (.int (15 : Int32))])) (fun t k => ?_) ?_
    · show Steps p.tables e below (Tj.setTop (mkF m 6 #[.val (.ref a0), .val (.int p1), .val (.double (FP.l2d sv)), .second, .val (.int (7 : Int32)), .val (.int (15 : Int32))] [])) t
      refine XS.iload Xj.here hx rfl (hb hby d3_6) rfl ?_
      refine XS.iloadN Xj.here hx rfl (hb hby d3_8) rfl ?_
      exact k
    have hc1 : ¬ ((15 : Int32) < p1) := by rw [own_ltn hp (15 : Int32) 15 (by decide)]; omega
    refine OwnGo.of (A := Tj.setTop (mkF m 9 #[.val (.ref a0), .val (.int p1), .val (.double (FP.l2d sv)), .second, .val (.int (7 : Int32)), .val (.int (15 : Int32))] [(.int p1), (.int (15 : Int32))])) (B := Tj.setTop (mkF m 76 #[.val (.ref a0), .val (.int p1), .val (.double (FP.l2d sv)), .second, .val (.int (7 : Int32)), .val (.int (15 : Int32))] [(.double (FP.l2d sv)), (.int (7 : Int32)), (.ref a0)])) (fun t k => ?_) ?_
    · show Steps p.tables e below (Tj.setTop (mkF m 9 #[.val (.ref a0), .val (.int p1), .val (.double (FP.l2d sv)), .second, .val (.int (7 : Int32)), .val (.int (15 : Int32))] [(.int p1), (.int (15 : Int32))])) t
      refine XS.icmpYes Xj.here hx rfl (pc0 := 9) (pc' := 72) rfl (hb hby d3_9) rfl (flt hc1).2.1 (by decide) (by decide) ?_
      refine XS.aloadN Xj.here hx rfl (hb hby d3_72) rfl rfl ?_
      refine XS.iload Xj.here hx rfl (hb hby d3_73) rfl ?_
      refine XS.dloadN Xj.here hx rfl (hb hby d3_75) rfl ?_
      exact k
    have cq2 := Vj
    obtain ⟨clq2, Arq2, qq2, Sq2, Nq2, Hq2, Gq2⟩ := cq2
    obtain ⟨T3, h3, X3, e3, W3, st3⟩ := stD Xj hx hZ ej Arq2 (j := (7 : Int32)) (inb_of Sq2 ⟨by decide, by decide⟩) (g := (mkF m 76 #[.val (.ref a0), .val (.int p1), .val (.double (FP.l2d sv)), .second, .val (.int (7 : Int32)), .val (.int (15 : Int32))] [(.double (FP.l2d sv)), (.int (7 : Int32)), (.ref a0)])) rfl rfl (hb hby d3_76)
    refine OwnGo.of st3 ?_
    have N3 := Fr.snoc X3 Nj g_a0
    have f4 : Keep h0 h3 [a0] := Kj.wr W3 (Or.inl (List.mem_of_getElem? (i := 0) rfl))
    have f5 : n0 ≤ h3.size := Nat.le_trans Zj (Keep.of_wr W3).1
    have f6 : Arv Z h3 a0 ka .double (10 : Int32) [(.double (FP.l2d (F1 0))), (.double (FP.l2d (F1 1))), (.double (FP.l2d (F1 2))), (.double (FP.l2d (F1 3))), (.double (FP.l2d (F1 4))), (.double (FP.l2d (F1 5))), (.double (FP.l2d (F1 6))), (.double (FP.l2d sv)), (.double (FP.l2d (F1 8))), (.double (FP.l2d (F1 9)))] (.double (0 : UInt64)) := Arv.set Arq2 qq2 Sq2 Nq2 Hq2 Gq2 rfl W3 7 rfl (Nat.le_of_ble_eq_true rfl)
    have f7 : Arv Z h3 a0 ka .double (10 : Int32) (own_l10 ((own_upd F1 7 sv))) (.double (0 : UInt64)) := f6
    show OwnGo p.tables e below _ (T3.setTop (mkF m 77 #[.val (.ref a0), .val (.int p1), .val (.double (FP.l2d sv)), .second, .val (.int (7 : Int32)), .val (.int (15 : Int32))] []))
    obtain ⟨fs, hr, hrun, hended, hW, hsame⟩ := X3.leave (v := none) (fun _ => rfl) hlk
    refine ⟨_, _, ?_, hrun, hended, _, _, rfl, ?_, ⟨_, rfl⟩, hW, hsame.mono (by decide) (by decide)⟩
    · show Steps p.tables e below (T3.setTop (mkF m 77 #[.val (.ref a0), .val (.int p1), .val (.double (FP.l2d sv)), .second, .val (.int (7 : Int32)), .val (.int (15 : Int32))] [])) _
      exact X3.returnOut hx Bd.returns (hb hby d3_77) hr
    · show Qrmd Z a0 p1 sv F0 ka nn h0 n0 (own_sift 1 nn sv 7 F1) _ (T3.setFrames fs).heap _
      rw [show (T3.setFrames fs).heap = h3 from e3]
      refine ⟨rfl, N3, f4, ?_⟩
      rw [show own_sift 1 nn sv 7 F1 = own_upd F1 7 sv from by rw [own_sift, if_neg (fun q => hc1 ((own_ltn hp (15 : Int32) 15 (by decide)).mpr q))]]
      exact f7
  have J6_6 : ∀ (Tj : State) (Lo : List Loc) (hj : Heap) (F1 : Nat → Int64) (Xj : Stand p l e ({ frames := 0, cells := 0, slots := 0, locals := 0 } : Room) s m #[(.ref a0), (.int p1), (.double (FP.l2d sv))] below meth c Tj Lo 0 0) (ej : Tj.heap = hj) (Nj : Fr n0 Lo) (Zj : n0 ≤ hj.size) (Kj : Keep h0 hj [a0]) (Vj : Arv Z hj a0 ka .double (10 : Int32) (own_l10 (F1)) (.double (0 : UInt64))) (hF : ∀ j, B53 (F1 j)), OwnGo p.tables e below (fun o U' => ∃ v L, o = .returned v ∧ Qrmd Z a0 p1 sv F0 ka nn h0 n0 (own_sift 2 nn sv 6 F1) v U'.heap L ∧ FrameEnd s o U' L ({ frames := 0, cells := 0, slots := 0, locals := 0 } : Room).cells ({ frames := 0, cells := 0, slots := 0, locals := 0 } : Room).slots) (Tj.setTop (mkF m 6 #[.val (.ref a0), .val (.int p1), .val (.double (FP.l2d sv)), .second, .val (.int (6 : Int32)), .val (.int (13 : Int32))] [])) := by
    intro Tj Lo hj F1 Xj ej Nj Zj Kj Vj hF
    show OwnGo p.tables e below _ (Tj.setTop (mkF m 6 #[.val (.ref a0), .val (.int p1), .val (.double (FP.l2d sv)), .second, .val (.int (6 : Int32)), .val (.int (13 : Int32))] []))
    refine OwnGo.of (A := Tj.setTop (mkF m 6 #[.val (.ref a0), .val (.int p1), .val (.double (FP.l2d sv)), .second, .val (.int (6 : Int32)), .val (.int (13 : Int32))] [])) (B := Tj.setTop (mkF m 9 #[.val (.ref a0), .val (.int p1), .val (.double (FP.l2d sv)), .second, .val (.int (6 : Int32)), .val (.int (13 : Int32))] [(.int p1), (.int (13 : Int32))])) (fun t k => ?_) ?_
    · show Steps p.tables e below (Tj.setTop (mkF m 6 #[.val (.ref a0), .val (.int p1), .val (.double (FP.l2d sv)), .second, .val (.int (6 : Int32)), .val (.int (13 : Int32))] [])) t
      refine XS.iload Xj.here hx rfl (hb hby d3_6) rfl ?_
      refine XS.iloadN Xj.here hx rfl (hb hby d3_8) rfl ?_
      exact k
    have hc9 : ¬ ((13 : Int32) < p1) := by rw [own_ltn hp (13 : Int32) 13 (by decide)]; omega
    refine OwnGo.of (A := Tj.setTop (mkF m 9 #[.val (.ref a0), .val (.int p1), .val (.double (FP.l2d sv)), .second, .val (.int (6 : Int32)), .val (.int (13 : Int32))] [(.int p1), (.int (13 : Int32))])) (B := Tj.setTop (mkF m 76 #[.val (.ref a0), .val (.int p1), .val (.double (FP.l2d sv)), .second, .val (.int (6 : Int32)), .val (.int (13 : Int32))] [(.double (FP.l2d sv)), (.int (6 : Int32)), (.ref a0)])) (fun t k => ?_) ?_
    · show Steps p.tables e below (Tj.setTop (mkF m 9 #[.val (.ref a0), .val (.int p1), .val (.double (FP.l2d sv)), .second, .val (.int (6 : Int32)), .val (.int (13 : Int32))] [(.int p1), (.int (13 : Int32))])) t
      refine XS.icmpYes Xj.here hx rfl (pc0 := 9) (pc' := 72) rfl (hb hby d3_9) rfl (flt hc9).2.1 (by decide) (by decide) ?_
      refine XS.aloadN Xj.here hx rfl (hb hby d3_72) rfl rfl ?_
      refine XS.iload Xj.here hx rfl (hb hby d3_73) rfl ?_
      refine XS.dloadN Xj.here hx rfl (hb hby d3_75) rfl ?_
      exact k
    have cq10 := Vj
    obtain ⟨clq10, Arq10, qq10, Sq10, Nq10, Hq10, Gq10⟩ := cq10
    obtain ⟨T11, h11, X11, e11, W11, st11⟩ := stD Xj hx hZ ej Arq10 (j := (6 : Int32)) (inb_of Sq10 ⟨by decide, by decide⟩) (g := (mkF m 76 #[.val (.ref a0), .val (.int p1), .val (.double (FP.l2d sv)), .second, .val (.int (6 : Int32)), .val (.int (13 : Int32))] [(.double (FP.l2d sv)), (.int (6 : Int32)), (.ref a0)])) rfl rfl (hb hby d3_76)
    refine OwnGo.of st11 ?_
    have N11 := Fr.snoc X11 Nj g_a0
    have f12 : Keep h0 h11 [a0] := Kj.wr W11 (Or.inl (List.mem_of_getElem? (i := 0) rfl))
    have f13 : n0 ≤ h11.size := Nat.le_trans Zj (Keep.of_wr W11).1
    have f14 : Arv Z h11 a0 ka .double (10 : Int32) [(.double (FP.l2d (F1 0))), (.double (FP.l2d (F1 1))), (.double (FP.l2d (F1 2))), (.double (FP.l2d (F1 3))), (.double (FP.l2d (F1 4))), (.double (FP.l2d (F1 5))), (.double (FP.l2d sv)), (.double (FP.l2d (F1 7))), (.double (FP.l2d (F1 8))), (.double (FP.l2d (F1 9)))] (.double (0 : UInt64)) := Arv.set Arq10 qq10 Sq10 Nq10 Hq10 Gq10 rfl W11 6 rfl (Nat.le_of_ble_eq_true rfl)
    have f15 : Arv Z h11 a0 ka .double (10 : Int32) (own_l10 ((own_upd F1 6 sv))) (.double (0 : UInt64)) := f14
    show OwnGo p.tables e below _ (T11.setTop (mkF m 77 #[.val (.ref a0), .val (.int p1), .val (.double (FP.l2d sv)), .second, .val (.int (6 : Int32)), .val (.int (13 : Int32))] []))
    obtain ⟨fs, hr, hrun, hended, hW, hsame⟩ := X11.leave (v := none) (fun _ => rfl) hlk
    refine ⟨_, _, ?_, hrun, hended, _, _, rfl, ?_, ⟨_, rfl⟩, hW, hsame.mono (by decide) (by decide)⟩
    · show Steps p.tables e below (T11.setTop (mkF m 77 #[.val (.ref a0), .val (.int p1), .val (.double (FP.l2d sv)), .second, .val (.int (6 : Int32)), .val (.int (13 : Int32))] [])) _
      exact X11.returnOut hx Bd.returns (hb hby d3_77) hr
    · show Qrmd Z a0 p1 sv F0 ka nn h0 n0 (own_sift 2 nn sv 6 F1) _ (T11.setFrames fs).heap _
      rw [show (T11.setFrames fs).heap = h11 from e11]
      refine ⟨rfl, N11, f12, ?_⟩
      rw [show own_sift 2 nn sv 6 F1 = own_upd F1 6 sv from by rw [own_sift, if_neg (fun q => hc9 ((own_ltn hp (13 : Int32) 13 (by decide)).mpr q))]]
      exact f15
  have J6_5 : ∀ (Tj : State) (Lo : List Loc) (hj : Heap) (F1 : Nat → Int64) (Xj : Stand p l e ({ frames := 0, cells := 0, slots := 0, locals := 0 } : Room) s m #[(.ref a0), (.int p1), (.double (FP.l2d sv))] below meth c Tj Lo 0 0) (ej : Tj.heap = hj) (Nj : Fr n0 Lo) (Zj : n0 ≤ hj.size) (Kj : Keep h0 hj [a0]) (Vj : Arv Z hj a0 ka .double (10 : Int32) (own_l10 (F1)) (.double (0 : UInt64))) (hF : ∀ j, B53 (F1 j)), OwnGo p.tables e below (fun o U' => ∃ v L, o = .returned v ∧ Qrmd Z a0 p1 sv F0 ka nn h0 n0 (own_sift 2 nn sv 5 F1) v U'.heap L ∧ FrameEnd s o U' L ({ frames := 0, cells := 0, slots := 0, locals := 0 } : Room).cells ({ frames := 0, cells := 0, slots := 0, locals := 0 } : Room).slots) (Tj.setTop (mkF m 6 #[.val (.ref a0), .val (.int p1), .val (.double (FP.l2d sv)), .second, .val (.int (5 : Int32)), .val (.int (11 : Int32))] [])) := by
    intro Tj Lo hj F1 Xj ej Nj Zj Kj Vj hF
    show OwnGo p.tables e below _ (Tj.setTop (mkF m 6 #[.val (.ref a0), .val (.int p1), .val (.double (FP.l2d sv)), .second, .val (.int (5 : Int32)), .val (.int (11 : Int32))] []))
    refine OwnGo.of (A := Tj.setTop (mkF m 6 #[.val (.ref a0), .val (.int p1), .val (.double (FP.l2d sv)), .second, .val (.int (5 : Int32)), .val (.int (11 : Int32))] [])) (B := Tj.setTop (mkF m 9 #[.val (.ref a0), .val (.int p1), .val (.double (FP.l2d sv)), .second, .val (.int (5 : Int32)), .val (.int (11 : Int32))] [(.int p1), (.int (11 : Int32))])) (fun t k => ?_) ?_
    · show Steps p.tables e below (Tj.setTop (mkF m 6 #[.val (.ref a0), .val (.int p1), .val (.double (FP.l2d sv)), .second, .val (.int (5 : Int32)), .val (.int (11 : Int32))] [])) t
      refine XS.iload Xj.here hx rfl (hb hby d3_6) rfl ?_
      refine XS.iloadN Xj.here hx rfl (hb hby d3_8) rfl ?_
      exact k
    have hc17 : ¬ ((11 : Int32) < p1) := by rw [own_ltn hp (11 : Int32) 11 (by decide)]; omega
    refine OwnGo.of (A := Tj.setTop (mkF m 9 #[.val (.ref a0), .val (.int p1), .val (.double (FP.l2d sv)), .second, .val (.int (5 : Int32)), .val (.int (11 : Int32))] [(.int p1), (.int (11 : Int32))])) (B := Tj.setTop (mkF m 76 #[.val (.ref a0), .val (.int p1), .val (.double (FP.l2d sv)), .second, .val (.int (5 : Int32)), .val (.int (11 : Int32))] [(.double (FP.l2d sv)), (.int (5 : Int32)), (.ref a0)])) (fun t k => ?_) ?_
    · show Steps p.tables e below (Tj.setTop (mkF m 9 #[.val (.ref a0), .val (.int p1), .val (.double (FP.l2d sv)), .second, .val (.int (5 : Int32)), .val (.int (11 : Int32))] [(.int p1), (.int (11 : Int32))])) t
      refine XS.icmpYes Xj.here hx rfl (pc0 := 9) (pc' := 72) rfl (hb hby d3_9) rfl (flt hc17).2.1 (by decide) (by decide) ?_
      refine XS.aloadN Xj.here hx rfl (hb hby d3_72) rfl rfl ?_
      refine XS.iload Xj.here hx rfl (hb hby d3_73) rfl ?_
      refine XS.dloadN Xj.here hx rfl (hb hby d3_75) rfl ?_
      exact k
    have cq18 := Vj
    obtain ⟨clq18, Arq18, qq18, Sq18, Nq18, Hq18, Gq18⟩ := cq18
    obtain ⟨T19, h19, X19, e19, W19, st19⟩ := stD Xj hx hZ ej Arq18 (j := (5 : Int32)) (inb_of Sq18 ⟨by decide, by decide⟩) (g := (mkF m 76 #[.val (.ref a0), .val (.int p1), .val (.double (FP.l2d sv)), .second, .val (.int (5 : Int32)), .val (.int (11 : Int32))] [(.double (FP.l2d sv)), (.int (5 : Int32)), (.ref a0)])) rfl rfl (hb hby d3_76)
    refine OwnGo.of st19 ?_
    have N19 := Fr.snoc X19 Nj g_a0
    have f20 : Keep h0 h19 [a0] := Kj.wr W19 (Or.inl (List.mem_of_getElem? (i := 0) rfl))
    have f21 : n0 ≤ h19.size := Nat.le_trans Zj (Keep.of_wr W19).1
    have f22 : Arv Z h19 a0 ka .double (10 : Int32) [(.double (FP.l2d (F1 0))), (.double (FP.l2d (F1 1))), (.double (FP.l2d (F1 2))), (.double (FP.l2d (F1 3))), (.double (FP.l2d (F1 4))), (.double (FP.l2d sv)), (.double (FP.l2d (F1 6))), (.double (FP.l2d (F1 7))), (.double (FP.l2d (F1 8))), (.double (FP.l2d (F1 9)))] (.double (0 : UInt64)) := Arv.set Arq18 qq18 Sq18 Nq18 Hq18 Gq18 rfl W19 5 rfl (Nat.le_of_ble_eq_true rfl)
    have f23 : Arv Z h19 a0 ka .double (10 : Int32) (own_l10 ((own_upd F1 5 sv))) (.double (0 : UInt64)) := f22
    show OwnGo p.tables e below _ (T19.setTop (mkF m 77 #[.val (.ref a0), .val (.int p1), .val (.double (FP.l2d sv)), .second, .val (.int (5 : Int32)), .val (.int (11 : Int32))] []))
    obtain ⟨fs, hr, hrun, hended, hW, hsame⟩ := X19.leave (v := none) (fun _ => rfl) hlk
    refine ⟨_, _, ?_, hrun, hended, _, _, rfl, ?_, ⟨_, rfl⟩, hW, hsame.mono (by decide) (by decide)⟩
    · show Steps p.tables e below (T19.setTop (mkF m 77 #[.val (.ref a0), .val (.int p1), .val (.double (FP.l2d sv)), .second, .val (.int (5 : Int32)), .val (.int (11 : Int32))] [])) _
      exact X19.returnOut hx Bd.returns (hb hby d3_77) hr
    · show Qrmd Z a0 p1 sv F0 ka nn h0 n0 (own_sift 2 nn sv 5 F1) _ (T19.setFrames fs).heap _
      rw [show (T19.setFrames fs).heap = h19 from e19]
      refine ⟨rfl, N19, f20, ?_⟩
      rw [show own_sift 2 nn sv 5 F1 = own_upd F1 5 sv from by rw [own_sift, if_neg (fun q => hc17 ((own_ltn hp (11 : Int32) 11 (by decide)).mpr q))]]
      exact f23
  have J6_4 : ∀ (Tj : State) (Lo : List Loc) (hj : Heap) (F1 : Nat → Int64) (Xj : Stand p l e ({ frames := 0, cells := 0, slots := 0, locals := 0 } : Room) s m #[(.ref a0), (.int p1), (.double (FP.l2d sv))] below meth c Tj Lo 0 0) (ej : Tj.heap = hj) (Nj : Fr n0 Lo) (Zj : n0 ≤ hj.size) (Kj : Keep h0 hj [a0]) (Vj : Arv Z hj a0 ka .double (10 : Int32) (own_l10 (F1)) (.double (0 : UInt64))) (hF : ∀ j, B53 (F1 j)), OwnGo p.tables e below (fun o U' => ∃ v L, o = .returned v ∧ Qrmd Z a0 p1 sv F0 ka nn h0 n0 (own_sift 2 nn sv 4 F1) v U'.heap L ∧ FrameEnd s o U' L ({ frames := 0, cells := 0, slots := 0, locals := 0 } : Room).cells ({ frames := 0, cells := 0, slots := 0, locals := 0 } : Room).slots) (Tj.setTop (mkF m 6 #[.val (.ref a0), .val (.int p1), .val (.double (FP.l2d sv)), .second, .val (.int (4 : Int32)), .val (.int (9 : Int32))] [])) := by
    intro Tj Lo hj F1 Xj ej Nj Zj Kj Vj hF
    show OwnGo p.tables e below _ (Tj.setTop (mkF m 6 #[.val (.ref a0), .val (.int p1), .val (.double (FP.l2d sv)), .second, .val (.int (4 : Int32)), .val (.int (9 : Int32))] []))
    refine OwnGo.of (A := Tj.setTop (mkF m 6 #[.val (.ref a0), .val (.int p1), .val (.double (FP.l2d sv)), .second, .val (.int (4 : Int32)), .val (.int (9 : Int32))] [])) (B := Tj.setTop (mkF m 9 #[.val (.ref a0), .val (.int p1), .val (.double (FP.l2d sv)), .second, .val (.int (4 : Int32)), .val (.int (9 : Int32))] [(.int p1), (.int (9 : Int32))])) (fun t k => ?_) ?_
    · show Steps p.tables e below (Tj.setTop (mkF m 6 #[.val (.ref a0), .val (.int p1), .val (.double (FP.l2d sv)), .second, .val (.int (4 : Int32)), .val (.int (9 : Int32))] [])) t
      refine XS.iload Xj.here hx rfl (hb hby d3_6) rfl ?_
      refine XS.iloadN Xj.here hx rfl (hb hby d3_8) rfl ?_
      exact k
    have hc25 : ¬ ((9 : Int32) < p1) := by rw [own_ltn hp (9 : Int32) 9 (by decide)]; omega
    refine OwnGo.of (A := Tj.setTop (mkF m 9 #[.val (.ref a0), .val (.int p1), .val (.double (FP.l2d sv)), .second, .val (.int (4 : Int32)), .val (.int (9 : Int32))] [(.int p1), (.int (9 : Int32))])) (B := Tj.setTop (mkF m 76 #[.val (.ref a0), .val (.int p1), .val (.double (FP.l2d sv)), .second, .val (.int (4 : Int32)), .val (.int (9 : Int32))] [(.double (FP.l2d sv)), (.int (4 : Int32)), (.ref a0)])) (fun t k => ?_) ?_
    · show Steps p.tables e below (Tj.setTop (mkF m 9 #[.val (.ref a0), .val (.int p1), .val (.double (FP.l2d sv)), .second, .val (.int (4 : Int32)), .val (.int (9 : Int32))] [(.int p1), (.int (9 : Int32))])) t
      refine XS.icmpYes Xj.here hx rfl (pc0 := 9) (pc' := 72) rfl (hb hby d3_9) rfl (flt hc25).2.1 (by decide) (by decide) ?_
      refine XS.aloadN Xj.here hx rfl (hb hby d3_72) rfl rfl ?_
      refine XS.iload Xj.here hx rfl (hb hby d3_73) rfl ?_
      refine XS.dloadN Xj.here hx rfl (hb hby d3_75) rfl ?_
      exact k
    have cq26 := Vj
    obtain ⟨clq26, Arq26, qq26, Sq26, Nq26, Hq26, Gq26⟩ := cq26
    obtain ⟨T27, h27, X27, e27, W27, st27⟩ := stD Xj hx hZ ej Arq26 (j := (4 : Int32)) (inb_of Sq26 ⟨by decide, by decide⟩) (g := (mkF m 76 #[.val (.ref a0), .val (.int p1), .val (.double (FP.l2d sv)), .second, .val (.int (4 : Int32)), .val (.int (9 : Int32))] [(.double (FP.l2d sv)), (.int (4 : Int32)), (.ref a0)])) rfl rfl (hb hby d3_76)
    refine OwnGo.of st27 ?_
    have N27 := Fr.snoc X27 Nj g_a0
    have f28 : Keep h0 h27 [a0] := Kj.wr W27 (Or.inl (List.mem_of_getElem? (i := 0) rfl))
    have f29 : n0 ≤ h27.size := Nat.le_trans Zj (Keep.of_wr W27).1
    have f30 : Arv Z h27 a0 ka .double (10 : Int32) [(.double (FP.l2d (F1 0))), (.double (FP.l2d (F1 1))), (.double (FP.l2d (F1 2))), (.double (FP.l2d (F1 3))), (.double (FP.l2d sv)), (.double (FP.l2d (F1 5))), (.double (FP.l2d (F1 6))), (.double (FP.l2d (F1 7))), (.double (FP.l2d (F1 8))), (.double (FP.l2d (F1 9)))] (.double (0 : UInt64)) := Arv.set Arq26 qq26 Sq26 Nq26 Hq26 Gq26 rfl W27 4 rfl (Nat.le_of_ble_eq_true rfl)
    have f31 : Arv Z h27 a0 ka .double (10 : Int32) (own_l10 ((own_upd F1 4 sv))) (.double (0 : UInt64)) := f30
    show OwnGo p.tables e below _ (T27.setTop (mkF m 77 #[.val (.ref a0), .val (.int p1), .val (.double (FP.l2d sv)), .second, .val (.int (4 : Int32)), .val (.int (9 : Int32))] []))
    obtain ⟨fs, hr, hrun, hended, hW, hsame⟩ := X27.leave (v := none) (fun _ => rfl) hlk
    refine ⟨_, _, ?_, hrun, hended, _, _, rfl, ?_, ⟨_, rfl⟩, hW, hsame.mono (by decide) (by decide)⟩
    · show Steps p.tables e below (T27.setTop (mkF m 77 #[.val (.ref a0), .val (.int p1), .val (.double (FP.l2d sv)), .second, .val (.int (4 : Int32)), .val (.int (9 : Int32))] [])) _
      exact X27.returnOut hx Bd.returns (hb hby d3_77) hr
    · show Qrmd Z a0 p1 sv F0 ka nn h0 n0 (own_sift 2 nn sv 4 F1) _ (T27.setFrames fs).heap _
      rw [show (T27.setFrames fs).heap = h27 from e27]
      refine ⟨rfl, N27, f28, ?_⟩
      rw [show own_sift 2 nn sv 4 F1 = own_upd F1 4 sv from by rw [own_sift, if_neg (fun q => hc25 ((own_ltn hp (9 : Int32) 9 (by decide)).mpr q))]]
      exact f31
  have J6_3 : ∀ (Tj : State) (Lo : List Loc) (hj : Heap) (F1 : Nat → Int64) (Xj : Stand p l e ({ frames := 0, cells := 0, slots := 0, locals := 0 } : Room) s m #[(.ref a0), (.int p1), (.double (FP.l2d sv))] below meth c Tj Lo 0 0) (ej : Tj.heap = hj) (Nj : Fr n0 Lo) (Zj : n0 ≤ hj.size) (Kj : Keep h0 hj [a0]) (Vj : Arv Z hj a0 ka .double (10 : Int32) (own_l10 (F1)) (.double (0 : UInt64))) (hF : ∀ j, B53 (F1 j)), OwnGo p.tables e below (fun o U' => ∃ v L, o = .returned v ∧ Qrmd Z a0 p1 sv F0 ka nn h0 n0 (own_sift 2 nn sv 3 F1) v U'.heap L ∧ FrameEnd s o U' L ({ frames := 0, cells := 0, slots := 0, locals := 0 } : Room).cells ({ frames := 0, cells := 0, slots := 0, locals := 0 } : Room).slots) (Tj.setTop (mkF m 6 #[.val (.ref a0), .val (.int p1), .val (.double (FP.l2d sv)), .second, .val (.int (3 : Int32)), .val (.int (7 : Int32))] [])) := by
    intro Tj Lo hj F1 Xj ej Nj Zj Kj Vj hF
    show OwnGo p.tables e below _ (Tj.setTop (mkF m 6 #[.val (.ref a0), .val (.int p1), .val (.double (FP.l2d sv)), .second, .val (.int (3 : Int32)), .val (.int (7 : Int32))] []))
    refine OwnGo.of (A := Tj.setTop (mkF m 6 #[.val (.ref a0), .val (.int p1), .val (.double (FP.l2d sv)), .second, .val (.int (3 : Int32)), .val (.int (7 : Int32))] [])) (B := Tj.setTop (mkF m 9 #[.val (.ref a0), .val (.int p1), .val (.double (FP.l2d sv)), .second, .val (.int (3 : Int32)), .val (.int (7 : Int32))] [(.int p1), (.int (7 : Int32))])) (fun t k => ?_) ?_
    · show Steps p.tables e below (Tj.setTop (mkF m 6 #[.val (.ref a0), .val (.int p1), .val (.double (FP.l2d sv)), .second, .val (.int (3 : Int32)), .val (.int (7 : Int32))] [])) t
      refine XS.iload Xj.here hx rfl (hb hby d3_6) rfl ?_
      refine XS.iloadN Xj.here hx rfl (hb hby d3_8) rfl ?_
      exact k
    by_cases hc33 : (7 : Int32) < p1
    · refine OwnGo.of (A := Tj.setTop (mkF m 9 #[.val (.ref a0), .val (.int p1), .val (.double (FP.l2d sv)), .second, .val (.int (3 : Int32)), .val (.int (7 : Int32))] [(.int p1), (.int (7 : Int32))])) (B := Tj.setTop (mkF m 17 #[.val (.ref a0), .val (.int p1), .val (.double (FP.l2d sv)), .second, .val (.int (3 : Int32)), .val (.int (7 : Int32))] [(.int p1), (.int (8 : Int32))])) (fun t k => ?_) ?_
      · show Steps p.tables e below (Tj.setTop (mkF m 9 #[.val (.ref a0), .val (.int p1), .val (.double (FP.l2d sv)), .second, .val (.int (3 : Int32)), .val (.int (7 : Int32))] [(.int p1), (.int (7 : Int32))])) t
        refine XS.icmpNo Xj.here hx rfl (hb hby d3_9) rfl (tlt hc33).2.1 ?_
        refine XS.iload Xj.here hx rfl (hb hby d3_12) rfl ?_
        refine XS.iconst Xj.here hx rfl (hb hby d3_14) ?_
        refine XS.iadd Xj.here hx rfl (hb hby d3_15) rfl ?_
        refine XS.iloadN Xj.here hx rfl (hb hby d3_16) rfl ?_
        exact k
      have hc34 : ¬ ((8 : Int32) < p1) := by rw [own_ltn hp (8 : Int32) 8 (by decide)]; omega
      refine OwnGo.of (A := Tj.setTop (mkF m 17 #[.val (.ref a0), .val (.int p1), .val (.double (FP.l2d sv)), .second, .val (.int (3 : Int32)), .val (.int (7 : Int32))] [(.int p1), (.int (8 : Int32))])) (B := Tj.setTop (mkF m 40 #[.val (.ref a0), .val (.int p1), .val (.double (FP.l2d sv)), .second, .val (.int (3 : Int32)), .val (.int (7 : Int32))] [(.int (7 : Int32)), (.ref a0)])) (fun t k => ?_) ?_
      · show Steps p.tables e below (Tj.setTop (mkF m 17 #[.val (.ref a0), .val (.int p1), .val (.double (FP.l2d sv)), .second, .val (.int (3 : Int32)), .val (.int (7 : Int32))] [(.int p1), (.int (8 : Int32))])) t
        refine XS.icmpYes Xj.here hx rfl (pc0 := 17) (pc' := 37) rfl (hb hby d3_17) rfl (flt hc34).2.1 (by decide) (by decide) ?_
        refine XS.aloadN Xj.here hx rfl (hb hby d3_37) rfl rfl ?_
        refine XS.iload Xj.here hx rfl (hb hby d3_38) rfl ?_
        exact k
      have cq35 := Vj
      obtain ⟨clq35, Arq35, qq35, Sq35, Nq35, Hq35, Gq35⟩ := cq35
      have hinq35 := inb_of (j := (7 : Int32)) Sq35 ⟨by decide, by decide⟩
      refine OwnGo.of (Xj.daload hx (j := (7 : Int32)) (v := (.double (FP.l2d (F1 7)))) (by rw [ej]; exact Arq35.1) (State.isArrayOf_alike hZ.alike Arq35.2.1) Arq35.2.2 hinq35 (Hq35.at hinq35 rfl) (g := (mkF m 40 #[.val (.ref a0), .val (.int p1), .val (.double (FP.l2d sv)), .second, .val (.int (3 : Int32)), .val (.int (7 : Int32))] [(.int (7 : Int32)), (.ref a0)])) rfl rfl (hb hby d3_40)) ?_
      show OwnGo p.tables e below _ (Tj.setTop (mkF m 41 #[.val (.ref a0), .val (.int p1), .val (.double (FP.l2d sv)), .second, .val (.int (3 : Int32)), .val (.int (7 : Int32))] [(.double (FP.l2d (F1 7)))]))
      refine OwnGo.of (A := Tj.setTop (mkF m 41 #[.val (.ref a0), .val (.int p1), .val (.double (FP.l2d sv)), .second, .val (.int (3 : Int32)), .val (.int (7 : Int32))] [(.double (FP.l2d (F1 7)))])) (B := Tj.setTop (mkF m 43 #[.val (.ref a0), .val (.int p1), .val (.double (FP.l2d sv)), .second, .val (.int (3 : Int32)), .val (.int (7 : Int32))] [(.int (cmpValue (FP.dcmp (FP.l2d (F1 7)) (FP.l2d sv)) .l))])) (fun t k => ?_) ?_
      · show Steps p.tables e below (Tj.setTop (mkF m 41 #[.val (.ref a0), .val (.int p1), .val (.double (FP.l2d sv)), .second, .val (.int (3 : Int32)), .val (.int (7 : Int32))] [(.double (FP.l2d (F1 7)))])) t
        refine XS.dloadN Xj.here hx rfl (hb hby d3_41) rfl ?_
        refine XS.dcmpS Xj.here hx rfl (hb hby d3_42) rfl rfl ?_
        exact k
      by_cases hc36 : (cmpValue (FP.dcmp (FP.l2d (F1 7)) (FP.l2d sv)) .l) < (0 : Int32)
      · refine OwnGo.of (A := Tj.setTop (mkF m 43 #[.val (.ref a0), .val (.int p1), .val (.double (FP.l2d sv)), .second, .val (.int (3 : Int32)), .val (.int (7 : Int32))] [(.int (cmpValue (FP.dcmp (FP.l2d (F1 7)) (FP.l2d sv)) .l))])) (B := Tj.setTop (mkF m 55 #[.val (.ref a0), .val (.int p1), .val (.double (FP.l2d sv)), .second, .val (.int (3 : Int32)), .val (.int (7 : Int32))] [(.int (7 : Int32)), (.ref a0), (.int (3 : Int32)), (.ref a0)])) (fun t k => ?_) ?_
        · show Steps p.tables e below (Tj.setTop (mkF m 43 #[.val (.ref a0), .val (.int p1), .val (.double (FP.l2d sv)), .second, .val (.int (3 : Int32)), .val (.int (7 : Int32))] [(.int (cmpValue (FP.dcmp (FP.l2d (F1 7)) (FP.l2d sv)) .l))])) t
          refine XS.ifYes Xj.here hx rfl (pc0 := 43) (pc' := 49) rfl (hb hby d3_43) rfl ((if0 _ _).trans (tlt hc36).1) (by decide) (by decide) ?_
          refine XS.aloadN Xj.here hx rfl (hb hby d3_49) rfl rfl ?_
          refine XS.iload Xj.here hx rfl (hb hby d3_50) rfl ?_
          refine XS.aloadN Xj.here hx rfl (hb hby d3_52) rfl rfl ?_
          refine XS.iload Xj.here hx rfl (hb hby d3_53) rfl ?_
          exact k
        have cq37 := Vj
        obtain ⟨clq37, Arq37, qq37, Sq37, Nq37, Hq37, Gq37⟩ := cq37
        have hinq37 := inb_of (j := (7 : Int32)) Sq37 ⟨by decide, by decide⟩
        refine OwnGo.of (Xj.daload hx (j := (7 : Int32)) (v := (.double (FP.l2d (F1 7)))) (by rw [ej]; exact Arq37.1) (State.isArrayOf_alike hZ.alike Arq37.2.1) Arq37.2.2 hinq37 (Hq37.at hinq37 rfl) (g := (mkF m 55 #[.val (.ref a0), .val (.int p1), .val (.double (FP.l2d sv)), .second, .val (.int (3 : Int32)), .val (.int (7 : Int32))] [(.int (7 : Int32)), (.ref a0), (.int (3 : Int32)), (.ref a0)])) rfl rfl (hb hby d3_55)) ?_
        show OwnGo p.tables e below _ (Tj.setTop (mkF m 56 #[.val (.ref a0), .val (.int p1), .val (.double (FP.l2d sv)), .second, .val (.int (3 : Int32)), .val (.int (7 : Int32))] [(.double (FP.l2d (F1 7))), (.int (3 : Int32)), (.ref a0)]))
        have cq38 := Vj
        obtain ⟨clq38, Arq38, qq38, Sq38, Nq38, Hq38, Gq38⟩ := cq38
        obtain ⟨T39, h39, X39, e39, W39, st39⟩ := stD Xj hx hZ ej Arq38 (j := (3 : Int32)) (inb_of Sq38 ⟨by decide, by decide⟩) (g := (mkF m 56 #[.val (.ref a0), .val (.int p1), .val (.double (FP.l2d sv)), .second, .val (.int (3 : Int32)), .val (.int (7 : Int32))] [(.double (FP.l2d (F1 7))), (.int (3 : Int32)), (.ref a0)])) rfl rfl (hb hby d3_56)
        refine OwnGo.of st39 ?_
        have N39 := Fr.snoc X39 Nj g_a0
        have f40 : Keep h0 h39 [a0] := Kj.wr W39 (Or.inl (List.mem_of_getElem? (i := 0) rfl))
        have f41 : n0 ≤ h39.size := Nat.le_trans Zj (Keep.of_wr W39).1
        have f42 : Arv Z h39 a0 ka .double (10 : Int32) [(.double (FP.l2d (F1 0))), (.double (FP.l2d (F1 1))), (.double (FP.l2d (F1 2))), (.double (FP.l2d (F1 7))), (.double (FP.l2d (F1 4))), (.double (FP.l2d (F1 5))), (.double (FP.l2d (F1 6))), (.double (FP.l2d (F1 7))), (.double (FP.l2d (F1 8))), (.double (FP.l2d (F1 9)))] (.double (0 : UInt64)) := Arv.set Arq38 qq38 Sq38 Nq38 Hq38 Gq38 rfl W39 3 rfl (Nat.le_of_ble_eq_true rfl)
        have f43 : Arv Z h39 a0 ka .double (10 : Int32) (own_l10 ((own_upd F1 3 (F1 7)))) (.double (0 : UInt64)) := f42
        show OwnGo p.tables e below _ (T39.setTop (mkF m 57 #[.val (.ref a0), .val (.int p1), .val (.double (FP.l2d sv)), .second, .val (.int (3 : Int32)), .val (.int (7 : Int32))] []))
        refine OwnGo.of (A := T39.setTop (mkF m 57 #[.val (.ref a0), .val (.int p1), .val (.double (FP.l2d sv)), .second, .val (.int (3 : Int32)), .val (.int (7 : Int32))] [])) (B := T39.setTop (mkF m 6 #[.val (.ref a0), .val (.int p1), .val (.double (FP.l2d sv)), .second, .val (.int (7 : Int32)), .val (.int (15 : Int32))] [])) (fun t k => ?_) ?_
        · show Steps p.tables e below (T39.setTop (mkF m 57 #[.val (.ref a0), .val (.int p1), .val (.double (FP.l2d sv)), .second, .val (.int (3 : Int32)), .val (.int (7 : Int32))] [])) t
          refine XS.iload X39.here hx rfl (hb hby d3_57) rfl ?_
          refine XS.istore X39.here hx rfl (hb hby d3_59) rfl (l' := #[.val (.ref a0), .val (.int p1), .val (.double (FP.l2d sv)), .second, .val (.int (7 : Int32)), .val (.int (7 : Int32))]) rfl ?_
          refine XS.iconst X39.here hx rfl (hb hby d3_61) ?_
          refine XS.iload X39.here hx rfl (hb hby d3_62) rfl ?_
          refine XS.imul X39.here hx rfl (hb hby d3_64) rfl ?_
          refine XS.iconst X39.here hx rfl (hb hby d3_65) ?_
          refine XS.iadd X39.here hx rfl (hb hby d3_66) rfl ?_
          refine XS.istore X39.here hx rfl (hb hby d3_67) rfl (l' := #[.val (.ref a0), .val (.int p1), .val (.double (FP.l2d sv)), .second, .val (.int (7 : Int32)), .val (.int (15 : Int32))]) rfl ?_
          refine XS.goto X39.here hx rfl (pc0 := 69) (pc' := 6) rfl (hb hby d3_69) (by decide) (by decide) ?_
          exact k
        rw [show own_sift 2 nn sv 3 F1 = own_sift 1 nn sv 7 (own_upd F1 3 (F1 7)) from by rw [own_sift, if_pos ((own_ltn hp (7 : Int32) 7 (by decide)).mp hc33), if_neg (fun q => hc34 ((own_ltn hp (8 : Int32) 8 (by decide)).mpr q)), if_pos ((own_cl (hF _) hsv .l).mp hc36)]]
        exact J6_7 T39 _ _ _ X39 e39 N39 f41 f40 f43 (own_updB hF (hF _))
      · refine OwnGo.of (A := Tj.setTop (mkF m 43 #[.val (.ref a0), .val (.int p1), .val (.double (FP.l2d sv)), .second, .val (.int (3 : Int32)), .val (.int (7 : Int32))] [(.int (cmpValue (FP.dcmp (FP.l2d (F1 7)) (FP.l2d sv)) .l))])) (B := Tj.setTop (mkF m 76 #[.val (.ref a0), .val (.int p1), .val (.double (FP.l2d sv)), .second, .val (.int (3 : Int32)), .val (.int (7 : Int32))] [(.double (FP.l2d sv)), (.int (3 : Int32)), (.ref a0)])) (fun t k => ?_) ?_
        · show Steps p.tables e below (Tj.setTop (mkF m 43 #[.val (.ref a0), .val (.int p1), .val (.double (FP.l2d sv)), .second, .val (.int (3 : Int32)), .val (.int (7 : Int32))] [(.int (cmpValue (FP.dcmp (FP.l2d (F1 7)) (FP.l2d sv)) .l))])) t
          refine XS.ifNo Xj.here hx rfl (hb hby d3_43) rfl ((if0 _ _).trans (flt hc36).1) ?_
          refine XS.goto Xj.here hx rfl (pc0 := 46) (pc' := 72) rfl (hb hby d3_46) (by decide) (by decide) ?_
          refine XS.aloadN Xj.here hx rfl (hb hby d3_72) rfl rfl ?_
          refine XS.iload Xj.here hx rfl (hb hby d3_73) rfl ?_
          refine XS.dloadN Xj.here hx rfl (hb hby d3_75) rfl ?_
          exact k
        have cq44 := Vj
        obtain ⟨clq44, Arq44, qq44, Sq44, Nq44, Hq44, Gq44⟩ := cq44
        obtain ⟨T45, h45, X45, e45, W45, st45⟩ := stD Xj hx hZ ej Arq44 (j := (3 : Int32)) (inb_of Sq44 ⟨by decide, by decide⟩) (g := (mkF m 76 #[.val (.ref a0), .val (.int p1), .val (.double (FP.l2d sv)), .second, .val (.int (3 : Int32)), .val (.int (7 : Int32))] [(.double (FP.l2d sv)), (.int (3 : Int32)), (.ref a0)])) rfl rfl (hb hby d3_76)
        refine OwnGo.of st45 ?_
        have N45 := Fr.snoc X45 Nj g_a0
        have f46 : Keep h0 h45 [a0] := Kj.wr W45 (Or.inl (List.mem_of_getElem? (i := 0) rfl))
        have f47 : n0 ≤ h45.size := Nat.le_trans Zj (Keep.of_wr W45).1
        have f48 : Arv Z h45 a0 ka .double (10 : Int32) [(.double (FP.l2d (F1 0))), (.double (FP.l2d (F1 1))), (.double (FP.l2d (F1 2))), (.double (FP.l2d sv)), (.double (FP.l2d (F1 4))), (.double (FP.l2d (F1 5))), (.double (FP.l2d (F1 6))), (.double (FP.l2d (F1 7))), (.double (FP.l2d (F1 8))), (.double (FP.l2d (F1 9)))] (.double (0 : UInt64)) := Arv.set Arq44 qq44 Sq44 Nq44 Hq44 Gq44 rfl W45 3 rfl (Nat.le_of_ble_eq_true rfl)
        have f49 : Arv Z h45 a0 ka .double (10 : Int32) (own_l10 ((own_upd F1 3 sv))) (.double (0 : UInt64)) := f48
        show OwnGo p.tables e below _ (T45.setTop (mkF m 77 #[.val (.ref a0), .val (.int p1), .val (.double (FP.l2d sv)), .second, .val (.int (3 : Int32)), .val (.int (7 : Int32))] []))
        obtain ⟨fs, hr, hrun, hended, hW, hsame⟩ := X45.leave (v := none) (fun _ => rfl) hlk
        refine ⟨_, _, ?_, hrun, hended, _, _, rfl, ?_, ⟨_, rfl⟩, hW, hsame.mono (by decide) (by decide)⟩
        · show Steps p.tables e below (T45.setTop (mkF m 77 #[.val (.ref a0), .val (.int p1), .val (.double (FP.l2d sv)), .second, .val (.int (3 : Int32)), .val (.int (7 : Int32))] [])) _
          exact X45.returnOut hx Bd.returns (hb hby d3_77) hr
        · show Qrmd Z a0 p1 sv F0 ka nn h0 n0 (own_sift 2 nn sv 3 F1) _ (T45.setFrames fs).heap _
          rw [show (T45.setFrames fs).heap = h45 from e45]
          refine ⟨rfl, N45, f46, ?_⟩
          rw [show own_sift 2 nn sv 3 F1 = own_upd F1 3 sv from by rw [own_sift, if_pos ((own_ltn hp (7 : Int32) 7 (by decide)).mp hc33), if_neg (fun q => hc34 ((own_ltn hp (8 : Int32) 8 (by decide)).mpr q)), if_neg (fun q => hc36 ((own_cl (hF _) hsv .l).mpr q))]]
          exact f49
    · refine OwnGo.of (A := Tj.setTop (mkF m 9 #[.val (.ref a0), .val (.int p1), .val (.double (FP.l2d sv)), .second, .val (.int (3 : Int32)), .val (.int (7 : Int32))] [(.int p1), (.int (7 : Int32))])) (B := Tj.setTop (mkF m 76 #[.val (.ref a0), .val (.int p1), .val (.double (FP.l2d sv)), .second, .val (.int (3 : Int32)), .val (.int (7 : Int32))] [(.double (FP.l2d sv)), (.int (3 : Int32)), (.ref a0)])) (fun t k => ?_) ?_
      · show Steps p.tables e below (Tj.setTop (mkF m 9 #[.val (.ref a0), .val (.int p1), .val (.double (FP.l2d sv)), .second, .val (.int (3 : Int32)), .val (.int (7 : Int32))] [(.int p1), (.int (7 : Int32))])) t
        refine XS.icmpYes Xj.here hx rfl (pc0 := 9) (pc' := 72) rfl (hb hby d3_9) rfl (flt hc33).2.1 (by decide) (by decide) ?_
        refine XS.aloadN Xj.here hx rfl (hb hby d3_72) rfl rfl ?_
        refine XS.iload Xj.here hx rfl (hb hby d3_73) rfl ?_
        refine XS.dloadN Xj.here hx rfl (hb hby d3_75) rfl ?_
        exact k
      have cq51 := Vj
      obtain ⟨clq51, Arq51, qq51, Sq51, Nq51, Hq51, Gq51⟩ := cq51
      obtain ⟨T52, h52, X52, e52, W52, st52⟩ := stD Xj hx hZ ej Arq51 (j := (3 : Int32)) (inb_of Sq51 ⟨by decide, by decide⟩) (g := (mkF m 76 #[.val (.ref a0), .val (.int p1), .val (.double (FP.l2d sv)), .second, .val (.int (3 : Int32)), .val (.int (7 : Int32))] [(.double (FP.l2d sv)), (.int (3 : Int32)), (.ref a0)])) rfl rfl (hb hby d3_76)
      refine OwnGo.of st52 ?_
      have N52 := Fr.snoc X52 Nj g_a0
      have f53 : Keep h0 h52 [a0] := Kj.wr W52 (Or.inl (List.mem_of_getElem? (i := 0) rfl))
      have f54 : n0 ≤ h52.size := Nat.le_trans Zj (Keep.of_wr W52).1
      have f55 : Arv Z h52 a0 ka .double (10 : Int32) [(.double (FP.l2d (F1 0))), (.double (FP.l2d (F1 1))), (.double (FP.l2d (F1 2))), (.double (FP.l2d sv)), (.double (FP.l2d (F1 4))), (.double (FP.l2d (F1 5))), (.double (FP.l2d (F1 6))), (.double (FP.l2d (F1 7))), (.double (FP.l2d (F1 8))), (.double (FP.l2d (F1 9)))] (.double (0 : UInt64)) := Arv.set Arq51 qq51 Sq51 Nq51 Hq51 Gq51 rfl W52 3 rfl (Nat.le_of_ble_eq_true rfl)
      have f56 : Arv Z h52 a0 ka .double (10 : Int32) (own_l10 ((own_upd F1 3 sv))) (.double (0 : UInt64)) := f55
      show OwnGo p.tables e below _ (T52.setTop (mkF m 77 #[.val (.ref a0), .val (.int p1), .val (.double (FP.l2d sv)), .second, .val (.int (3 : Int32)), .val (.int (7 : Int32))] []))
      obtain ⟨fs, hr, hrun, hended, hW, hsame⟩ := X52.leave (v := none) (fun _ => rfl) hlk
      refine ⟨_, _, ?_, hrun, hended, _, _, rfl, ?_, ⟨_, rfl⟩, hW, hsame.mono (by decide) (by decide)⟩
      · show Steps p.tables e below (T52.setTop (mkF m 77 #[.val (.ref a0), .val (.int p1), .val (.double (FP.l2d sv)), .second, .val (.int (3 : Int32)), .val (.int (7 : Int32))] [])) _
        exact X52.returnOut hx Bd.returns (hb hby d3_77) hr
      · show Qrmd Z a0 p1 sv F0 ka nn h0 n0 (own_sift 2 nn sv 3 F1) _ (T52.setFrames fs).heap _
        rw [show (T52.setFrames fs).heap = h52 from e52]
        refine ⟨rfl, N52, f53, ?_⟩
        rw [show own_sift 2 nn sv 3 F1 = own_upd F1 3 sv from by rw [own_sift, if_neg (fun q => hc33 ((own_ltn hp (7 : Int32) 7 (by decide)).mpr q))]]
        exact f56
  have J6_2 : ∀ (Tj : State) (Lo : List Loc) (hj : Heap) (F1 : Nat → Int64) (Xj : Stand p l e ({ frames := 0, cells := 0, slots := 0, locals := 0 } : Room) s m #[(.ref a0), (.int p1), (.double (FP.l2d sv))] below meth c Tj Lo 0 0) (ej : Tj.heap = hj) (Nj : Fr n0 Lo) (Zj : n0 ≤ hj.size) (Kj : Keep h0 hj [a0]) (Vj : Arv Z hj a0 ka .double (10 : Int32) (own_l10 (F1)) (.double (0 : UInt64))) (hF : ∀ j, B53 (F1 j)), OwnGo p.tables e below (fun o U' => ∃ v L, o = .returned v ∧ Qrmd Z a0 p1 sv F0 ka nn h0 n0 (own_sift 3 nn sv 2 F1) v U'.heap L ∧ FrameEnd s o U' L ({ frames := 0, cells := 0, slots := 0, locals := 0 } : Room).cells ({ frames := 0, cells := 0, slots := 0, locals := 0 } : Room).slots) (Tj.setTop (mkF m 6 #[.val (.ref a0), .val (.int p1), .val (.double (FP.l2d sv)), .second, .val (.int (2 : Int32)), .val (.int (5 : Int32))] [])) := by
    intro Tj Lo hj F1 Xj ej Nj Zj Kj Vj hF
    show OwnGo p.tables e below _ (Tj.setTop (mkF m 6 #[.val (.ref a0), .val (.int p1), .val (.double (FP.l2d sv)), .second, .val (.int (2 : Int32)), .val (.int (5 : Int32))] []))
    refine OwnGo.of (A := Tj.setTop (mkF m 6 #[.val (.ref a0), .val (.int p1), .val (.double (FP.l2d sv)), .second, .val (.int (2 : Int32)), .val (.int (5 : Int32))] [])) (B := Tj.setTop (mkF m 9 #[.val (.ref a0), .val (.int p1), .val (.double (FP.l2d sv)), .second, .val (.int (2 : Int32)), .val (.int (5 : Int32))] [(.int p1), (.int (5 : Int32))])) (fun t k => ?_) ?_
    · show Steps p.tables e below (Tj.setTop (mkF m 6 #[.val (.ref a0), .val (.int p1), .val (.double (FP.l2d sv)), .second, .val (.int (2 : Int32)), .val (.int (5 : Int32))] [])) t
      refine XS.iload Xj.here hx rfl (hb hby d3_6) rfl ?_
      refine XS.iloadN Xj.here hx rfl (hb hby d3_8) rfl ?_
      exact k
    by_cases hc58 : (5 : Int32) < p1
    · refine OwnGo.of (A := Tj.setTop (mkF m 9 #[.val (.ref a0), .val (.int p1), .val (.double (FP.l2d sv)), .second, .val (.int (2 : Int32)), .val (.int (5 : Int32))] [(.int p1), (.int (5 : Int32))])) (B := Tj.setTop (mkF m 17 #[.val (.ref a0), .val (.int p1), .val (.double (FP.l2d sv)), .second, .val (.int (2 : Int32)), .val (.int (5 : Int32))] [(.int p1), (.int (6 : Int32))])) (fun t k => ?_) ?_
      · show Steps p.tables e below (Tj.setTop (mkF m 9 #[.val (.ref a0), .val (.int p1), .val (.double (FP.l2d sv)), .second, .val (.int (2 : Int32)), .val (.int (5 : Int32))] [(.int p1), (.int (5 : Int32))])) t
        refine XS.icmpNo Xj.here hx rfl (hb hby d3_9) rfl (tlt hc58).2.1 ?_
        refine XS.iload Xj.here hx rfl (hb hby d3_12) rfl ?_
        refine XS.iconst Xj.here hx rfl (hb hby d3_14) ?_
        refine XS.iadd Xj.here hx rfl (hb hby d3_15) rfl ?_
        refine XS.iloadN Xj.here hx rfl (hb hby d3_16) rfl ?_
        exact k
      by_cases hc59 : (6 : Int32) < p1
      · refine OwnGo.of (A := Tj.setTop (mkF m 17 #[.val (.ref a0), .val (.int p1), .val (.double (FP.l2d sv)), .second, .val (.int (2 : Int32)), .val (.int (5 : Int32))] [(.int p1), (.int (6 : Int32))])) (B := Tj.setTop (mkF m 25 #[.val (.ref a0), .val (.int p1), .val (.double (FP.l2d sv)), .second, .val (.int (2 : Int32)), .val (.int (5 : Int32))] [(.int (6 : Int32)), (.ref a0)])) (fun t k => ?_) ?_
        · show Steps p.tables e below (Tj.setTop (mkF m 17 #[.val (.ref a0), .val (.int p1), .val (.double (FP.l2d sv)), .second, .val (.int (2 : Int32)), .val (.int (5 : Int32))] [(.int p1), (.int (6 : Int32))])) t
          refine XS.icmpNo Xj.here hx rfl (hb hby d3_17) rfl (tlt hc59).2.1 ?_
          refine XS.aloadN Xj.here hx rfl (hb hby d3_20) rfl rfl ?_
          refine XS.iload Xj.here hx rfl (hb hby d3_21) rfl ?_
          refine XS.iconst Xj.here hx rfl (hb hby d3_23) ?_
          refine XS.iadd Xj.here hx rfl (hb hby d3_24) rfl ?_
          exact k
        have cq60 := Vj
        obtain ⟨clq60, Arq60, qq60, Sq60, Nq60, Hq60, Gq60⟩ := cq60
        have hinq60 := inb_of (j := (6 : Int32)) Sq60 ⟨by decide, by decide⟩
        refine OwnGo.of (Xj.daload hx (j := (6 : Int32)) (v := (.double (FP.l2d (F1 6)))) (by rw [ej]; exact Arq60.1) (State.isArrayOf_alike hZ.alike Arq60.2.1) Arq60.2.2 hinq60 (Hq60.at hinq60 rfl) (g := (mkF m 25 #[.val (.ref a0), .val (.int p1), .val (.double (FP.l2d sv)), .second, .val (.int (2 : Int32)), .val (.int (5 : Int32))] [(.int (6 : Int32)), (.ref a0)])) rfl rfl (hb hby d3_25)) ?_
        show OwnGo p.tables e below _ (Tj.setTop (mkF m 26 #[.val (.ref a0), .val (.int p1), .val (.double (FP.l2d sv)), .second, .val (.int (2 : Int32)), .val (.int (5 : Int32))] [(.double (FP.l2d (F1 6)))]))
        refine OwnGo.of (A := Tj.setTop (mkF m 26 #[.val (.ref a0), .val (.int p1), .val (.double (FP.l2d sv)), .second, .val (.int (2 : Int32)), .val (.int (5 : Int32))] [(.double (FP.l2d (F1 6)))])) (B := Tj.setTop (mkF m 29 #[.val (.ref a0), .val (.int p1), .val (.double (FP.l2d sv)), .second, .val (.int (2 : Int32)), .val (.int (5 : Int32))] [(.int (5 : Int32)), (.ref a0), (.double (FP.l2d (F1 6)))])) (fun t k => ?_) ?_
        · show Steps p.tables e below (Tj.setTop (mkF m 26 #[.val (.ref a0), .val (.int p1), .val (.double (FP.l2d sv)), .second, .val (.int (2 : Int32)), .val (.int (5 : Int32))] [(.double (FP.l2d (F1 6)))])) t
          refine XS.aloadN Xj.here hx rfl (hb hby d3_26) rfl rfl ?_
          refine XS.iload Xj.here hx rfl (hb hby d3_27) rfl ?_
          exact k
        have cq61 := Vj
        obtain ⟨clq61, Arq61, qq61, Sq61, Nq61, Hq61, Gq61⟩ := cq61
        have hinq61 := inb_of (j := (5 : Int32)) Sq61 ⟨by decide, by decide⟩
        refine OwnGo.of (Xj.daload hx (j := (5 : Int32)) (v := (.double (FP.l2d (F1 5)))) (by rw [ej]; exact Arq61.1) (State.isArrayOf_alike hZ.alike Arq61.2.1) Arq61.2.2 hinq61 (Hq61.at hinq61 rfl) (g := (mkF m 29 #[.val (.ref a0), .val (.int p1), .val (.double (FP.l2d sv)), .second, .val (.int (2 : Int32)), .val (.int (5 : Int32))] [(.int (5 : Int32)), (.ref a0), (.double (FP.l2d (F1 6)))])) rfl rfl (hb hby d3_29)) ?_
        show OwnGo p.tables e below _ (Tj.setTop (mkF m 30 #[.val (.ref a0), .val (.int p1), .val (.double (FP.l2d sv)), .second, .val (.int (2 : Int32)), .val (.int (5 : Int32))] [(.double (FP.l2d (F1 5))), (.double (FP.l2d (F1 6)))]))
        refine OwnGo.of (A := Tj.setTop (mkF m 30 #[.val (.ref a0), .val (.int p1), .val (.double (FP.l2d sv)), .second, .val (.int (2 : Int32)), .val (.int (5 : Int32))] [(.double (FP.l2d (F1 5))), (.double (FP.l2d (F1 6)))])) (B := Tj.setTop (mkF m 31 #[.val (.ref a0), .val (.int p1), .val (.double (FP.l2d sv)), .second, .val (.int (2 : Int32)), .val (.int (5 : Int32))] [(.int (cmpValue (FP.dcmp (FP.l2d (F1 6)) (FP.l2d (F1 5))) .g))])) (fun t k => ?_) ?_
        · show Steps p.tables e below (Tj.setTop (mkF m 30 #[.val (.ref a0), .val (.int p1), .val (.double (FP.l2d sv)), .second, .val (.int (2 : Int32)), .val (.int (5 : Int32))] [(.double (FP.l2d (F1 5))), (.double (FP.l2d (F1 6)))])) t
          refine XS.dcmpS Xj.here hx rfl (hb hby d3_30) rfl rfl ?_
          exact k
        by_cases hc62 : (cmpValue (FP.dcmp (FP.l2d (F1 6)) (FP.l2d (F1 5))) .g) < (0 : Int32)
        · refine OwnGo.of (A := Tj.setTop (mkF m 31 #[.val (.ref a0), .val (.int p1), .val (.double (FP.l2d sv)), .second, .val (.int (2 : Int32)), .val (.int (5 : Int32))] [(.int (cmpValue (FP.dcmp (FP.l2d (F1 6)) (FP.l2d (F1 5))) .g))])) (B := Tj.setTop (mkF m 40 #[.val (.ref a0), .val (.int p1), .val (.double (FP.l2d sv)), .second, .val (.int (2 : Int32)), .val (.int (6 : Int32))] [(.int (6 : Int32)), (.ref a0)])) (fun t k => ?_) ?_
          · show Steps p.tables e below (Tj.setTop (mkF m 31 #[.val (.ref a0), .val (.int p1), .val (.double (FP.l2d sv)), .second, .val (.int (2 : Int32)), .val (.int (5 : Int32))] [(.int (cmpValue (FP.dcmp (FP.l2d (F1 6)) (FP.l2d (F1 5))) .g))])) t
            refine XS.ifNo Xj.here hx rfl (hb hby d3_31) rfl ((if0 _ _).trans (tlt hc62).2.1) ?_
            refine XS.iinc Xj.here hx rfl (hb hby d3_34) rfl (l' := #[.val (.ref a0), .val (.int p1), .val (.double (FP.l2d sv)), .second, .val (.int (2 : Int32)), .val (.int (6 : Int32))]) rfl ?_
            refine XS.aloadN Xj.here hx rfl (hb hby d3_37) rfl rfl ?_
            refine XS.iload Xj.here hx rfl (hb hby d3_38) rfl ?_
            exact k
          have cq63 := Vj
          obtain ⟨clq63, Arq63, qq63, Sq63, Nq63, Hq63, Gq63⟩ := cq63
          have hinq63 := inb_of (j := (6 : Int32)) Sq63 ⟨by decide, by decide⟩
          refine OwnGo.of (Xj.daload hx (j := (6 : Int32)) (v := (.double (FP.l2d (F1 6)))) (by rw [ej]; exact Arq63.1) (State.isArrayOf_alike hZ.alike Arq63.2.1) Arq63.2.2 hinq63 (Hq63.at hinq63 rfl) (g := (mkF m 40 #[.val (.ref a0), .val (.int p1), .val (.double (FP.l2d sv)), .second, .val (.int (2 : Int32)), .val (.int (6 : Int32))] [(.int (6 : Int32)), (.ref a0)])) rfl rfl (hb hby d3_40)) ?_
          show OwnGo p.tables e below _ (Tj.setTop (mkF m 41 #[.val (.ref a0), .val (.int p1), .val (.double (FP.l2d sv)), .second, .val (.int (2 : Int32)), .val (.int (6 : Int32))] [(.double (FP.l2d (F1 6)))]))
          refine OwnGo.of (A := Tj.setTop (mkF m 41 #[.val (.ref a0), .val (.int p1), .val (.double (FP.l2d sv)), .second, .val (.int (2 : Int32)), .val (.int (6 : Int32))] [(.double (FP.l2d (F1 6)))])) (B := Tj.setTop (mkF m 43 #[.val (.ref a0), .val (.int p1), .val (.double (FP.l2d sv)), .second, .val (.int (2 : Int32)), .val (.int (6 : Int32))] [(.int (cmpValue (FP.dcmp (FP.l2d (F1 6)) (FP.l2d sv)) .l))])) (fun t k => ?_) ?_
          · show Steps p.tables e below (Tj.setTop (mkF m 41 #[.val (.ref a0), .val (.int p1), .val (.double (FP.l2d sv)), .second, .val (.int (2 : Int32)), .val (.int (6 : Int32))] [(.double (FP.l2d (F1 6)))])) t
            refine XS.dloadN Xj.here hx rfl (hb hby d3_41) rfl ?_
            refine XS.dcmpS Xj.here hx rfl (hb hby d3_42) rfl rfl ?_
            exact k
          by_cases hc64 : (cmpValue (FP.dcmp (FP.l2d (F1 6)) (FP.l2d sv)) .l) < (0 : Int32)
          · refine OwnGo.of (A := Tj.setTop (mkF m 43 #[.val (.ref a0), .val (.int p1), .val (.double (FP.l2d sv)), .second, .val (.int (2 : Int32)), .val (.int (6 : Int32))] [(.int (cmpValue (FP.dcmp (FP.l2d (F1 6)) (FP.l2d sv)) .l))])) (B := Tj.setTop (mkF m 55 #[.val (.ref a0), .val (.int p1), .val (.double (FP.l2d sv)), .second, .val (.int (2 : Int32)), .val (.int (6 : Int32))] [(.int (6 : Int32)), (.ref a0), (.int (2 : Int32)), (.ref a0)])) (fun t k => ?_) ?_
            · show Steps p.tables e below (Tj.setTop (mkF m 43 #[.val (.ref a0), .val (.int p1), .val (.double (FP.l2d sv)), .second, .val (.int (2 : Int32)), .val (.int (6 : Int32))] [(.int (cmpValue (FP.dcmp (FP.l2d (F1 6)) (FP.l2d sv)) .l))])) t
              refine XS.ifYes Xj.here hx rfl (pc0 := 43) (pc' := 49) rfl (hb hby d3_43) rfl ((if0 _ _).trans (tlt hc64).1) (by decide) (by decide) ?_
              refine XS.aloadN Xj.here hx rfl (hb hby d3_49) rfl rfl ?_
              refine XS.iload Xj.here hx rfl (hb hby d3_50) rfl ?_
              refine XS.aloadN Xj.here hx rfl (hb hby d3_52) rfl rfl ?_
              refine XS.iload Xj.here hx rfl (hb hby d3_53) rfl ?_
              exact k
            have cq65 := Vj
            obtain ⟨clq65, Arq65, qq65, Sq65, Nq65, Hq65, Gq65⟩ := cq65
            have hinq65 := inb_of (j := (6 : Int32)) Sq65 ⟨by decide, by decide⟩
            refine OwnGo.of (Xj.daload hx (j := (6 : Int32)) (v := (.double (FP.l2d (F1 6)))) (by rw [ej]; exact Arq65.1) (State.isArrayOf_alike hZ.alike Arq65.2.1) Arq65.2.2 hinq65 (Hq65.at hinq65 rfl) (g := (mkF m 55 #[.val (.ref a0), .val (.int p1), .val (.double (FP.l2d sv)), .second, .val (.int (2 : Int32)), .val (.int (6 : Int32))] [(.int (6 : Int32)), (.ref a0), (.int (2 : Int32)), (.ref a0)])) rfl rfl (hb hby d3_55)) ?_
            show OwnGo p.tables e below _ (Tj.setTop (mkF m 56 #[.val (.ref a0), .val (.int p1), .val (.double (FP.l2d sv)), .second, .val (.int (2 : Int32)), .val (.int (6 : Int32))] [(.double (FP.l2d (F1 6))), (.int (2 : Int32)), (.ref a0)]))
            have cq66 := Vj
            obtain ⟨clq66, Arq66, qq66, Sq66, Nq66, Hq66, Gq66⟩ := cq66
            obtain ⟨T67, h67, X67, e67, W67, st67⟩ := stD Xj hx hZ ej Arq66 (j := (2 : Int32)) (inb_of Sq66 ⟨by decide, by decide⟩) (g := (mkF m 56 #[.val (.ref a0), .val (.int p1), .val (.double (FP.l2d sv)), .second, .val (.int (2 : Int32)), .val (.int (6 : Int32))] [(.double (FP.l2d (F1 6))), (.int (2 : Int32)), (.ref a0)])) rfl rfl (hb hby d3_56)
            refine OwnGo.of st67 ?_
            have N67 := Fr.snoc X67 Nj g_a0
            have f68 : Keep h0 h67 [a0] := Kj.wr W67 (Or.inl (List.mem_of_getElem? (i := 0) rfl))
            have f69 : n0 ≤ h67.size := Nat.le_trans Zj (Keep.of_wr W67).1
            have f70 : Arv Z h67 a0 ka .double (10 : Int32) [(.double (FP.l2d (F1 0))), (.double (FP.l2d (F1 1))), (.double (FP.l2d (F1 6))), (.double (FP.l2d (F1 3))), (.double (FP.l2d (F1 4))), (.double (FP.l2d (F1 5))), (.double (FP.l2d (F1 6))), (.double (FP.l2d (F1 7))), (.double (FP.l2d (F1 8))), (.double (FP.l2d (F1 9)))] (.double (0 : UInt64)) := Arv.set Arq66 qq66 Sq66 Nq66 Hq66 Gq66 rfl W67 2 rfl (Nat.le_of_ble_eq_true rfl)
            have f71 : Arv Z h67 a0 ka .double (10 : Int32) (own_l10 ((own_upd F1 2 (F1 6)))) (.double (0 : UInt64)) := f70
            show OwnGo p.tables e below _ (T67.setTop (mkF m 57 #[.val (.ref a0), .val (.int p1), .val (.double (FP.l2d sv)), .second, .val (.int (2 : Int32)), .val (.int (6 : Int32))] []))
            refine OwnGo.of (A := T67.setTop (mkF m 57 #[.val (.ref a0), .val (.int p1), .val (.double (FP.l2d sv)), .second, .val (.int (2 : Int32)), .val (.int (6 : Int32))] [])) (B := T67.setTop (mkF m 6 #[.val (.ref a0), .val (.int p1), .val (.double (FP.l2d sv)), .second, .val (.int (6 : Int32)), .val (.int (13 : Int32))] [])) (fun t k => ?_) ?_
            · show Steps p.tables e below (T67.setTop (mkF m 57 #[.val (.ref a0), .val (.int p1), .val (.double (FP.l2d sv)), .second, .val (.int (2 : Int32)), .val (.int (6 : Int32))] [])) t
              refine XS.iload X67.here hx rfl (hb hby d3_57) rfl ?_
              refine XS.istore X67.here hx rfl (hb hby d3_59) rfl (l' := #[.val (.ref a0), .val (.int p1), .val (.double (FP.l2d sv)), .second, .val (.int (6 : Int32)), .val (.int (6 : Int32))]) rfl ?_
              refine XS.iconst X67.here hx rfl (hb hby d3_61) ?_
              refine XS.iload X67.here hx rfl (hb hby d3_62) rfl ?_
              refine XS.imul X67.here hx rfl (hb hby d3_64) rfl ?_
              refine XS.iconst X67.here hx rfl (hb hby d3_65) ?_
              refine XS.iadd X67.here hx rfl (hb hby d3_66) rfl ?_
              refine XS.istore X67.here hx rfl (hb hby d3_67) rfl (l' := #[.val (.ref a0), .val (.int p1), .val (.double (FP.l2d sv)), .second, .val (.int (6 : Int32)), .val (.int (13 : Int32))]) rfl ?_
              refine XS.goto X67.here hx rfl (pc0 := 69) (pc' := 6) rfl (hb hby d3_69) (by decide) (by decide) ?_
              exact k
            rw [show own_sift 3 nn sv 2 F1 = own_sift 2 nn sv 6 (own_upd F1 2 (F1 6)) from by rw [own_sift, if_pos ((own_ltn hp (5 : Int32) 5 (by decide)).mp hc58), if_pos ((own_ltn hp (6 : Int32) 6 (by decide)).mp hc59), if_pos ((own_cl (hF _) (hF _) .g).mp hc62), if_pos ((own_cl (hF _) hsv .l).mp hc64)]]
            exact J6_6 T67 _ _ _ X67 e67 N67 f69 f68 f71 (own_updB hF (hF _))
          · refine OwnGo.of (A := Tj.setTop (mkF m 43 #[.val (.ref a0), .val (.int p1), .val (.double (FP.l2d sv)), .second, .val (.int (2 : Int32)), .val (.int (6 : Int32))] [(.int (cmpValue (FP.dcmp (FP.l2d (F1 6)) (FP.l2d sv)) .l))])) (B := Tj.setTop (mkF m 76 #[.val (.ref a0), .val (.int p1), .val (.double (FP.l2d sv)), .second, .val (.int (2 : Int32)), .val (.int (6 : Int32))] [(.double (FP.l2d sv)), (.int (2 : Int32)), (.ref a0)])) (fun t k => ?_) ?_
            · show Steps p.tables e below (Tj.setTop (mkF m 43 #[.val (.ref a0), .val (.int p1), .val (.double (FP.l2d sv)), .second, .val (.int (2 : Int32)), .val (.int (6 : Int32))] [(.int (cmpValue (FP.dcmp (FP.l2d (F1 6)) (FP.l2d sv)) .l))])) t
              refine XS.ifNo Xj.here hx rfl (hb hby d3_43) rfl ((if0 _ _).trans (flt hc64).1) ?_
              refine XS.goto Xj.here hx rfl (pc0 := 46) (pc' := 72) rfl (hb hby d3_46) (by decide) (by decide) ?_
              refine XS.aloadN Xj.here hx rfl (hb hby d3_72) rfl rfl ?_
              refine XS.iload Xj.here hx rfl (hb hby d3_73) rfl ?_
              refine XS.dloadN Xj.here hx rfl (hb hby d3_75) rfl ?_
              exact k
            have cq72 := Vj
            obtain ⟨clq72, Arq72, qq72, Sq72, Nq72, Hq72, Gq72⟩ := cq72
            obtain ⟨T73, h73, X73, e73, W73, st73⟩ := stD Xj hx hZ ej Arq72 (j := (2 : Int32)) (inb_of Sq72 ⟨by decide, by decide⟩) (g := (mkF m 76 #[.val (.ref a0), .val (.int p1), .val (.double (FP.l2d sv)), .second, .val (.int (2 : Int32)), .val (.int (6 : Int32))] [(.double (FP.l2d sv)), (.int (2 : Int32)), (.ref a0)])) rfl rfl (hb hby d3_76)
            refine OwnGo.of st73 ?_
            have N73 := Fr.snoc X73 Nj g_a0
            have f74 : Keep h0 h73 [a0] := Kj.wr W73 (Or.inl (List.mem_of_getElem? (i := 0) rfl))
            have f75 : n0 ≤ h73.size := Nat.le_trans Zj (Keep.of_wr W73).1
            have f76 : Arv Z h73 a0 ka .double (10 : Int32) [(.double (FP.l2d (F1 0))), (.double (FP.l2d (F1 1))), (.double (FP.l2d sv)), (.double (FP.l2d (F1 3))), (.double (FP.l2d (F1 4))), (.double (FP.l2d (F1 5))), (.double (FP.l2d (F1 6))), (.double (FP.l2d (F1 7))), (.double (FP.l2d (F1 8))), (.double (FP.l2d (F1 9)))] (.double (0 : UInt64)) := Arv.set Arq72 qq72 Sq72 Nq72 Hq72 Gq72 rfl W73 2 rfl (Nat.le_of_ble_eq_true rfl)
            have f77 : Arv Z h73 a0 ka .double (10 : Int32) (own_l10 ((own_upd F1 2 sv))) (.double (0 : UInt64)) := f76
            show OwnGo p.tables e below _ (T73.setTop (mkF m 77 #[.val (.ref a0), .val (.int p1), .val (.double (FP.l2d sv)), .second, .val (.int (2 : Int32)), .val (.int (6 : Int32))] []))
            obtain ⟨fs, hr, hrun, hended, hW, hsame⟩ := X73.leave (v := none) (fun _ => rfl) hlk
            refine ⟨_, _, ?_, hrun, hended, _, _, rfl, ?_, ⟨_, rfl⟩, hW, hsame.mono (by decide) (by decide)⟩
            · show Steps p.tables e below (T73.setTop (mkF m 77 #[.val (.ref a0), .val (.int p1), .val (.double (FP.l2d sv)), .second, .val (.int (2 : Int32)), .val (.int (6 : Int32))] [])) _
              exact X73.returnOut hx Bd.returns (hb hby d3_77) hr
            · show Qrmd Z a0 p1 sv F0 ka nn h0 n0 (own_sift 3 nn sv 2 F1) _ (T73.setFrames fs).heap _
              rw [show (T73.setFrames fs).heap = h73 from e73]
              refine ⟨rfl, N73, f74, ?_⟩
              rw [show own_sift 3 nn sv 2 F1 = own_upd F1 2 sv from by rw [own_sift, if_pos ((own_ltn hp (5 : Int32) 5 (by decide)).mp hc58), if_pos ((own_ltn hp (6 : Int32) 6 (by decide)).mp hc59), if_pos ((own_cl (hF _) (hF _) .g).mp hc62), if_neg (fun q => hc64 ((own_cl (hF _) hsv .l).mpr q))]]
              exact f77
        · refine OwnGo.of (A := Tj.setTop (mkF m 31 #[.val (.ref a0), .val (.int p1), .val (.double (FP.l2d sv)), .second, .val (.int (2 : Int32)), .val (.int (5 : Int32))] [(.int (cmpValue (FP.dcmp (FP.l2d (F1 6)) (FP.l2d (F1 5))) .g))])) (B := Tj.setTop (mkF m 40 #[.val (.ref a0), .val (.int p1), .val (.double (FP.l2d sv)), .second, .val (.int (2 : Int32)), .val (.int (5 : Int32))] [(.int (5 : Int32)), (.ref a0)])) (fun t k => ?_) ?_
          · show Steps p.tables e below (Tj.setTop (mkF m 31 #[.val (.ref a0), .val (.int p1), .val (.double (FP.l2d sv)), .second, .val (.int (2 : Int32)), .val (.int (5 : Int32))] [(.int (cmpValue (FP.dcmp (FP.l2d (F1 6)) (FP.l2d (F1 5))) .g))])) t
            refine XS.ifYes Xj.here hx rfl (pc0 := 31) (pc' := 37) rfl (hb hby d3_31) rfl ((if0 _ _).trans (flt hc62).2.1) (by decide) (by decide) ?_
            refine XS.aloadN Xj.here hx rfl (hb hby d3_37) rfl rfl ?_
            refine XS.iload Xj.here hx rfl (hb hby d3_38) rfl ?_
            exact k
          have cq79 := Vj
          obtain ⟨clq79, Arq79, qq79, Sq79, Nq79, Hq79, Gq79⟩ := cq79
          have hinq79 := inb_of (j := (5 : Int32)) Sq79 ⟨by decide, by decide⟩
          refine OwnGo.of (Xj.daload hx (j := (5 : Int32)) (v := (.double (FP.l2d (F1 5)))) (by rw [ej]; exact Arq79.1) (State.isArrayOf_alike hZ.alike Arq79.2.1) Arq79.2.2 hinq79 (Hq79.at hinq79 rfl) (g := (mkF m 40 #[.val (.ref a0), .val (.int p1), .val (.double (FP.l2d sv)), .second, .val (.int (2 : Int32)), .val (.int (5 : Int32))] [(.int (5 : Int32)), (.ref a0)])) rfl rfl (hb hby d3_40)) ?_
          show OwnGo p.tables e below _ (Tj.setTop (mkF m 41 #[.val (.ref a0), .val (.int p1), .val (.double (FP.l2d sv)), .second, .val (.int (2 : Int32)), .val (.int (5 : Int32))] [(.double (FP.l2d (F1 5)))]))
          refine OwnGo.of (A := Tj.setTop (mkF m 41 #[.val (.ref a0), .val (.int p1), .val (.double (FP.l2d sv)), .second, .val (.int (2 : Int32)), .val (.int (5 : Int32))] [(.double (FP.l2d (F1 5)))])) (B := Tj.setTop (mkF m 43 #[.val (.ref a0), .val (.int p1), .val (.double (FP.l2d sv)), .second, .val (.int (2 : Int32)), .val (.int (5 : Int32))] [(.int (cmpValue (FP.dcmp (FP.l2d (F1 5)) (FP.l2d sv)) .l))])) (fun t k => ?_) ?_
          · show Steps p.tables e below (Tj.setTop (mkF m 41 #[.val (.ref a0), .val (.int p1), .val (.double (FP.l2d sv)), .second, .val (.int (2 : Int32)), .val (.int (5 : Int32))] [(.double (FP.l2d (F1 5)))])) t
            refine XS.dloadN Xj.here hx rfl (hb hby d3_41) rfl ?_
            refine XS.dcmpS Xj.here hx rfl (hb hby d3_42) rfl rfl ?_
            exact k
          by_cases hc80 : (cmpValue (FP.dcmp (FP.l2d (F1 5)) (FP.l2d sv)) .l) < (0 : Int32)
          · refine OwnGo.of (A := Tj.setTop (mkF m 43 #[.val (.ref a0), .val (.int p1), .val (.double (FP.l2d sv)), .second, .val (.int (2 : Int32)), .val (.int (5 : Int32))] [(.int (cmpValue (FP.dcmp (FP.l2d (F1 5)) (FP.l2d sv)) .l))])) (B := Tj.setTop (mkF m 55 #[.val (.ref a0), .val (.int p1), .val (.double (FP.l2d sv)), .second, .val (.int (2 : Int32)), .val (.int (5 : Int32))] [(.int (5 : Int32)), (.ref a0), (.int (2 : Int32)), (.ref a0)])) (fun t k => ?_) ?_
            · show Steps p.tables e below (Tj.setTop (mkF m 43 #[.val (.ref a0), .val (.int p1), .val (.double (FP.l2d sv)), .second, .val (.int (2 : Int32)), .val (.int (5 : Int32))] [(.int (cmpValue (FP.dcmp (FP.l2d (F1 5)) (FP.l2d sv)) .l))])) t
              refine XS.ifYes Xj.here hx rfl (pc0 := 43) (pc' := 49) rfl (hb hby d3_43) rfl ((if0 _ _).trans (tlt hc80).1) (by decide) (by decide) ?_
              refine XS.aloadN Xj.here hx rfl (hb hby d3_49) rfl rfl ?_
              refine XS.iload Xj.here hx rfl (hb hby d3_50) rfl ?_
              refine XS.aloadN Xj.here hx rfl (hb hby d3_52) rfl rfl ?_
              refine XS.iload Xj.here hx rfl (hb hby d3_53) rfl ?_
              exact k
            have cq81 := Vj
            obtain ⟨clq81, Arq81, qq81, Sq81, Nq81, Hq81, Gq81⟩ := cq81
            have hinq81 := inb_of (j := (5 : Int32)) Sq81 ⟨by decide, by decide⟩
            refine OwnGo.of (Xj.daload hx (j := (5 : Int32)) (v := (.double (FP.l2d (F1 5)))) (by rw [ej]; exact Arq81.1) (State.isArrayOf_alike hZ.alike Arq81.2.1) Arq81.2.2 hinq81 (Hq81.at hinq81 rfl) (g := (mkF m 55 #[.val (.ref a0), .val (.int p1), .val (.double (FP.l2d sv)), .second, .val (.int (2 : Int32)), .val (.int (5 : Int32))] [(.int (5 : Int32)), (.ref a0), (.int (2 : Int32)), (.ref a0)])) rfl rfl (hb hby d3_55)) ?_
            show OwnGo p.tables e below _ (Tj.setTop (mkF m 56 #[.val (.ref a0), .val (.int p1), .val (.double (FP.l2d sv)), .second, .val (.int (2 : Int32)), .val (.int (5 : Int32))] [(.double (FP.l2d (F1 5))), (.int (2 : Int32)), (.ref a0)]))
            have cq82 := Vj
            obtain ⟨clq82, Arq82, qq82, Sq82, Nq82, Hq82, Gq82⟩ := cq82
            obtain ⟨T83, h83, X83, e83, W83, st83⟩ := stD Xj hx hZ ej Arq82 (j := (2 : Int32)) (inb_of Sq82 ⟨by decide, by decide⟩) (g := (mkF m 56 #[.val (.ref a0), .val (.int p1), .val (.double (FP.l2d sv)), .second, .val (.int (2 : Int32)), .val (.int (5 : Int32))] [(.double (FP.l2d (F1 5))), (.int (2 : Int32)), (.ref a0)])) rfl rfl (hb hby d3_56)
            refine OwnGo.of st83 ?_
            have N83 := Fr.snoc X83 Nj g_a0
            have f84 : Keep h0 h83 [a0] := Kj.wr W83 (Or.inl (List.mem_of_getElem? (i := 0) rfl))
            have f85 : n0 ≤ h83.size := Nat.le_trans Zj (Keep.of_wr W83).1
            have f86 : Arv Z h83 a0 ka .double (10 : Int32) [(.double (FP.l2d (F1 0))), (.double (FP.l2d (F1 1))), (.double (FP.l2d (F1 5))), (.double (FP.l2d (F1 3))), (.double (FP.l2d (F1 4))), (.double (FP.l2d (F1 5))), (.double (FP.l2d (F1 6))), (.double (FP.l2d (F1 7))), (.double (FP.l2d (F1 8))), (.double (FP.l2d (F1 9)))] (.double (0 : UInt64)) := Arv.set Arq82 qq82 Sq82 Nq82 Hq82 Gq82 rfl W83 2 rfl (Nat.le_of_ble_eq_true rfl)
            have f87 : Arv Z h83 a0 ka .double (10 : Int32) (own_l10 ((own_upd F1 2 (F1 5)))) (.double (0 : UInt64)) := f86
            show OwnGo p.tables e below _ (T83.setTop (mkF m 57 #[.val (.ref a0), .val (.int p1), .val (.double (FP.l2d sv)), .second, .val (.int (2 : Int32)), .val (.int (5 : Int32))] []))
            refine OwnGo.of (A := T83.setTop (mkF m 57 #[.val (.ref a0), .val (.int p1), .val (.double (FP.l2d sv)), .second, .val (.int (2 : Int32)), .val (.int (5 : Int32))] [])) (B := T83.setTop (mkF m 6 #[.val (.ref a0), .val (.int p1), .val (.double (FP.l2d sv)), .second, .val (.int (5 : Int32)), .val (.int (11 : Int32))] [])) (fun t k => ?_) ?_
            · show Steps p.tables e below (T83.setTop (mkF m 57 #[.val (.ref a0), .val (.int p1), .val (.double (FP.l2d sv)), .second, .val (.int (2 : Int32)), .val (.int (5 : Int32))] [])) t
              refine XS.iload X83.here hx rfl (hb hby d3_57) rfl ?_
              refine XS.istore X83.here hx rfl (hb hby d3_59) rfl (l' := #[.val (.ref a0), .val (.int p1), .val (.double (FP.l2d sv)), .second, .val (.int (5 : Int32)), .val (.int (5 : Int32))]) rfl ?_
              refine XS.iconst X83.here hx rfl (hb hby d3_61) ?_
              refine XS.iload X83.here hx rfl (hb hby d3_62) rfl ?_
              refine XS.imul X83.here hx rfl (hb hby d3_64) rfl ?_
              refine XS.iconst X83.here hx rfl (hb hby d3_65) ?_
              refine XS.iadd X83.here hx rfl (hb hby d3_66) rfl ?_
              refine XS.istore X83.here hx rfl (hb hby d3_67) rfl (l' := #[.val (.ref a0), .val (.int p1), .val (.double (FP.l2d sv)), .second, .val (.int (5 : Int32)), .val (.int (11 : Int32))]) rfl ?_
              refine XS.goto X83.here hx rfl (pc0 := 69) (pc' := 6) rfl (hb hby d3_69) (by decide) (by decide) ?_
              exact k
            rw [show own_sift 3 nn sv 2 F1 = own_sift 2 nn sv 5 (own_upd F1 2 (F1 5)) from by rw [own_sift, if_pos ((own_ltn hp (5 : Int32) 5 (by decide)).mp hc58), if_pos ((own_ltn hp (6 : Int32) 6 (by decide)).mp hc59), if_neg (fun q => hc62 ((own_cl (hF _) (hF _) .g).mpr q)), if_pos ((own_cl (hF _) hsv .l).mp hc80)]]
            exact J6_5 T83 _ _ _ X83 e83 N83 f85 f84 f87 (own_updB hF (hF _))
          · refine OwnGo.of (A := Tj.setTop (mkF m 43 #[.val (.ref a0), .val (.int p1), .val (.double (FP.l2d sv)), .second, .val (.int (2 : Int32)), .val (.int (5 : Int32))] [(.int (cmpValue (FP.dcmp (FP.l2d (F1 5)) (FP.l2d sv)) .l))])) (B := Tj.setTop (mkF m 76 #[.val (.ref a0), .val (.int p1), .val (.double (FP.l2d sv)), .second, .val (.int (2 : Int32)), .val (.int (5 : Int32))] [(.double (FP.l2d sv)), (.int (2 : Int32)), (.ref a0)])) (fun t k => ?_) ?_
            · show Steps p.tables e below (Tj.setTop (mkF m 43 #[.val (.ref a0), .val (.int p1), .val (.double (FP.l2d sv)), .second, .val (.int (2 : Int32)), .val (.int (5 : Int32))] [(.int (cmpValue (FP.dcmp (FP.l2d (F1 5)) (FP.l2d sv)) .l))])) t
              refine XS.ifNo Xj.here hx rfl (hb hby d3_43) rfl ((if0 _ _).trans (flt hc80).1) ?_
              refine XS.goto Xj.here hx rfl (pc0 := 46) (pc' := 72) rfl (hb hby d3_46) (by decide) (by decide) ?_
              refine XS.aloadN Xj.here hx rfl (hb hby d3_72) rfl rfl ?_
              refine XS.iload Xj.here hx rfl (hb hby d3_73) rfl ?_
              refine XS.dloadN Xj.here hx rfl (hb hby d3_75) rfl ?_
              exact k
            have cq88 := Vj
            obtain ⟨clq88, Arq88, qq88, Sq88, Nq88, Hq88, Gq88⟩ := cq88
            obtain ⟨T89, h89, X89, e89, W89, st89⟩ := stD Xj hx hZ ej Arq88 (j := (2 : Int32)) (inb_of Sq88 ⟨by decide, by decide⟩) (g := (mkF m 76 #[.val (.ref a0), .val (.int p1), .val (.double (FP.l2d sv)), .second, .val (.int (2 : Int32)), .val (.int (5 : Int32))] [(.double (FP.l2d sv)), (.int (2 : Int32)), (.ref a0)])) rfl rfl (hb hby d3_76)
            refine OwnGo.of st89 ?_
            have N89 := Fr.snoc X89 Nj g_a0
            have f90 : Keep h0 h89 [a0] := Kj.wr W89 (Or.inl (List.mem_of_getElem? (i := 0) rfl))
            have f91 : n0 ≤ h89.size := Nat.le_trans Zj (Keep.of_wr W89).1
            have f92 : Arv Z h89 a0 ka .double (10 : Int32) [(.double (FP.l2d (F1 0))), (.double (FP.l2d (F1 1))), (.double (FP.l2d sv)), (.double (FP.l2d (F1 3))), (.double (FP.l2d (F1 4))), (.double (FP.l2d (F1 5))), (.double (FP.l2d (F1 6))), (.double (FP.l2d (F1 7))), (.double (FP.l2d (F1 8))), (.double (FP.l2d (F1 9)))] (.double (0 : UInt64)) := Arv.set Arq88 qq88 Sq88 Nq88 Hq88 Gq88 rfl W89 2 rfl (Nat.le_of_ble_eq_true rfl)
            have f93 : Arv Z h89 a0 ka .double (10 : Int32) (own_l10 ((own_upd F1 2 sv))) (.double (0 : UInt64)) := f92
            show OwnGo p.tables e below _ (T89.setTop (mkF m 77 #[.val (.ref a0), .val (.int p1), .val (.double (FP.l2d sv)), .second, .val (.int (2 : Int32)), .val (.int (5 : Int32))] []))
            obtain ⟨fs, hr, hrun, hended, hW, hsame⟩ := X89.leave (v := none) (fun _ => rfl) hlk
            refine ⟨_, _, ?_, hrun, hended, _, _, rfl, ?_, ⟨_, rfl⟩, hW, hsame.mono (by decide) (by decide)⟩
            · show Steps p.tables e below (T89.setTop (mkF m 77 #[.val (.ref a0), .val (.int p1), .val (.double (FP.l2d sv)), .second, .val (.int (2 : Int32)), .val (.int (5 : Int32))] [])) _
              exact X89.returnOut hx Bd.returns (hb hby d3_77) hr
            · show Qrmd Z a0 p1 sv F0 ka nn h0 n0 (own_sift 3 nn sv 2 F1) _ (T89.setFrames fs).heap _
              rw [show (T89.setFrames fs).heap = h89 from e89]
              refine ⟨rfl, N89, f90, ?_⟩
              rw [show own_sift 3 nn sv 2 F1 = own_upd F1 2 sv from by rw [own_sift, if_pos ((own_ltn hp (5 : Int32) 5 (by decide)).mp hc58), if_pos ((own_ltn hp (6 : Int32) 6 (by decide)).mp hc59), if_neg (fun q => hc62 ((own_cl (hF _) (hF _) .g).mpr q)), if_neg (fun q => hc80 ((own_cl (hF _) hsv .l).mpr q))]]
              exact f93
      · refine OwnGo.of (A := Tj.setTop (mkF m 17 #[.val (.ref a0), .val (.int p1), .val (.double (FP.l2d sv)), .second, .val (.int (2 : Int32)), .val (.int (5 : Int32))] [(.int p1), (.int (6 : Int32))])) (B := Tj.setTop (mkF m 40 #[.val (.ref a0), .val (.int p1), .val (.double (FP.l2d sv)), .second, .val (.int (2 : Int32)), .val (.int (5 : Int32))] [(.int (5 : Int32)), (.ref a0)])) (fun t k => ?_) ?_
        · show Steps p.tables e below (Tj.setTop (mkF m 17 #[.val (.ref a0), .val (.int p1), .val (.double (FP.l2d sv)), .second, .val (.int (2 : Int32)), .val (.int (5 : Int32))] [(.int p1), (.int (6 : Int32))])) t
          refine XS.icmpYes Xj.here hx rfl (pc0 := 17) (pc' := 37) rfl (hb hby d3_17) rfl (flt hc59).2.1 (by decide) (by decide) ?_
          refine XS.aloadN Xj.here hx rfl (hb hby d3_37) rfl rfl ?_
          refine XS.iload Xj.here hx rfl (hb hby d3_38) rfl ?_
          exact k
        have cq95 := Vj
        obtain ⟨clq95, Arq95, qq95, Sq95, Nq95, Hq95, Gq95⟩ := cq95
        have hinq95 := inb_of (j := (5 : Int32)) Sq95 ⟨by decide, by decide⟩
        refine OwnGo.of (Xj.daload hx (j := (5 : Int32)) (v := (.double (FP.l2d (F1 5)))) (by rw [ej]; exact Arq95.1) (State.isArrayOf_alike hZ.alike Arq95.2.1) Arq95.2.2 hinq95 (Hq95.at hinq95 rfl) (g := (mkF m 40 #[.val (.ref a0), .val (.int p1), .val (.double (FP.l2d sv)), .second, .val (.int (2 : Int32)), .val (.int (5 : Int32))] [(.int (5 : Int32)), (.ref a0)])) rfl rfl (hb hby d3_40)) ?_
        show OwnGo p.tables e below _ (Tj.setTop (mkF m 41 #[.val (.ref a0), .val (.int p1), .val (.double (FP.l2d sv)), .second, .val (.int (2 : Int32)), .val (.int (5 : Int32))] [(.double (FP.l2d (F1 5)))]))
        refine OwnGo.of (A := Tj.setTop (mkF m 41 #[.val (.ref a0), .val (.int p1), .val (.double (FP.l2d sv)), .second, .val (.int (2 : Int32)), .val (.int (5 : Int32))] [(.double (FP.l2d (F1 5)))])) (B := Tj.setTop (mkF m 43 #[.val (.ref a0), .val (.int p1), .val (.double (FP.l2d sv)), .second, .val (.int (2 : Int32)), .val (.int (5 : Int32))] [(.int (cmpValue (FP.dcmp (FP.l2d (F1 5)) (FP.l2d sv)) .l))])) (fun t k => ?_) ?_
        · show Steps p.tables e below (Tj.setTop (mkF m 41 #[.val (.ref a0), .val (.int p1), .val (.double (FP.l2d sv)), .second, .val (.int (2 : Int32)), .val (.int (5 : Int32))] [(.double (FP.l2d (F1 5)))])) t
          refine XS.dloadN Xj.here hx rfl (hb hby d3_41) rfl ?_
          refine XS.dcmpS Xj.here hx rfl (hb hby d3_42) rfl rfl ?_
          exact k
        by_cases hc96 : (cmpValue (FP.dcmp (FP.l2d (F1 5)) (FP.l2d sv)) .l) < (0 : Int32)
        · refine OwnGo.of (A := Tj.setTop (mkF m 43 #[.val (.ref a0), .val (.int p1), .val (.double (FP.l2d sv)), .second, .val (.int (2 : Int32)), .val (.int (5 : Int32))] [(.int (cmpValue (FP.dcmp (FP.l2d (F1 5)) (FP.l2d sv)) .l))])) (B := Tj.setTop (mkF m 55 #[.val (.ref a0), .val (.int p1), .val (.double (FP.l2d sv)), .second, .val (.int (2 : Int32)), .val (.int (5 : Int32))] [(.int (5 : Int32)), (.ref a0), (.int (2 : Int32)), (.ref a0)])) (fun t k => ?_) ?_
          · show Steps p.tables e below (Tj.setTop (mkF m 43 #[.val (.ref a0), .val (.int p1), .val (.double (FP.l2d sv)), .second, .val (.int (2 : Int32)), .val (.int (5 : Int32))] [(.int (cmpValue (FP.dcmp (FP.l2d (F1 5)) (FP.l2d sv)) .l))])) t
            refine XS.ifYes Xj.here hx rfl (pc0 := 43) (pc' := 49) rfl (hb hby d3_43) rfl ((if0 _ _).trans (tlt hc96).1) (by decide) (by decide) ?_
            refine XS.aloadN Xj.here hx rfl (hb hby d3_49) rfl rfl ?_
            refine XS.iload Xj.here hx rfl (hb hby d3_50) rfl ?_
            refine XS.aloadN Xj.here hx rfl (hb hby d3_52) rfl rfl ?_
            refine XS.iload Xj.here hx rfl (hb hby d3_53) rfl ?_
            exact k
          have cq97 := Vj
          obtain ⟨clq97, Arq97, qq97, Sq97, Nq97, Hq97, Gq97⟩ := cq97
          have hinq97 := inb_of (j := (5 : Int32)) Sq97 ⟨by decide, by decide⟩
          refine OwnGo.of (Xj.daload hx (j := (5 : Int32)) (v := (.double (FP.l2d (F1 5)))) (by rw [ej]; exact Arq97.1) (State.isArrayOf_alike hZ.alike Arq97.2.1) Arq97.2.2 hinq97 (Hq97.at hinq97 rfl) (g := (mkF m 55 #[.val (.ref a0), .val (.int p1), .val (.double (FP.l2d sv)), .second, .val (.int (2 : Int32)), .val (.int (5 : Int32))] [(.int (5 : Int32)), (.ref a0), (.int (2 : Int32)), (.ref a0)])) rfl rfl (hb hby d3_55)) ?_
          show OwnGo p.tables e below _ (Tj.setTop (mkF m 56 #[.val (.ref a0), .val (.int p1), .val (.double (FP.l2d sv)), .second, .val (.int (2 : Int32)), .val (.int (5 : Int32))] [(.double (FP.l2d (F1 5))), (.int (2 : Int32)), (.ref a0)]))
          have cq98 := Vj
          obtain ⟨clq98, Arq98, qq98, Sq98, Nq98, Hq98, Gq98⟩ := cq98
          obtain ⟨T99, h99, X99, e99, W99, st99⟩ := stD Xj hx hZ ej Arq98 (j := (2 : Int32)) (inb_of Sq98 ⟨by decide, by decide⟩) (g := (mkF m 56 #[.val (.ref a0), .val (.int p1), .val (.double (FP.l2d sv)), .second, .val (.int (2 : Int32)), .val (.int (5 : Int32))] [(.double (FP.l2d (F1 5))), (.int (2 : Int32)), (.ref a0)])) rfl rfl (hb hby d3_56)
          refine OwnGo.of st99 ?_
          have N99 := Fr.snoc X99 Nj g_a0
          have f100 : Keep h0 h99 [a0] := Kj.wr W99 (Or.inl (List.mem_of_getElem? (i := 0) rfl))
          have f101 : n0 ≤ h99.size := Nat.le_trans Zj (Keep.of_wr W99).1
          have f102 : Arv Z h99 a0 ka .double (10 : Int32) [(.double (FP.l2d (F1 0))), (.double (FP.l2d (F1 1))), (.double (FP.l2d (F1 5))), (.double (FP.l2d (F1 3))), (.double (FP.l2d (F1 4))), (.double (FP.l2d (F1 5))), (.double (FP.l2d (F1 6))), (.double (FP.l2d (F1 7))), (.double (FP.l2d (F1 8))), (.double (FP.l2d (F1 9)))] (.double (0 : UInt64)) := Arv.set Arq98 qq98 Sq98 Nq98 Hq98 Gq98 rfl W99 2 rfl (Nat.le_of_ble_eq_true rfl)
          have f103 : Arv Z h99 a0 ka .double (10 : Int32) (own_l10 ((own_upd F1 2 (F1 5)))) (.double (0 : UInt64)) := f102
          show OwnGo p.tables e below _ (T99.setTop (mkF m 57 #[.val (.ref a0), .val (.int p1), .val (.double (FP.l2d sv)), .second, .val (.int (2 : Int32)), .val (.int (5 : Int32))] []))
          refine OwnGo.of (A := T99.setTop (mkF m 57 #[.val (.ref a0), .val (.int p1), .val (.double (FP.l2d sv)), .second, .val (.int (2 : Int32)), .val (.int (5 : Int32))] [])) (B := T99.setTop (mkF m 6 #[.val (.ref a0), .val (.int p1), .val (.double (FP.l2d sv)), .second, .val (.int (5 : Int32)), .val (.int (11 : Int32))] [])) (fun t k => ?_) ?_
          · show Steps p.tables e below (T99.setTop (mkF m 57 #[.val (.ref a0), .val (.int p1), .val (.double (FP.l2d sv)), .second, .val (.int (2 : Int32)), .val (.int (5 : Int32))] [])) t
            refine XS.iload X99.here hx rfl (hb hby d3_57) rfl ?_
            refine XS.istore X99.here hx rfl (hb hby d3_59) rfl (l' := #[.val (.ref a0), .val (.int p1), .val (.double (FP.l2d sv)), .second, .val (.int (5 : Int32)), .val (.int (5 : Int32))]) rfl ?_
            refine XS.iconst X99.here hx rfl (hb hby d3_61) ?_
            refine XS.iload X99.here hx rfl (hb hby d3_62) rfl ?_
            refine XS.imul X99.here hx rfl (hb hby d3_64) rfl ?_
            refine XS.iconst X99.here hx rfl (hb hby d3_65) ?_
            refine XS.iadd X99.here hx rfl (hb hby d3_66) rfl ?_
            refine XS.istore X99.here hx rfl (hb hby d3_67) rfl (l' := #[.val (.ref a0), .val (.int p1), .val (.double (FP.l2d sv)), .second, .val (.int (5 : Int32)), .val (.int (11 : Int32))]) rfl ?_
            refine XS.goto X99.here hx rfl (pc0 := 69) (pc' := 6) rfl (hb hby d3_69) (by decide) (by decide) ?_
            exact k
          rw [show own_sift 3 nn sv 2 F1 = own_sift 2 nn sv 5 (own_upd F1 2 (F1 5)) from by rw [own_sift, if_pos ((own_ltn hp (5 : Int32) 5 (by decide)).mp hc58), if_neg (fun q => hc59 ((own_ltn hp (6 : Int32) 6 (by decide)).mpr q)), if_pos ((own_cl (hF _) hsv .l).mp hc96)]]
          exact J6_5 T99 _ _ _ X99 e99 N99 f101 f100 f103 (own_updB hF (hF _))
        · refine OwnGo.of (A := Tj.setTop (mkF m 43 #[.val (.ref a0), .val (.int p1), .val (.double (FP.l2d sv)), .second, .val (.int (2 : Int32)), .val (.int (5 : Int32))] [(.int (cmpValue (FP.dcmp (FP.l2d (F1 5)) (FP.l2d sv)) .l))])) (B := Tj.setTop (mkF m 76 #[.val (.ref a0), .val (.int p1), .val (.double (FP.l2d sv)), .second, .val (.int (2 : Int32)), .val (.int (5 : Int32))] [(.double (FP.l2d sv)), (.int (2 : Int32)), (.ref a0)])) (fun t k => ?_) ?_
          · show Steps p.tables e below (Tj.setTop (mkF m 43 #[.val (.ref a0), .val (.int p1), .val (.double (FP.l2d sv)), .second, .val (.int (2 : Int32)), .val (.int (5 : Int32))] [(.int (cmpValue (FP.dcmp (FP.l2d (F1 5)) (FP.l2d sv)) .l))])) t
            refine XS.ifNo Xj.here hx rfl (hb hby d3_43) rfl ((if0 _ _).trans (flt hc96).1) ?_
            refine XS.goto Xj.here hx rfl (pc0 := 46) (pc' := 72) rfl (hb hby d3_46) (by decide) (by decide) ?_
            refine XS.aloadN Xj.here hx rfl (hb hby d3_72) rfl rfl ?_
            refine XS.iload Xj.here hx rfl (hb hby d3_73) rfl ?_
            refine XS.dloadN Xj.here hx rfl (hb hby d3_75) rfl ?_
            exact k
          have cq104 := Vj
          obtain ⟨clq104, Arq104, qq104, Sq104, Nq104, Hq104, Gq104⟩ := cq104
          obtain ⟨T105, h105, X105, e105, W105, st105⟩ := stD Xj hx hZ ej Arq104 (j := (2 : Int32)) (inb_of Sq104 ⟨by decide, by decide⟩) (g := (mkF m 76 #[.val (.ref a0), .val (.int p1), .val (.double (FP.l2d sv)), .second, .val (.int (2 : Int32)), .val (.int (5 : Int32))] [(.double (FP.l2d sv)), (.int (2 : Int32)), (.ref a0)])) rfl rfl (hb hby d3_76)
          refine OwnGo.of st105 ?_
          have N105 := Fr.snoc X105 Nj g_a0
          have f106 : Keep h0 h105 [a0] := Kj.wr W105 (Or.inl (List.mem_of_getElem? (i := 0) rfl))
          have f107 : n0 ≤ h105.size := Nat.le_trans Zj (Keep.of_wr W105).1
          have f108 : Arv Z h105 a0 ka .double (10 : Int32) [(.double (FP.l2d (F1 0))), (.double (FP.l2d (F1 1))), (.double (FP.l2d sv)), (.double (FP.l2d (F1 3))), (.double (FP.l2d (F1 4))), (.double (FP.l2d (F1 5))), (.double (FP.l2d (F1 6))), (.double (FP.l2d (F1 7))), (.double (FP.l2d (F1 8))), (.double (FP.l2d (F1 9)))] (.double (0 : UInt64)) := Arv.set Arq104 qq104 Sq104 Nq104 Hq104 Gq104 rfl W105 2 rfl (Nat.le_of_ble_eq_true rfl)
          have f109 : Arv Z h105 a0 ka .double (10 : Int32) (own_l10 ((own_upd F1 2 sv))) (.double (0 : UInt64)) := f108
          show OwnGo p.tables e below _ (T105.setTop (mkF m 77 #[.val (.ref a0), .val (.int p1), .val (.double (FP.l2d sv)), .second, .val (.int (2 : Int32)), .val (.int (5 : Int32))] []))
          obtain ⟨fs, hr, hrun, hended, hW, hsame⟩ := X105.leave (v := none) (fun _ => rfl) hlk
          refine ⟨_, _, ?_, hrun, hended, _, _, rfl, ?_, ⟨_, rfl⟩, hW, hsame.mono (by decide) (by decide)⟩
          · show Steps p.tables e below (T105.setTop (mkF m 77 #[.val (.ref a0), .val (.int p1), .val (.double (FP.l2d sv)), .second, .val (.int (2 : Int32)), .val (.int (5 : Int32))] [])) _
            exact X105.returnOut hx Bd.returns (hb hby d3_77) hr
          · show Qrmd Z a0 p1 sv F0 ka nn h0 n0 (own_sift 3 nn sv 2 F1) _ (T105.setFrames fs).heap _
            rw [show (T105.setFrames fs).heap = h105 from e105]
            refine ⟨rfl, N105, f106, ?_⟩
            rw [show own_sift 3 nn sv 2 F1 = own_upd F1 2 sv from by rw [own_sift, if_pos ((own_ltn hp (5 : Int32) 5 (by decide)).mp hc58), if_neg (fun q => hc59 ((own_ltn hp (6 : Int32) 6 (by decide)).mpr q)), if_neg (fun q => hc96 ((own_cl (hF _) hsv .l).mpr q))]]
            exact f109
    · refine OwnGo.of (A := Tj.setTop (mkF m 9 #[.val (.ref a0), .val (.int p1), .val (.double (FP.l2d sv)), .second, .val (.int (2 : Int32)), .val (.int (5 : Int32))] [(.int p1), (.int (5 : Int32))])) (B := Tj.setTop (mkF m 76 #[.val (.ref a0), .val (.int p1), .val (.double (FP.l2d sv)), .second, .val (.int (2 : Int32)), .val (.int (5 : Int32))] [(.double (FP.l2d sv)), (.int (2 : Int32)), (.ref a0)])) (fun t k => ?_) ?_
      · show Steps p.tables e below (Tj.setTop (mkF m 9 #[.val (.ref a0), .val (.int p1), .val (.double (FP.l2d sv)), .second, .val (.int (2 : Int32)), .val (.int (5 : Int32))] [(.int p1), (.int (5 : Int32))])) t
        refine XS.icmpYes Xj.here hx rfl (pc0 := 9) (pc' := 72) rfl (hb hby d3_9) rfl (flt hc58).2.1 (by decide) (by decide) ?_
        refine XS.aloadN Xj.here hx rfl (hb hby d3_72) rfl rfl ?_
        refine XS.iload Xj.here hx rfl (hb hby d3_73) rfl ?_
        refine XS.dloadN Xj.here hx rfl (hb hby d3_75) rfl ?_
        exact k
      have cq111 := Vj
      obtain ⟨clq111, Arq111, qq111, Sq111, Nq111, Hq111, Gq111⟩ := cq111
      obtain ⟨T112, h112, X112, e112, W112, st112⟩ := stD Xj hx hZ ej Arq111 (j := (2 : Int32)) (inb_of Sq111 ⟨by decide, by decide⟩) (g := (mkF m 76 #[.val (.ref a0), .val (.int p1), .val (.double (FP.l2d sv)), .second, .val (.int (2 : Int32)), .val (.int (5 : Int32))] [(.double (FP.l2d sv)), (.int (2 : Int32)), (.ref a0)])) rfl rfl (hb hby d3_76)
      refine OwnGo.of st112 ?_
      have N112 := Fr.snoc X112 Nj g_a0
      have f113 : Keep h0 h112 [a0] := Kj.wr W112 (Or.inl (List.mem_of_getElem? (i := 0) rfl))
      have f114 : n0 ≤ h112.size := Nat.le_trans Zj (Keep.of_wr W112).1
      have f115 : Arv Z h112 a0 ka .double (10 : Int32) [(.double (FP.l2d (F1 0))), (.double (FP.l2d (F1 1))), (.double (FP.l2d sv)), (.double (FP.l2d (F1 3))), (.double (FP.l2d (F1 4))), (.double (FP.l2d (F1 5))), (.double (FP.l2d (F1 6))), (.double (FP.l2d (F1 7))), (.double (FP.l2d (F1 8))), (.double (FP.l2d (F1 9)))] (.double (0 : UInt64)) := Arv.set Arq111 qq111 Sq111 Nq111 Hq111 Gq111 rfl W112 2 rfl (Nat.le_of_ble_eq_true rfl)
      have f116 : Arv Z h112 a0 ka .double (10 : Int32) (own_l10 ((own_upd F1 2 sv))) (.double (0 : UInt64)) := f115
      show OwnGo p.tables e below _ (T112.setTop (mkF m 77 #[.val (.ref a0), .val (.int p1), .val (.double (FP.l2d sv)), .second, .val (.int (2 : Int32)), .val (.int (5 : Int32))] []))
      obtain ⟨fs, hr, hrun, hended, hW, hsame⟩ := X112.leave (v := none) (fun _ => rfl) hlk
      refine ⟨_, _, ?_, hrun, hended, _, _, rfl, ?_, ⟨_, rfl⟩, hW, hsame.mono (by decide) (by decide)⟩
      · show Steps p.tables e below (T112.setTop (mkF m 77 #[.val (.ref a0), .val (.int p1), .val (.double (FP.l2d sv)), .second, .val (.int (2 : Int32)), .val (.int (5 : Int32))] [])) _
        exact X112.returnOut hx Bd.returns (hb hby d3_77) hr
      · show Qrmd Z a0 p1 sv F0 ka nn h0 n0 (own_sift 3 nn sv 2 F1) _ (T112.setFrames fs).heap _
        rw [show (T112.setFrames fs).heap = h112 from e112]
        refine ⟨rfl, N112, f113, ?_⟩
        rw [show own_sift 3 nn sv 2 F1 = own_upd F1 2 sv from by rw [own_sift, if_neg (fun q => hc58 ((own_ltn hp (5 : Int32) 5 (by decide)).mpr q))]]
        exact f116
  have J6_1 : ∀ (Tj : State) (Lo : List Loc) (hj : Heap) (F1 : Nat → Int64) (Xj : Stand p l e ({ frames := 0, cells := 0, slots := 0, locals := 0 } : Room) s m #[(.ref a0), (.int p1), (.double (FP.l2d sv))] below meth c Tj Lo 0 0) (ej : Tj.heap = hj) (Nj : Fr n0 Lo) (Zj : n0 ≤ hj.size) (Kj : Keep h0 hj [a0]) (Vj : Arv Z hj a0 ka .double (10 : Int32) (own_l10 (F1)) (.double (0 : UInt64))) (hF : ∀ j, B53 (F1 j)), OwnGo p.tables e below (fun o U' => ∃ v L, o = .returned v ∧ Qrmd Z a0 p1 sv F0 ka nn h0 n0 (own_sift 3 nn sv 1 F1) v U'.heap L ∧ FrameEnd s o U' L ({ frames := 0, cells := 0, slots := 0, locals := 0 } : Room).cells ({ frames := 0, cells := 0, slots := 0, locals := 0 } : Room).slots) (Tj.setTop (mkF m 6 #[.val (.ref a0), .val (.int p1), .val (.double (FP.l2d sv)), .second, .val (.int (1 : Int32)), .val (.int (3 : Int32))] [])) := by
    intro Tj Lo hj F1 Xj ej Nj Zj Kj Vj hF
    show OwnGo p.tables e below _ (Tj.setTop (mkF m 6 #[.val (.ref a0), .val (.int p1), .val (.double (FP.l2d sv)), .second, .val (.int (1 : Int32)), .val (.int (3 : Int32))] []))
    refine OwnGo.of (A := Tj.setTop (mkF m 6 #[.val (.ref a0), .val (.int p1), .val (.double (FP.l2d sv)), .second, .val (.int (1 : Int32)), .val (.int (3 : Int32))] [])) (B := Tj.setTop (mkF m 9 #[.val (.ref a0), .val (.int p1), .val (.double (FP.l2d sv)), .second, .val (.int (1 : Int32)), .val (.int (3 : Int32))] [(.int p1), (.int (3 : Int32))])) (fun t k => ?_) ?_
    · show Steps p.tables e below (Tj.setTop (mkF m 6 #[.val (.ref a0), .val (.int p1), .val (.double (FP.l2d sv)), .second, .val (.int (1 : Int32)), .val (.int (3 : Int32))] [])) t
      refine XS.iload Xj.here hx rfl (hb hby d3_6) rfl ?_
      refine XS.iloadN Xj.here hx rfl (hb hby d3_8) rfl ?_
      exact k
    by_cases hc118 : (3 : Int32) < p1
    · refine OwnGo.of (A := Tj.setTop (mkF m 9 #[.val (.ref a0), .val (.int p1), .val (.double (FP.l2d sv)), .second, .val (.int (1 : Int32)), .val (.int (3 : Int32))] [(.int p1), (.int (3 : Int32))])) (B := Tj.setTop (mkF m 17 #[.val (.ref a0), .val (.int p1), .val (.double (FP.l2d sv)), .second, .val (.int (1 : Int32)), .val (.int (3 : Int32))] [(.int p1), (.int (4 : Int32))])) (fun t k => ?_) ?_
      · show Steps p.tables e below (Tj.setTop (mkF m 9 #[.val (.ref a0), .val (.int p1), .val (.double (FP.l2d sv)), .second, .val (.int (1 : Int32)), .val (.int (3 : Int32))] [(.int p1), (.int (3 : Int32))])) t
        refine XS.icmpNo Xj.here hx rfl (hb hby d3_9) rfl (tlt hc118).2.1 ?_
        refine XS.iload Xj.here hx rfl (hb hby d3_12) rfl ?_
        refine XS.iconst Xj.here hx rfl (hb hby d3_14) ?_
        refine XS.iadd Xj.here hx rfl (hb hby d3_15) rfl ?_
        refine XS.iloadN Xj.here hx rfl (hb hby d3_16) rfl ?_
        exact k
      by_cases hc119 : (4 : Int32) < p1
      · refine OwnGo.of (A := Tj.setTop (mkF m 17 #[.val (.ref a0), .val (.int p1), .val (.double (FP.l2d sv)), .second, .val (.int (1 : Int32)), .val (.int (3 : Int32))] [(.int p1), (.int (4 : Int32))])) (B := Tj.setTop (mkF m 25 #[.val (.ref a0), .val (.int p1), .val (.double (FP.l2d sv)), .second, .val (.int (1 : Int32)), .val (.int (3 : Int32))] [(.int (4 : Int32)), (.ref a0)])) (fun t k => ?_) ?_
        · show Steps p.tables e below (Tj.setTop (mkF m 17 #[.val (.ref a0), .val (.int p1), .val (.double (FP.l2d sv)), .second, .val (.int (1 : Int32)), .val (.int (3 : Int32))] [(.int p1), (.int (4 : Int32))])) t
          refine XS.icmpNo Xj.here hx rfl (hb hby d3_17) rfl (tlt hc119).2.1 ?_
          refine XS.aloadN Xj.here hx rfl (hb hby d3_20) rfl rfl ?_
          refine XS.iload Xj.here hx rfl (hb hby d3_21) rfl ?_
          refine XS.iconst Xj.here hx rfl (hb hby d3_23) ?_
          refine XS.iadd Xj.here hx rfl (hb hby d3_24) rfl ?_
          exact k
        have cq120 := Vj
        obtain ⟨clq120, Arq120, qq120, Sq120, Nq120, Hq120, Gq120⟩ := cq120
        have hinq120 := inb_of (j := (4 : Int32)) Sq120 ⟨by decide, by decide⟩
        refine OwnGo.of (Xj.daload hx (j := (4 : Int32)) (v := (.double (FP.l2d (F1 4)))) (by rw [ej]; exact Arq120.1) (State.isArrayOf_alike hZ.alike Arq120.2.1) Arq120.2.2 hinq120 (Hq120.at hinq120 rfl) (g := (mkF m 25 #[.val (.ref a0), .val (.int p1), .val (.double (FP.l2d sv)), .second, .val (.int (1 : Int32)), .val (.int (3 : Int32))] [(.int (4 : Int32)), (.ref a0)])) rfl rfl (hb hby d3_25)) ?_
        show OwnGo p.tables e below _ (Tj.setTop (mkF m 26 #[.val (.ref a0), .val (.int p1), .val (.double (FP.l2d sv)), .second, .val (.int (1 : Int32)), .val (.int (3 : Int32))] [(.double (FP.l2d (F1 4)))]))
        refine OwnGo.of (A := Tj.setTop (mkF m 26 #[.val (.ref a0), .val (.int p1), .val (.double (FP.l2d sv)), .second, .val (.int (1 : Int32)), .val (.int (3 : Int32))] [(.double (FP.l2d (F1 4)))])) (B := Tj.setTop (mkF m 29 #[.val (.ref a0), .val (.int p1), .val (.double (FP.l2d sv)), .second, .val (.int (1 : Int32)), .val (.int (3 : Int32))] [(.int (3 : Int32)), (.ref a0), (.double (FP.l2d (F1 4)))])) (fun t k => ?_) ?_
        · show Steps p.tables e below (Tj.setTop (mkF m 26 #[.val (.ref a0), .val (.int p1), .val (.double (FP.l2d sv)), .second, .val (.int (1 : Int32)), .val (.int (3 : Int32))] [(.double (FP.l2d (F1 4)))])) t
          refine XS.aloadN Xj.here hx rfl (hb hby d3_26) rfl rfl ?_
          refine XS.iload Xj.here hx rfl (hb hby d3_27) rfl ?_
          exact k
        have cq121 := Vj
        obtain ⟨clq121, Arq121, qq121, Sq121, Nq121, Hq121, Gq121⟩ := cq121
        have hinq121 := inb_of (j := (3 : Int32)) Sq121 ⟨by decide, by decide⟩
        refine OwnGo.of (Xj.daload hx (j := (3 : Int32)) (v := (.double (FP.l2d (F1 3)))) (by rw [ej]; exact Arq121.1) (State.isArrayOf_alike hZ.alike Arq121.2.1) Arq121.2.2 hinq121 (Hq121.at hinq121 rfl) (g := (mkF m 29 #[.val (.ref a0), .val (.int p1), .val (.double (FP.l2d sv)), .second, .val (.int (1 : Int32)), .val (.int (3 : Int32))] [(.int (3 : Int32)), (.ref a0), (.double (FP.l2d (F1 4)))])) rfl rfl (hb hby d3_29)) ?_
        show OwnGo p.tables e below _ (Tj.setTop (mkF m 30 #[.val (.ref a0), .val (.int p1), .val (.double (FP.l2d sv)), .second, .val (.int (1 : Int32)), .val (.int (3 : Int32))] [(.double (FP.l2d (F1 3))), (.double (FP.l2d (F1 4)))]))
        refine OwnGo.of (A := Tj.setTop (mkF m 30 #[.val (.ref a0), .val (.int p1), .val (.double (FP.l2d sv)), .second, .val (.int (1 : Int32)), .val (.int (3 : Int32))] [(.double (FP.l2d (F1 3))), (.double (FP.l2d (F1 4)))])) (B := Tj.setTop (mkF m 31 #[.val (.ref a0), .val (.int p1), .val (.double (FP.l2d sv)), .second, .val (.int (1 : Int32)), .val (.int (3 : Int32))] [(.int (cmpValue (FP.dcmp (FP.l2d (F1 4)) (FP.l2d (F1 3))) .g))])) (fun t k => ?_) ?_
        · show Steps p.tables e below (Tj.setTop (mkF m 30 #[.val (.ref a0), .val (.int p1), .val (.double (FP.l2d sv)), .second, .val (.int (1 : Int32)), .val (.int (3 : Int32))] [(.double (FP.l2d (F1 3))), (.double (FP.l2d (F1 4)))])) t
          refine XS.dcmpS Xj.here hx rfl (hb hby d3_30) rfl rfl ?_
          exact k
        by_cases hc122 : (cmpValue (FP.dcmp (FP.l2d (F1 4)) (FP.l2d (F1 3))) .g) < (0 : Int32)
        · refine OwnGo.of (A := Tj.setTop (mkF m 31 #[.val (.ref a0), .val (.int p1), .val (.double (FP.l2d sv)), .second, .val (.int (1 : Int32)), .val (.int (3 : Int32))] [(.int (cmpValue (FP.dcmp (FP.l2d (F1 4)) (FP.l2d (F1 3))) .g))])) (B := Tj.setTop (mkF m 40 #[.val (.ref a0), .val (.int p1), .val (.double (FP.l2d sv)), .second, .val (.int (1 : Int32)), .val (.int (4 : Int32))] [(.int (4 : Int32)), (.ref a0)])) (fun t k => ?_) ?_
          · show Steps p.tables e below (Tj.setTop (mkF m 31 #[.val (.ref a0), .val (.int p1), .val (.double (FP.l2d sv)), .second, .val (.int (1 : Int32)), .val (.int (3 : Int32))] [(.int (cmpValue (FP.dcmp (FP.l2d (F1 4)) (FP.l2d (F1 3))) .g))])) t
            refine XS.ifNo Xj.here hx rfl (hb hby d3_31) rfl ((if0 _ _).trans (tlt hc122).2.1) ?_
            refine XS.iinc Xj.here hx rfl (hb hby d3_34) rfl (l' := #[.val (.ref a0), .val (.int p1), .val (.double (FP.l2d sv)), .second, .val (.int (1 : Int32)), .val (.int (4 : Int32))]) rfl ?_
            refine XS.aloadN Xj.here hx rfl (hb hby d3_37) rfl rfl ?_
            refine XS.iload Xj.here hx rfl (hb hby d3_38) rfl ?_
            exact k
          have cq123 := Vj
          obtain ⟨clq123, Arq123, qq123, Sq123, Nq123, Hq123, Gq123⟩ := cq123
          have hinq123 := inb_of (j := (4 : Int32)) Sq123 ⟨by decide, by decide⟩
          refine OwnGo.of (Xj.daload hx (j := (4 : Int32)) (v := (.double (FP.l2d (F1 4)))) (by rw [ej]; exact Arq123.1) (State.isArrayOf_alike hZ.alike Arq123.2.1) Arq123.2.2 hinq123 (Hq123.at hinq123 rfl) (g := (mkF m 40 #[.val (.ref a0), .val (.int p1), .val (.double (FP.l2d sv)), .second, .val (.int (1 : Int32)), .val (.int (4 : Int32))] [(.int (4 : Int32)), (.ref a0)])) rfl rfl (hb hby d3_40)) ?_
          show OwnGo p.tables e below _ (Tj.setTop (mkF m 41 #[.val (.ref a0), .val (.int p1), .val (.double (FP.l2d sv)), .second, .val (.int (1 : Int32)), .val (.int (4 : Int32))] [(.double (FP.l2d (F1 4)))]))
          refine OwnGo.of (A := Tj.setTop (mkF m 41 #[.val (.ref a0), .val (.int p1), .val (.double (FP.l2d sv)), .second, .val (.int (1 : Int32)), .val (.int (4 : Int32))] [(.double (FP.l2d (F1 4)))])) (B := Tj.setTop (mkF m 43 #[.val (.ref a0), .val (.int p1), .val (.double (FP.l2d sv)), .second, .val (.int (1 : Int32)), .val (.int (4 : Int32))] [(.int (cmpValue (FP.dcmp (FP.l2d (F1 4)) (FP.l2d sv)) .l))])) (fun t k => ?_) ?_
          · show Steps p.tables e below (Tj.setTop (mkF m 41 #[.val (.ref a0), .val (.int p1), .val (.double (FP.l2d sv)), .second, .val (.int (1 : Int32)), .val (.int (4 : Int32))] [(.double (FP.l2d (F1 4)))])) t
            refine XS.dloadN Xj.here hx rfl (hb hby d3_41) rfl ?_
            refine XS.dcmpS Xj.here hx rfl (hb hby d3_42) rfl rfl ?_
            exact k
          by_cases hc124 : (cmpValue (FP.dcmp (FP.l2d (F1 4)) (FP.l2d sv)) .l) < (0 : Int32)
          · refine OwnGo.of (A := Tj.setTop (mkF m 43 #[.val (.ref a0), .val (.int p1), .val (.double (FP.l2d sv)), .second, .val (.int (1 : Int32)), .val (.int (4 : Int32))] [(.int (cmpValue (FP.dcmp (FP.l2d (F1 4)) (FP.l2d sv)) .l))])) (B := Tj.setTop (mkF m 55 #[.val (.ref a0), .val (.int p1), .val (.double (FP.l2d sv)), .second, .val (.int (1 : Int32)), .val (.int (4 : Int32))] [(.int (4 : Int32)), (.ref a0), (.int (1 : Int32)), (.ref a0)])) (fun t k => ?_) ?_
            · show Steps p.tables e below (Tj.setTop (mkF m 43 #[.val (.ref a0), .val (.int p1), .val (.double (FP.l2d sv)), .second, .val (.int (1 : Int32)), .val (.int (4 : Int32))] [(.int (cmpValue (FP.dcmp (FP.l2d (F1 4)) (FP.l2d sv)) .l))])) t
              refine XS.ifYes Xj.here hx rfl (pc0 := 43) (pc' := 49) rfl (hb hby d3_43) rfl ((if0 _ _).trans (tlt hc124).1) (by decide) (by decide) ?_
              refine XS.aloadN Xj.here hx rfl (hb hby d3_49) rfl rfl ?_
              refine XS.iload Xj.here hx rfl (hb hby d3_50) rfl ?_
              refine XS.aloadN Xj.here hx rfl (hb hby d3_52) rfl rfl ?_
              refine XS.iload Xj.here hx rfl (hb hby d3_53) rfl ?_
              exact k
            have cq125 := Vj
            obtain ⟨clq125, Arq125, qq125, Sq125, Nq125, Hq125, Gq125⟩ := cq125
            have hinq125 := inb_of (j := (4 : Int32)) Sq125 ⟨by decide, by decide⟩
            refine OwnGo.of (Xj.daload hx (j := (4 : Int32)) (v := (.double (FP.l2d (F1 4)))) (by rw [ej]; exact Arq125.1) (State.isArrayOf_alike hZ.alike Arq125.2.1) Arq125.2.2 hinq125 (Hq125.at hinq125 rfl) (g := (mkF m 55 #[.val (.ref a0), .val (.int p1), .val (.double (FP.l2d sv)), .second, .val (.int (1 : Int32)), .val (.int (4 : Int32))] [(.int (4 : Int32)), (.ref a0), (.int (1 : Int32)), (.ref a0)])) rfl rfl (hb hby d3_55)) ?_
            show OwnGo p.tables e below _ (Tj.setTop (mkF m 56 #[.val (.ref a0), .val (.int p1), .val (.double (FP.l2d sv)), .second, .val (.int (1 : Int32)), .val (.int (4 : Int32))] [(.double (FP.l2d (F1 4))), (.int (1 : Int32)), (.ref a0)]))
            have cq126 := Vj
            obtain ⟨clq126, Arq126, qq126, Sq126, Nq126, Hq126, Gq126⟩ := cq126
            obtain ⟨T127, h127, X127, e127, W127, st127⟩ := stD Xj hx hZ ej Arq126 (j := (1 : Int32)) (inb_of Sq126 ⟨by decide, by decide⟩) (g := (mkF m 56 #[.val (.ref a0), .val (.int p1), .val (.double (FP.l2d sv)), .second, .val (.int (1 : Int32)), .val (.int (4 : Int32))] [(.double (FP.l2d (F1 4))), (.int (1 : Int32)), (.ref a0)])) rfl rfl (hb hby d3_56)
            refine OwnGo.of st127 ?_
            have N127 := Fr.snoc X127 Nj g_a0
            have f128 : Keep h0 h127 [a0] := Kj.wr W127 (Or.inl (List.mem_of_getElem? (i := 0) rfl))
            have f129 : n0 ≤ h127.size := Nat.le_trans Zj (Keep.of_wr W127).1
            have f130 : Arv Z h127 a0 ka .double (10 : Int32) [(.double (FP.l2d (F1 0))), (.double (FP.l2d (F1 4))), (.double (FP.l2d (F1 2))), (.double (FP.l2d (F1 3))), (.double (FP.l2d (F1 4))), (.double (FP.l2d (F1 5))), (.double (FP.l2d (F1 6))), (.double (FP.l2d (F1 7))), (.double (FP.l2d (F1 8))), (.double (FP.l2d (F1 9)))] (.double (0 : UInt64)) := Arv.set Arq126 qq126 Sq126 Nq126 Hq126 Gq126 rfl W127 1 rfl (Nat.le_of_ble_eq_true rfl)
            have f131 : Arv Z h127 a0 ka .double (10 : Int32) (own_l10 ((own_upd F1 1 (F1 4)))) (.double (0 : UInt64)) := f130
            show OwnGo p.tables e below _ (T127.setTop (mkF m 57 #[.val (.ref a0), .val (.int p1), .val (.double (FP.l2d sv)), .second, .val (.int (1 : Int32)), .val (.int (4 : Int32))] []))
            refine OwnGo.of (A := T127.setTop (mkF m 57 #[.val (.ref a0), .val (.int p1), .val (.double (FP.l2d sv)), .second, .val (.int (1 : Int32)), .val (.int (4 : Int32))] [])) (B := T127.setTop (mkF m 6 #[.val (.ref a0), .val (.int p1), .val (.double (FP.l2d sv)), .second, .val (.int (4 : Int32)), .val (.int (9 : Int32))] [])) (fun t k => ?_) ?_
            · show Steps p.tables e below (T127.setTop (mkF m 57 #[.val (.ref a0), .val (.int p1), .val (.double (FP.l2d sv)), .second, .val (.int (1 : Int32)), .val (.int (4 : Int32))] [])) t
              refine XS.iload X127.here hx rfl (hb hby d3_57) rfl ?_
              refine XS.istore X127.here hx rfl (hb hby d3_59) rfl (l' := #[.val (.ref a0), .val (.int p1), .val (.double (FP.l2d sv)), .second, .val (.int (4 : Int32)), .val (.int (4 : Int32))]) rfl ?_
              refine XS.iconst X127.here hx rfl (hb hby d3_61) ?_
              refine XS.iload X127.here hx rfl (hb hby d3_62) rfl ?_
              refine XS.imul X127.here hx rfl (hb hby d3_64) rfl ?_
              refine XS.iconst X127.here hx rfl (hb hby d3_65) ?_
              refine XS.iadd X127.here hx rfl (hb hby d3_66) rfl ?_
              refine XS.istore X127.here hx rfl (hb hby d3_67) rfl (l' := #[.val (.ref a0), .val (.int p1), .val (.double (FP.l2d sv)), .second, .val (.int (4 : Int32)), .val (.int (9 : Int32))]) rfl ?_
              refine XS.goto X127.here hx rfl (pc0 := 69) (pc' := 6) rfl (hb hby d3_69) (by decide) (by decide) ?_
              exact k
            rw [show own_sift 3 nn sv 1 F1 = own_sift 2 nn sv 4 (own_upd F1 1 (F1 4)) from by rw [own_sift, if_pos ((own_ltn hp (3 : Int32) 3 (by decide)).mp hc118), if_pos ((own_ltn hp (4 : Int32) 4 (by decide)).mp hc119), if_pos ((own_cl (hF _) (hF _) .g).mp hc122), if_pos ((own_cl (hF _) hsv .l).mp hc124)]]
            exact J6_4 T127 _ _ _ X127 e127 N127 f129 f128 f131 (own_updB hF (hF _))
          · refine OwnGo.of (A := Tj.setTop (mkF m 43 #[.val (.ref a0), .val (.int p1), .val (.double (FP.l2d sv)), .second, .val (.int (1 : Int32)), .val (.int (4 : Int32))] [(.int (cmpValue (FP.dcmp (FP.l2d (F1 4)) (FP.l2d sv)) .l))])) (B := Tj.setTop (mkF m 76 #[.val (.ref a0), .val (.int p1), .val (.double (FP.l2d sv)), .second, .val (.int (1 : Int32)), .val (.int (4 : Int32))] [(.double (FP.l2d sv)), (.int (1 : Int32)), (.ref a0)])) (fun t k => ?_) ?_
            · show Steps p.tables e below (Tj.setTop (mkF m 43 #[.val (.ref a0), .val (.int p1), .val (.double (FP.l2d sv)), .second, .val (.int (1 : Int32)), .val (.int (4 : Int32))] [(.int (cmpValue (FP.dcmp (FP.l2d (F1 4)) (FP.l2d sv)) .l))])) t
              refine XS.ifNo Xj.here hx rfl (hb hby d3_43) rfl ((if0 _ _).trans (flt hc124).1) ?_
              refine XS.goto Xj.here hx rfl (pc0 := 46) (pc' := 72) rfl (hb hby d3_46) (by decide) (by decide) ?_
              refine XS.aloadN Xj.here hx rfl (hb hby d3_72) rfl rfl ?_
              refine XS.iload Xj.here hx rfl (hb hby d3_73) rfl ?_
              refine XS.dloadN Xj.here hx rfl (hb hby d3_75) rfl ?_
              exact k
            have cq132 := Vj
            obtain ⟨clq132, Arq132, qq132, Sq132, Nq132, Hq132, Gq132⟩ := cq132
            obtain ⟨T133, h133, X133, e133, W133, st133⟩ := stD Xj hx hZ ej Arq132 (j := (1 : Int32)) (inb_of Sq132 ⟨by decide, by decide⟩) (g := (mkF m 76 #[.val (.ref a0), .val (.int p1), .val (.double (FP.l2d sv)), .second, .val (.int (1 : Int32)), .val (.int (4 : Int32))] [(.double (FP.l2d sv)), (.int (1 : Int32)), (.ref a0)])) rfl rfl (hb hby d3_76)
            refine OwnGo.of st133 ?_
            have N133 := Fr.snoc X133 Nj g_a0
            have f134 : Keep h0 h133 [a0] := Kj.wr W133 (Or.inl (List.mem_of_getElem? (i := 0) rfl))
            have f135 : n0 ≤ h133.size := Nat.le_trans Zj (Keep.of_wr W133).1
            have f136 : Arv Z h133 a0 ka .double (10 : Int32) [(.double (FP.l2d (F1 0))), (.double (FP.l2d sv)), (.double (FP.l2d (F1 2))), (.double (FP.l2d (F1 3))), (.double (FP.l2d (F1 4))), (.double (FP.l2d (F1 5))), (.double (FP.l2d (F1 6))), (.double (FP.l2d (F1 7))), (.double (FP.l2d (F1 8))), (.double (FP.l2d (F1 9)))] (.double (0 : UInt64)) := Arv.set Arq132 qq132 Sq132 Nq132 Hq132 Gq132 rfl W133 1 rfl (Nat.le_of_ble_eq_true rfl)
            have f137 : Arv Z h133 a0 ka .double (10 : Int32) (own_l10 ((own_upd F1 1 sv))) (.double (0 : UInt64)) := f136
            show OwnGo p.tables e below _ (T133.setTop (mkF m 77 #[.val (.ref a0), .val (.int p1), .val (.double (FP.l2d sv)), .second, .val (.int (1 : Int32)), .val (.int (4 : Int32))] []))
            obtain ⟨fs, hr, hrun, hended, hW, hsame⟩ := X133.leave (v := none) (fun _ => rfl) hlk
            refine ⟨_, _, ?_, hrun, hended, _, _, rfl, ?_, ⟨_, rfl⟩, hW, hsame.mono (by decide) (by decide)⟩
            · show Steps p.tables e below (T133.setTop (mkF m 77 #[.val (.ref a0), .val (.int p1), .val (.double (FP.l2d sv)), .second, .val (.int (1 : Int32)), .val (.int (4 : Int32))] [])) _
              exact X133.returnOut hx Bd.returns (hb hby d3_77) hr
            · show Qrmd Z a0 p1 sv F0 ka nn h0 n0 (own_sift 3 nn sv 1 F1) _ (T133.setFrames fs).heap _
              rw [show (T133.setFrames fs).heap = h133 from e133]
              refine ⟨rfl, N133, f134, ?_⟩
              rw [show own_sift 3 nn sv 1 F1 = own_upd F1 1 sv from by rw [own_sift, if_pos ((own_ltn hp (3 : Int32) 3 (by decide)).mp hc118), if_pos ((own_ltn hp (4 : Int32) 4 (by decide)).mp hc119), if_pos ((own_cl (hF _) (hF _) .g).mp hc122), if_neg (fun q => hc124 ((own_cl (hF _) hsv .l).mpr q))]]
              exact f137
        · refine OwnGo.of (A := Tj.setTop (mkF m 31 #[.val (.ref a0), .val (.int p1), .val (.double (FP.l2d sv)), .second, .val (.int (1 : Int32)), .val (.int (3 : Int32))] [(.int (cmpValue (FP.dcmp (FP.l2d (F1 4)) (FP.l2d (F1 3))) .g))])) (B := Tj.setTop (mkF m 40 #[.val (.ref a0), .val (.int p1), .val (.double (FP.l2d sv)), .second, .val (.int (1 : Int32)), .val (.int (3 : Int32))] [(.int (3 : Int32)), (.ref a0)])) (fun t k => ?_) ?_
          · show Steps p.tables e below (Tj.setTop (mkF m 31 #[.val (.ref a0), .val (.int p1), .val (.double (FP.l2d sv)), .second, .val (.int (1 : Int32)), .val (.int (3 : Int32))] [(.int (cmpValue (FP.dcmp (FP.l2d (F1 4)) (FP.l2d (F1 3))) .g))])) t
            refine XS.ifYes Xj.here hx rfl (pc0 := 31) (pc' := 37) rfl (hb hby d3_31) rfl ((if0 _ _).trans (flt hc122).2.1) (by decide) (by decide) ?_
            refine XS.aloadN Xj.here hx rfl (hb hby d3_37) rfl rfl ?_
            refine XS.iload Xj.here hx rfl (hb hby d3_38) rfl ?_
            exact k
          have cq139 := Vj
          obtain ⟨clq139, Arq139, qq139, Sq139, Nq139, Hq139, Gq139⟩ := cq139
          have hinq139 := inb_of (j := (3 : Int32)) Sq139 ⟨by decide, by decide⟩
          refine OwnGo.of (Xj.daload hx (j := (3 : Int32)) (v := (.double (FP.l2d (F1 3)))) (by rw [ej]; exact Arq139.1) (State.isArrayOf_alike hZ.alike Arq139.2.1) Arq139.2.2 hinq139 (Hq139.at hinq139 rfl) (g := (mkF m 40 #[.val (.ref a0), .val (.int p1), .val (.double (FP.l2d sv)), .second, .val (.int (1 : Int32)), .val (.int (3 : Int32))] [(.int (3 : Int32)), (.ref a0)])) rfl rfl (hb hby d3_40)) ?_
          show OwnGo p.tables e below _ (Tj.setTop (mkF m 41 #[.val (.ref a0), .val (.int p1), .val (.double (FP.l2d sv)), .second, .val (.int (1 : Int32)), .val (.int (3 : Int32))] [(.double (FP.l2d (F1 3)))]))
          refine OwnGo.of (A := Tj.setTop (mkF m 41 #[.val (.ref a0), .val (.int p1), .val (.double (FP.l2d sv)), .second, .val (.int (1 : Int32)), .val (.int (3 : Int32))] [(.double (FP.l2d (F1 3)))])) (B := Tj.setTop (mkF m 43 #[.val (.ref a0), .val (.int p1), .val (.double (FP.l2d sv)), .second, .val (.int (1 : Int32)), .val (.int (3 : Int32))] [(.int (cmpValue (FP.dcmp (FP.l2d (F1 3)) (FP.l2d sv)) .l))])) (fun t k => ?_) ?_
          · show Steps p.tables e below (Tj.setTop (mkF m 41 #[.val (.ref a0), .val (.int p1), .val (.double (FP.l2d sv)), .second, .val (.int (1 : Int32)), .val (.int (3 : Int32))] [(.double (FP.l2d (F1 3)))])) t
            refine XS.dloadN Xj.here hx rfl (hb hby d3_41) rfl ?_
            refine XS.dcmpS Xj.here hx rfl (hb hby d3_42) rfl rfl ?_
            exact k
          by_cases hc140 : (cmpValue (FP.dcmp (FP.l2d (F1 3)) (FP.l2d sv)) .l) < (0 : Int32)
          · refine OwnGo.of (A := Tj.setTop (mkF m 43 #[.val (.ref a0), .val (.int p1), .val (.double (FP.l2d sv)), .second, .val (.int (1 : Int32)), .val (.int (3 : Int32))] [(.int (cmpValue (FP.dcmp (FP.l2d (F1 3)) (FP.l2d sv)) .l))])) (B := Tj.setTop (mkF m 55 #[.val (.ref a0), .val (.int p1), .val (.double (FP.l2d sv)), .second, .val (.int (1 : Int32)), .val (.int (3 : Int32))] [(.int (3 : Int32)), (.ref a0), (.int (1 : Int32)), (.ref a0)])) (fun t k => ?_) ?_
            · show Steps p.tables e below (Tj.setTop (mkF m 43 #[.val (.ref a0), .val (.int p1), .val (.double (FP.l2d sv)), .second, .val (.int (1 : Int32)), .val (.int (3 : Int32))] [(.int (cmpValue (FP.dcmp (FP.l2d (F1 3)) (FP.l2d sv)) .l))])) t
              refine XS.ifYes Xj.here hx rfl (pc0 := 43) (pc' := 49) rfl (hb hby d3_43) rfl ((if0 _ _).trans (tlt hc140).1) (by decide) (by decide) ?_
              refine XS.aloadN Xj.here hx rfl (hb hby d3_49) rfl rfl ?_
              refine XS.iload Xj.here hx rfl (hb hby d3_50) rfl ?_
              refine XS.aloadN Xj.here hx rfl (hb hby d3_52) rfl rfl ?_
              refine XS.iload Xj.here hx rfl (hb hby d3_53) rfl ?_
              exact k
            have cq141 := Vj
            obtain ⟨clq141, Arq141, qq141, Sq141, Nq141, Hq141, Gq141⟩ := cq141
            have hinq141 := inb_of (j := (3 : Int32)) Sq141 ⟨by decide, by decide⟩
            refine OwnGo.of (Xj.daload hx (j := (3 : Int32)) (v := (.double (FP.l2d (F1 3)))) (by rw [ej]; exact Arq141.1) (State.isArrayOf_alike hZ.alike Arq141.2.1) Arq141.2.2 hinq141 (Hq141.at hinq141 rfl) (g := (mkF m 55 #[.val (.ref a0), .val (.int p1), .val (.double (FP.l2d sv)), .second, .val (.int (1 : Int32)), .val (.int (3 : Int32))] [(.int (3 : Int32)), (.ref a0), (.int (1 : Int32)), (.ref a0)])) rfl rfl (hb hby d3_55)) ?_
            show OwnGo p.tables e below _ (Tj.setTop (mkF m 56 #[.val (.ref a0), .val (.int p1), .val (.double (FP.l2d sv)), .second, .val (.int (1 : Int32)), .val (.int (3 : Int32))] [(.double (FP.l2d (F1 3))), (.int (1 : Int32)), (.ref a0)]))
            have cq142 := Vj
            obtain ⟨clq142, Arq142, qq142, Sq142, Nq142, Hq142, Gq142⟩ := cq142
            obtain ⟨T143, h143, X143, e143, W143, st143⟩ := stD Xj hx hZ ej Arq142 (j := (1 : Int32)) (inb_of Sq142 ⟨by decide, by decide⟩) (g := (mkF m 56 #[.val (.ref a0), .val (.int p1), .val (.double (FP.l2d sv)), .second, .val (.int (1 : Int32)), .val (.int (3 : Int32))] [(.double (FP.l2d (F1 3))), (.int (1 : Int32)), (.ref a0)])) rfl rfl (hb hby d3_56)
            refine OwnGo.of st143 ?_
            have N143 := Fr.snoc X143 Nj g_a0
            have f144 : Keep h0 h143 [a0] := Kj.wr W143 (Or.inl (List.mem_of_getElem? (i := 0) rfl))
            have f145 : n0 ≤ h143.size := Nat.le_trans Zj (Keep.of_wr W143).1
            have f146 : Arv Z h143 a0 ka .double (10 : Int32) [(.double (FP.l2d (F1 0))), (.double (FP.l2d (F1 3))), (.double (FP.l2d (F1 2))), (.double (FP.l2d (F1 3))), (.double (FP.l2d (F1 4))), (.double (FP.l2d (F1 5))), (.double (FP.l2d (F1 6))), (.double (FP.l2d (F1 7))), (.double (FP.l2d (F1 8))), (.double (FP.l2d (F1 9)))] (.double (0 : UInt64)) := Arv.set Arq142 qq142 Sq142 Nq142 Hq142 Gq142 rfl W143 1 rfl (Nat.le_of_ble_eq_true rfl)
            have f147 : Arv Z h143 a0 ka .double (10 : Int32) (own_l10 ((own_upd F1 1 (F1 3)))) (.double (0 : UInt64)) := f146
            show OwnGo p.tables e below _ (T143.setTop (mkF m 57 #[.val (.ref a0), .val (.int p1), .val (.double (FP.l2d sv)), .second, .val (.int (1 : Int32)), .val (.int (3 : Int32))] []))
            refine OwnGo.of (A := T143.setTop (mkF m 57 #[.val (.ref a0), .val (.int p1), .val (.double (FP.l2d sv)), .second, .val (.int (1 : Int32)), .val (.int (3 : Int32))] [])) (B := T143.setTop (mkF m 6 #[.val (.ref a0), .val (.int p1), .val (.double (FP.l2d sv)), .second, .val (.int (3 : Int32)), .val (.int (7 : Int32))] [])) (fun t k => ?_) ?_
            · show Steps p.tables e below (T143.setTop (mkF m 57 #[.val (.ref a0), .val (.int p1), .val (.double (FP.l2d sv)), .second, .val (.int (1 : Int32)), .val (.int (3 : Int32))] [])) t
              refine XS.iload X143.here hx rfl (hb hby d3_57) rfl ?_
              refine XS.istore X143.here hx rfl (hb hby d3_59) rfl (l' := #[.val (.ref a0), .val (.int p1), .val (.double (FP.l2d sv)), .second, .val (.int (3 : Int32)), .val (.int (3 : Int32))]) rfl ?_
              refine XS.iconst X143.here hx rfl (hb hby d3_61) ?_
              refine XS.iload X143.here hx rfl (hb hby d3_62) rfl ?_
              refine XS.imul X143.here hx rfl (hb hby d3_64) rfl ?_
              refine XS.iconst X143.here hx rfl (hb hby d3_65) ?_
              refine XS.iadd X143.here hx rfl (hb hby d3_66) rfl ?_
              refine XS.istore X143.here hx rfl (hb hby d3_67) rfl (l' := #[.val (.ref a0), .val (.int p1), .val (.double (FP.l2d sv)), .second, .val (.int (3 : Int32)), .val (.int (7 : Int32))]) rfl ?_
              refine XS.goto X143.here hx rfl (pc0 := 69) (pc' := 6) rfl (hb hby d3_69) (by decide) (by decide) ?_
              exact k
            rw [show own_sift 3 nn sv 1 F1 = own_sift 2 nn sv 3 (own_upd F1 1 (F1 3)) from by rw [own_sift, if_pos ((own_ltn hp (3 : Int32) 3 (by decide)).mp hc118), if_pos ((own_ltn hp (4 : Int32) 4 (by decide)).mp hc119), if_neg (fun q => hc122 ((own_cl (hF _) (hF _) .g).mpr q)), if_pos ((own_cl (hF _) hsv .l).mp hc140)]]
            exact J6_3 T143 _ _ _ X143 e143 N143 f145 f144 f147 (own_updB hF (hF _))
          · refine OwnGo.of (A := Tj.setTop (mkF m 43 #[.val (.ref a0), .val (.int p1), .val (.double (FP.l2d sv)), .second, .val (.int (1 : Int32)), .val (.int (3 : Int32))] [(.int (cmpValue (FP.dcmp (FP.l2d (F1 3)) (FP.l2d sv)) .l))])) (B := Tj.setTop (mkF m 76 #[.val (.ref a0), .val (.int p1), .val (.double (FP.l2d sv)), .second, .val (.int (1 : Int32)), .val (.int (3 : Int32))] [(.double (FP.l2d sv)), (.int (1 : Int32)), (.ref a0)])) (fun t k => ?_) ?_
            · show Steps p.tables e below (Tj.setTop (mkF m 43 #[.val (.ref a0), .val (.int p1), .val (.double (FP.l2d sv)), .second, .val (.int (1 : Int32)), .val (.int (3 : Int32))] [(.int (cmpValue (FP.dcmp (FP.l2d (F1 3)) (FP.l2d sv)) .l))])) t
              refine XS.ifNo Xj.here hx rfl (hb hby d3_43) rfl ((if0 _ _).trans (flt hc140).1) ?_
              refine XS.goto Xj.here hx rfl (pc0 := 46) (pc' := 72) rfl (hb hby d3_46) (by decide) (by decide) ?_
              refine XS.aloadN Xj.here hx rfl (hb hby d3_72) rfl rfl ?_
              refine XS.iload Xj.here hx rfl (hb hby d3_73) rfl ?_
              refine XS.dloadN Xj.here hx rfl (hb hby d3_75) rfl ?_
              exact k
            have cq148 := Vj
            obtain ⟨clq148, Arq148, qq148, Sq148, Nq148, Hq148, Gq148⟩ := cq148
            obtain ⟨T149, h149, X149, e149, W149, st149⟩ := stD Xj hx hZ ej Arq148 (j := (1 : Int32)) (inb_of Sq148 ⟨by decide, by decide⟩) (g := (mkF m 76 #[.val (.ref a0), .val (.int p1), .val (.double (FP.l2d sv)), .second, .val (.int (1 : Int32)), .val (.int (3 : Int32))] [(.double (FP.l2d sv)), (.int (1 : Int32)), (.ref a0)])) rfl rfl (hb hby d3_76)
            refine OwnGo.of st149 ?_
            have N149 := Fr.snoc X149 Nj g_a0
            have f150 : Keep h0 h149 [a0] := Kj.wr W149 (Or.inl (List.mem_of_getElem? (i := 0) rfl))
            have f151 : n0 ≤ h149.size := Nat.le_trans Zj (Keep.of_wr W149).1
            have f152 : Arv Z h149 a0 ka .double (10 : Int32) [(.double (FP.l2d (F1 0))), (.double (FP.l2d sv)), (.double (FP.l2d (F1 2))), (.double (FP.l2d (F1 3))), (.double (FP.l2d (F1 4))), (.double (FP.l2d (F1 5))), (.double (FP.l2d (F1 6))), (.double (FP.l2d (F1 7))), (.double (FP.l2d (F1 8))), (.double (FP.l2d (F1 9)))] (.double (0 : UInt64)) := Arv.set Arq148 qq148 Sq148 Nq148 Hq148 Gq148 rfl W149 1 rfl (Nat.le_of_ble_eq_true rfl)
            have f153 : Arv Z h149 a0 ka .double (10 : Int32) (own_l10 ((own_upd F1 1 sv))) (.double (0 : UInt64)) := f152
            show OwnGo p.tables e below _ (T149.setTop (mkF m 77 #[.val (.ref a0), .val (.int p1), .val (.double (FP.l2d sv)), .second, .val (.int (1 : Int32)), .val (.int (3 : Int32))] []))
            obtain ⟨fs, hr, hrun, hended, hW, hsame⟩ := X149.leave (v := none) (fun _ => rfl) hlk
            refine ⟨_, _, ?_, hrun, hended, _, _, rfl, ?_, ⟨_, rfl⟩, hW, hsame.mono (by decide) (by decide)⟩
            · show Steps p.tables e below (T149.setTop (mkF m 77 #[.val (.ref a0), .val (.int p1), .val (.double (FP.l2d sv)), .second, .val (.int (1 : Int32)), .val (.int (3 : Int32))] [])) _
              exact X149.returnOut hx Bd.returns (hb hby d3_77) hr
            · show Qrmd Z a0 p1 sv F0 ka nn h0 n0 (own_sift 3 nn sv 1 F1) _ (T149.setFrames fs).heap _
              rw [show (T149.setFrames fs).heap = h149 from e149]
              refine ⟨rfl, N149, f150, ?_⟩
              rw [show own_sift 3 nn sv 1 F1 = own_upd F1 1 sv from by rw [own_sift, if_pos ((own_ltn hp (3 : Int32) 3 (by decide)).mp hc118), if_pos ((own_ltn hp (4 : Int32) 4 (by decide)).mp hc119), if_neg (fun q => hc122 ((own_cl (hF _) (hF _) .g).mpr q)), if_neg (fun q => hc140 ((own_cl (hF _) hsv .l).mpr q))]]
              exact f153
      · refine OwnGo.of (A := Tj.setTop (mkF m 17 #[.val (.ref a0), .val (.int p1), .val (.double (FP.l2d sv)), .second, .val (.int (1 : Int32)), .val (.int (3 : Int32))] [(.int p1), (.int (4 : Int32))])) (B := Tj.setTop (mkF m 40 #[.val (.ref a0), .val (.int p1), .val (.double (FP.l2d sv)), .second, .val (.int (1 : Int32)), .val (.int (3 : Int32))] [(.int (3 : Int32)), (.ref a0)])) (fun t k => ?_) ?_
        · show Steps p.tables e below (Tj.setTop (mkF m 17 #[.val (.ref a0), .val (.int p1), .val (.double (FP.l2d sv)), .second, .val (.int (1 : Int32)), .val (.int (3 : Int32))] [(.int p1), (.int (4 : Int32))])) t
          refine XS.icmpYes Xj.here hx rfl (pc0 := 17) (pc' := 37) rfl (hb hby d3_17) rfl (flt hc119).2.1 (by decide) (by decide) ?_
          refine XS.aloadN Xj.here hx rfl (hb hby d3_37) rfl rfl ?_
          refine XS.iload Xj.here hx rfl (hb hby d3_38) rfl ?_
          exact k
        have cq155 := Vj
        obtain ⟨clq155, Arq155, qq155, Sq155, Nq155, Hq155, Gq155⟩ := cq155
        have hinq155 := inb_of (j := (3 : Int32)) Sq155 ⟨by decide, by decide⟩
        refine OwnGo.of (Xj.daload hx (j := (3 : Int32)) (v := (.double (FP.l2d (F1 3)))) (by rw [ej]; exact Arq155.1) (State.isArrayOf_alike hZ.alike Arq155.2.1) Arq155.2.2 hinq155 (Hq155.at hinq155 rfl) (g := (mkF m 40 #[.val (.ref a0), .val (.int p1), .val (.double (FP.l2d sv)), .second, .val (.int (1 : Int32)), .val (.int (3 : Int32))] [(.int (3 : Int32)), (.ref a0)])) rfl rfl (hb hby d3_40)) ?_
        show OwnGo p.tables e below _ (Tj.setTop (mkF m 41 #[.val (.ref a0), .val (.int p1), .val (.double (FP.l2d sv)), .second, .val (.int (1 : Int32)), .val (.int (3 : Int32))] [(.double (FP.l2d (F1 3)))]))
        refine OwnGo.of (A := Tj.setTop (mkF m 41 #[.val (.ref a0), .val (.int p1), .val (.double (FP.l2d sv)), .second, .val (.int (1 : Int32)), .val (.int (3 : Int32))] [(.double (FP.l2d (F1 3)))])) (B := Tj.setTop (mkF m 43 #[.val (.ref a0), .val (.int p1), .val (.double (FP.l2d sv)), .second, .val (.int (1 : Int32)), .val (.int (3 : Int32))] [(.int (cmpValue (FP.dcmp (FP.l2d (F1 3)) (FP.l2d sv)) .l))])) (fun t k => ?_) ?_
        · show Steps p.tables e below (Tj.setTop (mkF m 41 #[.val (.ref a0), .val (.int p1), .val (.double (FP.l2d sv)), .second, .val (.int (1 : Int32)), .val (.int (3 : Int32))] [(.double (FP.l2d (F1 3)))])) t
          refine XS.dloadN Xj.here hx rfl (hb hby d3_41) rfl ?_
          refine XS.dcmpS Xj.here hx rfl (hb hby d3_42) rfl rfl ?_
          exact k
        by_cases hc156 : (cmpValue (FP.dcmp (FP.l2d (F1 3)) (FP.l2d sv)) .l) < (0 : Int32)
        · refine OwnGo.of (A := Tj.setTop (mkF m 43 #[.val (.ref a0), .val (.int p1), .val (.double (FP.l2d sv)), .second, .val (.int (1 : Int32)), .val (.int (3 : Int32))] [(.int (cmpValue (FP.dcmp (FP.l2d (F1 3)) (FP.l2d sv)) .l))])) (B := Tj.setTop (mkF m 55 #[.val (.ref a0), .val (.int p1), .val (.double (FP.l2d sv)), .second, .val (.int (1 : Int32)), .val (.int (3 : Int32))] [(.int (3 : Int32)), (.ref a0), (.int (1 : Int32)), (.ref a0)])) (fun t k => ?_) ?_
          · show Steps p.tables e below (Tj.setTop (mkF m 43 #[.val (.ref a0), .val (.int p1), .val (.double (FP.l2d sv)), .second, .val (.int (1 : Int32)), .val (.int (3 : Int32))] [(.int (cmpValue (FP.dcmp (FP.l2d (F1 3)) (FP.l2d sv)) .l))])) t
            refine XS.ifYes Xj.here hx rfl (pc0 := 43) (pc' := 49) rfl (hb hby d3_43) rfl ((if0 _ _).trans (tlt hc156).1) (by decide) (by decide) ?_
            refine XS.aloadN Xj.here hx rfl (hb hby d3_49) rfl rfl ?_
            refine XS.iload Xj.here hx rfl (hb hby d3_50) rfl ?_
            refine XS.aloadN Xj.here hx rfl (hb hby d3_52) rfl rfl ?_
            refine XS.iload Xj.here hx rfl (hb hby d3_53) rfl ?_
            exact k
          have cq157 := Vj
          obtain ⟨clq157, Arq157, qq157, Sq157, Nq157, Hq157, Gq157⟩ := cq157
          have hinq157 := inb_of (j := (3 : Int32)) Sq157 ⟨by decide, by decide⟩
          refine OwnGo.of (Xj.daload hx (j := (3 : Int32)) (v := (.double (FP.l2d (F1 3)))) (by rw [ej]; exact Arq157.1) (State.isArrayOf_alike hZ.alike Arq157.2.1) Arq157.2.2 hinq157 (Hq157.at hinq157 rfl) (g := (mkF m 55 #[.val (.ref a0), .val (.int p1), .val (.double (FP.l2d sv)), .second, .val (.int (1 : Int32)), .val (.int (3 : Int32))] [(.int (3 : Int32)), (.ref a0), (.int (1 : Int32)), (.ref a0)])) rfl rfl (hb hby d3_55)) ?_
          show OwnGo p.tables e below _ (Tj.setTop (mkF m 56 #[.val (.ref a0), .val (.int p1), .val (.double (FP.l2d sv)), .second, .val (.int (1 : Int32)), .val (.int (3 : Int32))] [(.double (FP.l2d (F1 3))), (.int (1 : Int32)), (.ref a0)]))
          have cq158 := Vj
          obtain ⟨clq158, Arq158, qq158, Sq158, Nq158, Hq158, Gq158⟩ := cq158
          obtain ⟨T159, h159, X159, e159, W159, st159⟩ := stD Xj hx hZ ej Arq158 (j := (1 : Int32)) (inb_of Sq158 ⟨by decide, by decide⟩) (g := (mkF m 56 #[.val (.ref a0), .val (.int p1), .val (.double (FP.l2d sv)), .second, .val (.int (1 : Int32)), .val (.int (3 : Int32))] [(.double (FP.l2d (F1 3))), (.int (1 : Int32)), (.ref a0)])) rfl rfl (hb hby d3_56)
          refine OwnGo.of st159 ?_
          have N159 := Fr.snoc X159 Nj g_a0
          have f160 : Keep h0 h159 [a0] := Kj.wr W159 (Or.inl (List.mem_of_getElem? (i := 0) rfl))
          have f161 : n0 ≤ h159.size := Nat.le_trans Zj (Keep.of_wr W159).1
          have f162 : Arv Z h159 a0 ka .double (10 : Int32) [(.double (FP.l2d (F1 0))), (.double (FP.l2d (F1 3))), (.double (FP.l2d (F1 2))), (.double (FP.l2d (F1 3))), (.double (FP.l2d (F1 4))), (.double (FP.l2d (F1 5))), (.double (FP.l2d (F1 6))), (.double (FP.l2d (F1 7))), (.double (FP.l2d (F1 8))), (.double (FP.l2d (F1 9)))] (.double (0 : UInt64)) := Arv.set Arq158 qq158 Sq158 Nq158 Hq158 Gq158 rfl W159 1 rfl (Nat.le_of_ble_eq_true rfl)
          have f163 : Arv Z h159 a0 ka .double (10 : Int32) (own_l10 ((own_upd F1 1 (F1 3)))) (.double (0 : UInt64)) := f162
          show OwnGo p.tables e below _ (T159.setTop (mkF m 57 #[.val (.ref a0), .val (.int p1), .val (.double (FP.l2d sv)), .second, .val (.int (1 : Int32)), .val (.int (3 : Int32))] []))
          refine OwnGo.of (A := T159.setTop (mkF m 57 #[.val (.ref a0), .val (.int p1), .val (.double (FP.l2d sv)), .second, .val (.int (1 : Int32)), .val (.int (3 : Int32))] [])) (B := T159.setTop (mkF m 6 #[.val (.ref a0), .val (.int p1), .val (.double (FP.l2d sv)), .second, .val (.int (3 : Int32)), .val (.int (7 : Int32))] [])) (fun t k => ?_) ?_
          · show Steps p.tables e below (T159.setTop (mkF m 57 #[.val (.ref a0), .val (.int p1), .val (.double (FP.l2d sv)), .second, .val (.int (1 : Int32)), .val (.int (3 : Int32))] [])) t
            refine XS.iload X159.here hx rfl (hb hby d3_57) rfl ?_
            refine XS.istore X159.here hx rfl (hb hby d3_59) rfl (l' := #[.val (.ref a0), .val (.int p1), .val (.double (FP.l2d sv)), .second, .val (.int (3 : Int32)), .val (.int (3 : Int32))]) rfl ?_
            refine XS.iconst X159.here hx rfl (hb hby d3_61) ?_
            refine XS.iload X159.here hx rfl (hb hby d3_62) rfl ?_
            refine XS.imul X159.here hx rfl (hb hby d3_64) rfl ?_
            refine XS.iconst X159.here hx rfl (hb hby d3_65) ?_
            refine XS.iadd X159.here hx rfl (hb hby d3_66) rfl ?_
            refine XS.istore X159.here hx rfl (hb hby d3_67) rfl (l' := #[.val (.ref a0), .val (.int p1), .val (.double (FP.l2d sv)), .second, .val (.int (3 : Int32)), .val (.int (7 : Int32))]) rfl ?_
            refine XS.goto X159.here hx rfl (pc0 := 69) (pc' := 6) rfl (hb hby d3_69) (by decide) (by decide) ?_
            exact k
          rw [show own_sift 3 nn sv 1 F1 = own_sift 2 nn sv 3 (own_upd F1 1 (F1 3)) from by rw [own_sift, if_pos ((own_ltn hp (3 : Int32) 3 (by decide)).mp hc118), if_neg (fun q => hc119 ((own_ltn hp (4 : Int32) 4 (by decide)).mpr q)), if_pos ((own_cl (hF _) hsv .l).mp hc156)]]
          exact J6_3 T159 _ _ _ X159 e159 N159 f161 f160 f163 (own_updB hF (hF _))
        · refine OwnGo.of (A := Tj.setTop (mkF m 43 #[.val (.ref a0), .val (.int p1), .val (.double (FP.l2d sv)), .second, .val (.int (1 : Int32)), .val (.int (3 : Int32))] [(.int (cmpValue (FP.dcmp (FP.l2d (F1 3)) (FP.l2d sv)) .l))])) (B := Tj.setTop (mkF m 76 #[.val (.ref a0), .val (.int p1), .val (.double (FP.l2d sv)), .second, .val (.int (1 : Int32)), .val (.int (3 : Int32))] [(.double (FP.l2d sv)), (.int (1 : Int32)), (.ref a0)])) (fun t k => ?_) ?_
          · show Steps p.tables e below (Tj.setTop (mkF m 43 #[.val (.ref a0), .val (.int p1), .val (.double (FP.l2d sv)), .second, .val (.int (1 : Int32)), .val (.int (3 : Int32))] [(.int (cmpValue (FP.dcmp (FP.l2d (F1 3)) (FP.l2d sv)) .l))])) t
            refine XS.ifNo Xj.here hx rfl (hb hby d3_43) rfl ((if0 _ _).trans (flt hc156).1) ?_
            refine XS.goto Xj.here hx rfl (pc0 := 46) (pc' := 72) rfl (hb hby d3_46) (by decide) (by decide) ?_
            refine XS.aloadN Xj.here hx rfl (hb hby d3_72) rfl rfl ?_
            refine XS.iload Xj.here hx rfl (hb hby d3_73) rfl ?_
            refine XS.dloadN Xj.here hx rfl (hb hby d3_75) rfl ?_
            exact k
          have cq164 := Vj
          obtain ⟨clq164, Arq164, qq164, Sq164, Nq164, Hq164, Gq164⟩ := cq164
          obtain ⟨T165, h165, X165, e165, W165, st165⟩ := stD Xj hx hZ ej Arq164 (j := (1 : Int32)) (inb_of Sq164 ⟨by decide, by decide⟩) (g := (mkF m 76 #[.val (.ref a0), .val (.int p1), .val (.double (FP.l2d sv)), .second, .val (.int (1 : Int32)), .val (.int (3 : Int32))] [(.double (FP.l2d sv)), (.int (1 : Int32)), (.ref a0)])) rfl rfl (hb hby d3_76)
          refine OwnGo.of st165 ?_
          have N165 := Fr.snoc X165 Nj g_a0
          have f166 : Keep h0 h165 [a0] := Kj.wr W165 (Or.inl (List.mem_of_getElem? (i := 0) rfl))
          have f167 : n0 ≤ h165.size := Nat.le_trans Zj (Keep.of_wr W165).1
          have f168 : Arv Z h165 a0 ka .double (10 : Int32) [(.double (FP.l2d (F1 0))), (.double (FP.l2d sv)), (.double (FP.l2d (F1 2))), (.double (FP.l2d (F1 3))), (.double (FP.l2d (F1 4))), (.double (FP.l2d (F1 5))), (.double (FP.l2d (F1 6))), (.double (FP.l2d (F1 7))), (.double (FP.l2d (F1 8))), (.double (FP.l2d (F1 9)))] (.double (0 : UInt64)) := Arv.set Arq164 qq164 Sq164 Nq164 Hq164 Gq164 rfl W165 1 rfl (Nat.le_of_ble_eq_true rfl)
          have f169 : Arv Z h165 a0 ka .double (10 : Int32) (own_l10 ((own_upd F1 1 sv))) (.double (0 : UInt64)) := f168
          show OwnGo p.tables e below _ (T165.setTop (mkF m 77 #[.val (.ref a0), .val (.int p1), .val (.double (FP.l2d sv)), .second, .val (.int (1 : Int32)), .val (.int (3 : Int32))] []))
          obtain ⟨fs, hr, hrun, hended, hW, hsame⟩ := X165.leave (v := none) (fun _ => rfl) hlk
          refine ⟨_, _, ?_, hrun, hended, _, _, rfl, ?_, ⟨_, rfl⟩, hW, hsame.mono (by decide) (by decide)⟩
          · show Steps p.tables e below (T165.setTop (mkF m 77 #[.val (.ref a0), .val (.int p1), .val (.double (FP.l2d sv)), .second, .val (.int (1 : Int32)), .val (.int (3 : Int32))] [])) _
            exact X165.returnOut hx Bd.returns (hb hby d3_77) hr
          · show Qrmd Z a0 p1 sv F0 ka nn h0 n0 (own_sift 3 nn sv 1 F1) _ (T165.setFrames fs).heap _
            rw [show (T165.setFrames fs).heap = h165 from e165]
            refine ⟨rfl, N165, f166, ?_⟩
            rw [show own_sift 3 nn sv 1 F1 = own_upd F1 1 sv from by rw [own_sift, if_pos ((own_ltn hp (3 : Int32) 3 (by decide)).mp hc118), if_neg (fun q => hc119 ((own_ltn hp (4 : Int32) 4 (by decide)).mpr q)), if_neg (fun q => hc156 ((own_cl (hF _) hsv .l).mpr q))]]
            exact f169
    · refine OwnGo.of (A := Tj.setTop (mkF m 9 #[.val (.ref a0), .val (.int p1), .val (.double (FP.l2d sv)), .second, .val (.int (1 : Int32)), .val (.int (3 : Int32))] [(.int p1), (.int (3 : Int32))])) (B := Tj.setTop (mkF m 76 #[.val (.ref a0), .val (.int p1), .val (.double (FP.l2d sv)), .second, .val (.int (1 : Int32)), .val (.int (3 : Int32))] [(.double (FP.l2d sv)), (.int (1 : Int32)), (.ref a0)])) (fun t k => ?_) ?_
      · show Steps p.tables e below (Tj.setTop (mkF m 9 #[.val (.ref a0), .val (.int p1), .val (.double (FP.l2d sv)), .second, .val (.int (1 : Int32)), .val (.int (3 : Int32))] [(.int p1), (.int (3 : Int32))])) t
        refine XS.icmpYes Xj.here hx rfl (pc0 := 9) (pc' := 72) rfl (hb hby d3_9) rfl (flt hc118).2.1 (by decide) (by decide) ?_
        refine XS.aloadN Xj.here hx rfl (hb hby d3_72) rfl rfl ?_
        refine XS.iload Xj.here hx rfl (hb hby d3_73) rfl ?_
        refine XS.dloadN Xj.here hx rfl (hb hby d3_75) rfl ?_
        exact k
      have cq171 := Vj
      obtain ⟨clq171, Arq171, qq171, Sq171, Nq171, Hq171, Gq171⟩ := cq171
      obtain ⟨T172, h172, X172, e172, W172, st172⟩ := stD Xj hx hZ ej Arq171 (j := (1 : Int32)) (inb_of Sq171 ⟨by decide, by decide⟩) (g := (mkF m 76 #[.val (.ref a0), .val (.int p1), .val (.double (FP.l2d sv)), .second, .val (.int (1 : Int32)), .val (.int (3 : Int32))] [(.double (FP.l2d sv)), (.int (1 : Int32)), (.ref a0)])) rfl rfl (hb hby d3_76)
      refine OwnGo.of st172 ?_
      have N172 := Fr.snoc X172 Nj g_a0
      have f173 : Keep h0 h172 [a0] := Kj.wr W172 (Or.inl (List.mem_of_getElem? (i := 0) rfl))
      have f174 : n0 ≤ h172.size := Nat.le_trans Zj (Keep.of_wr W172).1
      have f175 : Arv Z h172 a0 ka .double (10 : Int32) [(.double (FP.l2d (F1 0))), (.double (FP.l2d sv)), (.double (FP.l2d (F1 2))), (.double (FP.l2d (F1 3))), (.double (FP.l2d (F1 4))), (.double (FP.l2d (F1 5))), (.double (FP.l2d (F1 6))), (.double (FP.l2d (F1 7))), (.double (FP.l2d (F1 8))), (.double (FP.l2d (F1 9)))] (.double (0 : UInt64)) := Arv.set Arq171 qq171 Sq171 Nq171 Hq171 Gq171 rfl W172 1 rfl (Nat.le_of_ble_eq_true rfl)
      have f176 : Arv Z h172 a0 ka .double (10 : Int32) (own_l10 ((own_upd F1 1 sv))) (.double (0 : UInt64)) := f175
      show OwnGo p.tables e below _ (T172.setTop (mkF m 77 #[.val (.ref a0), .val (.int p1), .val (.double (FP.l2d sv)), .second, .val (.int (1 : Int32)), .val (.int (3 : Int32))] []))
      obtain ⟨fs, hr, hrun, hended, hW, hsame⟩ := X172.leave (v := none) (fun _ => rfl) hlk
      refine ⟨_, _, ?_, hrun, hended, _, _, rfl, ?_, ⟨_, rfl⟩, hW, hsame.mono (by decide) (by decide)⟩
      · show Steps p.tables e below (T172.setTop (mkF m 77 #[.val (.ref a0), .val (.int p1), .val (.double (FP.l2d sv)), .second, .val (.int (1 : Int32)), .val (.int (3 : Int32))] [])) _
        exact X172.returnOut hx Bd.returns (hb hby d3_77) hr
      · show Qrmd Z a0 p1 sv F0 ka nn h0 n0 (own_sift 3 nn sv 1 F1) _ (T172.setFrames fs).heap _
        rw [show (T172.setFrames fs).heap = h172 from e172]
        refine ⟨rfl, N172, f173, ?_⟩
        rw [show own_sift 3 nn sv 1 F1 = own_upd F1 1 sv from by rw [own_sift, if_neg (fun q => hc118 ((own_ltn hp (3 : Int32) 3 (by decide)).mpr q))]]
        exact f176
  have J6_0 : ∀ (Tj : State) (Lo : List Loc) (hj : Heap) (F1 : Nat → Int64) (Xj : Stand p l e ({ frames := 0, cells := 0, slots := 0, locals := 0 } : Room) s m #[(.ref a0), (.int p1), (.double (FP.l2d sv))] below meth c Tj Lo 0 0) (ej : Tj.heap = hj) (Nj : Fr n0 Lo) (Zj : n0 ≤ hj.size) (Kj : Keep h0 hj [a0]) (Vj : Arv Z hj a0 ka .double (10 : Int32) (own_l10 (F1)) (.double (0 : UInt64))) (hF : ∀ j, B53 (F1 j)), OwnGo p.tables e below (fun o U' => ∃ v L, o = .returned v ∧ Qrmd Z a0 p1 sv F0 ka nn h0 n0 (own_sift 4 nn sv 0 F1) v U'.heap L ∧ FrameEnd s o U' L ({ frames := 0, cells := 0, slots := 0, locals := 0 } : Room).cells ({ frames := 0, cells := 0, slots := 0, locals := 0 } : Room).slots) (Tj.setTop (mkF m 6 #[.val (.ref a0), .val (.int p1), .val (.double (FP.l2d sv)), .second, .val (.int (0 : Int32)), .val (.int (1 : Int32))] [])) := by
    intro Tj Lo hj F1 Xj ej Nj Zj Kj Vj hF
    show OwnGo p.tables e below _ (Tj.setTop (mkF m 6 #[.val (.ref a0), .val (.int p1), .val (.double (FP.l2d sv)), .second, .val (.int (0 : Int32)), .val (.int (1 : Int32))] []))
    refine OwnGo.of (A := Tj.setTop (mkF m 6 #[.val (.ref a0), .val (.int p1), .val (.double (FP.l2d sv)), .second, .val (.int (0 : Int32)), .val (.int (1 : Int32))] [])) (B := Tj.setTop (mkF m 9 #[.val (.ref a0), .val (.int p1), .val (.double (FP.l2d sv)), .second, .val (.int (0 : Int32)), .val (.int (1 : Int32))] [(.int p1), (.int (1 : Int32))])) (fun t k => ?_) ?_
    · show Steps p.tables e below (Tj.setTop (mkF m 6 #[.val (.ref a0), .val (.int p1), .val (.double (FP.l2d sv)), .second, .val (.int (0 : Int32)), .val (.int (1 : Int32))] [])) t
      refine XS.iload Xj.here hx rfl (hb hby d3_6) rfl ?_
      refine XS.iloadN Xj.here hx rfl (hb hby d3_8) rfl ?_
      exact k
    by_cases hc178 : (1 : Int32) < p1
    · refine OwnGo.of (A := Tj.setTop (mkF m 9 #[.val (.ref a0), .val (.int p1), .val (.double (FP.l2d sv)), .second, .val (.int (0 : Int32)), .val (.int (1 : Int32))] [(.int p1), (.int (1 : Int32))])) (B := Tj.setTop (mkF m 17 #[.val (.ref a0), .val (.int p1), .val (.double (FP.l2d sv)), .second, .val (.int (0 : Int32)), .val (.int (1 : Int32))] [(.int p1), (.int (2 : Int32))])) (fun t k => ?_) ?_
      · show Steps p.tables e below (Tj.setTop (mkF m 9 #[.val (.ref a0), .val (.int p1), .val (.double (FP.l2d sv)), .second, .val (.int (0 : Int32)), .val (.int (1 : Int32))] [(.int p1), (.int (1 : Int32))])) t
        refine XS.icmpNo Xj.here hx rfl (hb hby d3_9) rfl (tlt hc178).2.1 ?_
        refine XS.iload Xj.here hx rfl (hb hby d3_12) rfl ?_
        refine XS.iconst Xj.here hx rfl (hb hby d3_14) ?_
        refine XS.iadd Xj.here hx rfl (hb hby d3_15) rfl ?_
        refine XS.iloadN Xj.here hx rfl (hb hby d3_16) rfl ?_
        exact k
      by_cases hc179 : (2 : Int32) < p1
      · refine OwnGo.of (A := Tj.setTop (mkF m 17 #[.val (.ref a0), .val (.int p1), .val (.double (FP.l2d sv)), .second, .val (.int (0 : Int32)), .val (.int (1 : Int32))] [(.int p1), (.int (2 : Int32))])) (B := Tj.setTop (mkF m 25 #[.val (.ref a0), .val (.int p1), .val (.double (FP.l2d sv)), .second, .val (.int (0 : Int32)), .val (.int (1 : Int32))] [(.int (2 : Int32)), (.ref a0)])) (fun t k => ?_) ?_
        · show Steps p.tables e below (Tj.setTop (mkF m 17 #[.val (.ref a0), .val (.int p1), .val (.double (FP.l2d sv)), .second, .val (.int (0 : Int32)), .val (.int (1 : Int32))] [(.int p1), (.int (2 : Int32))])) t
          refine XS.icmpNo Xj.here hx rfl (hb hby d3_17) rfl (tlt hc179).2.1 ?_
          refine XS.aloadN Xj.here hx rfl (hb hby d3_20) rfl rfl ?_
          refine XS.iload Xj.here hx rfl (hb hby d3_21) rfl ?_
          refine XS.iconst Xj.here hx rfl (hb hby d3_23) ?_
          refine XS.iadd Xj.here hx rfl (hb hby d3_24) rfl ?_
          exact k
        have cq180 := Vj
        obtain ⟨clq180, Arq180, qq180, Sq180, Nq180, Hq180, Gq180⟩ := cq180
        have hinq180 := inb_of (j := (2 : Int32)) Sq180 ⟨by decide, by decide⟩
        refine OwnGo.of (Xj.daload hx (j := (2 : Int32)) (v := (.double (FP.l2d (F1 2)))) (by rw [ej]; exact Arq180.1) (State.isArrayOf_alike hZ.alike Arq180.2.1) Arq180.2.2 hinq180 (Hq180.at hinq180 rfl) (g := (mkF m 25 #[.val (.ref a0), .val (.int p1), .val (.double (FP.l2d sv)), .second, .val (.int (0 : Int32)), .val (.int (1 : Int32))] [(.int (2 : Int32)), (.ref a0)])) rfl rfl (hb hby d3_25)) ?_
        show OwnGo p.tables e below _ (Tj.setTop (mkF m 26 #[.val (.ref a0), .val (.int p1), .val (.double (FP.l2d sv)), .second, .val (.int (0 : Int32)), .val (.int (1 : Int32))] [(.double (FP.l2d (F1 2)))]))
        refine OwnGo.of (A := Tj.setTop (mkF m 26 #[.val (.ref a0), .val (.int p1), .val (.double (FP.l2d sv)), .second, .val (.int (0 : Int32)), .val (.int (1 : Int32))] [(.double (FP.l2d (F1 2)))])) (B := Tj.setTop (mkF m 29 #[.val (.ref a0), .val (.int p1), .val (.double (FP.l2d sv)), .second, .val (.int (0 : Int32)), .val (.int (1 : Int32))] [(.int (1 : Int32)), (.ref a0), (.double (FP.l2d (F1 2)))])) (fun t k => ?_) ?_
        · show Steps p.tables e below (Tj.setTop (mkF m 26 #[.val (.ref a0), .val (.int p1), .val (.double (FP.l2d sv)), .second, .val (.int (0 : Int32)), .val (.int (1 : Int32))] [(.double (FP.l2d (F1 2)))])) t
          refine XS.aloadN Xj.here hx rfl (hb hby d3_26) rfl rfl ?_
          refine XS.iload Xj.here hx rfl (hb hby d3_27) rfl ?_
          exact k
        have cq181 := Vj
        obtain ⟨clq181, Arq181, qq181, Sq181, Nq181, Hq181, Gq181⟩ := cq181
        have hinq181 := inb_of (j := (1 : Int32)) Sq181 ⟨by decide, by decide⟩
        refine OwnGo.of (Xj.daload hx (j := (1 : Int32)) (v := (.double (FP.l2d (F1 1)))) (by rw [ej]; exact Arq181.1) (State.isArrayOf_alike hZ.alike Arq181.2.1) Arq181.2.2 hinq181 (Hq181.at hinq181 rfl) (g := (mkF m 29 #[.val (.ref a0), .val (.int p1), .val (.double (FP.l2d sv)), .second, .val (.int (0 : Int32)), .val (.int (1 : Int32))] [(.int (1 : Int32)), (.ref a0), (.double (FP.l2d (F1 2)))])) rfl rfl (hb hby d3_29)) ?_
        show OwnGo p.tables e below _ (Tj.setTop (mkF m 30 #[.val (.ref a0), .val (.int p1), .val (.double (FP.l2d sv)), .second, .val (.int (0 : Int32)), .val (.int (1 : Int32))] [(.double (FP.l2d (F1 1))), (.double (FP.l2d (F1 2)))]))
        refine OwnGo.of (A := Tj.setTop (mkF m 30 #[.val (.ref a0), .val (.int p1), .val (.double (FP.l2d sv)), .second, .val (.int (0 : Int32)), .val (.int (1 : Int32))] [(.double (FP.l2d (F1 1))), (.double (FP.l2d (F1 2)))])) (B := Tj.setTop (mkF m 31 #[.val (.ref a0), .val (.int p1), .val (.double (FP.l2d sv)), .second, .val (.int (0 : Int32)), .val (.int (1 : Int32))] [(.int (cmpValue (FP.dcmp (FP.l2d (F1 2)) (FP.l2d (F1 1))) .g))])) (fun t k => ?_) ?_
        · show Steps p.tables e below (Tj.setTop (mkF m 30 #[.val (.ref a0), .val (.int p1), .val (.double (FP.l2d sv)), .second, .val (.int (0 : Int32)), .val (.int (1 : Int32))] [(.double (FP.l2d (F1 1))), (.double (FP.l2d (F1 2)))])) t
          refine XS.dcmpS Xj.here hx rfl (hb hby d3_30) rfl rfl ?_
          exact k
        by_cases hc182 : (cmpValue (FP.dcmp (FP.l2d (F1 2)) (FP.l2d (F1 1))) .g) < (0 : Int32)
        · refine OwnGo.of (A := Tj.setTop (mkF m 31 #[.val (.ref a0), .val (.int p1), .val (.double (FP.l2d sv)), .second, .val (.int (0 : Int32)), .val (.int (1 : Int32))] [(.int (cmpValue (FP.dcmp (FP.l2d (F1 2)) (FP.l2d (F1 1))) .g))])) (B := Tj.setTop (mkF m 40 #[.val (.ref a0), .val (.int p1), .val (.double (FP.l2d sv)), .second, .val (.int (0 : Int32)), .val (.int (2 : Int32))] [(.int (2 : Int32)), (.ref a0)])) (fun t k => ?_) ?_
          · show Steps p.tables e below (Tj.setTop (mkF m 31 #[.val (.ref a0), .val (.int p1), .val (.double (FP.l2d sv)), .second, .val (.int (0 : Int32)), .val (.int (1 : Int32))] [(.int (cmpValue (FP.dcmp (FP.l2d (F1 2)) (FP.l2d (F1 1))) .g))])) t
            refine XS.ifNo Xj.here hx rfl (hb hby d3_31) rfl ((if0 _ _).trans (tlt hc182).2.1) ?_
            refine XS.iinc Xj.here hx rfl (hb hby d3_34) rfl (l' := #[.val (.ref a0), .val (.int p1), .val (.double (FP.l2d sv)), .second, .val (.int (0 : Int32)), .val (.int (2 : Int32))]) rfl ?_
            refine XS.aloadN Xj.here hx rfl (hb hby d3_37) rfl rfl ?_
            refine XS.iload Xj.here hx rfl (hb hby d3_38) rfl ?_
            exact k
          have cq183 := Vj
          obtain ⟨clq183, Arq183, qq183, Sq183, Nq183, Hq183, Gq183⟩ := cq183
          have hinq183 := inb_of (j := (2 : Int32)) Sq183 ⟨by decide, by decide⟩
          refine OwnGo.of (Xj.daload hx (j := (2 : Int32)) (v := (.double (FP.l2d (F1 2)))) (by rw [ej]; exact Arq183.1) (State.isArrayOf_alike hZ.alike Arq183.2.1) Arq183.2.2 hinq183 (Hq183.at hinq183 rfl) (g := (mkF m 40 #[.val (.ref a0), .val (.int p1), .val (.double (FP.l2d sv)), .second, .val (.int (0 : Int32)), .val (.int (2 : Int32))] [(.int (2 : Int32)), (.ref a0)])) rfl rfl (hb hby d3_40)) ?_
          show OwnGo p.tables e below _ (Tj.setTop (mkF m 41 #[.val (.ref a0), .val (.int p1), .val (.double (FP.l2d sv)), .second, .val (.int (0 : Int32)), .val (.int (2 : Int32))] [(.double (FP.l2d (F1 2)))]))
          refine OwnGo.of (A := Tj.setTop (mkF m 41 #[.val (.ref a0), .val (.int p1), .val (.double (FP.l2d sv)), .second, .val (.int (0 : Int32)), .val (.int (2 : Int32))] [(.double (FP.l2d (F1 2)))])) (B := Tj.setTop (mkF m 43 #[.val (.ref a0), .val (.int p1), .val (.double (FP.l2d sv)), .second, .val (.int (0 : Int32)), .val (.int (2 : Int32))] [(.int (cmpValue (FP.dcmp (FP.l2d (F1 2)) (FP.l2d sv)) .l))])) (fun t k => ?_) ?_
          · show Steps p.tables e below (Tj.setTop (mkF m 41 #[.val (.ref a0), .val (.int p1), .val (.double (FP.l2d sv)), .second, .val (.int (0 : Int32)), .val (.int (2 : Int32))] [(.double (FP.l2d (F1 2)))])) t
            refine XS.dloadN Xj.here hx rfl (hb hby d3_41) rfl ?_
            refine XS.dcmpS Xj.here hx rfl (hb hby d3_42) rfl rfl ?_
            exact k
          by_cases hc184 : (cmpValue (FP.dcmp (FP.l2d (F1 2)) (FP.l2d sv)) .l) < (0 : Int32)
          · refine OwnGo.of (A := Tj.setTop (mkF m 43 #[.val (.ref a0), .val (.int p1), .val (.double (FP.l2d sv)), .second, .val (.int (0 : Int32)), .val (.int (2 : Int32))] [(.int (cmpValue (FP.dcmp (FP.l2d (F1 2)) (FP.l2d sv)) .l))])) (B := Tj.setTop (mkF m 55 #[.val (.ref a0), .val (.int p1), .val (.double (FP.l2d sv)), .second, .val (.int (0 : Int32)), .val (.int (2 : Int32))] [(.int (2 : Int32)), (.ref a0), (.int (0 : Int32)), (.ref a0)])) (fun t k => ?_) ?_
            · show Steps p.tables e below (Tj.setTop (mkF m 43 #[.val (.ref a0), .val (.int p1), .val (.double (FP.l2d sv)), .second, .val (.int (0 : Int32)), .val (.int (2 : Int32))] [(.int (cmpValue (FP.dcmp (FP.l2d (F1 2)) (FP.l2d sv)) .l))])) t
              refine XS.ifYes Xj.here hx rfl (pc0 := 43) (pc' := 49) rfl (hb hby d3_43) rfl ((if0 _ _).trans (tlt hc184).1) (by decide) (by decide) ?_
              refine XS.aloadN Xj.here hx rfl (hb hby d3_49) rfl rfl ?_
              refine XS.iload Xj.here hx rfl (hb hby d3_50) rfl ?_
              refine XS.aloadN Xj.here hx rfl (hb hby d3_52) rfl rfl ?_
              refine XS.iload Xj.here hx rfl (hb hby d3_53) rfl ?_
              exact k
            have cq185 := Vj
            obtain ⟨clq185, Arq185, qq185, Sq185, Nq185, Hq185, Gq185⟩ := cq185
            have hinq185 := inb_of (j := (2 : Int32)) Sq185 ⟨by decide, by decide⟩
            refine OwnGo.of (Xj.daload hx (j := (2 : Int32)) (v := (.double (FP.l2d (F1 2)))) (by rw [ej]; exact Arq185.1) (State.isArrayOf_alike hZ.alike Arq185.2.1) Arq185.2.2 hinq185 (Hq185.at hinq185 rfl) (g := (mkF m 55 #[.val (.ref a0), .val (.int p1), .val (.double (FP.l2d sv)), .second, .val (.int (0 : Int32)), .val (.int (2 : Int32))] [(.int (2 : Int32)), (.ref a0), (.int (0 : Int32)), (.ref a0)])) rfl rfl (hb hby d3_55)) ?_
            show OwnGo p.tables e below _ (Tj.setTop (mkF m 56 #[.val (.ref a0), .val (.int p1), .val (.double (FP.l2d sv)), .second, .val (.int (0 : Int32)), .val (.int (2 : Int32))] [(.double (FP.l2d (F1 2))), (.int (0 : Int32)), (.ref a0)]))
            have cq186 := Vj
            obtain ⟨clq186, Arq186, qq186, Sq186, Nq186, Hq186, Gq186⟩ := cq186
            obtain ⟨T187, h187, X187, e187, W187, st187⟩ := stD Xj hx hZ ej Arq186 (j := (0 : Int32)) (inb_of Sq186 ⟨by decide, by decide⟩) (g := (mkF m 56 #[.val (.ref a0), .val (.int p1), .val (.double (FP.l2d sv)), .second, .val (.int (0 : Int32)), .val (.int (2 : Int32))] [(.double (FP.l2d (F1 2))), (.int (0 : Int32)), (.ref a0)])) rfl rfl (hb hby d3_56)
            refine OwnGo.of st187 ?_
            have N187 := Fr.snoc X187 Nj g_a0
            have f188 : Keep h0 h187 [a0] := Kj.wr W187 (Or.inl (List.mem_of_getElem? (i := 0) rfl))
            have f189 : n0 ≤ h187.size := Nat.le_trans Zj (Keep.of_wr W187).1
            have f190 : Arv Z h187 a0 ka .double (10 : Int32) [(.double (FP.l2d (F1 2))), (.double (FP.l2d (F1 1))), (.double (FP.l2d (F1 2))), (.double (FP.l2d (F1 3))), (.double (FP.l2d (F1 4))), (.double (FP.l2d (F1 5))), (.double (FP.l2d (F1 6))), (.double (FP.l2d (F1 7))), (.double (FP.l2d (F1 8))), (.double (FP.l2d (F1 9)))] (.double (0 : UInt64)) := Arv.set Arq186 qq186 Sq186 Nq186 Hq186 Gq186 rfl W187 0 rfl (Nat.le_of_ble_eq_true rfl)
            have f191 : Arv Z h187 a0 ka .double (10 : Int32) (own_l10 ((own_upd F1 0 (F1 2)))) (.double (0 : UInt64)) := f190
            show OwnGo p.tables e below _ (T187.setTop (mkF m 57 #[.val (.ref a0), .val (.int p1), .val (.double (FP.l2d sv)), .second, .val (.int (0 : Int32)), .val (.int (2 : Int32))] []))
            refine OwnGo.of (A := T187.setTop (mkF m 57 #[.val (.ref a0), .val (.int p1), .val (.double (FP.l2d sv)), .second, .val (.int (0 : Int32)), .val (.int (2 : Int32))] [])) (B := T187.setTop (mkF m 6 #[.val (.ref a0), .val (.int p1), .val (.double (FP.l2d sv)), .second, .val (.int (2 : Int32)), .val (.int (5 : Int32))] [])) (fun t k => ?_) ?_
            · show Steps p.tables e below (T187.setTop (mkF m 57 #[.val (.ref a0), .val (.int p1), .val (.double (FP.l2d sv)), .second, .val (.int (0 : Int32)), .val (.int (2 : Int32))] [])) t
              refine XS.iload X187.here hx rfl (hb hby d3_57) rfl ?_
              refine XS.istore X187.here hx rfl (hb hby d3_59) rfl (l' := #[.val (.ref a0), .val (.int p1), .val (.double (FP.l2d sv)), .second, .val (.int (2 : Int32)), .val (.int (2 : Int32))]) rfl ?_
              refine XS.iconst X187.here hx rfl (hb hby d3_61) ?_
              refine XS.iload X187.here hx rfl (hb hby d3_62) rfl ?_
              refine XS.imul X187.here hx rfl (hb hby d3_64) rfl ?_
              refine XS.iconst X187.here hx rfl (hb hby d3_65) ?_
              refine XS.iadd X187.here hx rfl (hb hby d3_66) rfl ?_
              refine XS.istore X187.here hx rfl (hb hby d3_67) rfl (l' := #[.val (.ref a0), .val (.int p1), .val (.double (FP.l2d sv)), .second, .val (.int (2 : Int32)), .val (.int (5 : Int32))]) rfl ?_
              refine XS.goto X187.here hx rfl (pc0 := 69) (pc' := 6) rfl (hb hby d3_69) (by decide) (by decide) ?_
              exact k
            rw [show own_sift 4 nn sv 0 F1 = own_sift 3 nn sv 2 (own_upd F1 0 (F1 2)) from by rw [own_sift, if_pos ((own_ltn hp (1 : Int32) 1 (by decide)).mp hc178), if_pos ((own_ltn hp (2 : Int32) 2 (by decide)).mp hc179), if_pos ((own_cl (hF _) (hF _) .g).mp hc182), if_pos ((own_cl (hF _) hsv .l).mp hc184)]]
            exact J6_2 T187 _ _ _ X187 e187 N187 f189 f188 f191 (own_updB hF (hF _))
          · refine OwnGo.of (A := Tj.setTop (mkF m 43 #[.val (.ref a0), .val (.int p1), .val (.double (FP.l2d sv)), .second, .val (.int (0 : Int32)), .val (.int (2 : Int32))] [(.int (cmpValue (FP.dcmp (FP.l2d (F1 2)) (FP.l2d sv)) .l))])) (B := Tj.setTop (mkF m 76 #[.val (.ref a0), .val (.int p1), .val (.double (FP.l2d sv)), .second, .val (.int (0 : Int32)), .val (.int (2 : Int32))] [(.double (FP.l2d sv)), (.int (0 : Int32)), (.ref a0)])) (fun t k => ?_) ?_
            · show Steps p.tables e below (Tj.setTop (mkF m 43 #[.val (.ref a0), .val (.int p1), .val (.double (FP.l2d sv)), .second, .val (.int (0 : Int32)), .val (.int (2 : Int32))] [(.int (cmpValue (FP.dcmp (FP.l2d (F1 2)) (FP.l2d sv)) .l))])) t
              refine XS.ifNo Xj.here hx rfl (hb hby d3_43) rfl ((if0 _ _).trans (flt hc184).1) ?_
              refine XS.goto Xj.here hx rfl (pc0 := 46) (pc' := 72) rfl (hb hby d3_46) (by decide) (by decide) ?_
              refine XS.aloadN Xj.here hx rfl (hb hby d3_72) rfl rfl ?_
              refine XS.iload Xj.here hx rfl (hb hby d3_73) rfl ?_
              refine XS.dloadN Xj.here hx rfl (hb hby d3_75) rfl ?_
              exact k
            have cq192 := Vj
            obtain ⟨clq192, Arq192, qq192, Sq192, Nq192, Hq192, Gq192⟩ := cq192
            obtain ⟨T193, h193, X193, e193, W193, st193⟩ := stD Xj hx hZ ej Arq192 (j := (0 : Int32)) (inb_of Sq192 ⟨by decide, by decide⟩) (g := (mkF m 76 #[.val (.ref a0), .val (.int p1), .val (.double (FP.l2d sv)), .second, .val (.int (0 : Int32)), .val (.int (2 : Int32))] [(.double (FP.l2d sv)), (.int (0 : Int32)), (.ref a0)])) rfl rfl (hb hby d3_76)
            refine OwnGo.of st193 ?_
            have N193 := Fr.snoc X193 Nj g_a0
            have f194 : Keep h0 h193 [a0] := Kj.wr W193 (Or.inl (List.mem_of_getElem? (i := 0) rfl))
            have f195 : n0 ≤ h193.size := Nat.le_trans Zj (Keep.of_wr W193).1
            have f196 : Arv Z h193 a0 ka .double (10 : Int32) [(.double (FP.l2d sv)), (.double (FP.l2d (F1 1))), (.double (FP.l2d (F1 2))), (.double (FP.l2d (F1 3))), (.double (FP.l2d (F1 4))), (.double (FP.l2d (F1 5))), (.double (FP.l2d (F1 6))), (.double (FP.l2d (F1 7))), (.double (FP.l2d (F1 8))), (.double (FP.l2d (F1 9)))] (.double (0 : UInt64)) := Arv.set Arq192 qq192 Sq192 Nq192 Hq192 Gq192 rfl W193 0 rfl (Nat.le_of_ble_eq_true rfl)
            have f197 : Arv Z h193 a0 ka .double (10 : Int32) (own_l10 ((own_upd F1 0 sv))) (.double (0 : UInt64)) := f196
            show OwnGo p.tables e below _ (T193.setTop (mkF m 77 #[.val (.ref a0), .val (.int p1), .val (.double (FP.l2d sv)), .second, .val (.int (0 : Int32)), .val (.int (2 : Int32))] []))
            obtain ⟨fs, hr, hrun, hended, hW, hsame⟩ := X193.leave (v := none) (fun _ => rfl) hlk
            refine ⟨_, _, ?_, hrun, hended, _, _, rfl, ?_, ⟨_, rfl⟩, hW, hsame.mono (by decide) (by decide)⟩
            · show Steps p.tables e below (T193.setTop (mkF m 77 #[.val (.ref a0), .val (.int p1), .val (.double (FP.l2d sv)), .second, .val (.int (0 : Int32)), .val (.int (2 : Int32))] [])) _
              exact X193.returnOut hx Bd.returns (hb hby d3_77) hr
            · show Qrmd Z a0 p1 sv F0 ka nn h0 n0 (own_sift 4 nn sv 0 F1) _ (T193.setFrames fs).heap _
              rw [show (T193.setFrames fs).heap = h193 from e193]
              refine ⟨rfl, N193, f194, ?_⟩
              rw [show own_sift 4 nn sv 0 F1 = own_upd F1 0 sv from by rw [own_sift, if_pos ((own_ltn hp (1 : Int32) 1 (by decide)).mp hc178), if_pos ((own_ltn hp (2 : Int32) 2 (by decide)).mp hc179), if_pos ((own_cl (hF _) (hF _) .g).mp hc182), if_neg (fun q => hc184 ((own_cl (hF _) hsv .l).mpr q))]]
              exact f197
        · refine OwnGo.of (A := Tj.setTop (mkF m 31 #[.val (.ref a0), .val (.int p1), .val (.double (FP.l2d sv)), .second, .val (.int (0 : Int32)), .val (.int (1 : Int32))] [(.int (cmpValue (FP.dcmp (FP.l2d (F1 2)) (FP.l2d (F1 1))) .g))])) (B := Tj.setTop (mkF m 40 #[.val (.ref a0), .val (.int p1), .val (.double (FP.l2d sv)), .second, .val (.int (0 : Int32)), .val (.int (1 : Int32))] [(.int (1 : Int32)), (.ref a0)])) (fun t k => ?_) ?_
          · show Steps p.tables e below (Tj.setTop (mkF m 31 #[.val (.ref a0), .val (.int p1), .val (.double (FP.l2d sv)), .second, .val (.int (0 : Int32)), .val (.int (1 : Int32))] [(.int (cmpValue (FP.dcmp (FP.l2d (F1 2)) (FP.l2d (F1 1))) .g))])) t
            refine XS.ifYes Xj.here hx rfl (pc0 := 31) (pc' := 37) rfl (hb hby d3_31) rfl ((if0 _ _).trans (flt hc182).2.1) (by decide) (by decide) ?_
            refine XS.aloadN Xj.here hx rfl (hb hby d3_37) rfl rfl ?_
            refine XS.iload Xj.here hx rfl (hb hby d3_38) rfl ?_
            exact k
          have cq199 := Vj
          obtain ⟨clq199, Arq199, qq199, Sq199, Nq199, Hq199, Gq199⟩ := cq199
          have hinq199 := inb_of (j := (1 : Int32)) Sq199 ⟨by decide, by decide⟩
          refine OwnGo.of (Xj.daload hx (j := (1 : Int32)) (v := (.double (FP.l2d (F1 1)))) (by rw [ej]; exact Arq199.1) (State.isArrayOf_alike hZ.alike Arq199.2.1) Arq199.2.2 hinq199 (Hq199.at hinq199 rfl) (g := (mkF m 40 #[.val (.ref a0), .val (.int p1), .val (.double (FP.l2d sv)), .second, .val (.int (0 : Int32)), .val (.int (1 : Int32))] [(.int (1 : Int32)), (.ref a0)])) rfl rfl (hb hby d3_40)) ?_
          show OwnGo p.tables e below _ (Tj.setTop (mkF m 41 #[.val (.ref a0), .val (.int p1), .val (.double (FP.l2d sv)), .second, .val (.int (0 : Int32)), .val (.int (1 : Int32))] [(.double (FP.l2d (F1 1)))]))
          refine OwnGo.of (A := Tj.setTop (mkF m 41 #[.val (.ref a0), .val (.int p1), .val (.double (FP.l2d sv)), .second, .val (.int (0 : Int32)), .val (.int (1 : Int32))] [(.double (FP.l2d (F1 1)))])) (B := Tj.setTop (mkF m 43 #[.val (.ref a0), .val (.int p1), .val (.double (FP.l2d sv)), .second, .val (.int (0 : Int32)), .val (.int (1 : Int32))] [(.int (cmpValue (FP.dcmp (FP.l2d (F1 1)) (FP.l2d sv)) .l))])) (fun t k => ?_) ?_
          · show Steps p.tables e below (Tj.setTop (mkF m 41 #[.val (.ref a0), .val (.int p1), .val (.double (FP.l2d sv)), .second, .val (.int (0 : Int32)), .val (.int (1 : Int32))] [(.double (FP.l2d (F1 1)))])) t
            refine XS.dloadN Xj.here hx rfl (hb hby d3_41) rfl ?_
            refine XS.dcmpS Xj.here hx rfl (hb hby d3_42) rfl rfl ?_
            exact k
          by_cases hc200 : (cmpValue (FP.dcmp (FP.l2d (F1 1)) (FP.l2d sv)) .l) < (0 : Int32)
          · refine OwnGo.of (A := Tj.setTop (mkF m 43 #[.val (.ref a0), .val (.int p1), .val (.double (FP.l2d sv)), .second, .val (.int (0 : Int32)), .val (.int (1 : Int32))] [(.int (cmpValue (FP.dcmp (FP.l2d (F1 1)) (FP.l2d sv)) .l))])) (B := Tj.setTop (mkF m 55 #[.val (.ref a0), .val (.int p1), .val (.double (FP.l2d sv)), .second, .val (.int (0 : Int32)), .val (.int (1 : Int32))] [(.int (1 : Int32)), (.ref a0), (.int (0 : Int32)), (.ref a0)])) (fun t k => ?_) ?_
            · show Steps p.tables e below (Tj.setTop (mkF m 43 #[.val (.ref a0), .val (.int p1), .val (.double (FP.l2d sv)), .second, .val (.int (0 : Int32)), .val (.int (1 : Int32))] [(.int (cmpValue (FP.dcmp (FP.l2d (F1 1)) (FP.l2d sv)) .l))])) t
              refine XS.ifYes Xj.here hx rfl (pc0 := 43) (pc' := 49) rfl (hb hby d3_43) rfl ((if0 _ _).trans (tlt hc200).1) (by decide) (by decide) ?_
              refine XS.aloadN Xj.here hx rfl (hb hby d3_49) rfl rfl ?_
              refine XS.iload Xj.here hx rfl (hb hby d3_50) rfl ?_
              refine XS.aloadN Xj.here hx rfl (hb hby d3_52) rfl rfl ?_
              refine XS.iload Xj.here hx rfl (hb hby d3_53) rfl ?_
              exact k
            have cq201 := Vj
            obtain ⟨clq201, Arq201, qq201, Sq201, Nq201, Hq201, Gq201⟩ := cq201
            have hinq201 := inb_of (j := (1 : Int32)) Sq201 ⟨by decide, by decide⟩
            refine OwnGo.of (Xj.daload hx (j := (1 : Int32)) (v := (.double (FP.l2d (F1 1)))) (by rw [ej]; exact Arq201.1) (State.isArrayOf_alike hZ.alike Arq201.2.1) Arq201.2.2 hinq201 (Hq201.at hinq201 rfl) (g := (mkF m 55 #[.val (.ref a0), .val (.int p1), .val (.double (FP.l2d sv)), .second, .val (.int (0 : Int32)), .val (.int (1 : Int32))] [(.int (1 : Int32)), (.ref a0), (.int (0 : Int32)), (.ref a0)])) rfl rfl (hb hby d3_55)) ?_
            show OwnGo p.tables e below _ (Tj.setTop (mkF m 56 #[.val (.ref a0), .val (.int p1), .val (.double (FP.l2d sv)), .second, .val (.int (0 : Int32)), .val (.int (1 : Int32))] [(.double (FP.l2d (F1 1))), (.int (0 : Int32)), (.ref a0)]))
            have cq202 := Vj
            obtain ⟨clq202, Arq202, qq202, Sq202, Nq202, Hq202, Gq202⟩ := cq202
            obtain ⟨T203, h203, X203, e203, W203, st203⟩ := stD Xj hx hZ ej Arq202 (j := (0 : Int32)) (inb_of Sq202 ⟨by decide, by decide⟩) (g := (mkF m 56 #[.val (.ref a0), .val (.int p1), .val (.double (FP.l2d sv)), .second, .val (.int (0 : Int32)), .val (.int (1 : Int32))] [(.double (FP.l2d (F1 1))), (.int (0 : Int32)), (.ref a0)])) rfl rfl (hb hby d3_56)
            refine OwnGo.of st203 ?_
            have N203 := Fr.snoc X203 Nj g_a0
            have f204 : Keep h0 h203 [a0] := Kj.wr W203 (Or.inl (List.mem_of_getElem? (i := 0) rfl))
            have f205 : n0 ≤ h203.size := Nat.le_trans Zj (Keep.of_wr W203).1
            have f206 : Arv Z h203 a0 ka .double (10 : Int32) [(.double (FP.l2d (F1 1))), (.double (FP.l2d (F1 1))), (.double (FP.l2d (F1 2))), (.double (FP.l2d (F1 3))), (.double (FP.l2d (F1 4))), (.double (FP.l2d (F1 5))), (.double (FP.l2d (F1 6))), (.double (FP.l2d (F1 7))), (.double (FP.l2d (F1 8))), (.double (FP.l2d (F1 9)))] (.double (0 : UInt64)) := Arv.set Arq202 qq202 Sq202 Nq202 Hq202 Gq202 rfl W203 0 rfl (Nat.le_of_ble_eq_true rfl)
            have f207 : Arv Z h203 a0 ka .double (10 : Int32) (own_l10 ((own_upd F1 0 (F1 1)))) (.double (0 : UInt64)) := f206
            show OwnGo p.tables e below _ (T203.setTop (mkF m 57 #[.val (.ref a0), .val (.int p1), .val (.double (FP.l2d sv)), .second, .val (.int (0 : Int32)), .val (.int (1 : Int32))] []))
            refine OwnGo.of (A := T203.setTop (mkF m 57 #[.val (.ref a0), .val (.int p1), .val (.double (FP.l2d sv)), .second, .val (.int (0 : Int32)), .val (.int (1 : Int32))] [])) (B := T203.setTop (mkF m 6 #[.val (.ref a0), .val (.int p1), .val (.double (FP.l2d sv)), .second, .val (.int (1 : Int32)), .val (.int (3 : Int32))] [])) (fun t k => ?_) ?_
            · show Steps p.tables e below (T203.setTop (mkF m 57 #[.val (.ref a0), .val (.int p1), .val (.double (FP.l2d sv)), .second, .val (.int (0 : Int32)), .val (.int (1 : Int32))] [])) t
              refine XS.iload X203.here hx rfl (hb hby d3_57) rfl ?_
              refine XS.istore X203.here hx rfl (hb hby d3_59) rfl (l' := #[.val (.ref a0), .val (.int p1), .val (.double (FP.l2d sv)), .second, .val (.int (1 : Int32)), .val (.int (1 : Int32))]) rfl ?_
              refine XS.iconst X203.here hx rfl (hb hby d3_61) ?_
              refine XS.iload X203.here hx rfl (hb hby d3_62) rfl ?_
              refine XS.imul X203.here hx rfl (hb hby d3_64) rfl ?_
              refine XS.iconst X203.here hx rfl (hb hby d3_65) ?_
              refine XS.iadd X203.here hx rfl (hb hby d3_66) rfl ?_
              refine XS.istore X203.here hx rfl (hb hby d3_67) rfl (l' := #[.val (.ref a0), .val (.int p1), .val (.double (FP.l2d sv)), .second, .val (.int (1 : Int32)), .val (.int (3 : Int32))]) rfl ?_
              refine XS.goto X203.here hx rfl (pc0 := 69) (pc' := 6) rfl (hb hby d3_69) (by decide) (by decide) ?_
              exact k
            rw [show own_sift 4 nn sv 0 F1 = own_sift 3 nn sv 1 (own_upd F1 0 (F1 1)) from by rw [own_sift, if_pos ((own_ltn hp (1 : Int32) 1 (by decide)).mp hc178), if_pos ((own_ltn hp (2 : Int32) 2 (by decide)).mp hc179), if_neg (fun q => hc182 ((own_cl (hF _) (hF _) .g).mpr q)), if_pos ((own_cl (hF _) hsv .l).mp hc200)]]
            exact J6_1 T203 _ _ _ X203 e203 N203 f205 f204 f207 (own_updB hF (hF _))
          · refine OwnGo.of (A := Tj.setTop (mkF m 43 #[.val (.ref a0), .val (.int p1), .val (.double (FP.l2d sv)), .second, .val (.int (0 : Int32)), .val (.int (1 : Int32))] [(.int (cmpValue (FP.dcmp (FP.l2d (F1 1)) (FP.l2d sv)) .l))])) (B := Tj.setTop (mkF m 76 #[.val (.ref a0), .val (.int p1), .val (.double (FP.l2d sv)), .second, .val (.int (0 : Int32)), .val (.int (1 : Int32))] [(.double (FP.l2d sv)), (.int (0 : Int32)), (.ref a0)])) (fun t k => ?_) ?_
            · show Steps p.tables e below (Tj.setTop (mkF m 43 #[.val (.ref a0), .val (.int p1), .val (.double (FP.l2d sv)), .second, .val (.int (0 : Int32)), .val (.int (1 : Int32))] [(.int (cmpValue (FP.dcmp (FP.l2d (F1 1)) (FP.l2d sv)) .l))])) t
              refine XS.ifNo Xj.here hx rfl (hb hby d3_43) rfl ((if0 _ _).trans (flt hc200).1) ?_
              refine XS.goto Xj.here hx rfl (pc0 := 46) (pc' := 72) rfl (hb hby d3_46) (by decide) (by decide) ?_
              refine XS.aloadN Xj.here hx rfl (hb hby d3_72) rfl rfl ?_
              refine XS.iload Xj.here hx rfl (hb hby d3_73) rfl ?_
              refine XS.dloadN Xj.here hx rfl (hb hby d3_75) rfl ?_
              exact k
            have cq208 := Vj
            obtain ⟨clq208, Arq208, qq208, Sq208, Nq208, Hq208, Gq208⟩ := cq208
            obtain ⟨T209, h209, X209, e209, W209, st209⟩ := stD Xj hx hZ ej Arq208 (j := (0 : Int32)) (inb_of Sq208 ⟨by decide, by decide⟩) (g := (mkF m 76 #[.val (.ref a0), .val (.int p1), .val (.double (FP.l2d sv)), .second, .val (.int (0 : Int32)), .val (.int (1 : Int32))] [(.double (FP.l2d sv)), (.int (0 : Int32)), (.ref a0)])) rfl rfl (hb hby d3_76)
            refine OwnGo.of st209 ?_
            have N209 := Fr.snoc X209 Nj g_a0
            have f210 : Keep h0 h209 [a0] := Kj.wr W209 (Or.inl (List.mem_of_getElem? (i := 0) rfl))
            have f211 : n0 ≤ h209.size := Nat.le_trans Zj (Keep.of_wr W209).1
            have f212 : Arv Z h209 a0 ka .double (10 : Int32) [(.double (FP.l2d sv)), (.double (FP.l2d (F1 1))), (.double (FP.l2d (F1 2))), (.double (FP.l2d (F1 3))), (.double (FP.l2d (F1 4))), (.double (FP.l2d (F1 5))), (.double (FP.l2d (F1 6))), (.double (FP.l2d (F1 7))), (.double (FP.l2d (F1 8))), (.double (FP.l2d (F1 9)))] (.double (0 : UInt64)) := Arv.set Arq208 qq208 Sq208 Nq208 Hq208 Gq208 rfl W209 0 rfl (Nat.le_of_ble_eq_true rfl)
            have f213 : Arv Z h209 a0 ka .double (10 : Int32) (own_l10 ((own_upd F1 0 sv))) (.double (0 : UInt64)) := f212
            show OwnGo p.tables e below _ (T209.setTop (mkF m 77 #[.val (.ref a0), .val (.int p1), .val (.double (FP.l2d sv)), .second, .val (.int (0 : Int32)), .val (.int (1 : Int32))] []))
            obtain ⟨fs, hr, hrun, hended, hW, hsame⟩ := X209.leave (v := none) (fun _ => rfl) hlk
            refine ⟨_, _, ?_, hrun, hended, _, _, rfl, ?_, ⟨_, rfl⟩, hW, hsame.mono (by decide) (by decide)⟩
            · show Steps p.tables e below (T209.setTop (mkF m 77 #[.val (.ref a0), .val (.int p1), .val (.double (FP.l2d sv)), .second, .val (.int (0 : Int32)), .val (.int (1 : Int32))] [])) _
              exact X209.returnOut hx Bd.returns (hb hby d3_77) hr
            · show Qrmd Z a0 p1 sv F0 ka nn h0 n0 (own_sift 4 nn sv 0 F1) _ (T209.setFrames fs).heap _
              rw [show (T209.setFrames fs).heap = h209 from e209]
              refine ⟨rfl, N209, f210, ?_⟩
              rw [show own_sift 4 nn sv 0 F1 = own_upd F1 0 sv from by rw [own_sift, if_pos ((own_ltn hp (1 : Int32) 1 (by decide)).mp hc178), if_pos ((own_ltn hp (2 : Int32) 2 (by decide)).mp hc179), if_neg (fun q => hc182 ((own_cl (hF _) (hF _) .g).mpr q)), if_neg (fun q => hc200 ((own_cl (hF _) hsv .l).mpr q))]]
              exact f213
      · refine OwnGo.of (A := Tj.setTop (mkF m 17 #[.val (.ref a0), .val (.int p1), .val (.double (FP.l2d sv)), .second, .val (.int (0 : Int32)), .val (.int (1 : Int32))] [(.int p1), (.int (2 : Int32))])) (B := Tj.setTop (mkF m 40 #[.val (.ref a0), .val (.int p1), .val (.double (FP.l2d sv)), .second, .val (.int (0 : Int32)), .val (.int (1 : Int32))] [(.int (1 : Int32)), (.ref a0)])) (fun t k => ?_) ?_
        · show Steps p.tables e below (Tj.setTop (mkF m 17 #[.val (.ref a0), .val (.int p1), .val (.double (FP.l2d sv)), .second, .val (.int (0 : Int32)), .val (.int (1 : Int32))] [(.int p1), (.int (2 : Int32))])) t
          refine XS.icmpYes Xj.here hx rfl (pc0 := 17) (pc' := 37) rfl (hb hby d3_17) rfl (flt hc179).2.1 (by decide) (by decide) ?_
          refine XS.aloadN Xj.here hx rfl (hb hby d3_37) rfl rfl ?_
          refine XS.iload Xj.here hx rfl (hb hby d3_38) rfl ?_
          exact k
        have cq215 := Vj
        obtain ⟨clq215, Arq215, qq215, Sq215, Nq215, Hq215, Gq215⟩ := cq215
        have hinq215 := inb_of (j := (1 : Int32)) Sq215 ⟨by decide, by decide⟩
        refine OwnGo.of (Xj.daload hx (j := (1 : Int32)) (v := (.double (FP.l2d (F1 1)))) (by rw [ej]; exact Arq215.1) (State.isArrayOf_alike hZ.alike Arq215.2.1) Arq215.2.2 hinq215 (Hq215.at hinq215 rfl) (g := (mkF m 40 #[.val (.ref a0), .val (.int p1), .val (.double (FP.l2d sv)), .second, .val (.int (0 : Int32)), .val (.int (1 : Int32))] [(.int (1 : Int32)), (.ref a0)])) rfl rfl (hb hby d3_40)) ?_
        show OwnGo p.tables e below _ (Tj.setTop (mkF m 41 #[.val (.ref a0), .val (.int p1), .val (.double (FP.l2d sv)), .second, .val (.int (0 : Int32)), .val (.int (1 : Int32))] [(.double (FP.l2d (F1 1)))]))
        refine OwnGo.of (A := Tj.setTop (mkF m 41 #[.val (.ref a0), .val (.int p1), .val (.double (FP.l2d sv)), .second, .val (.int (0 : Int32)), .val (.int (1 : Int32))] [(.double (FP.l2d (F1 1)))])) (B := Tj.setTop (mkF m 43 #[.val (.ref a0), .val (.int p1), .val (.double (FP.l2d sv)), .second, .val (.int (0 : Int32)), .val (.int (1 : Int32))] [(.int (cmpValue (FP.dcmp (FP.l2d (F1 1)) (FP.l2d sv)) .l))])) (fun t k => ?_) ?_
        · show Steps p.tables e below (Tj.setTop (mkF m 41 #[.val (.ref a0), .val (.int p1), .val (.double (FP.l2d sv)), .second, .val (.int (0 : Int32)), .val (.int (1 : Int32))] [(.double (FP.l2d (F1 1)))])) t
          refine XS.dloadN Xj.here hx rfl (hb hby d3_41) rfl ?_
          refine XS.dcmpS Xj.here hx rfl (hb hby d3_42) rfl rfl ?_
          exact k
        by_cases hc216 : (cmpValue (FP.dcmp (FP.l2d (F1 1)) (FP.l2d sv)) .l) < (0 : Int32)
        · refine OwnGo.of (A := Tj.setTop (mkF m 43 #[.val (.ref a0), .val (.int p1), .val (.double (FP.l2d sv)), .second, .val (.int (0 : Int32)), .val (.int (1 : Int32))] [(.int (cmpValue (FP.dcmp (FP.l2d (F1 1)) (FP.l2d sv)) .l))])) (B := Tj.setTop (mkF m 55 #[.val (.ref a0), .val (.int p1), .val (.double (FP.l2d sv)), .second, .val (.int (0 : Int32)), .val (.int (1 : Int32))] [(.int (1 : Int32)), (.ref a0), (.int (0 : Int32)), (.ref a0)])) (fun t k => ?_) ?_
          · show Steps p.tables e below (Tj.setTop (mkF m 43 #[.val (.ref a0), .val (.int p1), .val (.double (FP.l2d sv)), .second, .val (.int (0 : Int32)), .val (.int (1 : Int32))] [(.int (cmpValue (FP.dcmp (FP.l2d (F1 1)) (FP.l2d sv)) .l))])) t
            refine XS.ifYes Xj.here hx rfl (pc0 := 43) (pc' := 49) rfl (hb hby d3_43) rfl ((if0 _ _).trans (tlt hc216).1) (by decide) (by decide) ?_
            refine XS.aloadN Xj.here hx rfl (hb hby d3_49) rfl rfl ?_
            refine XS.iload Xj.here hx rfl (hb hby d3_50) rfl ?_
            refine XS.aloadN Xj.here hx rfl (hb hby d3_52) rfl rfl ?_
            refine XS.iload Xj.here hx rfl (hb hby d3_53) rfl ?_
            exact k
          have cq217 := Vj
          obtain ⟨clq217, Arq217, qq217, Sq217, Nq217, Hq217, Gq217⟩ := cq217
          have hinq217 := inb_of (j := (1 : Int32)) Sq217 ⟨by decide, by decide⟩
          refine OwnGo.of (Xj.daload hx (j := (1 : Int32)) (v := (.double (FP.l2d (F1 1)))) (by rw [ej]; exact Arq217.1) (State.isArrayOf_alike hZ.alike Arq217.2.1) Arq217.2.2 hinq217 (Hq217.at hinq217 rfl) (g := (mkF m 55 #[.val (.ref a0), .val (.int p1), .val (.double (FP.l2d sv)), .second, .val (.int (0 : Int32)), .val (.int (1 : Int32))] [(.int (1 : Int32)), (.ref a0), (.int (0 : Int32)), (.ref a0)])) rfl rfl (hb hby d3_55)) ?_
          show OwnGo p.tables e below _ (Tj.setTop (mkF m 56 #[.val (.ref a0), .val (.int p1), .val (.double (FP.l2d sv)), .second, .val (.int (0 : Int32)), .val (.int (1 : Int32))] [(.double (FP.l2d (F1 1))), (.int (0 : Int32)), (.ref a0)]))
          have cq218 := Vj
          obtain ⟨clq218, Arq218, qq218, Sq218, Nq218, Hq218, Gq218⟩ := cq218
          obtain ⟨T219, h219, X219, e219, W219, st219⟩ := stD Xj hx hZ ej Arq218 (j := (0 : Int32)) (inb_of Sq218 ⟨by decide, by decide⟩) (g := (mkF m 56 #[.val (.ref a0), .val (.int p1), .val (.double (FP.l2d sv)), .second, .val (.int (0 : Int32)), .val (.int (1 : Int32))] [(.double (FP.l2d (F1 1))), (.int (0 : Int32)), (.ref a0)])) rfl rfl (hb hby d3_56)
          refine OwnGo.of st219 ?_
          have N219 := Fr.snoc X219 Nj g_a0
          have f220 : Keep h0 h219 [a0] := Kj.wr W219 (Or.inl (List.mem_of_getElem? (i := 0) rfl))
          have f221 : n0 ≤ h219.size := Nat.le_trans Zj (Keep.of_wr W219).1
          have f222 : Arv Z h219 a0 ka .double (10 : Int32) [(.double (FP.l2d (F1 1))), (.double (FP.l2d (F1 1))), (.double (FP.l2d (F1 2))), (.double (FP.l2d (F1 3))), (.double (FP.l2d (F1 4))), (.double (FP.l2d (F1 5))), (.double (FP.l2d (F1 6))), (.double (FP.l2d (F1 7))), (.double (FP.l2d (F1 8))), (.double (FP.l2d (F1 9)))] (.double (0 : UInt64)) := Arv.set Arq218 qq218 Sq218 Nq218 Hq218 Gq218 rfl W219 0 rfl (Nat.le_of_ble_eq_true rfl)
          have f223 : Arv Z h219 a0 ka .double (10 : Int32) (own_l10 ((own_upd F1 0 (F1 1)))) (.double (0 : UInt64)) := f222
          show OwnGo p.tables e below _ (T219.setTop (mkF m 57 #[.val (.ref a0), .val (.int p1), .val (.double (FP.l2d sv)), .second, .val (.int (0 : Int32)), .val (.int (1 : Int32))] []))
          refine OwnGo.of (A := T219.setTop (mkF m 57 #[.val (.ref a0), .val (.int p1), .val (.double (FP.l2d sv)), .second, .val (.int (0 : Int32)), .val (.int (1 : Int32))] [])) (B := T219.setTop (mkF m 6 #[.val (.ref a0), .val (.int p1), .val (.double (FP.l2d sv)), .second, .val (.int (1 : Int32)), .val (.int (3 : Int32))] [])) (fun t k => ?_) ?_
          · show Steps p.tables e below (T219.setTop (mkF m 57 #[.val (.ref a0), .val (.int p1), .val (.double (FP.l2d sv)), .second, .val (.int (0 : Int32)), .val (.int (1 : Int32))] [])) t
            refine XS.iload X219.here hx rfl (hb hby d3_57) rfl ?_
            refine XS.istore X219.here hx rfl (hb hby d3_59) rfl (l' := #[.val (.ref a0), .val (.int p1), .val (.double (FP.l2d sv)), .second, .val (.int (1 : Int32)), .val (.int (1 : Int32))]) rfl ?_
            refine XS.iconst X219.here hx rfl (hb hby d3_61) ?_
            refine XS.iload X219.here hx rfl (hb hby d3_62) rfl ?_
            refine XS.imul X219.here hx rfl (hb hby d3_64) rfl ?_
            refine XS.iconst X219.here hx rfl (hb hby d3_65) ?_
            refine XS.iadd X219.here hx rfl (hb hby d3_66) rfl ?_
            refine XS.istore X219.here hx rfl (hb hby d3_67) rfl (l' := #[.val (.ref a0), .val (.int p1), .val (.double (FP.l2d sv)), .second, .val (.int (1 : Int32)), .val (.int (3 : Int32))]) rfl ?_
            refine XS.goto X219.here hx rfl (pc0 := 69) (pc' := 6) rfl (hb hby d3_69) (by decide) (by decide) ?_
            exact k
          rw [show own_sift 4 nn sv 0 F1 = own_sift 3 nn sv 1 (own_upd F1 0 (F1 1)) from by rw [own_sift, if_pos ((own_ltn hp (1 : Int32) 1 (by decide)).mp hc178), if_neg (fun q => hc179 ((own_ltn hp (2 : Int32) 2 (by decide)).mpr q)), if_pos ((own_cl (hF _) hsv .l).mp hc216)]]
          exact J6_1 T219 _ _ _ X219 e219 N219 f221 f220 f223 (own_updB hF (hF _))
        · refine OwnGo.of (A := Tj.setTop (mkF m 43 #[.val (.ref a0), .val (.int p1), .val (.double (FP.l2d sv)), .second, .val (.int (0 : Int32)), .val (.int (1 : Int32))] [(.int (cmpValue (FP.dcmp (FP.l2d (F1 1)) (FP.l2d sv)) .l))])) (B := Tj.setTop (mkF m 76 #[.val (.ref a0), .val (.int p1), .val (.double (FP.l2d sv)), .second, .val (.int (0 : Int32)), .val (.int (1 : Int32))] [(.double (FP.l2d sv)), (.int (0 : Int32)), (.ref a0)])) (fun t k => ?_) ?_
          · show Steps p.tables e below (Tj.setTop (mkF m 43 #[.val (.ref a0), .val (.int p1), .val (.double (FP.l2d sv)), .second, .val (.int (0 : Int32)), .val (.int (1 : Int32))] [(.int (cmpValue (FP.dcmp (FP.l2d (F1 1)) (FP.l2d sv)) .l))])) t
            refine XS.ifNo Xj.here hx rfl (hb hby d3_43) rfl ((if0 _ _).trans (flt hc216).1) ?_
            refine XS.goto Xj.here hx rfl (pc0 := 46) (pc' := 72) rfl (hb hby d3_46) (by decide) (by decide) ?_
            refine XS.aloadN Xj.here hx rfl (hb hby d3_72) rfl rfl ?_
            refine XS.iload Xj.here hx rfl (hb hby d3_73) rfl ?_
            refine XS.dloadN Xj.here hx rfl (hb hby d3_75) rfl ?_
            exact k
          have cq224 := Vj
          obtain ⟨clq224, Arq224, qq224, Sq224, Nq224, Hq224, Gq224⟩ := cq224
          obtain ⟨T225, h225, X225, e225, W225, st225⟩ := stD Xj hx hZ ej Arq224 (j := (0 : Int32)) (inb_of Sq224 ⟨by decide, by decide⟩) (g := (mkF m 76 #[.val (.ref a0), .val (.int p1), .val (.double (FP.l2d sv)), .second, .val (.int (0 : Int32)), .val (.int (1 : Int32))] [(.double (FP.l2d sv)), (.int (0 : Int32)), (.ref a0)])) rfl rfl (hb hby d3_76)
          refine OwnGo.of st225 ?_
          have N225 := Fr.snoc X225 Nj g_a0
          have f226 : Keep h0 h225 [a0] := Kj.wr W225 (Or.inl (List.mem_of_getElem? (i := 0) rfl))
          have f227 : n0 ≤ h225.size := Nat.le_trans Zj (Keep.of_wr W225).1
          have f228 : Arv Z h225 a0 ka .double (10 : Int32) [(.double (FP.l2d sv)), (.double (FP.l2d (F1 1))), (.double (FP.l2d (F1 2))), (.double (FP.l2d (F1 3))), (.double (FP.l2d (F1 4))), (.double (FP.l2d (F1 5))), (.double (FP.l2d (F1 6))), (.double (FP.l2d (F1 7))), (.double (FP.l2d (F1 8))), (.double (FP.l2d (F1 9)))] (.double (0 : UInt64)) := Arv.set Arq224 qq224 Sq224 Nq224 Hq224 Gq224 rfl W225 0 rfl (Nat.le_of_ble_eq_true rfl)
          have f229 : Arv Z h225 a0 ka .double (10 : Int32) (own_l10 ((own_upd F1 0 sv))) (.double (0 : UInt64)) := f228
          show OwnGo p.tables e below _ (T225.setTop (mkF m 77 #[.val (.ref a0), .val (.int p1), .val (.double (FP.l2d sv)), .second, .val (.int (0 : Int32)), .val (.int (1 : Int32))] []))
          obtain ⟨fs, hr, hrun, hended, hW, hsame⟩ := X225.leave (v := none) (fun _ => rfl) hlk
          refine ⟨_, _, ?_, hrun, hended, _, _, rfl, ?_, ⟨_, rfl⟩, hW, hsame.mono (by decide) (by decide)⟩
          · show Steps p.tables e below (T225.setTop (mkF m 77 #[.val (.ref a0), .val (.int p1), .val (.double (FP.l2d sv)), .second, .val (.int (0 : Int32)), .val (.int (1 : Int32))] [])) _
            exact X225.returnOut hx Bd.returns (hb hby d3_77) hr
          · show Qrmd Z a0 p1 sv F0 ka nn h0 n0 (own_sift 4 nn sv 0 F1) _ (T225.setFrames fs).heap _
            rw [show (T225.setFrames fs).heap = h225 from e225]
            refine ⟨rfl, N225, f226, ?_⟩
            rw [show own_sift 4 nn sv 0 F1 = own_upd F1 0 sv from by rw [own_sift, if_pos ((own_ltn hp (1 : Int32) 1 (by decide)).mp hc178), if_neg (fun q => hc179 ((own_ltn hp (2 : Int32) 2 (by decide)).mpr q)), if_neg (fun q => hc216 ((own_cl (hF _) hsv .l).mpr q))]]
            exact f229
    · refine OwnGo.of (A := Tj.setTop (mkF m 9 #[.val (.ref a0), .val (.int p1), .val (.double (FP.l2d sv)), .second, .val (.int (0 : Int32)), .val (.int (1 : Int32))] [(.int p1), (.int (1 : Int32))])) (B := Tj.setTop (mkF m 76 #[.val (.ref a0), .val (.int p1), .val (.double (FP.l2d sv)), .second, .val (.int (0 : Int32)), .val (.int (1 : Int32))] [(.double (FP.l2d sv)), (.int (0 : Int32)), (.ref a0)])) (fun t k => ?_) ?_
      · show Steps p.tables e below (Tj.setTop (mkF m 9 #[.val (.ref a0), .val (.int p1), .val (.double (FP.l2d sv)), .second, .val (.int (0 : Int32)), .val (.int (1 : Int32))] [(.int p1), (.int (1 : Int32))])) t
        refine XS.icmpYes Xj.here hx rfl (pc0 := 9) (pc' := 72) rfl (hb hby d3_9) rfl (flt hc178).2.1 (by decide) (by decide) ?_
        refine XS.aloadN Xj.here hx rfl (hb hby d3_72) rfl rfl ?_
        refine XS.iload Xj.here hx rfl (hb hby d3_73) rfl ?_
        refine XS.dloadN Xj.here hx rfl (hb hby d3_75) rfl ?_
        exact k
      have cq231 := Vj
      obtain ⟨clq231, Arq231, qq231, Sq231, Nq231, Hq231, Gq231⟩ := cq231
      obtain ⟨T232, h232, X232, e232, W232, st232⟩ := stD Xj hx hZ ej Arq231 (j := (0 : Int32)) (inb_of Sq231 ⟨by decide, by decide⟩) (g := (mkF m 76 #[.val (.ref a0), .val (.int p1), .val (.double (FP.l2d sv)), .second, .val (.int (0 : Int32)), .val (.int (1 : Int32))] [(.double (FP.l2d sv)), (.int (0 : Int32)), (.ref a0)])) rfl rfl (hb hby d3_76)
      refine OwnGo.of st232 ?_
      have N232 := Fr.snoc X232 Nj g_a0
      have f233 : Keep h0 h232 [a0] := Kj.wr W232 (Or.inl (List.mem_of_getElem? (i := 0) rfl))
      have f234 : n0 ≤ h232.size := Nat.le_trans Zj (Keep.of_wr W232).1
      have f235 : Arv Z h232 a0 ka .double (10 : Int32) [(.double (FP.l2d sv)), (.double (FP.l2d (F1 1))), (.double (FP.l2d (F1 2))), (.double (FP.l2d (F1 3))), (.double (FP.l2d (F1 4))), (.double (FP.l2d (F1 5))), (.double (FP.l2d (F1 6))), (.double (FP.l2d (F1 7))), (.double (FP.l2d (F1 8))), (.double (FP.l2d (F1 9)))] (.double (0 : UInt64)) := Arv.set Arq231 qq231 Sq231 Nq231 Hq231 Gq231 rfl W232 0 rfl (Nat.le_of_ble_eq_true rfl)
      have f236 : Arv Z h232 a0 ka .double (10 : Int32) (own_l10 ((own_upd F1 0 sv))) (.double (0 : UInt64)) := f235
      show OwnGo p.tables e below _ (T232.setTop (mkF m 77 #[.val (.ref a0), .val (.int p1), .val (.double (FP.l2d sv)), .second, .val (.int (0 : Int32)), .val (.int (1 : Int32))] []))
      obtain ⟨fs, hr, hrun, hended, hW, hsame⟩ := X232.leave (v := none) (fun _ => rfl) hlk
      refine ⟨_, _, ?_, hrun, hended, _, _, rfl, ?_, ⟨_, rfl⟩, hW, hsame.mono (by decide) (by decide)⟩
      · show Steps p.tables e below (T232.setTop (mkF m 77 #[.val (.ref a0), .val (.int p1), .val (.double (FP.l2d sv)), .second, .val (.int (0 : Int32)), .val (.int (1 : Int32))] [])) _
        exact X232.returnOut hx Bd.returns (hb hby d3_77) hr
      · show Qrmd Z a0 p1 sv F0 ka nn h0 n0 (own_sift 4 nn sv 0 F1) _ (T232.setFrames fs).heap _
        rw [show (T232.setFrames fs).heap = h232 from e232]
        refine ⟨rfl, N232, f233, ?_⟩
        rw [show own_sift 4 nn sv 0 F1 = own_upd F1 0 sv from by rw [own_sift, if_neg (fun q => hc178 ((own_ltn hp (1 : Int32) 1 (by decide)).mpr q))]]
        exact f236
  show OwnGo p.tables e below _ (s₁.setTop (mkF m 0 #[.val (.ref a0), .val (.int p1), .val (.double (FP.l2d sv)), .second, .unset, .unset] []))
  refine OwnGo.of (A := s₁.setTop (mkF m 0 #[.val (.ref a0), .val (.int p1), .val (.double (FP.l2d sv)), .second, .unset, .unset] [])) (B := s₁.setTop (mkF m 6 #[.val (.ref a0), .val (.int p1), .val (.double (FP.l2d sv)), .second, .val (.int (0 : Int32)), .val (.int (1 : Int32))] [])) (fun t k => ?_) ?_
  · show Steps p.tables e below (s₁.setTop (mkF m 0 #[.val (.ref a0), .val (.int p1), .val (.double (FP.l2d sv)), .second, .unset, .unset] [])) t
    refine XS.iconst X0.here hx rfl (hb hby d3_0) ?_
    refine XS.istore X0.here hx rfl (hb hby d3_1) rfl (l' := #[.val (.ref a0), .val (.int p1), .val (.double (FP.l2d sv)), .second, .val (.int (0 : Int32)), .unset]) rfl ?_
    refine XS.iconst X0.here hx rfl (hb hby d3_3) ?_
    refine XS.istore X0.here hx rfl (hb hby d3_4) rfl (l' := #[.val (.ref a0), .val (.int p1), .val (.double (FP.l2d sv)), .second, .val (.int (0 : Int32)), .val (.int (1 : Int32))]) rfl ?_
    exact k
  exact J6_0 s₁ _ _ _ X0 e0 N0 Z0 K0 V_a hF0
theorem d4_0 : decode method_5_code 0 = .ok (.iload_n 2, 1) := by decide +kernel
theorem d4_1 : decode method_5_code 1 = .ok (.iload_n 1, 1) := by decide +kernel
theorem d4_2 : decode method_5_code 2 = .ok (.if_icmp .ge 17, 3) := by decide +kernel
theorem d4_5 : decode method_5_code 5 = .ok (.aload_n 0, 1) := by decide +kernel
theorem d4_6 : decode method_5_code 6 = .ok (.iload_n 2, 1) := by decide +kernel
theorem d4_7 : decode method_5_code 7 = .ok (.iconst 1, 1) := by decide +kernel
theorem d4_8 : decode method_5_code 8 = .ok (.isub, 1) := by decide +kernel
theorem d4_9 : decode method_5_code 9 = .ok (.iconst 2, 1) := by decide +kernel
theorem d4_10 : decode method_5_code 10 = .ok (.idiv, 1) := by decide +kernel
theorem d4_11 : decode method_5_code 11 = .ok (.daload, 1) := by decide +kernel
theorem d4_12 : decode method_5_code 12 = .ok (.aload_n 0, 1) := by decide +kernel
theorem d4_13 : decode method_5_code 13 = .ok (.iload_n 2, 1) := by decide +kernel
theorem d4_14 : decode method_5_code 14 = .ok (.daload, 1) := by decide +kernel
theorem d4_15 : decode method_5_code 15 = .ok (.dcmp .g, 1) := by decide +kernel
theorem d4_16 : decode method_5_code 16 = .ok (.ifCond .gt 7, 3) := by decide +kernel
theorem d4_19 : decode method_5_code 19 = .ok (.iconst 1, 1) := by decide +kernel
theorem d4_20 : decode method_5_code 20 = .ok (.goto 4, 3) := by decide +kernel
theorem d4_24 : decode method_5_code 24 = .ok (.ireturn, 1) := by decide +kernel
theorem ef_rmo_1 (m : MethodId) (a0 : Addr) (p1 : Int32) : entryFrame m #[(.ref a0), (.int p1), (.int (1 : Int32))] 3 = mkF m 0 #[.val (.ref a0), .val (.int p1), .val (.int (1 : Int32))] [] := by first | (simp [entryFrame, mkF, argsToLocals, Value.category]; done) | rfl
def Qrmo_1 (Z : State) (a0 : Addr) (p1 : Int32) (G : Nat → Int64) (ka : ClassId) (h0 : Heap) (n0 : Nat) (v : Option Value) (h : Heap) (L : List Loc) : Prop := v = some (.int 1) ∧ Fr n0 L ∧ h = h0
set_option maxRecDepth 65536 in
set_option maxHeartbeats 40000000 in
theorem rmo_1 (l : Launch) (Z : State) (aw : Array Value) (hw : ∀ d ∈ tables_1, d.before aw Z = true) (ws : List Jvm.Cond) (a0 : Addr) (p1 : Int32) (G : Nat → Int64) (ka : ClassId) (h0 : Heap) (n0 : Nat) (Z0 : n0 ≤ h0.size) (V_a : Arv Z h0 a0 ka .double (10 : Int32) (own_l10 (G)) (.double (0 : UInt64))) (ho : (1 : Int32) < p1 → ¬ ((0 : Int32) < (cmpValue (FP.dcmp (FP.l2d (G 0)) (FP.l2d (G 1))) .g))) :
    MetFree l (⟨"com/example/rankwright/rankwright/rank/AccumulatorSiftDownPinLaw", "ordered", "([DII)Z"⟩ : MethodName) (head1 (Jvm.Cond.code (⟨"com/example/rankwright/rankwright/rank/AccumulatorSiftDownPinLaw", "ordered", "([DII)Z"⟩ : MethodName) method_5_code 3 (some .boolean) :: ws) ({ frames := 0, cells := 0, slots := 0, locals := 0 } : Room)) (fun a U => a = #[(.ref a0), (.int p1), (.int (1 : Int32))] ∧ Z.Warmed39 U.vm ∧ U.heap = h0) (fun _ _ _ _ _ => True) (fun _ U o U' => ∃ v L, o = .returned v ∧ Qrmo_1 Z a0 p1 G ka h0 n0 v U'.heap L ∧ FrameEnd U o U' L ({ frames := 0, cells := 0, slots := 0, locals := 0 } : Room).cells ({ frames := 0, cells := 0, slots := 0, locals := 0 } : Room).slots) := by
  refine MetFree.of_bodySF (plainFor_of_name pn_0) hisR ?_
  intro p e s m args below meth c s₁ Bd hml0 hP hK
  obtain ⟨rfl, hZ, hh⟩ := hP
  have hx := Bd.exec
  have hby := Bd.bytes
  have hml : c.maxLocals = 3 := hml0
  have hown : s.vm.findClass "com/example/rankwright/rankwright/rank/AccumulatorSiftDownPinLaw" = some m.cls := findClass_of_methodNamed Bd.named
  have hnm := (name_of_methodNamed Bd.named Bd.method).1
  have X0 : Stand p l e ({ frames := 0, cells := 0, slots := 0, locals := 0 } : Room) s m #[(.ref a0), (.int p1), (.int (1 : Int32))] below meth c s₁ [] 0 0 := Stand.of_body Bd
  have e0 : s₁.heap = h0 := by rw [← hh, Bd.state]; rfl
  have N0 := Fr.nil n0
  have hlk := Bd.notSynchronized
  show OwnGo p.tables e below _ (s₁.setTop (entryFrame m #[(.ref a0), (.int p1), (.int (1 : Int32))] 3))
  rw [ef_rmo_1 m a0 p1]
  show OwnGo p.tables e below _ (s₁.setTop (mkF m 0 #[.val (.ref a0), .val (.int p1), .val (.int (1 : Int32))] []))
  refine OwnGo.of (A := s₁.setTop (mkF m 0 #[.val (.ref a0), .val (.int p1), .val (.int (1 : Int32))] [])) (B := s₁.setTop (mkF m 2 #[.val (.ref a0), .val (.int p1), .val (.int (1 : Int32))] [(.int p1), (.int (1 : Int32))])) (fun t k => ?_) ?_
  · show Steps p.tables e below (s₁.setTop (mkF m 0 #[.val (.ref a0), .val (.int p1), .val (.int (1 : Int32))] [])) t
    refine XS.iloadN X0.here hx rfl (hb hby d4_0) rfl ?_
    refine XS.iloadN X0.here hx rfl (hb hby d4_1) rfl ?_
    exact k
  by_cases hc1 : (1 : Int32) < p1
  · refine OwnGo.of (A := s₁.setTop (mkF m 2 #[.val (.ref a0), .val (.int p1), .val (.int (1 : Int32))] [(.int p1), (.int (1 : Int32))])) (B := s₁.setTop (mkF m 11 #[.val (.ref a0), .val (.int p1), .val (.int (1 : Int32))] [(.int (0 : Int32)), (.ref a0)])) (fun t k => ?_) ?_
    · show Steps p.tables e below (s₁.setTop (mkF m 2 #[.val (.ref a0), .val (.int p1), .val (.int (1 : Int32))] [(.int p1), (.int (1 : Int32))])) t
      refine XS.icmpNo X0.here hx rfl (hb hby d4_2) rfl (tlt hc1).2.1 ?_
      refine XS.aloadN X0.here hx rfl (hb hby d4_5) rfl rfl ?_
      refine XS.iloadN X0.here hx rfl (hb hby d4_6) rfl ?_
      refine XS.iconst X0.here hx rfl (hb hby d4_7) ?_
      refine XS.isub X0.here hx rfl (hb hby d4_8) rfl ?_
      refine XS.iconst X0.here hx rfl (hb hby d4_9) ?_
      refine XS.idiv X0.here hx rfl (hb hby d4_10) rfl (by decide) ?_
      exact k
    have cq2 := V_a
    obtain ⟨clq2, Arq2, qq2, Sq2, Nq2, Hq2, Gq2⟩ := cq2
    have hinq2 := inb_of (j := (0 : Int32)) Sq2 ⟨by decide, by decide⟩
    refine OwnGo.of (X0.daload hx (j := (0 : Int32)) (v := (.double (FP.l2d (G 0)))) (by rw [e0]; exact Arq2.1) (State.isArrayOf_alike hZ.alike Arq2.2.1) Arq2.2.2 hinq2 (Hq2.at hinq2 rfl) (g := (mkF m 11 #[.val (.ref a0), .val (.int p1), .val (.int (1 : Int32))] [(.int (0 : Int32)), (.ref a0)])) rfl rfl (hb hby d4_11)) ?_
    show OwnGo p.tables e below _ (s₁.setTop (mkF m 12 #[.val (.ref a0), .val (.int p1), .val (.int (1 : Int32))] [(.double (FP.l2d (G 0)))]))
    refine OwnGo.of (A := s₁.setTop (mkF m 12 #[.val (.ref a0), .val (.int p1), .val (.int (1 : Int32))] [(.double (FP.l2d (G 0)))])) (B := s₁.setTop (mkF m 14 #[.val (.ref a0), .val (.int p1), .val (.int (1 : Int32))] [(.int (1 : Int32)), (.ref a0), (.double (FP.l2d (G 0)))])) (fun t k => ?_) ?_
    · show Steps p.tables e below (s₁.setTop (mkF m 12 #[.val (.ref a0), .val (.int p1), .val (.int (1 : Int32))] [(.double (FP.l2d (G 0)))])) t
      refine XS.aloadN X0.here hx rfl (hb hby d4_12) rfl rfl ?_
      refine XS.iloadN X0.here hx rfl (hb hby d4_13) rfl ?_
      exact k
    have cq3 := V_a
    obtain ⟨clq3, Arq3, qq3, Sq3, Nq3, Hq3, Gq3⟩ := cq3
    have hinq3 := inb_of (j := (1 : Int32)) Sq3 ⟨by decide, by decide⟩
    refine OwnGo.of (X0.daload hx (j := (1 : Int32)) (v := (.double (FP.l2d (G 1)))) (by rw [e0]; exact Arq3.1) (State.isArrayOf_alike hZ.alike Arq3.2.1) Arq3.2.2 hinq3 (Hq3.at hinq3 rfl) (g := (mkF m 14 #[.val (.ref a0), .val (.int p1), .val (.int (1 : Int32))] [(.int (1 : Int32)), (.ref a0), (.double (FP.l2d (G 0)))])) rfl rfl (hb hby d4_14)) ?_
    show OwnGo p.tables e below _ (s₁.setTop (mkF m 15 #[.val (.ref a0), .val (.int p1), .val (.int (1 : Int32))] [(.double (FP.l2d (G 1))), (.double (FP.l2d (G 0)))]))
    refine OwnGo.of (A := s₁.setTop (mkF m 15 #[.val (.ref a0), .val (.int p1), .val (.int (1 : Int32))] [(.double (FP.l2d (G 1))), (.double (FP.l2d (G 0)))])) (B := s₁.setTop (mkF m 16 #[.val (.ref a0), .val (.int p1), .val (.int (1 : Int32))] [(.int (cmpValue (FP.dcmp (FP.l2d (G 0)) (FP.l2d (G 1))) .g))])) (fun t k => ?_) ?_
    · show Steps p.tables e below (s₁.setTop (mkF m 15 #[.val (.ref a0), .val (.int p1), .val (.int (1 : Int32))] [(.double (FP.l2d (G 1))), (.double (FP.l2d (G 0)))])) t
      refine XS.dcmpS X0.here hx rfl (hb hby d4_15) rfl rfl ?_
      exact k
    have hc4 : ¬ ((0 : Int32) < (cmpValue (FP.dcmp (FP.l2d (G 0)) (FP.l2d (G 1))) .g)) := ho hc1
    refine OwnGo.of (A := s₁.setTop (mkF m 16 #[.val (.ref a0), .val (.int p1), .val (.int (1 : Int32))] [(.int (cmpValue (FP.dcmp (FP.l2d (G 0)) (FP.l2d (G 1))) .g))])) (B := s₁.setTop (mkF m 24 #[.val (.ref a0), .val (.int p1), .val (.int (1 : Int32))] [(.int (1 : Int32))])) (fun t k => ?_) ?_
    · show Steps p.tables e below (s₁.setTop (mkF m 16 #[.val (.ref a0), .val (.int p1), .val (.int (1 : Int32))] [(.int (cmpValue (FP.dcmp (FP.l2d (G 0)) (FP.l2d (G 1))) .g))])) t
      refine XS.ifNo X0.here hx rfl (hb hby d4_16) rfl ((if0 _ _).trans (flt hc4).2.2.1) ?_
      refine XS.iconst X0.here hx rfl (hb hby d4_19) ?_
      refine XS.goto X0.here hx rfl (pc0 := 20) (pc' := 24) rfl (hb hby d4_20) (by decide) (by decide) ?_
      exact k
    obtain ⟨fs, hr, hrun, hended, hW, hsame⟩ := X0.leave (v := some (.int (nar .boolean (1 : Int32)))) (fun h => by rw [Bd.returns] at h; cases h) hlk
    refine ⟨_, _, ?_, hrun, hended, _, _, rfl, ?_, ⟨_, rfl⟩, hW, hsame.mono (by decide) (by decide)⟩
    · show Steps p.tables e below (s₁.setTop (mkF m 24 #[.val (.ref a0), .val (.int p1), .val (.int (1 : Int32))] [(.int (1 : Int32))])) _
      exact retN X0 hx (t := .boolean) Bd.returns (by simp) (hb hby d4_24) hr
    · show Qrmo_1 Z a0 p1 G ka h0 n0 _ (s₁.setFrames fs).heap _
      rw [show (s₁.setFrames fs).heap = h0 from e0]
      exact ⟨rfl, N0, rfl⟩
  · refine OwnGo.of (A := s₁.setTop (mkF m 2 #[.val (.ref a0), .val (.int p1), .val (.int (1 : Int32))] [(.int p1), (.int (1 : Int32))])) (B := s₁.setTop (mkF m 24 #[.val (.ref a0), .val (.int p1), .val (.int (1 : Int32))] [(.int (1 : Int32))])) (fun t k => ?_) ?_
    · show Steps p.tables e below (s₁.setTop (mkF m 2 #[.val (.ref a0), .val (.int p1), .val (.int (1 : Int32))] [(.int p1), (.int (1 : Int32))])) t
      refine XS.icmpYes X0.here hx rfl (pc0 := 2) (pc' := 19) rfl (hb hby d4_2) rfl (flt hc1).2.1 (by decide) (by decide) ?_
      refine XS.iconst X0.here hx rfl (hb hby d4_19) ?_
      refine XS.goto X0.here hx rfl (pc0 := 20) (pc' := 24) rfl (hb hby d4_20) (by decide) (by decide) ?_
      exact k
    obtain ⟨fs, hr, hrun, hended, hW, hsame⟩ := X0.leave (v := some (.int (nar .boolean (1 : Int32)))) (fun h => by rw [Bd.returns] at h; cases h) hlk
    refine ⟨_, _, ?_, hrun, hended, _, _, rfl, ?_, ⟨_, rfl⟩, hW, hsame.mono (by decide) (by decide)⟩
    · show Steps p.tables e below (s₁.setTop (mkF m 24 #[.val (.ref a0), .val (.int p1), .val (.int (1 : Int32))] [(.int (1 : Int32))])) _
      exact retN X0 hx (t := .boolean) Bd.returns (by simp) (hb hby d4_24) hr
    · show Qrmo_1 Z a0 p1 G ka h0 n0 _ (s₁.setFrames fs).heap _
      rw [show (s₁.setFrames fs).heap = h0 from e0]
      exact ⟨rfl, N0, rfl⟩
theorem ef_rmo_2 (m : MethodId) (a0 : Addr) (p1 : Int32) : entryFrame m #[(.ref a0), (.int p1), (.int (2 : Int32))] 3 = mkF m 0 #[.val (.ref a0), .val (.int p1), .val (.int (2 : Int32))] [] := by first | (simp [entryFrame, mkF, argsToLocals, Value.category]; done) | rfl
def Qrmo_2 (Z : State) (a0 : Addr) (p1 : Int32) (G : Nat → Int64) (ka : ClassId) (h0 : Heap) (n0 : Nat) (v : Option Value) (h : Heap) (L : List Loc) : Prop := v = some (.int 1) ∧ Fr n0 L ∧ h = h0
set_option maxRecDepth 65536 in
set_option maxHeartbeats 40000000 in
theorem rmo_2 (l : Launch) (Z : State) (aw : Array Value) (hw : ∀ d ∈ tables_1, d.before aw Z = true) (ws : List Jvm.Cond) (a0 : Addr) (p1 : Int32) (G : Nat → Int64) (ka : ClassId) (h0 : Heap) (n0 : Nat) (Z0 : n0 ≤ h0.size) (V_a : Arv Z h0 a0 ka .double (10 : Int32) (own_l10 (G)) (.double (0 : UInt64))) (ho : (2 : Int32) < p1 → ¬ ((0 : Int32) < (cmpValue (FP.dcmp (FP.l2d (G 0)) (FP.l2d (G 2))) .g))) :
    MetFree l (⟨"com/example/rankwright/rankwright/rank/AccumulatorSiftDownPinLaw", "ordered", "([DII)Z"⟩ : MethodName) (head1 (Jvm.Cond.code (⟨"com/example/rankwright/rankwright/rank/AccumulatorSiftDownPinLaw", "ordered", "([DII)Z"⟩ : MethodName) method_5_code 3 (some .boolean) :: ws) ({ frames := 0, cells := 0, slots := 0, locals := 0 } : Room)) (fun a U => a = #[(.ref a0), (.int p1), (.int (2 : Int32))] ∧ Z.Warmed39 U.vm ∧ U.heap = h0) (fun _ _ _ _ _ => True) (fun _ U o U' => ∃ v L, o = .returned v ∧ Qrmo_2 Z a0 p1 G ka h0 n0 v U'.heap L ∧ FrameEnd U o U' L ({ frames := 0, cells := 0, slots := 0, locals := 0 } : Room).cells ({ frames := 0, cells := 0, slots := 0, locals := 0 } : Room).slots) := by
  refine MetFree.of_bodySF (plainFor_of_name pn_0) hisR ?_
  intro p e s m args below meth c s₁ Bd hml0 hP hK
  obtain ⟨rfl, hZ, hh⟩ := hP
  have hx := Bd.exec
  have hby := Bd.bytes
  have hml : c.maxLocals = 3 := hml0
  have hown : s.vm.findClass "com/example/rankwright/rankwright/rank/AccumulatorSiftDownPinLaw" = some m.cls := findClass_of_methodNamed Bd.named
  have hnm := (name_of_methodNamed Bd.named Bd.method).1
  have X0 : Stand p l e ({ frames := 0, cells := 0, slots := 0, locals := 0 } : Room) s m #[(.ref a0), (.int p1), (.int (2 : Int32))] below meth c s₁ [] 0 0 := Stand.of_body Bd
  have e0 : s₁.heap = h0 := by rw [← hh, Bd.state]; rfl
  have N0 := Fr.nil n0
  have hlk := Bd.notSynchronized
  show OwnGo p.tables e below _ (s₁.setTop (entryFrame m #[(.ref a0), (.int p1), (.int (2 : Int32))] 3))
  rw [ef_rmo_2 m a0 p1]
  show OwnGo p.tables e below _ (s₁.setTop (mkF m 0 #[.val (.ref a0), .val (.int p1), .val (.int (2 : Int32))] []))
  refine OwnGo.of (A := s₁.setTop (mkF m 0 #[.val (.ref a0), .val (.int p1), .val (.int (2 : Int32))] [])) (B := s₁.setTop (mkF m 2 #[.val (.ref a0), .val (.int p1), .val (.int (2 : Int32))] [(.int p1), (.int (2 : Int32))])) (fun t k => ?_) ?_
  · show Steps p.tables e below (s₁.setTop (mkF m 0 #[.val (.ref a0), .val (.int p1), .val (.int (2 : Int32))] [])) t
    refine XS.iloadN X0.here hx rfl (hb hby d4_0) rfl ?_
    refine XS.iloadN X0.here hx rfl (hb hby d4_1) rfl ?_
    exact k
  by_cases hc1 : (2 : Int32) < p1
  · refine OwnGo.of (A := s₁.setTop (mkF m 2 #[.val (.ref a0), .val (.int p1), .val (.int (2 : Int32))] [(.int p1), (.int (2 : Int32))])) (B := s₁.setTop (mkF m 11 #[.val (.ref a0), .val (.int p1), .val (.int (2 : Int32))] [(.int (0 : Int32)), (.ref a0)])) (fun t k => ?_) ?_
    · show Steps p.tables e below (s₁.setTop (mkF m 2 #[.val (.ref a0), .val (.int p1), .val (.int (2 : Int32))] [(.int p1), (.int (2 : Int32))])) t
      refine XS.icmpNo X0.here hx rfl (hb hby d4_2) rfl (tlt hc1).2.1 ?_
      refine XS.aloadN X0.here hx rfl (hb hby d4_5) rfl rfl ?_
      refine XS.iloadN X0.here hx rfl (hb hby d4_6) rfl ?_
      refine XS.iconst X0.here hx rfl (hb hby d4_7) ?_
      refine XS.isub X0.here hx rfl (hb hby d4_8) rfl ?_
      refine XS.iconst X0.here hx rfl (hb hby d4_9) ?_
      refine XS.idiv X0.here hx rfl (hb hby d4_10) rfl (by decide) ?_
      exact k
    have cq2 := V_a
    obtain ⟨clq2, Arq2, qq2, Sq2, Nq2, Hq2, Gq2⟩ := cq2
    have hinq2 := inb_of (j := (0 : Int32)) Sq2 ⟨by decide, by decide⟩
    refine OwnGo.of (X0.daload hx (j := (0 : Int32)) (v := (.double (FP.l2d (G 0)))) (by rw [e0]; exact Arq2.1) (State.isArrayOf_alike hZ.alike Arq2.2.1) Arq2.2.2 hinq2 (Hq2.at hinq2 rfl) (g := (mkF m 11 #[.val (.ref a0), .val (.int p1), .val (.int (2 : Int32))] [(.int (0 : Int32)), (.ref a0)])) rfl rfl (hb hby d4_11)) ?_
    show OwnGo p.tables e below _ (s₁.setTop (mkF m 12 #[.val (.ref a0), .val (.int p1), .val (.int (2 : Int32))] [(.double (FP.l2d (G 0)))]))
    refine OwnGo.of (A := s₁.setTop (mkF m 12 #[.val (.ref a0), .val (.int p1), .val (.int (2 : Int32))] [(.double (FP.l2d (G 0)))])) (B := s₁.setTop (mkF m 14 #[.val (.ref a0), .val (.int p1), .val (.int (2 : Int32))] [(.int (2 : Int32)), (.ref a0), (.double (FP.l2d (G 0)))])) (fun t k => ?_) ?_
    · show Steps p.tables e below (s₁.setTop (mkF m 12 #[.val (.ref a0), .val (.int p1), .val (.int (2 : Int32))] [(.double (FP.l2d (G 0)))])) t
      refine XS.aloadN X0.here hx rfl (hb hby d4_12) rfl rfl ?_
      refine XS.iloadN X0.here hx rfl (hb hby d4_13) rfl ?_
      exact k
    have cq3 := V_a
    obtain ⟨clq3, Arq3, qq3, Sq3, Nq3, Hq3, Gq3⟩ := cq3
    have hinq3 := inb_of (j := (2 : Int32)) Sq3 ⟨by decide, by decide⟩
    refine OwnGo.of (X0.daload hx (j := (2 : Int32)) (v := (.double (FP.l2d (G 2)))) (by rw [e0]; exact Arq3.1) (State.isArrayOf_alike hZ.alike Arq3.2.1) Arq3.2.2 hinq3 (Hq3.at hinq3 rfl) (g := (mkF m 14 #[.val (.ref a0), .val (.int p1), .val (.int (2 : Int32))] [(.int (2 : Int32)), (.ref a0), (.double (FP.l2d (G 0)))])) rfl rfl (hb hby d4_14)) ?_
    show OwnGo p.tables e below _ (s₁.setTop (mkF m 15 #[.val (.ref a0), .val (.int p1), .val (.int (2 : Int32))] [(.double (FP.l2d (G 2))), (.double (FP.l2d (G 0)))]))
    refine OwnGo.of (A := s₁.setTop (mkF m 15 #[.val (.ref a0), .val (.int p1), .val (.int (2 : Int32))] [(.double (FP.l2d (G 2))), (.double (FP.l2d (G 0)))])) (B := s₁.setTop (mkF m 16 #[.val (.ref a0), .val (.int p1), .val (.int (2 : Int32))] [(.int (cmpValue (FP.dcmp (FP.l2d (G 0)) (FP.l2d (G 2))) .g))])) (fun t k => ?_) ?_
    · show Steps p.tables e below (s₁.setTop (mkF m 15 #[.val (.ref a0), .val (.int p1), .val (.int (2 : Int32))] [(.double (FP.l2d (G 2))), (.double (FP.l2d (G 0)))])) t
      refine XS.dcmpS X0.here hx rfl (hb hby d4_15) rfl rfl ?_
      exact k
    have hc4 : ¬ ((0 : Int32) < (cmpValue (FP.dcmp (FP.l2d (G 0)) (FP.l2d (G 2))) .g)) := ho hc1
    refine OwnGo.of (A := s₁.setTop (mkF m 16 #[.val (.ref a0), .val (.int p1), .val (.int (2 : Int32))] [(.int (cmpValue (FP.dcmp (FP.l2d (G 0)) (FP.l2d (G 2))) .g))])) (B := s₁.setTop (mkF m 24 #[.val (.ref a0), .val (.int p1), .val (.int (2 : Int32))] [(.int (1 : Int32))])) (fun t k => ?_) ?_
    · show Steps p.tables e below (s₁.setTop (mkF m 16 #[.val (.ref a0), .val (.int p1), .val (.int (2 : Int32))] [(.int (cmpValue (FP.dcmp (FP.l2d (G 0)) (FP.l2d (G 2))) .g))])) t
      refine XS.ifNo X0.here hx rfl (hb hby d4_16) rfl ((if0 _ _).trans (flt hc4).2.2.1) ?_
      refine XS.iconst X0.here hx rfl (hb hby d4_19) ?_
      refine XS.goto X0.here hx rfl (pc0 := 20) (pc' := 24) rfl (hb hby d4_20) (by decide) (by decide) ?_
      exact k
    obtain ⟨fs, hr, hrun, hended, hW, hsame⟩ := X0.leave (v := some (.int (nar .boolean (1 : Int32)))) (fun h => by rw [Bd.returns] at h; cases h) hlk
    refine ⟨_, _, ?_, hrun, hended, _, _, rfl, ?_, ⟨_, rfl⟩, hW, hsame.mono (by decide) (by decide)⟩
    · show Steps p.tables e below (s₁.setTop (mkF m 24 #[.val (.ref a0), .val (.int p1), .val (.int (2 : Int32))] [(.int (1 : Int32))])) _
      exact retN X0 hx (t := .boolean) Bd.returns (by simp) (hb hby d4_24) hr
    · show Qrmo_2 Z a0 p1 G ka h0 n0 _ (s₁.setFrames fs).heap _
      rw [show (s₁.setFrames fs).heap = h0 from e0]
      exact ⟨rfl, N0, rfl⟩
  · refine OwnGo.of (A := s₁.setTop (mkF m 2 #[.val (.ref a0), .val (.int p1), .val (.int (2 : Int32))] [(.int p1), (.int (2 : Int32))])) (B := s₁.setTop (mkF m 24 #[.val (.ref a0), .val (.int p1), .val (.int (2 : Int32))] [(.int (1 : Int32))])) (fun t k => ?_) ?_
    · show Steps p.tables e below (s₁.setTop (mkF m 2 #[.val (.ref a0), .val (.int p1), .val (.int (2 : Int32))] [(.int p1), (.int (2 : Int32))])) t
      refine XS.icmpYes X0.here hx rfl (pc0 := 2) (pc' := 19) rfl (hb hby d4_2) rfl (flt hc1).2.1 (by decide) (by decide) ?_
      refine XS.iconst X0.here hx rfl (hb hby d4_19) ?_
      refine XS.goto X0.here hx rfl (pc0 := 20) (pc' := 24) rfl (hb hby d4_20) (by decide) (by decide) ?_
      exact k
    obtain ⟨fs, hr, hrun, hended, hW, hsame⟩ := X0.leave (v := some (.int (nar .boolean (1 : Int32)))) (fun h => by rw [Bd.returns] at h; cases h) hlk
    refine ⟨_, _, ?_, hrun, hended, _, _, rfl, ?_, ⟨_, rfl⟩, hW, hsame.mono (by decide) (by decide)⟩
    · show Steps p.tables e below (s₁.setTop (mkF m 24 #[.val (.ref a0), .val (.int p1), .val (.int (2 : Int32))] [(.int (1 : Int32))])) _
      exact retN X0 hx (t := .boolean) Bd.returns (by simp) (hb hby d4_24) hr
    · show Qrmo_2 Z a0 p1 G ka h0 n0 _ (s₁.setFrames fs).heap _
      rw [show (s₁.setFrames fs).heap = h0 from e0]
      exact ⟨rfl, N0, rfl⟩
theorem ef_rmo_3 (m : MethodId) (a0 : Addr) (p1 : Int32) : entryFrame m #[(.ref a0), (.int p1), (.int (3 : Int32))] 3 = mkF m 0 #[.val (.ref a0), .val (.int p1), .val (.int (3 : Int32))] [] := by first | (simp [entryFrame, mkF, argsToLocals, Value.category]; done) | rfl
def Qrmo_3 (Z : State) (a0 : Addr) (p1 : Int32) (G : Nat → Int64) (ka : ClassId) (h0 : Heap) (n0 : Nat) (v : Option Value) (h : Heap) (L : List Loc) : Prop := v = some (.int 1) ∧ Fr n0 L ∧ h = h0
set_option maxRecDepth 65536 in
set_option maxHeartbeats 40000000 in
theorem rmo_3 (l : Launch) (Z : State) (aw : Array Value) (hw : ∀ d ∈ tables_1, d.before aw Z = true) (ws : List Jvm.Cond) (a0 : Addr) (p1 : Int32) (G : Nat → Int64) (ka : ClassId) (h0 : Heap) (n0 : Nat) (Z0 : n0 ≤ h0.size) (V_a : Arv Z h0 a0 ka .double (10 : Int32) (own_l10 (G)) (.double (0 : UInt64))) (ho : (3 : Int32) < p1 → ¬ ((0 : Int32) < (cmpValue (FP.dcmp (FP.l2d (G 1)) (FP.l2d (G 3))) .g))) :
    MetFree l (⟨"com/example/rankwright/rankwright/rank/AccumulatorSiftDownPinLaw", "ordered", "([DII)Z"⟩ : MethodName) (head1 (Jvm.Cond.code (⟨"com/example/rankwright/rankwright/rank/AccumulatorSiftDownPinLaw", "ordered", "([DII)Z"⟩ : MethodName) method_5_code 3 (some .boolean) :: ws) ({ frames := 0, cells := 0, slots := 0, locals := 0 } : Room)) (fun a U => a = #[(.ref a0), (.int p1), (.int (3 : Int32))] ∧ Z.Warmed39 U.vm ∧ U.heap = h0) (fun _ _ _ _ _ => True) (fun _ U o U' => ∃ v L, o = .returned v ∧ Qrmo_3 Z a0 p1 G ka h0 n0 v U'.heap L ∧ FrameEnd U o U' L ({ frames := 0, cells := 0, slots := 0, locals := 0 } : Room).cells ({ frames := 0, cells := 0, slots := 0, locals := 0 } : Room).slots) := by
  refine MetFree.of_bodySF (plainFor_of_name pn_0) hisR ?_
  intro p e s m args below meth c s₁ Bd hml0 hP hK
  obtain ⟨rfl, hZ, hh⟩ := hP
  have hx := Bd.exec
  have hby := Bd.bytes
  have hml : c.maxLocals = 3 := hml0
  have hown : s.vm.findClass "com/example/rankwright/rankwright/rank/AccumulatorSiftDownPinLaw" = some m.cls := findClass_of_methodNamed Bd.named
  have hnm := (name_of_methodNamed Bd.named Bd.method).1
  have X0 : Stand p l e ({ frames := 0, cells := 0, slots := 0, locals := 0 } : Room) s m #[(.ref a0), (.int p1), (.int (3 : Int32))] below meth c s₁ [] 0 0 := Stand.of_body Bd
  have e0 : s₁.heap = h0 := by rw [← hh, Bd.state]; rfl
  have N0 := Fr.nil n0
  have hlk := Bd.notSynchronized
  show OwnGo p.tables e below _ (s₁.setTop (entryFrame m #[(.ref a0), (.int p1), (.int (3 : Int32))] 3))
  rw [ef_rmo_3 m a0 p1]
  show OwnGo p.tables e below _ (s₁.setTop (mkF m 0 #[.val (.ref a0), .val (.int p1), .val (.int (3 : Int32))] []))
  refine OwnGo.of (A := s₁.setTop (mkF m 0 #[.val (.ref a0), .val (.int p1), .val (.int (3 : Int32))] [])) (B := s₁.setTop (mkF m 2 #[.val (.ref a0), .val (.int p1), .val (.int (3 : Int32))] [(.int p1), (.int (3 : Int32))])) (fun t k => ?_) ?_
  · show Steps p.tables e below (s₁.setTop (mkF m 0 #[.val (.ref a0), .val (.int p1), .val (.int (3 : Int32))] [])) t
    refine XS.iloadN X0.here hx rfl (hb hby d4_0) rfl ?_
    refine XS.iloadN X0.here hx rfl (hb hby d4_1) rfl ?_
    exact k
  by_cases hc1 : (3 : Int32) < p1
  · refine OwnGo.of (A := s₁.setTop (mkF m 2 #[.val (.ref a0), .val (.int p1), .val (.int (3 : Int32))] [(.int p1), (.int (3 : Int32))])) (B := s₁.setTop (mkF m 11 #[.val (.ref a0), .val (.int p1), .val (.int (3 : Int32))] [(.int (1 : Int32)), (.ref a0)])) (fun t k => ?_) ?_
    · show Steps p.tables e below (s₁.setTop (mkF m 2 #[.val (.ref a0), .val (.int p1), .val (.int (3 : Int32))] [(.int p1), (.int (3 : Int32))])) t
      refine XS.icmpNo X0.here hx rfl (hb hby d4_2) rfl (tlt hc1).2.1 ?_
      refine XS.aloadN X0.here hx rfl (hb hby d4_5) rfl rfl ?_
      refine XS.iloadN X0.here hx rfl (hb hby d4_6) rfl ?_
      refine XS.iconst X0.here hx rfl (hb hby d4_7) ?_
      refine XS.isub X0.here hx rfl (hb hby d4_8) rfl ?_
      refine XS.iconst X0.here hx rfl (hb hby d4_9) ?_
      refine XS.idiv X0.here hx rfl (hb hby d4_10) rfl (by decide) ?_
      exact k
    have cq2 := V_a
    obtain ⟨clq2, Arq2, qq2, Sq2, Nq2, Hq2, Gq2⟩ := cq2
    have hinq2 := inb_of (j := (1 : Int32)) Sq2 ⟨by decide, by decide⟩
    refine OwnGo.of (X0.daload hx (j := (1 : Int32)) (v := (.double (FP.l2d (G 1)))) (by rw [e0]; exact Arq2.1) (State.isArrayOf_alike hZ.alike Arq2.2.1) Arq2.2.2 hinq2 (Hq2.at hinq2 rfl) (g := (mkF m 11 #[.val (.ref a0), .val (.int p1), .val (.int (3 : Int32))] [(.int (1 : Int32)), (.ref a0)])) rfl rfl (hb hby d4_11)) ?_
    show OwnGo p.tables e below _ (s₁.setTop (mkF m 12 #[.val (.ref a0), .val (.int p1), .val (.int (3 : Int32))] [(.double (FP.l2d (G 1)))]))
    refine OwnGo.of (A := s₁.setTop (mkF m 12 #[.val (.ref a0), .val (.int p1), .val (.int (3 : Int32))] [(.double (FP.l2d (G 1)))])) (B := s₁.setTop (mkF m 14 #[.val (.ref a0), .val (.int p1), .val (.int (3 : Int32))] [(.int (3 : Int32)), (.ref a0), (.double (FP.l2d (G 1)))])) (fun t k => ?_) ?_
    · show Steps p.tables e below (s₁.setTop (mkF m 12 #[.val (.ref a0), .val (.int p1), .val (.int (3 : Int32))] [(.double (FP.l2d (G 1)))])) t
      refine XS.aloadN X0.here hx rfl (hb hby d4_12) rfl rfl ?_
      refine XS.iloadN X0.here hx rfl (hb hby d4_13) rfl ?_
      exact k
    have cq3 := V_a
    obtain ⟨clq3, Arq3, qq3, Sq3, Nq3, Hq3, Gq3⟩ := cq3
    have hinq3 := inb_of (j := (3 : Int32)) Sq3 ⟨by decide, by decide⟩
    refine OwnGo.of (X0.daload hx (j := (3 : Int32)) (v := (.double (FP.l2d (G 3)))) (by rw [e0]; exact Arq3.1) (State.isArrayOf_alike hZ.alike Arq3.2.1) Arq3.2.2 hinq3 (Hq3.at hinq3 rfl) (g := (mkF m 14 #[.val (.ref a0), .val (.int p1), .val (.int (3 : Int32))] [(.int (3 : Int32)), (.ref a0), (.double (FP.l2d (G 1)))])) rfl rfl (hb hby d4_14)) ?_
    show OwnGo p.tables e below _ (s₁.setTop (mkF m 15 #[.val (.ref a0), .val (.int p1), .val (.int (3 : Int32))] [(.double (FP.l2d (G 3))), (.double (FP.l2d (G 1)))]))
    refine OwnGo.of (A := s₁.setTop (mkF m 15 #[.val (.ref a0), .val (.int p1), .val (.int (3 : Int32))] [(.double (FP.l2d (G 3))), (.double (FP.l2d (G 1)))])) (B := s₁.setTop (mkF m 16 #[.val (.ref a0), .val (.int p1), .val (.int (3 : Int32))] [(.int (cmpValue (FP.dcmp (FP.l2d (G 1)) (FP.l2d (G 3))) .g))])) (fun t k => ?_) ?_
    · show Steps p.tables e below (s₁.setTop (mkF m 15 #[.val (.ref a0), .val (.int p1), .val (.int (3 : Int32))] [(.double (FP.l2d (G 3))), (.double (FP.l2d (G 1)))])) t
      refine XS.dcmpS X0.here hx rfl (hb hby d4_15) rfl rfl ?_
      exact k
    have hc4 : ¬ ((0 : Int32) < (cmpValue (FP.dcmp (FP.l2d (G 1)) (FP.l2d (G 3))) .g)) := ho hc1
    refine OwnGo.of (A := s₁.setTop (mkF m 16 #[.val (.ref a0), .val (.int p1), .val (.int (3 : Int32))] [(.int (cmpValue (FP.dcmp (FP.l2d (G 1)) (FP.l2d (G 3))) .g))])) (B := s₁.setTop (mkF m 24 #[.val (.ref a0), .val (.int p1), .val (.int (3 : Int32))] [(.int (1 : Int32))])) (fun t k => ?_) ?_
    · show Steps p.tables e below (s₁.setTop (mkF m 16 #[.val (.ref a0), .val (.int p1), .val (.int (3 : Int32))] [(.int (cmpValue (FP.dcmp (FP.l2d (G 1)) (FP.l2d (G 3))) .g))])) t
      refine XS.ifNo X0.here hx rfl (hb hby d4_16) rfl ((if0 _ _).trans (flt hc4).2.2.1) ?_
      refine XS.iconst X0.here hx rfl (hb hby d4_19) ?_
      refine XS.goto X0.here hx rfl (pc0 := 20) (pc' := 24) rfl (hb hby d4_20) (by decide) (by decide) ?_
      exact k
    obtain ⟨fs, hr, hrun, hended, hW, hsame⟩ := X0.leave (v := some (.int (nar .boolean (1 : Int32)))) (fun h => by rw [Bd.returns] at h; cases h) hlk
    refine ⟨_, _, ?_, hrun, hended, _, _, rfl, ?_, ⟨_, rfl⟩, hW, hsame.mono (by decide) (by decide)⟩
    · show Steps p.tables e below (s₁.setTop (mkF m 24 #[.val (.ref a0), .val (.int p1), .val (.int (3 : Int32))] [(.int (1 : Int32))])) _
      exact retN X0 hx (t := .boolean) Bd.returns (by simp) (hb hby d4_24) hr
    · show Qrmo_3 Z a0 p1 G ka h0 n0 _ (s₁.setFrames fs).heap _
      rw [show (s₁.setFrames fs).heap = h0 from e0]
      exact ⟨rfl, N0, rfl⟩
  · refine OwnGo.of (A := s₁.setTop (mkF m 2 #[.val (.ref a0), .val (.int p1), .val (.int (3 : Int32))] [(.int p1), (.int (3 : Int32))])) (B := s₁.setTop (mkF m 24 #[.val (.ref a0), .val (.int p1), .val (.int (3 : Int32))] [(.int (1 : Int32))])) (fun t k => ?_) ?_
    · show Steps p.tables e below (s₁.setTop (mkF m 2 #[.val (.ref a0), .val (.int p1), .val (.int (3 : Int32))] [(.int p1), (.int (3 : Int32))])) t
      refine XS.icmpYes X0.here hx rfl (pc0 := 2) (pc' := 19) rfl (hb hby d4_2) rfl (flt hc1).2.1 (by decide) (by decide) ?_
      refine XS.iconst X0.here hx rfl (hb hby d4_19) ?_
      refine XS.goto X0.here hx rfl (pc0 := 20) (pc' := 24) rfl (hb hby d4_20) (by decide) (by decide) ?_
      exact k
    obtain ⟨fs, hr, hrun, hended, hW, hsame⟩ := X0.leave (v := some (.int (nar .boolean (1 : Int32)))) (fun h => by rw [Bd.returns] at h; cases h) hlk
    refine ⟨_, _, ?_, hrun, hended, _, _, rfl, ?_, ⟨_, rfl⟩, hW, hsame.mono (by decide) (by decide)⟩
    · show Steps p.tables e below (s₁.setTop (mkF m 24 #[.val (.ref a0), .val (.int p1), .val (.int (3 : Int32))] [(.int (1 : Int32))])) _
      exact retN X0 hx (t := .boolean) Bd.returns (by simp) (hb hby d4_24) hr
    · show Qrmo_3 Z a0 p1 G ka h0 n0 _ (s₁.setFrames fs).heap _
      rw [show (s₁.setFrames fs).heap = h0 from e0]
      exact ⟨rfl, N0, rfl⟩
theorem ef_rmo_4 (m : MethodId) (a0 : Addr) (p1 : Int32) : entryFrame m #[(.ref a0), (.int p1), (.int (4 : Int32))] 3 = mkF m 0 #[.val (.ref a0), .val (.int p1), .val (.int (4 : Int32))] [] := by first | (simp [entryFrame, mkF, argsToLocals, Value.category]; done) | rfl
def Qrmo_4 (Z : State) (a0 : Addr) (p1 : Int32) (G : Nat → Int64) (ka : ClassId) (h0 : Heap) (n0 : Nat) (v : Option Value) (h : Heap) (L : List Loc) : Prop := v = some (.int 1) ∧ Fr n0 L ∧ h = h0
set_option maxRecDepth 65536 in
set_option maxHeartbeats 40000000 in
theorem rmo_4 (l : Launch) (Z : State) (aw : Array Value) (hw : ∀ d ∈ tables_1, d.before aw Z = true) (ws : List Jvm.Cond) (a0 : Addr) (p1 : Int32) (G : Nat → Int64) (ka : ClassId) (h0 : Heap) (n0 : Nat) (Z0 : n0 ≤ h0.size) (V_a : Arv Z h0 a0 ka .double (10 : Int32) (own_l10 (G)) (.double (0 : UInt64))) (ho : (4 : Int32) < p1 → ¬ ((0 : Int32) < (cmpValue (FP.dcmp (FP.l2d (G 1)) (FP.l2d (G 4))) .g))) :
    MetFree l (⟨"com/example/rankwright/rankwright/rank/AccumulatorSiftDownPinLaw", "ordered", "([DII)Z"⟩ : MethodName) (head1 (Jvm.Cond.code (⟨"com/example/rankwright/rankwright/rank/AccumulatorSiftDownPinLaw", "ordered", "([DII)Z"⟩ : MethodName) method_5_code 3 (some .boolean) :: ws) ({ frames := 0, cells := 0, slots := 0, locals := 0 } : Room)) (fun a U => a = #[(.ref a0), (.int p1), (.int (4 : Int32))] ∧ Z.Warmed39 U.vm ∧ U.heap = h0) (fun _ _ _ _ _ => True) (fun _ U o U' => ∃ v L, o = .returned v ∧ Qrmo_4 Z a0 p1 G ka h0 n0 v U'.heap L ∧ FrameEnd U o U' L ({ frames := 0, cells := 0, slots := 0, locals := 0 } : Room).cells ({ frames := 0, cells := 0, slots := 0, locals := 0 } : Room).slots) := by
  refine MetFree.of_bodySF (plainFor_of_name pn_0) hisR ?_
  intro p e s m args below meth c s₁ Bd hml0 hP hK
  obtain ⟨rfl, hZ, hh⟩ := hP
  have hx := Bd.exec
  have hby := Bd.bytes
  have hml : c.maxLocals = 3 := hml0
  have hown : s.vm.findClass "com/example/rankwright/rankwright/rank/AccumulatorSiftDownPinLaw" = some m.cls := findClass_of_methodNamed Bd.named
  have hnm := (name_of_methodNamed Bd.named Bd.method).1
  have X0 : Stand p l e ({ frames := 0, cells := 0, slots := 0, locals := 0 } : Room) s m #[(.ref a0), (.int p1), (.int (4 : Int32))] below meth c s₁ [] 0 0 := Stand.of_body Bd
  have e0 : s₁.heap = h0 := by rw [← hh, Bd.state]; rfl
  have N0 := Fr.nil n0
  have hlk := Bd.notSynchronized
  show OwnGo p.tables e below _ (s₁.setTop (entryFrame m #[(.ref a0), (.int p1), (.int (4 : Int32))] 3))
  rw [ef_rmo_4 m a0 p1]
  show OwnGo p.tables e below _ (s₁.setTop (mkF m 0 #[.val (.ref a0), .val (.int p1), .val (.int (4 : Int32))] []))
  refine OwnGo.of (A := s₁.setTop (mkF m 0 #[.val (.ref a0), .val (.int p1), .val (.int (4 : Int32))] [])) (B := s₁.setTop (mkF m 2 #[.val (.ref a0), .val (.int p1), .val (.int (4 : Int32))] [(.int p1), (.int (4 : Int32))])) (fun t k => ?_) ?_
  · show Steps p.tables e below (s₁.setTop (mkF m 0 #[.val (.ref a0), .val (.int p1), .val (.int (4 : Int32))] [])) t
    refine XS.iloadN X0.here hx rfl (hb hby d4_0) rfl ?_
    refine XS.iloadN X0.here hx rfl (hb hby d4_1) rfl ?_
    exact k
  by_cases hc1 : (4 : Int32) < p1
  · refine OwnGo.of (A := s₁.setTop (mkF m 2 #[.val (.ref a0), .val (.int p1), .val (.int (4 : Int32))] [(.int p1), (.int (4 : Int32))])) (B := s₁.setTop (mkF m 11 #[.val (.ref a0), .val (.int p1), .val (.int (4 : Int32))] [(.int (1 : Int32)), (.ref a0)])) (fun t k => ?_) ?_
    · show Steps p.tables e below (s₁.setTop (mkF m 2 #[.val (.ref a0), .val (.int p1), .val (.int (4 : Int32))] [(.int p1), (.int (4 : Int32))])) t
      refine XS.icmpNo X0.here hx rfl (hb hby d4_2) rfl (tlt hc1).2.1 ?_
      refine XS.aloadN X0.here hx rfl (hb hby d4_5) rfl rfl ?_
      refine XS.iloadN X0.here hx rfl (hb hby d4_6) rfl ?_
      refine XS.iconst X0.here hx rfl (hb hby d4_7) ?_
      refine XS.isub X0.here hx rfl (hb hby d4_8) rfl ?_
      refine XS.iconst X0.here hx rfl (hb hby d4_9) ?_
      refine XS.idiv X0.here hx rfl (hb hby d4_10) rfl (by decide) ?_
      exact k
    have cq2 := V_a
    obtain ⟨clq2, Arq2, qq2, Sq2, Nq2, Hq2, Gq2⟩ := cq2
    have hinq2 := inb_of (j := (1 : Int32)) Sq2 ⟨by decide, by decide⟩
    refine OwnGo.of (X0.daload hx (j := (1 : Int32)) (v := (.double (FP.l2d (G 1)))) (by rw [e0]; exact Arq2.1) (State.isArrayOf_alike hZ.alike Arq2.2.1) Arq2.2.2 hinq2 (Hq2.at hinq2 rfl) (g := (mkF m 11 #[.val (.ref a0), .val (.int p1), .val (.int (4 : Int32))] [(.int (1 : Int32)), (.ref a0)])) rfl rfl (hb hby d4_11)) ?_
    show OwnGo p.tables e below _ (s₁.setTop (mkF m 12 #[.val (.ref a0), .val (.int p1), .val (.int (4 : Int32))] [(.double (FP.l2d (G 1)))]))
    refine OwnGo.of (A := s₁.setTop (mkF m 12 #[.val (.ref a0), .val (.int p1), .val (.int (4 : Int32))] [(.double (FP.l2d (G 1)))])) (B := s₁.setTop (mkF m 14 #[.val (.ref a0), .val (.int p1), .val (.int (4 : Int32))] [(.int (4 : Int32)), (.ref a0), (.double (FP.l2d (G 1)))])) (fun t k => ?_) ?_
    · show Steps p.tables e below (s₁.setTop (mkF m 12 #[.val (.ref a0), .val (.int p1), .val (.int (4 : Int32))] [(.double (FP.l2d (G 1)))])) t
      refine XS.aloadN X0.here hx rfl (hb hby d4_12) rfl rfl ?_
      refine XS.iloadN X0.here hx rfl (hb hby d4_13) rfl ?_
      exact k
    have cq3 := V_a
    obtain ⟨clq3, Arq3, qq3, Sq3, Nq3, Hq3, Gq3⟩ := cq3
    have hinq3 := inb_of (j := (4 : Int32)) Sq3 ⟨by decide, by decide⟩
    refine OwnGo.of (X0.daload hx (j := (4 : Int32)) (v := (.double (FP.l2d (G 4)))) (by rw [e0]; exact Arq3.1) (State.isArrayOf_alike hZ.alike Arq3.2.1) Arq3.2.2 hinq3 (Hq3.at hinq3 rfl) (g := (mkF m 14 #[.val (.ref a0), .val (.int p1), .val (.int (4 : Int32))] [(.int (4 : Int32)), (.ref a0), (.double (FP.l2d (G 1)))])) rfl rfl (hb hby d4_14)) ?_
    show OwnGo p.tables e below _ (s₁.setTop (mkF m 15 #[.val (.ref a0), .val (.int p1), .val (.int (4 : Int32))] [(.double (FP.l2d (G 4))), (.double (FP.l2d (G 1)))]))
    refine OwnGo.of (A := s₁.setTop (mkF m 15 #[.val (.ref a0), .val (.int p1), .val (.int (4 : Int32))] [(.double (FP.l2d (G 4))), (.double (FP.l2d (G 1)))])) (B := s₁.setTop (mkF m 16 #[.val (.ref a0), .val (.int p1), .val (.int (4 : Int32))] [(.int (cmpValue (FP.dcmp (FP.l2d (G 1)) (FP.l2d (G 4))) .g))])) (fun t k => ?_) ?_
    · show Steps p.tables e below (s₁.setTop (mkF m 15 #[.val (.ref a0), .val (.int p1), .val (.int (4 : Int32))] [(.double (FP.l2d (G 4))), (.double (FP.l2d (G 1)))])) t
      refine XS.dcmpS X0.here hx rfl (hb hby d4_15) rfl rfl ?_
      exact k
    have hc4 : ¬ ((0 : Int32) < (cmpValue (FP.dcmp (FP.l2d (G 1)) (FP.l2d (G 4))) .g)) := ho hc1
    refine OwnGo.of (A := s₁.setTop (mkF m 16 #[.val (.ref a0), .val (.int p1), .val (.int (4 : Int32))] [(.int (cmpValue (FP.dcmp (FP.l2d (G 1)) (FP.l2d (G 4))) .g))])) (B := s₁.setTop (mkF m 24 #[.val (.ref a0), .val (.int p1), .val (.int (4 : Int32))] [(.int (1 : Int32))])) (fun t k => ?_) ?_
    · show Steps p.tables e below (s₁.setTop (mkF m 16 #[.val (.ref a0), .val (.int p1), .val (.int (4 : Int32))] [(.int (cmpValue (FP.dcmp (FP.l2d (G 1)) (FP.l2d (G 4))) .g))])) t
      refine XS.ifNo X0.here hx rfl (hb hby d4_16) rfl ((if0 _ _).trans (flt hc4).2.2.1) ?_
      refine XS.iconst X0.here hx rfl (hb hby d4_19) ?_
      refine XS.goto X0.here hx rfl (pc0 := 20) (pc' := 24) rfl (hb hby d4_20) (by decide) (by decide) ?_
      exact k
    obtain ⟨fs, hr, hrun, hended, hW, hsame⟩ := X0.leave (v := some (.int (nar .boolean (1 : Int32)))) (fun h => by rw [Bd.returns] at h; cases h) hlk
    refine ⟨_, _, ?_, hrun, hended, _, _, rfl, ?_, ⟨_, rfl⟩, hW, hsame.mono (by decide) (by decide)⟩
    · show Steps p.tables e below (s₁.setTop (mkF m 24 #[.val (.ref a0), .val (.int p1), .val (.int (4 : Int32))] [(.int (1 : Int32))])) _
      exact retN X0 hx (t := .boolean) Bd.returns (by simp) (hb hby d4_24) hr
    · show Qrmo_4 Z a0 p1 G ka h0 n0 _ (s₁.setFrames fs).heap _
      rw [show (s₁.setFrames fs).heap = h0 from e0]
      exact ⟨rfl, N0, rfl⟩
  · refine OwnGo.of (A := s₁.setTop (mkF m 2 #[.val (.ref a0), .val (.int p1), .val (.int (4 : Int32))] [(.int p1), (.int (4 : Int32))])) (B := s₁.setTop (mkF m 24 #[.val (.ref a0), .val (.int p1), .val (.int (4 : Int32))] [(.int (1 : Int32))])) (fun t k => ?_) ?_
    · show Steps p.tables e below (s₁.setTop (mkF m 2 #[.val (.ref a0), .val (.int p1), .val (.int (4 : Int32))] [(.int p1), (.int (4 : Int32))])) t
      refine XS.icmpYes X0.here hx rfl (pc0 := 2) (pc' := 19) rfl (hb hby d4_2) rfl (flt hc1).2.1 (by decide) (by decide) ?_
      refine XS.iconst X0.here hx rfl (hb hby d4_19) ?_
      refine XS.goto X0.here hx rfl (pc0 := 20) (pc' := 24) rfl (hb hby d4_20) (by decide) (by decide) ?_
      exact k
    obtain ⟨fs, hr, hrun, hended, hW, hsame⟩ := X0.leave (v := some (.int (nar .boolean (1 : Int32)))) (fun h => by rw [Bd.returns] at h; cases h) hlk
    refine ⟨_, _, ?_, hrun, hended, _, _, rfl, ?_, ⟨_, rfl⟩, hW, hsame.mono (by decide) (by decide)⟩
    · show Steps p.tables e below (s₁.setTop (mkF m 24 #[.val (.ref a0), .val (.int p1), .val (.int (4 : Int32))] [(.int (1 : Int32))])) _
      exact retN X0 hx (t := .boolean) Bd.returns (by simp) (hb hby d4_24) hr
    · show Qrmo_4 Z a0 p1 G ka h0 n0 _ (s₁.setFrames fs).heap _
      rw [show (s₁.setFrames fs).heap = h0 from e0]
      exact ⟨rfl, N0, rfl⟩
theorem ef_rmo_5 (m : MethodId) (a0 : Addr) (p1 : Int32) : entryFrame m #[(.ref a0), (.int p1), (.int (5 : Int32))] 3 = mkF m 0 #[.val (.ref a0), .val (.int p1), .val (.int (5 : Int32))] [] := by first | (simp [entryFrame, mkF, argsToLocals, Value.category]; done) | rfl
def Qrmo_5 (Z : State) (a0 : Addr) (p1 : Int32) (G : Nat → Int64) (ka : ClassId) (h0 : Heap) (n0 : Nat) (v : Option Value) (h : Heap) (L : List Loc) : Prop := v = some (.int 1) ∧ Fr n0 L ∧ h = h0
set_option maxRecDepth 65536 in
set_option maxHeartbeats 40000000 in
theorem rmo_5 (l : Launch) (Z : State) (aw : Array Value) (hw : ∀ d ∈ tables_1, d.before aw Z = true) (ws : List Jvm.Cond) (a0 : Addr) (p1 : Int32) (G : Nat → Int64) (ka : ClassId) (h0 : Heap) (n0 : Nat) (Z0 : n0 ≤ h0.size) (V_a : Arv Z h0 a0 ka .double (10 : Int32) (own_l10 (G)) (.double (0 : UInt64))) (ho : (5 : Int32) < p1 → ¬ ((0 : Int32) < (cmpValue (FP.dcmp (FP.l2d (G 2)) (FP.l2d (G 5))) .g))) :
    MetFree l (⟨"com/example/rankwright/rankwright/rank/AccumulatorSiftDownPinLaw", "ordered", "([DII)Z"⟩ : MethodName) (head1 (Jvm.Cond.code (⟨"com/example/rankwright/rankwright/rank/AccumulatorSiftDownPinLaw", "ordered", "([DII)Z"⟩ : MethodName) method_5_code 3 (some .boolean) :: ws) ({ frames := 0, cells := 0, slots := 0, locals := 0 } : Room)) (fun a U => a = #[(.ref a0), (.int p1), (.int (5 : Int32))] ∧ Z.Warmed39 U.vm ∧ U.heap = h0) (fun _ _ _ _ _ => True) (fun _ U o U' => ∃ v L, o = .returned v ∧ Qrmo_5 Z a0 p1 G ka h0 n0 v U'.heap L ∧ FrameEnd U o U' L ({ frames := 0, cells := 0, slots := 0, locals := 0 } : Room).cells ({ frames := 0, cells := 0, slots := 0, locals := 0 } : Room).slots) := by
  refine MetFree.of_bodySF (plainFor_of_name pn_0) hisR ?_
  intro p e s m args below meth c s₁ Bd hml0 hP hK
  obtain ⟨rfl, hZ, hh⟩ := hP
  have hx := Bd.exec
  have hby := Bd.bytes
  have hml : c.maxLocals = 3 := hml0
  have hown : s.vm.findClass "com/example/rankwright/rankwright/rank/AccumulatorSiftDownPinLaw" = some m.cls := findClass_of_methodNamed Bd.named
  have hnm := (name_of_methodNamed Bd.named Bd.method).1
  have X0 : Stand p l e ({ frames := 0, cells := 0, slots := 0, locals := 0 } : Room) s m #[(.ref a0), (.int p1), (.int (5 : Int32))] below meth c s₁ [] 0 0 := Stand.of_body Bd
  have e0 : s₁.heap = h0 := by rw [← hh, Bd.state]; rfl
  have N0 := Fr.nil n0
  have hlk := Bd.notSynchronized
  show OwnGo p.tables e below _ (s₁.setTop (entryFrame m #[(.ref a0), (.int p1), (.int (5 : Int32))] 3))
  rw [ef_rmo_5 m a0 p1]
  show OwnGo p.tables e below _ (s₁.setTop (mkF m 0 #[.val (.ref a0), .val (.int p1), .val (.int (5 : Int32))] []))
  refine OwnGo.of (A := s₁.setTop (mkF m 0 #[.val (.ref a0), .val (.int p1), .val (.int (5 : Int32))] [])) (B := s₁.setTop (mkF m 2 #[.val (.ref a0), .val (.int p1), .val (.int (5 : Int32))] [(.int p1), (.int (5 : Int32))])) (fun t k => ?_) ?_
  · show Steps p.tables e below (s₁.setTop (mkF m 0 #[.val (.ref a0), .val (.int p1), .val (.int (5 : Int32))] [])) t
    refine XS.iloadN X0.here hx rfl (hb hby d4_0) rfl ?_
    refine XS.iloadN X0.here hx rfl (hb hby d4_1) rfl ?_
    exact k
  by_cases hc1 : (5 : Int32) < p1
  · refine OwnGo.of (A := s₁.setTop (mkF m 2 #[.val (.ref a0), .val (.int p1), .val (.int (5 : Int32))] [(.int p1), (.int (5 : Int32))])) (B := s₁.setTop (mkF m 11 #[.val (.ref a0), .val (.int p1), .val (.int (5 : Int32))] [(.int (2 : Int32)), (.ref a0)])) (fun t k => ?_) ?_
    · show Steps p.tables e below (s₁.setTop (mkF m 2 #[.val (.ref a0), .val (.int p1), .val (.int (5 : Int32))] [(.int p1), (.int (5 : Int32))])) t
      refine XS.icmpNo X0.here hx rfl (hb hby d4_2) rfl (tlt hc1).2.1 ?_
      refine XS.aloadN X0.here hx rfl (hb hby d4_5) rfl rfl ?_
      refine XS.iloadN X0.here hx rfl (hb hby d4_6) rfl ?_
      refine XS.iconst X0.here hx rfl (hb hby d4_7) ?_
      refine XS.isub X0.here hx rfl (hb hby d4_8) rfl ?_
      refine XS.iconst X0.here hx rfl (hb hby d4_9) ?_
      refine XS.idiv X0.here hx rfl (hb hby d4_10) rfl (by decide) ?_
      exact k
    have cq2 := V_a
    obtain ⟨clq2, Arq2, qq2, Sq2, Nq2, Hq2, Gq2⟩ := cq2
    have hinq2 := inb_of (j := (2 : Int32)) Sq2 ⟨by decide, by decide⟩
    refine OwnGo.of (X0.daload hx (j := (2 : Int32)) (v := (.double (FP.l2d (G 2)))) (by rw [e0]; exact Arq2.1) (State.isArrayOf_alike hZ.alike Arq2.2.1) Arq2.2.2 hinq2 (Hq2.at hinq2 rfl) (g := (mkF m 11 #[.val (.ref a0), .val (.int p1), .val (.int (5 : Int32))] [(.int (2 : Int32)), (.ref a0)])) rfl rfl (hb hby d4_11)) ?_
    show OwnGo p.tables e below _ (s₁.setTop (mkF m 12 #[.val (.ref a0), .val (.int p1), .val (.int (5 : Int32))] [(.double (FP.l2d (G 2)))]))
    refine OwnGo.of (A := s₁.setTop (mkF m 12 #[.val (.ref a0), .val (.int p1), .val (.int (5 : Int32))] [(.double (FP.l2d (G 2)))])) (B := s₁.setTop (mkF m 14 #[.val (.ref a0), .val (.int p1), .val (.int (5 : Int32))] [(.int (5 : Int32)), (.ref a0), (.double (FP.l2d (G 2)))])) (fun t k => ?_) ?_
    · show Steps p.tables e below (s₁.setTop (mkF m 12 #[.val (.ref a0), .val (.int p1), .val (.int (5 : Int32))] [(.double (FP.l2d (G 2)))])) t
      refine XS.aloadN X0.here hx rfl (hb hby d4_12) rfl rfl ?_
      refine XS.iloadN X0.here hx rfl (hb hby d4_13) rfl ?_
      exact k
    have cq3 := V_a
    obtain ⟨clq3, Arq3, qq3, Sq3, Nq3, Hq3, Gq3⟩ := cq3
    have hinq3 := inb_of (j := (5 : Int32)) Sq3 ⟨by decide, by decide⟩
    refine OwnGo.of (X0.daload hx (j := (5 : Int32)) (v := (.double (FP.l2d (G 5)))) (by rw [e0]; exact Arq3.1) (State.isArrayOf_alike hZ.alike Arq3.2.1) Arq3.2.2 hinq3 (Hq3.at hinq3 rfl) (g := (mkF m 14 #[.val (.ref a0), .val (.int p1), .val (.int (5 : Int32))] [(.int (5 : Int32)), (.ref a0), (.double (FP.l2d (G 2)))])) rfl rfl (hb hby d4_14)) ?_
    show OwnGo p.tables e below _ (s₁.setTop (mkF m 15 #[.val (.ref a0), .val (.int p1), .val (.int (5 : Int32))] [(.double (FP.l2d (G 5))), (.double (FP.l2d (G 2)))]))
    refine OwnGo.of (A := s₁.setTop (mkF m 15 #[.val (.ref a0), .val (.int p1), .val (.int (5 : Int32))] [(.double (FP.l2d (G 5))), (.double (FP.l2d (G 2)))])) (B := s₁.setTop (mkF m 16 #[.val (.ref a0), .val (.int p1), .val (.int (5 : Int32))] [(.int (cmpValue (FP.dcmp (FP.l2d (G 2)) (FP.l2d (G 5))) .g))])) (fun t k => ?_) ?_
    · show Steps p.tables e below (s₁.setTop (mkF m 15 #[.val (.ref a0), .val (.int p1), .val (.int (5 : Int32))] [(.double (FP.l2d (G 5))), (.double (FP.l2d (G 2)))])) t
      refine XS.dcmpS X0.here hx rfl (hb hby d4_15) rfl rfl ?_
      exact k
    have hc4 : ¬ ((0 : Int32) < (cmpValue (FP.dcmp (FP.l2d (G 2)) (FP.l2d (G 5))) .g)) := ho hc1
    refine OwnGo.of (A := s₁.setTop (mkF m 16 #[.val (.ref a0), .val (.int p1), .val (.int (5 : Int32))] [(.int (cmpValue (FP.dcmp (FP.l2d (G 2)) (FP.l2d (G 5))) .g))])) (B := s₁.setTop (mkF m 24 #[.val (.ref a0), .val (.int p1), .val (.int (5 : Int32))] [(.int (1 : Int32))])) (fun t k => ?_) ?_
    · show Steps p.tables e below (s₁.setTop (mkF m 16 #[.val (.ref a0), .val (.int p1), .val (.int (5 : Int32))] [(.int (cmpValue (FP.dcmp (FP.l2d (G 2)) (FP.l2d (G 5))) .g))])) t
      refine XS.ifNo X0.here hx rfl (hb hby d4_16) rfl ((if0 _ _).trans (flt hc4).2.2.1) ?_
      refine XS.iconst X0.here hx rfl (hb hby d4_19) ?_
      refine XS.goto X0.here hx rfl (pc0 := 20) (pc' := 24) rfl (hb hby d4_20) (by decide) (by decide) ?_
      exact k
    obtain ⟨fs, hr, hrun, hended, hW, hsame⟩ := X0.leave (v := some (.int (nar .boolean (1 : Int32)))) (fun h => by rw [Bd.returns] at h; cases h) hlk
    refine ⟨_, _, ?_, hrun, hended, _, _, rfl, ?_, ⟨_, rfl⟩, hW, hsame.mono (by decide) (by decide)⟩
    · show Steps p.tables e below (s₁.setTop (mkF m 24 #[.val (.ref a0), .val (.int p1), .val (.int (5 : Int32))] [(.int (1 : Int32))])) _
      exact retN X0 hx (t := .boolean) Bd.returns (by simp) (hb hby d4_24) hr
    · show Qrmo_5 Z a0 p1 G ka h0 n0 _ (s₁.setFrames fs).heap _
      rw [show (s₁.setFrames fs).heap = h0 from e0]
      exact ⟨rfl, N0, rfl⟩
  · refine OwnGo.of (A := s₁.setTop (mkF m 2 #[.val (.ref a0), .val (.int p1), .val (.int (5 : Int32))] [(.int p1), (.int (5 : Int32))])) (B := s₁.setTop (mkF m 24 #[.val (.ref a0), .val (.int p1), .val (.int (5 : Int32))] [(.int (1 : Int32))])) (fun t k => ?_) ?_
    · show Steps p.tables e below (s₁.setTop (mkF m 2 #[.val (.ref a0), .val (.int p1), .val (.int (5 : Int32))] [(.int p1), (.int (5 : Int32))])) t
      refine XS.icmpYes X0.here hx rfl (pc0 := 2) (pc' := 19) rfl (hb hby d4_2) rfl (flt hc1).2.1 (by decide) (by decide) ?_
      refine XS.iconst X0.here hx rfl (hb hby d4_19) ?_
      refine XS.goto X0.here hx rfl (pc0 := 20) (pc' := 24) rfl (hb hby d4_20) (by decide) (by decide) ?_
      exact k
    obtain ⟨fs, hr, hrun, hended, hW, hsame⟩ := X0.leave (v := some (.int (nar .boolean (1 : Int32)))) (fun h => by rw [Bd.returns] at h; cases h) hlk
    refine ⟨_, _, ?_, hrun, hended, _, _, rfl, ?_, ⟨_, rfl⟩, hW, hsame.mono (by decide) (by decide)⟩
    · show Steps p.tables e below (s₁.setTop (mkF m 24 #[.val (.ref a0), .val (.int p1), .val (.int (5 : Int32))] [(.int (1 : Int32))])) _
      exact retN X0 hx (t := .boolean) Bd.returns (by simp) (hb hby d4_24) hr
    · show Qrmo_5 Z a0 p1 G ka h0 n0 _ (s₁.setFrames fs).heap _
      rw [show (s₁.setFrames fs).heap = h0 from e0]
      exact ⟨rfl, N0, rfl⟩
theorem ef_rmo_6 (m : MethodId) (a0 : Addr) (p1 : Int32) : entryFrame m #[(.ref a0), (.int p1), (.int (6 : Int32))] 3 = mkF m 0 #[.val (.ref a0), .val (.int p1), .val (.int (6 : Int32))] [] := by first | (simp [entryFrame, mkF, argsToLocals, Value.category]; done) | rfl
def Qrmo_6 (Z : State) (a0 : Addr) (p1 : Int32) (G : Nat → Int64) (ka : ClassId) (h0 : Heap) (n0 : Nat) (v : Option Value) (h : Heap) (L : List Loc) : Prop := v = some (.int 1) ∧ Fr n0 L ∧ h = h0
set_option maxRecDepth 65536 in
set_option maxHeartbeats 40000000 in
theorem rmo_6 (l : Launch) (Z : State) (aw : Array Value) (hw : ∀ d ∈ tables_1, d.before aw Z = true) (ws : List Jvm.Cond) (a0 : Addr) (p1 : Int32) (G : Nat → Int64) (ka : ClassId) (h0 : Heap) (n0 : Nat) (Z0 : n0 ≤ h0.size) (V_a : Arv Z h0 a0 ka .double (10 : Int32) (own_l10 (G)) (.double (0 : UInt64))) (ho : (6 : Int32) < p1 → ¬ ((0 : Int32) < (cmpValue (FP.dcmp (FP.l2d (G 2)) (FP.l2d (G 6))) .g))) :
    MetFree l (⟨"com/example/rankwright/rankwright/rank/AccumulatorSiftDownPinLaw", "ordered", "([DII)Z"⟩ : MethodName) (head1 (Jvm.Cond.code (⟨"com/example/rankwright/rankwright/rank/AccumulatorSiftDownPinLaw", "ordered", "([DII)Z"⟩ : MethodName) method_5_code 3 (some .boolean) :: ws) ({ frames := 0, cells := 0, slots := 0, locals := 0 } : Room)) (fun a U => a = #[(.ref a0), (.int p1), (.int (6 : Int32))] ∧ Z.Warmed39 U.vm ∧ U.heap = h0) (fun _ _ _ _ _ => True) (fun _ U o U' => ∃ v L, o = .returned v ∧ Qrmo_6 Z a0 p1 G ka h0 n0 v U'.heap L ∧ FrameEnd U o U' L ({ frames := 0, cells := 0, slots := 0, locals := 0 } : Room).cells ({ frames := 0, cells := 0, slots := 0, locals := 0 } : Room).slots) := by
  refine MetFree.of_bodySF (plainFor_of_name pn_0) hisR ?_
  intro p e s m args below meth c s₁ Bd hml0 hP hK
  obtain ⟨rfl, hZ, hh⟩ := hP
  have hx := Bd.exec
  have hby := Bd.bytes
  have hml : c.maxLocals = 3 := hml0
  have hown : s.vm.findClass "com/example/rankwright/rankwright/rank/AccumulatorSiftDownPinLaw" = some m.cls := findClass_of_methodNamed Bd.named
  have hnm := (name_of_methodNamed Bd.named Bd.method).1
  have X0 : Stand p l e ({ frames := 0, cells := 0, slots := 0, locals := 0 } : Room) s m #[(.ref a0), (.int p1), (.int (6 : Int32))] below meth c s₁ [] 0 0 := Stand.of_body Bd
  have e0 : s₁.heap = h0 := by rw [← hh, Bd.state]; rfl
  have N0 := Fr.nil n0
  have hlk := Bd.notSynchronized
  show OwnGo p.tables e below _ (s₁.setTop (entryFrame m #[(.ref a0), (.int p1), (.int (6 : Int32))] 3))
  rw [ef_rmo_6 m a0 p1]
  show OwnGo p.tables e below _ (s₁.setTop (mkF m 0 #[.val (.ref a0), .val (.int p1), .val (.int (6 : Int32))] []))
  refine OwnGo.of (A := s₁.setTop (mkF m 0 #[.val (.ref a0), .val (.int p1), .val (.int (6 : Int32))] [])) (B := s₁.setTop (mkF m 2 #[.val (.ref a0), .val (.int p1), .val (.int (6 : Int32))] [(.int p1), (.int (6 : Int32))])) (fun t k => ?_) ?_
  · show Steps p.tables e below (s₁.setTop (mkF m 0 #[.val (.ref a0), .val (.int p1), .val (.int (6 : Int32))] [])) t
    refine XS.iloadN X0.here hx rfl (hb hby d4_0) rfl ?_
    refine XS.iloadN X0.here hx rfl (hb hby d4_1) rfl ?_
    exact k
  by_cases hc1 : (6 : Int32) < p1
  · refine OwnGo.of (A := s₁.setTop (mkF m 2 #[.val (.ref a0), .val (.int p1), .val (.int (6 : Int32))] [(.int p1), (.int (6 : Int32))])) (B := s₁.setTop (mkF m 11 #[.val (.ref a0), .val (.int p1), .val (.int (6 : Int32))] [(.int (2 : Int32)), (.ref a0)])) (fun t k => ?_) ?_
    · show Steps p.tables e below (s₁.setTop (mkF m 2 #[.val (.ref a0), .val (.int p1), .val (.int (6 : Int32))] [(.int p1), (.int (6 : Int32))])) t
      refine XS.icmpNo X0.here hx rfl (hb hby d4_2) rfl (tlt hc1).2.1 ?_
      refine XS.aloadN X0.here hx rfl (hb hby d4_5) rfl rfl ?_
      refine XS.iloadN X0.here hx rfl (hb hby d4_6) rfl ?_
      refine XS.iconst X0.here hx rfl (hb hby d4_7) ?_
      refine XS.isub X0.here hx rfl (hb hby d4_8) rfl ?_
      refine XS.iconst X0.here hx rfl (hb hby d4_9) ?_
      refine XS.idiv X0.here hx rfl (hb hby d4_10) rfl (by decide) ?_
      exact k
    have cq2 := V_a
    obtain ⟨clq2, Arq2, qq2, Sq2, Nq2, Hq2, Gq2⟩ := cq2
    have hinq2 := inb_of (j := (2 : Int32)) Sq2 ⟨by decide, by decide⟩
    refine OwnGo.of (X0.daload hx (j := (2 : Int32)) (v := (.double (FP.l2d (G 2)))) (by rw [e0]; exact Arq2.1) (State.isArrayOf_alike hZ.alike Arq2.2.1) Arq2.2.2 hinq2 (Hq2.at hinq2 rfl) (g := (mkF m 11 #[.val (.ref a0), .val (.int p1), .val (.int (6 : Int32))] [(.int (2 : Int32)), (.ref a0)])) rfl rfl (hb hby d4_11)) ?_
    show OwnGo p.tables e below _ (s₁.setTop (mkF m 12 #[.val (.ref a0), .val (.int p1), .val (.int (6 : Int32))] [(.double (FP.l2d (G 2)))]))
    refine OwnGo.of (A := s₁.setTop (mkF m 12 #[.val (.ref a0), .val (.int p1), .val (.int (6 : Int32))] [(.double (FP.l2d (G 2)))])) (B := s₁.setTop (mkF m 14 #[.val (.ref a0), .val (.int p1), .val (.int (6 : Int32))] [(.int (6 : Int32)), (.ref a0), (.double (FP.l2d (G 2)))])) (fun t k => ?_) ?_
    · show Steps p.tables e below (s₁.setTop (mkF m 12 #[.val (.ref a0), .val (.int p1), .val (.int (6 : Int32))] [(.double (FP.l2d (G 2)))])) t
      refine XS.aloadN X0.here hx rfl (hb hby d4_12) rfl rfl ?_
      refine XS.iloadN X0.here hx rfl (hb hby d4_13) rfl ?_
      exact k
    have cq3 := V_a
    obtain ⟨clq3, Arq3, qq3, Sq3, Nq3, Hq3, Gq3⟩ := cq3
    have hinq3 := inb_of (j := (6 : Int32)) Sq3 ⟨by decide, by decide⟩
    refine OwnGo.of (X0.daload hx (j := (6 : Int32)) (v := (.double (FP.l2d (G 6)))) (by rw [e0]; exact Arq3.1) (State.isArrayOf_alike hZ.alike Arq3.2.1) Arq3.2.2 hinq3 (Hq3.at hinq3 rfl) (g := (mkF m 14 #[.val (.ref a0), .val (.int p1), .val (.int (6 : Int32))] [(.int (6 : Int32)), (.ref a0), (.double (FP.l2d (G 2)))])) rfl rfl (hb hby d4_14)) ?_
    show OwnGo p.tables e below _ (s₁.setTop (mkF m 15 #[.val (.ref a0), .val (.int p1), .val (.int (6 : Int32))] [(.double (FP.l2d (G 6))), (.double (FP.l2d (G 2)))]))
    refine OwnGo.of (A := s₁.setTop (mkF m 15 #[.val (.ref a0), .val (.int p1), .val (.int (6 : Int32))] [(.double (FP.l2d (G 6))), (.double (FP.l2d (G 2)))])) (B := s₁.setTop (mkF m 16 #[.val (.ref a0), .val (.int p1), .val (.int (6 : Int32))] [(.int (cmpValue (FP.dcmp (FP.l2d (G 2)) (FP.l2d (G 6))) .g))])) (fun t k => ?_) ?_
    · show Steps p.tables e below (s₁.setTop (mkF m 15 #[.val (.ref a0), .val (.int p1), .val (.int (6 : Int32))] [(.double (FP.l2d (G 6))), (.double (FP.l2d (G 2)))])) t
      refine XS.dcmpS X0.here hx rfl (hb hby d4_15) rfl rfl ?_
      exact k
    have hc4 : ¬ ((0 : Int32) < (cmpValue (FP.dcmp (FP.l2d (G 2)) (FP.l2d (G 6))) .g)) := ho hc1
    refine OwnGo.of (A := s₁.setTop (mkF m 16 #[.val (.ref a0), .val (.int p1), .val (.int (6 : Int32))] [(.int (cmpValue (FP.dcmp (FP.l2d (G 2)) (FP.l2d (G 6))) .g))])) (B := s₁.setTop (mkF m 24 #[.val (.ref a0), .val (.int p1), .val (.int (6 : Int32))] [(.int (1 : Int32))])) (fun t k => ?_) ?_
    · show Steps p.tables e below (s₁.setTop (mkF m 16 #[.val (.ref a0), .val (.int p1), .val (.int (6 : Int32))] [(.int (cmpValue (FP.dcmp (FP.l2d (G 2)) (FP.l2d (G 6))) .g))])) t
      refine XS.ifNo X0.here hx rfl (hb hby d4_16) rfl ((if0 _ _).trans (flt hc4).2.2.1) ?_
      refine XS.iconst X0.here hx rfl (hb hby d4_19) ?_
      refine XS.goto X0.here hx rfl (pc0 := 20) (pc' := 24) rfl (hb hby d4_20) (by decide) (by decide) ?_
      exact k
    obtain ⟨fs, hr, hrun, hended, hW, hsame⟩ := X0.leave (v := some (.int (nar .boolean (1 : Int32)))) (fun h => by rw [Bd.returns] at h; cases h) hlk
    refine ⟨_, _, ?_, hrun, hended, _, _, rfl, ?_, ⟨_, rfl⟩, hW, hsame.mono (by decide) (by decide)⟩
    · show Steps p.tables e below (s₁.setTop (mkF m 24 #[.val (.ref a0), .val (.int p1), .val (.int (6 : Int32))] [(.int (1 : Int32))])) _
      exact retN X0 hx (t := .boolean) Bd.returns (by simp) (hb hby d4_24) hr
    · show Qrmo_6 Z a0 p1 G ka h0 n0 _ (s₁.setFrames fs).heap _
      rw [show (s₁.setFrames fs).heap = h0 from e0]
      exact ⟨rfl, N0, rfl⟩
  · refine OwnGo.of (A := s₁.setTop (mkF m 2 #[.val (.ref a0), .val (.int p1), .val (.int (6 : Int32))] [(.int p1), (.int (6 : Int32))])) (B := s₁.setTop (mkF m 24 #[.val (.ref a0), .val (.int p1), .val (.int (6 : Int32))] [(.int (1 : Int32))])) (fun t k => ?_) ?_
    · show Steps p.tables e below (s₁.setTop (mkF m 2 #[.val (.ref a0), .val (.int p1), .val (.int (6 : Int32))] [(.int p1), (.int (6 : Int32))])) t
      refine XS.icmpYes X0.here hx rfl (pc0 := 2) (pc' := 19) rfl (hb hby d4_2) rfl (flt hc1).2.1 (by decide) (by decide) ?_
      refine XS.iconst X0.here hx rfl (hb hby d4_19) ?_
      refine XS.goto X0.here hx rfl (pc0 := 20) (pc' := 24) rfl (hb hby d4_20) (by decide) (by decide) ?_
      exact k
    obtain ⟨fs, hr, hrun, hended, hW, hsame⟩ := X0.leave (v := some (.int (nar .boolean (1 : Int32)))) (fun h => by rw [Bd.returns] at h; cases h) hlk
    refine ⟨_, _, ?_, hrun, hended, _, _, rfl, ?_, ⟨_, rfl⟩, hW, hsame.mono (by decide) (by decide)⟩
    · show Steps p.tables e below (s₁.setTop (mkF m 24 #[.val (.ref a0), .val (.int p1), .val (.int (6 : Int32))] [(.int (1 : Int32))])) _
      exact retN X0 hx (t := .boolean) Bd.returns (by simp) (hb hby d4_24) hr
    · show Qrmo_6 Z a0 p1 G ka h0 n0 _ (s₁.setFrames fs).heap _
      rw [show (s₁.setFrames fs).heap = h0 from e0]
      exact ⟨rfl, N0, rfl⟩
theorem ef_rmo_7 (m : MethodId) (a0 : Addr) (p1 : Int32) : entryFrame m #[(.ref a0), (.int p1), (.int (7 : Int32))] 3 = mkF m 0 #[.val (.ref a0), .val (.int p1), .val (.int (7 : Int32))] [] := by first | (simp [entryFrame, mkF, argsToLocals, Value.category]; done) | rfl
def Qrmo_7 (Z : State) (a0 : Addr) (p1 : Int32) (G : Nat → Int64) (ka : ClassId) (h0 : Heap) (n0 : Nat) (v : Option Value) (h : Heap) (L : List Loc) : Prop := v = some (.int 1) ∧ Fr n0 L ∧ h = h0
set_option maxRecDepth 65536 in
set_option maxHeartbeats 40000000 in
theorem rmo_7 (l : Launch) (Z : State) (aw : Array Value) (hw : ∀ d ∈ tables_1, d.before aw Z = true) (ws : List Jvm.Cond) (a0 : Addr) (p1 : Int32) (G : Nat → Int64) (ka : ClassId) (h0 : Heap) (n0 : Nat) (Z0 : n0 ≤ h0.size) (V_a : Arv Z h0 a0 ka .double (10 : Int32) (own_l10 (G)) (.double (0 : UInt64))) (ho : (7 : Int32) < p1 → ¬ ((0 : Int32) < (cmpValue (FP.dcmp (FP.l2d (G 3)) (FP.l2d (G 7))) .g))) :
    MetFree l (⟨"com/example/rankwright/rankwright/rank/AccumulatorSiftDownPinLaw", "ordered", "([DII)Z"⟩ : MethodName) (head1 (Jvm.Cond.code (⟨"com/example/rankwright/rankwright/rank/AccumulatorSiftDownPinLaw", "ordered", "([DII)Z"⟩ : MethodName) method_5_code 3 (some .boolean) :: ws) ({ frames := 0, cells := 0, slots := 0, locals := 0 } : Room)) (fun a U => a = #[(.ref a0), (.int p1), (.int (7 : Int32))] ∧ Z.Warmed39 U.vm ∧ U.heap = h0) (fun _ _ _ _ _ => True) (fun _ U o U' => ∃ v L, o = .returned v ∧ Qrmo_7 Z a0 p1 G ka h0 n0 v U'.heap L ∧ FrameEnd U o U' L ({ frames := 0, cells := 0, slots := 0, locals := 0 } : Room).cells ({ frames := 0, cells := 0, slots := 0, locals := 0 } : Room).slots) := by
  refine MetFree.of_bodySF (plainFor_of_name pn_0) hisR ?_
  intro p e s m args below meth c s₁ Bd hml0 hP hK
  obtain ⟨rfl, hZ, hh⟩ := hP
  have hx := Bd.exec
  have hby := Bd.bytes
  have hml : c.maxLocals = 3 := hml0
  have hown : s.vm.findClass "com/example/rankwright/rankwright/rank/AccumulatorSiftDownPinLaw" = some m.cls := findClass_of_methodNamed Bd.named
  have hnm := (name_of_methodNamed Bd.named Bd.method).1
  have X0 : Stand p l e ({ frames := 0, cells := 0, slots := 0, locals := 0 } : Room) s m #[(.ref a0), (.int p1), (.int (7 : Int32))] below meth c s₁ [] 0 0 := Stand.of_body Bd
  have e0 : s₁.heap = h0 := by rw [← hh, Bd.state]; rfl
  have N0 := Fr.nil n0
  have hlk := Bd.notSynchronized
  show OwnGo p.tables e below _ (s₁.setTop (entryFrame m #[(.ref a0), (.int p1), (.int (7 : Int32))] 3))
  rw [ef_rmo_7 m a0 p1]
  show OwnGo p.tables e below _ (s₁.setTop (mkF m 0 #[.val (.ref a0), .val (.int p1), .val (.int (7 : Int32))] []))
  refine OwnGo.of (A := s₁.setTop (mkF m 0 #[.val (.ref a0), .val (.int p1), .val (.int (7 : Int32))] [])) (B := s₁.setTop (mkF m 2 #[.val (.ref a0), .val (.int p1), .val (.int (7 : Int32))] [(.int p1), (.int (7 : Int32))])) (fun t k => ?_) ?_
  · show Steps p.tables e below (s₁.setTop (mkF m 0 #[.val (.ref a0), .val (.int p1), .val (.int (7 : Int32))] [])) t
    refine XS.iloadN X0.here hx rfl (hb hby d4_0) rfl ?_
    refine XS.iloadN X0.here hx rfl (hb hby d4_1) rfl ?_
    exact k
  by_cases hc1 : (7 : Int32) < p1
  · refine OwnGo.of (A := s₁.setTop (mkF m 2 #[.val (.ref a0), .val (.int p1), .val (.int (7 : Int32))] [(.int p1), (.int (7 : Int32))])) (B := s₁.setTop (mkF m 11 #[.val (.ref a0), .val (.int p1), .val (.int (7 : Int32))] [(.int (3 : Int32)), (.ref a0)])) (fun t k => ?_) ?_
    · show Steps p.tables e below (s₁.setTop (mkF m 2 #[.val (.ref a0), .val (.int p1), .val (.int (7 : Int32))] [(.int p1), (.int (7 : Int32))])) t
      refine XS.icmpNo X0.here hx rfl (hb hby d4_2) rfl (tlt hc1).2.1 ?_
      refine XS.aloadN X0.here hx rfl (hb hby d4_5) rfl rfl ?_
      refine XS.iloadN X0.here hx rfl (hb hby d4_6) rfl ?_
      refine XS.iconst X0.here hx rfl (hb hby d4_7) ?_
      refine XS.isub X0.here hx rfl (hb hby d4_8) rfl ?_
      refine XS.iconst X0.here hx rfl (hb hby d4_9) ?_
      refine XS.idiv X0.here hx rfl (hb hby d4_10) rfl (by decide) ?_
      exact k
    have cq2 := V_a
    obtain ⟨clq2, Arq2, qq2, Sq2, Nq2, Hq2, Gq2⟩ := cq2
    have hinq2 := inb_of (j := (3 : Int32)) Sq2 ⟨by decide, by decide⟩
    refine OwnGo.of (X0.daload hx (j := (3 : Int32)) (v := (.double (FP.l2d (G 3)))) (by rw [e0]; exact Arq2.1) (State.isArrayOf_alike hZ.alike Arq2.2.1) Arq2.2.2 hinq2 (Hq2.at hinq2 rfl) (g := (mkF m 11 #[.val (.ref a0), .val (.int p1), .val (.int (7 : Int32))] [(.int (3 : Int32)), (.ref a0)])) rfl rfl (hb hby d4_11)) ?_
    show OwnGo p.tables e below _ (s₁.setTop (mkF m 12 #[.val (.ref a0), .val (.int p1), .val (.int (7 : Int32))] [(.double (FP.l2d (G 3)))]))
    refine OwnGo.of (A := s₁.setTop (mkF m 12 #[.val (.ref a0), .val (.int p1), .val (.int (7 : Int32))] [(.double (FP.l2d (G 3)))])) (B := s₁.setTop (mkF m 14 #[.val (.ref a0), .val (.int p1), .val (.int (7 : Int32))] [(.int (7 : Int32)), (.ref a0), (.double (FP.l2d (G 3)))])) (fun t k => ?_) ?_
    · show Steps p.tables e below (s₁.setTop (mkF m 12 #[.val (.ref a0), .val (.int p1), .val (.int (7 : Int32))] [(.double (FP.l2d (G 3)))])) t
      refine XS.aloadN X0.here hx rfl (hb hby d4_12) rfl rfl ?_
      refine XS.iloadN X0.here hx rfl (hb hby d4_13) rfl ?_
      exact k
    have cq3 := V_a
    obtain ⟨clq3, Arq3, qq3, Sq3, Nq3, Hq3, Gq3⟩ := cq3
    have hinq3 := inb_of (j := (7 : Int32)) Sq3 ⟨by decide, by decide⟩
    refine OwnGo.of (X0.daload hx (j := (7 : Int32)) (v := (.double (FP.l2d (G 7)))) (by rw [e0]; exact Arq3.1) (State.isArrayOf_alike hZ.alike Arq3.2.1) Arq3.2.2 hinq3 (Hq3.at hinq3 rfl) (g := (mkF m 14 #[.val (.ref a0), .val (.int p1), .val (.int (7 : Int32))] [(.int (7 : Int32)), (.ref a0), (.double (FP.l2d (G 3)))])) rfl rfl (hb hby d4_14)) ?_
    show OwnGo p.tables e below _ (s₁.setTop (mkF m 15 #[.val (.ref a0), .val (.int p1), .val (.int (7 : Int32))] [(.double (FP.l2d (G 7))), (.double (FP.l2d (G 3)))]))
    refine OwnGo.of (A := s₁.setTop (mkF m 15 #[.val (.ref a0), .val (.int p1), .val (.int (7 : Int32))] [(.double (FP.l2d (G 7))), (.double (FP.l2d (G 3)))])) (B := s₁.setTop (mkF m 16 #[.val (.ref a0), .val (.int p1), .val (.int (7 : Int32))] [(.int (cmpValue (FP.dcmp (FP.l2d (G 3)) (FP.l2d (G 7))) .g))])) (fun t k => ?_) ?_
    · show Steps p.tables e below (s₁.setTop (mkF m 15 #[.val (.ref a0), .val (.int p1), .val (.int (7 : Int32))] [(.double (FP.l2d (G 7))), (.double (FP.l2d (G 3)))])) t
      refine XS.dcmpS X0.here hx rfl (hb hby d4_15) rfl rfl ?_
      exact k
    have hc4 : ¬ ((0 : Int32) < (cmpValue (FP.dcmp (FP.l2d (G 3)) (FP.l2d (G 7))) .g)) := ho hc1
    refine OwnGo.of (A := s₁.setTop (mkF m 16 #[.val (.ref a0), .val (.int p1), .val (.int (7 : Int32))] [(.int (cmpValue (FP.dcmp (FP.l2d (G 3)) (FP.l2d (G 7))) .g))])) (B := s₁.setTop (mkF m 24 #[.val (.ref a0), .val (.int p1), .val (.int (7 : Int32))] [(.int (1 : Int32))])) (fun t k => ?_) ?_
    · show Steps p.tables e below (s₁.setTop (mkF m 16 #[.val (.ref a0), .val (.int p1), .val (.int (7 : Int32))] [(.int (cmpValue (FP.dcmp (FP.l2d (G 3)) (FP.l2d (G 7))) .g))])) t
      refine XS.ifNo X0.here hx rfl (hb hby d4_16) rfl ((if0 _ _).trans (flt hc4).2.2.1) ?_
      refine XS.iconst X0.here hx rfl (hb hby d4_19) ?_
      refine XS.goto X0.here hx rfl (pc0 := 20) (pc' := 24) rfl (hb hby d4_20) (by decide) (by decide) ?_
      exact k
    obtain ⟨fs, hr, hrun, hended, hW, hsame⟩ := X0.leave (v := some (.int (nar .boolean (1 : Int32)))) (fun h => by rw [Bd.returns] at h; cases h) hlk
    refine ⟨_, _, ?_, hrun, hended, _, _, rfl, ?_, ⟨_, rfl⟩, hW, hsame.mono (by decide) (by decide)⟩
    · show Steps p.tables e below (s₁.setTop (mkF m 24 #[.val (.ref a0), .val (.int p1), .val (.int (7 : Int32))] [(.int (1 : Int32))])) _
      exact retN X0 hx (t := .boolean) Bd.returns (by simp) (hb hby d4_24) hr
    · show Qrmo_7 Z a0 p1 G ka h0 n0 _ (s₁.setFrames fs).heap _
      rw [show (s₁.setFrames fs).heap = h0 from e0]
      exact ⟨rfl, N0, rfl⟩
  · refine OwnGo.of (A := s₁.setTop (mkF m 2 #[.val (.ref a0), .val (.int p1), .val (.int (7 : Int32))] [(.int p1), (.int (7 : Int32))])) (B := s₁.setTop (mkF m 24 #[.val (.ref a0), .val (.int p1), .val (.int (7 : Int32))] [(.int (1 : Int32))])) (fun t k => ?_) ?_
    · show Steps p.tables e below (s₁.setTop (mkF m 2 #[.val (.ref a0), .val (.int p1), .val (.int (7 : Int32))] [(.int p1), (.int (7 : Int32))])) t
      refine XS.icmpYes X0.here hx rfl (pc0 := 2) (pc' := 19) rfl (hb hby d4_2) rfl (flt hc1).2.1 (by decide) (by decide) ?_
      refine XS.iconst X0.here hx rfl (hb hby d4_19) ?_
      refine XS.goto X0.here hx rfl (pc0 := 20) (pc' := 24) rfl (hb hby d4_20) (by decide) (by decide) ?_
      exact k
    obtain ⟨fs, hr, hrun, hended, hW, hsame⟩ := X0.leave (v := some (.int (nar .boolean (1 : Int32)))) (fun h => by rw [Bd.returns] at h; cases h) hlk
    refine ⟨_, _, ?_, hrun, hended, _, _, rfl, ?_, ⟨_, rfl⟩, hW, hsame.mono (by decide) (by decide)⟩
    · show Steps p.tables e below (s₁.setTop (mkF m 24 #[.val (.ref a0), .val (.int p1), .val (.int (7 : Int32))] [(.int (1 : Int32))])) _
      exact retN X0 hx (t := .boolean) Bd.returns (by simp) (hb hby d4_24) hr
    · show Qrmo_7 Z a0 p1 G ka h0 n0 _ (s₁.setFrames fs).heap _
      rw [show (s₁.setFrames fs).heap = h0 from e0]
      exact ⟨rfl, N0, rfl⟩
theorem d5_0 : decode method_6_code 0 = .ok (.iload_n 2, 1) := by decide +kernel
theorem d5_1 : decode method_6_code 1 = .ok (.iload_n 1, 1) := by decide +kernel
theorem d5_2 : decode method_6_code 2 = .ok (.if_icmp .lt 11, 3) := by decide +kernel
theorem d5_5 : decode method_6_code 5 = .ok (.aload_n 0, 1) := by decide +kernel
theorem d5_6 : decode method_6_code 6 = .ok (.iload_n 2, 1) := by decide +kernel
theorem d5_7 : decode method_6_code 7 = .ok (.daload, 1) := by decide +kernel
theorem d5_8 : decode method_6_code 8 = .ok (.dload_n 3, 1) := by decide +kernel
theorem d5_9 : decode method_6_code 9 = .ok (.dcmp .l, 1) := by decide +kernel
theorem d5_10 : decode method_6_code 10 = .ok (.ifCond .ne 7, 3) := by decide +kernel
theorem d5_13 : decode method_6_code 13 = .ok (.iconst 1, 1) := by decide +kernel
theorem d5_14 : decode method_6_code 14 = .ok (.goto 4, 3) := by decide +kernel
theorem d5_18 : decode method_6_code 18 = .ok (.ireturn, 1) := by decide +kernel
theorem ef_rmk_0 (m : MethodId) (a0 : Addr) (p1 : Int32) (x3 : UInt64) : entryFrame m #[(.ref a0), (.int p1), (.int (0 : Int32)), (.double x3)] 5 = mkF m 0 #[.val (.ref a0), .val (.int p1), .val (.int (0 : Int32)), .val (.double x3), .second] [] := by first | (simp [entryFrame, mkF, argsToLocals, Value.category]; done) | rfl
def Qrmk_0 (Z : State) (a0 : Addr) (p1 : Int32) (x3 : UInt64) (G : Nat → Int64) (ka : ClassId) (h0 : Heap) (n0 : Nat) (v : Option Value) (h : Heap) (L : List Loc) : Prop := v = some (.int 1) ∧ Fr n0 L ∧ h = h0
set_option maxRecDepth 65536 in
set_option maxHeartbeats 40000000 in
theorem rmk_0 (l : Launch) (Z : State) (aw : Array Value) (hw : ∀ d ∈ tables_1, d.before aw Z = true) (ws : List Jvm.Cond) (a0 : Addr) (p1 : Int32) (x3 : UInt64) (G : Nat → Int64) (ka : ClassId) (h0 : Heap) (n0 : Nat) (Z0 : n0 ≤ h0.size) (V_a : Arv Z h0 a0 ka .double (10 : Int32) (own_l10 (G)) (.double (0 : UInt64))) (hk : ¬ ((0 : Int32) < p1) → (cmpValue (FP.dcmp (FP.l2d (G 0)) x3) .l) = (0 : Int32)) :
    MetFree l (⟨"com/example/rankwright/rankwright/rank/AccumulatorSiftDownPinLaw", "kept", "([DIID)Z"⟩ : MethodName) (head1 (Jvm.Cond.code (⟨"com/example/rankwright/rankwright/rank/AccumulatorSiftDownPinLaw", "kept", "([DIID)Z"⟩ : MethodName) method_6_code 5 (some .boolean) :: ws) ({ frames := 0, cells := 0, slots := 0, locals := 0 } : Room)) (fun a U => a = #[(.ref a0), (.int p1), (.int (0 : Int32)), (.double x3)] ∧ Z.Warmed39 U.vm ∧ U.heap = h0) (fun _ _ _ _ _ => True) (fun _ U o U' => ∃ v L, o = .returned v ∧ Qrmk_0 Z a0 p1 x3 G ka h0 n0 v U'.heap L ∧ FrameEnd U o U' L ({ frames := 0, cells := 0, slots := 0, locals := 0 } : Room).cells ({ frames := 0, cells := 0, slots := 0, locals := 0 } : Room).slots) := by
  refine MetFree.of_bodySF (plainFor_of_name pn_0) hisR ?_
  intro p e s m args below meth c s₁ Bd hml0 hP hK
  obtain ⟨rfl, hZ, hh⟩ := hP
  have hx := Bd.exec
  have hby := Bd.bytes
  have hml : c.maxLocals = 5 := hml0
  have hown : s.vm.findClass "com/example/rankwright/rankwright/rank/AccumulatorSiftDownPinLaw" = some m.cls := findClass_of_methodNamed Bd.named
  have hnm := (name_of_methodNamed Bd.named Bd.method).1
  have X0 : Stand p l e ({ frames := 0, cells := 0, slots := 0, locals := 0 } : Room) s m #[(.ref a0), (.int p1), (.int (0 : Int32)), (.double x3)] below meth c s₁ [] 0 0 := Stand.of_body Bd
  have e0 : s₁.heap = h0 := by rw [← hh, Bd.state]; rfl
  have N0 := Fr.nil n0
  have hlk := Bd.notSynchronized
  show OwnGo p.tables e below _ (s₁.setTop (entryFrame m #[(.ref a0), (.int p1), (.int (0 : Int32)), (.double x3)] 5))
  rw [ef_rmk_0 m a0 p1 x3]
  show OwnGo p.tables e below _ (s₁.setTop (mkF m 0 #[.val (.ref a0), .val (.int p1), .val (.int (0 : Int32)), .val (.double x3), .second] []))
  refine OwnGo.of (A := s₁.setTop (mkF m 0 #[.val (.ref a0), .val (.int p1), .val (.int (0 : Int32)), .val (.double x3), .second] [])) (B := s₁.setTop (mkF m 2 #[.val (.ref a0), .val (.int p1), .val (.int (0 : Int32)), .val (.double x3), .second] [(.int p1), (.int (0 : Int32))])) (fun t k => ?_) ?_
  · show Steps p.tables e below (s₁.setTop (mkF m 0 #[.val (.ref a0), .val (.int p1), .val (.int (0 : Int32)), .val (.double x3), .second] [])) t
    refine XS.iloadN X0.here hx rfl (hb hby d5_0) rfl ?_
    refine XS.iloadN X0.here hx rfl (hb hby d5_1) rfl ?_
    exact k
  by_cases hc1 : (0 : Int32) < p1
  · refine OwnGo.of (A := s₁.setTop (mkF m 2 #[.val (.ref a0), .val (.int p1), .val (.int (0 : Int32)), .val (.double x3), .second] [(.int p1), (.int (0 : Int32))])) (B := s₁.setTop (mkF m 18 #[.val (.ref a0), .val (.int p1), .val (.int (0 : Int32)), .val (.double x3), .second] [(.int (1 : Int32))])) (fun t k => ?_) ?_
    · show Steps p.tables e below (s₁.setTop (mkF m 2 #[.val (.ref a0), .val (.int p1), .val (.int (0 : Int32)), .val (.double x3), .second] [(.int p1), (.int (0 : Int32))])) t
      refine XS.icmpYes X0.here hx rfl (pc0 := 2) (pc' := 13) rfl (hb hby d5_2) rfl (tlt hc1).1 (by decide) (by decide) ?_
      refine XS.iconst X0.here hx rfl (hb hby d5_13) ?_
      refine XS.goto X0.here hx rfl (pc0 := 14) (pc' := 18) rfl (hb hby d5_14) (by decide) (by decide) ?_
      exact k
    obtain ⟨fs, hr, hrun, hended, hW, hsame⟩ := X0.leave (v := some (.int (nar .boolean (1 : Int32)))) (fun h => by rw [Bd.returns] at h; cases h) hlk
    refine ⟨_, _, ?_, hrun, hended, _, _, rfl, ?_, ⟨_, rfl⟩, hW, hsame.mono (by decide) (by decide)⟩
    · show Steps p.tables e below (s₁.setTop (mkF m 18 #[.val (.ref a0), .val (.int p1), .val (.int (0 : Int32)), .val (.double x3), .second] [(.int (1 : Int32))])) _
      exact retN X0 hx (t := .boolean) Bd.returns (by simp) (hb hby d5_18) hr
    · show Qrmk_0 Z a0 p1 x3 G ka h0 n0 _ (s₁.setFrames fs).heap _
      rw [show (s₁.setFrames fs).heap = h0 from e0]
      exact ⟨rfl, N0, rfl⟩
  · refine OwnGo.of (A := s₁.setTop (mkF m 2 #[.val (.ref a0), .val (.int p1), .val (.int (0 : Int32)), .val (.double x3), .second] [(.int p1), (.int (0 : Int32))])) (B := s₁.setTop (mkF m 7 #[.val (.ref a0), .val (.int p1), .val (.int (0 : Int32)), .val (.double x3), .second] [(.int (0 : Int32)), (.ref a0)])) (fun t k => ?_) ?_
    · show Steps p.tables e below (s₁.setTop (mkF m 2 #[.val (.ref a0), .val (.int p1), .val (.int (0 : Int32)), .val (.double x3), .second] [(.int p1), (.int (0 : Int32))])) t
      refine XS.icmpNo X0.here hx rfl (hb hby d5_2) rfl (flt hc1).1 ?_
      refine XS.aloadN X0.here hx rfl (hb hby d5_5) rfl rfl ?_
      refine XS.iloadN X0.here hx rfl (hb hby d5_6) rfl ?_
      exact k
    have cq3 := V_a
    obtain ⟨clq3, Arq3, qq3, Sq3, Nq3, Hq3, Gq3⟩ := cq3
    have hinq3 := inb_of (j := (0 : Int32)) Sq3 ⟨by decide, by decide⟩
    refine OwnGo.of (X0.daload hx (j := (0 : Int32)) (v := (.double (FP.l2d (G 0)))) (by rw [e0]; exact Arq3.1) (State.isArrayOf_alike hZ.alike Arq3.2.1) Arq3.2.2 hinq3 (Hq3.at hinq3 rfl) (g := (mkF m 7 #[.val (.ref a0), .val (.int p1), .val (.int (0 : Int32)), .val (.double x3), .second] [(.int (0 : Int32)), (.ref a0)])) rfl rfl (hb hby d5_7)) ?_
    show OwnGo p.tables e below _ (s₁.setTop (mkF m 8 #[.val (.ref a0), .val (.int p1), .val (.int (0 : Int32)), .val (.double x3), .second] [(.double (FP.l2d (G 0)))]))
    refine OwnGo.of (A := s₁.setTop (mkF m 8 #[.val (.ref a0), .val (.int p1), .val (.int (0 : Int32)), .val (.double x3), .second] [(.double (FP.l2d (G 0)))])) (B := s₁.setTop (mkF m 10 #[.val (.ref a0), .val (.int p1), .val (.int (0 : Int32)), .val (.double x3), .second] [(.int (cmpValue (FP.dcmp (FP.l2d (G 0)) x3) .l))])) (fun t k => ?_) ?_
    · show Steps p.tables e below (s₁.setTop (mkF m 8 #[.val (.ref a0), .val (.int p1), .val (.int (0 : Int32)), .val (.double x3), .second] [(.double (FP.l2d (G 0)))])) t
      refine XS.dloadN X0.here hx rfl (hb hby d5_8) rfl ?_
      refine XS.dcmpS X0.here hx rfl (hb hby d5_9) rfl rfl ?_
      exact k
    have hc4 : (cmpValue (FP.dcmp (FP.l2d (G 0)) x3) .l) = (0 : Int32) := hk hc1
    refine OwnGo.of (A := s₁.setTop (mkF m 10 #[.val (.ref a0), .val (.int p1), .val (.int (0 : Int32)), .val (.double x3), .second] [(.int (cmpValue (FP.dcmp (FP.l2d (G 0)) x3) .l))])) (B := s₁.setTop (mkF m 18 #[.val (.ref a0), .val (.int p1), .val (.int (0 : Int32)), .val (.double x3), .second] [(.int (1 : Int32))])) (fun t k => ?_) ?_
    · show Steps p.tables e below (s₁.setTop (mkF m 10 #[.val (.ref a0), .val (.int p1), .val (.int (0 : Int32)), .val (.double x3), .second] [(.int (cmpValue (FP.dcmp (FP.l2d (G 0)) x3) .l))])) t
      refine XS.ifNo X0.here hx rfl (hb hby d5_10) rfl ((if0 _ _).trans (teq hc4).2) ?_
      refine XS.iconst X0.here hx rfl (hb hby d5_13) ?_
      refine XS.goto X0.here hx rfl (pc0 := 14) (pc' := 18) rfl (hb hby d5_14) (by decide) (by decide) ?_
      exact k
    obtain ⟨fs, hr, hrun, hended, hW, hsame⟩ := X0.leave (v := some (.int (nar .boolean (1 : Int32)))) (fun h => by rw [Bd.returns] at h; cases h) hlk
    refine ⟨_, _, ?_, hrun, hended, _, _, rfl, ?_, ⟨_, rfl⟩, hW, hsame.mono (by decide) (by decide)⟩
    · show Steps p.tables e below (s₁.setTop (mkF m 18 #[.val (.ref a0), .val (.int p1), .val (.int (0 : Int32)), .val (.double x3), .second] [(.int (1 : Int32))])) _
      exact retN X0 hx (t := .boolean) Bd.returns (by simp) (hb hby d5_18) hr
    · show Qrmk_0 Z a0 p1 x3 G ka h0 n0 _ (s₁.setFrames fs).heap _
      rw [show (s₁.setFrames fs).heap = h0 from e0]
      exact ⟨rfl, N0, rfl⟩
theorem ef_rmk_1 (m : MethodId) (a0 : Addr) (p1 : Int32) (x3 : UInt64) : entryFrame m #[(.ref a0), (.int p1), (.int (1 : Int32)), (.double x3)] 5 = mkF m 0 #[.val (.ref a0), .val (.int p1), .val (.int (1 : Int32)), .val (.double x3), .second] [] := by first | (simp [entryFrame, mkF, argsToLocals, Value.category]; done) | rfl
def Qrmk_1 (Z : State) (a0 : Addr) (p1 : Int32) (x3 : UInt64) (G : Nat → Int64) (ka : ClassId) (h0 : Heap) (n0 : Nat) (v : Option Value) (h : Heap) (L : List Loc) : Prop := v = some (.int 1) ∧ Fr n0 L ∧ h = h0
set_option maxRecDepth 65536 in
set_option maxHeartbeats 40000000 in
theorem rmk_1 (l : Launch) (Z : State) (aw : Array Value) (hw : ∀ d ∈ tables_1, d.before aw Z = true) (ws : List Jvm.Cond) (a0 : Addr) (p1 : Int32) (x3 : UInt64) (G : Nat → Int64) (ka : ClassId) (h0 : Heap) (n0 : Nat) (Z0 : n0 ≤ h0.size) (V_a : Arv Z h0 a0 ka .double (10 : Int32) (own_l10 (G)) (.double (0 : UInt64))) (hk : ¬ ((1 : Int32) < p1) → (cmpValue (FP.dcmp (FP.l2d (G 1)) x3) .l) = (0 : Int32)) :
    MetFree l (⟨"com/example/rankwright/rankwright/rank/AccumulatorSiftDownPinLaw", "kept", "([DIID)Z"⟩ : MethodName) (head1 (Jvm.Cond.code (⟨"com/example/rankwright/rankwright/rank/AccumulatorSiftDownPinLaw", "kept", "([DIID)Z"⟩ : MethodName) method_6_code 5 (some .boolean) :: ws) ({ frames := 0, cells := 0, slots := 0, locals := 0 } : Room)) (fun a U => a = #[(.ref a0), (.int p1), (.int (1 : Int32)), (.double x3)] ∧ Z.Warmed39 U.vm ∧ U.heap = h0) (fun _ _ _ _ _ => True) (fun _ U o U' => ∃ v L, o = .returned v ∧ Qrmk_1 Z a0 p1 x3 G ka h0 n0 v U'.heap L ∧ FrameEnd U o U' L ({ frames := 0, cells := 0, slots := 0, locals := 0 } : Room).cells ({ frames := 0, cells := 0, slots := 0, locals := 0 } : Room).slots) := by
  refine MetFree.of_bodySF (plainFor_of_name pn_0) hisR ?_
  intro p e s m args below meth c s₁ Bd hml0 hP hK
  obtain ⟨rfl, hZ, hh⟩ := hP
  have hx := Bd.exec
  have hby := Bd.bytes
  have hml : c.maxLocals = 5 := hml0
  have hown : s.vm.findClass "com/example/rankwright/rankwright/rank/AccumulatorSiftDownPinLaw" = some m.cls := findClass_of_methodNamed Bd.named
  have hnm := (name_of_methodNamed Bd.named Bd.method).1
  have X0 : Stand p l e ({ frames := 0, cells := 0, slots := 0, locals := 0 } : Room) s m #[(.ref a0), (.int p1), (.int (1 : Int32)), (.double x3)] below meth c s₁ [] 0 0 := Stand.of_body Bd
  have e0 : s₁.heap = h0 := by rw [← hh, Bd.state]; rfl
  have N0 := Fr.nil n0
  have hlk := Bd.notSynchronized
  show OwnGo p.tables e below _ (s₁.setTop (entryFrame m #[(.ref a0), (.int p1), (.int (1 : Int32)), (.double x3)] 5))
  rw [ef_rmk_1 m a0 p1 x3]
  show OwnGo p.tables e below _ (s₁.setTop (mkF m 0 #[.val (.ref a0), .val (.int p1), .val (.int (1 : Int32)), .val (.double x3), .second] []))
  refine OwnGo.of (A := s₁.setTop (mkF m 0 #[.val (.ref a0), .val (.int p1), .val (.int (1 : Int32)), .val (.double x3), .second] [])) (B := s₁.setTop (mkF m 2 #[.val (.ref a0), .val (.int p1), .val (.int (1 : Int32)), .val (.double x3), .second] [(.int p1), (.int (1 : Int32))])) (fun t k => ?_) ?_
  · show Steps p.tables e below (s₁.setTop (mkF m 0 #[.val (.ref a0), .val (.int p1), .val (.int (1 : Int32)), .val (.double x3), .second] [])) t
    refine XS.iloadN X0.here hx rfl (hb hby d5_0) rfl ?_
    refine XS.iloadN X0.here hx rfl (hb hby d5_1) rfl ?_
    exact k
  by_cases hc1 : (1 : Int32) < p1
  · refine OwnGo.of (A := s₁.setTop (mkF m 2 #[.val (.ref a0), .val (.int p1), .val (.int (1 : Int32)), .val (.double x3), .second] [(.int p1), (.int (1 : Int32))])) (B := s₁.setTop (mkF m 18 #[.val (.ref a0), .val (.int p1), .val (.int (1 : Int32)), .val (.double x3), .second] [(.int (1 : Int32))])) (fun t k => ?_) ?_
    · show Steps p.tables e below (s₁.setTop (mkF m 2 #[.val (.ref a0), .val (.int p1), .val (.int (1 : Int32)), .val (.double x3), .second] [(.int p1), (.int (1 : Int32))])) t
      refine XS.icmpYes X0.here hx rfl (pc0 := 2) (pc' := 13) rfl (hb hby d5_2) rfl (tlt hc1).1 (by decide) (by decide) ?_
      refine XS.iconst X0.here hx rfl (hb hby d5_13) ?_
      refine XS.goto X0.here hx rfl (pc0 := 14) (pc' := 18) rfl (hb hby d5_14) (by decide) (by decide) ?_
      exact k
    obtain ⟨fs, hr, hrun, hended, hW, hsame⟩ := X0.leave (v := some (.int (nar .boolean (1 : Int32)))) (fun h => by rw [Bd.returns] at h; cases h) hlk
    refine ⟨_, _, ?_, hrun, hended, _, _, rfl, ?_, ⟨_, rfl⟩, hW, hsame.mono (by decide) (by decide)⟩
    · show Steps p.tables e below (s₁.setTop (mkF m 18 #[.val (.ref a0), .val (.int p1), .val (.int (1 : Int32)), .val (.double x3), .second] [(.int (1 : Int32))])) _
      exact retN X0 hx (t := .boolean) Bd.returns (by simp) (hb hby d5_18) hr
    · show Qrmk_1 Z a0 p1 x3 G ka h0 n0 _ (s₁.setFrames fs).heap _
      rw [show (s₁.setFrames fs).heap = h0 from e0]
      exact ⟨rfl, N0, rfl⟩
  · refine OwnGo.of (A := s₁.setTop (mkF m 2 #[.val (.ref a0), .val (.int p1), .val (.int (1 : Int32)), .val (.double x3), .second] [(.int p1), (.int (1 : Int32))])) (B := s₁.setTop (mkF m 7 #[.val (.ref a0), .val (.int p1), .val (.int (1 : Int32)), .val (.double x3), .second] [(.int (1 : Int32)), (.ref a0)])) (fun t k => ?_) ?_
    · show Steps p.tables e below (s₁.setTop (mkF m 2 #[.val (.ref a0), .val (.int p1), .val (.int (1 : Int32)), .val (.double x3), .second] [(.int p1), (.int (1 : Int32))])) t
      refine XS.icmpNo X0.here hx rfl (hb hby d5_2) rfl (flt hc1).1 ?_
      refine XS.aloadN X0.here hx rfl (hb hby d5_5) rfl rfl ?_
      refine XS.iloadN X0.here hx rfl (hb hby d5_6) rfl ?_
      exact k
    have cq3 := V_a
    obtain ⟨clq3, Arq3, qq3, Sq3, Nq3, Hq3, Gq3⟩ := cq3
    have hinq3 := inb_of (j := (1 : Int32)) Sq3 ⟨by decide, by decide⟩
    refine OwnGo.of (X0.daload hx (j := (1 : Int32)) (v := (.double (FP.l2d (G 1)))) (by rw [e0]; exact Arq3.1) (State.isArrayOf_alike hZ.alike Arq3.2.1) Arq3.2.2 hinq3 (Hq3.at hinq3 rfl) (g := (mkF m 7 #[.val (.ref a0), .val (.int p1), .val (.int (1 : Int32)), .val (.double x3), .second] [(.int (1 : Int32)), (.ref a0)])) rfl rfl (hb hby d5_7)) ?_
    show OwnGo p.tables e below _ (s₁.setTop (mkF m 8 #[.val (.ref a0), .val (.int p1), .val (.int (1 : Int32)), .val (.double x3), .second] [(.double (FP.l2d (G 1)))]))
    refine OwnGo.of (A := s₁.setTop (mkF m 8 #[.val (.ref a0), .val (.int p1), .val (.int (1 : Int32)), .val (.double x3), .second] [(.double (FP.l2d (G 1)))])) (B := s₁.setTop (mkF m 10 #[.val (.ref a0), .val (.int p1), .val (.int (1 : Int32)), .val (.double x3), .second] [(.int (cmpValue (FP.dcmp (FP.l2d (G 1)) x3) .l))])) (fun t k => ?_) ?_
    · show Steps p.tables e below (s₁.setTop (mkF m 8 #[.val (.ref a0), .val (.int p1), .val (.int (1 : Int32)), .val (.double x3), .second] [(.double (FP.l2d (G 1)))])) t
      refine XS.dloadN X0.here hx rfl (hb hby d5_8) rfl ?_
      refine XS.dcmpS X0.here hx rfl (hb hby d5_9) rfl rfl ?_
      exact k
    have hc4 : (cmpValue (FP.dcmp (FP.l2d (G 1)) x3) .l) = (0 : Int32) := hk hc1
    refine OwnGo.of (A := s₁.setTop (mkF m 10 #[.val (.ref a0), .val (.int p1), .val (.int (1 : Int32)), .val (.double x3), .second] [(.int (cmpValue (FP.dcmp (FP.l2d (G 1)) x3) .l))])) (B := s₁.setTop (mkF m 18 #[.val (.ref a0), .val (.int p1), .val (.int (1 : Int32)), .val (.double x3), .second] [(.int (1 : Int32))])) (fun t k => ?_) ?_
    · show Steps p.tables e below (s₁.setTop (mkF m 10 #[.val (.ref a0), .val (.int p1), .val (.int (1 : Int32)), .val (.double x3), .second] [(.int (cmpValue (FP.dcmp (FP.l2d (G 1)) x3) .l))])) t
      refine XS.ifNo X0.here hx rfl (hb hby d5_10) rfl ((if0 _ _).trans (teq hc4).2) ?_
      refine XS.iconst X0.here hx rfl (hb hby d5_13) ?_
      refine XS.goto X0.here hx rfl (pc0 := 14) (pc' := 18) rfl (hb hby d5_14) (by decide) (by decide) ?_
      exact k
    obtain ⟨fs, hr, hrun, hended, hW, hsame⟩ := X0.leave (v := some (.int (nar .boolean (1 : Int32)))) (fun h => by rw [Bd.returns] at h; cases h) hlk
    refine ⟨_, _, ?_, hrun, hended, _, _, rfl, ?_, ⟨_, rfl⟩, hW, hsame.mono (by decide) (by decide)⟩
    · show Steps p.tables e below (s₁.setTop (mkF m 18 #[.val (.ref a0), .val (.int p1), .val (.int (1 : Int32)), .val (.double x3), .second] [(.int (1 : Int32))])) _
      exact retN X0 hx (t := .boolean) Bd.returns (by simp) (hb hby d5_18) hr
    · show Qrmk_1 Z a0 p1 x3 G ka h0 n0 _ (s₁.setFrames fs).heap _
      rw [show (s₁.setFrames fs).heap = h0 from e0]
      exact ⟨rfl, N0, rfl⟩
theorem ef_rmk_2 (m : MethodId) (a0 : Addr) (p1 : Int32) (x3 : UInt64) : entryFrame m #[(.ref a0), (.int p1), (.int (2 : Int32)), (.double x3)] 5 = mkF m 0 #[.val (.ref a0), .val (.int p1), .val (.int (2 : Int32)), .val (.double x3), .second] [] := by first | (simp [entryFrame, mkF, argsToLocals, Value.category]; done) | rfl
def Qrmk_2 (Z : State) (a0 : Addr) (p1 : Int32) (x3 : UInt64) (G : Nat → Int64) (ka : ClassId) (h0 : Heap) (n0 : Nat) (v : Option Value) (h : Heap) (L : List Loc) : Prop := v = some (.int 1) ∧ Fr n0 L ∧ h = h0
set_option maxRecDepth 65536 in
set_option maxHeartbeats 40000000 in
theorem rmk_2 (l : Launch) (Z : State) (aw : Array Value) (hw : ∀ d ∈ tables_1, d.before aw Z = true) (ws : List Jvm.Cond) (a0 : Addr) (p1 : Int32) (x3 : UInt64) (G : Nat → Int64) (ka : ClassId) (h0 : Heap) (n0 : Nat) (Z0 : n0 ≤ h0.size) (V_a : Arv Z h0 a0 ka .double (10 : Int32) (own_l10 (G)) (.double (0 : UInt64))) (hk : ¬ ((2 : Int32) < p1) → (cmpValue (FP.dcmp (FP.l2d (G 2)) x3) .l) = (0 : Int32)) :
    MetFree l (⟨"com/example/rankwright/rankwright/rank/AccumulatorSiftDownPinLaw", "kept", "([DIID)Z"⟩ : MethodName) (head1 (Jvm.Cond.code (⟨"com/example/rankwright/rankwright/rank/AccumulatorSiftDownPinLaw", "kept", "([DIID)Z"⟩ : MethodName) method_6_code 5 (some .boolean) :: ws) ({ frames := 0, cells := 0, slots := 0, locals := 0 } : Room)) (fun a U => a = #[(.ref a0), (.int p1), (.int (2 : Int32)), (.double x3)] ∧ Z.Warmed39 U.vm ∧ U.heap = h0) (fun _ _ _ _ _ => True) (fun _ U o U' => ∃ v L, o = .returned v ∧ Qrmk_2 Z a0 p1 x3 G ka h0 n0 v U'.heap L ∧ FrameEnd U o U' L ({ frames := 0, cells := 0, slots := 0, locals := 0 } : Room).cells ({ frames := 0, cells := 0, slots := 0, locals := 0 } : Room).slots) := by
  refine MetFree.of_bodySF (plainFor_of_name pn_0) hisR ?_
  intro p e s m args below meth c s₁ Bd hml0 hP hK
  obtain ⟨rfl, hZ, hh⟩ := hP
  have hx := Bd.exec
  have hby := Bd.bytes
  have hml : c.maxLocals = 5 := hml0
  have hown : s.vm.findClass "com/example/rankwright/rankwright/rank/AccumulatorSiftDownPinLaw" = some m.cls := findClass_of_methodNamed Bd.named
  have hnm := (name_of_methodNamed Bd.named Bd.method).1
  have X0 : Stand p l e ({ frames := 0, cells := 0, slots := 0, locals := 0 } : Room) s m #[(.ref a0), (.int p1), (.int (2 : Int32)), (.double x3)] below meth c s₁ [] 0 0 := Stand.of_body Bd
  have e0 : s₁.heap = h0 := by rw [← hh, Bd.state]; rfl
  have N0 := Fr.nil n0
  have hlk := Bd.notSynchronized
  show OwnGo p.tables e below _ (s₁.setTop (entryFrame m #[(.ref a0), (.int p1), (.int (2 : Int32)), (.double x3)] 5))
  rw [ef_rmk_2 m a0 p1 x3]
  show OwnGo p.tables e below _ (s₁.setTop (mkF m 0 #[.val (.ref a0), .val (.int p1), .val (.int (2 : Int32)), .val (.double x3), .second] []))
  refine OwnGo.of (A := s₁.setTop (mkF m 0 #[.val (.ref a0), .val (.int p1), .val (.int (2 : Int32)), .val (.double x3), .second] [])) (B := s₁.setTop (mkF m 2 #[.val (.ref a0), .val (.int p1), .val (.int (2 : Int32)), .val (.double x3), .second] [(.int p1), (.int (2 : Int32))])) (fun t k => ?_) ?_
  · show Steps p.tables e below (s₁.setTop (mkF m 0 #[.val (.ref a0), .val (.int p1), .val (.int (2 : Int32)), .val (.double x3), .second] [])) t
    refine XS.iloadN X0.here hx rfl (hb hby d5_0) rfl ?_
    refine XS.iloadN X0.here hx rfl (hb hby d5_1) rfl ?_
    exact k
  by_cases hc1 : (2 : Int32) < p1
  · refine OwnGo.of (A := s₁.setTop (mkF m 2 #[.val (.ref a0), .val (.int p1), .val (.int (2 : Int32)), .val (.double x3), .second] [(.int p1), (.int (2 : Int32))])) (B := s₁.setTop (mkF m 18 #[.val (.ref a0), .val (.int p1), .val (.int (2 : Int32)), .val (.double x3), .second] [(.int (1 : Int32))])) (fun t k => ?_) ?_
    · show Steps p.tables e below (s₁.setTop (mkF m 2 #[.val (.ref a0), .val (.int p1), .val (.int (2 : Int32)), .val (.double x3), .second] [(.int p1), (.int (2 : Int32))])) t
      refine XS.icmpYes X0.here hx rfl (pc0 := 2) (pc' := 13) rfl (hb hby d5_2) rfl (tlt hc1).1 (by decide) (by decide) ?_
      refine XS.iconst X0.here hx rfl (hb hby d5_13) ?_
      refine XS.goto X0.here hx rfl (pc0 := 14) (pc' := 18) rfl (hb hby d5_14) (by decide) (by decide) ?_
      exact k
    obtain ⟨fs, hr, hrun, hended, hW, hsame⟩ := X0.leave (v := some (.int (nar .boolean (1 : Int32)))) (fun h => by rw [Bd.returns] at h; cases h) hlk
    refine ⟨_, _, ?_, hrun, hended, _, _, rfl, ?_, ⟨_, rfl⟩, hW, hsame.mono (by decide) (by decide)⟩
    · show Steps p.tables e below (s₁.setTop (mkF m 18 #[.val (.ref a0), .val (.int p1), .val (.int (2 : Int32)), .val (.double x3), .second] [(.int (1 : Int32))])) _
      exact retN X0 hx (t := .boolean) Bd.returns (by simp) (hb hby d5_18) hr
    · show Qrmk_2 Z a0 p1 x3 G ka h0 n0 _ (s₁.setFrames fs).heap _
      rw [show (s₁.setFrames fs).heap = h0 from e0]
      exact ⟨rfl, N0, rfl⟩
  · refine OwnGo.of (A := s₁.setTop (mkF m 2 #[.val (.ref a0), .val (.int p1), .val (.int (2 : Int32)), .val (.double x3), .second] [(.int p1), (.int (2 : Int32))])) (B := s₁.setTop (mkF m 7 #[.val (.ref a0), .val (.int p1), .val (.int (2 : Int32)), .val (.double x3), .second] [(.int (2 : Int32)), (.ref a0)])) (fun t k => ?_) ?_
    · show Steps p.tables e below (s₁.setTop (mkF m 2 #[.val (.ref a0), .val (.int p1), .val (.int (2 : Int32)), .val (.double x3), .second] [(.int p1), (.int (2 : Int32))])) t
      refine XS.icmpNo X0.here hx rfl (hb hby d5_2) rfl (flt hc1).1 ?_
      refine XS.aloadN X0.here hx rfl (hb hby d5_5) rfl rfl ?_
      refine XS.iloadN X0.here hx rfl (hb hby d5_6) rfl ?_
      exact k
    have cq3 := V_a
    obtain ⟨clq3, Arq3, qq3, Sq3, Nq3, Hq3, Gq3⟩ := cq3
    have hinq3 := inb_of (j := (2 : Int32)) Sq3 ⟨by decide, by decide⟩
    refine OwnGo.of (X0.daload hx (j := (2 : Int32)) (v := (.double (FP.l2d (G 2)))) (by rw [e0]; exact Arq3.1) (State.isArrayOf_alike hZ.alike Arq3.2.1) Arq3.2.2 hinq3 (Hq3.at hinq3 rfl) (g := (mkF m 7 #[.val (.ref a0), .val (.int p1), .val (.int (2 : Int32)), .val (.double x3), .second] [(.int (2 : Int32)), (.ref a0)])) rfl rfl (hb hby d5_7)) ?_
    show OwnGo p.tables e below _ (s₁.setTop (mkF m 8 #[.val (.ref a0), .val (.int p1), .val (.int (2 : Int32)), .val (.double x3), .second] [(.double (FP.l2d (G 2)))]))
    refine OwnGo.of (A := s₁.setTop (mkF m 8 #[.val (.ref a0), .val (.int p1), .val (.int (2 : Int32)), .val (.double x3), .second] [(.double (FP.l2d (G 2)))])) (B := s₁.setTop (mkF m 10 #[.val (.ref a0), .val (.int p1), .val (.int (2 : Int32)), .val (.double x3), .second] [(.int (cmpValue (FP.dcmp (FP.l2d (G 2)) x3) .l))])) (fun t k => ?_) ?_
    · show Steps p.tables e below (s₁.setTop (mkF m 8 #[.val (.ref a0), .val (.int p1), .val (.int (2 : Int32)), .val (.double x3), .second] [(.double (FP.l2d (G 2)))])) t
      refine XS.dloadN X0.here hx rfl (hb hby d5_8) rfl ?_
      refine XS.dcmpS X0.here hx rfl (hb hby d5_9) rfl rfl ?_
      exact k
    have hc4 : (cmpValue (FP.dcmp (FP.l2d (G 2)) x3) .l) = (0 : Int32) := hk hc1
    refine OwnGo.of (A := s₁.setTop (mkF m 10 #[.val (.ref a0), .val (.int p1), .val (.int (2 : Int32)), .val (.double x3), .second] [(.int (cmpValue (FP.dcmp (FP.l2d (G 2)) x3) .l))])) (B := s₁.setTop (mkF m 18 #[.val (.ref a0), .val (.int p1), .val (.int (2 : Int32)), .val (.double x3), .second] [(.int (1 : Int32))])) (fun t k => ?_) ?_
    · show Steps p.tables e below (s₁.setTop (mkF m 10 #[.val (.ref a0), .val (.int p1), .val (.int (2 : Int32)), .val (.double x3), .second] [(.int (cmpValue (FP.dcmp (FP.l2d (G 2)) x3) .l))])) t
      refine XS.ifNo X0.here hx rfl (hb hby d5_10) rfl ((if0 _ _).trans (teq hc4).2) ?_
      refine XS.iconst X0.here hx rfl (hb hby d5_13) ?_
      refine XS.goto X0.here hx rfl (pc0 := 14) (pc' := 18) rfl (hb hby d5_14) (by decide) (by decide) ?_
      exact k
    obtain ⟨fs, hr, hrun, hended, hW, hsame⟩ := X0.leave (v := some (.int (nar .boolean (1 : Int32)))) (fun h => by rw [Bd.returns] at h; cases h) hlk
    refine ⟨_, _, ?_, hrun, hended, _, _, rfl, ?_, ⟨_, rfl⟩, hW, hsame.mono (by decide) (by decide)⟩
    · show Steps p.tables e below (s₁.setTop (mkF m 18 #[.val (.ref a0), .val (.int p1), .val (.int (2 : Int32)), .val (.double x3), .second] [(.int (1 : Int32))])) _
      exact retN X0 hx (t := .boolean) Bd.returns (by simp) (hb hby d5_18) hr
    · show Qrmk_2 Z a0 p1 x3 G ka h0 n0 _ (s₁.setFrames fs).heap _
      rw [show (s₁.setFrames fs).heap = h0 from e0]
      exact ⟨rfl, N0, rfl⟩
theorem ef_rmk_3 (m : MethodId) (a0 : Addr) (p1 : Int32) (x3 : UInt64) : entryFrame m #[(.ref a0), (.int p1), (.int (3 : Int32)), (.double x3)] 5 = mkF m 0 #[.val (.ref a0), .val (.int p1), .val (.int (3 : Int32)), .val (.double x3), .second] [] := by first | (simp [entryFrame, mkF, argsToLocals, Value.category]; done) | rfl
def Qrmk_3 (Z : State) (a0 : Addr) (p1 : Int32) (x3 : UInt64) (G : Nat → Int64) (ka : ClassId) (h0 : Heap) (n0 : Nat) (v : Option Value) (h : Heap) (L : List Loc) : Prop := v = some (.int 1) ∧ Fr n0 L ∧ h = h0
set_option maxRecDepth 65536 in
set_option maxHeartbeats 40000000 in
theorem rmk_3 (l : Launch) (Z : State) (aw : Array Value) (hw : ∀ d ∈ tables_1, d.before aw Z = true) (ws : List Jvm.Cond) (a0 : Addr) (p1 : Int32) (x3 : UInt64) (G : Nat → Int64) (ka : ClassId) (h0 : Heap) (n0 : Nat) (Z0 : n0 ≤ h0.size) (V_a : Arv Z h0 a0 ka .double (10 : Int32) (own_l10 (G)) (.double (0 : UInt64))) (hk : ¬ ((3 : Int32) < p1) → (cmpValue (FP.dcmp (FP.l2d (G 3)) x3) .l) = (0 : Int32)) :
    MetFree l (⟨"com/example/rankwright/rankwright/rank/AccumulatorSiftDownPinLaw", "kept", "([DIID)Z"⟩ : MethodName) (head1 (Jvm.Cond.code (⟨"com/example/rankwright/rankwright/rank/AccumulatorSiftDownPinLaw", "kept", "([DIID)Z"⟩ : MethodName) method_6_code 5 (some .boolean) :: ws) ({ frames := 0, cells := 0, slots := 0, locals := 0 } : Room)) (fun a U => a = #[(.ref a0), (.int p1), (.int (3 : Int32)), (.double x3)] ∧ Z.Warmed39 U.vm ∧ U.heap = h0) (fun _ _ _ _ _ => True) (fun _ U o U' => ∃ v L, o = .returned v ∧ Qrmk_3 Z a0 p1 x3 G ka h0 n0 v U'.heap L ∧ FrameEnd U o U' L ({ frames := 0, cells := 0, slots := 0, locals := 0 } : Room).cells ({ frames := 0, cells := 0, slots := 0, locals := 0 } : Room).slots) := by
  refine MetFree.of_bodySF (plainFor_of_name pn_0) hisR ?_
  intro p e s m args below meth c s₁ Bd hml0 hP hK
  obtain ⟨rfl, hZ, hh⟩ := hP
  have hx := Bd.exec
  have hby := Bd.bytes
  have hml : c.maxLocals = 5 := hml0
  have hown : s.vm.findClass "com/example/rankwright/rankwright/rank/AccumulatorSiftDownPinLaw" = some m.cls := findClass_of_methodNamed Bd.named
  have hnm := (name_of_methodNamed Bd.named Bd.method).1
  have X0 : Stand p l e ({ frames := 0, cells := 0, slots := 0, locals := 0 } : Room) s m #[(.ref a0), (.int p1), (.int (3 : Int32)), (.double x3)] below meth c s₁ [] 0 0 := Stand.of_body Bd
  have e0 : s₁.heap = h0 := by rw [← hh, Bd.state]; rfl
  have N0 := Fr.nil n0
  have hlk := Bd.notSynchronized
  show OwnGo p.tables e below _ (s₁.setTop (entryFrame m #[(.ref a0), (.int p1), (.int (3 : Int32)), (.double x3)] 5))
  rw [ef_rmk_3 m a0 p1 x3]
  show OwnGo p.tables e below _ (s₁.setTop (mkF m 0 #[.val (.ref a0), .val (.int p1), .val (.int (3 : Int32)), .val (.double x3), .second] []))
  refine OwnGo.of (A := s₁.setTop (mkF m 0 #[.val (.ref a0), .val (.int p1), .val (.int (3 : Int32)), .val (.double x3), .second] [])) (B := s₁.setTop (mkF m 2 #[.val (.ref a0), .val (.int p1), .val (.int (3 : Int32)), .val (.double x3), .second] [(.int p1), (.int (3 : Int32))])) (fun t k => ?_) ?_
  · show Steps p.tables e below (s₁.setTop (mkF m 0 #[.val (.ref a0), .val (.int p1), .val (.int (3 : Int32)), .val (.double x3), .second] [])) t
    refine XS.iloadN X0.here hx rfl (hb hby d5_0) rfl ?_
    refine XS.iloadN X0.here hx rfl (hb hby d5_1) rfl ?_
    exact k
  by_cases hc1 : (3 : Int32) < p1
  · refine OwnGo.of (A := s₁.setTop (mkF m 2 #[.val (.ref a0), .val (.int p1), .val (.int (3 : Int32)), .val (.double x3), .second] [(.int p1), (.int (3 : Int32))])) (B := s₁.setTop (mkF m 18 #[.val (.ref a0), .val (.int p1), .val (.int (3 : Int32)), .val (.double x3), .second] [(.int (1 : Int32))])) (fun t k => ?_) ?_
    · show Steps p.tables e below (s₁.setTop (mkF m 2 #[.val (.ref a0), .val (.int p1), .val (.int (3 : Int32)), .val (.double x3), .second] [(.int p1), (.int (3 : Int32))])) t
      refine XS.icmpYes X0.here hx rfl (pc0 := 2) (pc' := 13) rfl (hb hby d5_2) rfl (tlt hc1).1 (by decide) (by decide) ?_
      refine XS.iconst X0.here hx rfl (hb hby d5_13) ?_
      refine XS.goto X0.here hx rfl (pc0 := 14) (pc' := 18) rfl (hb hby d5_14) (by decide) (by decide) ?_
      exact k
    obtain ⟨fs, hr, hrun, hended, hW, hsame⟩ := X0.leave (v := some (.int (nar .boolean (1 : Int32)))) (fun h => by rw [Bd.returns] at h; cases h) hlk
    refine ⟨_, _, ?_, hrun, hended, _, _, rfl, ?_, ⟨_, rfl⟩, hW, hsame.mono (by decide) (by decide)⟩
    · show Steps p.tables e below (s₁.setTop (mkF m 18 #[.val (.ref a0), .val (.int p1), .val (.int (3 : Int32)), .val (.double x3), .second] [(.int (1 : Int32))])) _
      exact retN X0 hx (t := .boolean) Bd.returns (by simp) (hb hby d5_18) hr
    · show Qrmk_3 Z a0 p1 x3 G ka h0 n0 _ (s₁.setFrames fs).heap _
      rw [show (s₁.setFrames fs).heap = h0 from e0]
      exact ⟨rfl, N0, rfl⟩
  · refine OwnGo.of (A := s₁.setTop (mkF m 2 #[.val (.ref a0), .val (.int p1), .val (.int (3 : Int32)), .val (.double x3), .second] [(.int p1), (.int (3 : Int32))])) (B := s₁.setTop (mkF m 7 #[.val (.ref a0), .val (.int p1), .val (.int (3 : Int32)), .val (.double x3), .second] [(.int (3 : Int32)), (.ref a0)])) (fun t k => ?_) ?_
    · show Steps p.tables e below (s₁.setTop (mkF m 2 #[.val (.ref a0), .val (.int p1), .val (.int (3 : Int32)), .val (.double x3), .second] [(.int p1), (.int (3 : Int32))])) t
      refine XS.icmpNo X0.here hx rfl (hb hby d5_2) rfl (flt hc1).1 ?_
      refine XS.aloadN X0.here hx rfl (hb hby d5_5) rfl rfl ?_
      refine XS.iloadN X0.here hx rfl (hb hby d5_6) rfl ?_
      exact k
    have cq3 := V_a
    obtain ⟨clq3, Arq3, qq3, Sq3, Nq3, Hq3, Gq3⟩ := cq3
    have hinq3 := inb_of (j := (3 : Int32)) Sq3 ⟨by decide, by decide⟩
    refine OwnGo.of (X0.daload hx (j := (3 : Int32)) (v := (.double (FP.l2d (G 3)))) (by rw [e0]; exact Arq3.1) (State.isArrayOf_alike hZ.alike Arq3.2.1) Arq3.2.2 hinq3 (Hq3.at hinq3 rfl) (g := (mkF m 7 #[.val (.ref a0), .val (.int p1), .val (.int (3 : Int32)), .val (.double x3), .second] [(.int (3 : Int32)), (.ref a0)])) rfl rfl (hb hby d5_7)) ?_
    show OwnGo p.tables e below _ (s₁.setTop (mkF m 8 #[.val (.ref a0), .val (.int p1), .val (.int (3 : Int32)), .val (.double x3), .second] [(.double (FP.l2d (G 3)))]))
    refine OwnGo.of (A := s₁.setTop (mkF m 8 #[.val (.ref a0), .val (.int p1), .val (.int (3 : Int32)), .val (.double x3), .second] [(.double (FP.l2d (G 3)))])) (B := s₁.setTop (mkF m 10 #[.val (.ref a0), .val (.int p1), .val (.int (3 : Int32)), .val (.double x3), .second] [(.int (cmpValue (FP.dcmp (FP.l2d (G 3)) x3) .l))])) (fun t k => ?_) ?_
    · show Steps p.tables e below (s₁.setTop (mkF m 8 #[.val (.ref a0), .val (.int p1), .val (.int (3 : Int32)), .val (.double x3), .second] [(.double (FP.l2d (G 3)))])) t
      refine XS.dloadN X0.here hx rfl (hb hby d5_8) rfl ?_
      refine XS.dcmpS X0.here hx rfl (hb hby d5_9) rfl rfl ?_
      exact k
    have hc4 : (cmpValue (FP.dcmp (FP.l2d (G 3)) x3) .l) = (0 : Int32) := hk hc1
    refine OwnGo.of (A := s₁.setTop (mkF m 10 #[.val (.ref a0), .val (.int p1), .val (.int (3 : Int32)), .val (.double x3), .second] [(.int (cmpValue (FP.dcmp (FP.l2d (G 3)) x3) .l))])) (B := s₁.setTop (mkF m 18 #[.val (.ref a0), .val (.int p1), .val (.int (3 : Int32)), .val (.double x3), .second] [(.int (1 : Int32))])) (fun t k => ?_) ?_
    · show Steps p.tables e below (s₁.setTop (mkF m 10 #[.val (.ref a0), .val (.int p1), .val (.int (3 : Int32)), .val (.double x3), .second] [(.int (cmpValue (FP.dcmp (FP.l2d (G 3)) x3) .l))])) t
      refine XS.ifNo X0.here hx rfl (hb hby d5_10) rfl ((if0 _ _).trans (teq hc4).2) ?_
      refine XS.iconst X0.here hx rfl (hb hby d5_13) ?_
      refine XS.goto X0.here hx rfl (pc0 := 14) (pc' := 18) rfl (hb hby d5_14) (by decide) (by decide) ?_
      exact k
    obtain ⟨fs, hr, hrun, hended, hW, hsame⟩ := X0.leave (v := some (.int (nar .boolean (1 : Int32)))) (fun h => by rw [Bd.returns] at h; cases h) hlk
    refine ⟨_, _, ?_, hrun, hended, _, _, rfl, ?_, ⟨_, rfl⟩, hW, hsame.mono (by decide) (by decide)⟩
    · show Steps p.tables e below (s₁.setTop (mkF m 18 #[.val (.ref a0), .val (.int p1), .val (.int (3 : Int32)), .val (.double x3), .second] [(.int (1 : Int32))])) _
      exact retN X0 hx (t := .boolean) Bd.returns (by simp) (hb hby d5_18) hr
    · show Qrmk_3 Z a0 p1 x3 G ka h0 n0 _ (s₁.setFrames fs).heap _
      rw [show (s₁.setFrames fs).heap = h0 from e0]
      exact ⟨rfl, N0, rfl⟩
theorem ef_rmk_4 (m : MethodId) (a0 : Addr) (p1 : Int32) (x3 : UInt64) : entryFrame m #[(.ref a0), (.int p1), (.int (4 : Int32)), (.double x3)] 5 = mkF m 0 #[.val (.ref a0), .val (.int p1), .val (.int (4 : Int32)), .val (.double x3), .second] [] := by first | (simp [entryFrame, mkF, argsToLocals, Value.category]; done) | rfl
def Qrmk_4 (Z : State) (a0 : Addr) (p1 : Int32) (x3 : UInt64) (G : Nat → Int64) (ka : ClassId) (h0 : Heap) (n0 : Nat) (v : Option Value) (h : Heap) (L : List Loc) : Prop := v = some (.int 1) ∧ Fr n0 L ∧ h = h0
set_option maxRecDepth 65536 in
set_option maxHeartbeats 40000000 in
theorem rmk_4 (l : Launch) (Z : State) (aw : Array Value) (hw : ∀ d ∈ tables_1, d.before aw Z = true) (ws : List Jvm.Cond) (a0 : Addr) (p1 : Int32) (x3 : UInt64) (G : Nat → Int64) (ka : ClassId) (h0 : Heap) (n0 : Nat) (Z0 : n0 ≤ h0.size) (V_a : Arv Z h0 a0 ka .double (10 : Int32) (own_l10 (G)) (.double (0 : UInt64))) (hk : ¬ ((4 : Int32) < p1) → (cmpValue (FP.dcmp (FP.l2d (G 4)) x3) .l) = (0 : Int32)) :
    MetFree l (⟨"com/example/rankwright/rankwright/rank/AccumulatorSiftDownPinLaw", "kept", "([DIID)Z"⟩ : MethodName) (head1 (Jvm.Cond.code (⟨"com/example/rankwright/rankwright/rank/AccumulatorSiftDownPinLaw", "kept", "([DIID)Z"⟩ : MethodName) method_6_code 5 (some .boolean) :: ws) ({ frames := 0, cells := 0, slots := 0, locals := 0 } : Room)) (fun a U => a = #[(.ref a0), (.int p1), (.int (4 : Int32)), (.double x3)] ∧ Z.Warmed39 U.vm ∧ U.heap = h0) (fun _ _ _ _ _ => True) (fun _ U o U' => ∃ v L, o = .returned v ∧ Qrmk_4 Z a0 p1 x3 G ka h0 n0 v U'.heap L ∧ FrameEnd U o U' L ({ frames := 0, cells := 0, slots := 0, locals := 0 } : Room).cells ({ frames := 0, cells := 0, slots := 0, locals := 0 } : Room).slots) := by
  refine MetFree.of_bodySF (plainFor_of_name pn_0) hisR ?_
  intro p e s m args below meth c s₁ Bd hml0 hP hK
  obtain ⟨rfl, hZ, hh⟩ := hP
  have hx := Bd.exec
  have hby := Bd.bytes
  have hml : c.maxLocals = 5 := hml0
  have hown : s.vm.findClass "com/example/rankwright/rankwright/rank/AccumulatorSiftDownPinLaw" = some m.cls := findClass_of_methodNamed Bd.named
  have hnm := (name_of_methodNamed Bd.named Bd.method).1
  have X0 : Stand p l e ({ frames := 0, cells := 0, slots := 0, locals := 0 } : Room) s m #[(.ref a0), (.int p1), (.int (4 : Int32)), (.double x3)] below meth c s₁ [] 0 0 := Stand.of_body Bd
  have e0 : s₁.heap = h0 := by rw [← hh, Bd.state]; rfl
  have N0 := Fr.nil n0
  have hlk := Bd.notSynchronized
  show OwnGo p.tables e below _ (s₁.setTop (entryFrame m #[(.ref a0), (.int p1), (.int (4 : Int32)), (.double x3)] 5))
  rw [ef_rmk_4 m a0 p1 x3]
  show OwnGo p.tables e below _ (s₁.setTop (mkF m 0 #[.val (.ref a0), .val (.int p1), .val (.int (4 : Int32)), .val (.double x3), .second] []))
  refine OwnGo.of (A := s₁.setTop (mkF m 0 #[.val (.ref a0), .val (.int p1), .val (.int (4 : Int32)), .val (.double x3), .second] [])) (B := s₁.setTop (mkF m 2 #[.val (.ref a0), .val (.int p1), .val (.int (4 : Int32)), .val (.double x3), .second] [(.int p1), (.int (4 : Int32))])) (fun t k => ?_) ?_
  · show Steps p.tables e below (s₁.setTop (mkF m 0 #[.val (.ref a0), .val (.int p1), .val (.int (4 : Int32)), .val (.double x3), .second] [])) t
    refine XS.iloadN X0.here hx rfl (hb hby d5_0) rfl ?_
    refine XS.iloadN X0.here hx rfl (hb hby d5_1) rfl ?_
    exact k
  by_cases hc1 : (4 : Int32) < p1
  · refine OwnGo.of (A := s₁.setTop (mkF m 2 #[.val (.ref a0), .val (.int p1), .val (.int (4 : Int32)), .val (.double x3), .second] [(.int p1), (.int (4 : Int32))])) (B := s₁.setTop (mkF m 18 #[.val (.ref a0), .val (.int p1), .val (.int (4 : Int32)), .val (.double x3), .second] [(.int (1 : Int32))])) (fun t k => ?_) ?_
    · show Steps p.tables e below (s₁.setTop (mkF m 2 #[.val (.ref a0), .val (.int p1), .val (.int (4 : Int32)), .val (.double x3), .second] [(.int p1), (.int (4 : Int32))])) t
      refine XS.icmpYes X0.here hx rfl (pc0 := 2) (pc' := 13) rfl (hb hby d5_2) rfl (tlt hc1).1 (by decide) (by decide) ?_
      refine XS.iconst X0.here hx rfl (hb hby d5_13) ?_
      refine XS.goto X0.here hx rfl (pc0 := 14) (pc' := 18) rfl (hb hby d5_14) (by decide) (by decide) ?_
      exact k
    obtain ⟨fs, hr, hrun, hended, hW, hsame⟩ := X0.leave (v := some (.int (nar .boolean (1 : Int32)))) (fun h => by rw [Bd.returns] at h; cases h) hlk
    refine ⟨_, _, ?_, hrun, hended, _, _, rfl, ?_, ⟨_, rfl⟩, hW, hsame.mono (by decide) (by decide)⟩
    · show Steps p.tables e below (s₁.setTop (mkF m 18 #[.val (.ref a0), .val (.int p1), .val (.int (4 : Int32)), .val (.double x3), .second] [(.int (1 : Int32))])) _
      exact retN X0 hx (t := .boolean) Bd.returns (by simp) (hb hby d5_18) hr
    · show Qrmk_4 Z a0 p1 x3 G ka h0 n0 _ (s₁.setFrames fs).heap _
      rw [show (s₁.setFrames fs).heap = h0 from e0]
      exact ⟨rfl, N0, rfl⟩
  · refine OwnGo.of (A := s₁.setTop (mkF m 2 #[.val (.ref a0), .val (.int p1), .val (.int (4 : Int32)), .val (.double x3), .second] [(.int p1), (.int (4 : Int32))])) (B := s₁.setTop (mkF m 7 #[.val (.ref a0), .val (.int p1), .val (.int (4 : Int32)), .val (.double x3), .second] [(.int (4 : Int32)), (.ref a0)])) (fun t k => ?_) ?_
    · show Steps p.tables e below (s₁.setTop (mkF m 2 #[.val (.ref a0), .val (.int p1), .val (.int (4 : Int32)), .val (.double x3), .second] [(.int p1), (.int (4 : Int32))])) t
      refine XS.icmpNo X0.here hx rfl (hb hby d5_2) rfl (flt hc1).1 ?_
      refine XS.aloadN X0.here hx rfl (hb hby d5_5) rfl rfl ?_
      refine XS.iloadN X0.here hx rfl (hb hby d5_6) rfl ?_
      exact k
    have cq3 := V_a
    obtain ⟨clq3, Arq3, qq3, Sq3, Nq3, Hq3, Gq3⟩ := cq3
    have hinq3 := inb_of (j := (4 : Int32)) Sq3 ⟨by decide, by decide⟩
    refine OwnGo.of (X0.daload hx (j := (4 : Int32)) (v := (.double (FP.l2d (G 4)))) (by rw [e0]; exact Arq3.1) (State.isArrayOf_alike hZ.alike Arq3.2.1) Arq3.2.2 hinq3 (Hq3.at hinq3 rfl) (g := (mkF m 7 #[.val (.ref a0), .val (.int p1), .val (.int (4 : Int32)), .val (.double x3), .second] [(.int (4 : Int32)), (.ref a0)])) rfl rfl (hb hby d5_7)) ?_
    show OwnGo p.tables e below _ (s₁.setTop (mkF m 8 #[.val (.ref a0), .val (.int p1), .val (.int (4 : Int32)), .val (.double x3), .second] [(.double (FP.l2d (G 4)))]))
    refine OwnGo.of (A := s₁.setTop (mkF m 8 #[.val (.ref a0), .val (.int p1), .val (.int (4 : Int32)), .val (.double x3), .second] [(.double (FP.l2d (G 4)))])) (B := s₁.setTop (mkF m 10 #[.val (.ref a0), .val (.int p1), .val (.int (4 : Int32)), .val (.double x3), .second] [(.int (cmpValue (FP.dcmp (FP.l2d (G 4)) x3) .l))])) (fun t k => ?_) ?_
    · show Steps p.tables e below (s₁.setTop (mkF m 8 #[.val (.ref a0), .val (.int p1), .val (.int (4 : Int32)), .val (.double x3), .second] [(.double (FP.l2d (G 4)))])) t
      refine XS.dloadN X0.here hx rfl (hb hby d5_8) rfl ?_
      refine XS.dcmpS X0.here hx rfl (hb hby d5_9) rfl rfl ?_
      exact k
    have hc4 : (cmpValue (FP.dcmp (FP.l2d (G 4)) x3) .l) = (0 : Int32) := hk hc1
    refine OwnGo.of (A := s₁.setTop (mkF m 10 #[.val (.ref a0), .val (.int p1), .val (.int (4 : Int32)), .val (.double x3), .second] [(.int (cmpValue (FP.dcmp (FP.l2d (G 4)) x3) .l))])) (B := s₁.setTop (mkF m 18 #[.val (.ref a0), .val (.int p1), .val (.int (4 : Int32)), .val (.double x3), .second] [(.int (1 : Int32))])) (fun t k => ?_) ?_
    · show Steps p.tables e below (s₁.setTop (mkF m 10 #[.val (.ref a0), .val (.int p1), .val (.int (4 : Int32)), .val (.double x3), .second] [(.int (cmpValue (FP.dcmp (FP.l2d (G 4)) x3) .l))])) t
      refine XS.ifNo X0.here hx rfl (hb hby d5_10) rfl ((if0 _ _).trans (teq hc4).2) ?_
      refine XS.iconst X0.here hx rfl (hb hby d5_13) ?_
      refine XS.goto X0.here hx rfl (pc0 := 14) (pc' := 18) rfl (hb hby d5_14) (by decide) (by decide) ?_
      exact k
    obtain ⟨fs, hr, hrun, hended, hW, hsame⟩ := X0.leave (v := some (.int (nar .boolean (1 : Int32)))) (fun h => by rw [Bd.returns] at h; cases h) hlk
    refine ⟨_, _, ?_, hrun, hended, _, _, rfl, ?_, ⟨_, rfl⟩, hW, hsame.mono (by decide) (by decide)⟩
    · show Steps p.tables e below (s₁.setTop (mkF m 18 #[.val (.ref a0), .val (.int p1), .val (.int (4 : Int32)), .val (.double x3), .second] [(.int (1 : Int32))])) _
      exact retN X0 hx (t := .boolean) Bd.returns (by simp) (hb hby d5_18) hr
    · show Qrmk_4 Z a0 p1 x3 G ka h0 n0 _ (s₁.setFrames fs).heap _
      rw [show (s₁.setFrames fs).heap = h0 from e0]
      exact ⟨rfl, N0, rfl⟩
theorem ef_rmk_5 (m : MethodId) (a0 : Addr) (p1 : Int32) (x3 : UInt64) : entryFrame m #[(.ref a0), (.int p1), (.int (5 : Int32)), (.double x3)] 5 = mkF m 0 #[.val (.ref a0), .val (.int p1), .val (.int (5 : Int32)), .val (.double x3), .second] [] := by first | (simp [entryFrame, mkF, argsToLocals, Value.category]; done) | rfl
def Qrmk_5 (Z : State) (a0 : Addr) (p1 : Int32) (x3 : UInt64) (G : Nat → Int64) (ka : ClassId) (h0 : Heap) (n0 : Nat) (v : Option Value) (h : Heap) (L : List Loc) : Prop := v = some (.int 1) ∧ Fr n0 L ∧ h = h0
set_option maxRecDepth 65536 in
set_option maxHeartbeats 40000000 in
theorem rmk_5 (l : Launch) (Z : State) (aw : Array Value) (hw : ∀ d ∈ tables_1, d.before aw Z = true) (ws : List Jvm.Cond) (a0 : Addr) (p1 : Int32) (x3 : UInt64) (G : Nat → Int64) (ka : ClassId) (h0 : Heap) (n0 : Nat) (Z0 : n0 ≤ h0.size) (V_a : Arv Z h0 a0 ka .double (10 : Int32) (own_l10 (G)) (.double (0 : UInt64))) (hk : ¬ ((5 : Int32) < p1) → (cmpValue (FP.dcmp (FP.l2d (G 5)) x3) .l) = (0 : Int32)) :
    MetFree l (⟨"com/example/rankwright/rankwright/rank/AccumulatorSiftDownPinLaw", "kept", "([DIID)Z"⟩ : MethodName) (head1 (Jvm.Cond.code (⟨"com/example/rankwright/rankwright/rank/AccumulatorSiftDownPinLaw", "kept", "([DIID)Z"⟩ : MethodName) method_6_code 5 (some .boolean) :: ws) ({ frames := 0, cells := 0, slots := 0, locals := 0 } : Room)) (fun a U => a = #[(.ref a0), (.int p1), (.int (5 : Int32)), (.double x3)] ∧ Z.Warmed39 U.vm ∧ U.heap = h0) (fun _ _ _ _ _ => True) (fun _ U o U' => ∃ v L, o = .returned v ∧ Qrmk_5 Z a0 p1 x3 G ka h0 n0 v U'.heap L ∧ FrameEnd U o U' L ({ frames := 0, cells := 0, slots := 0, locals := 0 } : Room).cells ({ frames := 0, cells := 0, slots := 0, locals := 0 } : Room).slots) := by
  refine MetFree.of_bodySF (plainFor_of_name pn_0) hisR ?_
  intro p e s m args below meth c s₁ Bd hml0 hP hK
  obtain ⟨rfl, hZ, hh⟩ := hP
  have hx := Bd.exec
  have hby := Bd.bytes
  have hml : c.maxLocals = 5 := hml0
  have hown : s.vm.findClass "com/example/rankwright/rankwright/rank/AccumulatorSiftDownPinLaw" = some m.cls := findClass_of_methodNamed Bd.named
  have hnm := (name_of_methodNamed Bd.named Bd.method).1
  have X0 : Stand p l e ({ frames := 0, cells := 0, slots := 0, locals := 0 } : Room) s m #[(.ref a0), (.int p1), (.int (5 : Int32)), (.double x3)] below meth c s₁ [] 0 0 := Stand.of_body Bd
  have e0 : s₁.heap = h0 := by rw [← hh, Bd.state]; rfl
  have N0 := Fr.nil n0
  have hlk := Bd.notSynchronized
  show OwnGo p.tables e below _ (s₁.setTop (entryFrame m #[(.ref a0), (.int p1), (.int (5 : Int32)), (.double x3)] 5))
  rw [ef_rmk_5 m a0 p1 x3]
  show OwnGo p.tables e below _ (s₁.setTop (mkF m 0 #[.val (.ref a0), .val (.int p1), .val (.int (5 : Int32)), .val (.double x3), .second] []))
  refine OwnGo.of (A := s₁.setTop (mkF m 0 #[.val (.ref a0), .val (.int p1), .val (.int (5 : Int32)), .val (.double x3), .second] [])) (B := s₁.setTop (mkF m 2 #[.val (.ref a0), .val (.int p1), .val (.int (5 : Int32)), .val (.double x3), .second] [(.int p1), (.int (5 : Int32))])) (fun t k => ?_) ?_
  · show Steps p.tables e below (s₁.setTop (mkF m 0 #[.val (.ref a0), .val (.int p1), .val (.int (5 : Int32)), .val (.double x3), .second] [])) t
    refine XS.iloadN X0.here hx rfl (hb hby d5_0) rfl ?_
    refine XS.iloadN X0.here hx rfl (hb hby d5_1) rfl ?_
    exact k
  by_cases hc1 : (5 : Int32) < p1
  · refine OwnGo.of (A := s₁.setTop (mkF m 2 #[.val (.ref a0), .val (.int p1), .val (.int (5 : Int32)), .val (.double x3), .second] [(.int p1), (.int (5 : Int32))])) (B := s₁.setTop (mkF m 18 #[.val (.ref a0), .val (.int p1), .val (.int (5 : Int32)), .val (.double x3), .second] [(.int (1 : Int32))])) (fun t k => ?_) ?_
    · show Steps p.tables e below (s₁.setTop (mkF m 2 #[.val (.ref a0), .val (.int p1), .val (.int (5 : Int32)), .val (.double x3), .second] [(.int p1), (.int (5 : Int32))])) t
      refine XS.icmpYes X0.here hx rfl (pc0 := 2) (pc' := 13) rfl (hb hby d5_2) rfl (tlt hc1).1 (by decide) (by decide) ?_
      refine XS.iconst X0.here hx rfl (hb hby d5_13) ?_
      refine XS.goto X0.here hx rfl (pc0 := 14) (pc' := 18) rfl (hb hby d5_14) (by decide) (by decide) ?_
      exact k
    obtain ⟨fs, hr, hrun, hended, hW, hsame⟩ := X0.leave (v := some (.int (nar .boolean (1 : Int32)))) (fun h => by rw [Bd.returns] at h; cases h) hlk
    refine ⟨_, _, ?_, hrun, hended, _, _, rfl, ?_, ⟨_, rfl⟩, hW, hsame.mono (by decide) (by decide)⟩
    · show Steps p.tables e below (s₁.setTop (mkF m 18 #[.val (.ref a0), .val (.int p1), .val (.int (5 : Int32)), .val (.double x3), .second] [(.int (1 : Int32))])) _
      exact retN X0 hx (t := .boolean) Bd.returns (by simp) (hb hby d5_18) hr
    · show Qrmk_5 Z a0 p1 x3 G ka h0 n0 _ (s₁.setFrames fs).heap _
      rw [show (s₁.setFrames fs).heap = h0 from e0]
      exact ⟨rfl, N0, rfl⟩
  · refine OwnGo.of (A := s₁.setTop (mkF m 2 #[.val (.ref a0), .val (.int p1), .val (.int (5 : Int32)), .val (.double x3), .second] [(.int p1), (.int (5 : Int32))])) (B := s₁.setTop (mkF m 7 #[.val (.ref a0), .val (.int p1), .val (.int (5 : Int32)), .val (.double x3), .second] [(.int (5 : Int32)), (.ref a0)])) (fun t k => ?_) ?_
    · show Steps p.tables e below (s₁.setTop (mkF m 2 #[.val (.ref a0), .val (.int p1), .val (.int (5 : Int32)), .val (.double x3), .second] [(.int p1), (.int (5 : Int32))])) t
      refine XS.icmpNo X0.here hx rfl (hb hby d5_2) rfl (flt hc1).1 ?_
      refine XS.aloadN X0.here hx rfl (hb hby d5_5) rfl rfl ?_
      refine XS.iloadN X0.here hx rfl (hb hby d5_6) rfl ?_
      exact k
    have cq3 := V_a
    obtain ⟨clq3, Arq3, qq3, Sq3, Nq3, Hq3, Gq3⟩ := cq3
    have hinq3 := inb_of (j := (5 : Int32)) Sq3 ⟨by decide, by decide⟩
    refine OwnGo.of (X0.daload hx (j := (5 : Int32)) (v := (.double (FP.l2d (G 5)))) (by rw [e0]; exact Arq3.1) (State.isArrayOf_alike hZ.alike Arq3.2.1) Arq3.2.2 hinq3 (Hq3.at hinq3 rfl) (g := (mkF m 7 #[.val (.ref a0), .val (.int p1), .val (.int (5 : Int32)), .val (.double x3), .second] [(.int (5 : Int32)), (.ref a0)])) rfl rfl (hb hby d5_7)) ?_
    show OwnGo p.tables e below _ (s₁.setTop (mkF m 8 #[.val (.ref a0), .val (.int p1), .val (.int (5 : Int32)), .val (.double x3), .second] [(.double (FP.l2d (G 5)))]))
    refine OwnGo.of (A := s₁.setTop (mkF m 8 #[.val (.ref a0), .val (.int p1), .val (.int (5 : Int32)), .val (.double x3), .second] [(.double (FP.l2d (G 5)))])) (B := s₁.setTop (mkF m 10 #[.val (.ref a0), .val (.int p1), .val (.int (5 : Int32)), .val (.double x3), .second] [(.int (cmpValue (FP.dcmp (FP.l2d (G 5)) x3) .l))])) (fun t k => ?_) ?_
    · show Steps p.tables e below (s₁.setTop (mkF m 8 #[.val (.ref a0), .val (.int p1), .val (.int (5 : Int32)), .val (.double x3), .second] [(.double (FP.l2d (G 5)))])) t
      refine XS.dloadN X0.here hx rfl (hb hby d5_8) rfl ?_
      refine XS.dcmpS X0.here hx rfl (hb hby d5_9) rfl rfl ?_
      exact k
    have hc4 : (cmpValue (FP.dcmp (FP.l2d (G 5)) x3) .l) = (0 : Int32) := hk hc1
    refine OwnGo.of (A := s₁.setTop (mkF m 10 #[.val (.ref a0), .val (.int p1), .val (.int (5 : Int32)), .val (.double x3), .second] [(.int (cmpValue (FP.dcmp (FP.l2d (G 5)) x3) .l))])) (B := s₁.setTop (mkF m 18 #[.val (.ref a0), .val (.int p1), .val (.int (5 : Int32)), .val (.double x3), .second] [(.int (1 : Int32))])) (fun t k => ?_) ?_
    · show Steps p.tables e below (s₁.setTop (mkF m 10 #[.val (.ref a0), .val (.int p1), .val (.int (5 : Int32)), .val (.double x3), .second] [(.int (cmpValue (FP.dcmp (FP.l2d (G 5)) x3) .l))])) t
      refine XS.ifNo X0.here hx rfl (hb hby d5_10) rfl ((if0 _ _).trans (teq hc4).2) ?_
      refine XS.iconst X0.here hx rfl (hb hby d5_13) ?_
      refine XS.goto X0.here hx rfl (pc0 := 14) (pc' := 18) rfl (hb hby d5_14) (by decide) (by decide) ?_
      exact k
    obtain ⟨fs, hr, hrun, hended, hW, hsame⟩ := X0.leave (v := some (.int (nar .boolean (1 : Int32)))) (fun h => by rw [Bd.returns] at h; cases h) hlk
    refine ⟨_, _, ?_, hrun, hended, _, _, rfl, ?_, ⟨_, rfl⟩, hW, hsame.mono (by decide) (by decide)⟩
    · show Steps p.tables e below (s₁.setTop (mkF m 18 #[.val (.ref a0), .val (.int p1), .val (.int (5 : Int32)), .val (.double x3), .second] [(.int (1 : Int32))])) _
      exact retN X0 hx (t := .boolean) Bd.returns (by simp) (hb hby d5_18) hr
    · show Qrmk_5 Z a0 p1 x3 G ka h0 n0 _ (s₁.setFrames fs).heap _
      rw [show (s₁.setFrames fs).heap = h0 from e0]
      exact ⟨rfl, N0, rfl⟩
theorem ef_rmk_6 (m : MethodId) (a0 : Addr) (p1 : Int32) (x3 : UInt64) : entryFrame m #[(.ref a0), (.int p1), (.int (6 : Int32)), (.double x3)] 5 = mkF m 0 #[.val (.ref a0), .val (.int p1), .val (.int (6 : Int32)), .val (.double x3), .second] [] := by first | (simp [entryFrame, mkF, argsToLocals, Value.category]; done) | rfl
def Qrmk_6 (Z : State) (a0 : Addr) (p1 : Int32) (x3 : UInt64) (G : Nat → Int64) (ka : ClassId) (h0 : Heap) (n0 : Nat) (v : Option Value) (h : Heap) (L : List Loc) : Prop := v = some (.int 1) ∧ Fr n0 L ∧ h = h0
set_option maxRecDepth 65536 in
set_option maxHeartbeats 40000000 in
theorem rmk_6 (l : Launch) (Z : State) (aw : Array Value) (hw : ∀ d ∈ tables_1, d.before aw Z = true) (ws : List Jvm.Cond) (a0 : Addr) (p1 : Int32) (x3 : UInt64) (G : Nat → Int64) (ka : ClassId) (h0 : Heap) (n0 : Nat) (Z0 : n0 ≤ h0.size) (V_a : Arv Z h0 a0 ka .double (10 : Int32) (own_l10 (G)) (.double (0 : UInt64))) (hk : ¬ ((6 : Int32) < p1) → (cmpValue (FP.dcmp (FP.l2d (G 6)) x3) .l) = (0 : Int32)) :
    MetFree l (⟨"com/example/rankwright/rankwright/rank/AccumulatorSiftDownPinLaw", "kept", "([DIID)Z"⟩ : MethodName) (head1 (Jvm.Cond.code (⟨"com/example/rankwright/rankwright/rank/AccumulatorSiftDownPinLaw", "kept", "([DIID)Z"⟩ : MethodName) method_6_code 5 (some .boolean) :: ws) ({ frames := 0, cells := 0, slots := 0, locals := 0 } : Room)) (fun a U => a = #[(.ref a0), (.int p1), (.int (6 : Int32)), (.double x3)] ∧ Z.Warmed39 U.vm ∧ U.heap = h0) (fun _ _ _ _ _ => True) (fun _ U o U' => ∃ v L, o = .returned v ∧ Qrmk_6 Z a0 p1 x3 G ka h0 n0 v U'.heap L ∧ FrameEnd U o U' L ({ frames := 0, cells := 0, slots := 0, locals := 0 } : Room).cells ({ frames := 0, cells := 0, slots := 0, locals := 0 } : Room).slots) := by
  refine MetFree.of_bodySF (plainFor_of_name pn_0) hisR ?_
  intro p e s m args below meth c s₁ Bd hml0 hP hK
  obtain ⟨rfl, hZ, hh⟩ := hP
  have hx := Bd.exec
  have hby := Bd.bytes
  have hml : c.maxLocals = 5 := hml0
  have hown : s.vm.findClass "com/example/rankwright/rankwright/rank/AccumulatorSiftDownPinLaw" = some m.cls := findClass_of_methodNamed Bd.named
  have hnm := (name_of_methodNamed Bd.named Bd.method).1
  have X0 : Stand p l e ({ frames := 0, cells := 0, slots := 0, locals := 0 } : Room) s m #[(.ref a0), (.int p1), (.int (6 : Int32)), (.double x3)] below meth c s₁ [] 0 0 := Stand.of_body Bd
  have e0 : s₁.heap = h0 := by rw [← hh, Bd.state]; rfl
  have N0 := Fr.nil n0
  have hlk := Bd.notSynchronized
  show OwnGo p.tables e below _ (s₁.setTop (entryFrame m #[(.ref a0), (.int p1), (.int (6 : Int32)), (.double x3)] 5))
  rw [ef_rmk_6 m a0 p1 x3]
  show OwnGo p.tables e below _ (s₁.setTop (mkF m 0 #[.val (.ref a0), .val (.int p1), .val (.int (6 : Int32)), .val (.double x3), .second] []))
  refine OwnGo.of (A := s₁.setTop (mkF m 0 #[.val (.ref a0), .val (.int p1), .val (.int (6 : Int32)), .val (.double x3), .second] [])) (B := s₁.setTop (mkF m 2 #[.val (.ref a0), .val (.int p1), .val (.int (6 : Int32)), .val (.double x3), .second] [(.int p1), (.int (6 : Int32))])) (fun t k => ?_) ?_
  · show Steps p.tables e below (s₁.setTop (mkF m 0 #[.val (.ref a0), .val (.int p1), .val (.int (6 : Int32)), .val (.double x3), .second] [])) t
    refine XS.iloadN X0.here hx rfl (hb hby d5_0) rfl ?_
    refine XS.iloadN X0.here hx rfl (hb hby d5_1) rfl ?_
    exact k
  by_cases hc1 : (6 : Int32) < p1
  · refine OwnGo.of (A := s₁.setTop (mkF m 2 #[.val (.ref a0), .val (.int p1), .val (.int (6 : Int32)), .val (.double x3), .second] [(.int p1), (.int (6 : Int32))])) (B := s₁.setTop (mkF m 18 #[.val (.ref a0), .val (.int p1), .val (.int (6 : Int32)), .val (.double x3), .second] [(.int (1 : Int32))])) (fun t k => ?_) ?_
    · show Steps p.tables e below (s₁.setTop (mkF m 2 #[.val (.ref a0), .val (.int p1), .val (.int (6 : Int32)), .val (.double x3), .second] [(.int p1), (.int (6 : Int32))])) t
      refine XS.icmpYes X0.here hx rfl (pc0 := 2) (pc' := 13) rfl (hb hby d5_2) rfl (tlt hc1).1 (by decide) (by decide) ?_
      refine XS.iconst X0.here hx rfl (hb hby d5_13) ?_
      refine XS.goto X0.here hx rfl (pc0 := 14) (pc' := 18) rfl (hb hby d5_14) (by decide) (by decide) ?_
      exact k
    obtain ⟨fs, hr, hrun, hended, hW, hsame⟩ := X0.leave (v := some (.int (nar .boolean (1 : Int32)))) (fun h => by rw [Bd.returns] at h; cases h) hlk
    refine ⟨_, _, ?_, hrun, hended, _, _, rfl, ?_, ⟨_, rfl⟩, hW, hsame.mono (by decide) (by decide)⟩
    · show Steps p.tables e below (s₁.setTop (mkF m 18 #[.val (.ref a0), .val (.int p1), .val (.int (6 : Int32)), .val (.double x3), .second] [(.int (1 : Int32))])) _
      exact retN X0 hx (t := .boolean) Bd.returns (by simp) (hb hby d5_18) hr
    · show Qrmk_6 Z a0 p1 x3 G ka h0 n0 _ (s₁.setFrames fs).heap _
      rw [show (s₁.setFrames fs).heap = h0 from e0]
      exact ⟨rfl, N0, rfl⟩
  · refine OwnGo.of (A := s₁.setTop (mkF m 2 #[.val (.ref a0), .val (.int p1), .val (.int (6 : Int32)), .val (.double x3), .second] [(.int p1), (.int (6 : Int32))])) (B := s₁.setTop (mkF m 7 #[.val (.ref a0), .val (.int p1), .val (.int (6 : Int32)), .val (.double x3), .second] [(.int (6 : Int32)), (.ref a0)])) (fun t k => ?_) ?_
    · show Steps p.tables e below (s₁.setTop (mkF m 2 #[.val (.ref a0), .val (.int p1), .val (.int (6 : Int32)), .val (.double x3), .second] [(.int p1), (.int (6 : Int32))])) t
      refine XS.icmpNo X0.here hx rfl (hb hby d5_2) rfl (flt hc1).1 ?_
      refine XS.aloadN X0.here hx rfl (hb hby d5_5) rfl rfl ?_
      refine XS.iloadN X0.here hx rfl (hb hby d5_6) rfl ?_
      exact k
    have cq3 := V_a
    obtain ⟨clq3, Arq3, qq3, Sq3, Nq3, Hq3, Gq3⟩ := cq3
    have hinq3 := inb_of (j := (6 : Int32)) Sq3 ⟨by decide, by decide⟩
    refine OwnGo.of (X0.daload hx (j := (6 : Int32)) (v := (.double (FP.l2d (G 6)))) (by rw [e0]; exact Arq3.1) (State.isArrayOf_alike hZ.alike Arq3.2.1) Arq3.2.2 hinq3 (Hq3.at hinq3 rfl) (g := (mkF m 7 #[.val (.ref a0), .val (.int p1), .val (.int (6 : Int32)), .val (.double x3), .second] [(.int (6 : Int32)), (.ref a0)])) rfl rfl (hb hby d5_7)) ?_
    show OwnGo p.tables e below _ (s₁.setTop (mkF m 8 #[.val (.ref a0), .val (.int p1), .val (.int (6 : Int32)), .val (.double x3), .second] [(.double (FP.l2d (G 6)))]))
    refine OwnGo.of (A := s₁.setTop (mkF m 8 #[.val (.ref a0), .val (.int p1), .val (.int (6 : Int32)), .val (.double x3), .second] [(.double (FP.l2d (G 6)))])) (B := s₁.setTop (mkF m 10 #[.val (.ref a0), .val (.int p1), .val (.int (6 : Int32)), .val (.double x3), .second] [(.int (cmpValue (FP.dcmp (FP.l2d (G 6)) x3) .l))])) (fun t k => ?_) ?_
    · show Steps p.tables e below (s₁.setTop (mkF m 8 #[.val (.ref a0), .val (.int p1), .val (.int (6 : Int32)), .val (.double x3), .second] [(.double (FP.l2d (G 6)))])) t
      refine XS.dloadN X0.here hx rfl (hb hby d5_8) rfl ?_
      refine XS.dcmpS X0.here hx rfl (hb hby d5_9) rfl rfl ?_
      exact k
    have hc4 : (cmpValue (FP.dcmp (FP.l2d (G 6)) x3) .l) = (0 : Int32) := hk hc1
    refine OwnGo.of (A := s₁.setTop (mkF m 10 #[.val (.ref a0), .val (.int p1), .val (.int (6 : Int32)), .val (.double x3), .second] [(.int (cmpValue (FP.dcmp (FP.l2d (G 6)) x3) .l))])) (B := s₁.setTop (mkF m 18 #[.val (.ref a0), .val (.int p1), .val (.int (6 : Int32)), .val (.double x3), .second] [(.int (1 : Int32))])) (fun t k => ?_) ?_
    · show Steps p.tables e below (s₁.setTop (mkF m 10 #[.val (.ref a0), .val (.int p1), .val (.int (6 : Int32)), .val (.double x3), .second] [(.int (cmpValue (FP.dcmp (FP.l2d (G 6)) x3) .l))])) t
      refine XS.ifNo X0.here hx rfl (hb hby d5_10) rfl ((if0 _ _).trans (teq hc4).2) ?_
      refine XS.iconst X0.here hx rfl (hb hby d5_13) ?_
      refine XS.goto X0.here hx rfl (pc0 := 14) (pc' := 18) rfl (hb hby d5_14) (by decide) (by decide) ?_
      exact k
    obtain ⟨fs, hr, hrun, hended, hW, hsame⟩ := X0.leave (v := some (.int (nar .boolean (1 : Int32)))) (fun h => by rw [Bd.returns] at h; cases h) hlk
    refine ⟨_, _, ?_, hrun, hended, _, _, rfl, ?_, ⟨_, rfl⟩, hW, hsame.mono (by decide) (by decide)⟩
    · show Steps p.tables e below (s₁.setTop (mkF m 18 #[.val (.ref a0), .val (.int p1), .val (.int (6 : Int32)), .val (.double x3), .second] [(.int (1 : Int32))])) _
      exact retN X0 hx (t := .boolean) Bd.returns (by simp) (hb hby d5_18) hr
    · show Qrmk_6 Z a0 p1 x3 G ka h0 n0 _ (s₁.setFrames fs).heap _
      rw [show (s₁.setFrames fs).heap = h0 from e0]
      exact ⟨rfl, N0, rfl⟩
theorem ef_rmk_7 (m : MethodId) (a0 : Addr) (p1 : Int32) (x3 : UInt64) : entryFrame m #[(.ref a0), (.int p1), (.int (7 : Int32)), (.double x3)] 5 = mkF m 0 #[.val (.ref a0), .val (.int p1), .val (.int (7 : Int32)), .val (.double x3), .second] [] := by first | (simp [entryFrame, mkF, argsToLocals, Value.category]; done) | rfl
def Qrmk_7 (Z : State) (a0 : Addr) (p1 : Int32) (x3 : UInt64) (G : Nat → Int64) (ka : ClassId) (h0 : Heap) (n0 : Nat) (v : Option Value) (h : Heap) (L : List Loc) : Prop := v = some (.int 1) ∧ Fr n0 L ∧ h = h0
set_option maxRecDepth 65536 in
set_option maxHeartbeats 40000000 in
theorem rmk_7 (l : Launch) (Z : State) (aw : Array Value) (hw : ∀ d ∈ tables_1, d.before aw Z = true) (ws : List Jvm.Cond) (a0 : Addr) (p1 : Int32) (x3 : UInt64) (G : Nat → Int64) (ka : ClassId) (h0 : Heap) (n0 : Nat) (Z0 : n0 ≤ h0.size) (V_a : Arv Z h0 a0 ka .double (10 : Int32) (own_l10 (G)) (.double (0 : UInt64))) (hk : ¬ ((7 : Int32) < p1) → (cmpValue (FP.dcmp (FP.l2d (G 7)) x3) .l) = (0 : Int32)) :
    MetFree l (⟨"com/example/rankwright/rankwright/rank/AccumulatorSiftDownPinLaw", "kept", "([DIID)Z"⟩ : MethodName) (head1 (Jvm.Cond.code (⟨"com/example/rankwright/rankwright/rank/AccumulatorSiftDownPinLaw", "kept", "([DIID)Z"⟩ : MethodName) method_6_code 5 (some .boolean) :: ws) ({ frames := 0, cells := 0, slots := 0, locals := 0 } : Room)) (fun a U => a = #[(.ref a0), (.int p1), (.int (7 : Int32)), (.double x3)] ∧ Z.Warmed39 U.vm ∧ U.heap = h0) (fun _ _ _ _ _ => True) (fun _ U o U' => ∃ v L, o = .returned v ∧ Qrmk_7 Z a0 p1 x3 G ka h0 n0 v U'.heap L ∧ FrameEnd U o U' L ({ frames := 0, cells := 0, slots := 0, locals := 0 } : Room).cells ({ frames := 0, cells := 0, slots := 0, locals := 0 } : Room).slots) := by
  refine MetFree.of_bodySF (plainFor_of_name pn_0) hisR ?_
  intro p e s m args below meth c s₁ Bd hml0 hP hK
  obtain ⟨rfl, hZ, hh⟩ := hP
  have hx := Bd.exec
  have hby := Bd.bytes
  have hml : c.maxLocals = 5 := hml0
  have hown : s.vm.findClass "com/example/rankwright/rankwright/rank/AccumulatorSiftDownPinLaw" = some m.cls := findClass_of_methodNamed Bd.named
  have hnm := (name_of_methodNamed Bd.named Bd.method).1
  have X0 : Stand p l e ({ frames := 0, cells := 0, slots := 0, locals := 0 } : Room) s m #[(.ref a0), (.int p1), (.int (7 : Int32)), (.double x3)] below meth c s₁ [] 0 0 := Stand.of_body Bd
  have e0 : s₁.heap = h0 := by rw [← hh, Bd.state]; rfl
  have N0 := Fr.nil n0
  have hlk := Bd.notSynchronized
  show OwnGo p.tables e below _ (s₁.setTop (entryFrame m #[(.ref a0), (.int p1), (.int (7 : Int32)), (.double x3)] 5))
  rw [ef_rmk_7 m a0 p1 x3]
  show OwnGo p.tables e below _ (s₁.setTop (mkF m 0 #[.val (.ref a0), .val (.int p1), .val (.int (7 : Int32)), .val (.double x3), .second] []))
  refine OwnGo.of (A := s₁.setTop (mkF m 0 #[.val (.ref a0), .val (.int p1), .val (.int (7 : Int32)), .val (.double x3), .second] [])) (B := s₁.setTop (mkF m 2 #[.val (.ref a0), .val (.int p1), .val (.int (7 : Int32)), .val (.double x3), .second] [(.int p1), (.int (7 : Int32))])) (fun t k => ?_) ?_
  · show Steps p.tables e below (s₁.setTop (mkF m 0 #[.val (.ref a0), .val (.int p1), .val (.int (7 : Int32)), .val (.double x3), .second] [])) t
    refine XS.iloadN X0.here hx rfl (hb hby d5_0) rfl ?_
    refine XS.iloadN X0.here hx rfl (hb hby d5_1) rfl ?_
    exact k
  by_cases hc1 : (7 : Int32) < p1
  · refine OwnGo.of (A := s₁.setTop (mkF m 2 #[.val (.ref a0), .val (.int p1), .val (.int (7 : Int32)), .val (.double x3), .second] [(.int p1), (.int (7 : Int32))])) (B := s₁.setTop (mkF m 18 #[.val (.ref a0), .val (.int p1), .val (.int (7 : Int32)), .val (.double x3), .second] [(.int (1 : Int32))])) (fun t k => ?_) ?_
    · show Steps p.tables e below (s₁.setTop (mkF m 2 #[.val (.ref a0), .val (.int p1), .val (.int (7 : Int32)), .val (.double x3), .second] [(.int p1), (.int (7 : Int32))])) t
      refine XS.icmpYes X0.here hx rfl (pc0 := 2) (pc' := 13) rfl (hb hby d5_2) rfl (tlt hc1).1 (by decide) (by decide) ?_
      refine XS.iconst X0.here hx rfl (hb hby d5_13) ?_
      refine XS.goto X0.here hx rfl (pc0 := 14) (pc' := 18) rfl (hb hby d5_14) (by decide) (by decide) ?_
      exact k
    obtain ⟨fs, hr, hrun, hended, hW, hsame⟩ := X0.leave (v := some (.int (nar .boolean (1 : Int32)))) (fun h => by rw [Bd.returns] at h; cases h) hlk
    refine ⟨_, _, ?_, hrun, hended, _, _, rfl, ?_, ⟨_, rfl⟩, hW, hsame.mono (by decide) (by decide)⟩
    · show Steps p.tables e below (s₁.setTop (mkF m 18 #[.val (.ref a0), .val (.int p1), .val (.int (7 : Int32)), .val (.double x3), .second] [(.int (1 : Int32))])) _
      exact retN X0 hx (t := .boolean) Bd.returns (by simp) (hb hby d5_18) hr
    · show Qrmk_7 Z a0 p1 x3 G ka h0 n0 _ (s₁.setFrames fs).heap _
      rw [show (s₁.setFrames fs).heap = h0 from e0]
      exact ⟨rfl, N0, rfl⟩
  · refine OwnGo.of (A := s₁.setTop (mkF m 2 #[.val (.ref a0), .val (.int p1), .val (.int (7 : Int32)), .val (.double x3), .second] [(.int p1), (.int (7 : Int32))])) (B := s₁.setTop (mkF m 7 #[.val (.ref a0), .val (.int p1), .val (.int (7 : Int32)), .val (.double x3), .second] [(.int (7 : Int32)), (.ref a0)])) (fun t k => ?_) ?_
    · show Steps p.tables e below (s₁.setTop (mkF m 2 #[.val (.ref a0), .val (.int p1), .val (.int (7 : Int32)), .val (.double x3), .second] [(.int p1), (.int (7 : Int32))])) t
      refine XS.icmpNo X0.here hx rfl (hb hby d5_2) rfl (flt hc1).1 ?_
      refine XS.aloadN X0.here hx rfl (hb hby d5_5) rfl rfl ?_
      refine XS.iloadN X0.here hx rfl (hb hby d5_6) rfl ?_
      exact k
    have cq3 := V_a
    obtain ⟨clq3, Arq3, qq3, Sq3, Nq3, Hq3, Gq3⟩ := cq3
    have hinq3 := inb_of (j := (7 : Int32)) Sq3 ⟨by decide, by decide⟩
    refine OwnGo.of (X0.daload hx (j := (7 : Int32)) (v := (.double (FP.l2d (G 7)))) (by rw [e0]; exact Arq3.1) (State.isArrayOf_alike hZ.alike Arq3.2.1) Arq3.2.2 hinq3 (Hq3.at hinq3 rfl) (g := (mkF m 7 #[.val (.ref a0), .val (.int p1), .val (.int (7 : Int32)), .val (.double x3), .second] [(.int (7 : Int32)), (.ref a0)])) rfl rfl (hb hby d5_7)) ?_
    show OwnGo p.tables e below _ (s₁.setTop (mkF m 8 #[.val (.ref a0), .val (.int p1), .val (.int (7 : Int32)), .val (.double x3), .second] [(.double (FP.l2d (G 7)))]))
    refine OwnGo.of (A := s₁.setTop (mkF m 8 #[.val (.ref a0), .val (.int p1), .val (.int (7 : Int32)), .val (.double x3), .second] [(.double (FP.l2d (G 7)))])) (B := s₁.setTop (mkF m 10 #[.val (.ref a0), .val (.int p1), .val (.int (7 : Int32)), .val (.double x3), .second] [(.int (cmpValue (FP.dcmp (FP.l2d (G 7)) x3) .l))])) (fun t k => ?_) ?_
    · show Steps p.tables e below (s₁.setTop (mkF m 8 #[.val (.ref a0), .val (.int p1), .val (.int (7 : Int32)), .val (.double x3), .second] [(.double (FP.l2d (G 7)))])) t
      refine XS.dloadN X0.here hx rfl (hb hby d5_8) rfl ?_
      refine XS.dcmpS X0.here hx rfl (hb hby d5_9) rfl rfl ?_
      exact k
    have hc4 : (cmpValue (FP.dcmp (FP.l2d (G 7)) x3) .l) = (0 : Int32) := hk hc1
    refine OwnGo.of (A := s₁.setTop (mkF m 10 #[.val (.ref a0), .val (.int p1), .val (.int (7 : Int32)), .val (.double x3), .second] [(.int (cmpValue (FP.dcmp (FP.l2d (G 7)) x3) .l))])) (B := s₁.setTop (mkF m 18 #[.val (.ref a0), .val (.int p1), .val (.int (7 : Int32)), .val (.double x3), .second] [(.int (1 : Int32))])) (fun t k => ?_) ?_
    · show Steps p.tables e below (s₁.setTop (mkF m 10 #[.val (.ref a0), .val (.int p1), .val (.int (7 : Int32)), .val (.double x3), .second] [(.int (cmpValue (FP.dcmp (FP.l2d (G 7)) x3) .l))])) t
      refine XS.ifNo X0.here hx rfl (hb hby d5_10) rfl ((if0 _ _).trans (teq hc4).2) ?_
      refine XS.iconst X0.here hx rfl (hb hby d5_13) ?_
      refine XS.goto X0.here hx rfl (pc0 := 14) (pc' := 18) rfl (hb hby d5_14) (by decide) (by decide) ?_
      exact k
    obtain ⟨fs, hr, hrun, hended, hW, hsame⟩ := X0.leave (v := some (.int (nar .boolean (1 : Int32)))) (fun h => by rw [Bd.returns] at h; cases h) hlk
    refine ⟨_, _, ?_, hrun, hended, _, _, rfl, ?_, ⟨_, rfl⟩, hW, hsame.mono (by decide) (by decide)⟩
    · show Steps p.tables e below (s₁.setTop (mkF m 18 #[.val (.ref a0), .val (.int p1), .val (.int (7 : Int32)), .val (.double x3), .second] [(.int (1 : Int32))])) _
      exact retN X0 hx (t := .boolean) Bd.returns (by simp) (hb hby d5_18) hr
    · show Qrmk_7 Z a0 p1 x3 G ka h0 n0 _ (s₁.setFrames fs).heap _
      rw [show (s₁.setFrames fs).heap = h0 from e0]
      exact ⟨rfl, N0, rfl⟩
theorem ef_rmk_8 (m : MethodId) (a0 : Addr) (p1 : Int32) (x3 : UInt64) : entryFrame m #[(.ref a0), (.int p1), (.int (8 : Int32)), (.double x3)] 5 = mkF m 0 #[.val (.ref a0), .val (.int p1), .val (.int (8 : Int32)), .val (.double x3), .second] [] := by first | (simp [entryFrame, mkF, argsToLocals, Value.category]; done) | rfl
def Qrmk_8 (Z : State) (a0 : Addr) (p1 : Int32) (x3 : UInt64) (G : Nat → Int64) (ka : ClassId) (h0 : Heap) (n0 : Nat) (v : Option Value) (h : Heap) (L : List Loc) : Prop := v = some (.int 1) ∧ Fr n0 L ∧ h = h0
set_option maxRecDepth 65536 in
set_option maxHeartbeats 40000000 in
theorem rmk_8 (l : Launch) (Z : State) (aw : Array Value) (hw : ∀ d ∈ tables_1, d.before aw Z = true) (ws : List Jvm.Cond) (a0 : Addr) (p1 : Int32) (x3 : UInt64) (G : Nat → Int64) (ka : ClassId) (h0 : Heap) (n0 : Nat) (Z0 : n0 ≤ h0.size) (V_a : Arv Z h0 a0 ka .double (10 : Int32) (own_l10 (G)) (.double (0 : UInt64))) (hk : ¬ ((8 : Int32) < p1) → (cmpValue (FP.dcmp (FP.l2d (G 8)) x3) .l) = (0 : Int32)) :
    MetFree l (⟨"com/example/rankwright/rankwright/rank/AccumulatorSiftDownPinLaw", "kept", "([DIID)Z"⟩ : MethodName) (head1 (Jvm.Cond.code (⟨"com/example/rankwright/rankwright/rank/AccumulatorSiftDownPinLaw", "kept", "([DIID)Z"⟩ : MethodName) method_6_code 5 (some .boolean) :: ws) ({ frames := 0, cells := 0, slots := 0, locals := 0 } : Room)) (fun a U => a = #[(.ref a0), (.int p1), (.int (8 : Int32)), (.double x3)] ∧ Z.Warmed39 U.vm ∧ U.heap = h0) (fun _ _ _ _ _ => True) (fun _ U o U' => ∃ v L, o = .returned v ∧ Qrmk_8 Z a0 p1 x3 G ka h0 n0 v U'.heap L ∧ FrameEnd U o U' L ({ frames := 0, cells := 0, slots := 0, locals := 0 } : Room).cells ({ frames := 0, cells := 0, slots := 0, locals := 0 } : Room).slots) := by
  refine MetFree.of_bodySF (plainFor_of_name pn_0) hisR ?_
  intro p e s m args below meth c s₁ Bd hml0 hP hK
  obtain ⟨rfl, hZ, hh⟩ := hP
  have hx := Bd.exec
  have hby := Bd.bytes
  have hml : c.maxLocals = 5 := hml0
  have hown : s.vm.findClass "com/example/rankwright/rankwright/rank/AccumulatorSiftDownPinLaw" = some m.cls := findClass_of_methodNamed Bd.named
  have hnm := (name_of_methodNamed Bd.named Bd.method).1
  have X0 : Stand p l e ({ frames := 0, cells := 0, slots := 0, locals := 0 } : Room) s m #[(.ref a0), (.int p1), (.int (8 : Int32)), (.double x3)] below meth c s₁ [] 0 0 := Stand.of_body Bd
  have e0 : s₁.heap = h0 := by rw [← hh, Bd.state]; rfl
  have N0 := Fr.nil n0
  have hlk := Bd.notSynchronized
  show OwnGo p.tables e below _ (s₁.setTop (entryFrame m #[(.ref a0), (.int p1), (.int (8 : Int32)), (.double x3)] 5))
  rw [ef_rmk_8 m a0 p1 x3]
  show OwnGo p.tables e below _ (s₁.setTop (mkF m 0 #[.val (.ref a0), .val (.int p1), .val (.int (8 : Int32)), .val (.double x3), .second] []))
  refine OwnGo.of (A := s₁.setTop (mkF m 0 #[.val (.ref a0), .val (.int p1), .val (.int (8 : Int32)), .val (.double x3), .second] [])) (B := s₁.setTop (mkF m 2 #[.val (.ref a0), .val (.int p1), .val (.int (8 : Int32)), .val (.double x3), .second] [(.int p1), (.int (8 : Int32))])) (fun t k => ?_) ?_
  · show Steps p.tables e below (s₁.setTop (mkF m 0 #[.val (.ref a0), .val (.int p1), .val (.int (8 : Int32)), .val (.double x3), .second] [])) t
    refine XS.iloadN X0.here hx rfl (hb hby d5_0) rfl ?_
    refine XS.iloadN X0.here hx rfl (hb hby d5_1) rfl ?_
    exact k
  by_cases hc1 : (8 : Int32) < p1
  · refine OwnGo.of (A := s₁.setTop (mkF m 2 #[.val (.ref a0), .val (.int p1), .val (.int (8 : Int32)), .val (.double x3), .second] [(.int p1), (.int (8 : Int32))])) (B := s₁.setTop (mkF m 18 #[.val (.ref a0), .val (.int p1), .val (.int (8 : Int32)), .val (.double x3), .second] [(.int (1 : Int32))])) (fun t k => ?_) ?_
    · show Steps p.tables e below (s₁.setTop (mkF m 2 #[.val (.ref a0), .val (.int p1), .val (.int (8 : Int32)), .val (.double x3), .second] [(.int p1), (.int (8 : Int32))])) t
      refine XS.icmpYes X0.here hx rfl (pc0 := 2) (pc' := 13) rfl (hb hby d5_2) rfl (tlt hc1).1 (by decide) (by decide) ?_
      refine XS.iconst X0.here hx rfl (hb hby d5_13) ?_
      refine XS.goto X0.here hx rfl (pc0 := 14) (pc' := 18) rfl (hb hby d5_14) (by decide) (by decide) ?_
      exact k
    obtain ⟨fs, hr, hrun, hended, hW, hsame⟩ := X0.leave (v := some (.int (nar .boolean (1 : Int32)))) (fun h => by rw [Bd.returns] at h; cases h) hlk
    refine ⟨_, _, ?_, hrun, hended, _, _, rfl, ?_, ⟨_, rfl⟩, hW, hsame.mono (by decide) (by decide)⟩
    · show Steps p.tables e below (s₁.setTop (mkF m 18 #[.val (.ref a0), .val (.int p1), .val (.int (8 : Int32)), .val (.double x3), .second] [(.int (1 : Int32))])) _
      exact retN X0 hx (t := .boolean) Bd.returns (by simp) (hb hby d5_18) hr
    · show Qrmk_8 Z a0 p1 x3 G ka h0 n0 _ (s₁.setFrames fs).heap _
      rw [show (s₁.setFrames fs).heap = h0 from e0]
      exact ⟨rfl, N0, rfl⟩
  · refine OwnGo.of (A := s₁.setTop (mkF m 2 #[.val (.ref a0), .val (.int p1), .val (.int (8 : Int32)), .val (.double x3), .second] [(.int p1), (.int (8 : Int32))])) (B := s₁.setTop (mkF m 7 #[.val (.ref a0), .val (.int p1), .val (.int (8 : Int32)), .val (.double x3), .second] [(.int (8 : Int32)), (.ref a0)])) (fun t k => ?_) ?_
    · show Steps p.tables e below (s₁.setTop (mkF m 2 #[.val (.ref a0), .val (.int p1), .val (.int (8 : Int32)), .val (.double x3), .second] [(.int p1), (.int (8 : Int32))])) t
      refine XS.icmpNo X0.here hx rfl (hb hby d5_2) rfl (flt hc1).1 ?_
      refine XS.aloadN X0.here hx rfl (hb hby d5_5) rfl rfl ?_
      refine XS.iloadN X0.here hx rfl (hb hby d5_6) rfl ?_
      exact k
    have cq3 := V_a
    obtain ⟨clq3, Arq3, qq3, Sq3, Nq3, Hq3, Gq3⟩ := cq3
    have hinq3 := inb_of (j := (8 : Int32)) Sq3 ⟨by decide, by decide⟩
    refine OwnGo.of (X0.daload hx (j := (8 : Int32)) (v := (.double (FP.l2d (G 8)))) (by rw [e0]; exact Arq3.1) (State.isArrayOf_alike hZ.alike Arq3.2.1) Arq3.2.2 hinq3 (Hq3.at hinq3 rfl) (g := (mkF m 7 #[.val (.ref a0), .val (.int p1), .val (.int (8 : Int32)), .val (.double x3), .second] [(.int (8 : Int32)), (.ref a0)])) rfl rfl (hb hby d5_7)) ?_
    show OwnGo p.tables e below _ (s₁.setTop (mkF m 8 #[.val (.ref a0), .val (.int p1), .val (.int (8 : Int32)), .val (.double x3), .second] [(.double (FP.l2d (G 8)))]))
    refine OwnGo.of (A := s₁.setTop (mkF m 8 #[.val (.ref a0), .val (.int p1), .val (.int (8 : Int32)), .val (.double x3), .second] [(.double (FP.l2d (G 8)))])) (B := s₁.setTop (mkF m 10 #[.val (.ref a0), .val (.int p1), .val (.int (8 : Int32)), .val (.double x3), .second] [(.int (cmpValue (FP.dcmp (FP.l2d (G 8)) x3) .l))])) (fun t k => ?_) ?_
    · show Steps p.tables e below (s₁.setTop (mkF m 8 #[.val (.ref a0), .val (.int p1), .val (.int (8 : Int32)), .val (.double x3), .second] [(.double (FP.l2d (G 8)))])) t
      refine XS.dloadN X0.here hx rfl (hb hby d5_8) rfl ?_
      refine XS.dcmpS X0.here hx rfl (hb hby d5_9) rfl rfl ?_
      exact k
    have hc4 : (cmpValue (FP.dcmp (FP.l2d (G 8)) x3) .l) = (0 : Int32) := hk hc1
    refine OwnGo.of (A := s₁.setTop (mkF m 10 #[.val (.ref a0), .val (.int p1), .val (.int (8 : Int32)), .val (.double x3), .second] [(.int (cmpValue (FP.dcmp (FP.l2d (G 8)) x3) .l))])) (B := s₁.setTop (mkF m 18 #[.val (.ref a0), .val (.int p1), .val (.int (8 : Int32)), .val (.double x3), .second] [(.int (1 : Int32))])) (fun t k => ?_) ?_
    · show Steps p.tables e below (s₁.setTop (mkF m 10 #[.val (.ref a0), .val (.int p1), .val (.int (8 : Int32)), .val (.double x3), .second] [(.int (cmpValue (FP.dcmp (FP.l2d (G 8)) x3) .l))])) t
      refine XS.ifNo X0.here hx rfl (hb hby d5_10) rfl ((if0 _ _).trans (teq hc4).2) ?_
      refine XS.iconst X0.here hx rfl (hb hby d5_13) ?_
      refine XS.goto X0.here hx rfl (pc0 := 14) (pc' := 18) rfl (hb hby d5_14) (by decide) (by decide) ?_
      exact k
    obtain ⟨fs, hr, hrun, hended, hW, hsame⟩ := X0.leave (v := some (.int (nar .boolean (1 : Int32)))) (fun h => by rw [Bd.returns] at h; cases h) hlk
    refine ⟨_, _, ?_, hrun, hended, _, _, rfl, ?_, ⟨_, rfl⟩, hW, hsame.mono (by decide) (by decide)⟩
    · show Steps p.tables e below (s₁.setTop (mkF m 18 #[.val (.ref a0), .val (.int p1), .val (.int (8 : Int32)), .val (.double x3), .second] [(.int (1 : Int32))])) _
      exact retN X0 hx (t := .boolean) Bd.returns (by simp) (hb hby d5_18) hr
    · show Qrmk_8 Z a0 p1 x3 G ka h0 n0 _ (s₁.setFrames fs).heap _
      rw [show (s₁.setFrames fs).heap = h0 from e0]
      exact ⟨rfl, N0, rfl⟩
theorem ef_rmk_9 (m : MethodId) (a0 : Addr) (p1 : Int32) (x3 : UInt64) : entryFrame m #[(.ref a0), (.int p1), (.int (9 : Int32)), (.double x3)] 5 = mkF m 0 #[.val (.ref a0), .val (.int p1), .val (.int (9 : Int32)), .val (.double x3), .second] [] := by first | (simp [entryFrame, mkF, argsToLocals, Value.category]; done) | rfl
def Qrmk_9 (Z : State) (a0 : Addr) (p1 : Int32) (x3 : UInt64) (G : Nat → Int64) (ka : ClassId) (h0 : Heap) (n0 : Nat) (v : Option Value) (h : Heap) (L : List Loc) : Prop := v = some (.int 1) ∧ Fr n0 L ∧ h = h0
set_option maxRecDepth 65536 in
set_option maxHeartbeats 40000000 in
theorem rmk_9 (l : Launch) (Z : State) (aw : Array Value) (hw : ∀ d ∈ tables_1, d.before aw Z = true) (ws : List Jvm.Cond) (a0 : Addr) (p1 : Int32) (x3 : UInt64) (G : Nat → Int64) (ka : ClassId) (h0 : Heap) (n0 : Nat) (Z0 : n0 ≤ h0.size) (V_a : Arv Z h0 a0 ka .double (10 : Int32) (own_l10 (G)) (.double (0 : UInt64))) (hk : ¬ ((9 : Int32) < p1) → (cmpValue (FP.dcmp (FP.l2d (G 9)) x3) .l) = (0 : Int32)) :
    MetFree l (⟨"com/example/rankwright/rankwright/rank/AccumulatorSiftDownPinLaw", "kept", "([DIID)Z"⟩ : MethodName) (head1 (Jvm.Cond.code (⟨"com/example/rankwright/rankwright/rank/AccumulatorSiftDownPinLaw", "kept", "([DIID)Z"⟩ : MethodName) method_6_code 5 (some .boolean) :: ws) ({ frames := 0, cells := 0, slots := 0, locals := 0 } : Room)) (fun a U => a = #[(.ref a0), (.int p1), (.int (9 : Int32)), (.double x3)] ∧ Z.Warmed39 U.vm ∧ U.heap = h0) (fun _ _ _ _ _ => True) (fun _ U o U' => ∃ v L, o = .returned v ∧ Qrmk_9 Z a0 p1 x3 G ka h0 n0 v U'.heap L ∧ FrameEnd U o U' L ({ frames := 0, cells := 0, slots := 0, locals := 0 } : Room).cells ({ frames := 0, cells := 0, slots := 0, locals := 0 } : Room).slots) := by
  refine MetFree.of_bodySF (plainFor_of_name pn_0) hisR ?_
  intro p e s m args below meth c s₁ Bd hml0 hP hK
  obtain ⟨rfl, hZ, hh⟩ := hP
  have hx := Bd.exec
  have hby := Bd.bytes
  have hml : c.maxLocals = 5 := hml0
  have hown : s.vm.findClass "com/example/rankwright/rankwright/rank/AccumulatorSiftDownPinLaw" = some m.cls := findClass_of_methodNamed Bd.named
  have hnm := (name_of_methodNamed Bd.named Bd.method).1
  have X0 : Stand p l e ({ frames := 0, cells := 0, slots := 0, locals := 0 } : Room) s m #[(.ref a0), (.int p1), (.int (9 : Int32)), (.double x3)] below meth c s₁ [] 0 0 := Stand.of_body Bd
  have e0 : s₁.heap = h0 := by rw [← hh, Bd.state]; rfl
  have N0 := Fr.nil n0
  have hlk := Bd.notSynchronized
  show OwnGo p.tables e below _ (s₁.setTop (entryFrame m #[(.ref a0), (.int p1), (.int (9 : Int32)), (.double x3)] 5))
  rw [ef_rmk_9 m a0 p1 x3]
  show OwnGo p.tables e below _ (s₁.setTop (mkF m 0 #[.val (.ref a0), .val (.int p1), .val (.int (9 : Int32)), .val (.double x3), .second] []))
  refine OwnGo.of (A := s₁.setTop (mkF m 0 #[.val (.ref a0), .val (.int p1), .val (.int (9 : Int32)), .val (.double x3), .second] [])) (B := s₁.setTop (mkF m 2 #[.val (.ref a0), .val (.int p1), .val (.int (9 : Int32)), .val (.double x3), .second] [(.int p1), (.int (9 : Int32))])) (fun t k => ?_) ?_
  · show Steps p.tables e below (s₁.setTop (mkF m 0 #[.val (.ref a0), .val (.int p1), .val (.int (9 : Int32)), .val (.double x3), .second] [])) t
    refine XS.iloadN X0.here hx rfl (hb hby d5_0) rfl ?_
    refine XS.iloadN X0.here hx rfl (hb hby d5_1) rfl ?_
    exact k
  by_cases hc1 : (9 : Int32) < p1
  · refine OwnGo.of (A := s₁.setTop (mkF m 2 #[.val (.ref a0), .val (.int p1), .val (.int (9 : Int32)), .val (.double x3), .second] [(.int p1), (.int (9 : Int32))])) (B := s₁.setTop (mkF m 18 #[.val (.ref a0), .val (.int p1), .val (.int (9 : Int32)), .val (.double x3), .second] [(.int (1 : Int32))])) (fun t k => ?_) ?_
    · show Steps p.tables e below (s₁.setTop (mkF m 2 #[.val (.ref a0), .val (.int p1), .val (.int (9 : Int32)), .val (.double x3), .second] [(.int p1), (.int (9 : Int32))])) t
      refine XS.icmpYes X0.here hx rfl (pc0 := 2) (pc' := 13) rfl (hb hby d5_2) rfl (tlt hc1).1 (by decide) (by decide) ?_
      refine XS.iconst X0.here hx rfl (hb hby d5_13) ?_
      refine XS.goto X0.here hx rfl (pc0 := 14) (pc' := 18) rfl (hb hby d5_14) (by decide) (by decide) ?_
      exact k
    obtain ⟨fs, hr, hrun, hended, hW, hsame⟩ := X0.leave (v := some (.int (nar .boolean (1 : Int32)))) (fun h => by rw [Bd.returns] at h; cases h) hlk
    refine ⟨_, _, ?_, hrun, hended, _, _, rfl, ?_, ⟨_, rfl⟩, hW, hsame.mono (by decide) (by decide)⟩
    · show Steps p.tables e below (s₁.setTop (mkF m 18 #[.val (.ref a0), .val (.int p1), .val (.int (9 : Int32)), .val (.double x3), .second] [(.int (1 : Int32))])) _
      exact retN X0 hx (t := .boolean) Bd.returns (by simp) (hb hby d5_18) hr
    · show Qrmk_9 Z a0 p1 x3 G ka h0 n0 _ (s₁.setFrames fs).heap _
      rw [show (s₁.setFrames fs).heap = h0 from e0]
      exact ⟨rfl, N0, rfl⟩
  · refine OwnGo.of (A := s₁.setTop (mkF m 2 #[.val (.ref a0), .val (.int p1), .val (.int (9 : Int32)), .val (.double x3), .second] [(.int p1), (.int (9 : Int32))])) (B := s₁.setTop (mkF m 7 #[.val (.ref a0), .val (.int p1), .val (.int (9 : Int32)), .val (.double x3), .second] [(.int (9 : Int32)), (.ref a0)])) (fun t k => ?_) ?_
    · show Steps p.tables e below (s₁.setTop (mkF m 2 #[.val (.ref a0), .val (.int p1), .val (.int (9 : Int32)), .val (.double x3), .second] [(.int p1), (.int (9 : Int32))])) t
      refine XS.icmpNo X0.here hx rfl (hb hby d5_2) rfl (flt hc1).1 ?_
      refine XS.aloadN X0.here hx rfl (hb hby d5_5) rfl rfl ?_
      refine XS.iloadN X0.here hx rfl (hb hby d5_6) rfl ?_
      exact k
    have cq3 := V_a
    obtain ⟨clq3, Arq3, qq3, Sq3, Nq3, Hq3, Gq3⟩ := cq3
    have hinq3 := inb_of (j := (9 : Int32)) Sq3 ⟨by decide, by decide⟩
    refine OwnGo.of (X0.daload hx (j := (9 : Int32)) (v := (.double (FP.l2d (G 9)))) (by rw [e0]; exact Arq3.1) (State.isArrayOf_alike hZ.alike Arq3.2.1) Arq3.2.2 hinq3 (Hq3.at hinq3 rfl) (g := (mkF m 7 #[.val (.ref a0), .val (.int p1), .val (.int (9 : Int32)), .val (.double x3), .second] [(.int (9 : Int32)), (.ref a0)])) rfl rfl (hb hby d5_7)) ?_
    show OwnGo p.tables e below _ (s₁.setTop (mkF m 8 #[.val (.ref a0), .val (.int p1), .val (.int (9 : Int32)), .val (.double x3), .second] [(.double (FP.l2d (G 9)))]))
    refine OwnGo.of (A := s₁.setTop (mkF m 8 #[.val (.ref a0), .val (.int p1), .val (.int (9 : Int32)), .val (.double x3), .second] [(.double (FP.l2d (G 9)))])) (B := s₁.setTop (mkF m 10 #[.val (.ref a0), .val (.int p1), .val (.int (9 : Int32)), .val (.double x3), .second] [(.int (cmpValue (FP.dcmp (FP.l2d (G 9)) x3) .l))])) (fun t k => ?_) ?_
    · show Steps p.tables e below (s₁.setTop (mkF m 8 #[.val (.ref a0), .val (.int p1), .val (.int (9 : Int32)), .val (.double x3), .second] [(.double (FP.l2d (G 9)))])) t
      refine XS.dloadN X0.here hx rfl (hb hby d5_8) rfl ?_
      refine XS.dcmpS X0.here hx rfl (hb hby d5_9) rfl rfl ?_
      exact k
    have hc4 : (cmpValue (FP.dcmp (FP.l2d (G 9)) x3) .l) = (0 : Int32) := hk hc1
    refine OwnGo.of (A := s₁.setTop (mkF m 10 #[.val (.ref a0), .val (.int p1), .val (.int (9 : Int32)), .val (.double x3), .second] [(.int (cmpValue (FP.dcmp (FP.l2d (G 9)) x3) .l))])) (B := s₁.setTop (mkF m 18 #[.val (.ref a0), .val (.int p1), .val (.int (9 : Int32)), .val (.double x3), .second] [(.int (1 : Int32))])) (fun t k => ?_) ?_
    · show Steps p.tables e below (s₁.setTop (mkF m 10 #[.val (.ref a0), .val (.int p1), .val (.int (9 : Int32)), .val (.double x3), .second] [(.int (cmpValue (FP.dcmp (FP.l2d (G 9)) x3) .l))])) t
      refine XS.ifNo X0.here hx rfl (hb hby d5_10) rfl ((if0 _ _).trans (teq hc4).2) ?_
      refine XS.iconst X0.here hx rfl (hb hby d5_13) ?_
      refine XS.goto X0.here hx rfl (pc0 := 14) (pc' := 18) rfl (hb hby d5_14) (by decide) (by decide) ?_
      exact k
    obtain ⟨fs, hr, hrun, hended, hW, hsame⟩ := X0.leave (v := some (.int (nar .boolean (1 : Int32)))) (fun h => by rw [Bd.returns] at h; cases h) hlk
    refine ⟨_, _, ?_, hrun, hended, _, _, rfl, ?_, ⟨_, rfl⟩, hW, hsame.mono (by decide) (by decide)⟩
    · show Steps p.tables e below (s₁.setTop (mkF m 18 #[.val (.ref a0), .val (.int p1), .val (.int (9 : Int32)), .val (.double x3), .second] [(.int (1 : Int32))])) _
      exact retN X0 hx (t := .boolean) Bd.returns (by simp) (hb hby d5_18) hr
    · show Qrmk_9 Z a0 p1 x3 G ka h0 n0 _ (s₁.setFrames fs).heap _
      rw [show (s₁.setFrames fs).heap = h0 from e0]
      exact ⟨rfl, N0, rfl⟩
theorem d6_0 : decode method_8_code 0 = .ok (.lload_n 1, 1) := by decide +kernel
theorem d6_1 : decode method_8_code 1 = .ok (.lstore_n 3, 1) := by decide +kernel
theorem d6_2 : decode method_8_code 2 = .ok (.aload_n 0, 1) := by decide +kernel
theorem d6_3 : decode method_8_code 3 = .ok (.iconst 0, 1) := by decide +kernel
theorem d6_4 : decode method_8_code 4 = .ok (.dup2, 1) := by decide +kernel
theorem d6_5 : decode method_8_code 5 = .ok (.laload, 1) := by decide +kernel
theorem d6_6 : decode method_8_code 6 = .ok (.lload_n 3, 1) := by decide +kernel
theorem d6_7 : decode method_8_code 7 = .ok (.ladd, 1) := by decide +kernel
theorem d6_8 : decode method_8_code 8 = .ok (.lastore, 1) := by decide +kernel
theorem d6_9 : decode method_8_code 9 = .ok (.lload_n 3, 1) := by decide +kernel
theorem d6_10 : decode method_8_code 10 = .ok (.lload_n 1, 1) := by decide +kernel
theorem d6_11 : decode method_8_code 11 = .ok (.lmul, 1) := by decide +kernel
theorem d6_12 : decode method_8_code 12 = .ok (.lstore_n 3, 1) := by decide +kernel
theorem d6_13 : decode method_8_code 13 = .ok (.aload_n 0, 1) := by decide +kernel
theorem d6_14 : decode method_8_code 14 = .ok (.iconst 1, 1) := by decide +kernel
theorem d6_15 : decode method_8_code 15 = .ok (.dup2, 1) := by decide +kernel
theorem d6_16 : decode method_8_code 16 = .ok (.laload, 1) := by decide +kernel
theorem d6_17 : decode method_8_code 17 = .ok (.lload_n 3, 1) := by decide +kernel
theorem d6_18 : decode method_8_code 18 = .ok (.ladd, 1) := by decide +kernel
theorem d6_19 : decode method_8_code 19 = .ok (.lastore, 1) := by decide +kernel
theorem d6_20 : decode method_8_code 20 = .ok (.lload_n 3, 1) := by decide +kernel
theorem d6_21 : decode method_8_code 21 = .ok (.lload_n 1, 1) := by decide +kernel
theorem d6_22 : decode method_8_code 22 = .ok (.lmul, 1) := by decide +kernel
theorem d6_23 : decode method_8_code 23 = .ok (.lstore_n 3, 1) := by decide +kernel
theorem d6_24 : decode method_8_code 24 = .ok (.aload_n 0, 1) := by decide +kernel
theorem d6_25 : decode method_8_code 25 = .ok (.iconst 2, 1) := by decide +kernel
theorem d6_26 : decode method_8_code 26 = .ok (.dup2, 1) := by decide +kernel
theorem d6_27 : decode method_8_code 27 = .ok (.laload, 1) := by decide +kernel
theorem d6_28 : decode method_8_code 28 = .ok (.lload_n 3, 1) := by decide +kernel
theorem d6_29 : decode method_8_code 29 = .ok (.ladd, 1) := by decide +kernel
theorem d6_30 : decode method_8_code 30 = .ok (.lastore, 1) := by decide +kernel
theorem d6_31 : decode method_8_code 31 = .ok (.lload_n 3, 1) := by decide +kernel
theorem d6_32 : decode method_8_code 32 = .ok (.lload_n 1, 1) := by decide +kernel
theorem d6_33 : decode method_8_code 33 = .ok (.lmul, 1) := by decide +kernel
theorem d6_34 : decode method_8_code 34 = .ok (.lstore_n 3, 1) := by decide +kernel
theorem d6_35 : decode method_8_code 35 = .ok (.aload_n 0, 1) := by decide +kernel
theorem d6_36 : decode method_8_code 36 = .ok (.iconst 3, 1) := by decide +kernel
theorem d6_37 : decode method_8_code 37 = .ok (.dup2, 1) := by decide +kernel
theorem d6_38 : decode method_8_code 38 = .ok (.laload, 1) := by decide +kernel
theorem d6_39 : decode method_8_code 39 = .ok (.lload_n 3, 1) := by decide +kernel
theorem d6_40 : decode method_8_code 40 = .ok (.ladd, 1) := by decide +kernel
theorem d6_41 : decode method_8_code 41 = .ok (.lastore, 1) := by decide +kernel
theorem d6_42 : decode method_8_code 42 = .ok (.lload_n 3, 1) := by decide +kernel
theorem d6_43 : decode method_8_code 43 = .ok (.lload_n 1, 1) := by decide +kernel
theorem d6_44 : decode method_8_code 44 = .ok (.lmul, 1) := by decide +kernel
theorem d6_45 : decode method_8_code 45 = .ok (.lstore_n 3, 1) := by decide +kernel
theorem d6_46 : decode method_8_code 46 = .ok (.aload_n 0, 1) := by decide +kernel
theorem d6_47 : decode method_8_code 47 = .ok (.iconst 4, 1) := by decide +kernel
theorem d6_48 : decode method_8_code 48 = .ok (.dup2, 1) := by decide +kernel
theorem d6_49 : decode method_8_code 49 = .ok (.laload, 1) := by decide +kernel
theorem d6_50 : decode method_8_code 50 = .ok (.lload_n 3, 1) := by decide +kernel
theorem d6_51 : decode method_8_code 51 = .ok (.ladd, 1) := by decide +kernel
theorem d6_52 : decode method_8_code 52 = .ok (.lastore, 1) := by decide +kernel
theorem d6_53 : decode method_8_code 53 = .ok (.lload_n 3, 1) := by decide +kernel
theorem d6_54 : decode method_8_code 54 = .ok (.lload_n 1, 1) := by decide +kernel
theorem d6_55 : decode method_8_code 55 = .ok (.lmul, 1) := by decide +kernel
theorem d6_56 : decode method_8_code 56 = .ok (.lstore_n 3, 1) := by decide +kernel
theorem d6_57 : decode method_8_code 57 = .ok (.aload_n 0, 1) := by decide +kernel
theorem d6_58 : decode method_8_code 58 = .ok (.iconst 5, 1) := by decide +kernel
theorem d6_59 : decode method_8_code 59 = .ok (.dup2, 1) := by decide +kernel
theorem d6_60 : decode method_8_code 60 = .ok (.laload, 1) := by decide +kernel
theorem d6_61 : decode method_8_code 61 = .ok (.lload_n 3, 1) := by decide +kernel
theorem d6_62 : decode method_8_code 62 = .ok (.ladd, 1) := by decide +kernel
theorem d6_63 : decode method_8_code 63 = .ok (.lastore, 1) := by decide +kernel
theorem d6_64 : decode method_8_code 64 = .ok (.lload_n 3, 1) := by decide +kernel
theorem d6_65 : decode method_8_code 65 = .ok (.lload_n 1, 1) := by decide +kernel
theorem d6_66 : decode method_8_code 66 = .ok (.lmul, 1) := by decide +kernel
theorem d6_67 : decode method_8_code 67 = .ok (.lstore_n 3, 1) := by decide +kernel
theorem d6_68 : decode method_8_code 68 = .ok (.aload_n 0, 1) := by decide +kernel
theorem d6_69 : decode method_8_code 69 = .ok (.bipush 6, 2) := by decide +kernel
theorem d6_71 : decode method_8_code 71 = .ok (.dup2, 1) := by decide +kernel
theorem d6_72 : decode method_8_code 72 = .ok (.laload, 1) := by decide +kernel
theorem d6_73 : decode method_8_code 73 = .ok (.lload_n 3, 1) := by decide +kernel
theorem d6_74 : decode method_8_code 74 = .ok (.ladd, 1) := by decide +kernel
theorem d6_75 : decode method_8_code 75 = .ok (.lastore, 1) := by decide +kernel
theorem d6_76 : decode method_8_code 76 = .ok (.lload_n 3, 1) := by decide +kernel
theorem d6_77 : decode method_8_code 77 = .ok (.lload_n 1, 1) := by decide +kernel
theorem d6_78 : decode method_8_code 78 = .ok (.lmul, 1) := by decide +kernel
theorem d6_79 : decode method_8_code 79 = .ok (.lstore_n 3, 1) := by decide +kernel
theorem d6_80 : decode method_8_code 80 = .ok (.aload_n 0, 1) := by decide +kernel
theorem d6_81 : decode method_8_code 81 = .ok (.bipush 7, 2) := by decide +kernel
theorem d6_83 : decode method_8_code 83 = .ok (.dup2, 1) := by decide +kernel
theorem d6_84 : decode method_8_code 84 = .ok (.laload, 1) := by decide +kernel
theorem d6_85 : decode method_8_code 85 = .ok (.lload_n 3, 1) := by decide +kernel
theorem d6_86 : decode method_8_code 86 = .ok (.ladd, 1) := by decide +kernel
theorem d6_87 : decode method_8_code 87 = .ok (.lastore, 1) := by decide +kernel
theorem d6_88 : decode method_8_code 88 = .ok (.return_, 1) := by decide +kernel
theorem ef_rmp (m : MethodId) (a0 : Addr) (q1 : Int64) : entryFrame m #[(.ref a0), (.long q1)] 5 = mkF m 0 #[.val (.ref a0), .val (.long q1), .second, .unset, .unset] [] := by first | (simp [entryFrame, mkF, argsToLocals, Value.category]; done) | rfl
def Qrmp (Z : State) (a0 : Addr) (q1 : Int64) (W0 : Nat → Int64) (ka : ClassId) (h0 : Heap) (n0 : Nat) (v : Option Value) (h : Heap) (L : List Loc) : Prop := v = none ∧ Fr n0 L ∧ Keep h0 h [a0] ∧ Arv Z h a0 ka .long (8 : Int32) (own_l8 (own_ap W0 q1)) (.long (0 : Int64))
set_option maxRecDepth 65536 in
set_option maxHeartbeats 40000000 in
theorem rmp (l : Launch) (Z : State) (aw : Array Value) (hw : ∀ d ∈ tables_1, d.before aw Z = true) (ws : List Jvm.Cond) (a0 : Addr) (q1 : Int64) (W0 : Nat → Int64) (ka : ClassId) (h0 : Heap) (n0 : Nat) (Z0 : n0 ≤ h0.size) (V_a : Arv Z h0 a0 ka .long (8 : Int32) (own_l8 (W0)) (.long (0 : Int64))) (g_a0 : n0 ≤ a0) :
    MetFree l (⟨"com/example/rankwright/rankwright/rank/AccumulatorSiftDownPinLaw", "addPowers", "([JJ)V"⟩ : MethodName) (head1 (Jvm.Cond.code (⟨"com/example/rankwright/rankwright/rank/AccumulatorSiftDownPinLaw", "addPowers", "([JJ)V"⟩ : MethodName) method_8_code 5 none :: ws) ({ frames := 0, cells := 0, slots := 0, locals := 0 } : Room)) (fun a U => a = #[(.ref a0), (.long q1)] ∧ Z.Warmed39 U.vm ∧ U.heap = h0) (fun _ _ _ _ _ => True) (fun _ U o U' => ∃ v L, o = .returned v ∧ Qrmp Z a0 q1 W0 ka h0 n0 v U'.heap L ∧ FrameEnd U o U' L ({ frames := 0, cells := 0, slots := 0, locals := 0 } : Room).cells ({ frames := 0, cells := 0, slots := 0, locals := 0 } : Room).slots) := by
  refine MetFree.of_bodySF (plainFor_of_name pn_0) hisR ?_
  intro p e s m args below meth c s₁ Bd hml0 hP hK
  obtain ⟨rfl, hZ, hh⟩ := hP
  have hx := Bd.exec
  have hby := Bd.bytes
  have hml : c.maxLocals = 5 := hml0
  have hown : s.vm.findClass "com/example/rankwright/rankwright/rank/AccumulatorSiftDownPinLaw" = some m.cls := findClass_of_methodNamed Bd.named
  have hnm := (name_of_methodNamed Bd.named Bd.method).1
  have X0 : Stand p l e ({ frames := 0, cells := 0, slots := 0, locals := 0 } : Room) s m #[(.ref a0), (.long q1)] below meth c s₁ [] 0 0 := Stand.of_body Bd
  have e0 : s₁.heap = h0 := by rw [← hh, Bd.state]; rfl
  have N0 := Fr.nil n0
  have hlk := Bd.notSynchronized
  show OwnGo p.tables e below _ (s₁.setTop (entryFrame m #[(.ref a0), (.long q1)] 5))
  rw [ef_rmp m a0 q1]
  have K0 : Keep h0 h0 [a0] := Keep.refl _ _
  show OwnGo p.tables e below _ (s₁.setTop (mkF m 0 #[.val (.ref a0), .val (.long q1), .second, .unset, .unset] []))
  refine OwnGo.of (A := s₁.setTop (mkF m 0 #[.val (.ref a0), .val (.long q1), .second, .unset, .unset] [])) (B := s₁.setTop (mkF m 5 #[.val (.ref a0), .val (.long q1), .second, .val (.long q1), .second] [(.int (0 : Int32)), (.ref a0), (.int (0 : Int32)), (.ref a0)])) (fun t k => ?_) ?_
  · show Steps p.tables e below (s₁.setTop (mkF m 0 #[.val (.ref a0), .val (.long q1), .second, .unset, .unset] [])) t
    refine XS.lloadN X0.here hx rfl (hb hby d6_0) rfl ?_
    refine XS.lstoreN X0.here hx rfl (hb hby d6_1) rfl (l' := #[.val (.ref a0), .val (.long q1), .second, .val (.long q1), .second]) rfl ?_
    refine XS.aloadN X0.here hx rfl (hb hby d6_2) rfl rfl ?_
    refine XS.iconst X0.here hx rfl (hb hby d6_3) ?_
    jvm_step X0.here [X0.here.top, hx, (hb hby d6_4), Value.category]
    exact k
  have cq1 := V_a
  obtain ⟨clq1, Arq1, qq1, Sq1, Nq1, Hq1, Gq1⟩ := cq1
  have hinq1 := inb_of (j := (0 : Int32)) Sq1 ⟨by decide, by decide⟩
  refine OwnGo.of (X0.laload hx (j := (0 : Int32)) (v := (.long (W0 0))) (by rw [e0]; exact Arq1.1) (State.isArrayOf_alike hZ.alike Arq1.2.1) Arq1.2.2 hinq1 (Hq1.at hinq1 rfl) (g := (mkF m 5 #[.val (.ref a0), .val (.long q1), .second, .val (.long q1), .second] [(.int (0 : Int32)), (.ref a0), (.int (0 : Int32)), (.ref a0)])) rfl rfl (hb hby d6_5)) ?_
  show OwnGo p.tables e below _ (s₁.setTop (mkF m 6 #[.val (.ref a0), .val (.long q1), .second, .val (.long q1), .second] [(.long (W0 0)), (.int (0 : Int32)), (.ref a0)]))
  refine OwnGo.of (A := s₁.setTop (mkF m 6 #[.val (.ref a0), .val (.long q1), .second, .val (.long q1), .second] [(.long (W0 0)), (.int (0 : Int32)), (.ref a0)])) (B := s₁.setTop (mkF m 8 #[.val (.ref a0), .val (.long q1), .second, .val (.long q1), .second] [(.long ((W0 0) + q1)), (.int (0 : Int32)), (.ref a0)])) (fun t k => ?_) ?_
  · show Steps p.tables e below (s₁.setTop (mkF m 6 #[.val (.ref a0), .val (.long q1), .second, .val (.long q1), .second] [(.long (W0 0)), (.int (0 : Int32)), (.ref a0)])) t
    refine XS.lloadN X0.here hx rfl (hb hby d6_6) rfl ?_
    refine XS.ladd X0.here hx rfl (hb hby d6_7) rfl ?_
    exact k
  have cq2 := V_a
  obtain ⟨clq2, Arq2, qq2, Sq2, Nq2, Hq2, Gq2⟩ := cq2
  obtain ⟨T3, h3, X3, e3, W3, st3⟩ := stJ X0 hx hZ e0 Arq2 (j := (0 : Int32)) (inb_of Sq2 ⟨by decide, by decide⟩) (g := (mkF m 8 #[.val (.ref a0), .val (.long q1), .second, .val (.long q1), .second] [(.long ((W0 0) + q1)), (.int (0 : Int32)), (.ref a0)])) rfl rfl (hb hby d6_8)
  refine OwnGo.of st3 ?_
  have N3 := Fr.snoc X3 N0 g_a0
  have f4 : n0 ≤ h3.size := Nat.le_trans Z0 (Keep.of_wr W3).1
  have f5 : Keep h0 h3 [a0] := K0.wr W3 (Or.inl (List.mem_of_getElem? (i := 0) rfl))
  have f6 : Arv Z h3 a0 ka .long (8 : Int32) [(.long ((W0 0) + q1)), (.long (W0 1)), (.long (W0 2)), (.long (W0 3)), (.long (W0 4)), (.long (W0 5)), (.long (W0 6)), (.long (W0 7))] (.long (0 : Int64)) := Arv.set Arq2 qq2 Sq2 Nq2 Hq2 Gq2 rfl W3 0 rfl (Nat.le_of_ble_eq_true rfl)
  show OwnGo p.tables e below _ (T3.setTop (mkF m 9 #[.val (.ref a0), .val (.long q1), .second, .val (.long q1), .second] []))
  refine OwnGo.of (A := T3.setTop (mkF m 9 #[.val (.ref a0), .val (.long q1), .second, .val (.long q1), .second] [])) (B := T3.setTop (mkF m 16 #[.val (.ref a0), .val (.long q1), .second, .val (.long (q1 * q1)), .second] [(.int (1 : Int32)), (.ref a0), (.int (1 : Int32)), (.ref a0)])) (fun t k => ?_) ?_
  · show Steps p.tables e below (T3.setTop (mkF m 9 #[.val (.ref a0), .val (.long q1), .second, .val (.long q1), .second] [])) t
    refine XS.lloadN X3.here hx rfl (hb hby d6_9) rfl ?_
    refine XS.lloadN X3.here hx rfl (hb hby d6_10) rfl ?_
    refine XS.lmul X3.here hx rfl (hb hby d6_11) rfl ?_
    refine XS.lstoreN X3.here hx rfl (hb hby d6_12) rfl (l' := #[.val (.ref a0), .val (.long q1), .second, .val (.long (q1 * q1)), .second]) rfl ?_
    refine XS.aloadN X3.here hx rfl (hb hby d6_13) rfl rfl ?_
    refine XS.iconst X3.here hx rfl (hb hby d6_14) ?_
    jvm_step X3.here [X3.here.top, hx, (hb hby d6_15), Value.category]
    exact k
  have cq7 := f6
  obtain ⟨clq7, Arq7, qq7, Sq7, Nq7, Hq7, Gq7⟩ := cq7
  have hinq7 := inb_of (j := (1 : Int32)) Sq7 ⟨by decide, by decide⟩
  refine OwnGo.of (X3.laload hx (j := (1 : Int32)) (v := (.long (W0 1))) (by rw [e3]; exact Arq7.1) (State.isArrayOf_alike hZ.alike Arq7.2.1) Arq7.2.2 hinq7 (Hq7.at hinq7 rfl) (g := (mkF m 16 #[.val (.ref a0), .val (.long q1), .second, .val (.long (q1 * q1)), .second] [(.int (1 : Int32)), (.ref a0), (.int (1 : Int32)), (.ref a0)])) rfl rfl (hb hby d6_16)) ?_
  show OwnGo p.tables e below _ (T3.setTop (mkF m 17 #[.val (.ref a0), .val (.long q1), .second, .val (.long (q1 * q1)), .second] [(.long (W0 1)), (.int (1 : Int32)), (.ref a0)]))
  refine OwnGo.of (A := T3.setTop (mkF m 17 #[.val (.ref a0), .val (.long q1), .second, .val (.long (q1 * q1)), .second] [(.long (W0 1)), (.int (1 : Int32)), (.ref a0)])) (B := T3.setTop (mkF m 19 #[.val (.ref a0), .val (.long q1), .second, .val (.long (q1 * q1)), .second] [(.long ((W0 1) + (q1 * q1))), (.int (1 : Int32)), (.ref a0)])) (fun t k => ?_) ?_
  · show Steps p.tables e below (T3.setTop (mkF m 17 #[.val (.ref a0), .val (.long q1), .second, .val (.long (q1 * q1)), .second] [(.long (W0 1)), (.int (1 : Int32)), (.ref a0)])) t
    refine XS.lloadN X3.here hx rfl (hb hby d6_17) rfl ?_
    refine XS.ladd X3.here hx rfl (hb hby d6_18) rfl ?_
    exact k
  have cq8 := f6
  obtain ⟨clq8, Arq8, qq8, Sq8, Nq8, Hq8, Gq8⟩ := cq8
  obtain ⟨T9, h9, X9, e9, W9, st9⟩ := stJ X3 hx hZ e3 Arq8 (j := (1 : Int32)) (inb_of Sq8 ⟨by decide, by decide⟩) (g := (mkF m 19 #[.val (.ref a0), .val (.long q1), .second, .val (.long (q1 * q1)), .second] [(.long ((W0 1) + (q1 * q1))), (.int (1 : Int32)), (.ref a0)])) rfl rfl (hb hby d6_19)
  refine OwnGo.of st9 ?_
  have N9 := Fr.snoc X9 N3 g_a0
  have f10 : n0 ≤ h9.size := Nat.le_trans f4 (Keep.of_wr W9).1
  have f11 : Keep h0 h9 [a0] := f5.wr W9 (Or.inl (List.mem_of_getElem? (i := 0) rfl))
  have f12 : Arv Z h9 a0 ka .long (8 : Int32) [(.long ((W0 0) + q1)), (.long ((W0 1) + (q1 * q1))), (.long (W0 2)), (.long (W0 3)), (.long (W0 4)), (.long (W0 5)), (.long (W0 6)), (.long (W0 7))] (.long (0 : Int64)) := Arv.set Arq8 qq8 Sq8 Nq8 Hq8 Gq8 rfl W9 1 rfl (Nat.le_of_ble_eq_true rfl)
  show OwnGo p.tables e below _ (T9.setTop (mkF m 20 #[.val (.ref a0), .val (.long q1), .second, .val (.long (q1 * q1)), .second] []))
  refine OwnGo.of (A := T9.setTop (mkF m 20 #[.val (.ref a0), .val (.long q1), .second, .val (.long (q1 * q1)), .second] [])) (B := T9.setTop (mkF m 27 #[.val (.ref a0), .val (.long q1), .second, .val (.long ((q1 * q1) * q1)), .second] [(.int (2 : Int32)), (.ref a0), (.int (2 : Int32)), (.ref a0)])) (fun t k => ?_) ?_
  · show Steps p.tables e below (T9.setTop (mkF m 20 #[.val (.ref a0), .val (.long q1), .second, .val (.long (q1 * q1)), .second] [])) t
    refine XS.lloadN X9.here hx rfl (hb hby d6_20) rfl ?_
    refine XS.lloadN X9.here hx rfl (hb hby d6_21) rfl ?_
    refine XS.lmul X9.here hx rfl (hb hby d6_22) rfl ?_
    refine XS.lstoreN X9.here hx rfl (hb hby d6_23) rfl (l' := #[.val (.ref a0), .val (.long q1), .second, .val (.long ((q1 * q1) * q1)), .second]) rfl ?_
    refine XS.aloadN X9.here hx rfl (hb hby d6_24) rfl rfl ?_
    refine XS.iconst X9.here hx rfl (hb hby d6_25) ?_
    jvm_step X9.here [X9.here.top, hx, (hb hby d6_26), Value.category]
    exact k
  have cq13 := f12
  obtain ⟨clq13, Arq13, qq13, Sq13, Nq13, Hq13, Gq13⟩ := cq13
  have hinq13 := inb_of (j := (2 : Int32)) Sq13 ⟨by decide, by decide⟩
  refine OwnGo.of (X9.laload hx (j := (2 : Int32)) (v := (.long (W0 2))) (by rw [e9]; exact Arq13.1) (State.isArrayOf_alike hZ.alike Arq13.2.1) Arq13.2.2 hinq13 (Hq13.at hinq13 rfl) (g := (mkF m 27 #[.val (.ref a0), .val (.long q1), .second, .val (.long ((q1 * q1) * q1)), .second] [(.int (2 : Int32)), (.ref a0), (.int (2 : Int32)), (.ref a0)])) rfl rfl (hb hby d6_27)) ?_
  show OwnGo p.tables e below _ (T9.setTop (mkF m 28 #[.val (.ref a0), .val (.long q1), .second, .val (.long ((q1 * q1) * q1)), .second] [(.long (W0 2)), (.int (2 : Int32)), (.ref a0)]))
  refine OwnGo.of (A := T9.setTop (mkF m 28 #[.val (.ref a0), .val (.long q1), .second, .val (.long ((q1 * q1) * q1)), .second] [(.long (W0 2)), (.int (2 : Int32)), (.ref a0)])) (B := T9.setTop (mkF m 30 #[.val (.ref a0), .val (.long q1), .second, .val (.long ((q1 * q1) * q1)), .second] [(.long ((W0 2) + ((q1 * q1) * q1))), (.int (2 : Int32)), (.ref a0)])) (fun t k => ?_) ?_
  · show Steps p.tables e below (T9.setTop (mkF m 28 #[.val (.ref a0), .val (.long q1), .second, .val (.long ((q1 * q1) * q1)), .second] [(.long (W0 2)), (.int (2 : Int32)), (.ref a0)])) t
    refine XS.lloadN X9.here hx rfl (hb hby d6_28) rfl ?_
    refine XS.ladd X9.here hx rfl (hb hby d6_29) rfl ?_
    exact k
  have cq14 := f12
  obtain ⟨clq14, Arq14, qq14, Sq14, Nq14, Hq14, Gq14⟩ := cq14
  obtain ⟨T15, h15, X15, e15, W15, st15⟩ := stJ X9 hx hZ e9 Arq14 (j := (2 : Int32)) (inb_of Sq14 ⟨by decide, by decide⟩) (g := (mkF m 30 #[.val (.ref a0), .val (.long q1), .second, .val (.long ((q1 * q1) * q1)), .second] [(.long ((W0 2) + ((q1 * q1) * q1))), (.int (2 : Int32)), (.ref a0)])) rfl rfl (hb hby d6_30)
  refine OwnGo.of st15 ?_
  have N15 := Fr.snoc X15 N9 g_a0
  have f16 : n0 ≤ h15.size := Nat.le_trans f10 (Keep.of_wr W15).1
  have f17 : Keep h0 h15 [a0] := f11.wr W15 (Or.inl (List.mem_of_getElem? (i := 0) rfl))
  have f18 : Arv Z h15 a0 ka .long (8 : Int32) [(.long ((W0 0) + q1)), (.long ((W0 1) + (q1 * q1))), (.long ((W0 2) + ((q1 * q1) * q1))), (.long (W0 3)), (.long (W0 4)), (.long (W0 5)), (.long (W0 6)), (.long (W0 7))] (.long (0 : Int64)) := Arv.set Arq14 qq14 Sq14 Nq14 Hq14 Gq14 rfl W15 2 rfl (Nat.le_of_ble_eq_true rfl)
  show OwnGo p.tables e below _ (T15.setTop (mkF m 31 #[.val (.ref a0), .val (.long q1), .second, .val (.long ((q1 * q1) * q1)), .second] []))
  refine OwnGo.of (A := T15.setTop (mkF m 31 #[.val (.ref a0), .val (.long q1), .second, .val (.long ((q1 * q1) * q1)), .second] [])) (B := T15.setTop (mkF m 38 #[.val (.ref a0), .val (.long q1), .second, .val (.long (((q1 * q1) * q1) * q1)), .second] [(.int (3 : Int32)), (.ref a0), (.int (3 : Int32)), (.ref a0)])) (fun t k => ?_) ?_
  · show Steps p.tables e below (T15.setTop (mkF m 31 #[.val (.ref a0), .val (.long q1), .second, .val (.long ((q1 * q1) * q1)), .second] [])) t
    refine XS.lloadN X15.here hx rfl (hb hby d6_31) rfl ?_
    refine XS.lloadN X15.here hx rfl (hb hby d6_32) rfl ?_
    refine XS.lmul X15.here hx rfl (hb hby d6_33) rfl ?_
    refine XS.lstoreN X15.here hx rfl (hb hby d6_34) rfl (l' := #[.val (.ref a0), .val (.long q1), .second, .val (.long (((q1 * q1) * q1) * q1)), .second]) rfl ?_
    refine XS.aloadN X15.here hx rfl (hb hby d6_35) rfl rfl ?_
    refine XS.iconst X15.here hx rfl (hb hby d6_36) ?_
    jvm_step X15.here [X15.here.top, hx, (hb hby d6_37), Value.category]
    exact k
  have cq19 := f18
  obtain ⟨clq19, Arq19, qq19, Sq19, Nq19, Hq19, Gq19⟩ := cq19
  have hinq19 := inb_of (j := (3 : Int32)) Sq19 ⟨by decide, by decide⟩
  refine OwnGo.of (X15.laload hx (j := (3 : Int32)) (v := (.long (W0 3))) (by rw [e15]; exact Arq19.1) (State.isArrayOf_alike hZ.alike Arq19.2.1) Arq19.2.2 hinq19 (Hq19.at hinq19 rfl) (g := (mkF m 38 #[.val (.ref a0), .val (.long q1), .second, .val (.long (((q1 * q1) * q1) * q1)), .second] [(.int (3 : Int32)), (.ref a0), (.int (3 : Int32)), (.ref a0)])) rfl rfl (hb hby d6_38)) ?_
  show OwnGo p.tables e below _ (T15.setTop (mkF m 39 #[.val (.ref a0), .val (.long q1), .second, .val (.long (((q1 * q1) * q1) * q1)), .second] [(.long (W0 3)), (.int (3 : Int32)), (.ref a0)]))
  refine OwnGo.of (A := T15.setTop (mkF m 39 #[.val (.ref a0), .val (.long q1), .second, .val (.long (((q1 * q1) * q1) * q1)), .second] [(.long (W0 3)), (.int (3 : Int32)), (.ref a0)])) (B := T15.setTop (mkF m 41 #[.val (.ref a0), .val (.long q1), .second, .val (.long (((q1 * q1) * q1) * q1)), .second] [(.long ((W0 3) + (((q1 * q1) * q1) * q1))), (.int (3 : Int32)), (.ref a0)])) (fun t k => ?_) ?_
  · show Steps p.tables e below (T15.setTop (mkF m 39 #[.val (.ref a0), .val (.long q1), .second, .val (.long (((q1 * q1) * q1) * q1)), .second] [(.long (W0 3)), (.int (3 : Int32)), (.ref a0)])) t
    refine XS.lloadN X15.here hx rfl (hb hby d6_39) rfl ?_
    refine XS.ladd X15.here hx rfl (hb hby d6_40) rfl ?_
    exact k
  have cq20 := f18
  obtain ⟨clq20, Arq20, qq20, Sq20, Nq20, Hq20, Gq20⟩ := cq20
  obtain ⟨T21, h21, X21, e21, W21, st21⟩ := stJ X15 hx hZ e15 Arq20 (j := (3 : Int32)) (inb_of Sq20 ⟨by decide, by decide⟩) (g := (mkF m 41 #[.val (.ref a0), .val (.long q1), .second, .val (.long (((q1 * q1) * q1) * q1)), .second] [(.long ((W0 3) + (((q1 * q1) * q1) * q1))), (.int (3 : Int32)), (.ref a0)])) rfl rfl (hb hby d6_41)
  refine OwnGo.of st21 ?_
  have N21 := Fr.snoc X21 N15 g_a0
  have f22 : n0 ≤ h21.size := Nat.le_trans f16 (Keep.of_wr W21).1
  have f23 : Keep h0 h21 [a0] := f17.wr W21 (Or.inl (List.mem_of_getElem? (i := 0) rfl))
  have f24 : Arv Z h21 a0 ka .long (8 : Int32) [(.long ((W0 0) + q1)), (.long ((W0 1) + (q1 * q1))), (.long ((W0 2) + ((q1 * q1) * q1))), (.long ((W0 3) + (((q1 * q1) * q1) * q1))), (.long (W0 4)), (.long (W0 5)), (.long (W0 6)), (.long (W0 7))] (.long (0 : Int64)) := Arv.set Arq20 qq20 Sq20 Nq20 Hq20 Gq20 rfl W21 3 rfl (Nat.le_of_ble_eq_true rfl)
  show OwnGo p.tables e below _ (T21.setTop (mkF m 42 #[.val (.ref a0), .val (.long q1), .second, .val (.long (((q1 * q1) * q1) * q1)), .second] []))
  refine OwnGo.of (A := T21.setTop (mkF m 42 #[.val (.ref a0), .val (.long q1), .second, .val (.long (((q1 * q1) * q1) * q1)), .second] [])) (B := T21.setTop (mkF m 49 #[.val (.ref a0), .val (.long q1), .second, .val (.long ((((q1 * q1) * q1) * q1) * q1)), .second] [(.int (4 : Int32)), (.ref a0), (.int (4 : Int32)), (.ref a0)])) (fun t k => ?_) ?_
  · show Steps p.tables e below (T21.setTop (mkF m 42 #[.val (.ref a0), .val (.long q1), .second, .val (.long (((q1 * q1) * q1) * q1)), .second] [])) t
    refine XS.lloadN X21.here hx rfl (hb hby d6_42) rfl ?_
    refine XS.lloadN X21.here hx rfl (hb hby d6_43) rfl ?_
    refine XS.lmul X21.here hx rfl (hb hby d6_44) rfl ?_
    refine XS.lstoreN X21.here hx rfl (hb hby d6_45) rfl (l' := #[.val (.ref a0), .val (.long q1), .second, .val (.long ((((q1 * q1) * q1) * q1) * q1)), .second]) rfl ?_
    refine XS.aloadN X21.here hx rfl (hb hby d6_46) rfl rfl ?_
    refine XS.iconst X21.here hx rfl (hb hby d6_47) ?_
    jvm_step X21.here [X21.here.top, hx, (hb hby d6_48), Value.category]
    exact k
  have cq25 := f24
  obtain ⟨clq25, Arq25, qq25, Sq25, Nq25, Hq25, Gq25⟩ := cq25
  have hinq25 := inb_of (j := (4 : Int32)) Sq25 ⟨by decide, by decide⟩
  refine OwnGo.of (X21.laload hx (j := (4 : Int32)) (v := (.long (W0 4))) (by rw [e21]; exact Arq25.1) (State.isArrayOf_alike hZ.alike Arq25.2.1) Arq25.2.2 hinq25 (Hq25.at hinq25 rfl) (g := (mkF m 49 #[.val (.ref a0), .val (.long q1), .second, .val (.long ((((q1 * q1) * q1) * q1) * q1)), .second] [(.int (4 : Int32)), (.ref a0), (.int (4 : Int32)), (.ref a0)])) rfl rfl (hb hby d6_49)) ?_
  show OwnGo p.tables e below _ (T21.setTop (mkF m 50 #[.val (.ref a0), .val (.long q1), .second, .val (.long ((((q1 * q1) * q1) * q1) * q1)), .second] [(.long (W0 4)), (.int (4 : Int32)), (.ref a0)]))
  refine OwnGo.of (A := T21.setTop (mkF m 50 #[.val (.ref a0), .val (.long q1), .second, .val (.long ((((q1 * q1) * q1) * q1) * q1)), .second] [(.long (W0 4)), (.int (4 : Int32)), (.ref a0)])) (B := T21.setTop (mkF m 52 #[.val (.ref a0), .val (.long q1), .second, .val (.long ((((q1 * q1) * q1) * q1) * q1)), .second] [(.long ((W0 4) + ((((q1 * q1) * q1) * q1) * q1))), (.int (4 : Int32)), (.ref a0)])) (fun t k => ?_) ?_
  · show Steps p.tables e below (T21.setTop (mkF m 50 #[.val (.ref a0), .val (.long q1), .second, .val (.long ((((q1 * q1) * q1) * q1) * q1)), .second] [(.long (W0 4)), (.int (4 : Int32)), (.ref a0)])) t
    refine XS.lloadN X21.here hx rfl (hb hby d6_50) rfl ?_
    refine XS.ladd X21.here hx rfl (hb hby d6_51) rfl ?_
    exact k
  have cq26 := f24
  obtain ⟨clq26, Arq26, qq26, Sq26, Nq26, Hq26, Gq26⟩ := cq26
  obtain ⟨T27, h27, X27, e27, W27, st27⟩ := stJ X21 hx hZ e21 Arq26 (j := (4 : Int32)) (inb_of Sq26 ⟨by decide, by decide⟩) (g := (mkF m 52 #[.val (.ref a0), .val (.long q1), .second, .val (.long ((((q1 * q1) * q1) * q1) * q1)), .second] [(.long ((W0 4) + ((((q1 * q1) * q1) * q1) * q1))), (.int (4 : Int32)), (.ref a0)])) rfl rfl (hb hby d6_52)
  refine OwnGo.of st27 ?_
  have N27 := Fr.snoc X27 N21 g_a0
  have f28 : n0 ≤ h27.size := Nat.le_trans f22 (Keep.of_wr W27).1
  have f29 : Keep h0 h27 [a0] := f23.wr W27 (Or.inl (List.mem_of_getElem? (i := 0) rfl))
  have f30 : Arv Z h27 a0 ka .long (8 : Int32) [(.long ((W0 0) + q1)), (.long ((W0 1) + (q1 * q1))), (.long ((W0 2) + ((q1 * q1) * q1))), (.long ((W0 3) + (((q1 * q1) * q1) * q1))), (.long ((W0 4) + ((((q1 * q1) * q1) * q1) * q1))), (.long (W0 5)), (.long (W0 6)), (.long (W0 7))] (.long (0 : Int64)) := Arv.set Arq26 qq26 Sq26 Nq26 Hq26 Gq26 rfl W27 4 rfl (Nat.le_of_ble_eq_true rfl)
  show OwnGo p.tables e below _ (T27.setTop (mkF m 53 #[.val (.ref a0), .val (.long q1), .second, .val (.long ((((q1 * q1) * q1) * q1) * q1)), .second] []))
  refine OwnGo.of (A := T27.setTop (mkF m 53 #[.val (.ref a0), .val (.long q1), .second, .val (.long ((((q1 * q1) * q1) * q1) * q1)), .second] [])) (B := T27.setTop (mkF m 60 #[.val (.ref a0), .val (.long q1), .second, .val (.long (((((q1 * q1) * q1) * q1) * q1) * q1)), .second] [(.int (5 : Int32)), (.ref a0), (.int (5 : Int32)), (.ref a0)])) (fun t k => ?_) ?_
  · show Steps p.tables e below (T27.setTop (mkF m 53 #[.val (.ref a0), .val (.long q1), .second, .val (.long ((((q1 * q1) * q1) * q1) * q1)), .second] [])) t
    refine XS.lloadN X27.here hx rfl (hb hby d6_53) rfl ?_
    refine XS.lloadN X27.here hx rfl (hb hby d6_54) rfl ?_
    refine XS.lmul X27.here hx rfl (hb hby d6_55) rfl ?_
    refine XS.lstoreN X27.here hx rfl (hb hby d6_56) rfl (l' := #[.val (.ref a0), .val (.long q1), .second, .val (.long (((((q1 * q1) * q1) * q1) * q1) * q1)), .second]) rfl ?_
    refine XS.aloadN X27.here hx rfl (hb hby d6_57) rfl rfl ?_
    refine XS.iconst X27.here hx rfl (hb hby d6_58) ?_
    jvm_step X27.here [X27.here.top, hx, (hb hby d6_59), Value.category]
    exact k
  have cq31 := f30
  obtain ⟨clq31, Arq31, qq31, Sq31, Nq31, Hq31, Gq31⟩ := cq31
  have hinq31 := inb_of (j := (5 : Int32)) Sq31 ⟨by decide, by decide⟩
  refine OwnGo.of (X27.laload hx (j := (5 : Int32)) (v := (.long (W0 5))) (by rw [e27]; exact Arq31.1) (State.isArrayOf_alike hZ.alike Arq31.2.1) Arq31.2.2 hinq31 (Hq31.at hinq31 rfl) (g := (mkF m 60 #[.val (.ref a0), .val (.long q1), .second, .val (.long (((((q1 * q1) * q1) * q1) * q1) * q1)), .second] [(.int (5 : Int32)), (.ref a0), (.int (5 : Int32)), (.ref a0)])) rfl rfl (hb hby d6_60)) ?_
  show OwnGo p.tables e below _ (T27.setTop (mkF m 61 #[.val (.ref a0), .val (.long q1), .second, .val (.long (((((q1 * q1) * q1) * q1) * q1) * q1)), .second] [(.long (W0 5)), (.int (5 : Int32)), (.ref a0)]))
  refine OwnGo.of (A := T27.setTop (mkF m 61 #[.val (.ref a0), .val (.long q1), .second, .val (.long (((((q1 * q1) * q1) * q1) * q1) * q1)), .second] [(.long (W0 5)), (.int (5 : Int32)), (.ref a0)])) (B := T27.setTop (mkF m 63 #[.val (.ref a0), .val (.long q1), .second, .val (.long (((((q1 * q1) * q1) * q1) * q1) * q1)), .second] [(.long ((W0 5) + (((((q1 * q1) * q1) * q1) * q1) * q1))), (.int (5 : Int32)), (.ref a0)])) (fun t k => ?_) ?_
  · show Steps p.tables e below (T27.setTop (mkF m 61 #[.val (.ref a0), .val (.long q1), .second, .val (.long (((((q1 * q1) * q1) * q1) * q1) * q1)), .second] [(.long (W0 5)), (.int (5 : Int32)), (.ref a0)])) t
    refine XS.lloadN X27.here hx rfl (hb hby d6_61) rfl ?_
    refine XS.ladd X27.here hx rfl (hb hby d6_62) rfl ?_
    exact k
  have cq32 := f30
  obtain ⟨clq32, Arq32, qq32, Sq32, Nq32, Hq32, Gq32⟩ := cq32
  obtain ⟨T33, h33, X33, e33, W33, st33⟩ := stJ X27 hx hZ e27 Arq32 (j := (5 : Int32)) (inb_of Sq32 ⟨by decide, by decide⟩) (g := (mkF m 63 #[.val (.ref a0), .val (.long q1), .second, .val (.long (((((q1 * q1) * q1) * q1) * q1) * q1)), .second] [(.long ((W0 5) + (((((q1 * q1) * q1) * q1) * q1) * q1))), (.int (5 : Int32)), (.ref a0)])) rfl rfl (hb hby d6_63)
  refine OwnGo.of st33 ?_
  have N33 := Fr.snoc X33 N27 g_a0
  have f34 : n0 ≤ h33.size := Nat.le_trans f28 (Keep.of_wr W33).1
  have f35 : Keep h0 h33 [a0] := f29.wr W33 (Or.inl (List.mem_of_getElem? (i := 0) rfl))
  have f36 : Arv Z h33 a0 ka .long (8 : Int32) [(.long ((W0 0) + q1)), (.long ((W0 1) + (q1 * q1))), (.long ((W0 2) + ((q1 * q1) * q1))), (.long ((W0 3) + (((q1 * q1) * q1) * q1))), (.long ((W0 4) + ((((q1 * q1) * q1) * q1) * q1))), (.long ((W0 5) + (((((q1 * q1) * q1) * q1) * q1) * q1))), (.long (W0 6)), (.long (W0 7))] (.long (0 : Int64)) := Arv.set Arq32 qq32 Sq32 Nq32 Hq32 Gq32 rfl W33 5 rfl (Nat.le_of_ble_eq_true rfl)
  show OwnGo p.tables e below _ (T33.setTop (mkF m 64 #[.val (.ref a0), .val (.long q1), .second, .val (.long (((((q1 * q1) * q1) * q1) * q1) * q1)), .second] []))
  refine OwnGo.of (A := T33.setTop (mkF m 64 #[.val (.ref a0), .val (.long q1), .second, .val (.long (((((q1 * q1) * q1) * q1) * q1) * q1)), .second] [])) (B := T33.setTop (mkF m 72 #[.val (.ref a0), .val (.long q1), .second, .val (.long ((((((q1 * q1) * q1) * q1) * q1) * q1) * q1)), .second] [(.int (6 : Int32)), (.ref a0), (.int (6 : Int32)), (.ref a0)])) (fun t k => ?_) ?_
  · show Steps p.tables e below (T33.setTop (mkF m 64 #[.val (.ref a0), .val (.long q1), .second, .val (.long (((((q1 * q1) * q1) * q1) * q1) * q1)), .second] [])) t
    refine XS.lloadN X33.here hx rfl (hb hby d6_64) rfl ?_
    refine XS.lloadN X33.here hx rfl (hb hby d6_65) rfl ?_
    refine XS.lmul X33.here hx rfl (hb hby d6_66) rfl ?_
    refine XS.lstoreN X33.here hx rfl (hb hby d6_67) rfl (l' := #[.val (.ref a0), .val (.long q1), .second, .val (.long ((((((q1 * q1) * q1) * q1) * q1) * q1) * q1)), .second]) rfl ?_
    refine XS.aloadN X33.here hx rfl (hb hby d6_68) rfl rfl ?_
    refine XS.bipush X33.here hx rfl (hb hby d6_69) ?_
    jvm_step X33.here [X33.here.top, hx, (hb hby d6_71), Value.category]
    exact k
  have cq37 := f36
  obtain ⟨clq37, Arq37, qq37, Sq37, Nq37, Hq37, Gq37⟩ := cq37
  have hinq37 := inb_of (j := (6 : Int32)) Sq37 ⟨by decide, by decide⟩
  refine OwnGo.of (X33.laload hx (j := (6 : Int32)) (v := (.long (W0 6))) (by rw [e33]; exact Arq37.1) (State.isArrayOf_alike hZ.alike Arq37.2.1) Arq37.2.2 hinq37 (Hq37.at hinq37 rfl) (g := (mkF m 72 #[.val (.ref a0), .val (.long q1), .second, .val (.long ((((((q1 * q1) * q1) * q1) * q1) * q1) * q1)), .second] [(.int (6 : Int32)), (.ref a0), (.int (6 : Int32)), (.ref a0)])) rfl rfl (hb hby d6_72)) ?_
  show OwnGo p.tables e below _ (T33.setTop (mkF m 73 #[.val (.ref a0), .val (.long q1), .second, .val (.long ((((((q1 * q1) * q1) * q1) * q1) * q1) * q1)), .second] [(.long (W0 6)), (.int (6 : Int32)), (.ref a0)]))
  refine OwnGo.of (A := T33.setTop (mkF m 73 #[.val (.ref a0), .val (.long q1), .second, .val (.long ((((((q1 * q1) * q1) * q1) * q1) * q1) * q1)), .second] [(.long (W0 6)), (.int (6 : Int32)), (.ref a0)])) (B := T33.setTop (mkF m 75 #[.val (.ref a0), .val (.long q1), .second, .val (.long ((((((q1 * q1) * q1) * q1) * q1) * q1) * q1)), .second] [(.long ((W0 6) + ((((((q1 * q1) * q1) * q1) * q1) * q1) * q1))), (.int (6 : Int32)), (.ref a0)])) (fun t k => ?_) ?_
  · show Steps p.tables e below (T33.setTop (mkF m 73 #[.val (.ref a0), .val (.long q1), .second, .val (.long ((((((q1 * q1) * q1) * q1) * q1) * q1) * q1)), .second] [(.long (W0 6)), (.int (6 : Int32)), (.ref a0)])) t
    refine XS.lloadN X33.here hx rfl (hb hby d6_73) rfl ?_
    refine XS.ladd X33.here hx rfl (hb hby d6_74) rfl ?_
    exact k
  have cq38 := f36
  obtain ⟨clq38, Arq38, qq38, Sq38, Nq38, Hq38, Gq38⟩ := cq38
  obtain ⟨T39, h39, X39, e39, W39, st39⟩ := stJ X33 hx hZ e33 Arq38 (j := (6 : Int32)) (inb_of Sq38 ⟨by decide, by decide⟩) (g := (mkF m 75 #[.val (.ref a0), .val (.long q1), .second, .val (.long ((((((q1 * q1) * q1) * q1) * q1) * q1) * q1)), .second] [(.long ((W0 6) + ((((((q1 * q1) * q1) * q1) * q1) * q1) * q1))), (.int (6 : Int32)), (.ref a0)])) rfl rfl (hb hby d6_75)
  refine OwnGo.of st39 ?_
  have N39 := Fr.snoc X39 N33 g_a0
  have f40 : n0 ≤ h39.size := Nat.le_trans f34 (Keep.of_wr W39).1
  have f41 : Keep h0 h39 [a0] := f35.wr W39 (Or.inl (List.mem_of_getElem? (i := 0) rfl))
  have f42 : Arv Z h39 a0 ka .long (8 : Int32) [(.long ((W0 0) + q1)), (.long ((W0 1) + (q1 * q1))), (.long ((W0 2) + ((q1 * q1) * q1))), (.long ((W0 3) + (((q1 * q1) * q1) * q1))), (.long ((W0 4) + ((((q1 * q1) * q1) * q1) * q1))), (.long ((W0 5) + (((((q1 * q1) * q1) * q1) * q1) * q1))), (.long ((W0 6) + ((((((q1 * q1) * q1) * q1) * q1) * q1) * q1))), (.long (W0 7))] (.long (0 : Int64)) := Arv.set Arq38 qq38 Sq38 Nq38 Hq38 Gq38 rfl W39 6 rfl (Nat.le_of_ble_eq_true rfl)
  show OwnGo p.tables e below _ (T39.setTop (mkF m 76 #[.val (.ref a0), .val (.long q1), .second, .val (.long ((((((q1 * q1) * q1) * q1) * q1) * q1) * q1)), .second] []))
  refine OwnGo.of (A := T39.setTop (mkF m 76 #[.val (.ref a0), .val (.long q1), .second, .val (.long ((((((q1 * q1) * q1) * q1) * q1) * q1) * q1)), .second] [])) (B := T39.setTop (mkF m 84 #[.val (.ref a0), .val (.long q1), .second, .val (.long (((((((q1 * q1) * q1) * q1) * q1) * q1) * q1) * q1)), .second] [(.int (7 : Int32)), (.ref a0), (.int (7 : Int32)), (.ref a0)])) (fun t k => ?_) ?_
  · show Steps p.tables e below (T39.setTop (mkF m 76 #[.val (.ref a0), .val (.long q1), .second, .val (.long ((((((q1 * q1) * q1) * q1) * q1) * q1) * q1)), .second] [])) t
    refine XS.lloadN X39.here hx rfl (hb hby d6_76) rfl ?_
    refine XS.lloadN X39.here hx rfl (hb hby d6_77) rfl ?_
    refine XS.lmul X39.here hx rfl (hb hby d6_78) rfl ?_
    refine XS.lstoreN X39.here hx rfl (hb hby d6_79) rfl (l' := #[.val (.ref a0), .val (.long q1), .second, .val (.long (((((((q1 * q1) * q1) * q1) * q1) * q1) * q1) * q1)), .second]) rfl ?_
    refine XS.aloadN X39.here hx rfl (hb hby d6_80) rfl rfl ?_
    refine XS.bipush X39.here hx rfl (hb hby d6_81) ?_
    jvm_step X39.here [X39.here.top, hx, (hb hby d6_83), Value.category]
    exact k
  have cq43 := f42
  obtain ⟨clq43, Arq43, qq43, Sq43, Nq43, Hq43, Gq43⟩ := cq43
  have hinq43 := inb_of (j := (7 : Int32)) Sq43 ⟨by decide, by decide⟩
  refine OwnGo.of (X39.laload hx (j := (7 : Int32)) (v := (.long (W0 7))) (by rw [e39]; exact Arq43.1) (State.isArrayOf_alike hZ.alike Arq43.2.1) Arq43.2.2 hinq43 (Hq43.at hinq43 rfl) (g := (mkF m 84 #[.val (.ref a0), .val (.long q1), .second, .val (.long (((((((q1 * q1) * q1) * q1) * q1) * q1) * q1) * q1)), .second] [(.int (7 : Int32)), (.ref a0), (.int (7 : Int32)), (.ref a0)])) rfl rfl (hb hby d6_84)) ?_
  show OwnGo p.tables e below _ (T39.setTop (mkF m 85 #[.val (.ref a0), .val (.long q1), .second, .val (.long (((((((q1 * q1) * q1) * q1) * q1) * q1) * q1) * q1)), .second] [(.long (W0 7)), (.int (7 : Int32)), (.ref a0)]))
  refine OwnGo.of (A := T39.setTop (mkF m 85 #[.val (.ref a0), .val (.long q1), .second, .val (.long (((((((q1 * q1) * q1) * q1) * q1) * q1) * q1) * q1)), .second] [(.long (W0 7)), (.int (7 : Int32)), (.ref a0)])) (B := T39.setTop (mkF m 87 #[.val (.ref a0), .val (.long q1), .second, .val (.long (((((((q1 * q1) * q1) * q1) * q1) * q1) * q1) * q1)), .second] [(.long ((W0 7) + (((((((q1 * q1) * q1) * q1) * q1) * q1) * q1) * q1))), (.int (7 : Int32)), (.ref a0)])) (fun t k => ?_) ?_
  · show Steps p.tables e below (T39.setTop (mkF m 85 #[.val (.ref a0), .val (.long q1), .second, .val (.long (((((((q1 * q1) * q1) * q1) * q1) * q1) * q1) * q1)), .second] [(.long (W0 7)), (.int (7 : Int32)), (.ref a0)])) t
    refine XS.lloadN X39.here hx rfl (hb hby d6_85) rfl ?_
    refine XS.ladd X39.here hx rfl (hb hby d6_86) rfl ?_
    exact k
  have cq44 := f42
  obtain ⟨clq44, Arq44, qq44, Sq44, Nq44, Hq44, Gq44⟩ := cq44
  obtain ⟨T45, h45, X45, e45, W45, st45⟩ := stJ X39 hx hZ e39 Arq44 (j := (7 : Int32)) (inb_of Sq44 ⟨by decide, by decide⟩) (g := (mkF m 87 #[.val (.ref a0), .val (.long q1), .second, .val (.long (((((((q1 * q1) * q1) * q1) * q1) * q1) * q1) * q1)), .second] [(.long ((W0 7) + (((((((q1 * q1) * q1) * q1) * q1) * q1) * q1) * q1))), (.int (7 : Int32)), (.ref a0)])) rfl rfl (hb hby d6_87)
  refine OwnGo.of st45 ?_
  have N45 := Fr.snoc X45 N39 g_a0
  have f46 : n0 ≤ h45.size := Nat.le_trans f40 (Keep.of_wr W45).1
  have f47 : Keep h0 h45 [a0] := f41.wr W45 (Or.inl (List.mem_of_getElem? (i := 0) rfl))
  have f48 : Arv Z h45 a0 ka .long (8 : Int32) [(.long ((W0 0) + q1)), (.long ((W0 1) + (q1 * q1))), (.long ((W0 2) + ((q1 * q1) * q1))), (.long ((W0 3) + (((q1 * q1) * q1) * q1))), (.long ((W0 4) + ((((q1 * q1) * q1) * q1) * q1))), (.long ((W0 5) + (((((q1 * q1) * q1) * q1) * q1) * q1))), (.long ((W0 6) + ((((((q1 * q1) * q1) * q1) * q1) * q1) * q1))), (.long ((W0 7) + (((((((q1 * q1) * q1) * q1) * q1) * q1) * q1) * q1)))] (.long (0 : Int64)) := Arv.set Arq44 qq44 Sq44 Nq44 Hq44 Gq44 rfl W45 7 rfl (Nat.le_of_ble_eq_true rfl)
  show OwnGo p.tables e below _ (T45.setTop (mkF m 88 #[.val (.ref a0), .val (.long q1), .second, .val (.long (((((((q1 * q1) * q1) * q1) * q1) * q1) * q1) * q1)), .second] []))
  obtain ⟨fs, hr, hrun, hended, hW, hsame⟩ := X45.leave (v := none) (fun _ => rfl) hlk
  refine ⟨_, _, ?_, hrun, hended, _, _, rfl, ?_, ⟨_, rfl⟩, hW, hsame.mono (by decide) (by decide)⟩
  · show Steps p.tables e below (T45.setTop (mkF m 88 #[.val (.ref a0), .val (.long q1), .second, .val (.long (((((((q1 * q1) * q1) * q1) * q1) * q1) * q1) * q1)), .second] [])) _
    exact X45.returnOut hx Bd.returns (hb hby d6_88) hr
  · show Qrmp Z a0 q1 W0 ka h0 n0 _ (T45.setFrames fs).heap _
    rw [show (T45.setFrames fs).heap = h45 from e45]
    exact ⟨rfl, N45, f47, f48⟩
theorem pd_2 : parseMethodDescriptor "([JJ)V" = some ⟨[(.array .long), .long], none⟩ := by decide +kernel
theorem d7_0 : decode method_7_code 0 = .ok (.iload_n 1, 1) := by decide +kernel
theorem d7_1 : decode method_7_code 1 = .ok (.ifCond .eq 8, 3) := by decide +kernel
theorem d7_4 : decode method_7_code 4 = .ok (.aload_n 0, 1) := by decide +kernel
theorem d7_5 : decode method_7_code 5 = .ok (.lload_n 2, 1) := by decide +kernel
theorem d7_6 : decode method_7_code 6 = .ok (.invokestatic 33, 3) := by decide +kernel
theorem d7_9 : decode method_7_code 9 = .ok (.return_, 1) := by decide +kernel
theorem ef_rmi (m : MethodId) (a0 : Addr) (p1 : Int32) (q2 : Int64) : entryFrame m #[(.ref a0), (.int p1), (.long q2)] 4 = mkF m 0 #[.val (.ref a0), .val (.int p1), .val (.long q2), .second] [] := by first | (simp [entryFrame, mkF, argsToLocals, Value.category]; done) | rfl
def Qrmi (Z : State) (a0 : Addr) (p1 : Int32) (q2 : Int64) (W0 : Nat → Int64) (ka : ClassId) (h0 : Heap) (n0 : Nat) (v : Option Value) (h : Heap) (L : List Loc) : Prop := v = none ∧ Fr n0 L ∧ Keep h0 h [a0] ∧ Arv Z h a0 ka .long (8 : Int32) (own_l8 (own_ai W0 p1 q2)) (.long (0 : Int64))
set_option maxRecDepth 65536 in
set_option maxHeartbeats 40000000 in
theorem rmi (l : Launch) (Z : State) (aw : Array Value) (hw : ∀ d ∈ tables_1, d.before aw Z = true) (ws : List Jvm.Cond) (a0 : Addr) (p1 : Int32) (q2 : Int64) (W0 : Nat → Int64) (ka : ClassId) (h0 : Heap) (n0 : Nat) (Z0 : n0 ≤ h0.size) (V_a : Arv Z h0 a0 ka .long (8 : Int32) (own_l8 (W0)) (.long (0 : Int64))) (g_a0 : n0 ≤ a0) :
    MetFree l (⟨"com/example/rankwright/rankwright/rank/AccumulatorSiftDownPinLaw", "addIf", "([JZJ)V"⟩ : MethodName) (head1 (Jvm.Cond.code (⟨"com/example/rankwright/rankwright/rank/AccumulatorSiftDownPinLaw", "addIf", "([JZJ)V"⟩ : MethodName) method_7_code 4 none :: ws) ({ frames := 1, cells := 0, slots := 0, locals := 16 } : Room)) (fun a U => a = #[(.ref a0), (.int p1), (.long q2)] ∧ Z.Warmed39 U.vm ∧ U.heap = h0) (fun _ _ _ _ _ => True) (fun _ U o U' => ∃ v L, o = .returned v ∧ Qrmi Z a0 p1 q2 W0 ka h0 n0 v U'.heap L ∧ FrameEnd U o U' L ({ frames := 1, cells := 0, slots := 0, locals := 16 } : Room).cells ({ frames := 1, cells := 0, slots := 0, locals := 16 } : Room).slots) := by
  refine MetFree.of_bodySF (plainFor_of_name pn_0) hisR ?_
  intro p e s m args below meth c s₁ Bd hml0 hP hK
  obtain ⟨rfl, hZ, hh⟩ := hP
  have hx := Bd.exec
  have hby := Bd.bytes
  have hml : c.maxLocals = 4 := hml0
  have hown : s.vm.findClass "com/example/rankwright/rankwright/rank/AccumulatorSiftDownPinLaw" = some m.cls := findClass_of_methodNamed Bd.named
  have hnm := (name_of_methodNamed Bd.named Bd.method).1
  have X0 : Stand p l e ({ frames := 1, cells := 0, slots := 0, locals := 16 } : Room) s m #[(.ref a0), (.int p1), (.long q2)] below meth c s₁ [] 0 0 := Stand.of_body Bd
  have e0 : s₁.heap = h0 := by rw [← hh, Bd.state]; rfl
  have N0 := Fr.nil n0
  have hlk := Bd.notSynchronized
  show OwnGo p.tables e below _ (s₁.setTop (entryFrame m #[(.ref a0), (.int p1), (.long q2)] 4))
  rw [ef_rmi m a0 p1 q2]
  have K0 : Keep h0 h0 [a0] := Keep.refl _ _
  show OwnGo p.tables e below _ (s₁.setTop (mkF m 0 #[.val (.ref a0), .val (.int p1), .val (.long q2), .second] []))
  refine OwnGo.of (A := s₁.setTop (mkF m 0 #[.val (.ref a0), .val (.int p1), .val (.long q2), .second] [])) (B := s₁.setTop (mkF m 1 #[.val (.ref a0), .val (.int p1), .val (.long q2), .second] [(.int p1)])) (fun t k => ?_) ?_
  · show Steps p.tables e below (s₁.setTop (mkF m 0 #[.val (.ref a0), .val (.int p1), .val (.long q2), .second] [])) t
    refine XS.iloadN X0.here hx rfl (hb hby d7_0) rfl ?_
    exact k
  by_cases hc1 : p1 = (0 : Int32)
  · refine OwnGo.of (A := s₁.setTop (mkF m 1 #[.val (.ref a0), .val (.int p1), .val (.long q2), .second] [(.int p1)])) (B := s₁.setTop (mkF m 9 #[.val (.ref a0), .val (.int p1), .val (.long q2), .second] [])) (fun t k => ?_) ?_
    · show Steps p.tables e below (s₁.setTop (mkF m 1 #[.val (.ref a0), .val (.int p1), .val (.long q2), .second] [(.int p1)])) t
      refine XS.ifYes X0.here hx rfl (pc0 := 1) (pc' := 9) rfl (hb hby d7_1) rfl ((if0 _ _).trans (teq hc1).1) (by decide) (by decide) ?_
      exact k
    obtain ⟨fs, hr, hrun, hended, hW, hsame⟩ := X0.leave (v := none) (fun _ => rfl) hlk
    refine ⟨_, _, ?_, hrun, hended, _, _, rfl, ?_, ⟨_, rfl⟩, hW, hsame.mono (by decide) (by decide)⟩
    · show Steps p.tables e below (s₁.setTop (mkF m 9 #[.val (.ref a0), .val (.int p1), .val (.long q2), .second] [])) _
      exact X0.returnOut hx Bd.returns (hb hby d7_9) hr
    · show Qrmi Z a0 p1 q2 W0 ka h0 n0 _ (s₁.setFrames fs).heap _
      rw [show (s₁.setFrames fs).heap = h0 from e0]
      refine ⟨rfl, N0, K0, ?_⟩
      rw [show own_ai W0 p1 q2 = W0 from funext fun k => by unfold own_ai; rw [if_pos hc1]]
      exact V_a
  · refine OwnGo.of (A := s₁.setTop (mkF m 1 #[.val (.ref a0), .val (.int p1), .val (.long q2), .second] [(.int p1)])) (B := s₁.setTop (mkF m 6 #[.val (.ref a0), .val (.int p1), .val (.long q2), .second] [(.long q2), (.ref a0)])) (fun t k => ?_) ?_
    · show Steps p.tables e below (s₁.setTop (mkF m 1 #[.val (.ref a0), .val (.int p1), .val (.long q2), .second] [(.int p1)])) t
      refine XS.ifNo X0.here hx rfl (hb hby d7_1) rfl ((if0 _ _).trans (feq hc1).1) ?_
      refine XS.aloadN X0.here hx rfl (hb hby d7_4) rfl rfl ?_
      refine XS.lloadN X0.here hx rfl (hb hby d7_5) rfl ?_
      exact k
    obtain ⟨T3, L3, v3, X3, hQ3, st3⟩ := own_callS X0 hx (y := (⟨"com/example/rankwright/rankwright/rank/AccumulatorSiftDownPinLaw", "addPowers", "([JJ)V"⟩ : MethodName)) hown (mvT hZ (hw _ (List.mem_of_getElem? (i := 21) rfl))) (mvT hZ (hw _ (List.mem_of_getElem? (i := 22) rfl))) (mvT hZ (hw _ (List.mem_of_getElem? (i := 3) rfl))) (mvT hZ (hw _ (List.mem_of_getElem? (i := 23) rfl))) (by decide) (backOf (W := 0) (rmp l Z aw hw [] a0 q2 W0 ka h0 n0 Z0 V_a g_a0) hZ (hw _ (List.mem_of_getElem? (i := 23) rfl)) (hw _ (List.mem_of_getElem? (i := 3) rfl)) (by decide) (by decide)) (g := (mkF m 6 #[.val (.ref a0), .val (.int p1), .val (.long q2), .second] [(.long q2), (.ref a0)])) rfl (by rw [hml]; rfl) (argsL := [(.ref a0), (.long q2)]) (rest := []) (lenOf pd_2 rfl) rfl (by show 2 * 0 + _ ≤ _; exact Nat.le_of_eq rfl) (hb hby d7_6) rfl e0 (by decide) (by decide)
    obtain ⟨rfl, N3q, K3, y3_0⟩ := hQ3
    have f4 : n0 ≤ T3.heap.size := Nat.le_trans Z0 K3.1
    have f5 : Keep h0 T3.heap [a0] := K0.trans K3 (allS (Or.inl (List.mem_of_getElem? (i := 0) rfl)) all0)
    have N3 := Fr.app N0 N3q
    refine OwnGo.of st3 ?_
    show OwnGo p.tables e below _ (T3.setTop (mkF m 9 #[.val (.ref a0), .val (.int p1), .val (.long q2), .second] []))
    obtain ⟨fs, hr, hrun, hended, hW, hsame⟩ := X3.leave (v := none) (fun _ => rfl) hlk
    refine ⟨_, _, ?_, hrun, hended, _, _, rfl, ?_, ⟨_, rfl⟩, hW, hsame.mono (by decide) (by decide)⟩
    · show Steps p.tables e below (T3.setTop (mkF m 9 #[.val (.ref a0), .val (.int p1), .val (.long q2), .second] [])) _
      exact X3.returnOut hx Bd.returns (hb hby d7_9) hr
    · show Qrmi Z a0 p1 q2 W0 ka h0 n0 _ (T3.setFrames fs).heap _
      rw [show (T3.setFrames fs).heap = T3.heap from rfl]
      refine ⟨rfl, N3, f5, ?_⟩
      rw [show own_ai W0 p1 q2 = own_ap W0 q2 from funext fun k => by unfold own_ai own_ap; rw [if_neg hc1]]
      exact y3_0
theorem d8_0 : decode method_9_code 0 = .ok (.aload_n 0, 1) := by decide +kernel
theorem d8_1 : decode method_9_code 1 = .ok (.iconst 0, 1) := by decide +kernel
theorem d8_2 : decode method_9_code 2 = .ok (.laload, 1) := by decide +kernel
theorem d8_3 : decode method_9_code 3 = .ok (.aload_n 1, 1) := by decide +kernel
theorem d8_4 : decode method_9_code 4 = .ok (.iconst 0, 1) := by decide +kernel
theorem d8_5 : decode method_9_code 5 = .ok (.laload, 1) := by decide +kernel
theorem d8_6 : decode method_9_code 6 = .ok (.lcmp, 1) := by decide +kernel
theorem d8_7 : decode method_9_code 7 = .ok (.ifCond .ne 81, 3) := by decide +kernel
theorem d8_10 : decode method_9_code 10 = .ok (.aload_n 0, 1) := by decide +kernel
theorem d8_11 : decode method_9_code 11 = .ok (.iconst 1, 1) := by decide +kernel
theorem d8_12 : decode method_9_code 12 = .ok (.laload, 1) := by decide +kernel
theorem d8_13 : decode method_9_code 13 = .ok (.aload_n 1, 1) := by decide +kernel
theorem d8_14 : decode method_9_code 14 = .ok (.iconst 1, 1) := by decide +kernel
theorem d8_15 : decode method_9_code 15 = .ok (.laload, 1) := by decide +kernel
theorem d8_16 : decode method_9_code 16 = .ok (.lcmp, 1) := by decide +kernel
theorem d8_17 : decode method_9_code 17 = .ok (.ifCond .ne 71, 3) := by decide +kernel
theorem d8_20 : decode method_9_code 20 = .ok (.aload_n 0, 1) := by decide +kernel
theorem d8_21 : decode method_9_code 21 = .ok (.iconst 2, 1) := by decide +kernel
theorem d8_22 : decode method_9_code 22 = .ok (.laload, 1) := by decide +kernel
theorem d8_23 : decode method_9_code 23 = .ok (.aload_n 1, 1) := by decide +kernel
theorem d8_24 : decode method_9_code 24 = .ok (.iconst 2, 1) := by decide +kernel
theorem d8_25 : decode method_9_code 25 = .ok (.laload, 1) := by decide +kernel
theorem d8_26 : decode method_9_code 26 = .ok (.lcmp, 1) := by decide +kernel
theorem d8_27 : decode method_9_code 27 = .ok (.ifCond .ne 61, 3) := by decide +kernel
theorem d8_30 : decode method_9_code 30 = .ok (.aload_n 0, 1) := by decide +kernel
theorem d8_31 : decode method_9_code 31 = .ok (.iconst 3, 1) := by decide +kernel
theorem d8_32 : decode method_9_code 32 = .ok (.laload, 1) := by decide +kernel
theorem d8_33 : decode method_9_code 33 = .ok (.aload_n 1, 1) := by decide +kernel
theorem d8_34 : decode method_9_code 34 = .ok (.iconst 3, 1) := by decide +kernel
theorem d8_35 : decode method_9_code 35 = .ok (.laload, 1) := by decide +kernel
theorem d8_36 : decode method_9_code 36 = .ok (.lcmp, 1) := by decide +kernel
theorem d8_37 : decode method_9_code 37 = .ok (.ifCond .ne 51, 3) := by decide +kernel
theorem d8_40 : decode method_9_code 40 = .ok (.aload_n 0, 1) := by decide +kernel
theorem d8_41 : decode method_9_code 41 = .ok (.iconst 4, 1) := by decide +kernel
theorem d8_42 : decode method_9_code 42 = .ok (.laload, 1) := by decide +kernel
theorem d8_43 : decode method_9_code 43 = .ok (.aload_n 1, 1) := by decide +kernel
theorem d8_44 : decode method_9_code 44 = .ok (.iconst 4, 1) := by decide +kernel
theorem d8_45 : decode method_9_code 45 = .ok (.laload, 1) := by decide +kernel
theorem d8_46 : decode method_9_code 46 = .ok (.lcmp, 1) := by decide +kernel
theorem d8_47 : decode method_9_code 47 = .ok (.ifCond .ne 41, 3) := by decide +kernel
theorem d8_50 : decode method_9_code 50 = .ok (.aload_n 0, 1) := by decide +kernel
theorem d8_51 : decode method_9_code 51 = .ok (.iconst 5, 1) := by decide +kernel
theorem d8_52 : decode method_9_code 52 = .ok (.laload, 1) := by decide +kernel
theorem d8_53 : decode method_9_code 53 = .ok (.aload_n 1, 1) := by decide +kernel
theorem d8_54 : decode method_9_code 54 = .ok (.iconst 5, 1) := by decide +kernel
theorem d8_55 : decode method_9_code 55 = .ok (.laload, 1) := by decide +kernel
theorem d8_56 : decode method_9_code 56 = .ok (.lcmp, 1) := by decide +kernel
theorem d8_57 : decode method_9_code 57 = .ok (.ifCond .ne 31, 3) := by decide +kernel
theorem d8_60 : decode method_9_code 60 = .ok (.aload_n 0, 1) := by decide +kernel
theorem d8_61 : decode method_9_code 61 = .ok (.bipush 6, 2) := by decide +kernel
theorem d8_63 : decode method_9_code 63 = .ok (.laload, 1) := by decide +kernel
theorem d8_64 : decode method_9_code 64 = .ok (.aload_n 1, 1) := by decide +kernel
theorem d8_65 : decode method_9_code 65 = .ok (.bipush 6, 2) := by decide +kernel
theorem d8_67 : decode method_9_code 67 = .ok (.laload, 1) := by decide +kernel
theorem d8_68 : decode method_9_code 68 = .ok (.lcmp, 1) := by decide +kernel
theorem d8_69 : decode method_9_code 69 = .ok (.ifCond .ne 19, 3) := by decide +kernel
theorem d8_72 : decode method_9_code 72 = .ok (.aload_n 0, 1) := by decide +kernel
theorem d8_73 : decode method_9_code 73 = .ok (.bipush 7, 2) := by decide +kernel
theorem d8_75 : decode method_9_code 75 = .ok (.laload, 1) := by decide +kernel
theorem d8_76 : decode method_9_code 76 = .ok (.aload_n 1, 1) := by decide +kernel
theorem d8_77 : decode method_9_code 77 = .ok (.bipush 7, 2) := by decide +kernel
theorem d8_79 : decode method_9_code 79 = .ok (.laload, 1) := by decide +kernel
theorem d8_80 : decode method_9_code 80 = .ok (.lcmp, 1) := by decide +kernel
theorem d8_81 : decode method_9_code 81 = .ok (.ifCond .ne 7, 3) := by decide +kernel
theorem d8_84 : decode method_9_code 84 = .ok (.iconst 1, 1) := by decide +kernel
theorem d8_85 : decode method_9_code 85 = .ok (.goto 4, 3) := by decide +kernel
theorem d8_89 : decode method_9_code 89 = .ok (.ireturn, 1) := by decide +kernel
theorem ef_rmm (m : MethodId) (a0 : Addr) (a1 : Addr) : entryFrame m #[(.ref a0), (.ref a1)] 2 = mkF m 0 #[.val (.ref a0), .val (.ref a1)] [] := by first | (simp [entryFrame, mkF, argsToLocals, Value.category]; done) | rfl
def Qrmm (Z : State) (a0 : Addr) (a1 : Addr) (A : Nat → Int64) (B : Nat → Int64) (ka : ClassId) (kb : ClassId) (h0 : Heap) (n0 : Nat) (v : Option Value) (h : Heap) (L : List Loc) : Prop := v = some (.int 1) ∧ Fr n0 L ∧ h = h0
set_option maxRecDepth 65536 in
set_option maxHeartbeats 40000000 in
theorem rmm (l : Launch) (Z : State) (aw : Array Value) (hw : ∀ d ∈ tables_1, d.before aw Z = true) (ws : List Jvm.Cond) (a0 : Addr) (a1 : Addr) (A : Nat → Int64) (B : Nat → Int64) (ka : ClassId) (kb : ClassId) (h0 : Heap) (n0 : Nat) (Z0 : n0 ≤ h0.size) (V_a : Arv Z h0 a0 ka .long (8 : Int32) (own_l8 (A)) (.long (0 : Int64))) (V_b : Arv Z h0 a1 kb .long (8 : Int32) (own_l8 (B)) (.long (0 : Int64))) (hAB : ∀ k, A k = B k) :
    MetFree l (⟨"com/example/rankwright/rankwright/rank/AccumulatorSiftDownPinLaw", "same", "([J[J)Z"⟩ : MethodName) (head1 (Jvm.Cond.code (⟨"com/example/rankwright/rankwright/rank/AccumulatorSiftDownPinLaw", "same", "([J[J)Z"⟩ : MethodName) method_9_code 2 (some .boolean) :: ws) ({ frames := 0, cells := 0, slots := 0, locals := 0 } : Room)) (fun a U => a = #[(.ref a0), (.ref a1)] ∧ Z.Warmed39 U.vm ∧ U.heap = h0) (fun _ _ _ _ _ => True) (fun _ U o U' => ∃ v L, o = .returned v ∧ Qrmm Z a0 a1 A B ka kb h0 n0 v U'.heap L ∧ FrameEnd U o U' L ({ frames := 0, cells := 0, slots := 0, locals := 0 } : Room).cells ({ frames := 0, cells := 0, slots := 0, locals := 0 } : Room).slots) := by
  refine MetFree.of_bodySF (plainFor_of_name pn_0) hisR ?_
  intro p e s m args below meth c s₁ Bd hml0 hP hK
  obtain ⟨rfl, hZ, hh⟩ := hP
  have hx := Bd.exec
  have hby := Bd.bytes
  have hml : c.maxLocals = 2 := hml0
  have hown : s.vm.findClass "com/example/rankwright/rankwright/rank/AccumulatorSiftDownPinLaw" = some m.cls := findClass_of_methodNamed Bd.named
  have hnm := (name_of_methodNamed Bd.named Bd.method).1
  have X0 : Stand p l e ({ frames := 0, cells := 0, slots := 0, locals := 0 } : Room) s m #[(.ref a0), (.ref a1)] below meth c s₁ [] 0 0 := Stand.of_body Bd
  have e0 : s₁.heap = h0 := by rw [← hh, Bd.state]; rfl
  have N0 := Fr.nil n0
  have hlk := Bd.notSynchronized
  show OwnGo p.tables e below _ (s₁.setTop (entryFrame m #[(.ref a0), (.ref a1)] 2))
  rw [ef_rmm m a0 a1]
  show OwnGo p.tables e below _ (s₁.setTop (mkF m 0 #[.val (.ref a0), .val (.ref a1)] []))
  refine OwnGo.of (A := s₁.setTop (mkF m 0 #[.val (.ref a0), .val (.ref a1)] [])) (B := s₁.setTop (mkF m 2 #[.val (.ref a0), .val (.ref a1)] [(.int (0 : Int32)), (.ref a0)])) (fun t k => ?_) ?_
  · show Steps p.tables e below (s₁.setTop (mkF m 0 #[.val (.ref a0), .val (.ref a1)] [])) t
    refine XS.aloadN X0.here hx rfl (hb hby d8_0) rfl rfl ?_
    refine XS.iconst X0.here hx rfl (hb hby d8_1) ?_
    exact k
  have cq1 := V_a
  obtain ⟨clq1, Arq1, qq1, Sq1, Nq1, Hq1, Gq1⟩ := cq1
  have hinq1 := inb_of (j := (0 : Int32)) Sq1 ⟨by decide, by decide⟩
  refine OwnGo.of (X0.laload hx (j := (0 : Int32)) (v := (.long (A 0))) (by rw [e0]; exact Arq1.1) (State.isArrayOf_alike hZ.alike Arq1.2.1) Arq1.2.2 hinq1 (Hq1.at hinq1 rfl) (g := (mkF m 2 #[.val (.ref a0), .val (.ref a1)] [(.int (0 : Int32)), (.ref a0)])) rfl rfl (hb hby d8_2)) ?_
  show OwnGo p.tables e below _ (s₁.setTop (mkF m 3 #[.val (.ref a0), .val (.ref a1)] [(.long (A 0))]))
  refine OwnGo.of (A := s₁.setTop (mkF m 3 #[.val (.ref a0), .val (.ref a1)] [(.long (A 0))])) (B := s₁.setTop (mkF m 5 #[.val (.ref a0), .val (.ref a1)] [(.int (0 : Int32)), (.ref a1), (.long (A 0))])) (fun t k => ?_) ?_
  · show Steps p.tables e below (s₁.setTop (mkF m 3 #[.val (.ref a0), .val (.ref a1)] [(.long (A 0))])) t
    refine XS.aloadN X0.here hx rfl (hb hby d8_3) rfl rfl ?_
    refine XS.iconst X0.here hx rfl (hb hby d8_4) ?_
    exact k
  have cq2 := V_b
  obtain ⟨clq2, Arq2, qq2, Sq2, Nq2, Hq2, Gq2⟩ := cq2
  have hinq2 := inb_of (j := (0 : Int32)) Sq2 ⟨by decide, by decide⟩
  refine OwnGo.of (X0.laload hx (j := (0 : Int32)) (v := (.long (B 0))) (by rw [e0]; exact Arq2.1) (State.isArrayOf_alike hZ.alike Arq2.2.1) Arq2.2.2 hinq2 (Hq2.at hinq2 rfl) (g := (mkF m 5 #[.val (.ref a0), .val (.ref a1)] [(.int (0 : Int32)), (.ref a1), (.long (A 0))])) rfl rfl (hb hby d8_5)) ?_
  show OwnGo p.tables e below _ (s₁.setTop (mkF m 6 #[.val (.ref a0), .val (.ref a1)] [(.long (B 0)), (.long (A 0))]))
  refine OwnGo.of (A := s₁.setTop (mkF m 6 #[.val (.ref a0), .val (.ref a1)] [(.long (B 0)), (.long (A 0))])) (B := s₁.setTop (mkF m 7 #[.val (.ref a0), .val (.ref a1)] [(.int (lcmpW (A 0) (B 0)))])) (fun t k => ?_) ?_
  · show Steps p.tables e below (s₁.setTop (mkF m 6 #[.val (.ref a0), .val (.ref a1)] [(.long (B 0)), (.long (A 0))])) t
    refine XS.lcmp X0.here hx rfl (hb hby d8_6) rfl ?_
    exact k
  have hc3 : (lcmpW (A 0) (B 0)) = (0 : Int32) := (lw_eq _ _).mpr (hAB _)
  refine OwnGo.of (A := s₁.setTop (mkF m 7 #[.val (.ref a0), .val (.ref a1)] [(.int (lcmpW (A 0) (B 0)))])) (B := s₁.setTop (mkF m 12 #[.val (.ref a0), .val (.ref a1)] [(.int (1 : Int32)), (.ref a0)])) (fun t k => ?_) ?_
  · show Steps p.tables e below (s₁.setTop (mkF m 7 #[.val (.ref a0), .val (.ref a1)] [(.int (lcmpW (A 0) (B 0)))])) t
    refine XS.ifNo X0.here hx rfl (hb hby d8_7) rfl ((if0 _ _).trans (teq hc3).2) ?_
    refine XS.aloadN X0.here hx rfl (hb hby d8_10) rfl rfl ?_
    refine XS.iconst X0.here hx rfl (hb hby d8_11) ?_
    exact k
  have cq4 := V_a
  obtain ⟨clq4, Arq4, qq4, Sq4, Nq4, Hq4, Gq4⟩ := cq4
  have hinq4 := inb_of (j := (1 : Int32)) Sq4 ⟨by decide, by decide⟩
  refine OwnGo.of (X0.laload hx (j := (1 : Int32)) (v := (.long (A 1))) (by rw [e0]; exact Arq4.1) (State.isArrayOf_alike hZ.alike Arq4.2.1) Arq4.2.2 hinq4 (Hq4.at hinq4 rfl) (g := (mkF m 12 #[.val (.ref a0), .val (.ref a1)] [(.int (1 : Int32)), (.ref a0)])) rfl rfl (hb hby d8_12)) ?_
  show OwnGo p.tables e below _ (s₁.setTop (mkF m 13 #[.val (.ref a0), .val (.ref a1)] [(.long (A 1))]))
  refine OwnGo.of (A := s₁.setTop (mkF m 13 #[.val (.ref a0), .val (.ref a1)] [(.long (A 1))])) (B := s₁.setTop (mkF m 15 #[.val (.ref a0), .val (.ref a1)] [(.int (1 : Int32)), (.ref a1), (.long (A 1))])) (fun t k => ?_) ?_
  · show Steps p.tables e below (s₁.setTop (mkF m 13 #[.val (.ref a0), .val (.ref a1)] [(.long (A 1))])) t
    refine XS.aloadN X0.here hx rfl (hb hby d8_13) rfl rfl ?_
    refine XS.iconst X0.here hx rfl (hb hby d8_14) ?_
    exact k
  have cq5 := V_b
  obtain ⟨clq5, Arq5, qq5, Sq5, Nq5, Hq5, Gq5⟩ := cq5
  have hinq5 := inb_of (j := (1 : Int32)) Sq5 ⟨by decide, by decide⟩
  refine OwnGo.of (X0.laload hx (j := (1 : Int32)) (v := (.long (B 1))) (by rw [e0]; exact Arq5.1) (State.isArrayOf_alike hZ.alike Arq5.2.1) Arq5.2.2 hinq5 (Hq5.at hinq5 rfl) (g := (mkF m 15 #[.val (.ref a0), .val (.ref a1)] [(.int (1 : Int32)), (.ref a1), (.long (A 1))])) rfl rfl (hb hby d8_15)) ?_
  show OwnGo p.tables e below _ (s₁.setTop (mkF m 16 #[.val (.ref a0), .val (.ref a1)] [(.long (B 1)), (.long (A 1))]))
  refine OwnGo.of (A := s₁.setTop (mkF m 16 #[.val (.ref a0), .val (.ref a1)] [(.long (B 1)), (.long (A 1))])) (B := s₁.setTop (mkF m 17 #[.val (.ref a0), .val (.ref a1)] [(.int (lcmpW (A 1) (B 1)))])) (fun t k => ?_) ?_
  · show Steps p.tables e below (s₁.setTop (mkF m 16 #[.val (.ref a0), .val (.ref a1)] [(.long (B 1)), (.long (A 1))])) t
    refine XS.lcmp X0.here hx rfl (hb hby d8_16) rfl ?_
    exact k
  have hc6 : (lcmpW (A 1) (B 1)) = (0 : Int32) := (lw_eq _ _).mpr (hAB _)
  refine OwnGo.of (A := s₁.setTop (mkF m 17 #[.val (.ref a0), .val (.ref a1)] [(.int (lcmpW (A 1) (B 1)))])) (B := s₁.setTop (mkF m 22 #[.val (.ref a0), .val (.ref a1)] [(.int (2 : Int32)), (.ref a0)])) (fun t k => ?_) ?_
  · show Steps p.tables e below (s₁.setTop (mkF m 17 #[.val (.ref a0), .val (.ref a1)] [(.int (lcmpW (A 1) (B 1)))])) t
    refine XS.ifNo X0.here hx rfl (hb hby d8_17) rfl ((if0 _ _).trans (teq hc6).2) ?_
    refine XS.aloadN X0.here hx rfl (hb hby d8_20) rfl rfl ?_
    refine XS.iconst X0.here hx rfl (hb hby d8_21) ?_
    exact k
  have cq7 := V_a
  obtain ⟨clq7, Arq7, qq7, Sq7, Nq7, Hq7, Gq7⟩ := cq7
  have hinq7 := inb_of (j := (2 : Int32)) Sq7 ⟨by decide, by decide⟩
  refine OwnGo.of (X0.laload hx (j := (2 : Int32)) (v := (.long (A 2))) (by rw [e0]; exact Arq7.1) (State.isArrayOf_alike hZ.alike Arq7.2.1) Arq7.2.2 hinq7 (Hq7.at hinq7 rfl) (g := (mkF m 22 #[.val (.ref a0), .val (.ref a1)] [(.int (2 : Int32)), (.ref a0)])) rfl rfl (hb hby d8_22)) ?_
  show OwnGo p.tables e below _ (s₁.setTop (mkF m 23 #[.val (.ref a0), .val (.ref a1)] [(.long (A 2))]))
  refine OwnGo.of (A := s₁.setTop (mkF m 23 #[.val (.ref a0), .val (.ref a1)] [(.long (A 2))])) (B := s₁.setTop (mkF m 25 #[.val (.ref a0), .val (.ref a1)] [(.int (2 : Int32)), (.ref a1), (.long (A 2))])) (fun t k => ?_) ?_
  · show Steps p.tables e below (s₁.setTop (mkF m 23 #[.val (.ref a0), .val (.ref a1)] [(.long (A 2))])) t
    refine XS.aloadN X0.here hx rfl (hb hby d8_23) rfl rfl ?_
    refine XS.iconst X0.here hx rfl (hb hby d8_24) ?_
    exact k
  have cq8 := V_b
  obtain ⟨clq8, Arq8, qq8, Sq8, Nq8, Hq8, Gq8⟩ := cq8
  have hinq8 := inb_of (j := (2 : Int32)) Sq8 ⟨by decide, by decide⟩
  refine OwnGo.of (X0.laload hx (j := (2 : Int32)) (v := (.long (B 2))) (by rw [e0]; exact Arq8.1) (State.isArrayOf_alike hZ.alike Arq8.2.1) Arq8.2.2 hinq8 (Hq8.at hinq8 rfl) (g := (mkF m 25 #[.val (.ref a0), .val (.ref a1)] [(.int (2 : Int32)), (.ref a1), (.long (A 2))])) rfl rfl (hb hby d8_25)) ?_
  show OwnGo p.tables e below _ (s₁.setTop (mkF m 26 #[.val (.ref a0), .val (.ref a1)] [(.long (B 2)), (.long (A 2))]))
  refine OwnGo.of (A := s₁.setTop (mkF m 26 #[.val (.ref a0), .val (.ref a1)] [(.long (B 2)), (.long (A 2))])) (B := s₁.setTop (mkF m 27 #[.val (.ref a0), .val (.ref a1)] [(.int (lcmpW (A 2) (B 2)))])) (fun t k => ?_) ?_
  · show Steps p.tables e below (s₁.setTop (mkF m 26 #[.val (.ref a0), .val (.ref a1)] [(.long (B 2)), (.long (A 2))])) t
    refine XS.lcmp X0.here hx rfl (hb hby d8_26) rfl ?_
    exact k
  have hc9 : (lcmpW (A 2) (B 2)) = (0 : Int32) := (lw_eq _ _).mpr (hAB _)
  refine OwnGo.of (A := s₁.setTop (mkF m 27 #[.val (.ref a0), .val (.ref a1)] [(.int (lcmpW (A 2) (B 2)))])) (B := s₁.setTop (mkF m 32 #[.val (.ref a0), .val (.ref a1)] [(.int (3 : Int32)), (.ref a0)])) (fun t k => ?_) ?_
  · show Steps p.tables e below (s₁.setTop (mkF m 27 #[.val (.ref a0), .val (.ref a1)] [(.int (lcmpW (A 2) (B 2)))])) t
    refine XS.ifNo X0.here hx rfl (hb hby d8_27) rfl ((if0 _ _).trans (teq hc9).2) ?_
    refine XS.aloadN X0.here hx rfl (hb hby d8_30) rfl rfl ?_
    refine XS.iconst X0.here hx rfl (hb hby d8_31) ?_
    exact k
  have cq10 := V_a
  obtain ⟨clq10, Arq10, qq10, Sq10, Nq10, Hq10, Gq10⟩ := cq10
  have hinq10 := inb_of (j := (3 : Int32)) Sq10 ⟨by decide, by decide⟩
  refine OwnGo.of (X0.laload hx (j := (3 : Int32)) (v := (.long (A 3))) (by rw [e0]; exact Arq10.1) (State.isArrayOf_alike hZ.alike Arq10.2.1) Arq10.2.2 hinq10 (Hq10.at hinq10 rfl) (g := (mkF m 32 #[.val (.ref a0), .val (.ref a1)] [(.int (3 : Int32)), (.ref a0)])) rfl rfl (hb hby d8_32)) ?_
  show OwnGo p.tables e below _ (s₁.setTop (mkF m 33 #[.val (.ref a0), .val (.ref a1)] [(.long (A 3))]))
  refine OwnGo.of (A := s₁.setTop (mkF m 33 #[.val (.ref a0), .val (.ref a1)] [(.long (A 3))])) (B := s₁.setTop (mkF m 35 #[.val (.ref a0), .val (.ref a1)] [(.int (3 : Int32)), (.ref a1), (.long (A 3))])) (fun t k => ?_) ?_
  · show Steps p.tables e below (s₁.setTop (mkF m 33 #[.val (.ref a0), .val (.ref a1)] [(.long (A 3))])) t
    refine XS.aloadN X0.here hx rfl (hb hby d8_33) rfl rfl ?_
    refine XS.iconst X0.here hx rfl (hb hby d8_34) ?_
    exact k
  have cq11 := V_b
  obtain ⟨clq11, Arq11, qq11, Sq11, Nq11, Hq11, Gq11⟩ := cq11
  have hinq11 := inb_of (j := (3 : Int32)) Sq11 ⟨by decide, by decide⟩
  refine OwnGo.of (X0.laload hx (j := (3 : Int32)) (v := (.long (B 3))) (by rw [e0]; exact Arq11.1) (State.isArrayOf_alike hZ.alike Arq11.2.1) Arq11.2.2 hinq11 (Hq11.at hinq11 rfl) (g := (mkF m 35 #[.val (.ref a0), .val (.ref a1)] [(.int (3 : Int32)), (.ref a1), (.long (A 3))])) rfl rfl (hb hby d8_35)) ?_
  show OwnGo p.tables e below _ (s₁.setTop (mkF m 36 #[.val (.ref a0), .val (.ref a1)] [(.long (B 3)), (.long (A 3))]))
  refine OwnGo.of (A := s₁.setTop (mkF m 36 #[.val (.ref a0), .val (.ref a1)] [(.long (B 3)), (.long (A 3))])) (B := s₁.setTop (mkF m 37 #[.val (.ref a0), .val (.ref a1)] [(.int (lcmpW (A 3) (B 3)))])) (fun t k => ?_) ?_
  · show Steps p.tables e below (s₁.setTop (mkF m 36 #[.val (.ref a0), .val (.ref a1)] [(.long (B 3)), (.long (A 3))])) t
    refine XS.lcmp X0.here hx rfl (hb hby d8_36) rfl ?_
    exact k
  have hc12 : (lcmpW (A 3) (B 3)) = (0 : Int32) := (lw_eq _ _).mpr (hAB _)
  refine OwnGo.of (A := s₁.setTop (mkF m 37 #[.val (.ref a0), .val (.ref a1)] [(.int (lcmpW (A 3) (B 3)))])) (B := s₁.setTop (mkF m 42 #[.val (.ref a0), .val (.ref a1)] [(.int (4 : Int32)), (.ref a0)])) (fun t k => ?_) ?_
  · show Steps p.tables e below (s₁.setTop (mkF m 37 #[.val (.ref a0), .val (.ref a1)] [(.int (lcmpW (A 3) (B 3)))])) t
    refine XS.ifNo X0.here hx rfl (hb hby d8_37) rfl ((if0 _ _).trans (teq hc12).2) ?_
    refine XS.aloadN X0.here hx rfl (hb hby d8_40) rfl rfl ?_
    refine XS.iconst X0.here hx rfl (hb hby d8_41) ?_
    exact k
  have cq13 := V_a
  obtain ⟨clq13, Arq13, qq13, Sq13, Nq13, Hq13, Gq13⟩ := cq13
  have hinq13 := inb_of (j := (4 : Int32)) Sq13 ⟨by decide, by decide⟩
  refine OwnGo.of (X0.laload hx (j := (4 : Int32)) (v := (.long (A 4))) (by rw [e0]; exact Arq13.1) (State.isArrayOf_alike hZ.alike Arq13.2.1) Arq13.2.2 hinq13 (Hq13.at hinq13 rfl) (g := (mkF m 42 #[.val (.ref a0), .val (.ref a1)] [(.int (4 : Int32)), (.ref a0)])) rfl rfl (hb hby d8_42)) ?_
  show OwnGo p.tables e below _ (s₁.setTop (mkF m 43 #[.val (.ref a0), .val (.ref a1)] [(.long (A 4))]))
  refine OwnGo.of (A := s₁.setTop (mkF m 43 #[.val (.ref a0), .val (.ref a1)] [(.long (A 4))])) (B := s₁.setTop (mkF m 45 #[.val (.ref a0), .val (.ref a1)] [(.int (4 : Int32)), (.ref a1), (.long (A 4))])) (fun t k => ?_) ?_
  · show Steps p.tables e below (s₁.setTop (mkF m 43 #[.val (.ref a0), .val (.ref a1)] [(.long (A 4))])) t
    refine XS.aloadN X0.here hx rfl (hb hby d8_43) rfl rfl ?_
    refine XS.iconst X0.here hx rfl (hb hby d8_44) ?_
    exact k
  have cq14 := V_b
  obtain ⟨clq14, Arq14, qq14, Sq14, Nq14, Hq14, Gq14⟩ := cq14
  have hinq14 := inb_of (j := (4 : Int32)) Sq14 ⟨by decide, by decide⟩
  refine OwnGo.of (X0.laload hx (j := (4 : Int32)) (v := (.long (B 4))) (by rw [e0]; exact Arq14.1) (State.isArrayOf_alike hZ.alike Arq14.2.1) Arq14.2.2 hinq14 (Hq14.at hinq14 rfl) (g := (mkF m 45 #[.val (.ref a0), .val (.ref a1)] [(.int (4 : Int32)), (.ref a1), (.long (A 4))])) rfl rfl (hb hby d8_45)) ?_
  show OwnGo p.tables e below _ (s₁.setTop (mkF m 46 #[.val (.ref a0), .val (.ref a1)] [(.long (B 4)), (.long (A 4))]))
  refine OwnGo.of (A := s₁.setTop (mkF m 46 #[.val (.ref a0), .val (.ref a1)] [(.long (B 4)), (.long (A 4))])) (B := s₁.setTop (mkF m 47 #[.val (.ref a0), .val (.ref a1)] [(.int (lcmpW (A 4) (B 4)))])) (fun t k => ?_) ?_
  · show Steps p.tables e below (s₁.setTop (mkF m 46 #[.val (.ref a0), .val (.ref a1)] [(.long (B 4)), (.long (A 4))])) t
    refine XS.lcmp X0.here hx rfl (hb hby d8_46) rfl ?_
    exact k
  have hc15 : (lcmpW (A 4) (B 4)) = (0 : Int32) := (lw_eq _ _).mpr (hAB _)
  refine OwnGo.of (A := s₁.setTop (mkF m 47 #[.val (.ref a0), .val (.ref a1)] [(.int (lcmpW (A 4) (B 4)))])) (B := s₁.setTop (mkF m 52 #[.val (.ref a0), .val (.ref a1)] [(.int (5 : Int32)), (.ref a0)])) (fun t k => ?_) ?_
  · show Steps p.tables e below (s₁.setTop (mkF m 47 #[.val (.ref a0), .val (.ref a1)] [(.int (lcmpW (A 4) (B 4)))])) t
    refine XS.ifNo X0.here hx rfl (hb hby d8_47) rfl ((if0 _ _).trans (teq hc15).2) ?_
    refine XS.aloadN X0.here hx rfl (hb hby d8_50) rfl rfl ?_
    refine XS.iconst X0.here hx rfl (hb hby d8_51) ?_
    exact k
  have cq16 := V_a
  obtain ⟨clq16, Arq16, qq16, Sq16, Nq16, Hq16, Gq16⟩ := cq16
  have hinq16 := inb_of (j := (5 : Int32)) Sq16 ⟨by decide, by decide⟩
  refine OwnGo.of (X0.laload hx (j := (5 : Int32)) (v := (.long (A 5))) (by rw [e0]; exact Arq16.1) (State.isArrayOf_alike hZ.alike Arq16.2.1) Arq16.2.2 hinq16 (Hq16.at hinq16 rfl) (g := (mkF m 52 #[.val (.ref a0), .val (.ref a1)] [(.int (5 : Int32)), (.ref a0)])) rfl rfl (hb hby d8_52)) ?_
  show OwnGo p.tables e below _ (s₁.setTop (mkF m 53 #[.val (.ref a0), .val (.ref a1)] [(.long (A 5))]))
  refine OwnGo.of (A := s₁.setTop (mkF m 53 #[.val (.ref a0), .val (.ref a1)] [(.long (A 5))])) (B := s₁.setTop (mkF m 55 #[.val (.ref a0), .val (.ref a1)] [(.int (5 : Int32)), (.ref a1), (.long (A 5))])) (fun t k => ?_) ?_
  · show Steps p.tables e below (s₁.setTop (mkF m 53 #[.val (.ref a0), .val (.ref a1)] [(.long (A 5))])) t
    refine XS.aloadN X0.here hx rfl (hb hby d8_53) rfl rfl ?_
    refine XS.iconst X0.here hx rfl (hb hby d8_54) ?_
    exact k
  have cq17 := V_b
  obtain ⟨clq17, Arq17, qq17, Sq17, Nq17, Hq17, Gq17⟩ := cq17
  have hinq17 := inb_of (j := (5 : Int32)) Sq17 ⟨by decide, by decide⟩
  refine OwnGo.of (X0.laload hx (j := (5 : Int32)) (v := (.long (B 5))) (by rw [e0]; exact Arq17.1) (State.isArrayOf_alike hZ.alike Arq17.2.1) Arq17.2.2 hinq17 (Hq17.at hinq17 rfl) (g := (mkF m 55 #[.val (.ref a0), .val (.ref a1)] [(.int (5 : Int32)), (.ref a1), (.long (A 5))])) rfl rfl (hb hby d8_55)) ?_
  show OwnGo p.tables e below _ (s₁.setTop (mkF m 56 #[.val (.ref a0), .val (.ref a1)] [(.long (B 5)), (.long (A 5))]))
  refine OwnGo.of (A := s₁.setTop (mkF m 56 #[.val (.ref a0), .val (.ref a1)] [(.long (B 5)), (.long (A 5))])) (B := s₁.setTop (mkF m 57 #[.val (.ref a0), .val (.ref a1)] [(.int (lcmpW (A 5) (B 5)))])) (fun t k => ?_) ?_
  · show Steps p.tables e below (s₁.setTop (mkF m 56 #[.val (.ref a0), .val (.ref a1)] [(.long (B 5)), (.long (A 5))])) t
    refine XS.lcmp X0.here hx rfl (hb hby d8_56) rfl ?_
    exact k
  have hc18 : (lcmpW (A 5) (B 5)) = (0 : Int32) := (lw_eq _ _).mpr (hAB _)
  refine OwnGo.of (A := s₁.setTop (mkF m 57 #[.val (.ref a0), .val (.ref a1)] [(.int (lcmpW (A 5) (B 5)))])) (B := s₁.setTop (mkF m 63 #[.val (.ref a0), .val (.ref a1)] [(.int (6 : Int32)), (.ref a0)])) (fun t k => ?_) ?_
  · show Steps p.tables e below (s₁.setTop (mkF m 57 #[.val (.ref a0), .val (.ref a1)] [(.int (lcmpW (A 5) (B 5)))])) t
    refine XS.ifNo X0.here hx rfl (hb hby d8_57) rfl ((if0 _ _).trans (teq hc18).2) ?_
    refine XS.aloadN X0.here hx rfl (hb hby d8_60) rfl rfl ?_
    refine XS.bipush X0.here hx rfl (hb hby d8_61) ?_
    exact k
  have cq19 := V_a
  obtain ⟨clq19, Arq19, qq19, Sq19, Nq19, Hq19, Gq19⟩ := cq19
  have hinq19 := inb_of (j := (6 : Int32)) Sq19 ⟨by decide, by decide⟩
  refine OwnGo.of (X0.laload hx (j := (6 : Int32)) (v := (.long (A 6))) (by rw [e0]; exact Arq19.1) (State.isArrayOf_alike hZ.alike Arq19.2.1) Arq19.2.2 hinq19 (Hq19.at hinq19 rfl) (g := (mkF m 63 #[.val (.ref a0), .val (.ref a1)] [(.int (6 : Int32)), (.ref a0)])) rfl rfl (hb hby d8_63)) ?_
  show OwnGo p.tables e below _ (s₁.setTop (mkF m 64 #[.val (.ref a0), .val (.ref a1)] [(.long (A 6))]))
  refine OwnGo.of (A := s₁.setTop (mkF m 64 #[.val (.ref a0), .val (.ref a1)] [(.long (A 6))])) (B := s₁.setTop (mkF m 67 #[.val (.ref a0), .val (.ref a1)] [(.int (6 : Int32)), (.ref a1), (.long (A 6))])) (fun t k => ?_) ?_
  · show Steps p.tables e below (s₁.setTop (mkF m 64 #[.val (.ref a0), .val (.ref a1)] [(.long (A 6))])) t
    refine XS.aloadN X0.here hx rfl (hb hby d8_64) rfl rfl ?_
    refine XS.bipush X0.here hx rfl (hb hby d8_65) ?_
    exact k
  have cq20 := V_b
  obtain ⟨clq20, Arq20, qq20, Sq20, Nq20, Hq20, Gq20⟩ := cq20
  have hinq20 := inb_of (j := (6 : Int32)) Sq20 ⟨by decide, by decide⟩
  refine OwnGo.of (X0.laload hx (j := (6 : Int32)) (v := (.long (B 6))) (by rw [e0]; exact Arq20.1) (State.isArrayOf_alike hZ.alike Arq20.2.1) Arq20.2.2 hinq20 (Hq20.at hinq20 rfl) (g := (mkF m 67 #[.val (.ref a0), .val (.ref a1)] [(.int (6 : Int32)), (.ref a1), (.long (A 6))])) rfl rfl (hb hby d8_67)) ?_
  show OwnGo p.tables e below _ (s₁.setTop (mkF m 68 #[.val (.ref a0), .val (.ref a1)] [(.long (B 6)), (.long (A 6))]))
  refine OwnGo.of (A := s₁.setTop (mkF m 68 #[.val (.ref a0), .val (.ref a1)] [(.long (B 6)), (.long (A 6))])) (B := s₁.setTop (mkF m 69 #[.val (.ref a0), .val (.ref a1)] [(.int (lcmpW (A 6) (B 6)))])) (fun t k => ?_) ?_
  · show Steps p.tables e below (s₁.setTop (mkF m 68 #[.val (.ref a0), .val (.ref a1)] [(.long (B 6)), (.long (A 6))])) t
    refine XS.lcmp X0.here hx rfl (hb hby d8_68) rfl ?_
    exact k
  have hc21 : (lcmpW (A 6) (B 6)) = (0 : Int32) := (lw_eq _ _).mpr (hAB _)
  refine OwnGo.of (A := s₁.setTop (mkF m 69 #[.val (.ref a0), .val (.ref a1)] [(.int (lcmpW (A 6) (B 6)))])) (B := s₁.setTop (mkF m 75 #[.val (.ref a0), .val (.ref a1)] [(.int (7 : Int32)), (.ref a0)])) (fun t k => ?_) ?_
  · show Steps p.tables e below (s₁.setTop (mkF m 69 #[.val (.ref a0), .val (.ref a1)] [(.int (lcmpW (A 6) (B 6)))])) t
    refine XS.ifNo X0.here hx rfl (hb hby d8_69) rfl ((if0 _ _).trans (teq hc21).2) ?_
    refine XS.aloadN X0.here hx rfl (hb hby d8_72) rfl rfl ?_
    refine XS.bipush X0.here hx rfl (hb hby d8_73) ?_
    exact k
  have cq22 := V_a
  obtain ⟨clq22, Arq22, qq22, Sq22, Nq22, Hq22, Gq22⟩ := cq22
  have hinq22 := inb_of (j := (7 : Int32)) Sq22 ⟨by decide, by decide⟩
  refine OwnGo.of (X0.laload hx (j := (7 : Int32)) (v := (.long (A 7))) (by rw [e0]; exact Arq22.1) (State.isArrayOf_alike hZ.alike Arq22.2.1) Arq22.2.2 hinq22 (Hq22.at hinq22 rfl) (g := (mkF m 75 #[.val (.ref a0), .val (.ref a1)] [(.int (7 : Int32)), (.ref a0)])) rfl rfl (hb hby d8_75)) ?_
  show OwnGo p.tables e below _ (s₁.setTop (mkF m 76 #[.val (.ref a0), .val (.ref a1)] [(.long (A 7))]))
  refine OwnGo.of (A := s₁.setTop (mkF m 76 #[.val (.ref a0), .val (.ref a1)] [(.long (A 7))])) (B := s₁.setTop (mkF m 79 #[.val (.ref a0), .val (.ref a1)] [(.int (7 : Int32)), (.ref a1), (.long (A 7))])) (fun t k => ?_) ?_
  · show Steps p.tables e below (s₁.setTop (mkF m 76 #[.val (.ref a0), .val (.ref a1)] [(.long (A 7))])) t
    refine XS.aloadN X0.here hx rfl (hb hby d8_76) rfl rfl ?_
    refine XS.bipush X0.here hx rfl (hb hby d8_77) ?_
    exact k
  have cq23 := V_b
  obtain ⟨clq23, Arq23, qq23, Sq23, Nq23, Hq23, Gq23⟩ := cq23
  have hinq23 := inb_of (j := (7 : Int32)) Sq23 ⟨by decide, by decide⟩
  refine OwnGo.of (X0.laload hx (j := (7 : Int32)) (v := (.long (B 7))) (by rw [e0]; exact Arq23.1) (State.isArrayOf_alike hZ.alike Arq23.2.1) Arq23.2.2 hinq23 (Hq23.at hinq23 rfl) (g := (mkF m 79 #[.val (.ref a0), .val (.ref a1)] [(.int (7 : Int32)), (.ref a1), (.long (A 7))])) rfl rfl (hb hby d8_79)) ?_
  show OwnGo p.tables e below _ (s₁.setTop (mkF m 80 #[.val (.ref a0), .val (.ref a1)] [(.long (B 7)), (.long (A 7))]))
  refine OwnGo.of (A := s₁.setTop (mkF m 80 #[.val (.ref a0), .val (.ref a1)] [(.long (B 7)), (.long (A 7))])) (B := s₁.setTop (mkF m 81 #[.val (.ref a0), .val (.ref a1)] [(.int (lcmpW (A 7) (B 7)))])) (fun t k => ?_) ?_
  · show Steps p.tables e below (s₁.setTop (mkF m 80 #[.val (.ref a0), .val (.ref a1)] [(.long (B 7)), (.long (A 7))])) t
    refine XS.lcmp X0.here hx rfl (hb hby d8_80) rfl ?_
    exact k
  have hc24 : (lcmpW (A 7) (B 7)) = (0 : Int32) := (lw_eq _ _).mpr (hAB _)
  refine OwnGo.of (A := s₁.setTop (mkF m 81 #[.val (.ref a0), .val (.ref a1)] [(.int (lcmpW (A 7) (B 7)))])) (B := s₁.setTop (mkF m 89 #[.val (.ref a0), .val (.ref a1)] [(.int (1 : Int32))])) (fun t k => ?_) ?_
  · show Steps p.tables e below (s₁.setTop (mkF m 81 #[.val (.ref a0), .val (.ref a1)] [(.int (lcmpW (A 7) (B 7)))])) t
    refine XS.ifNo X0.here hx rfl (hb hby d8_81) rfl ((if0 _ _).trans (teq hc24).2) ?_
    refine XS.iconst X0.here hx rfl (hb hby d8_84) ?_
    refine XS.goto X0.here hx rfl (pc0 := 85) (pc' := 89) rfl (hb hby d8_85) (by decide) (by decide) ?_
    exact k
  obtain ⟨fs, hr, hrun, hended, hW, hsame⟩ := X0.leave (v := some (.int (nar .boolean (1 : Int32)))) (fun h => by rw [Bd.returns] at h; cases h) hlk
  refine ⟨_, _, ?_, hrun, hended, _, _, rfl, ?_, ⟨_, rfl⟩, hW, hsame.mono (by decide) (by decide)⟩
  · show Steps p.tables e below (s₁.setTop (mkF m 89 #[.val (.ref a0), .val (.ref a1)] [(.int (1 : Int32))])) _
    exact retN X0 hx (t := .boolean) Bd.returns (by simp) (hb hby d8_89) hr
  · show Qrmm Z a0 a1 A B ka kb h0 n0 _ (s₁.setFrames fs).heap _
    rw [show (s₁.setFrames fs).heap = h0 from e0]
    exact ⟨rfl, N0, rfl⟩

def own_mkF (t0 t1 t2 t3 t4 t5 t6 t7 so : Int64) : Nat → Int64
  | 0 => t0
  | 1 => t1
  | 2 => t2
  | 3 => t3
  | 4 => t4
  | 5 => t5
  | 6 => t6
  | 7 => t7
  | _ => so
theorem own_size (p : Int32) : ∃ nn : Nat, ((1 : Int32) + (p &&& (7 : Int32))).toInt = nn ∧ 1 ≤ nn ∧ nn ≤ 8 := by
  have h1 := c_mask p 7 3 (by decide) (by decide)
  have h2 := c_iadd 1 (p &&& 7)
  have r := rng32 ((1 : Int32) + (p &&& 7))
  rw [show (1 : Int32).toInt = 1 from by decide] at h2
  exact ⟨((1 : Int32) + (p &&& (7 : Int32))).toInt.toNat, by omega, by omega, by omega⟩
theorem own_o (p : Int32) : -2147483648 ≤ p.toInt64.toInt ∧ p.toInt64.toInt < 2147483648 := by
  rw [c_i2l]; exact rng32 p
theorem own_v0 (o : Int64) (p : Int32) (ho : -2147483648 ≤ o.toInt ∧ o.toInt < 2147483648) : o.toInt - 32 ≤ (o + (((p &&& (63 : Int32)) - (32 : Int32)).toInt64)).toInt ∧ (o + (((p &&& (63 : Int32)) - (32 : Int32)).toInt64)).toInt ≤ o.toInt + 31 := by
  have h1 := c_mask p 63 6 (by decide) (by decide)
  have h2 := c_isub (p &&& 63) 32
  have r := rng32 ((p &&& 63) - 32)
  have h3 := c_i2l ((p &&& 63) - 32)
  have h4 := c_ladd o ((p &&& 63) - 32).toInt64
  have r2 := rng64 (o + ((p &&& 63) - 32).toInt64)
  rw [show (32 : Int32).toInt = 32 from by decide] at h2
  omega
theorem own_sv (o : Int64) (p : Int32) (ho : -2147483648 ≤ o.toInt ∧ o.toInt < 2147483648) : o.toInt - 64 ≤ (o + (((p &&& (127 : Int32)) - (64 : Int32)).toInt64)).toInt ∧ (o + (((p &&& (127 : Int32)) - (64 : Int32)).toInt64)).toInt ≤ o.toInt + 63 := by
  have h1 := c_mask p 127 7 (by decide) (by decide)
  have h2 := c_isub (p &&& 127) 64
  have r := rng32 ((p &&& 127) - 64)
  have h3 := c_i2l ((p &&& 127) - 64)
  have h4 := c_ladd o ((p &&& 127) - 64).toInt64
  have r2 := rng64 (o + ((p &&& 127) - 64).toInt64)
  rw [show (64 : Int32).toInt = 64 from by decide] at h2
  omega
theorem own_so (o : Int64) (ho : -2147483648 ≤ o.toInt ∧ o.toInt < 2147483648) : (o - (100 : Int64)).toInt = o.toInt - 100 := by
  have h4 := c_lsub o 100
  have r2 := rng64 (o - 100)
  rw [show (100 : Int64).toInt = 100 from by decide] at h4
  omega
theorem own_vn (v q : Int64) (k : Int32) (hv : -3000000000 ≤ v.toInt ∧ v.toInt ≤ 3000000000) : v.toInt ≤ (v + (own_inc q k)).toInt ∧ (v + (own_inc q k)).toInt ≤ v.toInt + 7 := by
  have h1 : 0 ≤ (own_inc q k).toInt ∧ (own_inc q k).toInt ≤ 7 := by
    unfold own_inc
    have := c_maskL ((q.toUInt64 >>> (((3 : Int32) * k) &&& 0x3f).toInt64.toUInt64).toInt64) 7 3 (by decide) (by decide)
    omega
  have h4 := c_ladd v (own_inc q k)
  have r2 := rng64 (v + own_inc q k)
  omega
theorem own_B {v : Int64} (h : -4000000000 ≤ v.toInt ∧ v.toInt ≤ 4000000000) : B53 v := ⟨by omega, by omega⟩
theorem own_ai_if (W : Nat → Int64) (c : Prop) [Decidable c] (x : Int64) (k : Nat) : own_ai W (if c then (1 : Int32) else (0 : Int32)) x k = if c then W k + own_pw k x else W k := by
  unfold own_ai
  by_cases h : c
  · rw [if_pos h, if_pos h, if_neg (by decide)]
  · rw [if_neg h, if_neg h, if_pos rfl]
def OwnRng (v : Int64) : Prop := -4000000000 ≤ v.toInt ∧ v.toInt ≤ 4000000000
theorem own_mkB {t0 t1 t2 t3 t4 t5 t6 t7 so : Int64} (b0 : B53 t0) (b1 : B53 t1) (b2 : B53 t2) (b3 : B53 t3) (b4 : B53 t4) (b5 : B53 t5) (b6 : B53 t6) (b7 : B53 t7) (hs : B53 so) : ∀ j, B53 (own_mkF t0 t1 t2 t3 t4 t5 t6 t7 so j) := fun j => by
  unfold own_mkF; split <;> assumption
theorem own_if (c : Prop) [Decidable c] {a b : Int64} (ha : B53 a) (hb : B53 b) : B53 (if c then a else b) := by split <;> assumption


set_option maxRecDepth 10000 in
set_option maxHeartbeats 8000000 in
theorem own_sums {nn : Nat} {sz : Int32} (hp : sz.toInt = nn) (hn : 1 ≤ nn ∧ nn ≤ 8) {t0 t1 t2 t3 t4 t5 t6 t7 v0 v1 v2 v3 v4 v5 v6 v7 so sv : Int64} {G : Nat → Int64} (hG : G = own_sift 4 nn sv 0 (own_mkF t0 t1 t2 t3 t4 t5 t6 t7 so)) (ht0 : t0 = if (0 : Int32) < sz then v0 else so) (ht1 : t1 = if (1 : Int32) < sz then v1 else so) (ht2 : t2 = if (2 : Int32) < sz then v2 else so) (ht3 : t3 = if (3 : Int32) < sz then v3 else so) (ht4 : t4 = if (4 : Int32) < sz then v4 else so) (ht5 : t5 = if (5 : Int32) < sz then v5 else so) (ht6 : t6 = if (6 : Int32) < sz then v6 else so) (ht7 : t7 = if (7 : Int32) < sz then v7 else so) (o1 : Int64) (k : Nat) : (own_ai (own_ai (own_ai (own_ai (own_ai (own_ai (own_ai (own_ap (fun _ => (0 : Int64)) (sv - o1)) (if (1 : Int32) < sz then (1 : Int32) else (0 : Int32)) (v1 - o1)) (if (2 : Int32) < sz then (1 : Int32) else (0 : Int32)) (v2 - o1)) (if (3 : Int32) < sz then (1 : Int32) else (0 : Int32)) (v3 - o1)) (if (4 : Int32) < sz then (1 : Int32) else (0 : Int32)) (v4 - o1)) (if (5 : Int32) < sz then (1 : Int32) else (0 : Int32)) (v5 - o1)) (if (6 : Int32) < sz then (1 : Int32) else (0 : Int32)) (v6 - o1)) (if (7 : Int32) < sz then (1 : Int32) else (0 : Int32)) (v7 - o1)) k = (own_ai (own_ai (own_ai (own_ai (own_ai (own_ai (own_ai (own_ai (fun _ => (0 : Int64)) (if (0 : Int32) < sz then (1 : Int32) else (0 : Int32)) ((G 0) - o1)) (if (1 : Int32) < sz then (1 : Int32) else (0 : Int32)) ((G 1) - o1)) (if (2 : Int32) < sz then (1 : Int32) else (0 : Int32)) ((G 2) - o1)) (if (3 : Int32) < sz then (1 : Int32) else (0 : Int32)) ((G 3) - o1)) (if (4 : Int32) < sz then (1 : Int32) else (0 : Int32)) ((G 4) - o1)) (if (5 : Int32) < sz then (1 : Int32) else (0 : Int32)) ((G 5) - o1)) (if (6 : Int32) < sz then (1 : Int32) else (0 : Int32)) ((G 6) - o1)) (if (7 : Int32) < sz then (1 : Int32) else (0 : Int32)) ((G 7) - o1)) k := by
  have c0 : ((0 : Int32) < sz) ↔ 0 < nn := own_ltn hp _ 0 (by decide)
  have c1 : ((1 : Int32) < sz) ↔ 1 < nn := own_ltn hp _ 1 (by decide)
  have c2 : ((2 : Int32) < sz) ↔ 2 < nn := own_ltn hp _ 2 (by decide)
  have c3 : ((3 : Int32) < sz) ↔ 3 < nn := own_ltn hp _ 3 (by decide)
  have c4 : ((4 : Int32) < sz) ↔ 4 < nn := own_ltn hp _ 4 (by decide)
  have c5 : ((5 : Int32) < sz) ↔ 5 < nn := own_ltn hp _ 5 (by decide)
  have c6 : ((6 : Int32) < sz) ↔ 6 < nn := own_ltn hp _ 6 (by decide)
  have c7 : ((7 : Int32) < sz) ↔ 7 < nn := own_ltn hp _ 7 (by decide)
  have c8 : ((8 : Int32) < sz) ↔ 8 < nn := own_ltn hp _ 8 (by decide)
  have c9 : ((9 : Int32) < sz) ↔ 9 < nn := own_ltn hp _ 9 (by decide)
  have hP := own_perm (nn - 1) (by omega) (fun x => own_pw k (x - o1)) sv (own_mkF t0 t1 t2 t3 t4 t5 t6 t7 so)
  rw [show nn - 1 + 1 = nn from by omega, ← hG] at hP
  simp only [c0, c1, c2, c3, c4, c5, c6, c7] at ht0 ht1 ht2 ht3 ht4 ht5 ht6 ht7
  simp only [own_ai_if, own_ap, c0, c1, c2, c3, c4, c5, c6, c7]
  have : nn = 1 ∨ nn = 2 ∨ nn = 3 ∨ nn = 4 ∨ nn = 5 ∨ nn = 6 ∨ nn = 7 ∨ nn = 8 := by omega
  rcases this with e | e | e | e | e | e | e | e
  all_goals
    simp only [e, Nat.reduceLT, Nat.reduceSub, if_true, if_false, Nat.lt_irrefl, reduceIte, own_sumF, own_sum1, own_mkF, Nat.reduceAdd, Nat.zero_add, Nat.zero_lt_one, Nat.not_lt_zero] at hP ht0 ht1 ht2 ht3 ht4 ht5 ht6 ht7 ⊢
    subst ht0 ht1 ht2 ht3 ht4 ht5 ht6 ht7
    exact hP.symm


theorem own_ords {nn : Nat} {sz : Int32} (hp : sz.toInt = nn) (hn : 1 ≤ nn ∧ nn ≤ 8) {t0 t1 t2 t3 t4 t5 t6 t7 v0 v1 v2 v3 v4 v5 v6 v7 so sv : Int64} {G : Nat → Int64} (hG : G = own_sift 4 nn sv 0 (own_mkF t0 t1 t2 t3 t4 t5 t6 t7 so)) (ht0 : t0 = if (0 : Int32) < sz then v0 else so) (ht1 : t1 = if (1 : Int32) < sz then v1 else so) (ht2 : t2 = if (2 : Int32) < sz then v2 else so) (ht3 : t3 = if (3 : Int32) < sz then v3 else so) (ht4 : t4 = if (4 : Int32) < sz then v4 else so) (ht5 : t5 = if (5 : Int32) < sz then v5 else so) (ht6 : t6 = if (6 : Int32) < sz then v6 else so) (ht7 : t7 = if (7 : Int32) < sz then v7 else so) (hB : ∀ j, B53 (G j)) (o13 : v1.toInt ≤ v3.toInt) (o14 : v1.toInt ≤ v4.toInt) (o25 : v2.toInt ≤ v5.toInt) (o26 : v2.toInt ≤ v6.toInt) (o37 : v3.toInt ≤ v7.toInt) (i : Nat) (h1 : 1 ≤ i) (h7 : i ≤ 7) : Int32.ofNat i < sz → ¬ ((0 : Int32) < (cmpValue (FP.dcmp (FP.l2d (G ((i - 1) / 2))) (FP.l2d (G i))) .g)) := by
  have c0 : ((0 : Int32) < sz) ↔ 0 < nn := own_ltn hp _ 0 (by decide)
  have c1 : ((1 : Int32) < sz) ↔ 1 < nn := own_ltn hp _ 1 (by decide)
  have c2 : ((2 : Int32) < sz) ↔ 2 < nn := own_ltn hp _ 2 (by decide)
  have c3 : ((3 : Int32) < sz) ↔ 3 < nn := own_ltn hp _ 3 (by decide)
  have c4 : ((4 : Int32) < sz) ↔ 4 < nn := own_ltn hp _ 4 (by decide)
  have c5 : ((5 : Int32) < sz) ↔ 5 < nn := own_ltn hp _ 5 (by decide)
  have c6 : ((6 : Int32) < sz) ↔ 6 < nn := own_ltn hp _ 6 (by decide)
  have c7 : ((7 : Int32) < sz) ↔ 7 < nn := own_ltn hp _ 7 (by decide)
  have c8 : ((8 : Int32) < sz) ↔ 8 < nn := own_ltn hp _ 8 (by decide)
  have c9 : ((9 : Int32) < sz) ↔ 9 < nn := own_ltn hp _ 9 (by decide)
  intro hi
  have ei : (Int32.ofNat i).toInt = i := Int32.toInt_ofNat_of_lt (by omega)
  rw [own_ltn hp _ i ei] at hi
  rw [dcmpV_w (hB _) (hB _), lw_gt, Int64.lt_iff_toInt_lt]
  have hH : OwnHeap (nn - 1 + 1) (own_mkF t0 t1 t2 t3 t4 t5 t6 t7 so) := by
    rw [show nn - 1 + 1 = nn from by omega]
    refine ⟨fun h => ?_, fun h => ?_, fun h => ?_, fun h => ?_, fun h => ?_⟩
    · show t1.toInt ≤ t3.toInt; rw [ht1, ht3, if_pos (c1.mpr (by omega)), if_pos (c3.mpr (by omega))]; exact o13
    · show t1.toInt ≤ t4.toInt; rw [ht1, ht4, if_pos (c1.mpr (by omega)), if_pos (c4.mpr (by omega))]; exact o14
    · show t2.toInt ≤ t5.toInt; rw [ht2, ht5, if_pos (c2.mpr (by omega)), if_pos (c5.mpr (by omega))]; exact o25
    · show t2.toInt ≤ t6.toInt; rw [ht2, ht6, if_pos (c2.mpr (by omega)), if_pos (c6.mpr (by omega))]; exact o26
    · show t3.toInt ≤ t7.toInt; rw [ht3, ht7, if_pos (c3.mpr (by omega)), if_pos (c7.mpr (by omega))]; exact o37
  have h := own_ord (nn - 1) (by omega) sv (own_mkF t0 t1 t2 t3 t4 t5 t6 t7 so) hH i h1 (by omega)
  rw [show nn - 1 + 1 = nn from by omega, ← hG] at h
  omega
theorem own_keeps {nn : Nat} {sz : Int32} (hp : sz.toInt = nn) (hn : 1 ≤ nn ∧ nn ≤ 8) {t0 t1 t2 t3 t4 t5 t6 t7 v0 v1 v2 v3 v4 v5 v6 v7 so sv : Int64} {G : Nat → Int64} (hG : G = own_sift 4 nn sv 0 (own_mkF t0 t1 t2 t3 t4 t5 t6 t7 so)) (ht0 : t0 = if (0 : Int32) < sz then v0 else so) (ht1 : t1 = if (1 : Int32) < sz then v1 else so) (ht2 : t2 = if (2 : Int32) < sz then v2 else so) (ht3 : t3 = if (3 : Int32) < sz then v3 else so) (ht4 : t4 = if (4 : Int32) < sz then v4 else so) (ht5 : t5 = if (5 : Int32) < sz then v5 else so) (ht6 : t6 = if (6 : Int32) < sz then v6 else so) (ht7 : t7 = if (7 : Int32) < sz then v7 else so) (hso : B53 so) (i : Nat) (h9 : i ≤ 9) : ¬ (Int32.ofNat i < sz) → (cmpValue (FP.dcmp (FP.l2d (G i)) (FP.l2d so)) .l) = (0 : Int32) := by
  intro hi
  have ei : (Int32.ofNat i).toInt = i := Int32.toInt_ofNat_of_lt (by omega)
  have hi' := hi
  rw [own_ltn hp _ i ei] at hi'
  have h := own_stay (nn - 1) (by omega) sv (own_mkF t0 t1 t2 t3 t4 t5 t6 t7 so) i (by omega)
  rw [show nn - 1 + 1 = nn from by omega, ← hG] at h
  have e : (own_mkF t0 t1 t2 t3 t4 t5 t6 t7 so) i = so := by
    have : i = 0 ∨ i = 1 ∨ i = 2 ∨ i = 3 ∨ i = 4 ∨ i = 5 ∨ i = 6 ∨ i = 7 ∨ i = 8 ∨ i = 9 := by omega
    rcases this with rfl | rfl | rfl | rfl | rfl | rfl | rfl | rfl | rfl | rfl
    · show t0 = so; rw [ht0]; exact if_neg hi
    · show t1 = so; rw [ht1]; exact if_neg hi
    · show t2 = so; rw [ht2]; exact if_neg hi
    · show t3 = so; rw [ht3]; exact if_neg hi
    · show t4 = so; rw [ht4]; exact if_neg hi
    · show t5 = so; rw [ht5]; exact if_neg hi
    · show t6 = so; rw [ht6]; exact if_neg hi
    · show t7 = so; rw [ht7]; exact if_neg hi
    · rfl
    · rfl
  rw [h, e, dcmpV_w hso hso, lw_eq]

theorem pd_3 : parseMethodDescriptor "(JI)J" = some ⟨[.long, .int], some .long⟩ := by decide +kernel
theorem pd_4 : parseMethodDescriptor "([JIID)D" = some ⟨[(.array .long), .int, .int, .double], some .double⟩ := by decide +kernel
theorem pd_5 : parseMethodDescriptor "([DID)V" = some ⟨[(.array .double), .int, .double], none⟩ := by decide +kernel
theorem pd_6 : parseMethodDescriptor "([DII)Z" = some ⟨[(.array .double), .int, .int], some .boolean⟩ := by decide +kernel
theorem pd_7 : parseMethodDescriptor "([DIID)Z" = some ⟨[(.array .double), .int, .int, .double], some .boolean⟩ := by decide +kernel
theorem pd_8 : parseMethodDescriptor "([JZJ)V" = some ⟨[(.array .long), .boolean, .long], none⟩ := by decide +kernel
theorem pd_9 : parseMethodDescriptor "([J[J)Z" = some ⟨[(.array .long), (.array .long)], some .boolean⟩ := by decide +kernel
theorem ef_rm0 (m : MethodId) (p0 : Int32) (q1 : Int64) (p2 : Int32) (p3 : Int32) (p4 : Int32) : entryFrame m #[(.int p0), (.long q1), (.int p2), (.int p3), (.int p4)] maxLocals = mkF m 0 #[.val (.int p0), .val (.long q1), .second, .val (.int p2), .val (.int p3), .val (.int p4), .unset, .unset, .unset, .unset, .unset, .unset, .unset, .unset, .unset, .unset, .unset, .unset, .unset] [] := by first | (simp [entryFrame, mkF, argsToLocals, Value.category, maxLocals]; done) | rfl
def Qrm0 (Z : State) (p0 : Int32) (q1 : Int64) (p2 : Int32) (p3 : Int32) (p4 : Int32) (h0 : Heap) (n0 : Nat) (v : Option Value) (h : Heap) (L : List Loc) : Prop := v = some (.int 1) ∧ Fr n0 L
set_option maxRecDepth 65536 in
set_option maxHeartbeats 40000000 in
theorem rm0 (l : Launch) (Z : State) (aw : Array Value) (hw : ∀ d ∈ tables_1, d.before aw Z = true) (ws : List Jvm.Cond) (p0 : Int32) (q1 : Int64) (p2 : Int32) (p3 : Int32) (p4 : Int32) (h0 : Heap) (n0 : Nat) (Z0 : n0 ≤ h0.size) :
    MetFree l x (head1 (Jvm.Cond.code x code maxLocals ret :: ws) room_1) (fun a U => a = #[(.int p0), (.long q1), (.int p2), (.int p3), (.int p4)] ∧ Z.Warmed39 U.vm ∧ U.heap = h0) (fun _ _ _ _ _ => True) (fun _ U o U' => ∃ v L, o = .returned v ∧ Qrm0 Z p0 q1 p2 p3 p4 h0 n0 v U'.heap L ∧ FrameEnd U o U' L room_1.cells room_1.slots) := by
  refine MetFree.of_bodySF (plainFor_of_name pn_0) hisR ?_
  intro p e s m args below meth c s₁ Bd hml0 hP hK
  obtain ⟨rfl, hZ, hh⟩ := hP
  have hx := Bd.exec
  have hby := Bd.bytes
  have hml : c.maxLocals = 19 := hml0
  have hown : s.vm.findClass "com/example/rankwright/rankwright/rank/AccumulatorSiftDownPinLaw" = some m.cls := findClass_of_methodNamed Bd.named
  have hnm := (name_of_methodNamed Bd.named Bd.method).1
  have X0 : Stand p l e room_1 s m #[(.int p0), (.long q1), (.int p2), (.int p3), (.int p4)] below meth c s₁ [] 0 0 := Stand.of_body Bd
  have e0 : s₁.heap = h0 := by rw [← hh, Bd.state]; rfl
  have N0 := Fr.nil n0
  have hlk := Bd.notSynchronized
  show OwnGo p.tables e below _ (s₁.setTop (entryFrame m #[(.int p0), (.long q1), (.int p2), (.int p3), (.int p4)] maxLocals))
  rw [ef_rm0 m p0 q1 p2 p3 p4]
  show OwnGo p.tables e below _ (s₁.setTop (mkF m 0 #[.val (.int p0), .val (.long q1), .second, .val (.int p2), .val (.int p3), .val (.int p4), .unset, .unset, .unset, .unset, .unset, .unset, .unset, .unset, .unset, .unset, .unset, .unset, .unset] []))
  refine OwnGo.of (A := s₁.setTop (mkF m 0 #[.val (.int p0), .val (.long q1), .second, .val (.int p2), .val (.int p3), .val (.int p4), .unset, .unset, .unset, .unset, .unset, .unset, .unset, .unset, .unset, .unset, .unset, .unset, .unset] [])) (B := s₁.setTop (mkF m 8 #[.val (.int p0), .val (.long q1), .second, .val (.int p2), .val (.int p3), .val (.int p4), .val (.int ((1 : Int32) + (p0 &&& (7 : Int32)))), .unset, .unset, .unset, .unset, .unset, .unset, .unset, .unset, .unset, .unset, .unset, .unset] [])) (fun t k => ?_) ?_
  · show Steps p.tables e below (s₁.setTop (mkF m 0 #[.val (.int p0), .val (.long q1), .second, .val (.int p2), .val (.int p3), .val (.int p4), .unset, .unset, .unset, .unset, .unset, .unset, .unset, .unset, .unset, .unset, .unset, .unset, .unset] [])) t
    refine XS.iconst X0.here hx rfl (hb hby at_0) ?_
    refine XS.iloadN X0.here hx rfl (hb hby at_1) rfl ?_
    refine XS.bipush X0.here hx rfl (hb hby at_2) ?_
    refine XS.iand X0.here hx rfl (hb hby at_4) rfl ?_
    refine XS.iadd X0.here hx rfl (hb hby at_5) rfl ?_
    refine XS.istore X0.here hx rfl (hb hby at_6) rfl (l' := #[.val (.int p0), .val (.long q1), .second, .val (.int p2), .val (.int p3), .val (.int p4), .val (.int ((1 : Int32) + (p0 &&& (7 : Int32)))), .unset, .unset, .unset, .unset, .unset, .unset, .unset, .unset, .unset, .unset, .unset, .unset]) rfl ?_
    exact k
  obtain ⟨sz, qsz⟩ : ∃ z, z = ((1 : Int32) + (p0 &&& (7 : Int32))) := ⟨_, rfl⟩
  obtain ⟨nn, hp, hn⟩ : ∃ nn : Nat, sz.toInt = nn ∧ 1 ≤ nn ∧ nn ≤ 8 := by subst qsz; exact own_size p0
  rw [← qsz]
  show OwnGo p.tables e below _ (s₁.setTop (mkF m 8 #[.val (.int p0), .val (.long q1), .second, .val (.int p2), .val (.int p3), .val (.int p4), .val (.int sz), .unset, .unset, .unset, .unset, .unset, .unset, .unset, .unset, .unset, .unset, .unset, .unset] []))
  refine OwnGo.of (A := s₁.setTop (mkF m 8 #[.val (.int p0), .val (.long q1), .second, .val (.int p2), .val (.int p3), .val (.int p4), .val (.int sz), .unset, .unset, .unset, .unset, .unset, .unset, .unset, .unset, .unset, .unset, .unset, .unset] [])) (B := s₁.setTop (mkF m 13 #[.val (.int p0), .val (.long q1), .second, .val (.int p2), .val (.int p3), .val (.int p4), .val (.int sz), .val (.long (p4.toInt64)), .second, .unset, .unset, .unset, .unset, .unset, .unset, .unset, .unset, .unset, .unset] [])) (fun t k => ?_) ?_
  · show Steps p.tables e below (s₁.setTop (mkF m 8 #[.val (.int p0), .val (.long q1), .second, .val (.int p2), .val (.int p3), .val (.int p4), .val (.int sz), .unset, .unset, .unset, .unset, .unset, .unset, .unset, .unset, .unset, .unset, .unset, .unset] [])) t
    refine XS.iload X0.here hx rfl (hb hby at_8) rfl ?_
    refine XS.i2l X0.here hx rfl (hb hby at_10) rfl ?_
    refine XS.lstore X0.here hx rfl (hb hby at_11) rfl (l' := #[.val (.int p0), .val (.long q1), .second, .val (.int p2), .val (.int p3), .val (.int p4), .val (.int sz), .val (.long (p4.toInt64)), .second, .unset, .unset, .unset, .unset, .unset, .unset, .unset, .unset, .unset, .unset]) rfl ?_
    exact k
  obtain ⟨o1, qo1⟩ : ∃ z, z = (p4.toInt64) := ⟨_, rfl⟩
  have ho : -2147483648 ≤ o1.toInt ∧ o1.toInt < 2147483648 := by subst qo1; exact own_o p4
  rw [← qo1]
  show OwnGo p.tables e below _ (s₁.setTop (mkF m 13 #[.val (.int p0), .val (.long q1), .second, .val (.int p2), .val (.int p3), .val (.int p4), .val (.int sz), .val (.long o1), .second, .unset, .unset, .unset, .unset, .unset, .unset, .unset, .unset, .unset, .unset] []))
  refine OwnGo.of (A := s₁.setTop (mkF m 13 #[.val (.int p0), .val (.long q1), .second, .val (.int p2), .val (.int p3), .val (.int p4), .val (.int sz), .val (.long o1), .second, .unset, .unset, .unset, .unset, .unset, .unset, .unset, .unset, .unset, .unset] [])) (B := s₁.setTop (mkF m 15 #[.val (.int p0), .val (.long q1), .second, .val (.int p2), .val (.int p3), .val (.int p4), .val (.int sz), .val (.long o1), .second, .unset, .unset, .unset, .unset, .unset, .unset, .unset, .unset, .unset, .unset] [(.int (8 : Int32))])) (fun t k => ?_) ?_
  · show Steps p.tables e below (s₁.setTop (mkF m 13 #[.val (.int p0), .val (.long q1), .second, .val (.int p2), .val (.int p3), .val (.int p4), .val (.int sz), .val (.long o1), .second, .unset, .unset, .unset, .unset, .unset, .unset, .unset, .unset, .unset, .unset] [])) t
    refine XS.bipush X0.here hx rfl (hb hby at_13) ?_
    exact k
  obtain ⟨T1, h1, k1, X1, e1, E1, A1, st1⟩ := newP X0 hx hZ (hw _ (List.mem_of_getElem? (i := 0) rfl)) e0 (g := (mkF m 15 #[.val (.int p0), .val (.long q1), .second, .val (.int p2), .val (.int p3), .val (.int p4), .val (.int sz), .val (.long o1), .second, .unset, .unset, .unset, .unset, .unset, .unset, .unset, .unset, .unset, .unset] [(.int (8 : Int32))])) rfl (hb hby at_15) rfl (by decide) (cap := 8) (by decide) (by decide) (by decide) (by decide)
  obtain ⟨b1, g1⟩ : ∃ z, z = h0.size := ⟨_, rfl⟩
  rw [← g1] at A1 st1
  refine OwnGo.of st1 ?_
  have g_b1 : n0 ≤ b1 := Nat.le_trans Z0 (Nat.le_of_eq g1.symm)
  have f2 : n0 ≤ h1.size := Nat.le_trans Z0 E1.1
  have f3 : Arv Z h1 b1 k1 .long (8 : Int32) [(.long (0 : Int64)), (.long (0 : Int64)), (.long (0 : Int64)), (.long (0 : Int64)), (.long (0 : Int64)), (.long (0 : Int64)), (.long (0 : Int64)), (.long (0 : Int64))] (.long (0 : Int64)) := (Arv.new A1 (by decide)).pad (pad_rep [] (.long (0 : Int64)) 8)
  show OwnGo p.tables e below _ (T1.setTop (mkF m 17 #[.val (.int p0), .val (.long q1), .second, .val (.int p2), .val (.int p3), .val (.int p4), .val (.int sz), .val (.long o1), .second, .unset, .unset, .unset, .unset, .unset, .unset, .unset, .unset, .unset, .unset] [(.ref b1)]))
  refine OwnGo.of (A := T1.setTop (mkF m 17 #[.val (.int p0), .val (.long q1), .second, .val (.int p2), .val (.int p3), .val (.int p4), .val (.int sz), .val (.long o1), .second, .unset, .unset, .unset, .unset, .unset, .unset, .unset, .unset, .unset, .unset] [(.ref b1)])) (B := T1.setTop (mkF m 33 #[.val (.int p0), .val (.long q1), .second, .val (.int p2), .val (.int p3), .val (.int p4), .val (.int sz), .val (.long o1), .second, .val (.ref b1), .unset, .unset, .unset, .unset, .unset, .unset, .unset, .unset, .unset] [(.long (o1 + (((p2 &&& (63 : Int32)) - (32 : Int32)).toInt64))), (.int (0 : Int32)), (.ref b1)])) (fun t k => ?_) ?_
  · show Steps p.tables e below (T1.setTop (mkF m 17 #[.val (.int p0), .val (.long q1), .second, .val (.int p2), .val (.int p3), .val (.int p4), .val (.int sz), .val (.long o1), .second, .unset, .unset, .unset, .unset, .unset, .unset, .unset, .unset, .unset, .unset] [(.ref b1)])) t
    refine XS.astore X1.here hx rfl (hb hby at_17) rfl rfl (l' := #[.val (.int p0), .val (.long q1), .second, .val (.int p2), .val (.int p3), .val (.int p4), .val (.int sz), .val (.long o1), .second, .val (.ref b1), .unset, .unset, .unset, .unset, .unset, .unset, .unset, .unset, .unset]) rfl ?_
    refine XS.aload X1.here hx rfl (hb hby at_19) rfl rfl ?_
    refine XS.iconst X1.here hx rfl (hb hby at_21) ?_
    refine XS.lload X1.here hx rfl (hb hby at_22) rfl ?_
    refine XS.iloadN X1.here hx rfl (hb hby at_24) rfl ?_
    refine XS.bipush X1.here hx rfl (hb hby at_25) ?_
    refine XS.iand X1.here hx rfl (hb hby at_27) rfl ?_
    refine XS.bipush X1.here hx rfl (hb hby at_28) ?_
    refine XS.isub X1.here hx rfl (hb hby at_30) rfl ?_
    refine XS.i2l X1.here hx rfl (hb hby at_31) rfl ?_
    refine XS.ladd X1.here hx rfl (hb hby at_32) rfl ?_
    exact k
  obtain ⟨v0, qv0⟩ : ∃ z, z = (o1 + (((p2 &&& (63 : Int32)) - (32 : Int32)).toInt64)) := ⟨_, rfl⟩
  have w0 : o1.toInt - 32 ≤ v0.toInt ∧ v0.toInt ≤ o1.toInt + 31 := by subst qv0; exact own_v0 o1 p2 ho
  rw [← qv0]
  show OwnGo p.tables e below _ (T1.setTop (mkF m 33 #[.val (.int p0), .val (.long q1), .second, .val (.int p2), .val (.int p3), .val (.int p4), .val (.int sz), .val (.long o1), .second, .val (.ref b1), .unset, .unset, .unset, .unset, .unset, .unset, .unset, .unset, .unset] [(.long v0), (.int (0 : Int32)), (.ref b1)]))
  have cq4 := f3
  obtain ⟨clq4, Arq4, qq4, Sq4, Nq4, Hq4, Gq4⟩ := cq4
  obtain ⟨T5, h5, X5, e5, W5, st5⟩ := stJ X1 hx hZ e1 Arq4 (j := (0 : Int32)) (inb_of Sq4 ⟨by decide, by decide⟩) (g := (mkF m 33 #[.val (.int p0), .val (.long q1), .second, .val (.int p2), .val (.int p3), .val (.int p4), .val (.int sz), .val (.long o1), .second, .val (.ref b1), .unset, .unset, .unset, .unset, .unset, .unset, .unset, .unset, .unset] [(.long v0), (.int (0 : Int32)), (.ref b1)])) rfl rfl (hb hby at_33)
  refine OwnGo.of st5 ?_
  have N5 := Fr.snoc X5 N0 g_b1
  have f6 : n0 ≤ h5.size := Nat.le_trans f2 (Keep.of_wr W5).1
  have f7 : Arv Z h5 b1 k1 .long (8 : Int32) [(.long v0), (.long (0 : Int64)), (.long (0 : Int64)), (.long (0 : Int64)), (.long (0 : Int64)), (.long (0 : Int64)), (.long (0 : Int64)), (.long (0 : Int64))] (.long (0 : Int64)) := Arv.set Arq4 qq4 Sq4 Nq4 Hq4 Gq4 rfl W5 0 rfl (Nat.le_of_ble_eq_true rfl)
  show OwnGo p.tables e below _ (T5.setTop (mkF m 34 #[.val (.int p0), .val (.long q1), .second, .val (.int p2), .val (.int p3), .val (.int p4), .val (.int sz), .val (.long o1), .second, .val (.ref b1), .unset, .unset, .unset, .unset, .unset, .unset, .unset, .unset, .unset] []))
  refine OwnGo.of (A := T5.setTop (mkF m 34 #[.val (.int p0), .val (.long q1), .second, .val (.int p2), .val (.int p3), .val (.int p4), .val (.int sz), .val (.long o1), .second, .val (.ref b1), .unset, .unset, .unset, .unset, .unset, .unset, .unset, .unset, .unset] [])) (B := T5.setTop (mkF m 40 #[.val (.int p0), .val (.long q1), .second, .val (.int p2), .val (.int p3), .val (.int p4), .val (.int sz), .val (.long o1), .second, .val (.ref b1), .unset, .unset, .unset, .unset, .unset, .unset, .unset, .unset, .unset] [(.int (0 : Int32)), (.ref b1), (.int (1 : Int32)), (.ref b1)])) (fun t k => ?_) ?_
  · show Steps p.tables e below (T5.setTop (mkF m 34 #[.val (.int p0), .val (.long q1), .second, .val (.int p2), .val (.int p3), .val (.int p4), .val (.int sz), .val (.long o1), .second, .val (.ref b1), .unset, .unset, .unset, .unset, .unset, .unset, .unset, .unset, .unset] [])) t
    refine XS.aload X5.here hx rfl (hb hby at_34) rfl rfl ?_
    refine XS.iconst X5.here hx rfl (hb hby at_36) ?_
    refine XS.aload X5.here hx rfl (hb hby at_37) rfl rfl ?_
    refine XS.iconst X5.here hx rfl (hb hby at_39) ?_
    exact k
  have cq8 := f7
  obtain ⟨clq8, Arq8, qq8, Sq8, Nq8, Hq8, Gq8⟩ := cq8
  have hinq8 := inb_of (j := (0 : Int32)) Sq8 ⟨by decide, by decide⟩
  refine OwnGo.of (X5.laload hx (j := (0 : Int32)) (v := (.long v0)) (by rw [e5]; exact Arq8.1) (State.isArrayOf_alike hZ.alike Arq8.2.1) Arq8.2.2 hinq8 (Hq8.at hinq8 rfl) (g := (mkF m 40 #[.val (.int p0), .val (.long q1), .second, .val (.int p2), .val (.int p3), .val (.int p4), .val (.int sz), .val (.long o1), .second, .val (.ref b1), .unset, .unset, .unset, .unset, .unset, .unset, .unset, .unset, .unset] [(.int (0 : Int32)), (.ref b1), (.int (1 : Int32)), (.ref b1)])) rfl rfl (hb hby at_40)) ?_
  show OwnGo p.tables e below _ (T5.setTop (mkF m 41 #[.val (.int p0), .val (.long q1), .second, .val (.int p2), .val (.int p3), .val (.int p4), .val (.int sz), .val (.long o1), .second, .val (.ref b1), .unset, .unset, .unset, .unset, .unset, .unset, .unset, .unset, .unset] [(.long v0), (.int (1 : Int32)), (.ref b1)]))
  refine OwnGo.of (A := T5.setTop (mkF m 41 #[.val (.int p0), .val (.long q1), .second, .val (.int p2), .val (.int p3), .val (.int p4), .val (.int sz), .val (.long o1), .second, .val (.ref b1), .unset, .unset, .unset, .unset, .unset, .unset, .unset, .unset, .unset] [(.long v0), (.int (1 : Int32)), (.ref b1)])) (B := T5.setTop (mkF m 43 #[.val (.int p0), .val (.long q1), .second, .val (.int p2), .val (.int p3), .val (.int p4), .val (.int sz), .val (.long o1), .second, .val (.ref b1), .unset, .unset, .unset, .unset, .unset, .unset, .unset, .unset, .unset] [(.int (0 : Int32)), (.long q1), (.long v0), (.int (1 : Int32)), (.ref b1)])) (fun t k => ?_) ?_
  · show Steps p.tables e below (T5.setTop (mkF m 41 #[.val (.int p0), .val (.long q1), .second, .val (.int p2), .val (.int p3), .val (.int p4), .val (.int sz), .val (.long o1), .second, .val (.ref b1), .unset, .unset, .unset, .unset, .unset, .unset, .unset, .unset, .unset] [(.long v0), (.int (1 : Int32)), (.ref b1)])) t
    refine XS.lloadN X5.here hx rfl (hb hby at_41) rfl ?_
    refine XS.iconst X5.here hx rfl (hb hby at_42) ?_
    exact k
  obtain ⟨T9, L9, v9, X9, hQ9, st9⟩ := own_callS X5 hx (y := (⟨"com/example/rankwright/rankwright/rank/AccumulatorSiftDownPinLaw", "inc", "(JI)J"⟩ : MethodName)) hown (mvT hZ (hw _ (List.mem_of_getElem? (i := 1) rfl))) (mvT hZ (hw _ (List.mem_of_getElem? (i := 2) rfl))) (mvT hZ (hw _ (List.mem_of_getElem? (i := 3) rfl))) (mvT hZ (hw _ (List.mem_of_getElem? (i := 4) rfl))) (by decide) (backOf (W := 4) (rm1 l Z aw hw [] q1 (0 : Int32)  h5 n0 f6 ) hZ (hw _ (List.mem_of_getElem? (i := 4) rfl)) (hw _ (List.mem_of_getElem? (i := 3) rfl)) (by decide) (by decide)) (g := (mkF m 43 #[.val (.int p0), .val (.long q1), .second, .val (.int p2), .val (.int p3), .val (.int p4), .val (.int sz), .val (.long o1), .second, .val (.ref b1), .unset, .unset, .unset, .unset, .unset, .unset, .unset, .unset, .unset] [(.int (0 : Int32)), (.long q1), (.long v0), (.int (1 : Int32)), (.ref b1)])) rfl (by rw [hml]; rfl) (argsL := [(.long q1), (.int (0 : Int32))]) (rest := [(.long v0), (.int (1 : Int32)), (.ref b1)]) (lenOf pd_3 rfl) rfl (by show 2 * 0 + _ ≤ _; exact Nat.le_of_eq rfl) (hb hby at_43) rfl e5 (by decide) (by decide)
  obtain ⟨rfl, N9q, eq9⟩ := hQ9
  have N9 := Fr.app N5 N9q
  refine OwnGo.of st9 ?_
  show OwnGo p.tables e below _ (T9.setTop (mkF m 46 #[.val (.int p0), .val (.long q1), .second, .val (.int p2), .val (.int p3), .val (.int p4), .val (.int sz), .val (.long o1), .second, .val (.ref b1), .unset, .unset, .unset, .unset, .unset, .unset, .unset, .unset, .unset] [(.long (own_inc q1 (0 : Int32))), (.long v0), (.int (1 : Int32)), (.ref b1)]))
  refine OwnGo.of (A := T9.setTop (mkF m 46 #[.val (.int p0), .val (.long q1), .second, .val (.int p2), .val (.int p3), .val (.int p4), .val (.int sz), .val (.long o1), .second, .val (.ref b1), .unset, .unset, .unset, .unset, .unset, .unset, .unset, .unset, .unset] [(.long (own_inc q1 (0 : Int32))), (.long v0), (.int (1 : Int32)), (.ref b1)])) (B := T9.setTop (mkF m 47 #[.val (.int p0), .val (.long q1), .second, .val (.int p2), .val (.int p3), .val (.int p4), .val (.int sz), .val (.long o1), .second, .val (.ref b1), .unset, .unset, .unset, .unset, .unset, .unset, .unset, .unset, .unset] [(.long (v0 + (own_inc q1 (0 : Int32)))), (.int (1 : Int32)), (.ref b1)])) (fun t k => ?_) ?_
  · show Steps p.tables e below (T9.setTop (mkF m 46 #[.val (.int p0), .val (.long q1), .second, .val (.int p2), .val (.int p3), .val (.int p4), .val (.int sz), .val (.long o1), .second, .val (.ref b1), .unset, .unset, .unset, .unset, .unset, .unset, .unset, .unset, .unset] [(.long (own_inc q1 (0 : Int32))), (.long v0), (.int (1 : Int32)), (.ref b1)])) t
    refine XS.ladd X9.here hx rfl (hb hby at_46) rfl ?_
    exact k
  obtain ⟨v1, qv1⟩ : ∃ z, z = (v0 + (own_inc q1 (0 : Int32))) := ⟨_, rfl⟩
  have w1 : v0.toInt ≤ v1.toInt ∧ v1.toInt ≤ v0.toInt + 7 := by subst qv1; exact own_vn _ _ _ (by omega)
  rw [← qv1]
  show OwnGo p.tables e below _ (T9.setTop (mkF m 47 #[.val (.int p0), .val (.long q1), .second, .val (.int p2), .val (.int p3), .val (.int p4), .val (.int sz), .val (.long o1), .second, .val (.ref b1), .unset, .unset, .unset, .unset, .unset, .unset, .unset, .unset, .unset] [(.long v1), (.int (1 : Int32)), (.ref b1)]))
  have cq10 := f7
  obtain ⟨clq10, Arq10, qq10, Sq10, Nq10, Hq10, Gq10⟩ := cq10
  obtain ⟨T11, h11, X11, e11, W11, st11⟩ := stJ X9 hx hZ eq9 Arq10 (j := (1 : Int32)) (inb_of Sq10 ⟨by decide, by decide⟩) (g := (mkF m 47 #[.val (.int p0), .val (.long q1), .second, .val (.int p2), .val (.int p3), .val (.int p4), .val (.int sz), .val (.long o1), .second, .val (.ref b1), .unset, .unset, .unset, .unset, .unset, .unset, .unset, .unset, .unset] [(.long v1), (.int (1 : Int32)), (.ref b1)])) rfl rfl (hb hby at_47)
  refine OwnGo.of st11 ?_
  have N11 := Fr.snoc X11 N9 g_b1
  have f12 : n0 ≤ h11.size := Nat.le_trans f6 (Keep.of_wr W11).1
  have f13 : Arv Z h11 b1 k1 .long (8 : Int32) [(.long v0), (.long v1), (.long (0 : Int64)), (.long (0 : Int64)), (.long (0 : Int64)), (.long (0 : Int64)), (.long (0 : Int64)), (.long (0 : Int64))] (.long (0 : Int64)) := Arv.set Arq10 qq10 Sq10 Nq10 Hq10 Gq10 rfl W11 1 rfl (Nat.le_of_ble_eq_true rfl)
  show OwnGo p.tables e below _ (T11.setTop (mkF m 48 #[.val (.int p0), .val (.long q1), .second, .val (.int p2), .val (.int p3), .val (.int p4), .val (.int sz), .val (.long o1), .second, .val (.ref b1), .unset, .unset, .unset, .unset, .unset, .unset, .unset, .unset, .unset] []))
  refine OwnGo.of (A := T11.setTop (mkF m 48 #[.val (.int p0), .val (.long q1), .second, .val (.int p2), .val (.int p3), .val (.int p4), .val (.int sz), .val (.long o1), .second, .val (.ref b1), .unset, .unset, .unset, .unset, .unset, .unset, .unset, .unset, .unset] [])) (B := T11.setTop (mkF m 54 #[.val (.int p0), .val (.long q1), .second, .val (.int p2), .val (.int p3), .val (.int p4), .val (.int sz), .val (.long o1), .second, .val (.ref b1), .unset, .unset, .unset, .unset, .unset, .unset, .unset, .unset, .unset] [(.int (0 : Int32)), (.ref b1), (.int (2 : Int32)), (.ref b1)])) (fun t k => ?_) ?_
  · show Steps p.tables e below (T11.setTop (mkF m 48 #[.val (.int p0), .val (.long q1), .second, .val (.int p2), .val (.int p3), .val (.int p4), .val (.int sz), .val (.long o1), .second, .val (.ref b1), .unset, .unset, .unset, .unset, .unset, .unset, .unset, .unset, .unset] [])) t
    refine XS.aload X11.here hx rfl (hb hby at_48) rfl rfl ?_
    refine XS.iconst X11.here hx rfl (hb hby at_50) ?_
    refine XS.aload X11.here hx rfl (hb hby at_51) rfl rfl ?_
    refine XS.iconst X11.here hx rfl (hb hby at_53) ?_
    exact k
  have cq14 := f13
  obtain ⟨clq14, Arq14, qq14, Sq14, Nq14, Hq14, Gq14⟩ := cq14
  have hinq14 := inb_of (j := (0 : Int32)) Sq14 ⟨by decide, by decide⟩
  refine OwnGo.of (X11.laload hx (j := (0 : Int32)) (v := (.long v0)) (by rw [e11]; exact Arq14.1) (State.isArrayOf_alike hZ.alike Arq14.2.1) Arq14.2.2 hinq14 (Hq14.at hinq14 rfl) (g := (mkF m 54 #[.val (.int p0), .val (.long q1), .second, .val (.int p2), .val (.int p3), .val (.int p4), .val (.int sz), .val (.long o1), .second, .val (.ref b1), .unset, .unset, .unset, .unset, .unset, .unset, .unset, .unset, .unset] [(.int (0 : Int32)), (.ref b1), (.int (2 : Int32)), (.ref b1)])) rfl rfl (hb hby at_54)) ?_
  show OwnGo p.tables e below _ (T11.setTop (mkF m 55 #[.val (.int p0), .val (.long q1), .second, .val (.int p2), .val (.int p3), .val (.int p4), .val (.int sz), .val (.long o1), .second, .val (.ref b1), .unset, .unset, .unset, .unset, .unset, .unset, .unset, .unset, .unset] [(.long v0), (.int (2 : Int32)), (.ref b1)]))
  refine OwnGo.of (A := T11.setTop (mkF m 55 #[.val (.int p0), .val (.long q1), .second, .val (.int p2), .val (.int p3), .val (.int p4), .val (.int sz), .val (.long o1), .second, .val (.ref b1), .unset, .unset, .unset, .unset, .unset, .unset, .unset, .unset, .unset] [(.long v0), (.int (2 : Int32)), (.ref b1)])) (B := T11.setTop (mkF m 57 #[.val (.int p0), .val (.long q1), .second, .val (.int p2), .val (.int p3), .val (.int p4), .val (.int sz), .val (.long o1), .second, .val (.ref b1), .unset, .unset, .unset, .unset, .unset, .unset, .unset, .unset, .unset] [(.int (1 : Int32)), (.long q1), (.long v0), (.int (2 : Int32)), (.ref b1)])) (fun t k => ?_) ?_
  · show Steps p.tables e below (T11.setTop (mkF m 55 #[.val (.int p0), .val (.long q1), .second, .val (.int p2), .val (.int p3), .val (.int p4), .val (.int sz), .val (.long o1), .second, .val (.ref b1), .unset, .unset, .unset, .unset, .unset, .unset, .unset, .unset, .unset] [(.long v0), (.int (2 : Int32)), (.ref b1)])) t
    refine XS.lloadN X11.here hx rfl (hb hby at_55) rfl ?_
    refine XS.iconst X11.here hx rfl (hb hby at_56) ?_
    exact k
  obtain ⟨T15, L15, v15, X15, hQ15, st15⟩ := own_callS X11 hx (y := (⟨"com/example/rankwright/rankwright/rank/AccumulatorSiftDownPinLaw", "inc", "(JI)J"⟩ : MethodName)) hown (mvT hZ (hw _ (List.mem_of_getElem? (i := 1) rfl))) (mvT hZ (hw _ (List.mem_of_getElem? (i := 2) rfl))) (mvT hZ (hw _ (List.mem_of_getElem? (i := 3) rfl))) (mvT hZ (hw _ (List.mem_of_getElem? (i := 4) rfl))) (by decide) (backOf (W := 4) (rm1 l Z aw hw [] q1 (1 : Int32)  h11 n0 f12 ) hZ (hw _ (List.mem_of_getElem? (i := 4) rfl)) (hw _ (List.mem_of_getElem? (i := 3) rfl)) (by decide) (by decide)) (g := (mkF m 57 #[.val (.int p0), .val (.long q1), .second, .val (.int p2), .val (.int p3), .val (.int p4), .val (.int sz), .val (.long o1), .second, .val (.ref b1), .unset, .unset, .unset, .unset, .unset, .unset, .unset, .unset, .unset] [(.int (1 : Int32)), (.long q1), (.long v0), (.int (2 : Int32)), (.ref b1)])) rfl (by rw [hml]; rfl) (argsL := [(.long q1), (.int (1 : Int32))]) (rest := [(.long v0), (.int (2 : Int32)), (.ref b1)]) (lenOf pd_3 rfl) rfl (by show 2 * 0 + _ ≤ _; exact Nat.le_of_eq rfl) (hb hby at_57) rfl e11 (by decide) (by decide)
  obtain ⟨rfl, N15q, eq15⟩ := hQ15
  have N15 := Fr.app N11 N15q
  refine OwnGo.of st15 ?_
  show OwnGo p.tables e below _ (T15.setTop (mkF m 60 #[.val (.int p0), .val (.long q1), .second, .val (.int p2), .val (.int p3), .val (.int p4), .val (.int sz), .val (.long o1), .second, .val (.ref b1), .unset, .unset, .unset, .unset, .unset, .unset, .unset, .unset, .unset] [(.long (own_inc q1 (1 : Int32))), (.long v0), (.int (2 : Int32)), (.ref b1)]))
  refine OwnGo.of (A := T15.setTop (mkF m 60 #[.val (.int p0), .val (.long q1), .second, .val (.int p2), .val (.int p3), .val (.int p4), .val (.int sz), .val (.long o1), .second, .val (.ref b1), .unset, .unset, .unset, .unset, .unset, .unset, .unset, .unset, .unset] [(.long (own_inc q1 (1 : Int32))), (.long v0), (.int (2 : Int32)), (.ref b1)])) (B := T15.setTop (mkF m 61 #[.val (.int p0), .val (.long q1), .second, .val (.int p2), .val (.int p3), .val (.int p4), .val (.int sz), .val (.long o1), .second, .val (.ref b1), .unset, .unset, .unset, .unset, .unset, .unset, .unset, .unset, .unset] [(.long (v0 + (own_inc q1 (1 : Int32)))), (.int (2 : Int32)), (.ref b1)])) (fun t k => ?_) ?_
  · show Steps p.tables e below (T15.setTop (mkF m 60 #[.val (.int p0), .val (.long q1), .second, .val (.int p2), .val (.int p3), .val (.int p4), .val (.int sz), .val (.long o1), .second, .val (.ref b1), .unset, .unset, .unset, .unset, .unset, .unset, .unset, .unset, .unset] [(.long (own_inc q1 (1 : Int32))), (.long v0), (.int (2 : Int32)), (.ref b1)])) t
    refine XS.ladd X15.here hx rfl (hb hby at_60) rfl ?_
    exact k
  obtain ⟨v2, qv2⟩ : ∃ z, z = (v0 + (own_inc q1 (1 : Int32))) := ⟨_, rfl⟩
  have w2 : v0.toInt ≤ v2.toInt ∧ v2.toInt ≤ v0.toInt + 7 := by subst qv2; exact own_vn _ _ _ (by omega)
  rw [← qv2]
  show OwnGo p.tables e below _ (T15.setTop (mkF m 61 #[.val (.int p0), .val (.long q1), .second, .val (.int p2), .val (.int p3), .val (.int p4), .val (.int sz), .val (.long o1), .second, .val (.ref b1), .unset, .unset, .unset, .unset, .unset, .unset, .unset, .unset, .unset] [(.long v2), (.int (2 : Int32)), (.ref b1)]))
  have cq16 := f13
  obtain ⟨clq16, Arq16, qq16, Sq16, Nq16, Hq16, Gq16⟩ := cq16
  obtain ⟨T17, h17, X17, e17, W17, st17⟩ := stJ X15 hx hZ eq15 Arq16 (j := (2 : Int32)) (inb_of Sq16 ⟨by decide, by decide⟩) (g := (mkF m 61 #[.val (.int p0), .val (.long q1), .second, .val (.int p2), .val (.int p3), .val (.int p4), .val (.int sz), .val (.long o1), .second, .val (.ref b1), .unset, .unset, .unset, .unset, .unset, .unset, .unset, .unset, .unset] [(.long v2), (.int (2 : Int32)), (.ref b1)])) rfl rfl (hb hby at_61)
  refine OwnGo.of st17 ?_
  have N17 := Fr.snoc X17 N15 g_b1
  have f18 : n0 ≤ h17.size := Nat.le_trans f12 (Keep.of_wr W17).1
  have f19 : Arv Z h17 b1 k1 .long (8 : Int32) [(.long v0), (.long v1), (.long v2), (.long (0 : Int64)), (.long (0 : Int64)), (.long (0 : Int64)), (.long (0 : Int64)), (.long (0 : Int64))] (.long (0 : Int64)) := Arv.set Arq16 qq16 Sq16 Nq16 Hq16 Gq16 rfl W17 2 rfl (Nat.le_of_ble_eq_true rfl)
  show OwnGo p.tables e below _ (T17.setTop (mkF m 62 #[.val (.int p0), .val (.long q1), .second, .val (.int p2), .val (.int p3), .val (.int p4), .val (.int sz), .val (.long o1), .second, .val (.ref b1), .unset, .unset, .unset, .unset, .unset, .unset, .unset, .unset, .unset] []))
  refine OwnGo.of (A := T17.setTop (mkF m 62 #[.val (.int p0), .val (.long q1), .second, .val (.int p2), .val (.int p3), .val (.int p4), .val (.int sz), .val (.long o1), .second, .val (.ref b1), .unset, .unset, .unset, .unset, .unset, .unset, .unset, .unset, .unset] [])) (B := T17.setTop (mkF m 68 #[.val (.int p0), .val (.long q1), .second, .val (.int p2), .val (.int p3), .val (.int p4), .val (.int sz), .val (.long o1), .second, .val (.ref b1), .unset, .unset, .unset, .unset, .unset, .unset, .unset, .unset, .unset] [(.int (1 : Int32)), (.ref b1), (.int (3 : Int32)), (.ref b1)])) (fun t k => ?_) ?_
  · show Steps p.tables e below (T17.setTop (mkF m 62 #[.val (.int p0), .val (.long q1), .second, .val (.int p2), .val (.int p3), .val (.int p4), .val (.int sz), .val (.long o1), .second, .val (.ref b1), .unset, .unset, .unset, .unset, .unset, .unset, .unset, .unset, .unset] [])) t
    refine XS.aload X17.here hx rfl (hb hby at_62) rfl rfl ?_
    refine XS.iconst X17.here hx rfl (hb hby at_64) ?_
    refine XS.aload X17.here hx rfl (hb hby at_65) rfl rfl ?_
    refine XS.iconst X17.here hx rfl (hb hby at_67) ?_
    exact k
  have cq20 := f19
  obtain ⟨clq20, Arq20, qq20, Sq20, Nq20, Hq20, Gq20⟩ := cq20
  have hinq20 := inb_of (j := (1 : Int32)) Sq20 ⟨by decide, by decide⟩
  refine OwnGo.of (X17.laload hx (j := (1 : Int32)) (v := (.long v1)) (by rw [e17]; exact Arq20.1) (State.isArrayOf_alike hZ.alike Arq20.2.1) Arq20.2.2 hinq20 (Hq20.at hinq20 rfl) (g := (mkF m 68 #[.val (.int p0), .val (.long q1), .second, .val (.int p2), .val (.int p3), .val (.int p4), .val (.int sz), .val (.long o1), .second, .val (.ref b1), .unset, .unset, .unset, .unset, .unset, .unset, .unset, .unset, .unset] [(.int (1 : Int32)), (.ref b1), (.int (3 : Int32)), (.ref b1)])) rfl rfl (hb hby at_68)) ?_
  show OwnGo p.tables e below _ (T17.setTop (mkF m 69 #[.val (.int p0), .val (.long q1), .second, .val (.int p2), .val (.int p3), .val (.int p4), .val (.int sz), .val (.long o1), .second, .val (.ref b1), .unset, .unset, .unset, .unset, .unset, .unset, .unset, .unset, .unset] [(.long v1), (.int (3 : Int32)), (.ref b1)]))
  refine OwnGo.of (A := T17.setTop (mkF m 69 #[.val (.int p0), .val (.long q1), .second, .val (.int p2), .val (.int p3), .val (.int p4), .val (.int sz), .val (.long o1), .second, .val (.ref b1), .unset, .unset, .unset, .unset, .unset, .unset, .unset, .unset, .unset] [(.long v1), (.int (3 : Int32)), (.ref b1)])) (B := T17.setTop (mkF m 71 #[.val (.int p0), .val (.long q1), .second, .val (.int p2), .val (.int p3), .val (.int p4), .val (.int sz), .val (.long o1), .second, .val (.ref b1), .unset, .unset, .unset, .unset, .unset, .unset, .unset, .unset, .unset] [(.int (2 : Int32)), (.long q1), (.long v1), (.int (3 : Int32)), (.ref b1)])) (fun t k => ?_) ?_
  · show Steps p.tables e below (T17.setTop (mkF m 69 #[.val (.int p0), .val (.long q1), .second, .val (.int p2), .val (.int p3), .val (.int p4), .val (.int sz), .val (.long o1), .second, .val (.ref b1), .unset, .unset, .unset, .unset, .unset, .unset, .unset, .unset, .unset] [(.long v1), (.int (3 : Int32)), (.ref b1)])) t
    refine XS.lloadN X17.here hx rfl (hb hby at_69) rfl ?_
    refine XS.iconst X17.here hx rfl (hb hby at_70) ?_
    exact k
  obtain ⟨T21, L21, v21, X21, hQ21, st21⟩ := own_callS X17 hx (y := (⟨"com/example/rankwright/rankwright/rank/AccumulatorSiftDownPinLaw", "inc", "(JI)J"⟩ : MethodName)) hown (mvT hZ (hw _ (List.mem_of_getElem? (i := 1) rfl))) (mvT hZ (hw _ (List.mem_of_getElem? (i := 2) rfl))) (mvT hZ (hw _ (List.mem_of_getElem? (i := 3) rfl))) (mvT hZ (hw _ (List.mem_of_getElem? (i := 4) rfl))) (by decide) (backOf (W := 4) (rm1 l Z aw hw [] q1 (2 : Int32)  h17 n0 f18 ) hZ (hw _ (List.mem_of_getElem? (i := 4) rfl)) (hw _ (List.mem_of_getElem? (i := 3) rfl)) (by decide) (by decide)) (g := (mkF m 71 #[.val (.int p0), .val (.long q1), .second, .val (.int p2), .val (.int p3), .val (.int p4), .val (.int sz), .val (.long o1), .second, .val (.ref b1), .unset, .unset, .unset, .unset, .unset, .unset, .unset, .unset, .unset] [(.int (2 : Int32)), (.long q1), (.long v1), (.int (3 : Int32)), (.ref b1)])) rfl (by rw [hml]; rfl) (argsL := [(.long q1), (.int (2 : Int32))]) (rest := [(.long v1), (.int (3 : Int32)), (.ref b1)]) (lenOf pd_3 rfl) rfl (by show 2 * 0 + _ ≤ _; exact Nat.le_of_eq rfl) (hb hby at_71) rfl e17 (by decide) (by decide)
  obtain ⟨rfl, N21q, eq21⟩ := hQ21
  have N21 := Fr.app N17 N21q
  refine OwnGo.of st21 ?_
  show OwnGo p.tables e below _ (T21.setTop (mkF m 74 #[.val (.int p0), .val (.long q1), .second, .val (.int p2), .val (.int p3), .val (.int p4), .val (.int sz), .val (.long o1), .second, .val (.ref b1), .unset, .unset, .unset, .unset, .unset, .unset, .unset, .unset, .unset] [(.long (own_inc q1 (2 : Int32))), (.long v1), (.int (3 : Int32)), (.ref b1)]))
  refine OwnGo.of (A := T21.setTop (mkF m 74 #[.val (.int p0), .val (.long q1), .second, .val (.int p2), .val (.int p3), .val (.int p4), .val (.int sz), .val (.long o1), .second, .val (.ref b1), .unset, .unset, .unset, .unset, .unset, .unset, .unset, .unset, .unset] [(.long (own_inc q1 (2 : Int32))), (.long v1), (.int (3 : Int32)), (.ref b1)])) (B := T21.setTop (mkF m 75 #[.val (.int p0), .val (.long q1), .second, .val (.int p2), .val (.int p3), .val (.int p4), .val (.int sz), .val (.long o1), .second, .val (.ref b1), .unset, .unset, .unset, .unset, .unset, .unset, .unset, .unset, .unset] [(.long (v1 + (own_inc q1 (2 : Int32)))), (.int (3 : Int32)), (.ref b1)])) (fun t k => ?_) ?_
  · show Steps p.tables e below (T21.setTop (mkF m 74 #[.val (.int p0), .val (.long q1), .second, .val (.int p2), .val (.int p3), .val (.int p4), .val (.int sz), .val (.long o1), .second, .val (.ref b1), .unset, .unset, .unset, .unset, .unset, .unset, .unset, .unset, .unset] [(.long (own_inc q1 (2 : Int32))), (.long v1), (.int (3 : Int32)), (.ref b1)])) t
    refine XS.ladd X21.here hx rfl (hb hby at_74) rfl ?_
    exact k
  obtain ⟨v3, qv3⟩ : ∃ z, z = (v1 + (own_inc q1 (2 : Int32))) := ⟨_, rfl⟩
  have w3 : v1.toInt ≤ v3.toInt ∧ v3.toInt ≤ v1.toInt + 7 := by subst qv3; exact own_vn _ _ _ (by omega)
  rw [← qv3]
  show OwnGo p.tables e below _ (T21.setTop (mkF m 75 #[.val (.int p0), .val (.long q1), .second, .val (.int p2), .val (.int p3), .val (.int p4), .val (.int sz), .val (.long o1), .second, .val (.ref b1), .unset, .unset, .unset, .unset, .unset, .unset, .unset, .unset, .unset] [(.long v3), (.int (3 : Int32)), (.ref b1)]))
  have cq22 := f19
  obtain ⟨clq22, Arq22, qq22, Sq22, Nq22, Hq22, Gq22⟩ := cq22
  obtain ⟨T23, h23, X23, e23, W23, st23⟩ := stJ X21 hx hZ eq21 Arq22 (j := (3 : Int32)) (inb_of Sq22 ⟨by decide, by decide⟩) (g := (mkF m 75 #[.val (.int p0), .val (.long q1), .second, .val (.int p2), .val (.int p3), .val (.int p4), .val (.int sz), .val (.long o1), .second, .val (.ref b1), .unset, .unset, .unset, .unset, .unset, .unset, .unset, .unset, .unset] [(.long v3), (.int (3 : Int32)), (.ref b1)])) rfl rfl (hb hby at_75)
  refine OwnGo.of st23 ?_
  have N23 := Fr.snoc X23 N21 g_b1
  have f24 : n0 ≤ h23.size := Nat.le_trans f18 (Keep.of_wr W23).1
  have f25 : Arv Z h23 b1 k1 .long (8 : Int32) [(.long v0), (.long v1), (.long v2), (.long v3), (.long (0 : Int64)), (.long (0 : Int64)), (.long (0 : Int64)), (.long (0 : Int64))] (.long (0 : Int64)) := Arv.set Arq22 qq22 Sq22 Nq22 Hq22 Gq22 rfl W23 3 rfl (Nat.le_of_ble_eq_true rfl)
  show OwnGo p.tables e below _ (T23.setTop (mkF m 76 #[.val (.int p0), .val (.long q1), .second, .val (.int p2), .val (.int p3), .val (.int p4), .val (.int sz), .val (.long o1), .second, .val (.ref b1), .unset, .unset, .unset, .unset, .unset, .unset, .unset, .unset, .unset] []))
  refine OwnGo.of (A := T23.setTop (mkF m 76 #[.val (.int p0), .val (.long q1), .second, .val (.int p2), .val (.int p3), .val (.int p4), .val (.int sz), .val (.long o1), .second, .val (.ref b1), .unset, .unset, .unset, .unset, .unset, .unset, .unset, .unset, .unset] [])) (B := T23.setTop (mkF m 82 #[.val (.int p0), .val (.long q1), .second, .val (.int p2), .val (.int p3), .val (.int p4), .val (.int sz), .val (.long o1), .second, .val (.ref b1), .unset, .unset, .unset, .unset, .unset, .unset, .unset, .unset, .unset] [(.int (1 : Int32)), (.ref b1), (.int (4 : Int32)), (.ref b1)])) (fun t k => ?_) ?_
  · show Steps p.tables e below (T23.setTop (mkF m 76 #[.val (.int p0), .val (.long q1), .second, .val (.int p2), .val (.int p3), .val (.int p4), .val (.int sz), .val (.long o1), .second, .val (.ref b1), .unset, .unset, .unset, .unset, .unset, .unset, .unset, .unset, .unset] [])) t
    refine XS.aload X23.here hx rfl (hb hby at_76) rfl rfl ?_
    refine XS.iconst X23.here hx rfl (hb hby at_78) ?_
    refine XS.aload X23.here hx rfl (hb hby at_79) rfl rfl ?_
    refine XS.iconst X23.here hx rfl (hb hby at_81) ?_
    exact k
  have cq26 := f25
  obtain ⟨clq26, Arq26, qq26, Sq26, Nq26, Hq26, Gq26⟩ := cq26
  have hinq26 := inb_of (j := (1 : Int32)) Sq26 ⟨by decide, by decide⟩
  refine OwnGo.of (X23.laload hx (j := (1 : Int32)) (v := (.long v1)) (by rw [e23]; exact Arq26.1) (State.isArrayOf_alike hZ.alike Arq26.2.1) Arq26.2.2 hinq26 (Hq26.at hinq26 rfl) (g := (mkF m 82 #[.val (.int p0), .val (.long q1), .second, .val (.int p2), .val (.int p3), .val (.int p4), .val (.int sz), .val (.long o1), .second, .val (.ref b1), .unset, .unset, .unset, .unset, .unset, .unset, .unset, .unset, .unset] [(.int (1 : Int32)), (.ref b1), (.int (4 : Int32)), (.ref b1)])) rfl rfl (hb hby at_82)) ?_
  show OwnGo p.tables e below _ (T23.setTop (mkF m 83 #[.val (.int p0), .val (.long q1), .second, .val (.int p2), .val (.int p3), .val (.int p4), .val (.int sz), .val (.long o1), .second, .val (.ref b1), .unset, .unset, .unset, .unset, .unset, .unset, .unset, .unset, .unset] [(.long v1), (.int (4 : Int32)), (.ref b1)]))
  refine OwnGo.of (A := T23.setTop (mkF m 83 #[.val (.int p0), .val (.long q1), .second, .val (.int p2), .val (.int p3), .val (.int p4), .val (.int sz), .val (.long o1), .second, .val (.ref b1), .unset, .unset, .unset, .unset, .unset, .unset, .unset, .unset, .unset] [(.long v1), (.int (4 : Int32)), (.ref b1)])) (B := T23.setTop (mkF m 85 #[.val (.int p0), .val (.long q1), .second, .val (.int p2), .val (.int p3), .val (.int p4), .val (.int sz), .val (.long o1), .second, .val (.ref b1), .unset, .unset, .unset, .unset, .unset, .unset, .unset, .unset, .unset] [(.int (3 : Int32)), (.long q1), (.long v1), (.int (4 : Int32)), (.ref b1)])) (fun t k => ?_) ?_
  · show Steps p.tables e below (T23.setTop (mkF m 83 #[.val (.int p0), .val (.long q1), .second, .val (.int p2), .val (.int p3), .val (.int p4), .val (.int sz), .val (.long o1), .second, .val (.ref b1), .unset, .unset, .unset, .unset, .unset, .unset, .unset, .unset, .unset] [(.long v1), (.int (4 : Int32)), (.ref b1)])) t
    refine XS.lloadN X23.here hx rfl (hb hby at_83) rfl ?_
    refine XS.iconst X23.here hx rfl (hb hby at_84) ?_
    exact k
  obtain ⟨T27, L27, v27, X27, hQ27, st27⟩ := own_callS X23 hx (y := (⟨"com/example/rankwright/rankwright/rank/AccumulatorSiftDownPinLaw", "inc", "(JI)J"⟩ : MethodName)) hown (mvT hZ (hw _ (List.mem_of_getElem? (i := 1) rfl))) (mvT hZ (hw _ (List.mem_of_getElem? (i := 2) rfl))) (mvT hZ (hw _ (List.mem_of_getElem? (i := 3) rfl))) (mvT hZ (hw _ (List.mem_of_getElem? (i := 4) rfl))) (by decide) (backOf (W := 4) (rm1 l Z aw hw [] q1 (3 : Int32)  h23 n0 f24 ) hZ (hw _ (List.mem_of_getElem? (i := 4) rfl)) (hw _ (List.mem_of_getElem? (i := 3) rfl)) (by decide) (by decide)) (g := (mkF m 85 #[.val (.int p0), .val (.long q1), .second, .val (.int p2), .val (.int p3), .val (.int p4), .val (.int sz), .val (.long o1), .second, .val (.ref b1), .unset, .unset, .unset, .unset, .unset, .unset, .unset, .unset, .unset] [(.int (3 : Int32)), (.long q1), (.long v1), (.int (4 : Int32)), (.ref b1)])) rfl (by rw [hml]; rfl) (argsL := [(.long q1), (.int (3 : Int32))]) (rest := [(.long v1), (.int (4 : Int32)), (.ref b1)]) (lenOf pd_3 rfl) rfl (by show 2 * 0 + _ ≤ _; exact Nat.le_of_eq rfl) (hb hby at_85) rfl e23 (by decide) (by decide)
  obtain ⟨rfl, N27q, eq27⟩ := hQ27
  have N27 := Fr.app N23 N27q
  refine OwnGo.of st27 ?_
  show OwnGo p.tables e below _ (T27.setTop (mkF m 88 #[.val (.int p0), .val (.long q1), .second, .val (.int p2), .val (.int p3), .val (.int p4), .val (.int sz), .val (.long o1), .second, .val (.ref b1), .unset, .unset, .unset, .unset, .unset, .unset, .unset, .unset, .unset] [(.long (own_inc q1 (3 : Int32))), (.long v1), (.int (4 : Int32)), (.ref b1)]))
  refine OwnGo.of (A := T27.setTop (mkF m 88 #[.val (.int p0), .val (.long q1), .second, .val (.int p2), .val (.int p3), .val (.int p4), .val (.int sz), .val (.long o1), .second, .val (.ref b1), .unset, .unset, .unset, .unset, .unset, .unset, .unset, .unset, .unset] [(.long (own_inc q1 (3 : Int32))), (.long v1), (.int (4 : Int32)), (.ref b1)])) (B := T27.setTop (mkF m 89 #[.val (.int p0), .val (.long q1), .second, .val (.int p2), .val (.int p3), .val (.int p4), .val (.int sz), .val (.long o1), .second, .val (.ref b1), .unset, .unset, .unset, .unset, .unset, .unset, .unset, .unset, .unset] [(.long (v1 + (own_inc q1 (3 : Int32)))), (.int (4 : Int32)), (.ref b1)])) (fun t k => ?_) ?_
  · show Steps p.tables e below (T27.setTop (mkF m 88 #[.val (.int p0), .val (.long q1), .second, .val (.int p2), .val (.int p3), .val (.int p4), .val (.int sz), .val (.long o1), .second, .val (.ref b1), .unset, .unset, .unset, .unset, .unset, .unset, .unset, .unset, .unset] [(.long (own_inc q1 (3 : Int32))), (.long v1), (.int (4 : Int32)), (.ref b1)])) t
    refine XS.ladd X27.here hx rfl (hb hby at_88) rfl ?_
    exact k
  obtain ⟨v4, qv4⟩ : ∃ z, z = (v1 + (own_inc q1 (3 : Int32))) := ⟨_, rfl⟩
  have w4 : v1.toInt ≤ v4.toInt ∧ v4.toInt ≤ v1.toInt + 7 := by subst qv4; exact own_vn _ _ _ (by omega)
  rw [← qv4]
  show OwnGo p.tables e below _ (T27.setTop (mkF m 89 #[.val (.int p0), .val (.long q1), .second, .val (.int p2), .val (.int p3), .val (.int p4), .val (.int sz), .val (.long o1), .second, .val (.ref b1), .unset, .unset, .unset, .unset, .unset, .unset, .unset, .unset, .unset] [(.long v4), (.int (4 : Int32)), (.ref b1)]))
  have cq28 := f25
  obtain ⟨clq28, Arq28, qq28, Sq28, Nq28, Hq28, Gq28⟩ := cq28
  obtain ⟨T29, h29, X29, e29, W29, st29⟩ := stJ X27 hx hZ eq27 Arq28 (j := (4 : Int32)) (inb_of Sq28 ⟨by decide, by decide⟩) (g := (mkF m 89 #[.val (.int p0), .val (.long q1), .second, .val (.int p2), .val (.int p3), .val (.int p4), .val (.int sz), .val (.long o1), .second, .val (.ref b1), .unset, .unset, .unset, .unset, .unset, .unset, .unset, .unset, .unset] [(.long v4), (.int (4 : Int32)), (.ref b1)])) rfl rfl (hb hby at_89)
  refine OwnGo.of st29 ?_
  have N29 := Fr.snoc X29 N27 g_b1
  have f30 : n0 ≤ h29.size := Nat.le_trans f24 (Keep.of_wr W29).1
  have f31 : Arv Z h29 b1 k1 .long (8 : Int32) [(.long v0), (.long v1), (.long v2), (.long v3), (.long v4), (.long (0 : Int64)), (.long (0 : Int64)), (.long (0 : Int64))] (.long (0 : Int64)) := Arv.set Arq28 qq28 Sq28 Nq28 Hq28 Gq28 rfl W29 4 rfl (Nat.le_of_ble_eq_true rfl)
  show OwnGo p.tables e below _ (T29.setTop (mkF m 90 #[.val (.int p0), .val (.long q1), .second, .val (.int p2), .val (.int p3), .val (.int p4), .val (.int sz), .val (.long o1), .second, .val (.ref b1), .unset, .unset, .unset, .unset, .unset, .unset, .unset, .unset, .unset] []))
  refine OwnGo.of (A := T29.setTop (mkF m 90 #[.val (.int p0), .val (.long q1), .second, .val (.int p2), .val (.int p3), .val (.int p4), .val (.int sz), .val (.long o1), .second, .val (.ref b1), .unset, .unset, .unset, .unset, .unset, .unset, .unset, .unset, .unset] [])) (B := T29.setTop (mkF m 96 #[.val (.int p0), .val (.long q1), .second, .val (.int p2), .val (.int p3), .val (.int p4), .val (.int sz), .val (.long o1), .second, .val (.ref b1), .unset, .unset, .unset, .unset, .unset, .unset, .unset, .unset, .unset] [(.int (2 : Int32)), (.ref b1), (.int (5 : Int32)), (.ref b1)])) (fun t k => ?_) ?_
  · show Steps p.tables e below (T29.setTop (mkF m 90 #[.val (.int p0), .val (.long q1), .second, .val (.int p2), .val (.int p3), .val (.int p4), .val (.int sz), .val (.long o1), .second, .val (.ref b1), .unset, .unset, .unset, .unset, .unset, .unset, .unset, .unset, .unset] [])) t
    refine XS.aload X29.here hx rfl (hb hby at_90) rfl rfl ?_
    refine XS.iconst X29.here hx rfl (hb hby at_92) ?_
    refine XS.aload X29.here hx rfl (hb hby at_93) rfl rfl ?_
    refine XS.iconst X29.here hx rfl (hb hby at_95) ?_
    exact k
  have cq32 := f31
  obtain ⟨clq32, Arq32, qq32, Sq32, Nq32, Hq32, Gq32⟩ := cq32
  have hinq32 := inb_of (j := (2 : Int32)) Sq32 ⟨by decide, by decide⟩
  refine OwnGo.of (X29.laload hx (j := (2 : Int32)) (v := (.long v2)) (by rw [e29]; exact Arq32.1) (State.isArrayOf_alike hZ.alike Arq32.2.1) Arq32.2.2 hinq32 (Hq32.at hinq32 rfl) (g := (mkF m 96 #[.val (.int p0), .val (.long q1), .second, .val (.int p2), .val (.int p3), .val (.int p4), .val (.int sz), .val (.long o1), .second, .val (.ref b1), .unset, .unset, .unset, .unset, .unset, .unset, .unset, .unset, .unset] [(.int (2 : Int32)), (.ref b1), (.int (5 : Int32)), (.ref b1)])) rfl rfl (hb hby at_96)) ?_
  show OwnGo p.tables e below _ (T29.setTop (mkF m 97 #[.val (.int p0), .val (.long q1), .second, .val (.int p2), .val (.int p3), .val (.int p4), .val (.int sz), .val (.long o1), .second, .val (.ref b1), .unset, .unset, .unset, .unset, .unset, .unset, .unset, .unset, .unset] [(.long v2), (.int (5 : Int32)), (.ref b1)]))
  refine OwnGo.of (A := T29.setTop (mkF m 97 #[.val (.int p0), .val (.long q1), .second, .val (.int p2), .val (.int p3), .val (.int p4), .val (.int sz), .val (.long o1), .second, .val (.ref b1), .unset, .unset, .unset, .unset, .unset, .unset, .unset, .unset, .unset] [(.long v2), (.int (5 : Int32)), (.ref b1)])) (B := T29.setTop (mkF m 99 #[.val (.int p0), .val (.long q1), .second, .val (.int p2), .val (.int p3), .val (.int p4), .val (.int sz), .val (.long o1), .second, .val (.ref b1), .unset, .unset, .unset, .unset, .unset, .unset, .unset, .unset, .unset] [(.int (4 : Int32)), (.long q1), (.long v2), (.int (5 : Int32)), (.ref b1)])) (fun t k => ?_) ?_
  · show Steps p.tables e below (T29.setTop (mkF m 97 #[.val (.int p0), .val (.long q1), .second, .val (.int p2), .val (.int p3), .val (.int p4), .val (.int sz), .val (.long o1), .second, .val (.ref b1), .unset, .unset, .unset, .unset, .unset, .unset, .unset, .unset, .unset] [(.long v2), (.int (5 : Int32)), (.ref b1)])) t
    refine XS.lloadN X29.here hx rfl (hb hby at_97) rfl ?_
    refine XS.iconst X29.here hx rfl (hb hby at_98) ?_
    exact k
  obtain ⟨T33, L33, v33, X33, hQ33, st33⟩ := own_callS X29 hx (y := (⟨"com/example/rankwright/rankwright/rank/AccumulatorSiftDownPinLaw", "inc", "(JI)J"⟩ : MethodName)) hown (mvT hZ (hw _ (List.mem_of_getElem? (i := 1) rfl))) (mvT hZ (hw _ (List.mem_of_getElem? (i := 2) rfl))) (mvT hZ (hw _ (List.mem_of_getElem? (i := 3) rfl))) (mvT hZ (hw _ (List.mem_of_getElem? (i := 4) rfl))) (by decide) (backOf (W := 4) (rm1 l Z aw hw [] q1 (4 : Int32)  h29 n0 f30 ) hZ (hw _ (List.mem_of_getElem? (i := 4) rfl)) (hw _ (List.mem_of_getElem? (i := 3) rfl)) (by decide) (by decide)) (g := (mkF m 99 #[.val (.int p0), .val (.long q1), .second, .val (.int p2), .val (.int p3), .val (.int p4), .val (.int sz), .val (.long o1), .second, .val (.ref b1), .unset, .unset, .unset, .unset, .unset, .unset, .unset, .unset, .unset] [(.int (4 : Int32)), (.long q1), (.long v2), (.int (5 : Int32)), (.ref b1)])) rfl (by rw [hml]; rfl) (argsL := [(.long q1), (.int (4 : Int32))]) (rest := [(.long v2), (.int (5 : Int32)), (.ref b1)]) (lenOf pd_3 rfl) rfl (by show 2 * 0 + _ ≤ _; exact Nat.le_of_eq rfl) (hb hby at_99) rfl e29 (by decide) (by decide)
  obtain ⟨rfl, N33q, eq33⟩ := hQ33
  have N33 := Fr.app N29 N33q
  refine OwnGo.of st33 ?_
  show OwnGo p.tables e below _ (T33.setTop (mkF m 102 #[.val (.int p0), .val (.long q1), .second, .val (.int p2), .val (.int p3), .val (.int p4), .val (.int sz), .val (.long o1), .second, .val (.ref b1), .unset, .unset, .unset, .unset, .unset, .unset, .unset, .unset, .unset] [(.long (own_inc q1 (4 : Int32))), (.long v2), (.int (5 : Int32)), (.ref b1)]))
  refine OwnGo.of (A := T33.setTop (mkF m 102 #[.val (.int p0), .val (.long q1), .second, .val (.int p2), .val (.int p3), .val (.int p4), .val (.int sz), .val (.long o1), .second, .val (.ref b1), .unset, .unset, .unset, .unset, .unset, .unset, .unset, .unset, .unset] [(.long (own_inc q1 (4 : Int32))), (.long v2), (.int (5 : Int32)), (.ref b1)])) (B := T33.setTop (mkF m 103 #[.val (.int p0), .val (.long q1), .second, .val (.int p2), .val (.int p3), .val (.int p4), .val (.int sz), .val (.long o1), .second, .val (.ref b1), .unset, .unset, .unset, .unset, .unset, .unset, .unset, .unset, .unset] [(.long (v2 + (own_inc q1 (4 : Int32)))), (.int (5 : Int32)), (.ref b1)])) (fun t k => ?_) ?_
  · show Steps p.tables e below (T33.setTop (mkF m 102 #[.val (.int p0), .val (.long q1), .second, .val (.int p2), .val (.int p3), .val (.int p4), .val (.int sz), .val (.long o1), .second, .val (.ref b1), .unset, .unset, .unset, .unset, .unset, .unset, .unset, .unset, .unset] [(.long (own_inc q1 (4 : Int32))), (.long v2), (.int (5 : Int32)), (.ref b1)])) t
    refine XS.ladd X33.here hx rfl (hb hby at_102) rfl ?_
    exact k
  obtain ⟨v5, qv5⟩ : ∃ z, z = (v2 + (own_inc q1 (4 : Int32))) := ⟨_, rfl⟩
  have w5 : v2.toInt ≤ v5.toInt ∧ v5.toInt ≤ v2.toInt + 7 := by subst qv5; exact own_vn _ _ _ (by omega)
  rw [← qv5]
  show OwnGo p.tables e below _ (T33.setTop (mkF m 103 #[.val (.int p0), .val (.long q1), .second, .val (.int p2), .val (.int p3), .val (.int p4), .val (.int sz), .val (.long o1), .second, .val (.ref b1), .unset, .unset, .unset, .unset, .unset, .unset, .unset, .unset, .unset] [(.long v5), (.int (5 : Int32)), (.ref b1)]))
  have cq34 := f31
  obtain ⟨clq34, Arq34, qq34, Sq34, Nq34, Hq34, Gq34⟩ := cq34
  obtain ⟨T35, h35, X35, e35, W35, st35⟩ := stJ X33 hx hZ eq33 Arq34 (j := (5 : Int32)) (inb_of Sq34 ⟨by decide, by decide⟩) (g := (mkF m 103 #[.val (.int p0), .val (.long q1), .second, .val (.int p2), .val (.int p3), .val (.int p4), .val (.int sz), .val (.long o1), .second, .val (.ref b1), .unset, .unset, .unset, .unset, .unset, .unset, .unset, .unset, .unset] [(.long v5), (.int (5 : Int32)), (.ref b1)])) rfl rfl (hb hby at_103)
  refine OwnGo.of st35 ?_
  have N35 := Fr.snoc X35 N33 g_b1
  have f36 : n0 ≤ h35.size := Nat.le_trans f30 (Keep.of_wr W35).1
  have f37 : Arv Z h35 b1 k1 .long (8 : Int32) [(.long v0), (.long v1), (.long v2), (.long v3), (.long v4), (.long v5), (.long (0 : Int64)), (.long (0 : Int64))] (.long (0 : Int64)) := Arv.set Arq34 qq34 Sq34 Nq34 Hq34 Gq34 rfl W35 5 rfl (Nat.le_of_ble_eq_true rfl)
  show OwnGo p.tables e below _ (T35.setTop (mkF m 104 #[.val (.int p0), .val (.long q1), .second, .val (.int p2), .val (.int p3), .val (.int p4), .val (.int sz), .val (.long o1), .second, .val (.ref b1), .unset, .unset, .unset, .unset, .unset, .unset, .unset, .unset, .unset] []))
  refine OwnGo.of (A := T35.setTop (mkF m 104 #[.val (.int p0), .val (.long q1), .second, .val (.int p2), .val (.int p3), .val (.int p4), .val (.int sz), .val (.long o1), .second, .val (.ref b1), .unset, .unset, .unset, .unset, .unset, .unset, .unset, .unset, .unset] [])) (B := T35.setTop (mkF m 111 #[.val (.int p0), .val (.long q1), .second, .val (.int p2), .val (.int p3), .val (.int p4), .val (.int sz), .val (.long o1), .second, .val (.ref b1), .unset, .unset, .unset, .unset, .unset, .unset, .unset, .unset, .unset] [(.int (2 : Int32)), (.ref b1), (.int (6 : Int32)), (.ref b1)])) (fun t k => ?_) ?_
  · show Steps p.tables e below (T35.setTop (mkF m 104 #[.val (.int p0), .val (.long q1), .second, .val (.int p2), .val (.int p3), .val (.int p4), .val (.int sz), .val (.long o1), .second, .val (.ref b1), .unset, .unset, .unset, .unset, .unset, .unset, .unset, .unset, .unset] [])) t
    refine XS.aload X35.here hx rfl (hb hby at_104) rfl rfl ?_
    refine XS.bipush X35.here hx rfl (hb hby at_106) ?_
    refine XS.aload X35.here hx rfl (hb hby at_108) rfl rfl ?_
    refine XS.iconst X35.here hx rfl (hb hby at_110) ?_
    exact k
  have cq38 := f37
  obtain ⟨clq38, Arq38, qq38, Sq38, Nq38, Hq38, Gq38⟩ := cq38
  have hinq38 := inb_of (j := (2 : Int32)) Sq38 ⟨by decide, by decide⟩
  refine OwnGo.of (X35.laload hx (j := (2 : Int32)) (v := (.long v2)) (by rw [e35]; exact Arq38.1) (State.isArrayOf_alike hZ.alike Arq38.2.1) Arq38.2.2 hinq38 (Hq38.at hinq38 rfl) (g := (mkF m 111 #[.val (.int p0), .val (.long q1), .second, .val (.int p2), .val (.int p3), .val (.int p4), .val (.int sz), .val (.long o1), .second, .val (.ref b1), .unset, .unset, .unset, .unset, .unset, .unset, .unset, .unset, .unset] [(.int (2 : Int32)), (.ref b1), (.int (6 : Int32)), (.ref b1)])) rfl rfl (hb hby at_111)) ?_
  show OwnGo p.tables e below _ (T35.setTop (mkF m 112 #[.val (.int p0), .val (.long q1), .second, .val (.int p2), .val (.int p3), .val (.int p4), .val (.int sz), .val (.long o1), .second, .val (.ref b1), .unset, .unset, .unset, .unset, .unset, .unset, .unset, .unset, .unset] [(.long v2), (.int (6 : Int32)), (.ref b1)]))
  refine OwnGo.of (A := T35.setTop (mkF m 112 #[.val (.int p0), .val (.long q1), .second, .val (.int p2), .val (.int p3), .val (.int p4), .val (.int sz), .val (.long o1), .second, .val (.ref b1), .unset, .unset, .unset, .unset, .unset, .unset, .unset, .unset, .unset] [(.long v2), (.int (6 : Int32)), (.ref b1)])) (B := T35.setTop (mkF m 114 #[.val (.int p0), .val (.long q1), .second, .val (.int p2), .val (.int p3), .val (.int p4), .val (.int sz), .val (.long o1), .second, .val (.ref b1), .unset, .unset, .unset, .unset, .unset, .unset, .unset, .unset, .unset] [(.int (5 : Int32)), (.long q1), (.long v2), (.int (6 : Int32)), (.ref b1)])) (fun t k => ?_) ?_
  · show Steps p.tables e below (T35.setTop (mkF m 112 #[.val (.int p0), .val (.long q1), .second, .val (.int p2), .val (.int p3), .val (.int p4), .val (.int sz), .val (.long o1), .second, .val (.ref b1), .unset, .unset, .unset, .unset, .unset, .unset, .unset, .unset, .unset] [(.long v2), (.int (6 : Int32)), (.ref b1)])) t
    refine XS.lloadN X35.here hx rfl (hb hby at_112) rfl ?_
    refine XS.iconst X35.here hx rfl (hb hby at_113) ?_
    exact k
  obtain ⟨T39, L39, v39, X39, hQ39, st39⟩ := own_callS X35 hx (y := (⟨"com/example/rankwright/rankwright/rank/AccumulatorSiftDownPinLaw", "inc", "(JI)J"⟩ : MethodName)) hown (mvT hZ (hw _ (List.mem_of_getElem? (i := 1) rfl))) (mvT hZ (hw _ (List.mem_of_getElem? (i := 2) rfl))) (mvT hZ (hw _ (List.mem_of_getElem? (i := 3) rfl))) (mvT hZ (hw _ (List.mem_of_getElem? (i := 4) rfl))) (by decide) (backOf (W := 4) (rm1 l Z aw hw [] q1 (5 : Int32)  h35 n0 f36 ) hZ (hw _ (List.mem_of_getElem? (i := 4) rfl)) (hw _ (List.mem_of_getElem? (i := 3) rfl)) (by decide) (by decide)) (g := (mkF m 114 #[.val (.int p0), .val (.long q1), .second, .val (.int p2), .val (.int p3), .val (.int p4), .val (.int sz), .val (.long o1), .second, .val (.ref b1), .unset, .unset, .unset, .unset, .unset, .unset, .unset, .unset, .unset] [(.int (5 : Int32)), (.long q1), (.long v2), (.int (6 : Int32)), (.ref b1)])) rfl (by rw [hml]; rfl) (argsL := [(.long q1), (.int (5 : Int32))]) (rest := [(.long v2), (.int (6 : Int32)), (.ref b1)]) (lenOf pd_3 rfl) rfl (by show 2 * 0 + _ ≤ _; exact Nat.le_of_eq rfl) (hb hby at_114) rfl e35 (by decide) (by decide)
  obtain ⟨rfl, N39q, eq39⟩ := hQ39
  have N39 := Fr.app N35 N39q
  refine OwnGo.of st39 ?_
  show OwnGo p.tables e below _ (T39.setTop (mkF m 117 #[.val (.int p0), .val (.long q1), .second, .val (.int p2), .val (.int p3), .val (.int p4), .val (.int sz), .val (.long o1), .second, .val (.ref b1), .unset, .unset, .unset, .unset, .unset, .unset, .unset, .unset, .unset] [(.long (own_inc q1 (5 : Int32))), (.long v2), (.int (6 : Int32)), (.ref b1)]))
  refine OwnGo.of (A := T39.setTop (mkF m 117 #[.val (.int p0), .val (.long q1), .second, .val (.int p2), .val (.int p3), .val (.int p4), .val (.int sz), .val (.long o1), .second, .val (.ref b1), .unset, .unset, .unset, .unset, .unset, .unset, .unset, .unset, .unset] [(.long (own_inc q1 (5 : Int32))), (.long v2), (.int (6 : Int32)), (.ref b1)])) (B := T39.setTop (mkF m 118 #[.val (.int p0), .val (.long q1), .second, .val (.int p2), .val (.int p3), .val (.int p4), .val (.int sz), .val (.long o1), .second, .val (.ref b1), .unset, .unset, .unset, .unset, .unset, .unset, .unset, .unset, .unset] [(.long (v2 + (own_inc q1 (5 : Int32)))), (.int (6 : Int32)), (.ref b1)])) (fun t k => ?_) ?_
  · show Steps p.tables e below (T39.setTop (mkF m 117 #[.val (.int p0), .val (.long q1), .second, .val (.int p2), .val (.int p3), .val (.int p4), .val (.int sz), .val (.long o1), .second, .val (.ref b1), .unset, .unset, .unset, .unset, .unset, .unset, .unset, .unset, .unset] [(.long (own_inc q1 (5 : Int32))), (.long v2), (.int (6 : Int32)), (.ref b1)])) t
    refine XS.ladd X39.here hx rfl (hb hby at_117) rfl ?_
    exact k
  obtain ⟨v6, qv6⟩ : ∃ z, z = (v2 + (own_inc q1 (5 : Int32))) := ⟨_, rfl⟩
  have w6 : v2.toInt ≤ v6.toInt ∧ v6.toInt ≤ v2.toInt + 7 := by subst qv6; exact own_vn _ _ _ (by omega)
  rw [← qv6]
  show OwnGo p.tables e below _ (T39.setTop (mkF m 118 #[.val (.int p0), .val (.long q1), .second, .val (.int p2), .val (.int p3), .val (.int p4), .val (.int sz), .val (.long o1), .second, .val (.ref b1), .unset, .unset, .unset, .unset, .unset, .unset, .unset, .unset, .unset] [(.long v6), (.int (6 : Int32)), (.ref b1)]))
  have cq40 := f37
  obtain ⟨clq40, Arq40, qq40, Sq40, Nq40, Hq40, Gq40⟩ := cq40
  obtain ⟨T41, h41, X41, e41, W41, st41⟩ := stJ X39 hx hZ eq39 Arq40 (j := (6 : Int32)) (inb_of Sq40 ⟨by decide, by decide⟩) (g := (mkF m 118 #[.val (.int p0), .val (.long q1), .second, .val (.int p2), .val (.int p3), .val (.int p4), .val (.int sz), .val (.long o1), .second, .val (.ref b1), .unset, .unset, .unset, .unset, .unset, .unset, .unset, .unset, .unset] [(.long v6), (.int (6 : Int32)), (.ref b1)])) rfl rfl (hb hby at_118)
  refine OwnGo.of st41 ?_
  have N41 := Fr.snoc X41 N39 g_b1
  have f42 : n0 ≤ h41.size := Nat.le_trans f36 (Keep.of_wr W41).1
  have f43 : Arv Z h41 b1 k1 .long (8 : Int32) [(.long v0), (.long v1), (.long v2), (.long v3), (.long v4), (.long v5), (.long v6), (.long (0 : Int64))] (.long (0 : Int64)) := Arv.set Arq40 qq40 Sq40 Nq40 Hq40 Gq40 rfl W41 6 rfl (Nat.le_of_ble_eq_true rfl)
  show OwnGo p.tables e below _ (T41.setTop (mkF m 119 #[.val (.int p0), .val (.long q1), .second, .val (.int p2), .val (.int p3), .val (.int p4), .val (.int sz), .val (.long o1), .second, .val (.ref b1), .unset, .unset, .unset, .unset, .unset, .unset, .unset, .unset, .unset] []))
  refine OwnGo.of (A := T41.setTop (mkF m 119 #[.val (.int p0), .val (.long q1), .second, .val (.int p2), .val (.int p3), .val (.int p4), .val (.int sz), .val (.long o1), .second, .val (.ref b1), .unset, .unset, .unset, .unset, .unset, .unset, .unset, .unset, .unset] [])) (B := T41.setTop (mkF m 126 #[.val (.int p0), .val (.long q1), .second, .val (.int p2), .val (.int p3), .val (.int p4), .val (.int sz), .val (.long o1), .second, .val (.ref b1), .unset, .unset, .unset, .unset, .unset, .unset, .unset, .unset, .unset] [(.int (3 : Int32)), (.ref b1), (.int (7 : Int32)), (.ref b1)])) (fun t k => ?_) ?_
  · show Steps p.tables e below (T41.setTop (mkF m 119 #[.val (.int p0), .val (.long q1), .second, .val (.int p2), .val (.int p3), .val (.int p4), .val (.int sz), .val (.long o1), .second, .val (.ref b1), .unset, .unset, .unset, .unset, .unset, .unset, .unset, .unset, .unset] [])) t
    refine XS.aload X41.here hx rfl (hb hby at_119) rfl rfl ?_
    refine XS.bipush X41.here hx rfl (hb hby at_121) ?_
    refine XS.aload X41.here hx rfl (hb hby at_123) rfl rfl ?_
    refine XS.iconst X41.here hx rfl (hb hby at_125) ?_
    exact k
  have cq44 := f43
  obtain ⟨clq44, Arq44, qq44, Sq44, Nq44, Hq44, Gq44⟩ := cq44
  have hinq44 := inb_of (j := (3 : Int32)) Sq44 ⟨by decide, by decide⟩
  refine OwnGo.of (X41.laload hx (j := (3 : Int32)) (v := (.long v3)) (by rw [e41]; exact Arq44.1) (State.isArrayOf_alike hZ.alike Arq44.2.1) Arq44.2.2 hinq44 (Hq44.at hinq44 rfl) (g := (mkF m 126 #[.val (.int p0), .val (.long q1), .second, .val (.int p2), .val (.int p3), .val (.int p4), .val (.int sz), .val (.long o1), .second, .val (.ref b1), .unset, .unset, .unset, .unset, .unset, .unset, .unset, .unset, .unset] [(.int (3 : Int32)), (.ref b1), (.int (7 : Int32)), (.ref b1)])) rfl rfl (hb hby at_126)) ?_
  show OwnGo p.tables e below _ (T41.setTop (mkF m 127 #[.val (.int p0), .val (.long q1), .second, .val (.int p2), .val (.int p3), .val (.int p4), .val (.int sz), .val (.long o1), .second, .val (.ref b1), .unset, .unset, .unset, .unset, .unset, .unset, .unset, .unset, .unset] [(.long v3), (.int (7 : Int32)), (.ref b1)]))
  refine OwnGo.of (A := T41.setTop (mkF m 127 #[.val (.int p0), .val (.long q1), .second, .val (.int p2), .val (.int p3), .val (.int p4), .val (.int sz), .val (.long o1), .second, .val (.ref b1), .unset, .unset, .unset, .unset, .unset, .unset, .unset, .unset, .unset] [(.long v3), (.int (7 : Int32)), (.ref b1)])) (B := T41.setTop (mkF m 130 #[.val (.int p0), .val (.long q1), .second, .val (.int p2), .val (.int p3), .val (.int p4), .val (.int sz), .val (.long o1), .second, .val (.ref b1), .unset, .unset, .unset, .unset, .unset, .unset, .unset, .unset, .unset] [(.int (6 : Int32)), (.long q1), (.long v3), (.int (7 : Int32)), (.ref b1)])) (fun t k => ?_) ?_
  · show Steps p.tables e below (T41.setTop (mkF m 127 #[.val (.int p0), .val (.long q1), .second, .val (.int p2), .val (.int p3), .val (.int p4), .val (.int sz), .val (.long o1), .second, .val (.ref b1), .unset, .unset, .unset, .unset, .unset, .unset, .unset, .unset, .unset] [(.long v3), (.int (7 : Int32)), (.ref b1)])) t
    refine XS.lloadN X41.here hx rfl (hb hby at_127) rfl ?_
    refine XS.bipush X41.here hx rfl (hb hby at_128) ?_
    exact k
  obtain ⟨T45, L45, v45, X45, hQ45, st45⟩ := own_callS X41 hx (y := (⟨"com/example/rankwright/rankwright/rank/AccumulatorSiftDownPinLaw", "inc", "(JI)J"⟩ : MethodName)) hown (mvT hZ (hw _ (List.mem_of_getElem? (i := 1) rfl))) (mvT hZ (hw _ (List.mem_of_getElem? (i := 2) rfl))) (mvT hZ (hw _ (List.mem_of_getElem? (i := 3) rfl))) (mvT hZ (hw _ (List.mem_of_getElem? (i := 4) rfl))) (by decide) (backOf (W := 4) (rm1 l Z aw hw [] q1 (6 : Int32)  h41 n0 f42 ) hZ (hw _ (List.mem_of_getElem? (i := 4) rfl)) (hw _ (List.mem_of_getElem? (i := 3) rfl)) (by decide) (by decide)) (g := (mkF m 130 #[.val (.int p0), .val (.long q1), .second, .val (.int p2), .val (.int p3), .val (.int p4), .val (.int sz), .val (.long o1), .second, .val (.ref b1), .unset, .unset, .unset, .unset, .unset, .unset, .unset, .unset, .unset] [(.int (6 : Int32)), (.long q1), (.long v3), (.int (7 : Int32)), (.ref b1)])) rfl (by rw [hml]; rfl) (argsL := [(.long q1), (.int (6 : Int32))]) (rest := [(.long v3), (.int (7 : Int32)), (.ref b1)]) (lenOf pd_3 rfl) rfl (by show 2 * 0 + _ ≤ _; exact Nat.le_of_eq rfl) (hb hby at_130) rfl e41 (by decide) (by decide)
  obtain ⟨rfl, N45q, eq45⟩ := hQ45
  have N45 := Fr.app N41 N45q
  refine OwnGo.of st45 ?_
  show OwnGo p.tables e below _ (T45.setTop (mkF m 133 #[.val (.int p0), .val (.long q1), .second, .val (.int p2), .val (.int p3), .val (.int p4), .val (.int sz), .val (.long o1), .second, .val (.ref b1), .unset, .unset, .unset, .unset, .unset, .unset, .unset, .unset, .unset] [(.long (own_inc q1 (6 : Int32))), (.long v3), (.int (7 : Int32)), (.ref b1)]))
  refine OwnGo.of (A := T45.setTop (mkF m 133 #[.val (.int p0), .val (.long q1), .second, .val (.int p2), .val (.int p3), .val (.int p4), .val (.int sz), .val (.long o1), .second, .val (.ref b1), .unset, .unset, .unset, .unset, .unset, .unset, .unset, .unset, .unset] [(.long (own_inc q1 (6 : Int32))), (.long v3), (.int (7 : Int32)), (.ref b1)])) (B := T45.setTop (mkF m 134 #[.val (.int p0), .val (.long q1), .second, .val (.int p2), .val (.int p3), .val (.int p4), .val (.int sz), .val (.long o1), .second, .val (.ref b1), .unset, .unset, .unset, .unset, .unset, .unset, .unset, .unset, .unset] [(.long (v3 + (own_inc q1 (6 : Int32)))), (.int (7 : Int32)), (.ref b1)])) (fun t k => ?_) ?_
  · show Steps p.tables e below (T45.setTop (mkF m 133 #[.val (.int p0), .val (.long q1), .second, .val (.int p2), .val (.int p3), .val (.int p4), .val (.int sz), .val (.long o1), .second, .val (.ref b1), .unset, .unset, .unset, .unset, .unset, .unset, .unset, .unset, .unset] [(.long (own_inc q1 (6 : Int32))), (.long v3), (.int (7 : Int32)), (.ref b1)])) t
    refine XS.ladd X45.here hx rfl (hb hby at_133) rfl ?_
    exact k
  obtain ⟨v7, qv7⟩ : ∃ z, z = (v3 + (own_inc q1 (6 : Int32))) := ⟨_, rfl⟩
  have w7 : v3.toInt ≤ v7.toInt ∧ v7.toInt ≤ v3.toInt + 7 := by subst qv7; exact own_vn _ _ _ (by omega)
  rw [← qv7]
  show OwnGo p.tables e below _ (T45.setTop (mkF m 134 #[.val (.int p0), .val (.long q1), .second, .val (.int p2), .val (.int p3), .val (.int p4), .val (.int sz), .val (.long o1), .second, .val (.ref b1), .unset, .unset, .unset, .unset, .unset, .unset, .unset, .unset, .unset] [(.long v7), (.int (7 : Int32)), (.ref b1)]))
  have cq46 := f43
  obtain ⟨clq46, Arq46, qq46, Sq46, Nq46, Hq46, Gq46⟩ := cq46
  obtain ⟨T47, h47, X47, e47, W47, st47⟩ := stJ X45 hx hZ eq45 Arq46 (j := (7 : Int32)) (inb_of Sq46 ⟨by decide, by decide⟩) (g := (mkF m 134 #[.val (.int p0), .val (.long q1), .second, .val (.int p2), .val (.int p3), .val (.int p4), .val (.int sz), .val (.long o1), .second, .val (.ref b1), .unset, .unset, .unset, .unset, .unset, .unset, .unset, .unset, .unset] [(.long v7), (.int (7 : Int32)), (.ref b1)])) rfl rfl (hb hby at_134)
  refine OwnGo.of st47 ?_
  have N47 := Fr.snoc X47 N45 g_b1
  have f48 : n0 ≤ h47.size := Nat.le_trans f42 (Keep.of_wr W47).1
  have f49 : Arv Z h47 b1 k1 .long (8 : Int32) [(.long v0), (.long v1), (.long v2), (.long v3), (.long v4), (.long v5), (.long v6), (.long v7)] (.long (0 : Int64)) := Arv.set Arq46 qq46 Sq46 Nq46 Hq46 Gq46 rfl W47 7 rfl (Nat.le_of_ble_eq_true rfl)
  show OwnGo p.tables e below _ (T47.setTop (mkF m 135 #[.val (.int p0), .val (.long q1), .second, .val (.int p2), .val (.int p3), .val (.int p4), .val (.int sz), .val (.long o1), .second, .val (.ref b1), .unset, .unset, .unset, .unset, .unset, .unset, .unset, .unset, .unset] []))
  refine OwnGo.of (A := T47.setTop (mkF m 135 #[.val (.int p0), .val (.long q1), .second, .val (.int p2), .val (.int p3), .val (.int p4), .val (.int sz), .val (.long o1), .second, .val (.ref b1), .unset, .unset, .unset, .unset, .unset, .unset, .unset, .unset, .unset] [])) (B := T47.setTop (mkF m 149 #[.val (.int p0), .val (.long q1), .second, .val (.int p2), .val (.int p3), .val (.int p4), .val (.int sz), .val (.long o1), .second, .val (.ref b1), .val (.long (o1 + (((p3 &&& (127 : Int32)) - (64 : Int32)).toInt64))), .second, .unset, .unset, .unset, .unset, .unset, .unset, .unset] [])) (fun t k => ?_) ?_
  · show Steps p.tables e below (T47.setTop (mkF m 135 #[.val (.int p0), .val (.long q1), .second, .val (.int p2), .val (.int p3), .val (.int p4), .val (.int sz), .val (.long o1), .second, .val (.ref b1), .unset, .unset, .unset, .unset, .unset, .unset, .unset, .unset, .unset] [])) t
    refine XS.lload X47.here hx rfl (hb hby at_135) rfl ?_
    refine XS.iload X47.here hx rfl (hb hby at_137) rfl ?_
    refine XS.bipush X47.here hx rfl (hb hby at_139) ?_
    refine XS.iand X47.here hx rfl (hb hby at_141) rfl ?_
    refine XS.bipush X47.here hx rfl (hb hby at_142) ?_
    refine XS.isub X47.here hx rfl (hb hby at_144) rfl ?_
    refine XS.i2l X47.here hx rfl (hb hby at_145) rfl ?_
    refine XS.ladd X47.here hx rfl (hb hby at_146) rfl ?_
    refine XS.lstore X47.here hx rfl (hb hby at_147) rfl (l' := #[.val (.int p0), .val (.long q1), .second, .val (.int p2), .val (.int p3), .val (.int p4), .val (.int sz), .val (.long o1), .second, .val (.ref b1), .val (.long (o1 + (((p3 &&& (127 : Int32)) - (64 : Int32)).toInt64))), .second, .unset, .unset, .unset, .unset, .unset, .unset, .unset]) rfl ?_
    exact k
  obtain ⟨sv, qsv⟩ : ∃ z, z = (o1 + (((p3 &&& (127 : Int32)) - (64 : Int32)).toInt64)) := ⟨_, rfl⟩
  have ws : o1.toInt - 64 ≤ sv.toInt ∧ sv.toInt ≤ o1.toInt + 63 := by subst qsv; exact own_sv o1 p3 ho
  rw [← qsv]
  show OwnGo p.tables e below _ (T47.setTop (mkF m 149 #[.val (.int p0), .val (.long q1), .second, .val (.int p2), .val (.int p3), .val (.int p4), .val (.int sz), .val (.long o1), .second, .val (.ref b1), .val (.long sv), .second, .unset, .unset, .unset, .unset, .unset, .unset, .unset] []))
  refine OwnGo.of (A := T47.setTop (mkF m 149 #[.val (.int p0), .val (.long q1), .second, .val (.int p2), .val (.int p3), .val (.int p4), .val (.int sz), .val (.long o1), .second, .val (.ref b1), .val (.long sv), .second, .unset, .unset, .unset, .unset, .unset, .unset, .unset] [])) (B := T47.setTop (mkF m 158 #[.val (.int p0), .val (.long q1), .second, .val (.int p2), .val (.int p3), .val (.int p4), .val (.int sz), .val (.long o1), .second, .val (.ref b1), .val (.long sv), .second, .val (.double (FP.l2d (o1 - (100 : Int64)))), .second, .unset, .unset, .unset, .unset, .unset] [])) (fun t k => ?_) ?_
  · show Steps p.tables e below (T47.setTop (mkF m 149 #[.val (.int p0), .val (.long q1), .second, .val (.int p2), .val (.int p3), .val (.int p4), .val (.int sz), .val (.long o1), .second, .val (.ref b1), .val (.long sv), .second, .unset, .unset, .unset, .unset, .unset, .unset, .unset] [])) t
    refine XS.lload X47.here hx rfl (hb hby at_149) rfl ?_
    refine X47.ldc2Long hx hown (mvT hZ (hw _ (List.mem_of_getElem? (i := 6) rfl))) (g := (mkF m 151 #[.val (.int p0), .val (.long q1), .second, .val (.int p2), .val (.int p3), .val (.int p4), .val (.int sz), .val (.long o1), .second, .val (.ref b1), .val (.long sv), .second, .unset, .unset, .unset, .unset, .unset, .unset, .unset] [(.long o1)])) rfl (hb hby at_151) _ ?_
    refine XS.lsub X47.here hx rfl (hb hby at_154) rfl ?_
    refine XS.l2dS X47.here hx rfl (hb hby at_155) rfl rfl ?_
    refine XS.dstore X47.here hx rfl (hb hby at_156) rfl (l' := #[.val (.int p0), .val (.long q1), .second, .val (.int p2), .val (.int p3), .val (.int p4), .val (.int sz), .val (.long o1), .second, .val (.ref b1), .val (.long sv), .second, .val (.double (FP.l2d (o1 - (100 : Int64)))), .second, .unset, .unset, .unset, .unset, .unset]) rfl ?_
    exact k
  obtain ⟨so, qso⟩ : ∃ z, z = (o1 - (100 : Int64)) := ⟨_, rfl⟩
  have wo : so.toInt = o1.toInt - 100 := by subst qso; exact own_so o1 ho
  rw [← qso]
  show OwnGo p.tables e below _ (T47.setTop (mkF m 158 #[.val (.int p0), .val (.long q1), .second, .val (.int p2), .val (.int p3), .val (.int p4), .val (.int sz), .val (.long o1), .second, .val (.ref b1), .val (.long sv), .second, .val (.double (FP.l2d so)), .second, .unset, .unset, .unset, .unset, .unset] []))
  refine OwnGo.of (A := T47.setTop (mkF m 158 #[.val (.int p0), .val (.long q1), .second, .val (.int p2), .val (.int p3), .val (.int p4), .val (.int sz), .val (.long o1), .second, .val (.ref b1), .val (.long sv), .second, .val (.double (FP.l2d so)), .second, .unset, .unset, .unset, .unset, .unset] [])) (B := T47.setTop (mkF m 160 #[.val (.int p0), .val (.long q1), .second, .val (.int p2), .val (.int p3), .val (.int p4), .val (.int sz), .val (.long o1), .second, .val (.ref b1), .val (.long sv), .second, .val (.double (FP.l2d so)), .second, .unset, .unset, .unset, .unset, .unset] [(.int (10 : Int32))])) (fun t k => ?_) ?_
  · show Steps p.tables e below (T47.setTop (mkF m 158 #[.val (.int p0), .val (.long q1), .second, .val (.int p2), .val (.int p3), .val (.int p4), .val (.int sz), .val (.long o1), .second, .val (.ref b1), .val (.long sv), .second, .val (.double (FP.l2d so)), .second, .unset, .unset, .unset, .unset, .unset] [])) t
    refine XS.bipush X47.here hx rfl (hb hby at_158) ?_
    exact k
  obtain ⟨T50, h50, k50, X50, e50, E50, A50, st50⟩ := newP X47 hx hZ (hw _ (List.mem_of_getElem? (i := 7) rfl)) e47 (g := (mkF m 160 #[.val (.int p0), .val (.long q1), .second, .val (.int p2), .val (.int p3), .val (.int p4), .val (.int sz), .val (.long o1), .second, .val (.ref b1), .val (.long sv), .second, .val (.double (FP.l2d so)), .second, .unset, .unset, .unset, .unset, .unset] [(.int (10 : Int32))])) rfl (hb hby at_160) rfl (by decide) (cap := 10) (by decide) (by decide) (by decide) (by decide)
  obtain ⟨b50, g50⟩ : ∃ z, z = h47.size := ⟨_, rfl⟩
  rw [← g50] at A50 st50
  refine OwnGo.of st50 ?_
  have ne_b1_b50 : b1 ≠ b50 := Nat.ne_of_lt (Nat.lt_of_lt_of_le f49.lt (Nat.le_of_eq g50.symm))
  have g_b50 : n0 ≤ b50 := Nat.le_trans f48 (Nat.le_of_eq g50.symm)
  have f51 : n0 ≤ h50.size := Nat.le_trans f48 E50.1
  have f52 : Arv Z h50 b1 k1 .long (8 : Int32) [(.long v0), (.long v1), (.long v2), (.long v3), (.long v4), (.long v5), (.long v6), (.long v7)] (.long (0 : Int64)) := f49.ext E50
  have f53 : Arv Z h50 b50 k50 .double (10 : Int32) [(.double (0 : UInt64)), (.double (0 : UInt64)), (.double (0 : UInt64)), (.double (0 : UInt64)), (.double (0 : UInt64)), (.double (0 : UInt64)), (.double (0 : UInt64)), (.double (0 : UInt64)), (.double (0 : UInt64)), (.double (0 : UInt64))] (.double (0 : UInt64)) := (Arv.new A50 (by decide)).pad (pad_rep [] (.double (0 : UInt64)) 10)
  show OwnGo p.tables e below _ (T50.setTop (mkF m 162 #[.val (.int p0), .val (.long q1), .second, .val (.int p2), .val (.int p3), .val (.int p4), .val (.int sz), .val (.long o1), .second, .val (.ref b1), .val (.long sv), .second, .val (.double (FP.l2d so)), .second, .unset, .unset, .unset, .unset, .unset] [(.ref b50)]))
  refine OwnGo.of (A := T50.setTop (mkF m 162 #[.val (.int p0), .val (.long q1), .second, .val (.int p2), .val (.int p3), .val (.int p4), .val (.int sz), .val (.long o1), .second, .val (.ref b1), .val (.long sv), .second, .val (.double (FP.l2d so)), .second, .unset, .unset, .unset, .unset, .unset] [(.ref b50)])) (B := T50.setTop (mkF m 174 #[.val (.int p0), .val (.long q1), .second, .val (.int p2), .val (.int p3), .val (.int p4), .val (.int sz), .val (.long o1), .second, .val (.ref b1), .val (.long sv), .second, .val (.double (FP.l2d so)), .second, .val (.ref b50), .unset, .unset, .unset, .unset] [(.double (FP.l2d so)), (.int sz), (.int (0 : Int32)), (.ref b1), (.int (0 : Int32)), (.ref b50)])) (fun t k => ?_) ?_
  · show Steps p.tables e below (T50.setTop (mkF m 162 #[.val (.int p0), .val (.long q1), .second, .val (.int p2), .val (.int p3), .val (.int p4), .val (.int sz), .val (.long o1), .second, .val (.ref b1), .val (.long sv), .second, .val (.double (FP.l2d so)), .second, .unset, .unset, .unset, .unset, .unset] [(.ref b50)])) t
    refine XS.astore X50.here hx rfl (hb hby at_162) rfl rfl (l' := #[.val (.int p0), .val (.long q1), .second, .val (.int p2), .val (.int p3), .val (.int p4), .val (.int sz), .val (.long o1), .second, .val (.ref b1), .val (.long sv), .second, .val (.double (FP.l2d so)), .second, .val (.ref b50), .unset, .unset, .unset, .unset]) rfl ?_
    refine XS.aload X50.here hx rfl (hb hby at_164) rfl rfl ?_
    refine XS.iconst X50.here hx rfl (hb hby at_166) ?_
    refine XS.aload X50.here hx rfl (hb hby at_167) rfl rfl ?_
    refine XS.iconst X50.here hx rfl (hb hby at_169) ?_
    refine XS.iload X50.here hx rfl (hb hby at_170) rfl ?_
    refine XS.dload X50.here hx rfl (hb hby at_172) rfl ?_
    exact k
  obtain ⟨T54, L54, v54, X54, hQ54, st54⟩ := own_callS X50 hx (y := (⟨"com/example/rankwright/rankwright/rank/AccumulatorSiftDownPinLaw", "slot", "([JIID)D"⟩ : MethodName)) hown (mvT hZ (hw _ (List.mem_of_getElem? (i := 8) rfl))) (mvT hZ (hw _ (List.mem_of_getElem? (i := 9) rfl))) (mvT hZ (hw _ (List.mem_of_getElem? (i := 3) rfl))) (mvT hZ (hw _ (List.mem_of_getElem? (i := 10) rfl))) (by decide) (backOf (W := 2) (rms_0 l Z aw hw [] b1 sz so v0 v1 v2 v3 v4 v5 v6 v7 k1 h50 n0 f51 f52) hZ (hw _ (List.mem_of_getElem? (i := 10) rfl)) (hw _ (List.mem_of_getElem? (i := 3) rfl)) (by decide) (by decide)) (g := (mkF m 174 #[.val (.int p0), .val (.long q1), .second, .val (.int p2), .val (.int p3), .val (.int p4), .val (.int sz), .val (.long o1), .second, .val (.ref b1), .val (.long sv), .second, .val (.double (FP.l2d so)), .second, .val (.ref b50), .unset, .unset, .unset, .unset] [(.double (FP.l2d so)), (.int sz), (.int (0 : Int32)), (.ref b1), (.int (0 : Int32)), (.ref b50)])) rfl (by rw [hml]; rfl) (argsL := [(.ref b1), (.int (0 : Int32)), (.int sz), (.double (FP.l2d so))]) (rest := [(.int (0 : Int32)), (.ref b50)]) (lenOf pd_4 rfl) rfl (by show 2 * 0 + _ ≤ _; exact Nat.le_of_eq rfl) (hb hby at_174) rfl e50 (by decide) (by decide)
  obtain ⟨rfl, N54q, eq54⟩ := hQ54
  have N54 := Fr.app N47 N54q
  refine OwnGo.of st54 ?_
  show OwnGo p.tables e below _ (T54.setTop (mkF m 177 #[.val (.int p0), .val (.long q1), .second, .val (.int p2), .val (.int p3), .val (.int p4), .val (.int sz), .val (.long o1), .second, .val (.ref b1), .val (.long sv), .second, .val (.double (FP.l2d so)), .second, .val (.ref b50), .unset, .unset, .unset, .unset] [(.double (FP.l2d (if (0 : Int32) < sz then v0 else so))), (.int (0 : Int32)), (.ref b50)]))
  obtain ⟨t0, qt0⟩ : ∃ z, z = (if (0 : Int32) < sz then v0 else so) := ⟨_, rfl⟩
  rw [← qt0]
  show OwnGo p.tables e below _ (T54.setTop (mkF m 177 #[.val (.int p0), .val (.long q1), .second, .val (.int p2), .val (.int p3), .val (.int p4), .val (.int sz), .val (.long o1), .second, .val (.ref b1), .val (.long sv), .second, .val (.double (FP.l2d so)), .second, .val (.ref b50), .unset, .unset, .unset, .unset] [(.double (FP.l2d t0)), (.int (0 : Int32)), (.ref b50)]))
  have cq55 := f53
  obtain ⟨clq55, Arq55, qq55, Sq55, Nq55, Hq55, Gq55⟩ := cq55
  obtain ⟨T56, h56, X56, e56, W56, st56⟩ := stD X54 hx hZ eq54 Arq55 (j := (0 : Int32)) (inb_of Sq55 ⟨by decide, by decide⟩) (g := (mkF m 177 #[.val (.int p0), .val (.long q1), .second, .val (.int p2), .val (.int p3), .val (.int p4), .val (.int sz), .val (.long o1), .second, .val (.ref b1), .val (.long sv), .second, .val (.double (FP.l2d so)), .second, .val (.ref b50), .unset, .unset, .unset, .unset] [(.double (FP.l2d t0)), (.int (0 : Int32)), (.ref b50)])) rfl rfl (hb hby at_177)
  refine OwnGo.of st56 ?_
  have N56 := Fr.snoc X56 N54 g_b50
  have f57 : n0 ≤ h56.size := Nat.le_trans f51 (Keep.of_wr W56).1
  have f58 : Arv Z h56 b1 k1 .long (8 : Int32) [(.long v0), (.long v1), (.long v2), (.long v3), (.long v4), (.long v5), (.long v6), (.long v7)] (.long (0 : Int64)) := f52.other W56 ne_b1_b50
  have f59 : Arv Z h56 b50 k50 .double (10 : Int32) [(.double (FP.l2d t0)), (.double (0 : UInt64)), (.double (0 : UInt64)), (.double (0 : UInt64)), (.double (0 : UInt64)), (.double (0 : UInt64)), (.double (0 : UInt64)), (.double (0 : UInt64)), (.double (0 : UInt64)), (.double (0 : UInt64))] (.double (0 : UInt64)) := Arv.set Arq55 qq55 Sq55 Nq55 Hq55 Gq55 rfl W56 0 rfl (Nat.le_of_ble_eq_true rfl)
  show OwnGo p.tables e below _ (T56.setTop (mkF m 178 #[.val (.int p0), .val (.long q1), .second, .val (.int p2), .val (.int p3), .val (.int p4), .val (.int sz), .val (.long o1), .second, .val (.ref b1), .val (.long sv), .second, .val (.double (FP.l2d so)), .second, .val (.ref b50), .unset, .unset, .unset, .unset] []))
  refine OwnGo.of (A := T56.setTop (mkF m 178 #[.val (.int p0), .val (.long q1), .second, .val (.int p2), .val (.int p3), .val (.int p4), .val (.int sz), .val (.long o1), .second, .val (.ref b1), .val (.long sv), .second, .val (.double (FP.l2d so)), .second, .val (.ref b50), .unset, .unset, .unset, .unset] [])) (B := T56.setTop (mkF m 188 #[.val (.int p0), .val (.long q1), .second, .val (.int p2), .val (.int p3), .val (.int p4), .val (.int sz), .val (.long o1), .second, .val (.ref b1), .val (.long sv), .second, .val (.double (FP.l2d so)), .second, .val (.ref b50), .unset, .unset, .unset, .unset] [(.double (FP.l2d so)), (.int sz), (.int (1 : Int32)), (.ref b1), (.int (1 : Int32)), (.ref b50)])) (fun t k => ?_) ?_
  · show Steps p.tables e below (T56.setTop (mkF m 178 #[.val (.int p0), .val (.long q1), .second, .val (.int p2), .val (.int p3), .val (.int p4), .val (.int sz), .val (.long o1), .second, .val (.ref b1), .val (.long sv), .second, .val (.double (FP.l2d so)), .second, .val (.ref b50), .unset, .unset, .unset, .unset] [])) t
    refine XS.aload X56.here hx rfl (hb hby at_178) rfl rfl ?_
    refine XS.iconst X56.here hx rfl (hb hby at_180) ?_
    refine XS.aload X56.here hx rfl (hb hby at_181) rfl rfl ?_
    refine XS.iconst X56.here hx rfl (hb hby at_183) ?_
    refine XS.iload X56.here hx rfl (hb hby at_184) rfl ?_
    refine XS.dload X56.here hx rfl (hb hby at_186) rfl ?_
    exact k
  obtain ⟨T60, L60, v60, X60, hQ60, st60⟩ := own_callS X56 hx (y := (⟨"com/example/rankwright/rankwright/rank/AccumulatorSiftDownPinLaw", "slot", "([JIID)D"⟩ : MethodName)) hown (mvT hZ (hw _ (List.mem_of_getElem? (i := 8) rfl))) (mvT hZ (hw _ (List.mem_of_getElem? (i := 9) rfl))) (mvT hZ (hw _ (List.mem_of_getElem? (i := 3) rfl))) (mvT hZ (hw _ (List.mem_of_getElem? (i := 10) rfl))) (by decide) (backOf (W := 2) (rms_1 l Z aw hw [] b1 sz so v0 v1 v2 v3 v4 v5 v6 v7 k1 h56 n0 f57 f58) hZ (hw _ (List.mem_of_getElem? (i := 10) rfl)) (hw _ (List.mem_of_getElem? (i := 3) rfl)) (by decide) (by decide)) (g := (mkF m 188 #[.val (.int p0), .val (.long q1), .second, .val (.int p2), .val (.int p3), .val (.int p4), .val (.int sz), .val (.long o1), .second, .val (.ref b1), .val (.long sv), .second, .val (.double (FP.l2d so)), .second, .val (.ref b50), .unset, .unset, .unset, .unset] [(.double (FP.l2d so)), (.int sz), (.int (1 : Int32)), (.ref b1), (.int (1 : Int32)), (.ref b50)])) rfl (by rw [hml]; rfl) (argsL := [(.ref b1), (.int (1 : Int32)), (.int sz), (.double (FP.l2d so))]) (rest := [(.int (1 : Int32)), (.ref b50)]) (lenOf pd_4 rfl) rfl (by show 2 * 0 + _ ≤ _; exact Nat.le_of_eq rfl) (hb hby at_188) rfl e56 (by decide) (by decide)
  obtain ⟨rfl, N60q, eq60⟩ := hQ60
  have N60 := Fr.app N56 N60q
  refine OwnGo.of st60 ?_
  show OwnGo p.tables e below _ (T60.setTop (mkF m 191 #[.val (.int p0), .val (.long q1), .second, .val (.int p2), .val (.int p3), .val (.int p4), .val (.int sz), .val (.long o1), .second, .val (.ref b1), .val (.long sv), .second, .val (.double (FP.l2d so)), .second, .val (.ref b50), .unset, .unset, .unset, .unset] [(.double (FP.l2d (if (1 : Int32) < sz then v1 else so))), (.int (1 : Int32)), (.ref b50)]))
  obtain ⟨t1, qt1⟩ : ∃ z, z = (if (1 : Int32) < sz then v1 else so) := ⟨_, rfl⟩
  rw [← qt1]
  show OwnGo p.tables e below _ (T60.setTop (mkF m 191 #[.val (.int p0), .val (.long q1), .second, .val (.int p2), .val (.int p3), .val (.int p4), .val (.int sz), .val (.long o1), .second, .val (.ref b1), .val (.long sv), .second, .val (.double (FP.l2d so)), .second, .val (.ref b50), .unset, .unset, .unset, .unset] [(.double (FP.l2d t1)), (.int (1 : Int32)), (.ref b50)]))
  have cq61 := f59
  obtain ⟨clq61, Arq61, qq61, Sq61, Nq61, Hq61, Gq61⟩ := cq61
  obtain ⟨T62, h62, X62, e62, W62, st62⟩ := stD X60 hx hZ eq60 Arq61 (j := (1 : Int32)) (inb_of Sq61 ⟨by decide, by decide⟩) (g := (mkF m 191 #[.val (.int p0), .val (.long q1), .second, .val (.int p2), .val (.int p3), .val (.int p4), .val (.int sz), .val (.long o1), .second, .val (.ref b1), .val (.long sv), .second, .val (.double (FP.l2d so)), .second, .val (.ref b50), .unset, .unset, .unset, .unset] [(.double (FP.l2d t1)), (.int (1 : Int32)), (.ref b50)])) rfl rfl (hb hby at_191)
  refine OwnGo.of st62 ?_
  have N62 := Fr.snoc X62 N60 g_b50
  have f63 : n0 ≤ h62.size := Nat.le_trans f57 (Keep.of_wr W62).1
  have f64 : Arv Z h62 b1 k1 .long (8 : Int32) [(.long v0), (.long v1), (.long v2), (.long v3), (.long v4), (.long v5), (.long v6), (.long v7)] (.long (0 : Int64)) := f58.other W62 ne_b1_b50
  have f65 : Arv Z h62 b50 k50 .double (10 : Int32) [(.double (FP.l2d t0)), (.double (FP.l2d t1)), (.double (0 : UInt64)), (.double (0 : UInt64)), (.double (0 : UInt64)), (.double (0 : UInt64)), (.double (0 : UInt64)), (.double (0 : UInt64)), (.double (0 : UInt64)), (.double (0 : UInt64))] (.double (0 : UInt64)) := Arv.set Arq61 qq61 Sq61 Nq61 Hq61 Gq61 rfl W62 1 rfl (Nat.le_of_ble_eq_true rfl)
  show OwnGo p.tables e below _ (T62.setTop (mkF m 192 #[.val (.int p0), .val (.long q1), .second, .val (.int p2), .val (.int p3), .val (.int p4), .val (.int sz), .val (.long o1), .second, .val (.ref b1), .val (.long sv), .second, .val (.double (FP.l2d so)), .second, .val (.ref b50), .unset, .unset, .unset, .unset] []))
  refine OwnGo.of (A := T62.setTop (mkF m 192 #[.val (.int p0), .val (.long q1), .second, .val (.int p2), .val (.int p3), .val (.int p4), .val (.int sz), .val (.long o1), .second, .val (.ref b1), .val (.long sv), .second, .val (.double (FP.l2d so)), .second, .val (.ref b50), .unset, .unset, .unset, .unset] [])) (B := T62.setTop (mkF m 202 #[.val (.int p0), .val (.long q1), .second, .val (.int p2), .val (.int p3), .val (.int p4), .val (.int sz), .val (.long o1), .second, .val (.ref b1), .val (.long sv), .second, .val (.double (FP.l2d so)), .second, .val (.ref b50), .unset, .unset, .unset, .unset] [(.double (FP.l2d so)), (.int sz), (.int (2 : Int32)), (.ref b1), (.int (2 : Int32)), (.ref b50)])) (fun t k => ?_) ?_
  · show Steps p.tables e below (T62.setTop (mkF m 192 #[.val (.int p0), .val (.long q1), .second, .val (.int p2), .val (.int p3), .val (.int p4), .val (.int sz), .val (.long o1), .second, .val (.ref b1), .val (.long sv), .second, .val (.double (FP.l2d so)), .second, .val (.ref b50), .unset, .unset, .unset, .unset] [])) t
    refine XS.aload X62.here hx rfl (hb hby at_192) rfl rfl ?_
    refine XS.iconst X62.here hx rfl (hb hby at_194) ?_
    refine XS.aload X62.here hx rfl (hb hby at_195) rfl rfl ?_
    refine XS.iconst X62.here hx rfl (hb hby at_197) ?_
    refine XS.iload X62.here hx rfl (hb hby at_198) rfl ?_
    refine XS.dload X62.here hx rfl (hb hby at_200) rfl ?_
    exact k
  obtain ⟨T66, L66, v66, X66, hQ66, st66⟩ := own_callS X62 hx (y := (⟨"com/example/rankwright/rankwright/rank/AccumulatorSiftDownPinLaw", "slot", "([JIID)D"⟩ : MethodName)) hown (mvT hZ (hw _ (List.mem_of_getElem? (i := 8) rfl))) (mvT hZ (hw _ (List.mem_of_getElem? (i := 9) rfl))) (mvT hZ (hw _ (List.mem_of_getElem? (i := 3) rfl))) (mvT hZ (hw _ (List.mem_of_getElem? (i := 10) rfl))) (by decide) (backOf (W := 2) (rms_2 l Z aw hw [] b1 sz so v0 v1 v2 v3 v4 v5 v6 v7 k1 h62 n0 f63 f64) hZ (hw _ (List.mem_of_getElem? (i := 10) rfl)) (hw _ (List.mem_of_getElem? (i := 3) rfl)) (by decide) (by decide)) (g := (mkF m 202 #[.val (.int p0), .val (.long q1), .second, .val (.int p2), .val (.int p3), .val (.int p4), .val (.int sz), .val (.long o1), .second, .val (.ref b1), .val (.long sv), .second, .val (.double (FP.l2d so)), .second, .val (.ref b50), .unset, .unset, .unset, .unset] [(.double (FP.l2d so)), (.int sz), (.int (2 : Int32)), (.ref b1), (.int (2 : Int32)), (.ref b50)])) rfl (by rw [hml]; rfl) (argsL := [(.ref b1), (.int (2 : Int32)), (.int sz), (.double (FP.l2d so))]) (rest := [(.int (2 : Int32)), (.ref b50)]) (lenOf pd_4 rfl) rfl (by show 2 * 0 + _ ≤ _; exact Nat.le_of_eq rfl) (hb hby at_202) rfl e62 (by decide) (by decide)
  obtain ⟨rfl, N66q, eq66⟩ := hQ66
  have N66 := Fr.app N62 N66q
  refine OwnGo.of st66 ?_
  show OwnGo p.tables e below _ (T66.setTop (mkF m 205 #[.val (.int p0), .val (.long q1), .second, .val (.int p2), .val (.int p3), .val (.int p4), .val (.int sz), .val (.long o1), .second, .val (.ref b1), .val (.long sv), .second, .val (.double (FP.l2d so)), .second, .val (.ref b50), .unset, .unset, .unset, .unset] [(.double (FP.l2d (if (2 : Int32) < sz then v2 else so))), (.int (2 : Int32)), (.ref b50)]))
  obtain ⟨t2, qt2⟩ : ∃ z, z = (if (2 : Int32) < sz then v2 else so) := ⟨_, rfl⟩
  rw [← qt2]
  show OwnGo p.tables e below _ (T66.setTop (mkF m 205 #[.val (.int p0), .val (.long q1), .second, .val (.int p2), .val (.int p3), .val (.int p4), .val (.int sz), .val (.long o1), .second, .val (.ref b1), .val (.long sv), .second, .val (.double (FP.l2d so)), .second, .val (.ref b50), .unset, .unset, .unset, .unset] [(.double (FP.l2d t2)), (.int (2 : Int32)), (.ref b50)]))
  have cq67 := f65
  obtain ⟨clq67, Arq67, qq67, Sq67, Nq67, Hq67, Gq67⟩ := cq67
  obtain ⟨T68, h68, X68, e68, W68, st68⟩ := stD X66 hx hZ eq66 Arq67 (j := (2 : Int32)) (inb_of Sq67 ⟨by decide, by decide⟩) (g := (mkF m 205 #[.val (.int p0), .val (.long q1), .second, .val (.int p2), .val (.int p3), .val (.int p4), .val (.int sz), .val (.long o1), .second, .val (.ref b1), .val (.long sv), .second, .val (.double (FP.l2d so)), .second, .val (.ref b50), .unset, .unset, .unset, .unset] [(.double (FP.l2d t2)), (.int (2 : Int32)), (.ref b50)])) rfl rfl (hb hby at_205)
  refine OwnGo.of st68 ?_
  have N68 := Fr.snoc X68 N66 g_b50
  have f69 : n0 ≤ h68.size := Nat.le_trans f63 (Keep.of_wr W68).1
  have f70 : Arv Z h68 b1 k1 .long (8 : Int32) [(.long v0), (.long v1), (.long v2), (.long v3), (.long v4), (.long v5), (.long v6), (.long v7)] (.long (0 : Int64)) := f64.other W68 ne_b1_b50
  have f71 : Arv Z h68 b50 k50 .double (10 : Int32) [(.double (FP.l2d t0)), (.double (FP.l2d t1)), (.double (FP.l2d t2)), (.double (0 : UInt64)), (.double (0 : UInt64)), (.double (0 : UInt64)), (.double (0 : UInt64)), (.double (0 : UInt64)), (.double (0 : UInt64)), (.double (0 : UInt64))] (.double (0 : UInt64)) := Arv.set Arq67 qq67 Sq67 Nq67 Hq67 Gq67 rfl W68 2 rfl (Nat.le_of_ble_eq_true rfl)
  show OwnGo p.tables e below _ (T68.setTop (mkF m 206 #[.val (.int p0), .val (.long q1), .second, .val (.int p2), .val (.int p3), .val (.int p4), .val (.int sz), .val (.long o1), .second, .val (.ref b1), .val (.long sv), .second, .val (.double (FP.l2d so)), .second, .val (.ref b50), .unset, .unset, .unset, .unset] []))
  refine OwnGo.of (A := T68.setTop (mkF m 206 #[.val (.int p0), .val (.long q1), .second, .val (.int p2), .val (.int p3), .val (.int p4), .val (.int sz), .val (.long o1), .second, .val (.ref b1), .val (.long sv), .second, .val (.double (FP.l2d so)), .second, .val (.ref b50), .unset, .unset, .unset, .unset] [])) (B := T68.setTop (mkF m 216 #[.val (.int p0), .val (.long q1), .second, .val (.int p2), .val (.int p3), .val (.int p4), .val (.int sz), .val (.long o1), .second, .val (.ref b1), .val (.long sv), .second, .val (.double (FP.l2d so)), .second, .val (.ref b50), .unset, .unset, .unset, .unset] [(.double (FP.l2d so)), (.int sz), (.int (3 : Int32)), (.ref b1), (.int (3 : Int32)), (.ref b50)])) (fun t k => ?_) ?_
  · show Steps p.tables e below (T68.setTop (mkF m 206 #[.val (.int p0), .val (.long q1), .second, .val (.int p2), .val (.int p3), .val (.int p4), .val (.int sz), .val (.long o1), .second, .val (.ref b1), .val (.long sv), .second, .val (.double (FP.l2d so)), .second, .val (.ref b50), .unset, .unset, .unset, .unset] [])) t
    refine XS.aload X68.here hx rfl (hb hby at_206) rfl rfl ?_
    refine XS.iconst X68.here hx rfl (hb hby at_208) ?_
    refine XS.aload X68.here hx rfl (hb hby at_209) rfl rfl ?_
    refine XS.iconst X68.here hx rfl (hb hby at_211) ?_
    refine XS.iload X68.here hx rfl (hb hby at_212) rfl ?_
    refine XS.dload X68.here hx rfl (hb hby at_214) rfl ?_
    exact k
  obtain ⟨T72, L72, v72, X72, hQ72, st72⟩ := own_callS X68 hx (y := (⟨"com/example/rankwright/rankwright/rank/AccumulatorSiftDownPinLaw", "slot", "([JIID)D"⟩ : MethodName)) hown (mvT hZ (hw _ (List.mem_of_getElem? (i := 8) rfl))) (mvT hZ (hw _ (List.mem_of_getElem? (i := 9) rfl))) (mvT hZ (hw _ (List.mem_of_getElem? (i := 3) rfl))) (mvT hZ (hw _ (List.mem_of_getElem? (i := 10) rfl))) (by decide) (backOf (W := 2) (rms_3 l Z aw hw [] b1 sz so v0 v1 v2 v3 v4 v5 v6 v7 k1 h68 n0 f69 f70) hZ (hw _ (List.mem_of_getElem? (i := 10) rfl)) (hw _ (List.mem_of_getElem? (i := 3) rfl)) (by decide) (by decide)) (g := (mkF m 216 #[.val (.int p0), .val (.long q1), .second, .val (.int p2), .val (.int p3), .val (.int p4), .val (.int sz), .val (.long o1), .second, .val (.ref b1), .val (.long sv), .second, .val (.double (FP.l2d so)), .second, .val (.ref b50), .unset, .unset, .unset, .unset] [(.double (FP.l2d so)), (.int sz), (.int (3 : Int32)), (.ref b1), (.int (3 : Int32)), (.ref b50)])) rfl (by rw [hml]; rfl) (argsL := [(.ref b1), (.int (3 : Int32)), (.int sz), (.double (FP.l2d so))]) (rest := [(.int (3 : Int32)), (.ref b50)]) (lenOf pd_4 rfl) rfl (by show 2 * 0 + _ ≤ _; exact Nat.le_of_eq rfl) (hb hby at_216) rfl e68 (by decide) (by decide)
  obtain ⟨rfl, N72q, eq72⟩ := hQ72
  have N72 := Fr.app N68 N72q
  refine OwnGo.of st72 ?_
  show OwnGo p.tables e below _ (T72.setTop (mkF m 219 #[.val (.int p0), .val (.long q1), .second, .val (.int p2), .val (.int p3), .val (.int p4), .val (.int sz), .val (.long o1), .second, .val (.ref b1), .val (.long sv), .second, .val (.double (FP.l2d so)), .second, .val (.ref b50), .unset, .unset, .unset, .unset] [(.double (FP.l2d (if (3 : Int32) < sz then v3 else so))), (.int (3 : Int32)), (.ref b50)]))
  obtain ⟨t3, qt3⟩ : ∃ z, z = (if (3 : Int32) < sz then v3 else so) := ⟨_, rfl⟩
  rw [← qt3]
  show OwnGo p.tables e below _ (T72.setTop (mkF m 219 #[.val (.int p0), .val (.long q1), .second, .val (.int p2), .val (.int p3), .val (.int p4), .val (.int sz), .val (.long o1), .second, .val (.ref b1), .val (.long sv), .second, .val (.double (FP.l2d so)), .second, .val (.ref b50), .unset, .unset, .unset, .unset] [(.double (FP.l2d t3)), (.int (3 : Int32)), (.ref b50)]))
  have cq73 := f71
  obtain ⟨clq73, Arq73, qq73, Sq73, Nq73, Hq73, Gq73⟩ := cq73
  obtain ⟨T74, h74, X74, e74, W74, st74⟩ := stD X72 hx hZ eq72 Arq73 (j := (3 : Int32)) (inb_of Sq73 ⟨by decide, by decide⟩) (g := (mkF m 219 #[.val (.int p0), .val (.long q1), .second, .val (.int p2), .val (.int p3), .val (.int p4), .val (.int sz), .val (.long o1), .second, .val (.ref b1), .val (.long sv), .second, .val (.double (FP.l2d so)), .second, .val (.ref b50), .unset, .unset, .unset, .unset] [(.double (FP.l2d t3)), (.int (3 : Int32)), (.ref b50)])) rfl rfl (hb hby at_219)
  refine OwnGo.of st74 ?_
  have N74 := Fr.snoc X74 N72 g_b50
  have f75 : n0 ≤ h74.size := Nat.le_trans f69 (Keep.of_wr W74).1
  have f76 : Arv Z h74 b1 k1 .long (8 : Int32) [(.long v0), (.long v1), (.long v2), (.long v3), (.long v4), (.long v5), (.long v6), (.long v7)] (.long (0 : Int64)) := f70.other W74 ne_b1_b50
  have f77 : Arv Z h74 b50 k50 .double (10 : Int32) [(.double (FP.l2d t0)), (.double (FP.l2d t1)), (.double (FP.l2d t2)), (.double (FP.l2d t3)), (.double (0 : UInt64)), (.double (0 : UInt64)), (.double (0 : UInt64)), (.double (0 : UInt64)), (.double (0 : UInt64)), (.double (0 : UInt64))] (.double (0 : UInt64)) := Arv.set Arq73 qq73 Sq73 Nq73 Hq73 Gq73 rfl W74 3 rfl (Nat.le_of_ble_eq_true rfl)
  show OwnGo p.tables e below _ (T74.setTop (mkF m 220 #[.val (.int p0), .val (.long q1), .second, .val (.int p2), .val (.int p3), .val (.int p4), .val (.int sz), .val (.long o1), .second, .val (.ref b1), .val (.long sv), .second, .val (.double (FP.l2d so)), .second, .val (.ref b50), .unset, .unset, .unset, .unset] []))
  refine OwnGo.of (A := T74.setTop (mkF m 220 #[.val (.int p0), .val (.long q1), .second, .val (.int p2), .val (.int p3), .val (.int p4), .val (.int sz), .val (.long o1), .second, .val (.ref b1), .val (.long sv), .second, .val (.double (FP.l2d so)), .second, .val (.ref b50), .unset, .unset, .unset, .unset] [])) (B := T74.setTop (mkF m 230 #[.val (.int p0), .val (.long q1), .second, .val (.int p2), .val (.int p3), .val (.int p4), .val (.int sz), .val (.long o1), .second, .val (.ref b1), .val (.long sv), .second, .val (.double (FP.l2d so)), .second, .val (.ref b50), .unset, .unset, .unset, .unset] [(.double (FP.l2d so)), (.int sz), (.int (4 : Int32)), (.ref b1), (.int (4 : Int32)), (.ref b50)])) (fun t k => ?_) ?_
  · show Steps p.tables e below (T74.setTop (mkF m 220 #[.val (.int p0), .val (.long q1), .second, .val (.int p2), .val (.int p3), .val (.int p4), .val (.int sz), .val (.long o1), .second, .val (.ref b1), .val (.long sv), .second, .val (.double (FP.l2d so)), .second, .val (.ref b50), .unset, .unset, .unset, .unset] [])) t
    refine XS.aload X74.here hx rfl (hb hby at_220) rfl rfl ?_
    refine XS.iconst X74.here hx rfl (hb hby at_222) ?_
    refine XS.aload X74.here hx rfl (hb hby at_223) rfl rfl ?_
    refine XS.iconst X74.here hx rfl (hb hby at_225) ?_
    refine XS.iload X74.here hx rfl (hb hby at_226) rfl ?_
    refine XS.dload X74.here hx rfl (hb hby at_228) rfl ?_
    exact k
  obtain ⟨T78, L78, v78, X78, hQ78, st78⟩ := own_callS X74 hx (y := (⟨"com/example/rankwright/rankwright/rank/AccumulatorSiftDownPinLaw", "slot", "([JIID)D"⟩ : MethodName)) hown (mvT hZ (hw _ (List.mem_of_getElem? (i := 8) rfl))) (mvT hZ (hw _ (List.mem_of_getElem? (i := 9) rfl))) (mvT hZ (hw _ (List.mem_of_getElem? (i := 3) rfl))) (mvT hZ (hw _ (List.mem_of_getElem? (i := 10) rfl))) (by decide) (backOf (W := 2) (rms_4 l Z aw hw [] b1 sz so v0 v1 v2 v3 v4 v5 v6 v7 k1 h74 n0 f75 f76) hZ (hw _ (List.mem_of_getElem? (i := 10) rfl)) (hw _ (List.mem_of_getElem? (i := 3) rfl)) (by decide) (by decide)) (g := (mkF m 230 #[.val (.int p0), .val (.long q1), .second, .val (.int p2), .val (.int p3), .val (.int p4), .val (.int sz), .val (.long o1), .second, .val (.ref b1), .val (.long sv), .second, .val (.double (FP.l2d so)), .second, .val (.ref b50), .unset, .unset, .unset, .unset] [(.double (FP.l2d so)), (.int sz), (.int (4 : Int32)), (.ref b1), (.int (4 : Int32)), (.ref b50)])) rfl (by rw [hml]; rfl) (argsL := [(.ref b1), (.int (4 : Int32)), (.int sz), (.double (FP.l2d so))]) (rest := [(.int (4 : Int32)), (.ref b50)]) (lenOf pd_4 rfl) rfl (by show 2 * 0 + _ ≤ _; exact Nat.le_of_eq rfl) (hb hby at_230) rfl e74 (by decide) (by decide)
  obtain ⟨rfl, N78q, eq78⟩ := hQ78
  have N78 := Fr.app N74 N78q
  refine OwnGo.of st78 ?_
  show OwnGo p.tables e below _ (T78.setTop (mkF m 233 #[.val (.int p0), .val (.long q1), .second, .val (.int p2), .val (.int p3), .val (.int p4), .val (.int sz), .val (.long o1), .second, .val (.ref b1), .val (.long sv), .second, .val (.double (FP.l2d so)), .second, .val (.ref b50), .unset, .unset, .unset, .unset] [(.double (FP.l2d (if (4 : Int32) < sz then v4 else so))), (.int (4 : Int32)), (.ref b50)]))
  obtain ⟨t4, qt4⟩ : ∃ z, z = (if (4 : Int32) < sz then v4 else so) := ⟨_, rfl⟩
  rw [← qt4]
  show OwnGo p.tables e below _ (T78.setTop (mkF m 233 #[.val (.int p0), .val (.long q1), .second, .val (.int p2), .val (.int p3), .val (.int p4), .val (.int sz), .val (.long o1), .second, .val (.ref b1), .val (.long sv), .second, .val (.double (FP.l2d so)), .second, .val (.ref b50), .unset, .unset, .unset, .unset] [(.double (FP.l2d t4)), (.int (4 : Int32)), (.ref b50)]))
  have cq79 := f77
  obtain ⟨clq79, Arq79, qq79, Sq79, Nq79, Hq79, Gq79⟩ := cq79
  obtain ⟨T80, h80, X80, e80, W80, st80⟩ := stD X78 hx hZ eq78 Arq79 (j := (4 : Int32)) (inb_of Sq79 ⟨by decide, by decide⟩) (g := (mkF m 233 #[.val (.int p0), .val (.long q1), .second, .val (.int p2), .val (.int p3), .val (.int p4), .val (.int sz), .val (.long o1), .second, .val (.ref b1), .val (.long sv), .second, .val (.double (FP.l2d so)), .second, .val (.ref b50), .unset, .unset, .unset, .unset] [(.double (FP.l2d t4)), (.int (4 : Int32)), (.ref b50)])) rfl rfl (hb hby at_233)
  refine OwnGo.of st80 ?_
  have N80 := Fr.snoc X80 N78 g_b50
  have f81 : n0 ≤ h80.size := Nat.le_trans f75 (Keep.of_wr W80).1
  have f82 : Arv Z h80 b1 k1 .long (8 : Int32) [(.long v0), (.long v1), (.long v2), (.long v3), (.long v4), (.long v5), (.long v6), (.long v7)] (.long (0 : Int64)) := f76.other W80 ne_b1_b50
  have f83 : Arv Z h80 b50 k50 .double (10 : Int32) [(.double (FP.l2d t0)), (.double (FP.l2d t1)), (.double (FP.l2d t2)), (.double (FP.l2d t3)), (.double (FP.l2d t4)), (.double (0 : UInt64)), (.double (0 : UInt64)), (.double (0 : UInt64)), (.double (0 : UInt64)), (.double (0 : UInt64))] (.double (0 : UInt64)) := Arv.set Arq79 qq79 Sq79 Nq79 Hq79 Gq79 rfl W80 4 rfl (Nat.le_of_ble_eq_true rfl)
  show OwnGo p.tables e below _ (T80.setTop (mkF m 234 #[.val (.int p0), .val (.long q1), .second, .val (.int p2), .val (.int p3), .val (.int p4), .val (.int sz), .val (.long o1), .second, .val (.ref b1), .val (.long sv), .second, .val (.double (FP.l2d so)), .second, .val (.ref b50), .unset, .unset, .unset, .unset] []))
  refine OwnGo.of (A := T80.setTop (mkF m 234 #[.val (.int p0), .val (.long q1), .second, .val (.int p2), .val (.int p3), .val (.int p4), .val (.int sz), .val (.long o1), .second, .val (.ref b1), .val (.long sv), .second, .val (.double (FP.l2d so)), .second, .val (.ref b50), .unset, .unset, .unset, .unset] [])) (B := T80.setTop (mkF m 244 #[.val (.int p0), .val (.long q1), .second, .val (.int p2), .val (.int p3), .val (.int p4), .val (.int sz), .val (.long o1), .second, .val (.ref b1), .val (.long sv), .second, .val (.double (FP.l2d so)), .second, .val (.ref b50), .unset, .unset, .unset, .unset] [(.double (FP.l2d so)), (.int sz), (.int (5 : Int32)), (.ref b1), (.int (5 : Int32)), (.ref b50)])) (fun t k => ?_) ?_
  · show Steps p.tables e below (T80.setTop (mkF m 234 #[.val (.int p0), .val (.long q1), .second, .val (.int p2), .val (.int p3), .val (.int p4), .val (.int sz), .val (.long o1), .second, .val (.ref b1), .val (.long sv), .second, .val (.double (FP.l2d so)), .second, .val (.ref b50), .unset, .unset, .unset, .unset] [])) t
    refine XS.aload X80.here hx rfl (hb hby at_234) rfl rfl ?_
    refine XS.iconst X80.here hx rfl (hb hby at_236) ?_
    refine XS.aload X80.here hx rfl (hb hby at_237) rfl rfl ?_
    refine XS.iconst X80.here hx rfl (hb hby at_239) ?_
    refine XS.iload X80.here hx rfl (hb hby at_240) rfl ?_
    refine XS.dload X80.here hx rfl (hb hby at_242) rfl ?_
    exact k
  obtain ⟨T84, L84, v84, X84, hQ84, st84⟩ := own_callS X80 hx (y := (⟨"com/example/rankwright/rankwright/rank/AccumulatorSiftDownPinLaw", "slot", "([JIID)D"⟩ : MethodName)) hown (mvT hZ (hw _ (List.mem_of_getElem? (i := 8) rfl))) (mvT hZ (hw _ (List.mem_of_getElem? (i := 9) rfl))) (mvT hZ (hw _ (List.mem_of_getElem? (i := 3) rfl))) (mvT hZ (hw _ (List.mem_of_getElem? (i := 10) rfl))) (by decide) (backOf (W := 2) (rms_5 l Z aw hw [] b1 sz so v0 v1 v2 v3 v4 v5 v6 v7 k1 h80 n0 f81 f82) hZ (hw _ (List.mem_of_getElem? (i := 10) rfl)) (hw _ (List.mem_of_getElem? (i := 3) rfl)) (by decide) (by decide)) (g := (mkF m 244 #[.val (.int p0), .val (.long q1), .second, .val (.int p2), .val (.int p3), .val (.int p4), .val (.int sz), .val (.long o1), .second, .val (.ref b1), .val (.long sv), .second, .val (.double (FP.l2d so)), .second, .val (.ref b50), .unset, .unset, .unset, .unset] [(.double (FP.l2d so)), (.int sz), (.int (5 : Int32)), (.ref b1), (.int (5 : Int32)), (.ref b50)])) rfl (by rw [hml]; rfl) (argsL := [(.ref b1), (.int (5 : Int32)), (.int sz), (.double (FP.l2d so))]) (rest := [(.int (5 : Int32)), (.ref b50)]) (lenOf pd_4 rfl) rfl (by show 2 * 0 + _ ≤ _; exact Nat.le_of_eq rfl) (hb hby at_244) rfl e80 (by decide) (by decide)
  obtain ⟨rfl, N84q, eq84⟩ := hQ84
  have N84 := Fr.app N80 N84q
  refine OwnGo.of st84 ?_
  show OwnGo p.tables e below _ (T84.setTop (mkF m 247 #[.val (.int p0), .val (.long q1), .second, .val (.int p2), .val (.int p3), .val (.int p4), .val (.int sz), .val (.long o1), .second, .val (.ref b1), .val (.long sv), .second, .val (.double (FP.l2d so)), .second, .val (.ref b50), .unset, .unset, .unset, .unset] [(.double (FP.l2d (if (5 : Int32) < sz then v5 else so))), (.int (5 : Int32)), (.ref b50)]))
  obtain ⟨t5, qt5⟩ : ∃ z, z = (if (5 : Int32) < sz then v5 else so) := ⟨_, rfl⟩
  rw [← qt5]
  show OwnGo p.tables e below _ (T84.setTop (mkF m 247 #[.val (.int p0), .val (.long q1), .second, .val (.int p2), .val (.int p3), .val (.int p4), .val (.int sz), .val (.long o1), .second, .val (.ref b1), .val (.long sv), .second, .val (.double (FP.l2d so)), .second, .val (.ref b50), .unset, .unset, .unset, .unset] [(.double (FP.l2d t5)), (.int (5 : Int32)), (.ref b50)]))
  have cq85 := f83
  obtain ⟨clq85, Arq85, qq85, Sq85, Nq85, Hq85, Gq85⟩ := cq85
  obtain ⟨T86, h86, X86, e86, W86, st86⟩ := stD X84 hx hZ eq84 Arq85 (j := (5 : Int32)) (inb_of Sq85 ⟨by decide, by decide⟩) (g := (mkF m 247 #[.val (.int p0), .val (.long q1), .second, .val (.int p2), .val (.int p3), .val (.int p4), .val (.int sz), .val (.long o1), .second, .val (.ref b1), .val (.long sv), .second, .val (.double (FP.l2d so)), .second, .val (.ref b50), .unset, .unset, .unset, .unset] [(.double (FP.l2d t5)), (.int (5 : Int32)), (.ref b50)])) rfl rfl (hb hby at_247)
  refine OwnGo.of st86 ?_
  have N86 := Fr.snoc X86 N84 g_b50
  have f87 : n0 ≤ h86.size := Nat.le_trans f81 (Keep.of_wr W86).1
  have f88 : Arv Z h86 b1 k1 .long (8 : Int32) [(.long v0), (.long v1), (.long v2), (.long v3), (.long v4), (.long v5), (.long v6), (.long v7)] (.long (0 : Int64)) := f82.other W86 ne_b1_b50
  have f89 : Arv Z h86 b50 k50 .double (10 : Int32) [(.double (FP.l2d t0)), (.double (FP.l2d t1)), (.double (FP.l2d t2)), (.double (FP.l2d t3)), (.double (FP.l2d t4)), (.double (FP.l2d t5)), (.double (0 : UInt64)), (.double (0 : UInt64)), (.double (0 : UInt64)), (.double (0 : UInt64))] (.double (0 : UInt64)) := Arv.set Arq85 qq85 Sq85 Nq85 Hq85 Gq85 rfl W86 5 rfl (Nat.le_of_ble_eq_true rfl)
  show OwnGo p.tables e below _ (T86.setTop (mkF m 248 #[.val (.int p0), .val (.long q1), .second, .val (.int p2), .val (.int p3), .val (.int p4), .val (.int sz), .val (.long o1), .second, .val (.ref b1), .val (.long sv), .second, .val (.double (FP.l2d so)), .second, .val (.ref b50), .unset, .unset, .unset, .unset] []))
  refine OwnGo.of (A := T86.setTop (mkF m 248 #[.val (.int p0), .val (.long q1), .second, .val (.int p2), .val (.int p3), .val (.int p4), .val (.int sz), .val (.long o1), .second, .val (.ref b1), .val (.long sv), .second, .val (.double (FP.l2d so)), .second, .val (.ref b50), .unset, .unset, .unset, .unset] [])) (B := T86.setTop (mkF m 260 #[.val (.int p0), .val (.long q1), .second, .val (.int p2), .val (.int p3), .val (.int p4), .val (.int sz), .val (.long o1), .second, .val (.ref b1), .val (.long sv), .second, .val (.double (FP.l2d so)), .second, .val (.ref b50), .unset, .unset, .unset, .unset] [(.double (FP.l2d so)), (.int sz), (.int (6 : Int32)), (.ref b1), (.int (6 : Int32)), (.ref b50)])) (fun t k => ?_) ?_
  · show Steps p.tables e below (T86.setTop (mkF m 248 #[.val (.int p0), .val (.long q1), .second, .val (.int p2), .val (.int p3), .val (.int p4), .val (.int sz), .val (.long o1), .second, .val (.ref b1), .val (.long sv), .second, .val (.double (FP.l2d so)), .second, .val (.ref b50), .unset, .unset, .unset, .unset] [])) t
    refine XS.aload X86.here hx rfl (hb hby at_248) rfl rfl ?_
    refine XS.bipush X86.here hx rfl (hb hby at_250) ?_
    refine XS.aload X86.here hx rfl (hb hby at_252) rfl rfl ?_
    refine XS.bipush X86.here hx rfl (hb hby at_254) ?_
    refine XS.iload X86.here hx rfl (hb hby at_256) rfl ?_
    refine XS.dload X86.here hx rfl (hb hby at_258) rfl ?_
    exact k
  obtain ⟨T90, L90, v90, X90, hQ90, st90⟩ := own_callS X86 hx (y := (⟨"com/example/rankwright/rankwright/rank/AccumulatorSiftDownPinLaw", "slot", "([JIID)D"⟩ : MethodName)) hown (mvT hZ (hw _ (List.mem_of_getElem? (i := 8) rfl))) (mvT hZ (hw _ (List.mem_of_getElem? (i := 9) rfl))) (mvT hZ (hw _ (List.mem_of_getElem? (i := 3) rfl))) (mvT hZ (hw _ (List.mem_of_getElem? (i := 10) rfl))) (by decide) (backOf (W := 2) (rms_6 l Z aw hw [] b1 sz so v0 v1 v2 v3 v4 v5 v6 v7 k1 h86 n0 f87 f88) hZ (hw _ (List.mem_of_getElem? (i := 10) rfl)) (hw _ (List.mem_of_getElem? (i := 3) rfl)) (by decide) (by decide)) (g := (mkF m 260 #[.val (.int p0), .val (.long q1), .second, .val (.int p2), .val (.int p3), .val (.int p4), .val (.int sz), .val (.long o1), .second, .val (.ref b1), .val (.long sv), .second, .val (.double (FP.l2d so)), .second, .val (.ref b50), .unset, .unset, .unset, .unset] [(.double (FP.l2d so)), (.int sz), (.int (6 : Int32)), (.ref b1), (.int (6 : Int32)), (.ref b50)])) rfl (by rw [hml]; rfl) (argsL := [(.ref b1), (.int (6 : Int32)), (.int sz), (.double (FP.l2d so))]) (rest := [(.int (6 : Int32)), (.ref b50)]) (lenOf pd_4 rfl) rfl (by show 2 * 0 + _ ≤ _; exact Nat.le_of_eq rfl) (hb hby at_260) rfl e86 (by decide) (by decide)
  obtain ⟨rfl, N90q, eq90⟩ := hQ90
  have N90 := Fr.app N86 N90q
  refine OwnGo.of st90 ?_
  show OwnGo p.tables e below _ (T90.setTop (mkF m 263 #[.val (.int p0), .val (.long q1), .second, .val (.int p2), .val (.int p3), .val (.int p4), .val (.int sz), .val (.long o1), .second, .val (.ref b1), .val (.long sv), .second, .val (.double (FP.l2d so)), .second, .val (.ref b50), .unset, .unset, .unset, .unset] [(.double (FP.l2d (if (6 : Int32) < sz then v6 else so))), (.int (6 : Int32)), (.ref b50)]))
  obtain ⟨t6, qt6⟩ : ∃ z, z = (if (6 : Int32) < sz then v6 else so) := ⟨_, rfl⟩
  rw [← qt6]
  show OwnGo p.tables e below _ (T90.setTop (mkF m 263 #[.val (.int p0), .val (.long q1), .second, .val (.int p2), .val (.int p3), .val (.int p4), .val (.int sz), .val (.long o1), .second, .val (.ref b1), .val (.long sv), .second, .val (.double (FP.l2d so)), .second, .val (.ref b50), .unset, .unset, .unset, .unset] [(.double (FP.l2d t6)), (.int (6 : Int32)), (.ref b50)]))
  have cq91 := f89
  obtain ⟨clq91, Arq91, qq91, Sq91, Nq91, Hq91, Gq91⟩ := cq91
  obtain ⟨T92, h92, X92, e92, W92, st92⟩ := stD X90 hx hZ eq90 Arq91 (j := (6 : Int32)) (inb_of Sq91 ⟨by decide, by decide⟩) (g := (mkF m 263 #[.val (.int p0), .val (.long q1), .second, .val (.int p2), .val (.int p3), .val (.int p4), .val (.int sz), .val (.long o1), .second, .val (.ref b1), .val (.long sv), .second, .val (.double (FP.l2d so)), .second, .val (.ref b50), .unset, .unset, .unset, .unset] [(.double (FP.l2d t6)), (.int (6 : Int32)), (.ref b50)])) rfl rfl (hb hby at_263)
  refine OwnGo.of st92 ?_
  have N92 := Fr.snoc X92 N90 g_b50
  have f93 : n0 ≤ h92.size := Nat.le_trans f87 (Keep.of_wr W92).1
  have f94 : Arv Z h92 b1 k1 .long (8 : Int32) [(.long v0), (.long v1), (.long v2), (.long v3), (.long v4), (.long v5), (.long v6), (.long v7)] (.long (0 : Int64)) := f88.other W92 ne_b1_b50
  have f95 : Arv Z h92 b50 k50 .double (10 : Int32) [(.double (FP.l2d t0)), (.double (FP.l2d t1)), (.double (FP.l2d t2)), (.double (FP.l2d t3)), (.double (FP.l2d t4)), (.double (FP.l2d t5)), (.double (FP.l2d t6)), (.double (0 : UInt64)), (.double (0 : UInt64)), (.double (0 : UInt64))] (.double (0 : UInt64)) := Arv.set Arq91 qq91 Sq91 Nq91 Hq91 Gq91 rfl W92 6 rfl (Nat.le_of_ble_eq_true rfl)
  show OwnGo p.tables e below _ (T92.setTop (mkF m 264 #[.val (.int p0), .val (.long q1), .second, .val (.int p2), .val (.int p3), .val (.int p4), .val (.int sz), .val (.long o1), .second, .val (.ref b1), .val (.long sv), .second, .val (.double (FP.l2d so)), .second, .val (.ref b50), .unset, .unset, .unset, .unset] []))
  refine OwnGo.of (A := T92.setTop (mkF m 264 #[.val (.int p0), .val (.long q1), .second, .val (.int p2), .val (.int p3), .val (.int p4), .val (.int sz), .val (.long o1), .second, .val (.ref b1), .val (.long sv), .second, .val (.double (FP.l2d so)), .second, .val (.ref b50), .unset, .unset, .unset, .unset] [])) (B := T92.setTop (mkF m 276 #[.val (.int p0), .val (.long q1), .second, .val (.int p2), .val (.int p3), .val (.int p4), .val (.int sz), .val (.long o1), .second, .val (.ref b1), .val (.long sv), .second, .val (.double (FP.l2d so)), .second, .val (.ref b50), .unset, .unset, .unset, .unset] [(.double (FP.l2d so)), (.int sz), (.int (7 : Int32)), (.ref b1), (.int (7 : Int32)), (.ref b50)])) (fun t k => ?_) ?_
  · show Steps p.tables e below (T92.setTop (mkF m 264 #[.val (.int p0), .val (.long q1), .second, .val (.int p2), .val (.int p3), .val (.int p4), .val (.int sz), .val (.long o1), .second, .val (.ref b1), .val (.long sv), .second, .val (.double (FP.l2d so)), .second, .val (.ref b50), .unset, .unset, .unset, .unset] [])) t
    refine XS.aload X92.here hx rfl (hb hby at_264) rfl rfl ?_
    refine XS.bipush X92.here hx rfl (hb hby at_266) ?_
    refine XS.aload X92.here hx rfl (hb hby at_268) rfl rfl ?_
    refine XS.bipush X92.here hx rfl (hb hby at_270) ?_
    refine XS.iload X92.here hx rfl (hb hby at_272) rfl ?_
    refine XS.dload X92.here hx rfl (hb hby at_274) rfl ?_
    exact k
  obtain ⟨T96, L96, v96, X96, hQ96, st96⟩ := own_callS X92 hx (y := (⟨"com/example/rankwright/rankwright/rank/AccumulatorSiftDownPinLaw", "slot", "([JIID)D"⟩ : MethodName)) hown (mvT hZ (hw _ (List.mem_of_getElem? (i := 8) rfl))) (mvT hZ (hw _ (List.mem_of_getElem? (i := 9) rfl))) (mvT hZ (hw _ (List.mem_of_getElem? (i := 3) rfl))) (mvT hZ (hw _ (List.mem_of_getElem? (i := 10) rfl))) (by decide) (backOf (W := 2) (rms_7 l Z aw hw [] b1 sz so v0 v1 v2 v3 v4 v5 v6 v7 k1 h92 n0 f93 f94) hZ (hw _ (List.mem_of_getElem? (i := 10) rfl)) (hw _ (List.mem_of_getElem? (i := 3) rfl)) (by decide) (by decide)) (g := (mkF m 276 #[.val (.int p0), .val (.long q1), .second, .val (.int p2), .val (.int p3), .val (.int p4), .val (.int sz), .val (.long o1), .second, .val (.ref b1), .val (.long sv), .second, .val (.double (FP.l2d so)), .second, .val (.ref b50), .unset, .unset, .unset, .unset] [(.double (FP.l2d so)), (.int sz), (.int (7 : Int32)), (.ref b1), (.int (7 : Int32)), (.ref b50)])) rfl (by rw [hml]; rfl) (argsL := [(.ref b1), (.int (7 : Int32)), (.int sz), (.double (FP.l2d so))]) (rest := [(.int (7 : Int32)), (.ref b50)]) (lenOf pd_4 rfl) rfl (by show 2 * 0 + _ ≤ _; exact Nat.le_of_eq rfl) (hb hby at_276) rfl e92 (by decide) (by decide)
  obtain ⟨rfl, N96q, eq96⟩ := hQ96
  have N96 := Fr.app N92 N96q
  refine OwnGo.of st96 ?_
  show OwnGo p.tables e below _ (T96.setTop (mkF m 279 #[.val (.int p0), .val (.long q1), .second, .val (.int p2), .val (.int p3), .val (.int p4), .val (.int sz), .val (.long o1), .second, .val (.ref b1), .val (.long sv), .second, .val (.double (FP.l2d so)), .second, .val (.ref b50), .unset, .unset, .unset, .unset] [(.double (FP.l2d (if (7 : Int32) < sz then v7 else so))), (.int (7 : Int32)), (.ref b50)]))
  obtain ⟨t7, qt7⟩ : ∃ z, z = (if (7 : Int32) < sz then v7 else so) := ⟨_, rfl⟩
  rw [← qt7]
  show OwnGo p.tables e below _ (T96.setTop (mkF m 279 #[.val (.int p0), .val (.long q1), .second, .val (.int p2), .val (.int p3), .val (.int p4), .val (.int sz), .val (.long o1), .second, .val (.ref b1), .val (.long sv), .second, .val (.double (FP.l2d so)), .second, .val (.ref b50), .unset, .unset, .unset, .unset] [(.double (FP.l2d t7)), (.int (7 : Int32)), (.ref b50)]))
  have cq97 := f95
  obtain ⟨clq97, Arq97, qq97, Sq97, Nq97, Hq97, Gq97⟩ := cq97
  obtain ⟨T98, h98, X98, e98, W98, st98⟩ := stD X96 hx hZ eq96 Arq97 (j := (7 : Int32)) (inb_of Sq97 ⟨by decide, by decide⟩) (g := (mkF m 279 #[.val (.int p0), .val (.long q1), .second, .val (.int p2), .val (.int p3), .val (.int p4), .val (.int sz), .val (.long o1), .second, .val (.ref b1), .val (.long sv), .second, .val (.double (FP.l2d so)), .second, .val (.ref b50), .unset, .unset, .unset, .unset] [(.double (FP.l2d t7)), (.int (7 : Int32)), (.ref b50)])) rfl rfl (hb hby at_279)
  refine OwnGo.of st98 ?_
  have N98 := Fr.snoc X98 N96 g_b50
  have f99 : n0 ≤ h98.size := Nat.le_trans f93 (Keep.of_wr W98).1
  have f100 : Arv Z h98 b1 k1 .long (8 : Int32) [(.long v0), (.long v1), (.long v2), (.long v3), (.long v4), (.long v5), (.long v6), (.long v7)] (.long (0 : Int64)) := f94.other W98 ne_b1_b50
  have f101 : Arv Z h98 b50 k50 .double (10 : Int32) [(.double (FP.l2d t0)), (.double (FP.l2d t1)), (.double (FP.l2d t2)), (.double (FP.l2d t3)), (.double (FP.l2d t4)), (.double (FP.l2d t5)), (.double (FP.l2d t6)), (.double (FP.l2d t7)), (.double (0 : UInt64)), (.double (0 : UInt64))] (.double (0 : UInt64)) := Arv.set Arq97 qq97 Sq97 Nq97 Hq97 Gq97 rfl W98 7 rfl (Nat.le_of_ble_eq_true rfl)
  show OwnGo p.tables e below _ (T98.setTop (mkF m 280 #[.val (.int p0), .val (.long q1), .second, .val (.int p2), .val (.int p3), .val (.int p4), .val (.int sz), .val (.long o1), .second, .val (.ref b1), .val (.long sv), .second, .val (.double (FP.l2d so)), .second, .val (.ref b50), .unset, .unset, .unset, .unset] []))
  refine OwnGo.of (A := T98.setTop (mkF m 280 #[.val (.int p0), .val (.long q1), .second, .val (.int p2), .val (.int p3), .val (.int p4), .val (.int sz), .val (.long o1), .second, .val (.ref b1), .val (.long sv), .second, .val (.double (FP.l2d so)), .second, .val (.ref b50), .unset, .unset, .unset, .unset] [])) (B := T98.setTop (mkF m 286 #[.val (.int p0), .val (.long q1), .second, .val (.int p2), .val (.int p3), .val (.int p4), .val (.int sz), .val (.long o1), .second, .val (.ref b1), .val (.long sv), .second, .val (.double (FP.l2d so)), .second, .val (.ref b50), .unset, .unset, .unset, .unset] [(.double (FP.l2d so)), (.int (8 : Int32)), (.ref b50)])) (fun t k => ?_) ?_
  · show Steps p.tables e below (T98.setTop (mkF m 280 #[.val (.int p0), .val (.long q1), .second, .val (.int p2), .val (.int p3), .val (.int p4), .val (.int sz), .val (.long o1), .second, .val (.ref b1), .val (.long sv), .second, .val (.double (FP.l2d so)), .second, .val (.ref b50), .unset, .unset, .unset, .unset] [])) t
    refine XS.aload X98.here hx rfl (hb hby at_280) rfl rfl ?_
    refine XS.bipush X98.here hx rfl (hb hby at_282) ?_
    refine XS.dload X98.here hx rfl (hb hby at_284) rfl ?_
    exact k
  have cq102 := f101
  obtain ⟨clq102, Arq102, qq102, Sq102, Nq102, Hq102, Gq102⟩ := cq102
  obtain ⟨T103, h103, X103, e103, W103, st103⟩ := stD X98 hx hZ e98 Arq102 (j := (8 : Int32)) (inb_of Sq102 ⟨by decide, by decide⟩) (g := (mkF m 286 #[.val (.int p0), .val (.long q1), .second, .val (.int p2), .val (.int p3), .val (.int p4), .val (.int sz), .val (.long o1), .second, .val (.ref b1), .val (.long sv), .second, .val (.double (FP.l2d so)), .second, .val (.ref b50), .unset, .unset, .unset, .unset] [(.double (FP.l2d so)), (.int (8 : Int32)), (.ref b50)])) rfl rfl (hb hby at_286)
  refine OwnGo.of st103 ?_
  have N103 := Fr.snoc X103 N98 g_b50
  have f104 : n0 ≤ h103.size := Nat.le_trans f99 (Keep.of_wr W103).1
  have f105 : Arv Z h103 b1 k1 .long (8 : Int32) [(.long v0), (.long v1), (.long v2), (.long v3), (.long v4), (.long v5), (.long v6), (.long v7)] (.long (0 : Int64)) := f100.other W103 ne_b1_b50
  have f106 : Arv Z h103 b50 k50 .double (10 : Int32) [(.double (FP.l2d t0)), (.double (FP.l2d t1)), (.double (FP.l2d t2)), (.double (FP.l2d t3)), (.double (FP.l2d t4)), (.double (FP.l2d t5)), (.double (FP.l2d t6)), (.double (FP.l2d t7)), (.double (FP.l2d so)), (.double (0 : UInt64))] (.double (0 : UInt64)) := Arv.set Arq102 qq102 Sq102 Nq102 Hq102 Gq102 rfl W103 8 rfl (Nat.le_of_ble_eq_true rfl)
  show OwnGo p.tables e below _ (T103.setTop (mkF m 287 #[.val (.int p0), .val (.long q1), .second, .val (.int p2), .val (.int p3), .val (.int p4), .val (.int sz), .val (.long o1), .second, .val (.ref b1), .val (.long sv), .second, .val (.double (FP.l2d so)), .second, .val (.ref b50), .unset, .unset, .unset, .unset] []))
  refine OwnGo.of (A := T103.setTop (mkF m 287 #[.val (.int p0), .val (.long q1), .second, .val (.int p2), .val (.int p3), .val (.int p4), .val (.int sz), .val (.long o1), .second, .val (.ref b1), .val (.long sv), .second, .val (.double (FP.l2d so)), .second, .val (.ref b50), .unset, .unset, .unset, .unset] [])) (B := T103.setTop (mkF m 293 #[.val (.int p0), .val (.long q1), .second, .val (.int p2), .val (.int p3), .val (.int p4), .val (.int sz), .val (.long o1), .second, .val (.ref b1), .val (.long sv), .second, .val (.double (FP.l2d so)), .second, .val (.ref b50), .unset, .unset, .unset, .unset] [(.double (FP.l2d so)), (.int (9 : Int32)), (.ref b50)])) (fun t k => ?_) ?_
  · show Steps p.tables e below (T103.setTop (mkF m 287 #[.val (.int p0), .val (.long q1), .second, .val (.int p2), .val (.int p3), .val (.int p4), .val (.int sz), .val (.long o1), .second, .val (.ref b1), .val (.long sv), .second, .val (.double (FP.l2d so)), .second, .val (.ref b50), .unset, .unset, .unset, .unset] [])) t
    refine XS.aload X103.here hx rfl (hb hby at_287) rfl rfl ?_
    refine XS.bipush X103.here hx rfl (hb hby at_289) ?_
    refine XS.dload X103.here hx rfl (hb hby at_291) rfl ?_
    exact k
  have cq107 := f106
  obtain ⟨clq107, Arq107, qq107, Sq107, Nq107, Hq107, Gq107⟩ := cq107
  obtain ⟨T108, h108, X108, e108, W108, st108⟩ := stD X103 hx hZ e103 Arq107 (j := (9 : Int32)) (inb_of Sq107 ⟨by decide, by decide⟩) (g := (mkF m 293 #[.val (.int p0), .val (.long q1), .second, .val (.int p2), .val (.int p3), .val (.int p4), .val (.int sz), .val (.long o1), .second, .val (.ref b1), .val (.long sv), .second, .val (.double (FP.l2d so)), .second, .val (.ref b50), .unset, .unset, .unset, .unset] [(.double (FP.l2d so)), (.int (9 : Int32)), (.ref b50)])) rfl rfl (hb hby at_293)
  refine OwnGo.of st108 ?_
  have N108 := Fr.snoc X108 N103 g_b50
  have f109 : n0 ≤ h108.size := Nat.le_trans f104 (Keep.of_wr W108).1
  have f110 : Arv Z h108 b1 k1 .long (8 : Int32) [(.long v0), (.long v1), (.long v2), (.long v3), (.long v4), (.long v5), (.long v6), (.long v7)] (.long (0 : Int64)) := f105.other W108 ne_b1_b50
  have f111 : Arv Z h108 b50 k50 .double (10 : Int32) [(.double (FP.l2d t0)), (.double (FP.l2d t1)), (.double (FP.l2d t2)), (.double (FP.l2d t3)), (.double (FP.l2d t4)), (.double (FP.l2d t5)), (.double (FP.l2d t6)), (.double (FP.l2d t7)), (.double (FP.l2d so)), (.double (FP.l2d so))] (.double (0 : UInt64)) := Arv.set Arq107 qq107 Sq107 Nq107 Hq107 Gq107 rfl W108 9 rfl (Nat.le_of_ble_eq_true rfl)
  show OwnGo p.tables e below _ (T108.setTop (mkF m 294 #[.val (.int p0), .val (.long q1), .second, .val (.int p2), .val (.int p3), .val (.int p4), .val (.int sz), .val (.long o1), .second, .val (.ref b1), .val (.long sv), .second, .val (.double (FP.l2d so)), .second, .val (.ref b50), .unset, .unset, .unset, .unset] []))
  refine OwnGo.of (A := T108.setTop (mkF m 294 #[.val (.int p0), .val (.long q1), .second, .val (.int p2), .val (.int p3), .val (.int p4), .val (.int sz), .val (.long o1), .second, .val (.ref b1), .val (.long sv), .second, .val (.double (FP.l2d so)), .second, .val (.ref b50), .unset, .unset, .unset, .unset] [])) (B := T108.setTop (mkF m 301 #[.val (.int p0), .val (.long q1), .second, .val (.int p2), .val (.int p3), .val (.int p4), .val (.int sz), .val (.long o1), .second, .val (.ref b1), .val (.long sv), .second, .val (.double (FP.l2d so)), .second, .val (.ref b50), .unset, .unset, .unset, .unset] [(.double (FP.l2d sv)), (.int sz), (.ref b50)])) (fun t k => ?_) ?_
  · show Steps p.tables e below (T108.setTop (mkF m 294 #[.val (.int p0), .val (.long q1), .second, .val (.int p2), .val (.int p3), .val (.int p4), .val (.int sz), .val (.long o1), .second, .val (.ref b1), .val (.long sv), .second, .val (.double (FP.l2d so)), .second, .val (.ref b50), .unset, .unset, .unset, .unset] [])) t
    refine XS.aload X108.here hx rfl (hb hby at_294) rfl rfl ?_
    refine XS.iload X108.here hx rfl (hb hby at_296) rfl ?_
    refine XS.lload X108.here hx rfl (hb hby at_298) rfl ?_
    refine XS.l2dS X108.here hx rfl (hb hby at_300) rfl rfl ?_
    exact k
  have Bv0 : B53 v0 := own_B (by omega)
  have Bv1 : B53 v1 := own_B (by omega)
  have Bv2 : B53 v2 := own_B (by omega)
  have Bv3 : B53 v3 := own_B (by omega)
  have Bv4 : B53 v4 := own_B (by omega)
  have Bv5 : B53 v5 := own_B (by omega)
  have Bv6 : B53 v6 := own_B (by omega)
  have Bv7 : B53 v7 := own_B (by omega)
  have Bso : B53 so := own_B (by omega)
  have Bsv : B53 sv := own_B (by omega)
  have Bt0 : B53 t0 := by rw [qt0]; exact own_if _ Bv0 Bso
  have Bt1 : B53 t1 := by rw [qt1]; exact own_if _ Bv1 Bso
  have Bt2 : B53 t2 := by rw [qt2]; exact own_if _ Bv2 Bso
  have Bt3 : B53 t3 := by rw [qt3]; exact own_if _ Bv3 Bso
  have Bt4 : B53 t4 := by rw [qt4]; exact own_if _ Bv4 Bso
  have Bt5 : B53 t5 := by rw [qt5]; exact own_if _ Bv5 Bso
  have Bt6 : B53 t6 := by rw [qt6]; exact own_if _ Bv6 Bso
  have Bt7 : B53 t7 := by rw [qt7]; exact own_if _ Bv7 Bso
  have BF := own_mkB Bt0 Bt1 Bt2 Bt3 Bt4 Bt5 Bt6 Bt7 Bso
  obtain ⟨T112, L112, v112, X112, hQ112, st112⟩ := own_callS X108 hx (y := (⟨"com/example/rankwright/rankwright/rank/Accumulator", "siftDown", "([DID)V"⟩ : MethodName)) hown (mvT hZ (hw _ (List.mem_of_getElem? (i := 11) rfl))) (mvT hZ (hw _ (List.mem_of_getElem? (i := 12) rfl))) (mvT hZ (hw _ (List.mem_of_getElem? (i := 13) rfl))) (mvT hZ (hw _ (List.mem_of_getElem? (i := 14) rfl))) (by decide) (backOf (W := 0) (rmd l Z aw hw [] b50 sz sv (own_mkF t0 t1 t2 t3 t4 t5 t6 t7 so) k50 nn h108 n0 f109 f111 g_b50 Bsv BF hp hn) hZ (hw _ (List.mem_of_getElem? (i := 14) rfl)) (hw _ (List.mem_of_getElem? (i := 13) rfl)) (by decide) (by decide)) (g := (mkF m 301 #[.val (.int p0), .val (.long q1), .second, .val (.int p2), .val (.int p3), .val (.int p4), .val (.int sz), .val (.long o1), .second, .val (.ref b1), .val (.long sv), .second, .val (.double (FP.l2d so)), .second, .val (.ref b50), .unset, .unset, .unset, .unset] [(.double (FP.l2d sv)), (.int sz), (.ref b50)])) rfl (by rw [hml]; rfl) (argsL := [(.ref b50), (.int sz), (.double (FP.l2d sv))]) (rest := []) (lenOf pd_5 rfl) rfl (by show 2 * 0 + _ ≤ _; exact Nat.le_of_eq rfl) (hb hby at_301) rfl e108 (by decide) (by decide)
  obtain ⟨rfl, N112q, K112, VG⟩ := hQ112
  have f113 : n0 ≤ T112.heap.size := Nat.le_trans f109 K112.1
  have f114 : Arv Z T112.heap b1 k1 .long (8 : Int32) [(.long v0), (.long v1), (.long v2), (.long v3), (.long v4), (.long v5), (.long v6), (.long v7)] (.long (0 : Int64)) := f110.keep K112 (ninS ne_b1_b50 nin0)
  obtain ⟨G, hG⟩ : ∃ z, z = own_sift 4 nn sv 0 (own_mkF t0 t1 t2 t3 t4 t5 t6 t7 so) := ⟨_, rfl⟩
  rw [← hG] at VG
  have BG : ∀ j, B53 (G j) := by rw [hG]; exact own_siftB 4 nn sv Bsv 0 _ BF
  have hord := own_ords hp hn hG qt0 qt1 qt2 qt3 qt4 qt5 qt6 qt7 BG w3.1 w4.1 w5.1 w6.1 w7.1
  have hkep := own_keeps hp hn hG qt0 qt1 qt2 qt3 qt4 qt5 qt6 qt7 Bso
  have hsum := own_sums hp hn hG qt0 qt1 qt2 qt3 qt4 qt5 qt6 qt7 o1
  have N112 := Fr.app N108 N112q
  refine OwnGo.of st112 ?_
  show OwnGo p.tables e below _ (T112.setTop (mkF m 304 #[.val (.int p0), .val (.long q1), .second, .val (.int p2), .val (.int p3), .val (.int p4), .val (.int sz), .val (.long o1), .second, .val (.ref b1), .val (.long sv), .second, .val (.double (FP.l2d so)), .second, .val (.ref b50), .unset, .unset, .unset, .unset] []))
  refine OwnGo.of (A := T112.setTop (mkF m 304 #[.val (.int p0), .val (.long q1), .second, .val (.int p2), .val (.int p3), .val (.int p4), .val (.int sz), .val (.long o1), .second, .val (.ref b1), .val (.long sv), .second, .val (.double (FP.l2d so)), .second, .val (.ref b50), .unset, .unset, .unset, .unset] [])) (B := T112.setTop (mkF m 309 #[.val (.int p0), .val (.long q1), .second, .val (.int p2), .val (.int p3), .val (.int p4), .val (.int sz), .val (.long o1), .second, .val (.ref b1), .val (.long sv), .second, .val (.double (FP.l2d so)), .second, .val (.ref b50), .unset, .unset, .unset, .unset] [(.int (1 : Int32)), (.int sz), (.ref b50)])) (fun t k => ?_) ?_
  · show Steps p.tables e below (T112.setTop (mkF m 304 #[.val (.int p0), .val (.long q1), .second, .val (.int p2), .val (.int p3), .val (.int p4), .val (.int sz), .val (.long o1), .second, .val (.ref b1), .val (.long sv), .second, .val (.double (FP.l2d so)), .second, .val (.ref b50), .unset, .unset, .unset, .unset] [])) t
    refine XS.aload X112.here hx rfl (hb hby at_304) rfl rfl ?_
    refine XS.iload X112.here hx rfl (hb hby at_306) rfl ?_
    refine XS.iconst X112.here hx rfl (hb hby at_308) ?_
    exact k
  obtain ⟨T115, L115, v115, X115, hQ115, st115⟩ := own_callS X112 hx (y := (⟨"com/example/rankwright/rankwright/rank/AccumulatorSiftDownPinLaw", "ordered", "([DII)Z"⟩ : MethodName)) hown (mvT hZ (hw _ (List.mem_of_getElem? (i := 15) rfl))) (mvT hZ (hw _ (List.mem_of_getElem? (i := 16) rfl))) (mvT hZ (hw _ (List.mem_of_getElem? (i := 3) rfl))) (mvT hZ (hw _ (List.mem_of_getElem? (i := 17) rfl))) (by decide) (backOf (W := 0) (rmo_1 l Z aw hw [] b50 sz G k50 T112.heap n0 f113 VG (hord 1 (by decide) (by decide))) hZ (hw _ (List.mem_of_getElem? (i := 17) rfl)) (hw _ (List.mem_of_getElem? (i := 3) rfl)) (by decide) (by decide)) (g := (mkF m 309 #[.val (.int p0), .val (.long q1), .second, .val (.int p2), .val (.int p3), .val (.int p4), .val (.int sz), .val (.long o1), .second, .val (.ref b1), .val (.long sv), .second, .val (.double (FP.l2d so)), .second, .val (.ref b50), .unset, .unset, .unset, .unset] [(.int (1 : Int32)), (.int sz), (.ref b50)])) rfl (by rw [hml]; rfl) (argsL := [(.ref b50), (.int sz), (.int (1 : Int32))]) (rest := []) (lenOf pd_6 rfl) rfl (by show 2 * 0 + _ ≤ _; exact Nat.le_of_eq rfl) (hb hby at_309) rfl rfl (by decide) (by decide)
  obtain ⟨rfl, N115q, eq115⟩ := hQ115
  have N115 := Fr.app N112 N115q
  refine OwnGo.of st115 ?_
  show OwnGo p.tables e below _ (T115.setTop (mkF m 312 #[.val (.int p0), .val (.long q1), .second, .val (.int p2), .val (.int p3), .val (.int p4), .val (.int sz), .val (.long o1), .second, .val (.ref b1), .val (.long sv), .second, .val (.double (FP.l2d so)), .second, .val (.ref b50), .unset, .unset, .unset, .unset] [(.int (1 : Int32))]))
  have hc116 : ¬ ((1 : Int32) = (0 : Int32)) := by decide
  refine OwnGo.of (A := T115.setTop (mkF m 312 #[.val (.int p0), .val (.long q1), .second, .val (.int p2), .val (.int p3), .val (.int p4), .val (.int sz), .val (.long o1), .second, .val (.ref b1), .val (.long sv), .second, .val (.double (FP.l2d so)), .second, .val (.ref b50), .unset, .unset, .unset, .unset] [(.int (1 : Int32))])) (B := T115.setTop (mkF m 320 #[.val (.int p0), .val (.long q1), .second, .val (.int p2), .val (.int p3), .val (.int p4), .val (.int sz), .val (.long o1), .second, .val (.ref b1), .val (.long sv), .second, .val (.double (FP.l2d so)), .second, .val (.ref b50), .unset, .unset, .unset, .unset] [(.int (2 : Int32)), (.int sz), (.ref b50)])) (fun t k => ?_) ?_
  · show Steps p.tables e below (T115.setTop (mkF m 312 #[.val (.int p0), .val (.long q1), .second, .val (.int p2), .val (.int p3), .val (.int p4), .val (.int sz), .val (.long o1), .second, .val (.ref b1), .val (.long sv), .second, .val (.double (FP.l2d so)), .second, .val (.ref b50), .unset, .unset, .unset, .unset] [(.int (1 : Int32))])) t
    refine XS.ifNo X115.here hx rfl (hb hby at_312) rfl ((if0 _ _).trans (feq hc116).1) ?_
    refine XS.aload X115.here hx rfl (hb hby at_315) rfl rfl ?_
    refine XS.iload X115.here hx rfl (hb hby at_317) rfl ?_
    refine XS.iconst X115.here hx rfl (hb hby at_319) ?_
    exact k
  obtain ⟨T117, L117, v117, X117, hQ117, st117⟩ := own_callS X115 hx (y := (⟨"com/example/rankwright/rankwright/rank/AccumulatorSiftDownPinLaw", "ordered", "([DII)Z"⟩ : MethodName)) hown (mvT hZ (hw _ (List.mem_of_getElem? (i := 15) rfl))) (mvT hZ (hw _ (List.mem_of_getElem? (i := 16) rfl))) (mvT hZ (hw _ (List.mem_of_getElem? (i := 3) rfl))) (mvT hZ (hw _ (List.mem_of_getElem? (i := 17) rfl))) (by decide) (backOf (W := 0) (rmo_2 l Z aw hw [] b50 sz G k50 T112.heap n0 f113 VG (hord 2 (by decide) (by decide))) hZ (hw _ (List.mem_of_getElem? (i := 17) rfl)) (hw _ (List.mem_of_getElem? (i := 3) rfl)) (by decide) (by decide)) (g := (mkF m 320 #[.val (.int p0), .val (.long q1), .second, .val (.int p2), .val (.int p3), .val (.int p4), .val (.int sz), .val (.long o1), .second, .val (.ref b1), .val (.long sv), .second, .val (.double (FP.l2d so)), .second, .val (.ref b50), .unset, .unset, .unset, .unset] [(.int (2 : Int32)), (.int sz), (.ref b50)])) rfl (by rw [hml]; rfl) (argsL := [(.ref b50), (.int sz), (.int (2 : Int32))]) (rest := []) (lenOf pd_6 rfl) rfl (by show 2 * 0 + _ ≤ _; exact Nat.le_of_eq rfl) (hb hby at_320) rfl eq115 (by decide) (by decide)
  obtain ⟨rfl, N117q, eq117⟩ := hQ117
  have N117 := Fr.app N115 N117q
  refine OwnGo.of st117 ?_
  show OwnGo p.tables e below _ (T117.setTop (mkF m 323 #[.val (.int p0), .val (.long q1), .second, .val (.int p2), .val (.int p3), .val (.int p4), .val (.int sz), .val (.long o1), .second, .val (.ref b1), .val (.long sv), .second, .val (.double (FP.l2d so)), .second, .val (.ref b50), .unset, .unset, .unset, .unset] [(.int (1 : Int32))]))
  have hc118 : ¬ ((1 : Int32) = (0 : Int32)) := by decide
  refine OwnGo.of (A := T117.setTop (mkF m 323 #[.val (.int p0), .val (.long q1), .second, .val (.int p2), .val (.int p3), .val (.int p4), .val (.int sz), .val (.long o1), .second, .val (.ref b1), .val (.long sv), .second, .val (.double (FP.l2d so)), .second, .val (.ref b50), .unset, .unset, .unset, .unset] [(.int (1 : Int32))])) (B := T117.setTop (mkF m 331 #[.val (.int p0), .val (.long q1), .second, .val (.int p2), .val (.int p3), .val (.int p4), .val (.int sz), .val (.long o1), .second, .val (.ref b1), .val (.long sv), .second, .val (.double (FP.l2d so)), .second, .val (.ref b50), .unset, .unset, .unset, .unset] [(.int (3 : Int32)), (.int sz), (.ref b50)])) (fun t k => ?_) ?_
  · show Steps p.tables e below (T117.setTop (mkF m 323 #[.val (.int p0), .val (.long q1), .second, .val (.int p2), .val (.int p3), .val (.int p4), .val (.int sz), .val (.long o1), .second, .val (.ref b1), .val (.long sv), .second, .val (.double (FP.l2d so)), .second, .val (.ref b50), .unset, .unset, .unset, .unset] [(.int (1 : Int32))])) t
    refine XS.ifNo X117.here hx rfl (hb hby at_323) rfl ((if0 _ _).trans (feq hc118).1) ?_
    refine XS.aload X117.here hx rfl (hb hby at_326) rfl rfl ?_
    refine XS.iload X117.here hx rfl (hb hby at_328) rfl ?_
    refine XS.iconst X117.here hx rfl (hb hby at_330) ?_
    exact k
  obtain ⟨T119, L119, v119, X119, hQ119, st119⟩ := own_callS X117 hx (y := (⟨"com/example/rankwright/rankwright/rank/AccumulatorSiftDownPinLaw", "ordered", "([DII)Z"⟩ : MethodName)) hown (mvT hZ (hw _ (List.mem_of_getElem? (i := 15) rfl))) (mvT hZ (hw _ (List.mem_of_getElem? (i := 16) rfl))) (mvT hZ (hw _ (List.mem_of_getElem? (i := 3) rfl))) (mvT hZ (hw _ (List.mem_of_getElem? (i := 17) rfl))) (by decide) (backOf (W := 0) (rmo_3 l Z aw hw [] b50 sz G k50 T112.heap n0 f113 VG (hord 3 (by decide) (by decide))) hZ (hw _ (List.mem_of_getElem? (i := 17) rfl)) (hw _ (List.mem_of_getElem? (i := 3) rfl)) (by decide) (by decide)) (g := (mkF m 331 #[.val (.int p0), .val (.long q1), .second, .val (.int p2), .val (.int p3), .val (.int p4), .val (.int sz), .val (.long o1), .second, .val (.ref b1), .val (.long sv), .second, .val (.double (FP.l2d so)), .second, .val (.ref b50), .unset, .unset, .unset, .unset] [(.int (3 : Int32)), (.int sz), (.ref b50)])) rfl (by rw [hml]; rfl) (argsL := [(.ref b50), (.int sz), (.int (3 : Int32))]) (rest := []) (lenOf pd_6 rfl) rfl (by show 2 * 0 + _ ≤ _; exact Nat.le_of_eq rfl) (hb hby at_331) rfl eq117 (by decide) (by decide)
  obtain ⟨rfl, N119q, eq119⟩ := hQ119
  have N119 := Fr.app N117 N119q
  refine OwnGo.of st119 ?_
  show OwnGo p.tables e below _ (T119.setTop (mkF m 334 #[.val (.int p0), .val (.long q1), .second, .val (.int p2), .val (.int p3), .val (.int p4), .val (.int sz), .val (.long o1), .second, .val (.ref b1), .val (.long sv), .second, .val (.double (FP.l2d so)), .second, .val (.ref b50), .unset, .unset, .unset, .unset] [(.int (1 : Int32))]))
  have hc120 : ¬ ((1 : Int32) = (0 : Int32)) := by decide
  refine OwnGo.of (A := T119.setTop (mkF m 334 #[.val (.int p0), .val (.long q1), .second, .val (.int p2), .val (.int p3), .val (.int p4), .val (.int sz), .val (.long o1), .second, .val (.ref b1), .val (.long sv), .second, .val (.double (FP.l2d so)), .second, .val (.ref b50), .unset, .unset, .unset, .unset] [(.int (1 : Int32))])) (B := T119.setTop (mkF m 342 #[.val (.int p0), .val (.long q1), .second, .val (.int p2), .val (.int p3), .val (.int p4), .val (.int sz), .val (.long o1), .second, .val (.ref b1), .val (.long sv), .second, .val (.double (FP.l2d so)), .second, .val (.ref b50), .unset, .unset, .unset, .unset] [(.int (4 : Int32)), (.int sz), (.ref b50)])) (fun t k => ?_) ?_
  · show Steps p.tables e below (T119.setTop (mkF m 334 #[.val (.int p0), .val (.long q1), .second, .val (.int p2), .val (.int p3), .val (.int p4), .val (.int sz), .val (.long o1), .second, .val (.ref b1), .val (.long sv), .second, .val (.double (FP.l2d so)), .second, .val (.ref b50), .unset, .unset, .unset, .unset] [(.int (1 : Int32))])) t
    refine XS.ifNo X119.here hx rfl (hb hby at_334) rfl ((if0 _ _).trans (feq hc120).1) ?_
    refine XS.aload X119.here hx rfl (hb hby at_337) rfl rfl ?_
    refine XS.iload X119.here hx rfl (hb hby at_339) rfl ?_
    refine XS.iconst X119.here hx rfl (hb hby at_341) ?_
    exact k
  obtain ⟨T121, L121, v121, X121, hQ121, st121⟩ := own_callS X119 hx (y := (⟨"com/example/rankwright/rankwright/rank/AccumulatorSiftDownPinLaw", "ordered", "([DII)Z"⟩ : MethodName)) hown (mvT hZ (hw _ (List.mem_of_getElem? (i := 15) rfl))) (mvT hZ (hw _ (List.mem_of_getElem? (i := 16) rfl))) (mvT hZ (hw _ (List.mem_of_getElem? (i := 3) rfl))) (mvT hZ (hw _ (List.mem_of_getElem? (i := 17) rfl))) (by decide) (backOf (W := 0) (rmo_4 l Z aw hw [] b50 sz G k50 T112.heap n0 f113 VG (hord 4 (by decide) (by decide))) hZ (hw _ (List.mem_of_getElem? (i := 17) rfl)) (hw _ (List.mem_of_getElem? (i := 3) rfl)) (by decide) (by decide)) (g := (mkF m 342 #[.val (.int p0), .val (.long q1), .second, .val (.int p2), .val (.int p3), .val (.int p4), .val (.int sz), .val (.long o1), .second, .val (.ref b1), .val (.long sv), .second, .val (.double (FP.l2d so)), .second, .val (.ref b50), .unset, .unset, .unset, .unset] [(.int (4 : Int32)), (.int sz), (.ref b50)])) rfl (by rw [hml]; rfl) (argsL := [(.ref b50), (.int sz), (.int (4 : Int32))]) (rest := []) (lenOf pd_6 rfl) rfl (by show 2 * 0 + _ ≤ _; exact Nat.le_of_eq rfl) (hb hby at_342) rfl eq119 (by decide) (by decide)
  obtain ⟨rfl, N121q, eq121⟩ := hQ121
  have N121 := Fr.app N119 N121q
  refine OwnGo.of st121 ?_
  show OwnGo p.tables e below _ (T121.setTop (mkF m 345 #[.val (.int p0), .val (.long q1), .second, .val (.int p2), .val (.int p3), .val (.int p4), .val (.int sz), .val (.long o1), .second, .val (.ref b1), .val (.long sv), .second, .val (.double (FP.l2d so)), .second, .val (.ref b50), .unset, .unset, .unset, .unset] [(.int (1 : Int32))]))
  have hc122 : ¬ ((1 : Int32) = (0 : Int32)) := by decide
  refine OwnGo.of (A := T121.setTop (mkF m 345 #[.val (.int p0), .val (.long q1), .second, .val (.int p2), .val (.int p3), .val (.int p4), .val (.int sz), .val (.long o1), .second, .val (.ref b1), .val (.long sv), .second, .val (.double (FP.l2d so)), .second, .val (.ref b50), .unset, .unset, .unset, .unset] [(.int (1 : Int32))])) (B := T121.setTop (mkF m 353 #[.val (.int p0), .val (.long q1), .second, .val (.int p2), .val (.int p3), .val (.int p4), .val (.int sz), .val (.long o1), .second, .val (.ref b1), .val (.long sv), .second, .val (.double (FP.l2d so)), .second, .val (.ref b50), .unset, .unset, .unset, .unset] [(.int (5 : Int32)), (.int sz), (.ref b50)])) (fun t k => ?_) ?_
  · show Steps p.tables e below (T121.setTop (mkF m 345 #[.val (.int p0), .val (.long q1), .second, .val (.int p2), .val (.int p3), .val (.int p4), .val (.int sz), .val (.long o1), .second, .val (.ref b1), .val (.long sv), .second, .val (.double (FP.l2d so)), .second, .val (.ref b50), .unset, .unset, .unset, .unset] [(.int (1 : Int32))])) t
    refine XS.ifNo X121.here hx rfl (hb hby at_345) rfl ((if0 _ _).trans (feq hc122).1) ?_
    refine XS.aload X121.here hx rfl (hb hby at_348) rfl rfl ?_
    refine XS.iload X121.here hx rfl (hb hby at_350) rfl ?_
    refine XS.iconst X121.here hx rfl (hb hby at_352) ?_
    exact k
  obtain ⟨T123, L123, v123, X123, hQ123, st123⟩ := own_callS X121 hx (y := (⟨"com/example/rankwright/rankwright/rank/AccumulatorSiftDownPinLaw", "ordered", "([DII)Z"⟩ : MethodName)) hown (mvT hZ (hw _ (List.mem_of_getElem? (i := 15) rfl))) (mvT hZ (hw _ (List.mem_of_getElem? (i := 16) rfl))) (mvT hZ (hw _ (List.mem_of_getElem? (i := 3) rfl))) (mvT hZ (hw _ (List.mem_of_getElem? (i := 17) rfl))) (by decide) (backOf (W := 0) (rmo_5 l Z aw hw [] b50 sz G k50 T112.heap n0 f113 VG (hord 5 (by decide) (by decide))) hZ (hw _ (List.mem_of_getElem? (i := 17) rfl)) (hw _ (List.mem_of_getElem? (i := 3) rfl)) (by decide) (by decide)) (g := (mkF m 353 #[.val (.int p0), .val (.long q1), .second, .val (.int p2), .val (.int p3), .val (.int p4), .val (.int sz), .val (.long o1), .second, .val (.ref b1), .val (.long sv), .second, .val (.double (FP.l2d so)), .second, .val (.ref b50), .unset, .unset, .unset, .unset] [(.int (5 : Int32)), (.int sz), (.ref b50)])) rfl (by rw [hml]; rfl) (argsL := [(.ref b50), (.int sz), (.int (5 : Int32))]) (rest := []) (lenOf pd_6 rfl) rfl (by show 2 * 0 + _ ≤ _; exact Nat.le_of_eq rfl) (hb hby at_353) rfl eq121 (by decide) (by decide)
  obtain ⟨rfl, N123q, eq123⟩ := hQ123
  have N123 := Fr.app N121 N123q
  refine OwnGo.of st123 ?_
  show OwnGo p.tables e below _ (T123.setTop (mkF m 356 #[.val (.int p0), .val (.long q1), .second, .val (.int p2), .val (.int p3), .val (.int p4), .val (.int sz), .val (.long o1), .second, .val (.ref b1), .val (.long sv), .second, .val (.double (FP.l2d so)), .second, .val (.ref b50), .unset, .unset, .unset, .unset] [(.int (1 : Int32))]))
  have hc124 : ¬ ((1 : Int32) = (0 : Int32)) := by decide
  refine OwnGo.of (A := T123.setTop (mkF m 356 #[.val (.int p0), .val (.long q1), .second, .val (.int p2), .val (.int p3), .val (.int p4), .val (.int sz), .val (.long o1), .second, .val (.ref b1), .val (.long sv), .second, .val (.double (FP.l2d so)), .second, .val (.ref b50), .unset, .unset, .unset, .unset] [(.int (1 : Int32))])) (B := T123.setTop (mkF m 365 #[.val (.int p0), .val (.long q1), .second, .val (.int p2), .val (.int p3), .val (.int p4), .val (.int sz), .val (.long o1), .second, .val (.ref b1), .val (.long sv), .second, .val (.double (FP.l2d so)), .second, .val (.ref b50), .unset, .unset, .unset, .unset] [(.int (6 : Int32)), (.int sz), (.ref b50)])) (fun t k => ?_) ?_
  · show Steps p.tables e below (T123.setTop (mkF m 356 #[.val (.int p0), .val (.long q1), .second, .val (.int p2), .val (.int p3), .val (.int p4), .val (.int sz), .val (.long o1), .second, .val (.ref b1), .val (.long sv), .second, .val (.double (FP.l2d so)), .second, .val (.ref b50), .unset, .unset, .unset, .unset] [(.int (1 : Int32))])) t
    refine XS.ifNo X123.here hx rfl (hb hby at_356) rfl ((if0 _ _).trans (feq hc124).1) ?_
    refine XS.aload X123.here hx rfl (hb hby at_359) rfl rfl ?_
    refine XS.iload X123.here hx rfl (hb hby at_361) rfl ?_
    refine XS.bipush X123.here hx rfl (hb hby at_363) ?_
    exact k
  obtain ⟨T125, L125, v125, X125, hQ125, st125⟩ := own_callS X123 hx (y := (⟨"com/example/rankwright/rankwright/rank/AccumulatorSiftDownPinLaw", "ordered", "([DII)Z"⟩ : MethodName)) hown (mvT hZ (hw _ (List.mem_of_getElem? (i := 15) rfl))) (mvT hZ (hw _ (List.mem_of_getElem? (i := 16) rfl))) (mvT hZ (hw _ (List.mem_of_getElem? (i := 3) rfl))) (mvT hZ (hw _ (List.mem_of_getElem? (i := 17) rfl))) (by decide) (backOf (W := 0) (rmo_6 l Z aw hw [] b50 sz G k50 T112.heap n0 f113 VG (hord 6 (by decide) (by decide))) hZ (hw _ (List.mem_of_getElem? (i := 17) rfl)) (hw _ (List.mem_of_getElem? (i := 3) rfl)) (by decide) (by decide)) (g := (mkF m 365 #[.val (.int p0), .val (.long q1), .second, .val (.int p2), .val (.int p3), .val (.int p4), .val (.int sz), .val (.long o1), .second, .val (.ref b1), .val (.long sv), .second, .val (.double (FP.l2d so)), .second, .val (.ref b50), .unset, .unset, .unset, .unset] [(.int (6 : Int32)), (.int sz), (.ref b50)])) rfl (by rw [hml]; rfl) (argsL := [(.ref b50), (.int sz), (.int (6 : Int32))]) (rest := []) (lenOf pd_6 rfl) rfl (by show 2 * 0 + _ ≤ _; exact Nat.le_of_eq rfl) (hb hby at_365) rfl eq123 (by decide) (by decide)
  obtain ⟨rfl, N125q, eq125⟩ := hQ125
  have N125 := Fr.app N123 N125q
  refine OwnGo.of st125 ?_
  show OwnGo p.tables e below _ (T125.setTop (mkF m 368 #[.val (.int p0), .val (.long q1), .second, .val (.int p2), .val (.int p3), .val (.int p4), .val (.int sz), .val (.long o1), .second, .val (.ref b1), .val (.long sv), .second, .val (.double (FP.l2d so)), .second, .val (.ref b50), .unset, .unset, .unset, .unset] [(.int (1 : Int32))]))
  have hc126 : ¬ ((1 : Int32) = (0 : Int32)) := by decide
  refine OwnGo.of (A := T125.setTop (mkF m 368 #[.val (.int p0), .val (.long q1), .second, .val (.int p2), .val (.int p3), .val (.int p4), .val (.int sz), .val (.long o1), .second, .val (.ref b1), .val (.long sv), .second, .val (.double (FP.l2d so)), .second, .val (.ref b50), .unset, .unset, .unset, .unset] [(.int (1 : Int32))])) (B := T125.setTop (mkF m 377 #[.val (.int p0), .val (.long q1), .second, .val (.int p2), .val (.int p3), .val (.int p4), .val (.int sz), .val (.long o1), .second, .val (.ref b1), .val (.long sv), .second, .val (.double (FP.l2d so)), .second, .val (.ref b50), .unset, .unset, .unset, .unset] [(.int (7 : Int32)), (.int sz), (.ref b50)])) (fun t k => ?_) ?_
  · show Steps p.tables e below (T125.setTop (mkF m 368 #[.val (.int p0), .val (.long q1), .second, .val (.int p2), .val (.int p3), .val (.int p4), .val (.int sz), .val (.long o1), .second, .val (.ref b1), .val (.long sv), .second, .val (.double (FP.l2d so)), .second, .val (.ref b50), .unset, .unset, .unset, .unset] [(.int (1 : Int32))])) t
    refine XS.ifNo X125.here hx rfl (hb hby at_368) rfl ((if0 _ _).trans (feq hc126).1) ?_
    refine XS.aload X125.here hx rfl (hb hby at_371) rfl rfl ?_
    refine XS.iload X125.here hx rfl (hb hby at_373) rfl ?_
    refine XS.bipush X125.here hx rfl (hb hby at_375) ?_
    exact k
  obtain ⟨T127, L127, v127, X127, hQ127, st127⟩ := own_callS X125 hx (y := (⟨"com/example/rankwright/rankwright/rank/AccumulatorSiftDownPinLaw", "ordered", "([DII)Z"⟩ : MethodName)) hown (mvT hZ (hw _ (List.mem_of_getElem? (i := 15) rfl))) (mvT hZ (hw _ (List.mem_of_getElem? (i := 16) rfl))) (mvT hZ (hw _ (List.mem_of_getElem? (i := 3) rfl))) (mvT hZ (hw _ (List.mem_of_getElem? (i := 17) rfl))) (by decide) (backOf (W := 0) (rmo_7 l Z aw hw [] b50 sz G k50 T112.heap n0 f113 VG (hord 7 (by decide) (by decide))) hZ (hw _ (List.mem_of_getElem? (i := 17) rfl)) (hw _ (List.mem_of_getElem? (i := 3) rfl)) (by decide) (by decide)) (g := (mkF m 377 #[.val (.int p0), .val (.long q1), .second, .val (.int p2), .val (.int p3), .val (.int p4), .val (.int sz), .val (.long o1), .second, .val (.ref b1), .val (.long sv), .second, .val (.double (FP.l2d so)), .second, .val (.ref b50), .unset, .unset, .unset, .unset] [(.int (7 : Int32)), (.int sz), (.ref b50)])) rfl (by rw [hml]; rfl) (argsL := [(.ref b50), (.int sz), (.int (7 : Int32))]) (rest := []) (lenOf pd_6 rfl) rfl (by show 2 * 0 + _ ≤ _; exact Nat.le_of_eq rfl) (hb hby at_377) rfl eq125 (by decide) (by decide)
  obtain ⟨rfl, N127q, eq127⟩ := hQ127
  have N127 := Fr.app N125 N127q
  refine OwnGo.of st127 ?_
  show OwnGo p.tables e below _ (T127.setTop (mkF m 380 #[.val (.int p0), .val (.long q1), .second, .val (.int p2), .val (.int p3), .val (.int p4), .val (.int sz), .val (.long o1), .second, .val (.ref b1), .val (.long sv), .second, .val (.double (FP.l2d so)), .second, .val (.ref b50), .unset, .unset, .unset, .unset] [(.int (1 : Int32))]))
  have hc128 : ¬ ((1 : Int32) = (0 : Int32)) := by decide
  refine OwnGo.of (A := T127.setTop (mkF m 380 #[.val (.int p0), .val (.long q1), .second, .val (.int p2), .val (.int p3), .val (.int p4), .val (.int sz), .val (.long o1), .second, .val (.ref b1), .val (.long sv), .second, .val (.double (FP.l2d so)), .second, .val (.ref b50), .unset, .unset, .unset, .unset] [(.int (1 : Int32))])) (B := T127.setTop (mkF m 397 #[.val (.int p0), .val (.long q1), .second, .val (.int p2), .val (.int p3), .val (.int p4), .val (.int sz), .val (.long o1), .second, .val (.ref b1), .val (.long sv), .second, .val (.double (FP.l2d so)), .second, .val (.ref b50), .val (.int (1 : Int32)), .unset, .unset, .unset] [(.double (FP.l2d so)), (.int (0 : Int32)), (.int sz), (.ref b50)])) (fun t k => ?_) ?_
  · show Steps p.tables e below (T127.setTop (mkF m 380 #[.val (.int p0), .val (.long q1), .second, .val (.int p2), .val (.int p3), .val (.int p4), .val (.int sz), .val (.long o1), .second, .val (.ref b1), .val (.long sv), .second, .val (.double (FP.l2d so)), .second, .val (.ref b50), .unset, .unset, .unset, .unset] [(.int (1 : Int32))])) t
    refine XS.ifNo X127.here hx rfl (hb hby at_380) rfl ((if0 _ _).trans (feq hc128).1) ?_
    refine XS.iconst X127.here hx rfl (hb hby at_383) ?_
    refine XS.goto X127.here hx rfl (pc0 := 384) (pc' := 388) rfl (hb hby at_384) (by decide) (by decide) ?_
    refine XS.istore X127.here hx rfl (hb hby at_388) rfl (l' := #[.val (.int p0), .val (.long q1), .second, .val (.int p2), .val (.int p3), .val (.int p4), .val (.int sz), .val (.long o1), .second, .val (.ref b1), .val (.long sv), .second, .val (.double (FP.l2d so)), .second, .val (.ref b50), .val (.int (1 : Int32)), .unset, .unset, .unset]) rfl ?_
    refine XS.aload X127.here hx rfl (hb hby at_390) rfl rfl ?_
    refine XS.iload X127.here hx rfl (hb hby at_392) rfl ?_
    refine XS.iconst X127.here hx rfl (hb hby at_394) ?_
    refine XS.dload X127.here hx rfl (hb hby at_395) rfl ?_
    exact k
  obtain ⟨T129, L129, v129, X129, hQ129, st129⟩ := own_callS X127 hx (y := (⟨"com/example/rankwright/rankwright/rank/AccumulatorSiftDownPinLaw", "kept", "([DIID)Z"⟩ : MethodName)) hown (mvT hZ (hw _ (List.mem_of_getElem? (i := 18) rfl))) (mvT hZ (hw _ (List.mem_of_getElem? (i := 19) rfl))) (mvT hZ (hw _ (List.mem_of_getElem? (i := 3) rfl))) (mvT hZ (hw _ (List.mem_of_getElem? (i := 20) rfl))) (by decide) (backOf (W := 0) (rmk_0 l Z aw hw [] b50 sz (FP.l2d so) G k50 T112.heap n0 f113 VG (hkep 0 (by decide))) hZ (hw _ (List.mem_of_getElem? (i := 20) rfl)) (hw _ (List.mem_of_getElem? (i := 3) rfl)) (by decide) (by decide)) (g := (mkF m 397 #[.val (.int p0), .val (.long q1), .second, .val (.int p2), .val (.int p3), .val (.int p4), .val (.int sz), .val (.long o1), .second, .val (.ref b1), .val (.long sv), .second, .val (.double (FP.l2d so)), .second, .val (.ref b50), .val (.int (1 : Int32)), .unset, .unset, .unset] [(.double (FP.l2d so)), (.int (0 : Int32)), (.int sz), (.ref b50)])) rfl (by rw [hml]; rfl) (argsL := [(.ref b50), (.int sz), (.int (0 : Int32)), (.double (FP.l2d so))]) (rest := []) (lenOf pd_7 rfl) rfl (by show 2 * 0 + _ ≤ _; exact Nat.le_of_eq rfl) (hb hby at_397) rfl eq127 (by decide) (by decide)
  obtain ⟨rfl, N129q, eq129⟩ := hQ129
  have N129 := Fr.app N127 N129q
  refine OwnGo.of st129 ?_
  show OwnGo p.tables e below _ (T129.setTop (mkF m 400 #[.val (.int p0), .val (.long q1), .second, .val (.int p2), .val (.int p3), .val (.int p4), .val (.int sz), .val (.long o1), .second, .val (.ref b1), .val (.long sv), .second, .val (.double (FP.l2d so)), .second, .val (.ref b50), .val (.int (1 : Int32)), .unset, .unset, .unset] [(.int (1 : Int32))]))
  have hc130 : ¬ ((1 : Int32) = (0 : Int32)) := by decide
  refine OwnGo.of (A := T129.setTop (mkF m 400 #[.val (.int p0), .val (.long q1), .second, .val (.int p2), .val (.int p3), .val (.int p4), .val (.int sz), .val (.long o1), .second, .val (.ref b1), .val (.long sv), .second, .val (.double (FP.l2d so)), .second, .val (.ref b50), .val (.int (1 : Int32)), .unset, .unset, .unset] [(.int (1 : Int32))])) (B := T129.setTop (mkF m 410 #[.val (.int p0), .val (.long q1), .second, .val (.int p2), .val (.int p3), .val (.int p4), .val (.int sz), .val (.long o1), .second, .val (.ref b1), .val (.long sv), .second, .val (.double (FP.l2d so)), .second, .val (.ref b50), .val (.int (1 : Int32)), .unset, .unset, .unset] [(.double (FP.l2d so)), (.int (1 : Int32)), (.int sz), (.ref b50)])) (fun t k => ?_) ?_
  · show Steps p.tables e below (T129.setTop (mkF m 400 #[.val (.int p0), .val (.long q1), .second, .val (.int p2), .val (.int p3), .val (.int p4), .val (.int sz), .val (.long o1), .second, .val (.ref b1), .val (.long sv), .second, .val (.double (FP.l2d so)), .second, .val (.ref b50), .val (.int (1 : Int32)), .unset, .unset, .unset] [(.int (1 : Int32))])) t
    refine XS.ifNo X129.here hx rfl (hb hby at_400) rfl ((if0 _ _).trans (feq hc130).1) ?_
    refine XS.aload X129.here hx rfl (hb hby at_403) rfl rfl ?_
    refine XS.iload X129.here hx rfl (hb hby at_405) rfl ?_
    refine XS.iconst X129.here hx rfl (hb hby at_407) ?_
    refine XS.dload X129.here hx rfl (hb hby at_408) rfl ?_
    exact k
  obtain ⟨T131, L131, v131, X131, hQ131, st131⟩ := own_callS X129 hx (y := (⟨"com/example/rankwright/rankwright/rank/AccumulatorSiftDownPinLaw", "kept", "([DIID)Z"⟩ : MethodName)) hown (mvT hZ (hw _ (List.mem_of_getElem? (i := 18) rfl))) (mvT hZ (hw _ (List.mem_of_getElem? (i := 19) rfl))) (mvT hZ (hw _ (List.mem_of_getElem? (i := 3) rfl))) (mvT hZ (hw _ (List.mem_of_getElem? (i := 20) rfl))) (by decide) (backOf (W := 0) (rmk_1 l Z aw hw [] b50 sz (FP.l2d so) G k50 T112.heap n0 f113 VG (hkep 1 (by decide))) hZ (hw _ (List.mem_of_getElem? (i := 20) rfl)) (hw _ (List.mem_of_getElem? (i := 3) rfl)) (by decide) (by decide)) (g := (mkF m 410 #[.val (.int p0), .val (.long q1), .second, .val (.int p2), .val (.int p3), .val (.int p4), .val (.int sz), .val (.long o1), .second, .val (.ref b1), .val (.long sv), .second, .val (.double (FP.l2d so)), .second, .val (.ref b50), .val (.int (1 : Int32)), .unset, .unset, .unset] [(.double (FP.l2d so)), (.int (1 : Int32)), (.int sz), (.ref b50)])) rfl (by rw [hml]; rfl) (argsL := [(.ref b50), (.int sz), (.int (1 : Int32)), (.double (FP.l2d so))]) (rest := []) (lenOf pd_7 rfl) rfl (by show 2 * 0 + _ ≤ _; exact Nat.le_of_eq rfl) (hb hby at_410) rfl eq129 (by decide) (by decide)
  obtain ⟨rfl, N131q, eq131⟩ := hQ131
  have N131 := Fr.app N129 N131q
  refine OwnGo.of st131 ?_
  show OwnGo p.tables e below _ (T131.setTop (mkF m 413 #[.val (.int p0), .val (.long q1), .second, .val (.int p2), .val (.int p3), .val (.int p4), .val (.int sz), .val (.long o1), .second, .val (.ref b1), .val (.long sv), .second, .val (.double (FP.l2d so)), .second, .val (.ref b50), .val (.int (1 : Int32)), .unset, .unset, .unset] [(.int (1 : Int32))]))
  have hc132 : ¬ ((1 : Int32) = (0 : Int32)) := by decide
  refine OwnGo.of (A := T131.setTop (mkF m 413 #[.val (.int p0), .val (.long q1), .second, .val (.int p2), .val (.int p3), .val (.int p4), .val (.int sz), .val (.long o1), .second, .val (.ref b1), .val (.long sv), .second, .val (.double (FP.l2d so)), .second, .val (.ref b50), .val (.int (1 : Int32)), .unset, .unset, .unset] [(.int (1 : Int32))])) (B := T131.setTop (mkF m 423 #[.val (.int p0), .val (.long q1), .second, .val (.int p2), .val (.int p3), .val (.int p4), .val (.int sz), .val (.long o1), .second, .val (.ref b1), .val (.long sv), .second, .val (.double (FP.l2d so)), .second, .val (.ref b50), .val (.int (1 : Int32)), .unset, .unset, .unset] [(.double (FP.l2d so)), (.int (2 : Int32)), (.int sz), (.ref b50)])) (fun t k => ?_) ?_
  · show Steps p.tables e below (T131.setTop (mkF m 413 #[.val (.int p0), .val (.long q1), .second, .val (.int p2), .val (.int p3), .val (.int p4), .val (.int sz), .val (.long o1), .second, .val (.ref b1), .val (.long sv), .second, .val (.double (FP.l2d so)), .second, .val (.ref b50), .val (.int (1 : Int32)), .unset, .unset, .unset] [(.int (1 : Int32))])) t
    refine XS.ifNo X131.here hx rfl (hb hby at_413) rfl ((if0 _ _).trans (feq hc132).1) ?_
    refine XS.aload X131.here hx rfl (hb hby at_416) rfl rfl ?_
    refine XS.iload X131.here hx rfl (hb hby at_418) rfl ?_
    refine XS.iconst X131.here hx rfl (hb hby at_420) ?_
    refine XS.dload X131.here hx rfl (hb hby at_421) rfl ?_
    exact k
  obtain ⟨T133, L133, v133, X133, hQ133, st133⟩ := own_callS X131 hx (y := (⟨"com/example/rankwright/rankwright/rank/AccumulatorSiftDownPinLaw", "kept", "([DIID)Z"⟩ : MethodName)) hown (mvT hZ (hw _ (List.mem_of_getElem? (i := 18) rfl))) (mvT hZ (hw _ (List.mem_of_getElem? (i := 19) rfl))) (mvT hZ (hw _ (List.mem_of_getElem? (i := 3) rfl))) (mvT hZ (hw _ (List.mem_of_getElem? (i := 20) rfl))) (by decide) (backOf (W := 0) (rmk_2 l Z aw hw [] b50 sz (FP.l2d so) G k50 T112.heap n0 f113 VG (hkep 2 (by decide))) hZ (hw _ (List.mem_of_getElem? (i := 20) rfl)) (hw _ (List.mem_of_getElem? (i := 3) rfl)) (by decide) (by decide)) (g := (mkF m 423 #[.val (.int p0), .val (.long q1), .second, .val (.int p2), .val (.int p3), .val (.int p4), .val (.int sz), .val (.long o1), .second, .val (.ref b1), .val (.long sv), .second, .val (.double (FP.l2d so)), .second, .val (.ref b50), .val (.int (1 : Int32)), .unset, .unset, .unset] [(.double (FP.l2d so)), (.int (2 : Int32)), (.int sz), (.ref b50)])) rfl (by rw [hml]; rfl) (argsL := [(.ref b50), (.int sz), (.int (2 : Int32)), (.double (FP.l2d so))]) (rest := []) (lenOf pd_7 rfl) rfl (by show 2 * 0 + _ ≤ _; exact Nat.le_of_eq rfl) (hb hby at_423) rfl eq131 (by decide) (by decide)
  obtain ⟨rfl, N133q, eq133⟩ := hQ133
  have N133 := Fr.app N131 N133q
  refine OwnGo.of st133 ?_
  show OwnGo p.tables e below _ (T133.setTop (mkF m 426 #[.val (.int p0), .val (.long q1), .second, .val (.int p2), .val (.int p3), .val (.int p4), .val (.int sz), .val (.long o1), .second, .val (.ref b1), .val (.long sv), .second, .val (.double (FP.l2d so)), .second, .val (.ref b50), .val (.int (1 : Int32)), .unset, .unset, .unset] [(.int (1 : Int32))]))
  have hc134 : ¬ ((1 : Int32) = (0 : Int32)) := by decide
  refine OwnGo.of (A := T133.setTop (mkF m 426 #[.val (.int p0), .val (.long q1), .second, .val (.int p2), .val (.int p3), .val (.int p4), .val (.int sz), .val (.long o1), .second, .val (.ref b1), .val (.long sv), .second, .val (.double (FP.l2d so)), .second, .val (.ref b50), .val (.int (1 : Int32)), .unset, .unset, .unset] [(.int (1 : Int32))])) (B := T133.setTop (mkF m 436 #[.val (.int p0), .val (.long q1), .second, .val (.int p2), .val (.int p3), .val (.int p4), .val (.int sz), .val (.long o1), .second, .val (.ref b1), .val (.long sv), .second, .val (.double (FP.l2d so)), .second, .val (.ref b50), .val (.int (1 : Int32)), .unset, .unset, .unset] [(.double (FP.l2d so)), (.int (3 : Int32)), (.int sz), (.ref b50)])) (fun t k => ?_) ?_
  · show Steps p.tables e below (T133.setTop (mkF m 426 #[.val (.int p0), .val (.long q1), .second, .val (.int p2), .val (.int p3), .val (.int p4), .val (.int sz), .val (.long o1), .second, .val (.ref b1), .val (.long sv), .second, .val (.double (FP.l2d so)), .second, .val (.ref b50), .val (.int (1 : Int32)), .unset, .unset, .unset] [(.int (1 : Int32))])) t
    refine XS.ifNo X133.here hx rfl (hb hby at_426) rfl ((if0 _ _).trans (feq hc134).1) ?_
    refine XS.aload X133.here hx rfl (hb hby at_429) rfl rfl ?_
    refine XS.iload X133.here hx rfl (hb hby at_431) rfl ?_
    refine XS.iconst X133.here hx rfl (hb hby at_433) ?_
    refine XS.dload X133.here hx rfl (hb hby at_434) rfl ?_
    exact k
  obtain ⟨T135, L135, v135, X135, hQ135, st135⟩ := own_callS X133 hx (y := (⟨"com/example/rankwright/rankwright/rank/AccumulatorSiftDownPinLaw", "kept", "([DIID)Z"⟩ : MethodName)) hown (mvT hZ (hw _ (List.mem_of_getElem? (i := 18) rfl))) (mvT hZ (hw _ (List.mem_of_getElem? (i := 19) rfl))) (mvT hZ (hw _ (List.mem_of_getElem? (i := 3) rfl))) (mvT hZ (hw _ (List.mem_of_getElem? (i := 20) rfl))) (by decide) (backOf (W := 0) (rmk_3 l Z aw hw [] b50 sz (FP.l2d so) G k50 T112.heap n0 f113 VG (hkep 3 (by decide))) hZ (hw _ (List.mem_of_getElem? (i := 20) rfl)) (hw _ (List.mem_of_getElem? (i := 3) rfl)) (by decide) (by decide)) (g := (mkF m 436 #[.val (.int p0), .val (.long q1), .second, .val (.int p2), .val (.int p3), .val (.int p4), .val (.int sz), .val (.long o1), .second, .val (.ref b1), .val (.long sv), .second, .val (.double (FP.l2d so)), .second, .val (.ref b50), .val (.int (1 : Int32)), .unset, .unset, .unset] [(.double (FP.l2d so)), (.int (3 : Int32)), (.int sz), (.ref b50)])) rfl (by rw [hml]; rfl) (argsL := [(.ref b50), (.int sz), (.int (3 : Int32)), (.double (FP.l2d so))]) (rest := []) (lenOf pd_7 rfl) rfl (by show 2 * 0 + _ ≤ _; exact Nat.le_of_eq rfl) (hb hby at_436) rfl eq133 (by decide) (by decide)
  obtain ⟨rfl, N135q, eq135⟩ := hQ135
  have N135 := Fr.app N133 N135q
  refine OwnGo.of st135 ?_
  show OwnGo p.tables e below _ (T135.setTop (mkF m 439 #[.val (.int p0), .val (.long q1), .second, .val (.int p2), .val (.int p3), .val (.int p4), .val (.int sz), .val (.long o1), .second, .val (.ref b1), .val (.long sv), .second, .val (.double (FP.l2d so)), .second, .val (.ref b50), .val (.int (1 : Int32)), .unset, .unset, .unset] [(.int (1 : Int32))]))
  have hc136 : ¬ ((1 : Int32) = (0 : Int32)) := by decide
  refine OwnGo.of (A := T135.setTop (mkF m 439 #[.val (.int p0), .val (.long q1), .second, .val (.int p2), .val (.int p3), .val (.int p4), .val (.int sz), .val (.long o1), .second, .val (.ref b1), .val (.long sv), .second, .val (.double (FP.l2d so)), .second, .val (.ref b50), .val (.int (1 : Int32)), .unset, .unset, .unset] [(.int (1 : Int32))])) (B := T135.setTop (mkF m 449 #[.val (.int p0), .val (.long q1), .second, .val (.int p2), .val (.int p3), .val (.int p4), .val (.int sz), .val (.long o1), .second, .val (.ref b1), .val (.long sv), .second, .val (.double (FP.l2d so)), .second, .val (.ref b50), .val (.int (1 : Int32)), .unset, .unset, .unset] [(.double (FP.l2d so)), (.int (4 : Int32)), (.int sz), (.ref b50)])) (fun t k => ?_) ?_
  · show Steps p.tables e below (T135.setTop (mkF m 439 #[.val (.int p0), .val (.long q1), .second, .val (.int p2), .val (.int p3), .val (.int p4), .val (.int sz), .val (.long o1), .second, .val (.ref b1), .val (.long sv), .second, .val (.double (FP.l2d so)), .second, .val (.ref b50), .val (.int (1 : Int32)), .unset, .unset, .unset] [(.int (1 : Int32))])) t
    refine XS.ifNo X135.here hx rfl (hb hby at_439) rfl ((if0 _ _).trans (feq hc136).1) ?_
    refine XS.aload X135.here hx rfl (hb hby at_442) rfl rfl ?_
    refine XS.iload X135.here hx rfl (hb hby at_444) rfl ?_
    refine XS.iconst X135.here hx rfl (hb hby at_446) ?_
    refine XS.dload X135.here hx rfl (hb hby at_447) rfl ?_
    exact k
  obtain ⟨T137, L137, v137, X137, hQ137, st137⟩ := own_callS X135 hx (y := (⟨"com/example/rankwright/rankwright/rank/AccumulatorSiftDownPinLaw", "kept", "([DIID)Z"⟩ : MethodName)) hown (mvT hZ (hw _ (List.mem_of_getElem? (i := 18) rfl))) (mvT hZ (hw _ (List.mem_of_getElem? (i := 19) rfl))) (mvT hZ (hw _ (List.mem_of_getElem? (i := 3) rfl))) (mvT hZ (hw _ (List.mem_of_getElem? (i := 20) rfl))) (by decide) (backOf (W := 0) (rmk_4 l Z aw hw [] b50 sz (FP.l2d so) G k50 T112.heap n0 f113 VG (hkep 4 (by decide))) hZ (hw _ (List.mem_of_getElem? (i := 20) rfl)) (hw _ (List.mem_of_getElem? (i := 3) rfl)) (by decide) (by decide)) (g := (mkF m 449 #[.val (.int p0), .val (.long q1), .second, .val (.int p2), .val (.int p3), .val (.int p4), .val (.int sz), .val (.long o1), .second, .val (.ref b1), .val (.long sv), .second, .val (.double (FP.l2d so)), .second, .val (.ref b50), .val (.int (1 : Int32)), .unset, .unset, .unset] [(.double (FP.l2d so)), (.int (4 : Int32)), (.int sz), (.ref b50)])) rfl (by rw [hml]; rfl) (argsL := [(.ref b50), (.int sz), (.int (4 : Int32)), (.double (FP.l2d so))]) (rest := []) (lenOf pd_7 rfl) rfl (by show 2 * 0 + _ ≤ _; exact Nat.le_of_eq rfl) (hb hby at_449) rfl eq135 (by decide) (by decide)
  obtain ⟨rfl, N137q, eq137⟩ := hQ137
  have N137 := Fr.app N135 N137q
  refine OwnGo.of st137 ?_
  show OwnGo p.tables e below _ (T137.setTop (mkF m 452 #[.val (.int p0), .val (.long q1), .second, .val (.int p2), .val (.int p3), .val (.int p4), .val (.int sz), .val (.long o1), .second, .val (.ref b1), .val (.long sv), .second, .val (.double (FP.l2d so)), .second, .val (.ref b50), .val (.int (1 : Int32)), .unset, .unset, .unset] [(.int (1 : Int32))]))
  have hc138 : ¬ ((1 : Int32) = (0 : Int32)) := by decide
  refine OwnGo.of (A := T137.setTop (mkF m 452 #[.val (.int p0), .val (.long q1), .second, .val (.int p2), .val (.int p3), .val (.int p4), .val (.int sz), .val (.long o1), .second, .val (.ref b1), .val (.long sv), .second, .val (.double (FP.l2d so)), .second, .val (.ref b50), .val (.int (1 : Int32)), .unset, .unset, .unset] [(.int (1 : Int32))])) (B := T137.setTop (mkF m 462 #[.val (.int p0), .val (.long q1), .second, .val (.int p2), .val (.int p3), .val (.int p4), .val (.int sz), .val (.long o1), .second, .val (.ref b1), .val (.long sv), .second, .val (.double (FP.l2d so)), .second, .val (.ref b50), .val (.int (1 : Int32)), .unset, .unset, .unset] [(.double (FP.l2d so)), (.int (5 : Int32)), (.int sz), (.ref b50)])) (fun t k => ?_) ?_
  · show Steps p.tables e below (T137.setTop (mkF m 452 #[.val (.int p0), .val (.long q1), .second, .val (.int p2), .val (.int p3), .val (.int p4), .val (.int sz), .val (.long o1), .second, .val (.ref b1), .val (.long sv), .second, .val (.double (FP.l2d so)), .second, .val (.ref b50), .val (.int (1 : Int32)), .unset, .unset, .unset] [(.int (1 : Int32))])) t
    refine XS.ifNo X137.here hx rfl (hb hby at_452) rfl ((if0 _ _).trans (feq hc138).1) ?_
    refine XS.aload X137.here hx rfl (hb hby at_455) rfl rfl ?_
    refine XS.iload X137.here hx rfl (hb hby at_457) rfl ?_
    refine XS.iconst X137.here hx rfl (hb hby at_459) ?_
    refine XS.dload X137.here hx rfl (hb hby at_460) rfl ?_
    exact k
  obtain ⟨T139, L139, v139, X139, hQ139, st139⟩ := own_callS X137 hx (y := (⟨"com/example/rankwright/rankwright/rank/AccumulatorSiftDownPinLaw", "kept", "([DIID)Z"⟩ : MethodName)) hown (mvT hZ (hw _ (List.mem_of_getElem? (i := 18) rfl))) (mvT hZ (hw _ (List.mem_of_getElem? (i := 19) rfl))) (mvT hZ (hw _ (List.mem_of_getElem? (i := 3) rfl))) (mvT hZ (hw _ (List.mem_of_getElem? (i := 20) rfl))) (by decide) (backOf (W := 0) (rmk_5 l Z aw hw [] b50 sz (FP.l2d so) G k50 T112.heap n0 f113 VG (hkep 5 (by decide))) hZ (hw _ (List.mem_of_getElem? (i := 20) rfl)) (hw _ (List.mem_of_getElem? (i := 3) rfl)) (by decide) (by decide)) (g := (mkF m 462 #[.val (.int p0), .val (.long q1), .second, .val (.int p2), .val (.int p3), .val (.int p4), .val (.int sz), .val (.long o1), .second, .val (.ref b1), .val (.long sv), .second, .val (.double (FP.l2d so)), .second, .val (.ref b50), .val (.int (1 : Int32)), .unset, .unset, .unset] [(.double (FP.l2d so)), (.int (5 : Int32)), (.int sz), (.ref b50)])) rfl (by rw [hml]; rfl) (argsL := [(.ref b50), (.int sz), (.int (5 : Int32)), (.double (FP.l2d so))]) (rest := []) (lenOf pd_7 rfl) rfl (by show 2 * 0 + _ ≤ _; exact Nat.le_of_eq rfl) (hb hby at_462) rfl eq137 (by decide) (by decide)
  obtain ⟨rfl, N139q, eq139⟩ := hQ139
  have N139 := Fr.app N137 N139q
  refine OwnGo.of st139 ?_
  show OwnGo p.tables e below _ (T139.setTop (mkF m 465 #[.val (.int p0), .val (.long q1), .second, .val (.int p2), .val (.int p3), .val (.int p4), .val (.int sz), .val (.long o1), .second, .val (.ref b1), .val (.long sv), .second, .val (.double (FP.l2d so)), .second, .val (.ref b50), .val (.int (1 : Int32)), .unset, .unset, .unset] [(.int (1 : Int32))]))
  have hc140 : ¬ ((1 : Int32) = (0 : Int32)) := by decide
  refine OwnGo.of (A := T139.setTop (mkF m 465 #[.val (.int p0), .val (.long q1), .second, .val (.int p2), .val (.int p3), .val (.int p4), .val (.int sz), .val (.long o1), .second, .val (.ref b1), .val (.long sv), .second, .val (.double (FP.l2d so)), .second, .val (.ref b50), .val (.int (1 : Int32)), .unset, .unset, .unset] [(.int (1 : Int32))])) (B := T139.setTop (mkF m 476 #[.val (.int p0), .val (.long q1), .second, .val (.int p2), .val (.int p3), .val (.int p4), .val (.int sz), .val (.long o1), .second, .val (.ref b1), .val (.long sv), .second, .val (.double (FP.l2d so)), .second, .val (.ref b50), .val (.int (1 : Int32)), .unset, .unset, .unset] [(.double (FP.l2d so)), (.int (6 : Int32)), (.int sz), (.ref b50)])) (fun t k => ?_) ?_
  · show Steps p.tables e below (T139.setTop (mkF m 465 #[.val (.int p0), .val (.long q1), .second, .val (.int p2), .val (.int p3), .val (.int p4), .val (.int sz), .val (.long o1), .second, .val (.ref b1), .val (.long sv), .second, .val (.double (FP.l2d so)), .second, .val (.ref b50), .val (.int (1 : Int32)), .unset, .unset, .unset] [(.int (1 : Int32))])) t
    refine XS.ifNo X139.here hx rfl (hb hby at_465) rfl ((if0 _ _).trans (feq hc140).1) ?_
    refine XS.aload X139.here hx rfl (hb hby at_468) rfl rfl ?_
    refine XS.iload X139.here hx rfl (hb hby at_470) rfl ?_
    refine XS.bipush X139.here hx rfl (hb hby at_472) ?_
    refine XS.dload X139.here hx rfl (hb hby at_474) rfl ?_
    exact k
  obtain ⟨T141, L141, v141, X141, hQ141, st141⟩ := own_callS X139 hx (y := (⟨"com/example/rankwright/rankwright/rank/AccumulatorSiftDownPinLaw", "kept", "([DIID)Z"⟩ : MethodName)) hown (mvT hZ (hw _ (List.mem_of_getElem? (i := 18) rfl))) (mvT hZ (hw _ (List.mem_of_getElem? (i := 19) rfl))) (mvT hZ (hw _ (List.mem_of_getElem? (i := 3) rfl))) (mvT hZ (hw _ (List.mem_of_getElem? (i := 20) rfl))) (by decide) (backOf (W := 0) (rmk_6 l Z aw hw [] b50 sz (FP.l2d so) G k50 T112.heap n0 f113 VG (hkep 6 (by decide))) hZ (hw _ (List.mem_of_getElem? (i := 20) rfl)) (hw _ (List.mem_of_getElem? (i := 3) rfl)) (by decide) (by decide)) (g := (mkF m 476 #[.val (.int p0), .val (.long q1), .second, .val (.int p2), .val (.int p3), .val (.int p4), .val (.int sz), .val (.long o1), .second, .val (.ref b1), .val (.long sv), .second, .val (.double (FP.l2d so)), .second, .val (.ref b50), .val (.int (1 : Int32)), .unset, .unset, .unset] [(.double (FP.l2d so)), (.int (6 : Int32)), (.int sz), (.ref b50)])) rfl (by rw [hml]; rfl) (argsL := [(.ref b50), (.int sz), (.int (6 : Int32)), (.double (FP.l2d so))]) (rest := []) (lenOf pd_7 rfl) rfl (by show 2 * 0 + _ ≤ _; exact Nat.le_of_eq rfl) (hb hby at_476) rfl eq139 (by decide) (by decide)
  obtain ⟨rfl, N141q, eq141⟩ := hQ141
  have N141 := Fr.app N139 N141q
  refine OwnGo.of st141 ?_
  show OwnGo p.tables e below _ (T141.setTop (mkF m 479 #[.val (.int p0), .val (.long q1), .second, .val (.int p2), .val (.int p3), .val (.int p4), .val (.int sz), .val (.long o1), .second, .val (.ref b1), .val (.long sv), .second, .val (.double (FP.l2d so)), .second, .val (.ref b50), .val (.int (1 : Int32)), .unset, .unset, .unset] [(.int (1 : Int32))]))
  have hc142 : ¬ ((1 : Int32) = (0 : Int32)) := by decide
  refine OwnGo.of (A := T141.setTop (mkF m 479 #[.val (.int p0), .val (.long q1), .second, .val (.int p2), .val (.int p3), .val (.int p4), .val (.int sz), .val (.long o1), .second, .val (.ref b1), .val (.long sv), .second, .val (.double (FP.l2d so)), .second, .val (.ref b50), .val (.int (1 : Int32)), .unset, .unset, .unset] [(.int (1 : Int32))])) (B := T141.setTop (mkF m 490 #[.val (.int p0), .val (.long q1), .second, .val (.int p2), .val (.int p3), .val (.int p4), .val (.int sz), .val (.long o1), .second, .val (.ref b1), .val (.long sv), .second, .val (.double (FP.l2d so)), .second, .val (.ref b50), .val (.int (1 : Int32)), .unset, .unset, .unset] [(.double (FP.l2d so)), (.int (7 : Int32)), (.int sz), (.ref b50)])) (fun t k => ?_) ?_
  · show Steps p.tables e below (T141.setTop (mkF m 479 #[.val (.int p0), .val (.long q1), .second, .val (.int p2), .val (.int p3), .val (.int p4), .val (.int sz), .val (.long o1), .second, .val (.ref b1), .val (.long sv), .second, .val (.double (FP.l2d so)), .second, .val (.ref b50), .val (.int (1 : Int32)), .unset, .unset, .unset] [(.int (1 : Int32))])) t
    refine XS.ifNo X141.here hx rfl (hb hby at_479) rfl ((if0 _ _).trans (feq hc142).1) ?_
    refine XS.aload X141.here hx rfl (hb hby at_482) rfl rfl ?_
    refine XS.iload X141.here hx rfl (hb hby at_484) rfl ?_
    refine XS.bipush X141.here hx rfl (hb hby at_486) ?_
    refine XS.dload X141.here hx rfl (hb hby at_488) rfl ?_
    exact k
  obtain ⟨T143, L143, v143, X143, hQ143, st143⟩ := own_callS X141 hx (y := (⟨"com/example/rankwright/rankwright/rank/AccumulatorSiftDownPinLaw", "kept", "([DIID)Z"⟩ : MethodName)) hown (mvT hZ (hw _ (List.mem_of_getElem? (i := 18) rfl))) (mvT hZ (hw _ (List.mem_of_getElem? (i := 19) rfl))) (mvT hZ (hw _ (List.mem_of_getElem? (i := 3) rfl))) (mvT hZ (hw _ (List.mem_of_getElem? (i := 20) rfl))) (by decide) (backOf (W := 0) (rmk_7 l Z aw hw [] b50 sz (FP.l2d so) G k50 T112.heap n0 f113 VG (hkep 7 (by decide))) hZ (hw _ (List.mem_of_getElem? (i := 20) rfl)) (hw _ (List.mem_of_getElem? (i := 3) rfl)) (by decide) (by decide)) (g := (mkF m 490 #[.val (.int p0), .val (.long q1), .second, .val (.int p2), .val (.int p3), .val (.int p4), .val (.int sz), .val (.long o1), .second, .val (.ref b1), .val (.long sv), .second, .val (.double (FP.l2d so)), .second, .val (.ref b50), .val (.int (1 : Int32)), .unset, .unset, .unset] [(.double (FP.l2d so)), (.int (7 : Int32)), (.int sz), (.ref b50)])) rfl (by rw [hml]; rfl) (argsL := [(.ref b50), (.int sz), (.int (7 : Int32)), (.double (FP.l2d so))]) (rest := []) (lenOf pd_7 rfl) rfl (by show 2 * 0 + _ ≤ _; exact Nat.le_of_eq rfl) (hb hby at_490) rfl eq141 (by decide) (by decide)
  obtain ⟨rfl, N143q, eq143⟩ := hQ143
  have N143 := Fr.app N141 N143q
  refine OwnGo.of st143 ?_
  show OwnGo p.tables e below _ (T143.setTop (mkF m 493 #[.val (.int p0), .val (.long q1), .second, .val (.int p2), .val (.int p3), .val (.int p4), .val (.int sz), .val (.long o1), .second, .val (.ref b1), .val (.long sv), .second, .val (.double (FP.l2d so)), .second, .val (.ref b50), .val (.int (1 : Int32)), .unset, .unset, .unset] [(.int (1 : Int32))]))
  have hc144 : ¬ ((1 : Int32) = (0 : Int32)) := by decide
  refine OwnGo.of (A := T143.setTop (mkF m 493 #[.val (.int p0), .val (.long q1), .second, .val (.int p2), .val (.int p3), .val (.int p4), .val (.int sz), .val (.long o1), .second, .val (.ref b1), .val (.long sv), .second, .val (.double (FP.l2d so)), .second, .val (.ref b50), .val (.int (1 : Int32)), .unset, .unset, .unset] [(.int (1 : Int32))])) (B := T143.setTop (mkF m 504 #[.val (.int p0), .val (.long q1), .second, .val (.int p2), .val (.int p3), .val (.int p4), .val (.int sz), .val (.long o1), .second, .val (.ref b1), .val (.long sv), .second, .val (.double (FP.l2d so)), .second, .val (.ref b50), .val (.int (1 : Int32)), .unset, .unset, .unset] [(.double (FP.l2d so)), (.int (8 : Int32)), (.int sz), (.ref b50)])) (fun t k => ?_) ?_
  · show Steps p.tables e below (T143.setTop (mkF m 493 #[.val (.int p0), .val (.long q1), .second, .val (.int p2), .val (.int p3), .val (.int p4), .val (.int sz), .val (.long o1), .second, .val (.ref b1), .val (.long sv), .second, .val (.double (FP.l2d so)), .second, .val (.ref b50), .val (.int (1 : Int32)), .unset, .unset, .unset] [(.int (1 : Int32))])) t
    refine XS.ifNo X143.here hx rfl (hb hby at_493) rfl ((if0 _ _).trans (feq hc144).1) ?_
    refine XS.aload X143.here hx rfl (hb hby at_496) rfl rfl ?_
    refine XS.iload X143.here hx rfl (hb hby at_498) rfl ?_
    refine XS.bipush X143.here hx rfl (hb hby at_500) ?_
    refine XS.dload X143.here hx rfl (hb hby at_502) rfl ?_
    exact k
  obtain ⟨T145, L145, v145, X145, hQ145, st145⟩ := own_callS X143 hx (y := (⟨"com/example/rankwright/rankwright/rank/AccumulatorSiftDownPinLaw", "kept", "([DIID)Z"⟩ : MethodName)) hown (mvT hZ (hw _ (List.mem_of_getElem? (i := 18) rfl))) (mvT hZ (hw _ (List.mem_of_getElem? (i := 19) rfl))) (mvT hZ (hw _ (List.mem_of_getElem? (i := 3) rfl))) (mvT hZ (hw _ (List.mem_of_getElem? (i := 20) rfl))) (by decide) (backOf (W := 0) (rmk_8 l Z aw hw [] b50 sz (FP.l2d so) G k50 T112.heap n0 f113 VG (hkep 8 (by decide))) hZ (hw _ (List.mem_of_getElem? (i := 20) rfl)) (hw _ (List.mem_of_getElem? (i := 3) rfl)) (by decide) (by decide)) (g := (mkF m 504 #[.val (.int p0), .val (.long q1), .second, .val (.int p2), .val (.int p3), .val (.int p4), .val (.int sz), .val (.long o1), .second, .val (.ref b1), .val (.long sv), .second, .val (.double (FP.l2d so)), .second, .val (.ref b50), .val (.int (1 : Int32)), .unset, .unset, .unset] [(.double (FP.l2d so)), (.int (8 : Int32)), (.int sz), (.ref b50)])) rfl (by rw [hml]; rfl) (argsL := [(.ref b50), (.int sz), (.int (8 : Int32)), (.double (FP.l2d so))]) (rest := []) (lenOf pd_7 rfl) rfl (by show 2 * 0 + _ ≤ _; exact Nat.le_of_eq rfl) (hb hby at_504) rfl eq143 (by decide) (by decide)
  obtain ⟨rfl, N145q, eq145⟩ := hQ145
  have N145 := Fr.app N143 N145q
  refine OwnGo.of st145 ?_
  show OwnGo p.tables e below _ (T145.setTop (mkF m 507 #[.val (.int p0), .val (.long q1), .second, .val (.int p2), .val (.int p3), .val (.int p4), .val (.int sz), .val (.long o1), .second, .val (.ref b1), .val (.long sv), .second, .val (.double (FP.l2d so)), .second, .val (.ref b50), .val (.int (1 : Int32)), .unset, .unset, .unset] [(.int (1 : Int32))]))
  have hc146 : ¬ ((1 : Int32) = (0 : Int32)) := by decide
  refine OwnGo.of (A := T145.setTop (mkF m 507 #[.val (.int p0), .val (.long q1), .second, .val (.int p2), .val (.int p3), .val (.int p4), .val (.int sz), .val (.long o1), .second, .val (.ref b1), .val (.long sv), .second, .val (.double (FP.l2d so)), .second, .val (.ref b50), .val (.int (1 : Int32)), .unset, .unset, .unset] [(.int (1 : Int32))])) (B := T145.setTop (mkF m 518 #[.val (.int p0), .val (.long q1), .second, .val (.int p2), .val (.int p3), .val (.int p4), .val (.int sz), .val (.long o1), .second, .val (.ref b1), .val (.long sv), .second, .val (.double (FP.l2d so)), .second, .val (.ref b50), .val (.int (1 : Int32)), .unset, .unset, .unset] [(.double (FP.l2d so)), (.int (9 : Int32)), (.int sz), (.ref b50)])) (fun t k => ?_) ?_
  · show Steps p.tables e below (T145.setTop (mkF m 507 #[.val (.int p0), .val (.long q1), .second, .val (.int p2), .val (.int p3), .val (.int p4), .val (.int sz), .val (.long o1), .second, .val (.ref b1), .val (.long sv), .second, .val (.double (FP.l2d so)), .second, .val (.ref b50), .val (.int (1 : Int32)), .unset, .unset, .unset] [(.int (1 : Int32))])) t
    refine XS.ifNo X145.here hx rfl (hb hby at_507) rfl ((if0 _ _).trans (feq hc146).1) ?_
    refine XS.aload X145.here hx rfl (hb hby at_510) rfl rfl ?_
    refine XS.iload X145.here hx rfl (hb hby at_512) rfl ?_
    refine XS.bipush X145.here hx rfl (hb hby at_514) ?_
    refine XS.dload X145.here hx rfl (hb hby at_516) rfl ?_
    exact k
  obtain ⟨T147, L147, v147, X147, hQ147, st147⟩ := own_callS X145 hx (y := (⟨"com/example/rankwright/rankwright/rank/AccumulatorSiftDownPinLaw", "kept", "([DIID)Z"⟩ : MethodName)) hown (mvT hZ (hw _ (List.mem_of_getElem? (i := 18) rfl))) (mvT hZ (hw _ (List.mem_of_getElem? (i := 19) rfl))) (mvT hZ (hw _ (List.mem_of_getElem? (i := 3) rfl))) (mvT hZ (hw _ (List.mem_of_getElem? (i := 20) rfl))) (by decide) (backOf (W := 0) (rmk_9 l Z aw hw [] b50 sz (FP.l2d so) G k50 T112.heap n0 f113 VG (hkep 9 (by decide))) hZ (hw _ (List.mem_of_getElem? (i := 20) rfl)) (hw _ (List.mem_of_getElem? (i := 3) rfl)) (by decide) (by decide)) (g := (mkF m 518 #[.val (.int p0), .val (.long q1), .second, .val (.int p2), .val (.int p3), .val (.int p4), .val (.int sz), .val (.long o1), .second, .val (.ref b1), .val (.long sv), .second, .val (.double (FP.l2d so)), .second, .val (.ref b50), .val (.int (1 : Int32)), .unset, .unset, .unset] [(.double (FP.l2d so)), (.int (9 : Int32)), (.int sz), (.ref b50)])) rfl (by rw [hml]; rfl) (argsL := [(.ref b50), (.int sz), (.int (9 : Int32)), (.double (FP.l2d so))]) (rest := []) (lenOf pd_7 rfl) rfl (by show 2 * 0 + _ ≤ _; exact Nat.le_of_eq rfl) (hb hby at_518) rfl eq145 (by decide) (by decide)
  obtain ⟨rfl, N147q, eq147⟩ := hQ147
  have N147 := Fr.app N145 N147q
  refine OwnGo.of st147 ?_
  show OwnGo p.tables e below _ (T147.setTop (mkF m 521 #[.val (.int p0), .val (.long q1), .second, .val (.int p2), .val (.int p3), .val (.int p4), .val (.int sz), .val (.long o1), .second, .val (.ref b1), .val (.long sv), .second, .val (.double (FP.l2d so)), .second, .val (.ref b50), .val (.int (1 : Int32)), .unset, .unset, .unset] [(.int (1 : Int32))]))
  have hc148 : ¬ ((1 : Int32) = (0 : Int32)) := by decide
  refine OwnGo.of (A := T147.setTop (mkF m 521 #[.val (.int p0), .val (.long q1), .second, .val (.int p2), .val (.int p3), .val (.int p4), .val (.int sz), .val (.long o1), .second, .val (.ref b1), .val (.long sv), .second, .val (.double (FP.l2d so)), .second, .val (.ref b50), .val (.int (1 : Int32)), .unset, .unset, .unset] [(.int (1 : Int32))])) (B := T147.setTop (mkF m 533 #[.val (.int p0), .val (.long q1), .second, .val (.int p2), .val (.int p3), .val (.int p4), .val (.int sz), .val (.long o1), .second, .val (.ref b1), .val (.long sv), .second, .val (.double (FP.l2d so)), .second, .val (.ref b50), .val (.int (1 : Int32)), .val (.int (1 : Int32)), .unset, .unset] [(.int (8 : Int32))])) (fun t k => ?_) ?_
  · show Steps p.tables e below (T147.setTop (mkF m 521 #[.val (.int p0), .val (.long q1), .second, .val (.int p2), .val (.int p3), .val (.int p4), .val (.int sz), .val (.long o1), .second, .val (.ref b1), .val (.long sv), .second, .val (.double (FP.l2d so)), .second, .val (.ref b50), .val (.int (1 : Int32)), .unset, .unset, .unset] [(.int (1 : Int32))])) t
    refine XS.ifNo X147.here hx rfl (hb hby at_521) rfl ((if0 _ _).trans (feq hc148).1) ?_
    refine XS.iconst X147.here hx rfl (hb hby at_524) ?_
    refine XS.goto X147.here hx rfl (pc0 := 525) (pc' := 529) rfl (hb hby at_525) (by decide) (by decide) ?_
    refine XS.istore X147.here hx rfl (hb hby at_529) rfl (l' := #[.val (.int p0), .val (.long q1), .second, .val (.int p2), .val (.int p3), .val (.int p4), .val (.int sz), .val (.long o1), .second, .val (.ref b1), .val (.long sv), .second, .val (.double (FP.l2d so)), .second, .val (.ref b50), .val (.int (1 : Int32)), .val (.int (1 : Int32)), .unset, .unset]) rfl ?_
    refine XS.bipush X147.here hx rfl (hb hby at_531) ?_
    exact k
  obtain ⟨T149, h149, k149, X149, e149, E149, A149, st149⟩ := newP X147 hx hZ (hw _ (List.mem_of_getElem? (i := 0) rfl)) eq147 (g := (mkF m 533 #[.val (.int p0), .val (.long q1), .second, .val (.int p2), .val (.int p3), .val (.int p4), .val (.int sz), .val (.long o1), .second, .val (.ref b1), .val (.long sv), .second, .val (.double (FP.l2d so)), .second, .val (.ref b50), .val (.int (1 : Int32)), .val (.int (1 : Int32)), .unset, .unset] [(.int (8 : Int32))])) rfl (hb hby at_533) rfl (by decide) (cap := 8) (by decide) (by decide) (by decide) (by decide)
  obtain ⟨b149, g149⟩ : ∃ z, z = T112.heap.size := ⟨_, rfl⟩
  rw [← g149] at A149 st149
  refine OwnGo.of st149 ?_
  have ne_b1_b149 : b1 ≠ b149 := Nat.ne_of_lt (Nat.lt_of_lt_of_le f114.lt (Nat.le_of_eq g149.symm))
  have ne_b50_b149 : b50 ≠ b149 := Nat.ne_of_lt (Nat.lt_of_lt_of_le VG.lt (Nat.le_of_eq g149.symm))
  have g_b149 : n0 ≤ b149 := Nat.le_trans f113 (Nat.le_of_eq g149.symm)
  have f150 : n0 ≤ h149.size := Nat.le_trans f113 E149.1
  have f151 : Arv Z h149 b1 k1 .long (8 : Int32) [(.long v0), (.long v1), (.long v2), (.long v3), (.long v4), (.long v5), (.long v6), (.long v7)] (.long (0 : Int64)) := f114.ext E149
  have f152 : Arv Z h149 b50 k50 .double (10 : Int32) (own_l10 (G)) (.double (0 : UInt64)) := VG.ext E149
  have f153 : Arv Z h149 b149 k149 .long (8 : Int32) [(.long (0 : Int64)), (.long (0 : Int64)), (.long (0 : Int64)), (.long (0 : Int64)), (.long (0 : Int64)), (.long (0 : Int64)), (.long (0 : Int64)), (.long (0 : Int64))] (.long (0 : Int64)) := (Arv.new A149 (by decide)).pad (pad_rep [] (.long (0 : Int64)) 8)
  show OwnGo p.tables e below _ (T149.setTop (mkF m 535 #[.val (.int p0), .val (.long q1), .second, .val (.int p2), .val (.int p3), .val (.int p4), .val (.int sz), .val (.long o1), .second, .val (.ref b1), .val (.long sv), .second, .val (.double (FP.l2d so)), .second, .val (.ref b50), .val (.int (1 : Int32)), .val (.int (1 : Int32)), .unset, .unset] [(.ref b149)]))
  refine OwnGo.of (A := T149.setTop (mkF m 535 #[.val (.int p0), .val (.long q1), .second, .val (.int p2), .val (.int p3), .val (.int p4), .val (.int sz), .val (.long o1), .second, .val (.ref b1), .val (.long sv), .second, .val (.double (FP.l2d so)), .second, .val (.ref b50), .val (.int (1 : Int32)), .val (.int (1 : Int32)), .unset, .unset] [(.ref b149)])) (B := T149.setTop (mkF m 539 #[.val (.int p0), .val (.long q1), .second, .val (.int p2), .val (.int p3), .val (.int p4), .val (.int sz), .val (.long o1), .second, .val (.ref b1), .val (.long sv), .second, .val (.double (FP.l2d so)), .second, .val (.ref b50), .val (.int (1 : Int32)), .val (.int (1 : Int32)), .val (.ref b149), .unset] [(.int (8 : Int32))])) (fun t k => ?_) ?_
  · show Steps p.tables e below (T149.setTop (mkF m 535 #[.val (.int p0), .val (.long q1), .second, .val (.int p2), .val (.int p3), .val (.int p4), .val (.int sz), .val (.long o1), .second, .val (.ref b1), .val (.long sv), .second, .val (.double (FP.l2d so)), .second, .val (.ref b50), .val (.int (1 : Int32)), .val (.int (1 : Int32)), .unset, .unset] [(.ref b149)])) t
    refine XS.astore X149.here hx rfl (hb hby at_535) rfl rfl (l' := #[.val (.int p0), .val (.long q1), .second, .val (.int p2), .val (.int p3), .val (.int p4), .val (.int sz), .val (.long o1), .second, .val (.ref b1), .val (.long sv), .second, .val (.double (FP.l2d so)), .second, .val (.ref b50), .val (.int (1 : Int32)), .val (.int (1 : Int32)), .val (.ref b149), .unset]) rfl ?_
    refine XS.bipush X149.here hx rfl (hb hby at_537) ?_
    exact k
  obtain ⟨T154, h154, k154, X154, e154, E154, A154, st154⟩ := newP X149 hx hZ (hw _ (List.mem_of_getElem? (i := 0) rfl)) e149 (g := (mkF m 539 #[.val (.int p0), .val (.long q1), .second, .val (.int p2), .val (.int p3), .val (.int p4), .val (.int sz), .val (.long o1), .second, .val (.ref b1), .val (.long sv), .second, .val (.double (FP.l2d so)), .second, .val (.ref b50), .val (.int (1 : Int32)), .val (.int (1 : Int32)), .val (.ref b149), .unset] [(.int (8 : Int32))])) rfl (hb hby at_539) rfl (by decide) (cap := 8) (by decide) (by decide) (by decide) (by decide)
  obtain ⟨b154, g154⟩ : ∃ z, z = h149.size := ⟨_, rfl⟩
  rw [← g154] at A154 st154
  refine OwnGo.of st154 ?_
  have ne_b1_b154 : b1 ≠ b154 := Nat.ne_of_lt (Nat.lt_of_lt_of_le f151.lt (Nat.le_of_eq g154.symm))
  have ne_b50_b154 : b50 ≠ b154 := Nat.ne_of_lt (Nat.lt_of_lt_of_le f152.lt (Nat.le_of_eq g154.symm))
  have ne_b149_b154 : b149 ≠ b154 := Nat.ne_of_lt (Nat.lt_of_lt_of_le f153.lt (Nat.le_of_eq g154.symm))
  have g_b154 : n0 ≤ b154 := Nat.le_trans f150 (Nat.le_of_eq g154.symm)
  have f155 : n0 ≤ h154.size := Nat.le_trans f150 E154.1
  have f156 : Arv Z h154 b1 k1 .long (8 : Int32) [(.long v0), (.long v1), (.long v2), (.long v3), (.long v4), (.long v5), (.long v6), (.long v7)] (.long (0 : Int64)) := f151.ext E154
  have f157 : Arv Z h154 b50 k50 .double (10 : Int32) (own_l10 (G)) (.double (0 : UInt64)) := f152.ext E154
  have f158 : Arv Z h154 b149 k149 .long (8 : Int32) [(.long (0 : Int64)), (.long (0 : Int64)), (.long (0 : Int64)), (.long (0 : Int64)), (.long (0 : Int64)), (.long (0 : Int64)), (.long (0 : Int64)), (.long (0 : Int64))] (.long (0 : Int64)) := f153.ext E154
  have f159 : Arv Z h154 b154 k154 .long (8 : Int32) [(.long (0 : Int64)), (.long (0 : Int64)), (.long (0 : Int64)), (.long (0 : Int64)), (.long (0 : Int64)), (.long (0 : Int64)), (.long (0 : Int64)), (.long (0 : Int64))] (.long (0 : Int64)) := (Arv.new A154 (by decide)).pad (pad_rep [] (.long (0 : Int64)) 8)
  show OwnGo p.tables e below _ (T154.setTop (mkF m 541 #[.val (.int p0), .val (.long q1), .second, .val (.int p2), .val (.int p3), .val (.int p4), .val (.int sz), .val (.long o1), .second, .val (.ref b1), .val (.long sv), .second, .val (.double (FP.l2d so)), .second, .val (.ref b50), .val (.int (1 : Int32)), .val (.int (1 : Int32)), .val (.ref b149), .unset] [(.ref b154)]))
  refine OwnGo.of (A := T154.setTop (mkF m 541 #[.val (.int p0), .val (.long q1), .second, .val (.int p2), .val (.int p3), .val (.int p4), .val (.int sz), .val (.long o1), .second, .val (.ref b1), .val (.long sv), .second, .val (.double (FP.l2d so)), .second, .val (.ref b50), .val (.int (1 : Int32)), .val (.int (1 : Int32)), .val (.ref b149), .unset] [(.ref b154)])) (B := T154.setTop (mkF m 550 #[.val (.int p0), .val (.long q1), .second, .val (.int p2), .val (.int p3), .val (.int p4), .val (.int sz), .val (.long o1), .second, .val (.ref b1), .val (.long sv), .second, .val (.double (FP.l2d so)), .second, .val (.ref b50), .val (.int (1 : Int32)), .val (.int (1 : Int32)), .val (.ref b149), .val (.ref b154)] [(.long (sv - o1)), (.ref b149)])) (fun t k => ?_) ?_
  · show Steps p.tables e below (T154.setTop (mkF m 541 #[.val (.int p0), .val (.long q1), .second, .val (.int p2), .val (.int p3), .val (.int p4), .val (.int sz), .val (.long o1), .second, .val (.ref b1), .val (.long sv), .second, .val (.double (FP.l2d so)), .second, .val (.ref b50), .val (.int (1 : Int32)), .val (.int (1 : Int32)), .val (.ref b149), .unset] [(.ref b154)])) t
    refine XS.astore X154.here hx rfl (hb hby at_541) rfl rfl (l' := #[.val (.int p0), .val (.long q1), .second, .val (.int p2), .val (.int p3), .val (.int p4), .val (.int sz), .val (.long o1), .second, .val (.ref b1), .val (.long sv), .second, .val (.double (FP.l2d so)), .second, .val (.ref b50), .val (.int (1 : Int32)), .val (.int (1 : Int32)), .val (.ref b149), .val (.ref b154)]) rfl ?_
    refine XS.aload X154.here hx rfl (hb hby at_543) rfl rfl ?_
    refine XS.lload X154.here hx rfl (hb hby at_545) rfl ?_
    refine XS.lload X154.here hx rfl (hb hby at_547) rfl ?_
    refine XS.lsub X154.here hx rfl (hb hby at_549) rfl ?_
    exact k
  obtain ⟨T160, L160, v160, X160, hQ160, st160⟩ := own_callS X154 hx (y := (⟨"com/example/rankwright/rankwright/rank/AccumulatorSiftDownPinLaw", "addPowers", "([JJ)V"⟩ : MethodName)) hown (mvT hZ (hw _ (List.mem_of_getElem? (i := 21) rfl))) (mvT hZ (hw _ (List.mem_of_getElem? (i := 22) rfl))) (mvT hZ (hw _ (List.mem_of_getElem? (i := 3) rfl))) (mvT hZ (hw _ (List.mem_of_getElem? (i := 23) rfl))) (by decide) (backOf (W := 0) (rmp l Z aw hw [] b149 (sv - o1) (fun _ => (0 : Int64)) k149 h154 n0 f155 f158 g_b149) hZ (hw _ (List.mem_of_getElem? (i := 23) rfl)) (hw _ (List.mem_of_getElem? (i := 3) rfl)) (by decide) (by decide)) (g := (mkF m 550 #[.val (.int p0), .val (.long q1), .second, .val (.int p2), .val (.int p3), .val (.int p4), .val (.int sz), .val (.long o1), .second, .val (.ref b1), .val (.long sv), .second, .val (.double (FP.l2d so)), .second, .val (.ref b50), .val (.int (1 : Int32)), .val (.int (1 : Int32)), .val (.ref b149), .val (.ref b154)] [(.long (sv - o1)), (.ref b149)])) rfl (by rw [hml]; rfl) (argsL := [(.ref b149), (.long (sv - o1))]) (rest := []) (lenOf pd_2 rfl) rfl (by show 2 * 0 + _ ≤ _; exact Nat.le_of_eq rfl) (hb hby at_550) rfl e154 (by decide) (by decide)
  obtain ⟨rfl, N160q, K160, y160_0⟩ := hQ160
  have f161 : n0 ≤ T160.heap.size := Nat.le_trans f155 K160.1
  have f162 : Arv Z T160.heap b1 k1 .long (8 : Int32) [(.long v0), (.long v1), (.long v2), (.long v3), (.long v4), (.long v5), (.long v6), (.long v7)] (.long (0 : Int64)) := f156.keep K160 (ninS ne_b1_b149 nin0)
  have f163 : Arv Z T160.heap b50 k50 .double (10 : Int32) (own_l10 (G)) (.double (0 : UInt64)) := f157.keep K160 (ninS ne_b50_b149 nin0)
  have f164 : Arv Z T160.heap b154 k154 .long (8 : Int32) [(.long (0 : Int64)), (.long (0 : Int64)), (.long (0 : Int64)), (.long (0 : Int64)), (.long (0 : Int64)), (.long (0 : Int64)), (.long (0 : Int64)), (.long (0 : Int64))] (.long (0 : Int64)) := f159.keep K160 (ninS (Ne.symm ne_b149_b154) nin0)
  obtain ⟨W164, qW164⟩ : ∃ z, z = own_ap (fun _ => (0 : Int64)) (sv - o1) := ⟨_, rfl⟩
  rw [← qW164] at y160_0
  have N160 := Fr.app N147 N160q
  refine OwnGo.of st160 ?_
  show OwnGo p.tables e below _ (T160.setTop (mkF m 553 #[.val (.int p0), .val (.long q1), .second, .val (.int p2), .val (.int p3), .val (.int p4), .val (.int sz), .val (.long o1), .second, .val (.ref b1), .val (.long sv), .second, .val (.double (FP.l2d so)), .second, .val (.ref b50), .val (.int (1 : Int32)), .val (.int (1 : Int32)), .val (.ref b149), .val (.ref b154)] []))
  refine OwnGo.of (A := T160.setTop (mkF m 553 #[.val (.int p0), .val (.long q1), .second, .val (.int p2), .val (.int p3), .val (.int p4), .val (.int sz), .val (.long o1), .second, .val (.ref b1), .val (.long sv), .second, .val (.double (FP.l2d so)), .second, .val (.ref b50), .val (.int (1 : Int32)), .val (.int (1 : Int32)), .val (.ref b149), .val (.ref b154)] [])) (B := T160.setTop (mkF m 558 #[.val (.int p0), .val (.long q1), .second, .val (.int p2), .val (.int p3), .val (.int p4), .val (.int sz), .val (.long o1), .second, .val (.ref b1), .val (.long sv), .second, .val (.double (FP.l2d so)), .second, .val (.ref b50), .val (.int (1 : Int32)), .val (.int (1 : Int32)), .val (.ref b149), .val (.ref b154)] [(.int sz), (.int (1 : Int32)), (.ref b149)])) (fun t k => ?_) ?_
  · show Steps p.tables e below (T160.setTop (mkF m 553 #[.val (.int p0), .val (.long q1), .second, .val (.int p2), .val (.int p3), .val (.int p4), .val (.int sz), .val (.long o1), .second, .val (.ref b1), .val (.long sv), .second, .val (.double (FP.l2d so)), .second, .val (.ref b50), .val (.int (1 : Int32)), .val (.int (1 : Int32)), .val (.ref b149), .val (.ref b154)] [])) t
    refine XS.aload X160.here hx rfl (hb hby at_553) rfl rfl ?_
    refine XS.iconst X160.here hx rfl (hb hby at_555) ?_
    refine XS.iload X160.here hx rfl (hb hby at_556) rfl ?_
    exact k
  refine OwnGo.of (A := T160.setTop (mkF m 558 #[.val (.int p0), .val (.long q1), .second, .val (.int p2), .val (.int p3), .val (.int p4), .val (.int sz), .val (.long o1), .second, .val (.ref b1), .val (.long sv), .second, .val (.double (FP.l2d so)), .second, .val (.ref b50), .val (.int (1 : Int32)), .val (.int (1 : Int32)), .val (.ref b149), .val (.ref b154)] [(.int sz), (.int (1 : Int32)), (.ref b149)])) (B := T160.setTop (mkF m 566 #[.val (.int p0), .val (.long q1), .second, .val (.int p2), .val (.int p3), .val (.int p4), .val (.int sz), .val (.long o1), .second, .val (.ref b1), .val (.long sv), .second, .val (.double (FP.l2d so)), .second, .val (.ref b50), .val (.int (1 : Int32)), .val (.int (1 : Int32)), .val (.ref b149), .val (.ref b154)] [(.int (if (1 : Int32) < sz then (1 : Int32) else (0 : Int32))), (.ref b149)])) (fun t k => ?_) ?_
  · by_cases hc166 : (1 : Int32) < sz
    · rw [if_pos hc166] at k
      show Steps p.tables e below (T160.setTop (mkF m 558 #[.val (.int p0), .val (.long q1), .second, .val (.int p2), .val (.int p3), .val (.int p4), .val (.int sz), .val (.long o1), .second, .val (.ref b1), .val (.long sv), .second, .val (.double (FP.l2d so)), .second, .val (.ref b50), .val (.int (1 : Int32)), .val (.int (1 : Int32)), .val (.ref b149), .val (.ref b154)] [(.int sz), (.int (1 : Int32)), (.ref b149)])) t
      refine XS.icmpNo X160.here hx rfl (hb hby at_558) rfl (tlt hc166).2.1 ?_
      show Steps p.tables e below (T160.setTop (mkF m 561 #[.val (.int p0), .val (.long q1), .second, .val (.int p2), .val (.int p3), .val (.int p4), .val (.int sz), .val (.long o1), .second, .val (.ref b1), .val (.long sv), .second, .val (.double (FP.l2d so)), .second, .val (.ref b50), .val (.int (1 : Int32)), .val (.int (1 : Int32)), .val (.ref b149), .val (.ref b154)] [(.ref b149)])) t
      refine XS.iconst X160.here hx rfl (hb hby at_561) ?_
      show Steps p.tables e below (T160.setTop (mkF m 562 #[.val (.int p0), .val (.long q1), .second, .val (.int p2), .val (.int p3), .val (.int p4), .val (.int sz), .val (.long o1), .second, .val (.ref b1), .val (.long sv), .second, .val (.double (FP.l2d so)), .second, .val (.ref b50), .val (.int (1 : Int32)), .val (.int (1 : Int32)), .val (.ref b149), .val (.ref b154)] [(.int (1 : Int32)), (.ref b149)])) t
      refine XS.goto X160.here hx rfl (pc0 := 562) (pc' := 566) rfl (hb hby at_562) (by decide) (by decide) ?_
      exact k
    · rw [if_neg hc166] at k
      show Steps p.tables e below (T160.setTop (mkF m 558 #[.val (.int p0), .val (.long q1), .second, .val (.int p2), .val (.int p3), .val (.int p4), .val (.int sz), .val (.long o1), .second, .val (.ref b1), .val (.long sv), .second, .val (.double (FP.l2d so)), .second, .val (.ref b50), .val (.int (1 : Int32)), .val (.int (1 : Int32)), .val (.ref b149), .val (.ref b154)] [(.int sz), (.int (1 : Int32)), (.ref b149)])) t
      refine XS.icmpYes X160.here hx rfl (pc0 := 558) (pc' := 565) rfl (hb hby at_558) rfl (flt hc166).2.1 (by decide) (by decide) ?_
      show Steps p.tables e below (T160.setTop (mkF m 565 #[.val (.int p0), .val (.long q1), .second, .val (.int p2), .val (.int p3), .val (.int p4), .val (.int sz), .val (.long o1), .second, .val (.ref b1), .val (.long sv), .second, .val (.double (FP.l2d so)), .second, .val (.ref b50), .val (.int (1 : Int32)), .val (.int (1 : Int32)), .val (.ref b149), .val (.ref b154)] [(.ref b149)])) t
      refine XS.iconst X160.here hx rfl (hb hby at_565) ?_
      exact k
  show OwnGo p.tables e below _ (T160.setTop (mkF m 566 #[.val (.int p0), .val (.long q1), .second, .val (.int p2), .val (.int p3), .val (.int p4), .val (.int sz), .val (.long o1), .second, .val (.ref b1), .val (.long sv), .second, .val (.double (FP.l2d so)), .second, .val (.ref b50), .val (.int (1 : Int32)), .val (.int (1 : Int32)), .val (.ref b149), .val (.ref b154)] [(.int (if (1 : Int32) < sz then (1 : Int32) else (0 : Int32))), (.ref b149)]))
  refine OwnGo.of (A := T160.setTop (mkF m 566 #[.val (.int p0), .val (.long q1), .second, .val (.int p2), .val (.int p3), .val (.int p4), .val (.int sz), .val (.long o1), .second, .val (.ref b1), .val (.long sv), .second, .val (.double (FP.l2d so)), .second, .val (.ref b50), .val (.int (1 : Int32)), .val (.int (1 : Int32)), .val (.ref b149), .val (.ref b154)] [(.int (if (1 : Int32) < sz then (1 : Int32) else (0 : Int32))), (.ref b149)])) (B := T160.setTop (mkF m 569 #[.val (.int p0), .val (.long q1), .second, .val (.int p2), .val (.int p3), .val (.int p4), .val (.int sz), .val (.long o1), .second, .val (.ref b1), .val (.long sv), .second, .val (.double (FP.l2d so)), .second, .val (.ref b50), .val (.int (1 : Int32)), .val (.int (1 : Int32)), .val (.ref b149), .val (.ref b154)] [(.int (1 : Int32)), (.ref b1), (.int (if (1 : Int32) < sz then (1 : Int32) else (0 : Int32))), (.ref b149)])) (fun t k => ?_) ?_
  · show Steps p.tables e below (T160.setTop (mkF m 566 #[.val (.int p0), .val (.long q1), .second, .val (.int p2), .val (.int p3), .val (.int p4), .val (.int sz), .val (.long o1), .second, .val (.ref b1), .val (.long sv), .second, .val (.double (FP.l2d so)), .second, .val (.ref b50), .val (.int (1 : Int32)), .val (.int (1 : Int32)), .val (.ref b149), .val (.ref b154)] [(.int (if (1 : Int32) < sz then (1 : Int32) else (0 : Int32))), (.ref b149)])) t
    refine XS.aload X160.here hx rfl (hb hby at_566) rfl rfl ?_
    refine XS.iconst X160.here hx rfl (hb hby at_568) ?_
    exact k
  have cq167 := f162
  obtain ⟨clq167, Arq167, qq167, Sq167, Nq167, Hq167, Gq167⟩ := cq167
  have hinq167 := inb_of (j := (1 : Int32)) Sq167 ⟨by decide, by decide⟩
  refine OwnGo.of (X160.laload hx (j := (1 : Int32)) (v := (.long v1)) Arq167.1 (State.isArrayOf_alike hZ.alike Arq167.2.1) Arq167.2.2 hinq167 (Hq167.at hinq167 rfl) (g := (mkF m 569 #[.val (.int p0), .val (.long q1), .second, .val (.int p2), .val (.int p3), .val (.int p4), .val (.int sz), .val (.long o1), .second, .val (.ref b1), .val (.long sv), .second, .val (.double (FP.l2d so)), .second, .val (.ref b50), .val (.int (1 : Int32)), .val (.int (1 : Int32)), .val (.ref b149), .val (.ref b154)] [(.int (1 : Int32)), (.ref b1), (.int (if (1 : Int32) < sz then (1 : Int32) else (0 : Int32))), (.ref b149)])) rfl rfl (hb hby at_569)) ?_
  show OwnGo p.tables e below _ (T160.setTop (mkF m 570 #[.val (.int p0), .val (.long q1), .second, .val (.int p2), .val (.int p3), .val (.int p4), .val (.int sz), .val (.long o1), .second, .val (.ref b1), .val (.long sv), .second, .val (.double (FP.l2d so)), .second, .val (.ref b50), .val (.int (1 : Int32)), .val (.int (1 : Int32)), .val (.ref b149), .val (.ref b154)] [(.long v1), (.int (if (1 : Int32) < sz then (1 : Int32) else (0 : Int32))), (.ref b149)]))
  refine OwnGo.of (A := T160.setTop (mkF m 570 #[.val (.int p0), .val (.long q1), .second, .val (.int p2), .val (.int p3), .val (.int p4), .val (.int sz), .val (.long o1), .second, .val (.ref b1), .val (.long sv), .second, .val (.double (FP.l2d so)), .second, .val (.ref b50), .val (.int (1 : Int32)), .val (.int (1 : Int32)), .val (.ref b149), .val (.ref b154)] [(.long v1), (.int (if (1 : Int32) < sz then (1 : Int32) else (0 : Int32))), (.ref b149)])) (B := T160.setTop (mkF m 573 #[.val (.int p0), .val (.long q1), .second, .val (.int p2), .val (.int p3), .val (.int p4), .val (.int sz), .val (.long o1), .second, .val (.ref b1), .val (.long sv), .second, .val (.double (FP.l2d so)), .second, .val (.ref b50), .val (.int (1 : Int32)), .val (.int (1 : Int32)), .val (.ref b149), .val (.ref b154)] [(.long (v1 - o1)), (.int (if (1 : Int32) < sz then (1 : Int32) else (0 : Int32))), (.ref b149)])) (fun t k => ?_) ?_
  · show Steps p.tables e below (T160.setTop (mkF m 570 #[.val (.int p0), .val (.long q1), .second, .val (.int p2), .val (.int p3), .val (.int p4), .val (.int sz), .val (.long o1), .second, .val (.ref b1), .val (.long sv), .second, .val (.double (FP.l2d so)), .second, .val (.ref b50), .val (.int (1 : Int32)), .val (.int (1 : Int32)), .val (.ref b149), .val (.ref b154)] [(.long v1), (.int (if (1 : Int32) < sz then (1 : Int32) else (0 : Int32))), (.ref b149)])) t
    refine XS.lload X160.here hx rfl (hb hby at_570) rfl ?_
    refine XS.lsub X160.here hx rfl (hb hby at_572) rfl ?_
    exact k
  obtain ⟨T168, L168, v168, X168, hQ168, st168⟩ := own_callS X160 hx (y := (⟨"com/example/rankwright/rankwright/rank/AccumulatorSiftDownPinLaw", "addIf", "([JZJ)V"⟩ : MethodName)) hown (mvT hZ (hw _ (List.mem_of_getElem? (i := 24) rfl))) (mvT hZ (hw _ (List.mem_of_getElem? (i := 25) rfl))) (mvT hZ (hw _ (List.mem_of_getElem? (i := 3) rfl))) (mvT hZ (hw _ (List.mem_of_getElem? (i := 26) rfl))) (by decide) (backOf (W := 0) (rmi l Z aw hw [] b149 (if (1 : Int32) < sz then (1 : Int32) else (0 : Int32)) (v1 - o1) W164 k149 T160.heap n0 f161 y160_0 g_b149) hZ (hw _ (List.mem_of_getElem? (i := 26) rfl)) (hw _ (List.mem_of_getElem? (i := 3) rfl)) (by decide) (by decide)) (g := (mkF m 573 #[.val (.int p0), .val (.long q1), .second, .val (.int p2), .val (.int p3), .val (.int p4), .val (.int sz), .val (.long o1), .second, .val (.ref b1), .val (.long sv), .second, .val (.double (FP.l2d so)), .second, .val (.ref b50), .val (.int (1 : Int32)), .val (.int (1 : Int32)), .val (.ref b149), .val (.ref b154)] [(.long (v1 - o1)), (.int (if (1 : Int32) < sz then (1 : Int32) else (0 : Int32))), (.ref b149)])) rfl (by rw [hml]; rfl) (argsL := [(.ref b149), (.int (if (1 : Int32) < sz then (1 : Int32) else (0 : Int32))), (.long (v1 - o1))]) (rest := []) (lenOf pd_8 rfl) rfl (by show 2 * 0 + _ ≤ _; exact Nat.le_of_eq rfl) (hb hby at_573) rfl rfl (by decide) (by decide)
  obtain ⟨rfl, N168q, K168, y168_0⟩ := hQ168
  have f169 : n0 ≤ T168.heap.size := Nat.le_trans f161 K168.1
  have f170 : Arv Z T168.heap b1 k1 .long (8 : Int32) [(.long v0), (.long v1), (.long v2), (.long v3), (.long v4), (.long v5), (.long v6), (.long v7)] (.long (0 : Int64)) := f162.keep K168 (ninS ne_b1_b149 nin0)
  have f171 : Arv Z T168.heap b50 k50 .double (10 : Int32) (own_l10 (G)) (.double (0 : UInt64)) := f163.keep K168 (ninS ne_b50_b149 nin0)
  have f172 : Arv Z T168.heap b154 k154 .long (8 : Int32) [(.long (0 : Int64)), (.long (0 : Int64)), (.long (0 : Int64)), (.long (0 : Int64)), (.long (0 : Int64)), (.long (0 : Int64)), (.long (0 : Int64)), (.long (0 : Int64))] (.long (0 : Int64)) := f164.keep K168 (ninS (Ne.symm ne_b149_b154) nin0)
  obtain ⟨W172, qW172⟩ : ∃ z, z = own_ai W164 (if (1 : Int32) < sz then (1 : Int32) else (0 : Int32)) (v1 - o1) := ⟨_, rfl⟩
  rw [← qW172] at y168_0
  have N168 := Fr.app N160 N168q
  refine OwnGo.of st168 ?_
  show OwnGo p.tables e below _ (T168.setTop (mkF m 576 #[.val (.int p0), .val (.long q1), .second, .val (.int p2), .val (.int p3), .val (.int p4), .val (.int sz), .val (.long o1), .second, .val (.ref b1), .val (.long sv), .second, .val (.double (FP.l2d so)), .second, .val (.ref b50), .val (.int (1 : Int32)), .val (.int (1 : Int32)), .val (.ref b149), .val (.ref b154)] []))
  refine OwnGo.of (A := T168.setTop (mkF m 576 #[.val (.int p0), .val (.long q1), .second, .val (.int p2), .val (.int p3), .val (.int p4), .val (.int sz), .val (.long o1), .second, .val (.ref b1), .val (.long sv), .second, .val (.double (FP.l2d so)), .second, .val (.ref b50), .val (.int (1 : Int32)), .val (.int (1 : Int32)), .val (.ref b149), .val (.ref b154)] [])) (B := T168.setTop (mkF m 581 #[.val (.int p0), .val (.long q1), .second, .val (.int p2), .val (.int p3), .val (.int p4), .val (.int sz), .val (.long o1), .second, .val (.ref b1), .val (.long sv), .second, .val (.double (FP.l2d so)), .second, .val (.ref b50), .val (.int (1 : Int32)), .val (.int (1 : Int32)), .val (.ref b149), .val (.ref b154)] [(.int sz), (.int (2 : Int32)), (.ref b149)])) (fun t k => ?_) ?_
  · show Steps p.tables e below (T168.setTop (mkF m 576 #[.val (.int p0), .val (.long q1), .second, .val (.int p2), .val (.int p3), .val (.int p4), .val (.int sz), .val (.long o1), .second, .val (.ref b1), .val (.long sv), .second, .val (.double (FP.l2d so)), .second, .val (.ref b50), .val (.int (1 : Int32)), .val (.int (1 : Int32)), .val (.ref b149), .val (.ref b154)] [])) t
    refine XS.aload X168.here hx rfl (hb hby at_576) rfl rfl ?_
    refine XS.iconst X168.here hx rfl (hb hby at_578) ?_
    refine XS.iload X168.here hx rfl (hb hby at_579) rfl ?_
    exact k
  refine OwnGo.of (A := T168.setTop (mkF m 581 #[.val (.int p0), .val (.long q1), .second, .val (.int p2), .val (.int p3), .val (.int p4), .val (.int sz), .val (.long o1), .second, .val (.ref b1), .val (.long sv), .second, .val (.double (FP.l2d so)), .second, .val (.ref b50), .val (.int (1 : Int32)), .val (.int (1 : Int32)), .val (.ref b149), .val (.ref b154)] [(.int sz), (.int (2 : Int32)), (.ref b149)])) (B := T168.setTop (mkF m 589 #[.val (.int p0), .val (.long q1), .second, .val (.int p2), .val (.int p3), .val (.int p4), .val (.int sz), .val (.long o1), .second, .val (.ref b1), .val (.long sv), .second, .val (.double (FP.l2d so)), .second, .val (.ref b50), .val (.int (1 : Int32)), .val (.int (1 : Int32)), .val (.ref b149), .val (.ref b154)] [(.int (if (2 : Int32) < sz then (1 : Int32) else (0 : Int32))), (.ref b149)])) (fun t k => ?_) ?_
  · by_cases hc174 : (2 : Int32) < sz
    · rw [if_pos hc174] at k
      show Steps p.tables e below (T168.setTop (mkF m 581 #[.val (.int p0), .val (.long q1), .second, .val (.int p2), .val (.int p3), .val (.int p4), .val (.int sz), .val (.long o1), .second, .val (.ref b1), .val (.long sv), .second, .val (.double (FP.l2d so)), .second, .val (.ref b50), .val (.int (1 : Int32)), .val (.int (1 : Int32)), .val (.ref b149), .val (.ref b154)] [(.int sz), (.int (2 : Int32)), (.ref b149)])) t
      refine XS.icmpNo X168.here hx rfl (hb hby at_581) rfl (tlt hc174).2.1 ?_
      show Steps p.tables e below (T168.setTop (mkF m 584 #[.val (.int p0), .val (.long q1), .second, .val (.int p2), .val (.int p3), .val (.int p4), .val (.int sz), .val (.long o1), .second, .val (.ref b1), .val (.long sv), .second, .val (.double (FP.l2d so)), .second, .val (.ref b50), .val (.int (1 : Int32)), .val (.int (1 : Int32)), .val (.ref b149), .val (.ref b154)] [(.ref b149)])) t
      refine XS.iconst X168.here hx rfl (hb hby at_584) ?_
      show Steps p.tables e below (T168.setTop (mkF m 585 #[.val (.int p0), .val (.long q1), .second, .val (.int p2), .val (.int p3), .val (.int p4), .val (.int sz), .val (.long o1), .second, .val (.ref b1), .val (.long sv), .second, .val (.double (FP.l2d so)), .second, .val (.ref b50), .val (.int (1 : Int32)), .val (.int (1 : Int32)), .val (.ref b149), .val (.ref b154)] [(.int (1 : Int32)), (.ref b149)])) t
      refine XS.goto X168.here hx rfl (pc0 := 585) (pc' := 589) rfl (hb hby at_585) (by decide) (by decide) ?_
      exact k
    · rw [if_neg hc174] at k
      show Steps p.tables e below (T168.setTop (mkF m 581 #[.val (.int p0), .val (.long q1), .second, .val (.int p2), .val (.int p3), .val (.int p4), .val (.int sz), .val (.long o1), .second, .val (.ref b1), .val (.long sv), .second, .val (.double (FP.l2d so)), .second, .val (.ref b50), .val (.int (1 : Int32)), .val (.int (1 : Int32)), .val (.ref b149), .val (.ref b154)] [(.int sz), (.int (2 : Int32)), (.ref b149)])) t
      refine XS.icmpYes X168.here hx rfl (pc0 := 581) (pc' := 588) rfl (hb hby at_581) rfl (flt hc174).2.1 (by decide) (by decide) ?_
      show Steps p.tables e below (T168.setTop (mkF m 588 #[.val (.int p0), .val (.long q1), .second, .val (.int p2), .val (.int p3), .val (.int p4), .val (.int sz), .val (.long o1), .second, .val (.ref b1), .val (.long sv), .second, .val (.double (FP.l2d so)), .second, .val (.ref b50), .val (.int (1 : Int32)), .val (.int (1 : Int32)), .val (.ref b149), .val (.ref b154)] [(.ref b149)])) t
      refine XS.iconst X168.here hx rfl (hb hby at_588) ?_
      exact k
  show OwnGo p.tables e below _ (T168.setTop (mkF m 589 #[.val (.int p0), .val (.long q1), .second, .val (.int p2), .val (.int p3), .val (.int p4), .val (.int sz), .val (.long o1), .second, .val (.ref b1), .val (.long sv), .second, .val (.double (FP.l2d so)), .second, .val (.ref b50), .val (.int (1 : Int32)), .val (.int (1 : Int32)), .val (.ref b149), .val (.ref b154)] [(.int (if (2 : Int32) < sz then (1 : Int32) else (0 : Int32))), (.ref b149)]))
  refine OwnGo.of (A := T168.setTop (mkF m 589 #[.val (.int p0), .val (.long q1), .second, .val (.int p2), .val (.int p3), .val (.int p4), .val (.int sz), .val (.long o1), .second, .val (.ref b1), .val (.long sv), .second, .val (.double (FP.l2d so)), .second, .val (.ref b50), .val (.int (1 : Int32)), .val (.int (1 : Int32)), .val (.ref b149), .val (.ref b154)] [(.int (if (2 : Int32) < sz then (1 : Int32) else (0 : Int32))), (.ref b149)])) (B := T168.setTop (mkF m 592 #[.val (.int p0), .val (.long q1), .second, .val (.int p2), .val (.int p3), .val (.int p4), .val (.int sz), .val (.long o1), .second, .val (.ref b1), .val (.long sv), .second, .val (.double (FP.l2d so)), .second, .val (.ref b50), .val (.int (1 : Int32)), .val (.int (1 : Int32)), .val (.ref b149), .val (.ref b154)] [(.int (2 : Int32)), (.ref b1), (.int (if (2 : Int32) < sz then (1 : Int32) else (0 : Int32))), (.ref b149)])) (fun t k => ?_) ?_
  · show Steps p.tables e below (T168.setTop (mkF m 589 #[.val (.int p0), .val (.long q1), .second, .val (.int p2), .val (.int p3), .val (.int p4), .val (.int sz), .val (.long o1), .second, .val (.ref b1), .val (.long sv), .second, .val (.double (FP.l2d so)), .second, .val (.ref b50), .val (.int (1 : Int32)), .val (.int (1 : Int32)), .val (.ref b149), .val (.ref b154)] [(.int (if (2 : Int32) < sz then (1 : Int32) else (0 : Int32))), (.ref b149)])) t
    refine XS.aload X168.here hx rfl (hb hby at_589) rfl rfl ?_
    refine XS.iconst X168.here hx rfl (hb hby at_591) ?_
    exact k
  have cq175 := f170
  obtain ⟨clq175, Arq175, qq175, Sq175, Nq175, Hq175, Gq175⟩ := cq175
  have hinq175 := inb_of (j := (2 : Int32)) Sq175 ⟨by decide, by decide⟩
  refine OwnGo.of (X168.laload hx (j := (2 : Int32)) (v := (.long v2)) Arq175.1 (State.isArrayOf_alike hZ.alike Arq175.2.1) Arq175.2.2 hinq175 (Hq175.at hinq175 rfl) (g := (mkF m 592 #[.val (.int p0), .val (.long q1), .second, .val (.int p2), .val (.int p3), .val (.int p4), .val (.int sz), .val (.long o1), .second, .val (.ref b1), .val (.long sv), .second, .val (.double (FP.l2d so)), .second, .val (.ref b50), .val (.int (1 : Int32)), .val (.int (1 : Int32)), .val (.ref b149), .val (.ref b154)] [(.int (2 : Int32)), (.ref b1), (.int (if (2 : Int32) < sz then (1 : Int32) else (0 : Int32))), (.ref b149)])) rfl rfl (hb hby at_592)) ?_
  show OwnGo p.tables e below _ (T168.setTop (mkF m 593 #[.val (.int p0), .val (.long q1), .second, .val (.int p2), .val (.int p3), .val (.int p4), .val (.int sz), .val (.long o1), .second, .val (.ref b1), .val (.long sv), .second, .val (.double (FP.l2d so)), .second, .val (.ref b50), .val (.int (1 : Int32)), .val (.int (1 : Int32)), .val (.ref b149), .val (.ref b154)] [(.long v2), (.int (if (2 : Int32) < sz then (1 : Int32) else (0 : Int32))), (.ref b149)]))
  refine OwnGo.of (A := T168.setTop (mkF m 593 #[.val (.int p0), .val (.long q1), .second, .val (.int p2), .val (.int p3), .val (.int p4), .val (.int sz), .val (.long o1), .second, .val (.ref b1), .val (.long sv), .second, .val (.double (FP.l2d so)), .second, .val (.ref b50), .val (.int (1 : Int32)), .val (.int (1 : Int32)), .val (.ref b149), .val (.ref b154)] [(.long v2), (.int (if (2 : Int32) < sz then (1 : Int32) else (0 : Int32))), (.ref b149)])) (B := T168.setTop (mkF m 596 #[.val (.int p0), .val (.long q1), .second, .val (.int p2), .val (.int p3), .val (.int p4), .val (.int sz), .val (.long o1), .second, .val (.ref b1), .val (.long sv), .second, .val (.double (FP.l2d so)), .second, .val (.ref b50), .val (.int (1 : Int32)), .val (.int (1 : Int32)), .val (.ref b149), .val (.ref b154)] [(.long (v2 - o1)), (.int (if (2 : Int32) < sz then (1 : Int32) else (0 : Int32))), (.ref b149)])) (fun t k => ?_) ?_
  · show Steps p.tables e below (T168.setTop (mkF m 593 #[.val (.int p0), .val (.long q1), .second, .val (.int p2), .val (.int p3), .val (.int p4), .val (.int sz), .val (.long o1), .second, .val (.ref b1), .val (.long sv), .second, .val (.double (FP.l2d so)), .second, .val (.ref b50), .val (.int (1 : Int32)), .val (.int (1 : Int32)), .val (.ref b149), .val (.ref b154)] [(.long v2), (.int (if (2 : Int32) < sz then (1 : Int32) else (0 : Int32))), (.ref b149)])) t
    refine XS.lload X168.here hx rfl (hb hby at_593) rfl ?_
    refine XS.lsub X168.here hx rfl (hb hby at_595) rfl ?_
    exact k
  obtain ⟨T176, L176, v176, X176, hQ176, st176⟩ := own_callS X168 hx (y := (⟨"com/example/rankwright/rankwright/rank/AccumulatorSiftDownPinLaw", "addIf", "([JZJ)V"⟩ : MethodName)) hown (mvT hZ (hw _ (List.mem_of_getElem? (i := 24) rfl))) (mvT hZ (hw _ (List.mem_of_getElem? (i := 25) rfl))) (mvT hZ (hw _ (List.mem_of_getElem? (i := 3) rfl))) (mvT hZ (hw _ (List.mem_of_getElem? (i := 26) rfl))) (by decide) (backOf (W := 0) (rmi l Z aw hw [] b149 (if (2 : Int32) < sz then (1 : Int32) else (0 : Int32)) (v2 - o1) W172 k149 T168.heap n0 f169 y168_0 g_b149) hZ (hw _ (List.mem_of_getElem? (i := 26) rfl)) (hw _ (List.mem_of_getElem? (i := 3) rfl)) (by decide) (by decide)) (g := (mkF m 596 #[.val (.int p0), .val (.long q1), .second, .val (.int p2), .val (.int p3), .val (.int p4), .val (.int sz), .val (.long o1), .second, .val (.ref b1), .val (.long sv), .second, .val (.double (FP.l2d so)), .second, .val (.ref b50), .val (.int (1 : Int32)), .val (.int (1 : Int32)), .val (.ref b149), .val (.ref b154)] [(.long (v2 - o1)), (.int (if (2 : Int32) < sz then (1 : Int32) else (0 : Int32))), (.ref b149)])) rfl (by rw [hml]; rfl) (argsL := [(.ref b149), (.int (if (2 : Int32) < sz then (1 : Int32) else (0 : Int32))), (.long (v2 - o1))]) (rest := []) (lenOf pd_8 rfl) rfl (by show 2 * 0 + _ ≤ _; exact Nat.le_of_eq rfl) (hb hby at_596) rfl rfl (by decide) (by decide)
  obtain ⟨rfl, N176q, K176, y176_0⟩ := hQ176
  have f177 : n0 ≤ T176.heap.size := Nat.le_trans f169 K176.1
  have f178 : Arv Z T176.heap b1 k1 .long (8 : Int32) [(.long v0), (.long v1), (.long v2), (.long v3), (.long v4), (.long v5), (.long v6), (.long v7)] (.long (0 : Int64)) := f170.keep K176 (ninS ne_b1_b149 nin0)
  have f179 : Arv Z T176.heap b50 k50 .double (10 : Int32) (own_l10 (G)) (.double (0 : UInt64)) := f171.keep K176 (ninS ne_b50_b149 nin0)
  have f180 : Arv Z T176.heap b154 k154 .long (8 : Int32) [(.long (0 : Int64)), (.long (0 : Int64)), (.long (0 : Int64)), (.long (0 : Int64)), (.long (0 : Int64)), (.long (0 : Int64)), (.long (0 : Int64)), (.long (0 : Int64))] (.long (0 : Int64)) := f172.keep K176 (ninS (Ne.symm ne_b149_b154) nin0)
  obtain ⟨W180, qW180⟩ : ∃ z, z = own_ai W172 (if (2 : Int32) < sz then (1 : Int32) else (0 : Int32)) (v2 - o1) := ⟨_, rfl⟩
  rw [← qW180] at y176_0
  have N176 := Fr.app N168 N176q
  refine OwnGo.of st176 ?_
  show OwnGo p.tables e below _ (T176.setTop (mkF m 599 #[.val (.int p0), .val (.long q1), .second, .val (.int p2), .val (.int p3), .val (.int p4), .val (.int sz), .val (.long o1), .second, .val (.ref b1), .val (.long sv), .second, .val (.double (FP.l2d so)), .second, .val (.ref b50), .val (.int (1 : Int32)), .val (.int (1 : Int32)), .val (.ref b149), .val (.ref b154)] []))
  refine OwnGo.of (A := T176.setTop (mkF m 599 #[.val (.int p0), .val (.long q1), .second, .val (.int p2), .val (.int p3), .val (.int p4), .val (.int sz), .val (.long o1), .second, .val (.ref b1), .val (.long sv), .second, .val (.double (FP.l2d so)), .second, .val (.ref b50), .val (.int (1 : Int32)), .val (.int (1 : Int32)), .val (.ref b149), .val (.ref b154)] [])) (B := T176.setTop (mkF m 604 #[.val (.int p0), .val (.long q1), .second, .val (.int p2), .val (.int p3), .val (.int p4), .val (.int sz), .val (.long o1), .second, .val (.ref b1), .val (.long sv), .second, .val (.double (FP.l2d so)), .second, .val (.ref b50), .val (.int (1 : Int32)), .val (.int (1 : Int32)), .val (.ref b149), .val (.ref b154)] [(.int sz), (.int (3 : Int32)), (.ref b149)])) (fun t k => ?_) ?_
  · show Steps p.tables e below (T176.setTop (mkF m 599 #[.val (.int p0), .val (.long q1), .second, .val (.int p2), .val (.int p3), .val (.int p4), .val (.int sz), .val (.long o1), .second, .val (.ref b1), .val (.long sv), .second, .val (.double (FP.l2d so)), .second, .val (.ref b50), .val (.int (1 : Int32)), .val (.int (1 : Int32)), .val (.ref b149), .val (.ref b154)] [])) t
    refine XS.aload X176.here hx rfl (hb hby at_599) rfl rfl ?_
    refine XS.iconst X176.here hx rfl (hb hby at_601) ?_
    refine XS.iload X176.here hx rfl (hb hby at_602) rfl ?_
    exact k
  refine OwnGo.of (A := T176.setTop (mkF m 604 #[.val (.int p0), .val (.long q1), .second, .val (.int p2), .val (.int p3), .val (.int p4), .val (.int sz), .val (.long o1), .second, .val (.ref b1), .val (.long sv), .second, .val (.double (FP.l2d so)), .second, .val (.ref b50), .val (.int (1 : Int32)), .val (.int (1 : Int32)), .val (.ref b149), .val (.ref b154)] [(.int sz), (.int (3 : Int32)), (.ref b149)])) (B := T176.setTop (mkF m 612 #[.val (.int p0), .val (.long q1), .second, .val (.int p2), .val (.int p3), .val (.int p4), .val (.int sz), .val (.long o1), .second, .val (.ref b1), .val (.long sv), .second, .val (.double (FP.l2d so)), .second, .val (.ref b50), .val (.int (1 : Int32)), .val (.int (1 : Int32)), .val (.ref b149), .val (.ref b154)] [(.int (if (3 : Int32) < sz then (1 : Int32) else (0 : Int32))), (.ref b149)])) (fun t k => ?_) ?_
  · by_cases hc182 : (3 : Int32) < sz
    · rw [if_pos hc182] at k
      show Steps p.tables e below (T176.setTop (mkF m 604 #[.val (.int p0), .val (.long q1), .second, .val (.int p2), .val (.int p3), .val (.int p4), .val (.int sz), .val (.long o1), .second, .val (.ref b1), .val (.long sv), .second, .val (.double (FP.l2d so)), .second, .val (.ref b50), .val (.int (1 : Int32)), .val (.int (1 : Int32)), .val (.ref b149), .val (.ref b154)] [(.int sz), (.int (3 : Int32)), (.ref b149)])) t
      refine XS.icmpNo X176.here hx rfl (hb hby at_604) rfl (tlt hc182).2.1 ?_
      show Steps p.tables e below (T176.setTop (mkF m 607 #[.val (.int p0), .val (.long q1), .second, .val (.int p2), .val (.int p3), .val (.int p4), .val (.int sz), .val (.long o1), .second, .val (.ref b1), .val (.long sv), .second, .val (.double (FP.l2d so)), .second, .val (.ref b50), .val (.int (1 : Int32)), .val (.int (1 : Int32)), .val (.ref b149), .val (.ref b154)] [(.ref b149)])) t
      refine XS.iconst X176.here hx rfl (hb hby at_607) ?_
      show Steps p.tables e below (T176.setTop (mkF m 608 #[.val (.int p0), .val (.long q1), .second, .val (.int p2), .val (.int p3), .val (.int p4), .val (.int sz), .val (.long o1), .second, .val (.ref b1), .val (.long sv), .second, .val (.double (FP.l2d so)), .second, .val (.ref b50), .val (.int (1 : Int32)), .val (.int (1 : Int32)), .val (.ref b149), .val (.ref b154)] [(.int (1 : Int32)), (.ref b149)])) t
      refine XS.goto X176.here hx rfl (pc0 := 608) (pc' := 612) rfl (hb hby at_608) (by decide) (by decide) ?_
      exact k
    · rw [if_neg hc182] at k
      show Steps p.tables e below (T176.setTop (mkF m 604 #[.val (.int p0), .val (.long q1), .second, .val (.int p2), .val (.int p3), .val (.int p4), .val (.int sz), .val (.long o1), .second, .val (.ref b1), .val (.long sv), .second, .val (.double (FP.l2d so)), .second, .val (.ref b50), .val (.int (1 : Int32)), .val (.int (1 : Int32)), .val (.ref b149), .val (.ref b154)] [(.int sz), (.int (3 : Int32)), (.ref b149)])) t
      refine XS.icmpYes X176.here hx rfl (pc0 := 604) (pc' := 611) rfl (hb hby at_604) rfl (flt hc182).2.1 (by decide) (by decide) ?_
      show Steps p.tables e below (T176.setTop (mkF m 611 #[.val (.int p0), .val (.long q1), .second, .val (.int p2), .val (.int p3), .val (.int p4), .val (.int sz), .val (.long o1), .second, .val (.ref b1), .val (.long sv), .second, .val (.double (FP.l2d so)), .second, .val (.ref b50), .val (.int (1 : Int32)), .val (.int (1 : Int32)), .val (.ref b149), .val (.ref b154)] [(.ref b149)])) t
      refine XS.iconst X176.here hx rfl (hb hby at_611) ?_
      exact k
  show OwnGo p.tables e below _ (T176.setTop (mkF m 612 #[.val (.int p0), .val (.long q1), .second, .val (.int p2), .val (.int p3), .val (.int p4), .val (.int sz), .val (.long o1), .second, .val (.ref b1), .val (.long sv), .second, .val (.double (FP.l2d so)), .second, .val (.ref b50), .val (.int (1 : Int32)), .val (.int (1 : Int32)), .val (.ref b149), .val (.ref b154)] [(.int (if (3 : Int32) < sz then (1 : Int32) else (0 : Int32))), (.ref b149)]))
  refine OwnGo.of (A := T176.setTop (mkF m 612 #[.val (.int p0), .val (.long q1), .second, .val (.int p2), .val (.int p3), .val (.int p4), .val (.int sz), .val (.long o1), .second, .val (.ref b1), .val (.long sv), .second, .val (.double (FP.l2d so)), .second, .val (.ref b50), .val (.int (1 : Int32)), .val (.int (1 : Int32)), .val (.ref b149), .val (.ref b154)] [(.int (if (3 : Int32) < sz then (1 : Int32) else (0 : Int32))), (.ref b149)])) (B := T176.setTop (mkF m 615 #[.val (.int p0), .val (.long q1), .second, .val (.int p2), .val (.int p3), .val (.int p4), .val (.int sz), .val (.long o1), .second, .val (.ref b1), .val (.long sv), .second, .val (.double (FP.l2d so)), .second, .val (.ref b50), .val (.int (1 : Int32)), .val (.int (1 : Int32)), .val (.ref b149), .val (.ref b154)] [(.int (3 : Int32)), (.ref b1), (.int (if (3 : Int32) < sz then (1 : Int32) else (0 : Int32))), (.ref b149)])) (fun t k => ?_) ?_
  · show Steps p.tables e below (T176.setTop (mkF m 612 #[.val (.int p0), .val (.long q1), .second, .val (.int p2), .val (.int p3), .val (.int p4), .val (.int sz), .val (.long o1), .second, .val (.ref b1), .val (.long sv), .second, .val (.double (FP.l2d so)), .second, .val (.ref b50), .val (.int (1 : Int32)), .val (.int (1 : Int32)), .val (.ref b149), .val (.ref b154)] [(.int (if (3 : Int32) < sz then (1 : Int32) else (0 : Int32))), (.ref b149)])) t
    refine XS.aload X176.here hx rfl (hb hby at_612) rfl rfl ?_
    refine XS.iconst X176.here hx rfl (hb hby at_614) ?_
    exact k
  have cq183 := f178
  obtain ⟨clq183, Arq183, qq183, Sq183, Nq183, Hq183, Gq183⟩ := cq183
  have hinq183 := inb_of (j := (3 : Int32)) Sq183 ⟨by decide, by decide⟩
  refine OwnGo.of (X176.laload hx (j := (3 : Int32)) (v := (.long v3)) Arq183.1 (State.isArrayOf_alike hZ.alike Arq183.2.1) Arq183.2.2 hinq183 (Hq183.at hinq183 rfl) (g := (mkF m 615 #[.val (.int p0), .val (.long q1), .second, .val (.int p2), .val (.int p3), .val (.int p4), .val (.int sz), .val (.long o1), .second, .val (.ref b1), .val (.long sv), .second, .val (.double (FP.l2d so)), .second, .val (.ref b50), .val (.int (1 : Int32)), .val (.int (1 : Int32)), .val (.ref b149), .val (.ref b154)] [(.int (3 : Int32)), (.ref b1), (.int (if (3 : Int32) < sz then (1 : Int32) else (0 : Int32))), (.ref b149)])) rfl rfl (hb hby at_615)) ?_
  show OwnGo p.tables e below _ (T176.setTop (mkF m 616 #[.val (.int p0), .val (.long q1), .second, .val (.int p2), .val (.int p3), .val (.int p4), .val (.int sz), .val (.long o1), .second, .val (.ref b1), .val (.long sv), .second, .val (.double (FP.l2d so)), .second, .val (.ref b50), .val (.int (1 : Int32)), .val (.int (1 : Int32)), .val (.ref b149), .val (.ref b154)] [(.long v3), (.int (if (3 : Int32) < sz then (1 : Int32) else (0 : Int32))), (.ref b149)]))
  refine OwnGo.of (A := T176.setTop (mkF m 616 #[.val (.int p0), .val (.long q1), .second, .val (.int p2), .val (.int p3), .val (.int p4), .val (.int sz), .val (.long o1), .second, .val (.ref b1), .val (.long sv), .second, .val (.double (FP.l2d so)), .second, .val (.ref b50), .val (.int (1 : Int32)), .val (.int (1 : Int32)), .val (.ref b149), .val (.ref b154)] [(.long v3), (.int (if (3 : Int32) < sz then (1 : Int32) else (0 : Int32))), (.ref b149)])) (B := T176.setTop (mkF m 619 #[.val (.int p0), .val (.long q1), .second, .val (.int p2), .val (.int p3), .val (.int p4), .val (.int sz), .val (.long o1), .second, .val (.ref b1), .val (.long sv), .second, .val (.double (FP.l2d so)), .second, .val (.ref b50), .val (.int (1 : Int32)), .val (.int (1 : Int32)), .val (.ref b149), .val (.ref b154)] [(.long (v3 - o1)), (.int (if (3 : Int32) < sz then (1 : Int32) else (0 : Int32))), (.ref b149)])) (fun t k => ?_) ?_
  · show Steps p.tables e below (T176.setTop (mkF m 616 #[.val (.int p0), .val (.long q1), .second, .val (.int p2), .val (.int p3), .val (.int p4), .val (.int sz), .val (.long o1), .second, .val (.ref b1), .val (.long sv), .second, .val (.double (FP.l2d so)), .second, .val (.ref b50), .val (.int (1 : Int32)), .val (.int (1 : Int32)), .val (.ref b149), .val (.ref b154)] [(.long v3), (.int (if (3 : Int32) < sz then (1 : Int32) else (0 : Int32))), (.ref b149)])) t
    refine XS.lload X176.here hx rfl (hb hby at_616) rfl ?_
    refine XS.lsub X176.here hx rfl (hb hby at_618) rfl ?_
    exact k
  obtain ⟨T184, L184, v184, X184, hQ184, st184⟩ := own_callS X176 hx (y := (⟨"com/example/rankwright/rankwright/rank/AccumulatorSiftDownPinLaw", "addIf", "([JZJ)V"⟩ : MethodName)) hown (mvT hZ (hw _ (List.mem_of_getElem? (i := 24) rfl))) (mvT hZ (hw _ (List.mem_of_getElem? (i := 25) rfl))) (mvT hZ (hw _ (List.mem_of_getElem? (i := 3) rfl))) (mvT hZ (hw _ (List.mem_of_getElem? (i := 26) rfl))) (by decide) (backOf (W := 0) (rmi l Z aw hw [] b149 (if (3 : Int32) < sz then (1 : Int32) else (0 : Int32)) (v3 - o1) W180 k149 T176.heap n0 f177 y176_0 g_b149) hZ (hw _ (List.mem_of_getElem? (i := 26) rfl)) (hw _ (List.mem_of_getElem? (i := 3) rfl)) (by decide) (by decide)) (g := (mkF m 619 #[.val (.int p0), .val (.long q1), .second, .val (.int p2), .val (.int p3), .val (.int p4), .val (.int sz), .val (.long o1), .second, .val (.ref b1), .val (.long sv), .second, .val (.double (FP.l2d so)), .second, .val (.ref b50), .val (.int (1 : Int32)), .val (.int (1 : Int32)), .val (.ref b149), .val (.ref b154)] [(.long (v3 - o1)), (.int (if (3 : Int32) < sz then (1 : Int32) else (0 : Int32))), (.ref b149)])) rfl (by rw [hml]; rfl) (argsL := [(.ref b149), (.int (if (3 : Int32) < sz then (1 : Int32) else (0 : Int32))), (.long (v3 - o1))]) (rest := []) (lenOf pd_8 rfl) rfl (by show 2 * 0 + _ ≤ _; exact Nat.le_of_eq rfl) (hb hby at_619) rfl rfl (by decide) (by decide)
  obtain ⟨rfl, N184q, K184, y184_0⟩ := hQ184
  have f185 : n0 ≤ T184.heap.size := Nat.le_trans f177 K184.1
  have f186 : Arv Z T184.heap b1 k1 .long (8 : Int32) [(.long v0), (.long v1), (.long v2), (.long v3), (.long v4), (.long v5), (.long v6), (.long v7)] (.long (0 : Int64)) := f178.keep K184 (ninS ne_b1_b149 nin0)
  have f187 : Arv Z T184.heap b50 k50 .double (10 : Int32) (own_l10 (G)) (.double (0 : UInt64)) := f179.keep K184 (ninS ne_b50_b149 nin0)
  have f188 : Arv Z T184.heap b154 k154 .long (8 : Int32) [(.long (0 : Int64)), (.long (0 : Int64)), (.long (0 : Int64)), (.long (0 : Int64)), (.long (0 : Int64)), (.long (0 : Int64)), (.long (0 : Int64)), (.long (0 : Int64))] (.long (0 : Int64)) := f180.keep K184 (ninS (Ne.symm ne_b149_b154) nin0)
  obtain ⟨W188, qW188⟩ : ∃ z, z = own_ai W180 (if (3 : Int32) < sz then (1 : Int32) else (0 : Int32)) (v3 - o1) := ⟨_, rfl⟩
  rw [← qW188] at y184_0
  have N184 := Fr.app N176 N184q
  refine OwnGo.of st184 ?_
  show OwnGo p.tables e below _ (T184.setTop (mkF m 622 #[.val (.int p0), .val (.long q1), .second, .val (.int p2), .val (.int p3), .val (.int p4), .val (.int sz), .val (.long o1), .second, .val (.ref b1), .val (.long sv), .second, .val (.double (FP.l2d so)), .second, .val (.ref b50), .val (.int (1 : Int32)), .val (.int (1 : Int32)), .val (.ref b149), .val (.ref b154)] []))
  refine OwnGo.of (A := T184.setTop (mkF m 622 #[.val (.int p0), .val (.long q1), .second, .val (.int p2), .val (.int p3), .val (.int p4), .val (.int sz), .val (.long o1), .second, .val (.ref b1), .val (.long sv), .second, .val (.double (FP.l2d so)), .second, .val (.ref b50), .val (.int (1 : Int32)), .val (.int (1 : Int32)), .val (.ref b149), .val (.ref b154)] [])) (B := T184.setTop (mkF m 627 #[.val (.int p0), .val (.long q1), .second, .val (.int p2), .val (.int p3), .val (.int p4), .val (.int sz), .val (.long o1), .second, .val (.ref b1), .val (.long sv), .second, .val (.double (FP.l2d so)), .second, .val (.ref b50), .val (.int (1 : Int32)), .val (.int (1 : Int32)), .val (.ref b149), .val (.ref b154)] [(.int sz), (.int (4 : Int32)), (.ref b149)])) (fun t k => ?_) ?_
  · show Steps p.tables e below (T184.setTop (mkF m 622 #[.val (.int p0), .val (.long q1), .second, .val (.int p2), .val (.int p3), .val (.int p4), .val (.int sz), .val (.long o1), .second, .val (.ref b1), .val (.long sv), .second, .val (.double (FP.l2d so)), .second, .val (.ref b50), .val (.int (1 : Int32)), .val (.int (1 : Int32)), .val (.ref b149), .val (.ref b154)] [])) t
    refine XS.aload X184.here hx rfl (hb hby at_622) rfl rfl ?_
    refine XS.iconst X184.here hx rfl (hb hby at_624) ?_
    refine XS.iload X184.here hx rfl (hb hby at_625) rfl ?_
    exact k
  refine OwnGo.of (A := T184.setTop (mkF m 627 #[.val (.int p0), .val (.long q1), .second, .val (.int p2), .val (.int p3), .val (.int p4), .val (.int sz), .val (.long o1), .second, .val (.ref b1), .val (.long sv), .second, .val (.double (FP.l2d so)), .second, .val (.ref b50), .val (.int (1 : Int32)), .val (.int (1 : Int32)), .val (.ref b149), .val (.ref b154)] [(.int sz), (.int (4 : Int32)), (.ref b149)])) (B := T184.setTop (mkF m 635 #[.val (.int p0), .val (.long q1), .second, .val (.int p2), .val (.int p3), .val (.int p4), .val (.int sz), .val (.long o1), .second, .val (.ref b1), .val (.long sv), .second, .val (.double (FP.l2d so)), .second, .val (.ref b50), .val (.int (1 : Int32)), .val (.int (1 : Int32)), .val (.ref b149), .val (.ref b154)] [(.int (if (4 : Int32) < sz then (1 : Int32) else (0 : Int32))), (.ref b149)])) (fun t k => ?_) ?_
  · by_cases hc190 : (4 : Int32) < sz
    · rw [if_pos hc190] at k
      show Steps p.tables e below (T184.setTop (mkF m 627 #[.val (.int p0), .val (.long q1), .second, .val (.int p2), .val (.int p3), .val (.int p4), .val (.int sz), .val (.long o1), .second, .val (.ref b1), .val (.long sv), .second, .val (.double (FP.l2d so)), .second, .val (.ref b50), .val (.int (1 : Int32)), .val (.int (1 : Int32)), .val (.ref b149), .val (.ref b154)] [(.int sz), (.int (4 : Int32)), (.ref b149)])) t
      refine XS.icmpNo X184.here hx rfl (hb hby at_627) rfl (tlt hc190).2.1 ?_
      show Steps p.tables e below (T184.setTop (mkF m 630 #[.val (.int p0), .val (.long q1), .second, .val (.int p2), .val (.int p3), .val (.int p4), .val (.int sz), .val (.long o1), .second, .val (.ref b1), .val (.long sv), .second, .val (.double (FP.l2d so)), .second, .val (.ref b50), .val (.int (1 : Int32)), .val (.int (1 : Int32)), .val (.ref b149), .val (.ref b154)] [(.ref b149)])) t
      refine XS.iconst X184.here hx rfl (hb hby at_630) ?_
      show Steps p.tables e below (T184.setTop (mkF m 631 #[.val (.int p0), .val (.long q1), .second, .val (.int p2), .val (.int p3), .val (.int p4), .val (.int sz), .val (.long o1), .second, .val (.ref b1), .val (.long sv), .second, .val (.double (FP.l2d so)), .second, .val (.ref b50), .val (.int (1 : Int32)), .val (.int (1 : Int32)), .val (.ref b149), .val (.ref b154)] [(.int (1 : Int32)), (.ref b149)])) t
      refine XS.goto X184.here hx rfl (pc0 := 631) (pc' := 635) rfl (hb hby at_631) (by decide) (by decide) ?_
      exact k
    · rw [if_neg hc190] at k
      show Steps p.tables e below (T184.setTop (mkF m 627 #[.val (.int p0), .val (.long q1), .second, .val (.int p2), .val (.int p3), .val (.int p4), .val (.int sz), .val (.long o1), .second, .val (.ref b1), .val (.long sv), .second, .val (.double (FP.l2d so)), .second, .val (.ref b50), .val (.int (1 : Int32)), .val (.int (1 : Int32)), .val (.ref b149), .val (.ref b154)] [(.int sz), (.int (4 : Int32)), (.ref b149)])) t
      refine XS.icmpYes X184.here hx rfl (pc0 := 627) (pc' := 634) rfl (hb hby at_627) rfl (flt hc190).2.1 (by decide) (by decide) ?_
      show Steps p.tables e below (T184.setTop (mkF m 634 #[.val (.int p0), .val (.long q1), .second, .val (.int p2), .val (.int p3), .val (.int p4), .val (.int sz), .val (.long o1), .second, .val (.ref b1), .val (.long sv), .second, .val (.double (FP.l2d so)), .second, .val (.ref b50), .val (.int (1 : Int32)), .val (.int (1 : Int32)), .val (.ref b149), .val (.ref b154)] [(.ref b149)])) t
      refine XS.iconst X184.here hx rfl (hb hby at_634) ?_
      exact k
  show OwnGo p.tables e below _ (T184.setTop (mkF m 635 #[.val (.int p0), .val (.long q1), .second, .val (.int p2), .val (.int p3), .val (.int p4), .val (.int sz), .val (.long o1), .second, .val (.ref b1), .val (.long sv), .second, .val (.double (FP.l2d so)), .second, .val (.ref b50), .val (.int (1 : Int32)), .val (.int (1 : Int32)), .val (.ref b149), .val (.ref b154)] [(.int (if (4 : Int32) < sz then (1 : Int32) else (0 : Int32))), (.ref b149)]))
  refine OwnGo.of (A := T184.setTop (mkF m 635 #[.val (.int p0), .val (.long q1), .second, .val (.int p2), .val (.int p3), .val (.int p4), .val (.int sz), .val (.long o1), .second, .val (.ref b1), .val (.long sv), .second, .val (.double (FP.l2d so)), .second, .val (.ref b50), .val (.int (1 : Int32)), .val (.int (1 : Int32)), .val (.ref b149), .val (.ref b154)] [(.int (if (4 : Int32) < sz then (1 : Int32) else (0 : Int32))), (.ref b149)])) (B := T184.setTop (mkF m 638 #[.val (.int p0), .val (.long q1), .second, .val (.int p2), .val (.int p3), .val (.int p4), .val (.int sz), .val (.long o1), .second, .val (.ref b1), .val (.long sv), .second, .val (.double (FP.l2d so)), .second, .val (.ref b50), .val (.int (1 : Int32)), .val (.int (1 : Int32)), .val (.ref b149), .val (.ref b154)] [(.int (4 : Int32)), (.ref b1), (.int (if (4 : Int32) < sz then (1 : Int32) else (0 : Int32))), (.ref b149)])) (fun t k => ?_) ?_
  · show Steps p.tables e below (T184.setTop (mkF m 635 #[.val (.int p0), .val (.long q1), .second, .val (.int p2), .val (.int p3), .val (.int p4), .val (.int sz), .val (.long o1), .second, .val (.ref b1), .val (.long sv), .second, .val (.double (FP.l2d so)), .second, .val (.ref b50), .val (.int (1 : Int32)), .val (.int (1 : Int32)), .val (.ref b149), .val (.ref b154)] [(.int (if (4 : Int32) < sz then (1 : Int32) else (0 : Int32))), (.ref b149)])) t
    refine XS.aload X184.here hx rfl (hb hby at_635) rfl rfl ?_
    refine XS.iconst X184.here hx rfl (hb hby at_637) ?_
    exact k
  have cq191 := f186
  obtain ⟨clq191, Arq191, qq191, Sq191, Nq191, Hq191, Gq191⟩ := cq191
  have hinq191 := inb_of (j := (4 : Int32)) Sq191 ⟨by decide, by decide⟩
  refine OwnGo.of (X184.laload hx (j := (4 : Int32)) (v := (.long v4)) Arq191.1 (State.isArrayOf_alike hZ.alike Arq191.2.1) Arq191.2.2 hinq191 (Hq191.at hinq191 rfl) (g := (mkF m 638 #[.val (.int p0), .val (.long q1), .second, .val (.int p2), .val (.int p3), .val (.int p4), .val (.int sz), .val (.long o1), .second, .val (.ref b1), .val (.long sv), .second, .val (.double (FP.l2d so)), .second, .val (.ref b50), .val (.int (1 : Int32)), .val (.int (1 : Int32)), .val (.ref b149), .val (.ref b154)] [(.int (4 : Int32)), (.ref b1), (.int (if (4 : Int32) < sz then (1 : Int32) else (0 : Int32))), (.ref b149)])) rfl rfl (hb hby at_638)) ?_
  show OwnGo p.tables e below _ (T184.setTop (mkF m 639 #[.val (.int p0), .val (.long q1), .second, .val (.int p2), .val (.int p3), .val (.int p4), .val (.int sz), .val (.long o1), .second, .val (.ref b1), .val (.long sv), .second, .val (.double (FP.l2d so)), .second, .val (.ref b50), .val (.int (1 : Int32)), .val (.int (1 : Int32)), .val (.ref b149), .val (.ref b154)] [(.long v4), (.int (if (4 : Int32) < sz then (1 : Int32) else (0 : Int32))), (.ref b149)]))
  refine OwnGo.of (A := T184.setTop (mkF m 639 #[.val (.int p0), .val (.long q1), .second, .val (.int p2), .val (.int p3), .val (.int p4), .val (.int sz), .val (.long o1), .second, .val (.ref b1), .val (.long sv), .second, .val (.double (FP.l2d so)), .second, .val (.ref b50), .val (.int (1 : Int32)), .val (.int (1 : Int32)), .val (.ref b149), .val (.ref b154)] [(.long v4), (.int (if (4 : Int32) < sz then (1 : Int32) else (0 : Int32))), (.ref b149)])) (B := T184.setTop (mkF m 642 #[.val (.int p0), .val (.long q1), .second, .val (.int p2), .val (.int p3), .val (.int p4), .val (.int sz), .val (.long o1), .second, .val (.ref b1), .val (.long sv), .second, .val (.double (FP.l2d so)), .second, .val (.ref b50), .val (.int (1 : Int32)), .val (.int (1 : Int32)), .val (.ref b149), .val (.ref b154)] [(.long (v4 - o1)), (.int (if (4 : Int32) < sz then (1 : Int32) else (0 : Int32))), (.ref b149)])) (fun t k => ?_) ?_
  · show Steps p.tables e below (T184.setTop (mkF m 639 #[.val (.int p0), .val (.long q1), .second, .val (.int p2), .val (.int p3), .val (.int p4), .val (.int sz), .val (.long o1), .second, .val (.ref b1), .val (.long sv), .second, .val (.double (FP.l2d so)), .second, .val (.ref b50), .val (.int (1 : Int32)), .val (.int (1 : Int32)), .val (.ref b149), .val (.ref b154)] [(.long v4), (.int (if (4 : Int32) < sz then (1 : Int32) else (0 : Int32))), (.ref b149)])) t
    refine XS.lload X184.here hx rfl (hb hby at_639) rfl ?_
    refine XS.lsub X184.here hx rfl (hb hby at_641) rfl ?_
    exact k
  obtain ⟨T192, L192, v192, X192, hQ192, st192⟩ := own_callS X184 hx (y := (⟨"com/example/rankwright/rankwright/rank/AccumulatorSiftDownPinLaw", "addIf", "([JZJ)V"⟩ : MethodName)) hown (mvT hZ (hw _ (List.mem_of_getElem? (i := 24) rfl))) (mvT hZ (hw _ (List.mem_of_getElem? (i := 25) rfl))) (mvT hZ (hw _ (List.mem_of_getElem? (i := 3) rfl))) (mvT hZ (hw _ (List.mem_of_getElem? (i := 26) rfl))) (by decide) (backOf (W := 0) (rmi l Z aw hw [] b149 (if (4 : Int32) < sz then (1 : Int32) else (0 : Int32)) (v4 - o1) W188 k149 T184.heap n0 f185 y184_0 g_b149) hZ (hw _ (List.mem_of_getElem? (i := 26) rfl)) (hw _ (List.mem_of_getElem? (i := 3) rfl)) (by decide) (by decide)) (g := (mkF m 642 #[.val (.int p0), .val (.long q1), .second, .val (.int p2), .val (.int p3), .val (.int p4), .val (.int sz), .val (.long o1), .second, .val (.ref b1), .val (.long sv), .second, .val (.double (FP.l2d so)), .second, .val (.ref b50), .val (.int (1 : Int32)), .val (.int (1 : Int32)), .val (.ref b149), .val (.ref b154)] [(.long (v4 - o1)), (.int (if (4 : Int32) < sz then (1 : Int32) else (0 : Int32))), (.ref b149)])) rfl (by rw [hml]; rfl) (argsL := [(.ref b149), (.int (if (4 : Int32) < sz then (1 : Int32) else (0 : Int32))), (.long (v4 - o1))]) (rest := []) (lenOf pd_8 rfl) rfl (by show 2 * 0 + _ ≤ _; exact Nat.le_of_eq rfl) (hb hby at_642) rfl rfl (by decide) (by decide)
  obtain ⟨rfl, N192q, K192, y192_0⟩ := hQ192
  have f193 : n0 ≤ T192.heap.size := Nat.le_trans f185 K192.1
  have f194 : Arv Z T192.heap b1 k1 .long (8 : Int32) [(.long v0), (.long v1), (.long v2), (.long v3), (.long v4), (.long v5), (.long v6), (.long v7)] (.long (0 : Int64)) := f186.keep K192 (ninS ne_b1_b149 nin0)
  have f195 : Arv Z T192.heap b50 k50 .double (10 : Int32) (own_l10 (G)) (.double (0 : UInt64)) := f187.keep K192 (ninS ne_b50_b149 nin0)
  have f196 : Arv Z T192.heap b154 k154 .long (8 : Int32) [(.long (0 : Int64)), (.long (0 : Int64)), (.long (0 : Int64)), (.long (0 : Int64)), (.long (0 : Int64)), (.long (0 : Int64)), (.long (0 : Int64)), (.long (0 : Int64))] (.long (0 : Int64)) := f188.keep K192 (ninS (Ne.symm ne_b149_b154) nin0)
  obtain ⟨W196, qW196⟩ : ∃ z, z = own_ai W188 (if (4 : Int32) < sz then (1 : Int32) else (0 : Int32)) (v4 - o1) := ⟨_, rfl⟩
  rw [← qW196] at y192_0
  have N192 := Fr.app N184 N192q
  refine OwnGo.of st192 ?_
  show OwnGo p.tables e below _ (T192.setTop (mkF m 645 #[.val (.int p0), .val (.long q1), .second, .val (.int p2), .val (.int p3), .val (.int p4), .val (.int sz), .val (.long o1), .second, .val (.ref b1), .val (.long sv), .second, .val (.double (FP.l2d so)), .second, .val (.ref b50), .val (.int (1 : Int32)), .val (.int (1 : Int32)), .val (.ref b149), .val (.ref b154)] []))
  refine OwnGo.of (A := T192.setTop (mkF m 645 #[.val (.int p0), .val (.long q1), .second, .val (.int p2), .val (.int p3), .val (.int p4), .val (.int sz), .val (.long o1), .second, .val (.ref b1), .val (.long sv), .second, .val (.double (FP.l2d so)), .second, .val (.ref b50), .val (.int (1 : Int32)), .val (.int (1 : Int32)), .val (.ref b149), .val (.ref b154)] [])) (B := T192.setTop (mkF m 650 #[.val (.int p0), .val (.long q1), .second, .val (.int p2), .val (.int p3), .val (.int p4), .val (.int sz), .val (.long o1), .second, .val (.ref b1), .val (.long sv), .second, .val (.double (FP.l2d so)), .second, .val (.ref b50), .val (.int (1 : Int32)), .val (.int (1 : Int32)), .val (.ref b149), .val (.ref b154)] [(.int sz), (.int (5 : Int32)), (.ref b149)])) (fun t k => ?_) ?_
  · show Steps p.tables e below (T192.setTop (mkF m 645 #[.val (.int p0), .val (.long q1), .second, .val (.int p2), .val (.int p3), .val (.int p4), .val (.int sz), .val (.long o1), .second, .val (.ref b1), .val (.long sv), .second, .val (.double (FP.l2d so)), .second, .val (.ref b50), .val (.int (1 : Int32)), .val (.int (1 : Int32)), .val (.ref b149), .val (.ref b154)] [])) t
    refine XS.aload X192.here hx rfl (hb hby at_645) rfl rfl ?_
    refine XS.iconst X192.here hx rfl (hb hby at_647) ?_
    refine XS.iload X192.here hx rfl (hb hby at_648) rfl ?_
    exact k
  refine OwnGo.of (A := T192.setTop (mkF m 650 #[.val (.int p0), .val (.long q1), .second, .val (.int p2), .val (.int p3), .val (.int p4), .val (.int sz), .val (.long o1), .second, .val (.ref b1), .val (.long sv), .second, .val (.double (FP.l2d so)), .second, .val (.ref b50), .val (.int (1 : Int32)), .val (.int (1 : Int32)), .val (.ref b149), .val (.ref b154)] [(.int sz), (.int (5 : Int32)), (.ref b149)])) (B := T192.setTop (mkF m 658 #[.val (.int p0), .val (.long q1), .second, .val (.int p2), .val (.int p3), .val (.int p4), .val (.int sz), .val (.long o1), .second, .val (.ref b1), .val (.long sv), .second, .val (.double (FP.l2d so)), .second, .val (.ref b50), .val (.int (1 : Int32)), .val (.int (1 : Int32)), .val (.ref b149), .val (.ref b154)] [(.int (if (5 : Int32) < sz then (1 : Int32) else (0 : Int32))), (.ref b149)])) (fun t k => ?_) ?_
  · by_cases hc198 : (5 : Int32) < sz
    · rw [if_pos hc198] at k
      show Steps p.tables e below (T192.setTop (mkF m 650 #[.val (.int p0), .val (.long q1), .second, .val (.int p2), .val (.int p3), .val (.int p4), .val (.int sz), .val (.long o1), .second, .val (.ref b1), .val (.long sv), .second, .val (.double (FP.l2d so)), .second, .val (.ref b50), .val (.int (1 : Int32)), .val (.int (1 : Int32)), .val (.ref b149), .val (.ref b154)] [(.int sz), (.int (5 : Int32)), (.ref b149)])) t
      refine XS.icmpNo X192.here hx rfl (hb hby at_650) rfl (tlt hc198).2.1 ?_
      show Steps p.tables e below (T192.setTop (mkF m 653 #[.val (.int p0), .val (.long q1), .second, .val (.int p2), .val (.int p3), .val (.int p4), .val (.int sz), .val (.long o1), .second, .val (.ref b1), .val (.long sv), .second, .val (.double (FP.l2d so)), .second, .val (.ref b50), .val (.int (1 : Int32)), .val (.int (1 : Int32)), .val (.ref b149), .val (.ref b154)] [(.ref b149)])) t
      refine XS.iconst X192.here hx rfl (hb hby at_653) ?_
      show Steps p.tables e below (T192.setTop (mkF m 654 #[.val (.int p0), .val (.long q1), .second, .val (.int p2), .val (.int p3), .val (.int p4), .val (.int sz), .val (.long o1), .second, .val (.ref b1), .val (.long sv), .second, .val (.double (FP.l2d so)), .second, .val (.ref b50), .val (.int (1 : Int32)), .val (.int (1 : Int32)), .val (.ref b149), .val (.ref b154)] [(.int (1 : Int32)), (.ref b149)])) t
      refine XS.goto X192.here hx rfl (pc0 := 654) (pc' := 658) rfl (hb hby at_654) (by decide) (by decide) ?_
      exact k
    · rw [if_neg hc198] at k
      show Steps p.tables e below (T192.setTop (mkF m 650 #[.val (.int p0), .val (.long q1), .second, .val (.int p2), .val (.int p3), .val (.int p4), .val (.int sz), .val (.long o1), .second, .val (.ref b1), .val (.long sv), .second, .val (.double (FP.l2d so)), .second, .val (.ref b50), .val (.int (1 : Int32)), .val (.int (1 : Int32)), .val (.ref b149), .val (.ref b154)] [(.int sz), (.int (5 : Int32)), (.ref b149)])) t
      refine XS.icmpYes X192.here hx rfl (pc0 := 650) (pc' := 657) rfl (hb hby at_650) rfl (flt hc198).2.1 (by decide) (by decide) ?_
      show Steps p.tables e below (T192.setTop (mkF m 657 #[.val (.int p0), .val (.long q1), .second, .val (.int p2), .val (.int p3), .val (.int p4), .val (.int sz), .val (.long o1), .second, .val (.ref b1), .val (.long sv), .second, .val (.double (FP.l2d so)), .second, .val (.ref b50), .val (.int (1 : Int32)), .val (.int (1 : Int32)), .val (.ref b149), .val (.ref b154)] [(.ref b149)])) t
      refine XS.iconst X192.here hx rfl (hb hby at_657) ?_
      exact k
  show OwnGo p.tables e below _ (T192.setTop (mkF m 658 #[.val (.int p0), .val (.long q1), .second, .val (.int p2), .val (.int p3), .val (.int p4), .val (.int sz), .val (.long o1), .second, .val (.ref b1), .val (.long sv), .second, .val (.double (FP.l2d so)), .second, .val (.ref b50), .val (.int (1 : Int32)), .val (.int (1 : Int32)), .val (.ref b149), .val (.ref b154)] [(.int (if (5 : Int32) < sz then (1 : Int32) else (0 : Int32))), (.ref b149)]))
  refine OwnGo.of (A := T192.setTop (mkF m 658 #[.val (.int p0), .val (.long q1), .second, .val (.int p2), .val (.int p3), .val (.int p4), .val (.int sz), .val (.long o1), .second, .val (.ref b1), .val (.long sv), .second, .val (.double (FP.l2d so)), .second, .val (.ref b50), .val (.int (1 : Int32)), .val (.int (1 : Int32)), .val (.ref b149), .val (.ref b154)] [(.int (if (5 : Int32) < sz then (1 : Int32) else (0 : Int32))), (.ref b149)])) (B := T192.setTop (mkF m 661 #[.val (.int p0), .val (.long q1), .second, .val (.int p2), .val (.int p3), .val (.int p4), .val (.int sz), .val (.long o1), .second, .val (.ref b1), .val (.long sv), .second, .val (.double (FP.l2d so)), .second, .val (.ref b50), .val (.int (1 : Int32)), .val (.int (1 : Int32)), .val (.ref b149), .val (.ref b154)] [(.int (5 : Int32)), (.ref b1), (.int (if (5 : Int32) < sz then (1 : Int32) else (0 : Int32))), (.ref b149)])) (fun t k => ?_) ?_
  · show Steps p.tables e below (T192.setTop (mkF m 658 #[.val (.int p0), .val (.long q1), .second, .val (.int p2), .val (.int p3), .val (.int p4), .val (.int sz), .val (.long o1), .second, .val (.ref b1), .val (.long sv), .second, .val (.double (FP.l2d so)), .second, .val (.ref b50), .val (.int (1 : Int32)), .val (.int (1 : Int32)), .val (.ref b149), .val (.ref b154)] [(.int (if (5 : Int32) < sz then (1 : Int32) else (0 : Int32))), (.ref b149)])) t
    refine XS.aload X192.here hx rfl (hb hby at_658) rfl rfl ?_
    refine XS.iconst X192.here hx rfl (hb hby at_660) ?_
    exact k
  have cq199 := f194
  obtain ⟨clq199, Arq199, qq199, Sq199, Nq199, Hq199, Gq199⟩ := cq199
  have hinq199 := inb_of (j := (5 : Int32)) Sq199 ⟨by decide, by decide⟩
  refine OwnGo.of (X192.laload hx (j := (5 : Int32)) (v := (.long v5)) Arq199.1 (State.isArrayOf_alike hZ.alike Arq199.2.1) Arq199.2.2 hinq199 (Hq199.at hinq199 rfl) (g := (mkF m 661 #[.val (.int p0), .val (.long q1), .second, .val (.int p2), .val (.int p3), .val (.int p4), .val (.int sz), .val (.long o1), .second, .val (.ref b1), .val (.long sv), .second, .val (.double (FP.l2d so)), .second, .val (.ref b50), .val (.int (1 : Int32)), .val (.int (1 : Int32)), .val (.ref b149), .val (.ref b154)] [(.int (5 : Int32)), (.ref b1), (.int (if (5 : Int32) < sz then (1 : Int32) else (0 : Int32))), (.ref b149)])) rfl rfl (hb hby at_661)) ?_
  show OwnGo p.tables e below _ (T192.setTop (mkF m 662 #[.val (.int p0), .val (.long q1), .second, .val (.int p2), .val (.int p3), .val (.int p4), .val (.int sz), .val (.long o1), .second, .val (.ref b1), .val (.long sv), .second, .val (.double (FP.l2d so)), .second, .val (.ref b50), .val (.int (1 : Int32)), .val (.int (1 : Int32)), .val (.ref b149), .val (.ref b154)] [(.long v5), (.int (if (5 : Int32) < sz then (1 : Int32) else (0 : Int32))), (.ref b149)]))
  refine OwnGo.of (A := T192.setTop (mkF m 662 #[.val (.int p0), .val (.long q1), .second, .val (.int p2), .val (.int p3), .val (.int p4), .val (.int sz), .val (.long o1), .second, .val (.ref b1), .val (.long sv), .second, .val (.double (FP.l2d so)), .second, .val (.ref b50), .val (.int (1 : Int32)), .val (.int (1 : Int32)), .val (.ref b149), .val (.ref b154)] [(.long v5), (.int (if (5 : Int32) < sz then (1 : Int32) else (0 : Int32))), (.ref b149)])) (B := T192.setTop (mkF m 665 #[.val (.int p0), .val (.long q1), .second, .val (.int p2), .val (.int p3), .val (.int p4), .val (.int sz), .val (.long o1), .second, .val (.ref b1), .val (.long sv), .second, .val (.double (FP.l2d so)), .second, .val (.ref b50), .val (.int (1 : Int32)), .val (.int (1 : Int32)), .val (.ref b149), .val (.ref b154)] [(.long (v5 - o1)), (.int (if (5 : Int32) < sz then (1 : Int32) else (0 : Int32))), (.ref b149)])) (fun t k => ?_) ?_
  · show Steps p.tables e below (T192.setTop (mkF m 662 #[.val (.int p0), .val (.long q1), .second, .val (.int p2), .val (.int p3), .val (.int p4), .val (.int sz), .val (.long o1), .second, .val (.ref b1), .val (.long sv), .second, .val (.double (FP.l2d so)), .second, .val (.ref b50), .val (.int (1 : Int32)), .val (.int (1 : Int32)), .val (.ref b149), .val (.ref b154)] [(.long v5), (.int (if (5 : Int32) < sz then (1 : Int32) else (0 : Int32))), (.ref b149)])) t
    refine XS.lload X192.here hx rfl (hb hby at_662) rfl ?_
    refine XS.lsub X192.here hx rfl (hb hby at_664) rfl ?_
    exact k
  obtain ⟨T200, L200, v200, X200, hQ200, st200⟩ := own_callS X192 hx (y := (⟨"com/example/rankwright/rankwright/rank/AccumulatorSiftDownPinLaw", "addIf", "([JZJ)V"⟩ : MethodName)) hown (mvT hZ (hw _ (List.mem_of_getElem? (i := 24) rfl))) (mvT hZ (hw _ (List.mem_of_getElem? (i := 25) rfl))) (mvT hZ (hw _ (List.mem_of_getElem? (i := 3) rfl))) (mvT hZ (hw _ (List.mem_of_getElem? (i := 26) rfl))) (by decide) (backOf (W := 0) (rmi l Z aw hw [] b149 (if (5 : Int32) < sz then (1 : Int32) else (0 : Int32)) (v5 - o1) W196 k149 T192.heap n0 f193 y192_0 g_b149) hZ (hw _ (List.mem_of_getElem? (i := 26) rfl)) (hw _ (List.mem_of_getElem? (i := 3) rfl)) (by decide) (by decide)) (g := (mkF m 665 #[.val (.int p0), .val (.long q1), .second, .val (.int p2), .val (.int p3), .val (.int p4), .val (.int sz), .val (.long o1), .second, .val (.ref b1), .val (.long sv), .second, .val (.double (FP.l2d so)), .second, .val (.ref b50), .val (.int (1 : Int32)), .val (.int (1 : Int32)), .val (.ref b149), .val (.ref b154)] [(.long (v5 - o1)), (.int (if (5 : Int32) < sz then (1 : Int32) else (0 : Int32))), (.ref b149)])) rfl (by rw [hml]; rfl) (argsL := [(.ref b149), (.int (if (5 : Int32) < sz then (1 : Int32) else (0 : Int32))), (.long (v5 - o1))]) (rest := []) (lenOf pd_8 rfl) rfl (by show 2 * 0 + _ ≤ _; exact Nat.le_of_eq rfl) (hb hby at_665) rfl rfl (by decide) (by decide)
  obtain ⟨rfl, N200q, K200, y200_0⟩ := hQ200
  have f201 : n0 ≤ T200.heap.size := Nat.le_trans f193 K200.1
  have f202 : Arv Z T200.heap b1 k1 .long (8 : Int32) [(.long v0), (.long v1), (.long v2), (.long v3), (.long v4), (.long v5), (.long v6), (.long v7)] (.long (0 : Int64)) := f194.keep K200 (ninS ne_b1_b149 nin0)
  have f203 : Arv Z T200.heap b50 k50 .double (10 : Int32) (own_l10 (G)) (.double (0 : UInt64)) := f195.keep K200 (ninS ne_b50_b149 nin0)
  have f204 : Arv Z T200.heap b154 k154 .long (8 : Int32) [(.long (0 : Int64)), (.long (0 : Int64)), (.long (0 : Int64)), (.long (0 : Int64)), (.long (0 : Int64)), (.long (0 : Int64)), (.long (0 : Int64)), (.long (0 : Int64))] (.long (0 : Int64)) := f196.keep K200 (ninS (Ne.symm ne_b149_b154) nin0)
  obtain ⟨W204, qW204⟩ : ∃ z, z = own_ai W196 (if (5 : Int32) < sz then (1 : Int32) else (0 : Int32)) (v5 - o1) := ⟨_, rfl⟩
  rw [← qW204] at y200_0
  have N200 := Fr.app N192 N200q
  refine OwnGo.of st200 ?_
  show OwnGo p.tables e below _ (T200.setTop (mkF m 668 #[.val (.int p0), .val (.long q1), .second, .val (.int p2), .val (.int p3), .val (.int p4), .val (.int sz), .val (.long o1), .second, .val (.ref b1), .val (.long sv), .second, .val (.double (FP.l2d so)), .second, .val (.ref b50), .val (.int (1 : Int32)), .val (.int (1 : Int32)), .val (.ref b149), .val (.ref b154)] []))
  refine OwnGo.of (A := T200.setTop (mkF m 668 #[.val (.int p0), .val (.long q1), .second, .val (.int p2), .val (.int p3), .val (.int p4), .val (.int sz), .val (.long o1), .second, .val (.ref b1), .val (.long sv), .second, .val (.double (FP.l2d so)), .second, .val (.ref b50), .val (.int (1 : Int32)), .val (.int (1 : Int32)), .val (.ref b149), .val (.ref b154)] [])) (B := T200.setTop (mkF m 674 #[.val (.int p0), .val (.long q1), .second, .val (.int p2), .val (.int p3), .val (.int p4), .val (.int sz), .val (.long o1), .second, .val (.ref b1), .val (.long sv), .second, .val (.double (FP.l2d so)), .second, .val (.ref b50), .val (.int (1 : Int32)), .val (.int (1 : Int32)), .val (.ref b149), .val (.ref b154)] [(.int sz), (.int (6 : Int32)), (.ref b149)])) (fun t k => ?_) ?_
  · show Steps p.tables e below (T200.setTop (mkF m 668 #[.val (.int p0), .val (.long q1), .second, .val (.int p2), .val (.int p3), .val (.int p4), .val (.int sz), .val (.long o1), .second, .val (.ref b1), .val (.long sv), .second, .val (.double (FP.l2d so)), .second, .val (.ref b50), .val (.int (1 : Int32)), .val (.int (1 : Int32)), .val (.ref b149), .val (.ref b154)] [])) t
    refine XS.aload X200.here hx rfl (hb hby at_668) rfl rfl ?_
    refine XS.bipush X200.here hx rfl (hb hby at_670) ?_
    refine XS.iload X200.here hx rfl (hb hby at_672) rfl ?_
    exact k
  refine OwnGo.of (A := T200.setTop (mkF m 674 #[.val (.int p0), .val (.long q1), .second, .val (.int p2), .val (.int p3), .val (.int p4), .val (.int sz), .val (.long o1), .second, .val (.ref b1), .val (.long sv), .second, .val (.double (FP.l2d so)), .second, .val (.ref b50), .val (.int (1 : Int32)), .val (.int (1 : Int32)), .val (.ref b149), .val (.ref b154)] [(.int sz), (.int (6 : Int32)), (.ref b149)])) (B := T200.setTop (mkF m 682 #[.val (.int p0), .val (.long q1), .second, .val (.int p2), .val (.int p3), .val (.int p4), .val (.int sz), .val (.long o1), .second, .val (.ref b1), .val (.long sv), .second, .val (.double (FP.l2d so)), .second, .val (.ref b50), .val (.int (1 : Int32)), .val (.int (1 : Int32)), .val (.ref b149), .val (.ref b154)] [(.int (if (6 : Int32) < sz then (1 : Int32) else (0 : Int32))), (.ref b149)])) (fun t k => ?_) ?_
  · by_cases hc206 : (6 : Int32) < sz
    · rw [if_pos hc206] at k
      show Steps p.tables e below (T200.setTop (mkF m 674 #[.val (.int p0), .val (.long q1), .second, .val (.int p2), .val (.int p3), .val (.int p4), .val (.int sz), .val (.long o1), .second, .val (.ref b1), .val (.long sv), .second, .val (.double (FP.l2d so)), .second, .val (.ref b50), .val (.int (1 : Int32)), .val (.int (1 : Int32)), .val (.ref b149), .val (.ref b154)] [(.int sz), (.int (6 : Int32)), (.ref b149)])) t
      refine XS.icmpNo X200.here hx rfl (hb hby at_674) rfl (tlt hc206).2.1 ?_
      show Steps p.tables e below (T200.setTop (mkF m 677 #[.val (.int p0), .val (.long q1), .second, .val (.int p2), .val (.int p3), .val (.int p4), .val (.int sz), .val (.long o1), .second, .val (.ref b1), .val (.long sv), .second, .val (.double (FP.l2d so)), .second, .val (.ref b50), .val (.int (1 : Int32)), .val (.int (1 : Int32)), .val (.ref b149), .val (.ref b154)] [(.ref b149)])) t
      refine XS.iconst X200.here hx rfl (hb hby at_677) ?_
      show Steps p.tables e below (T200.setTop (mkF m 678 #[.val (.int p0), .val (.long q1), .second, .val (.int p2), .val (.int p3), .val (.int p4), .val (.int sz), .val (.long o1), .second, .val (.ref b1), .val (.long sv), .second, .val (.double (FP.l2d so)), .second, .val (.ref b50), .val (.int (1 : Int32)), .val (.int (1 : Int32)), .val (.ref b149), .val (.ref b154)] [(.int (1 : Int32)), (.ref b149)])) t
      refine XS.goto X200.here hx rfl (pc0 := 678) (pc' := 682) rfl (hb hby at_678) (by decide) (by decide) ?_
      exact k
    · rw [if_neg hc206] at k
      show Steps p.tables e below (T200.setTop (mkF m 674 #[.val (.int p0), .val (.long q1), .second, .val (.int p2), .val (.int p3), .val (.int p4), .val (.int sz), .val (.long o1), .second, .val (.ref b1), .val (.long sv), .second, .val (.double (FP.l2d so)), .second, .val (.ref b50), .val (.int (1 : Int32)), .val (.int (1 : Int32)), .val (.ref b149), .val (.ref b154)] [(.int sz), (.int (6 : Int32)), (.ref b149)])) t
      refine XS.icmpYes X200.here hx rfl (pc0 := 674) (pc' := 681) rfl (hb hby at_674) rfl (flt hc206).2.1 (by decide) (by decide) ?_
      show Steps p.tables e below (T200.setTop (mkF m 681 #[.val (.int p0), .val (.long q1), .second, .val (.int p2), .val (.int p3), .val (.int p4), .val (.int sz), .val (.long o1), .second, .val (.ref b1), .val (.long sv), .second, .val (.double (FP.l2d so)), .second, .val (.ref b50), .val (.int (1 : Int32)), .val (.int (1 : Int32)), .val (.ref b149), .val (.ref b154)] [(.ref b149)])) t
      refine XS.iconst X200.here hx rfl (hb hby at_681) ?_
      exact k
  show OwnGo p.tables e below _ (T200.setTop (mkF m 682 #[.val (.int p0), .val (.long q1), .second, .val (.int p2), .val (.int p3), .val (.int p4), .val (.int sz), .val (.long o1), .second, .val (.ref b1), .val (.long sv), .second, .val (.double (FP.l2d so)), .second, .val (.ref b50), .val (.int (1 : Int32)), .val (.int (1 : Int32)), .val (.ref b149), .val (.ref b154)] [(.int (if (6 : Int32) < sz then (1 : Int32) else (0 : Int32))), (.ref b149)]))
  refine OwnGo.of (A := T200.setTop (mkF m 682 #[.val (.int p0), .val (.long q1), .second, .val (.int p2), .val (.int p3), .val (.int p4), .val (.int sz), .val (.long o1), .second, .val (.ref b1), .val (.long sv), .second, .val (.double (FP.l2d so)), .second, .val (.ref b50), .val (.int (1 : Int32)), .val (.int (1 : Int32)), .val (.ref b149), .val (.ref b154)] [(.int (if (6 : Int32) < sz then (1 : Int32) else (0 : Int32))), (.ref b149)])) (B := T200.setTop (mkF m 686 #[.val (.int p0), .val (.long q1), .second, .val (.int p2), .val (.int p3), .val (.int p4), .val (.int sz), .val (.long o1), .second, .val (.ref b1), .val (.long sv), .second, .val (.double (FP.l2d so)), .second, .val (.ref b50), .val (.int (1 : Int32)), .val (.int (1 : Int32)), .val (.ref b149), .val (.ref b154)] [(.int (6 : Int32)), (.ref b1), (.int (if (6 : Int32) < sz then (1 : Int32) else (0 : Int32))), (.ref b149)])) (fun t k => ?_) ?_
  · show Steps p.tables e below (T200.setTop (mkF m 682 #[.val (.int p0), .val (.long q1), .second, .val (.int p2), .val (.int p3), .val (.int p4), .val (.int sz), .val (.long o1), .second, .val (.ref b1), .val (.long sv), .second, .val (.double (FP.l2d so)), .second, .val (.ref b50), .val (.int (1 : Int32)), .val (.int (1 : Int32)), .val (.ref b149), .val (.ref b154)] [(.int (if (6 : Int32) < sz then (1 : Int32) else (0 : Int32))), (.ref b149)])) t
    refine XS.aload X200.here hx rfl (hb hby at_682) rfl rfl ?_
    refine XS.bipush X200.here hx rfl (hb hby at_684) ?_
    exact k
  have cq207 := f202
  obtain ⟨clq207, Arq207, qq207, Sq207, Nq207, Hq207, Gq207⟩ := cq207
  have hinq207 := inb_of (j := (6 : Int32)) Sq207 ⟨by decide, by decide⟩
  refine OwnGo.of (X200.laload hx (j := (6 : Int32)) (v := (.long v6)) Arq207.1 (State.isArrayOf_alike hZ.alike Arq207.2.1) Arq207.2.2 hinq207 (Hq207.at hinq207 rfl) (g := (mkF m 686 #[.val (.int p0), .val (.long q1), .second, .val (.int p2), .val (.int p3), .val (.int p4), .val (.int sz), .val (.long o1), .second, .val (.ref b1), .val (.long sv), .second, .val (.double (FP.l2d so)), .second, .val (.ref b50), .val (.int (1 : Int32)), .val (.int (1 : Int32)), .val (.ref b149), .val (.ref b154)] [(.int (6 : Int32)), (.ref b1), (.int (if (6 : Int32) < sz then (1 : Int32) else (0 : Int32))), (.ref b149)])) rfl rfl (hb hby at_686)) ?_
  show OwnGo p.tables e below _ (T200.setTop (mkF m 687 #[.val (.int p0), .val (.long q1), .second, .val (.int p2), .val (.int p3), .val (.int p4), .val (.int sz), .val (.long o1), .second, .val (.ref b1), .val (.long sv), .second, .val (.double (FP.l2d so)), .second, .val (.ref b50), .val (.int (1 : Int32)), .val (.int (1 : Int32)), .val (.ref b149), .val (.ref b154)] [(.long v6), (.int (if (6 : Int32) < sz then (1 : Int32) else (0 : Int32))), (.ref b149)]))
  refine OwnGo.of (A := T200.setTop (mkF m 687 #[.val (.int p0), .val (.long q1), .second, .val (.int p2), .val (.int p3), .val (.int p4), .val (.int sz), .val (.long o1), .second, .val (.ref b1), .val (.long sv), .second, .val (.double (FP.l2d so)), .second, .val (.ref b50), .val (.int (1 : Int32)), .val (.int (1 : Int32)), .val (.ref b149), .val (.ref b154)] [(.long v6), (.int (if (6 : Int32) < sz then (1 : Int32) else (0 : Int32))), (.ref b149)])) (B := T200.setTop (mkF m 690 #[.val (.int p0), .val (.long q1), .second, .val (.int p2), .val (.int p3), .val (.int p4), .val (.int sz), .val (.long o1), .second, .val (.ref b1), .val (.long sv), .second, .val (.double (FP.l2d so)), .second, .val (.ref b50), .val (.int (1 : Int32)), .val (.int (1 : Int32)), .val (.ref b149), .val (.ref b154)] [(.long (v6 - o1)), (.int (if (6 : Int32) < sz then (1 : Int32) else (0 : Int32))), (.ref b149)])) (fun t k => ?_) ?_
  · show Steps p.tables e below (T200.setTop (mkF m 687 #[.val (.int p0), .val (.long q1), .second, .val (.int p2), .val (.int p3), .val (.int p4), .val (.int sz), .val (.long o1), .second, .val (.ref b1), .val (.long sv), .second, .val (.double (FP.l2d so)), .second, .val (.ref b50), .val (.int (1 : Int32)), .val (.int (1 : Int32)), .val (.ref b149), .val (.ref b154)] [(.long v6), (.int (if (6 : Int32) < sz then (1 : Int32) else (0 : Int32))), (.ref b149)])) t
    refine XS.lload X200.here hx rfl (hb hby at_687) rfl ?_
    refine XS.lsub X200.here hx rfl (hb hby at_689) rfl ?_
    exact k
  obtain ⟨T208, L208, v208, X208, hQ208, st208⟩ := own_callS X200 hx (y := (⟨"com/example/rankwright/rankwright/rank/AccumulatorSiftDownPinLaw", "addIf", "([JZJ)V"⟩ : MethodName)) hown (mvT hZ (hw _ (List.mem_of_getElem? (i := 24) rfl))) (mvT hZ (hw _ (List.mem_of_getElem? (i := 25) rfl))) (mvT hZ (hw _ (List.mem_of_getElem? (i := 3) rfl))) (mvT hZ (hw _ (List.mem_of_getElem? (i := 26) rfl))) (by decide) (backOf (W := 0) (rmi l Z aw hw [] b149 (if (6 : Int32) < sz then (1 : Int32) else (0 : Int32)) (v6 - o1) W204 k149 T200.heap n0 f201 y200_0 g_b149) hZ (hw _ (List.mem_of_getElem? (i := 26) rfl)) (hw _ (List.mem_of_getElem? (i := 3) rfl)) (by decide) (by decide)) (g := (mkF m 690 #[.val (.int p0), .val (.long q1), .second, .val (.int p2), .val (.int p3), .val (.int p4), .val (.int sz), .val (.long o1), .second, .val (.ref b1), .val (.long sv), .second, .val (.double (FP.l2d so)), .second, .val (.ref b50), .val (.int (1 : Int32)), .val (.int (1 : Int32)), .val (.ref b149), .val (.ref b154)] [(.long (v6 - o1)), (.int (if (6 : Int32) < sz then (1 : Int32) else (0 : Int32))), (.ref b149)])) rfl (by rw [hml]; rfl) (argsL := [(.ref b149), (.int (if (6 : Int32) < sz then (1 : Int32) else (0 : Int32))), (.long (v6 - o1))]) (rest := []) (lenOf pd_8 rfl) rfl (by show 2 * 0 + _ ≤ _; exact Nat.le_of_eq rfl) (hb hby at_690) rfl rfl (by decide) (by decide)
  obtain ⟨rfl, N208q, K208, y208_0⟩ := hQ208
  have f209 : n0 ≤ T208.heap.size := Nat.le_trans f201 K208.1
  have f210 : Arv Z T208.heap b1 k1 .long (8 : Int32) [(.long v0), (.long v1), (.long v2), (.long v3), (.long v4), (.long v5), (.long v6), (.long v7)] (.long (0 : Int64)) := f202.keep K208 (ninS ne_b1_b149 nin0)
  have f211 : Arv Z T208.heap b50 k50 .double (10 : Int32) (own_l10 (G)) (.double (0 : UInt64)) := f203.keep K208 (ninS ne_b50_b149 nin0)
  have f212 : Arv Z T208.heap b154 k154 .long (8 : Int32) [(.long (0 : Int64)), (.long (0 : Int64)), (.long (0 : Int64)), (.long (0 : Int64)), (.long (0 : Int64)), (.long (0 : Int64)), (.long (0 : Int64)), (.long (0 : Int64))] (.long (0 : Int64)) := f204.keep K208 (ninS (Ne.symm ne_b149_b154) nin0)
  obtain ⟨W212, qW212⟩ : ∃ z, z = own_ai W204 (if (6 : Int32) < sz then (1 : Int32) else (0 : Int32)) (v6 - o1) := ⟨_, rfl⟩
  rw [← qW212] at y208_0
  have N208 := Fr.app N200 N208q
  refine OwnGo.of st208 ?_
  show OwnGo p.tables e below _ (T208.setTop (mkF m 693 #[.val (.int p0), .val (.long q1), .second, .val (.int p2), .val (.int p3), .val (.int p4), .val (.int sz), .val (.long o1), .second, .val (.ref b1), .val (.long sv), .second, .val (.double (FP.l2d so)), .second, .val (.ref b50), .val (.int (1 : Int32)), .val (.int (1 : Int32)), .val (.ref b149), .val (.ref b154)] []))
  refine OwnGo.of (A := T208.setTop (mkF m 693 #[.val (.int p0), .val (.long q1), .second, .val (.int p2), .val (.int p3), .val (.int p4), .val (.int sz), .val (.long o1), .second, .val (.ref b1), .val (.long sv), .second, .val (.double (FP.l2d so)), .second, .val (.ref b50), .val (.int (1 : Int32)), .val (.int (1 : Int32)), .val (.ref b149), .val (.ref b154)] [])) (B := T208.setTop (mkF m 699 #[.val (.int p0), .val (.long q1), .second, .val (.int p2), .val (.int p3), .val (.int p4), .val (.int sz), .val (.long o1), .second, .val (.ref b1), .val (.long sv), .second, .val (.double (FP.l2d so)), .second, .val (.ref b50), .val (.int (1 : Int32)), .val (.int (1 : Int32)), .val (.ref b149), .val (.ref b154)] [(.int sz), (.int (7 : Int32)), (.ref b149)])) (fun t k => ?_) ?_
  · show Steps p.tables e below (T208.setTop (mkF m 693 #[.val (.int p0), .val (.long q1), .second, .val (.int p2), .val (.int p3), .val (.int p4), .val (.int sz), .val (.long o1), .second, .val (.ref b1), .val (.long sv), .second, .val (.double (FP.l2d so)), .second, .val (.ref b50), .val (.int (1 : Int32)), .val (.int (1 : Int32)), .val (.ref b149), .val (.ref b154)] [])) t
    refine XS.aload X208.here hx rfl (hb hby at_693) rfl rfl ?_
    refine XS.bipush X208.here hx rfl (hb hby at_695) ?_
    refine XS.iload X208.here hx rfl (hb hby at_697) rfl ?_
    exact k
  refine OwnGo.of (A := T208.setTop (mkF m 699 #[.val (.int p0), .val (.long q1), .second, .val (.int p2), .val (.int p3), .val (.int p4), .val (.int sz), .val (.long o1), .second, .val (.ref b1), .val (.long sv), .second, .val (.double (FP.l2d so)), .second, .val (.ref b50), .val (.int (1 : Int32)), .val (.int (1 : Int32)), .val (.ref b149), .val (.ref b154)] [(.int sz), (.int (7 : Int32)), (.ref b149)])) (B := T208.setTop (mkF m 707 #[.val (.int p0), .val (.long q1), .second, .val (.int p2), .val (.int p3), .val (.int p4), .val (.int sz), .val (.long o1), .second, .val (.ref b1), .val (.long sv), .second, .val (.double (FP.l2d so)), .second, .val (.ref b50), .val (.int (1 : Int32)), .val (.int (1 : Int32)), .val (.ref b149), .val (.ref b154)] [(.int (if (7 : Int32) < sz then (1 : Int32) else (0 : Int32))), (.ref b149)])) (fun t k => ?_) ?_
  · by_cases hc214 : (7 : Int32) < sz
    · rw [if_pos hc214] at k
      show Steps p.tables e below (T208.setTop (mkF m 699 #[.val (.int p0), .val (.long q1), .second, .val (.int p2), .val (.int p3), .val (.int p4), .val (.int sz), .val (.long o1), .second, .val (.ref b1), .val (.long sv), .second, .val (.double (FP.l2d so)), .second, .val (.ref b50), .val (.int (1 : Int32)), .val (.int (1 : Int32)), .val (.ref b149), .val (.ref b154)] [(.int sz), (.int (7 : Int32)), (.ref b149)])) t
      refine XS.icmpNo X208.here hx rfl (hb hby at_699) rfl (tlt hc214).2.1 ?_
      show Steps p.tables e below (T208.setTop (mkF m 702 #[.val (.int p0), .val (.long q1), .second, .val (.int p2), .val (.int p3), .val (.int p4), .val (.int sz), .val (.long o1), .second, .val (.ref b1), .val (.long sv), .second, .val (.double (FP.l2d so)), .second, .val (.ref b50), .val (.int (1 : Int32)), .val (.int (1 : Int32)), .val (.ref b149), .val (.ref b154)] [(.ref b149)])) t
      refine XS.iconst X208.here hx rfl (hb hby at_702) ?_
      show Steps p.tables e below (T208.setTop (mkF m 703 #[.val (.int p0), .val (.long q1), .second, .val (.int p2), .val (.int p3), .val (.int p4), .val (.int sz), .val (.long o1), .second, .val (.ref b1), .val (.long sv), .second, .val (.double (FP.l2d so)), .second, .val (.ref b50), .val (.int (1 : Int32)), .val (.int (1 : Int32)), .val (.ref b149), .val (.ref b154)] [(.int (1 : Int32)), (.ref b149)])) t
      refine XS.goto X208.here hx rfl (pc0 := 703) (pc' := 707) rfl (hb hby at_703) (by decide) (by decide) ?_
      exact k
    · rw [if_neg hc214] at k
      show Steps p.tables e below (T208.setTop (mkF m 699 #[.val (.int p0), .val (.long q1), .second, .val (.int p2), .val (.int p3), .val (.int p4), .val (.int sz), .val (.long o1), .second, .val (.ref b1), .val (.long sv), .second, .val (.double (FP.l2d so)), .second, .val (.ref b50), .val (.int (1 : Int32)), .val (.int (1 : Int32)), .val (.ref b149), .val (.ref b154)] [(.int sz), (.int (7 : Int32)), (.ref b149)])) t
      refine XS.icmpYes X208.here hx rfl (pc0 := 699) (pc' := 706) rfl (hb hby at_699) rfl (flt hc214).2.1 (by decide) (by decide) ?_
      show Steps p.tables e below (T208.setTop (mkF m 706 #[.val (.int p0), .val (.long q1), .second, .val (.int p2), .val (.int p3), .val (.int p4), .val (.int sz), .val (.long o1), .second, .val (.ref b1), .val (.long sv), .second, .val (.double (FP.l2d so)), .second, .val (.ref b50), .val (.int (1 : Int32)), .val (.int (1 : Int32)), .val (.ref b149), .val (.ref b154)] [(.ref b149)])) t
      refine XS.iconst X208.here hx rfl (hb hby at_706) ?_
      exact k
  show OwnGo p.tables e below _ (T208.setTop (mkF m 707 #[.val (.int p0), .val (.long q1), .second, .val (.int p2), .val (.int p3), .val (.int p4), .val (.int sz), .val (.long o1), .second, .val (.ref b1), .val (.long sv), .second, .val (.double (FP.l2d so)), .second, .val (.ref b50), .val (.int (1 : Int32)), .val (.int (1 : Int32)), .val (.ref b149), .val (.ref b154)] [(.int (if (7 : Int32) < sz then (1 : Int32) else (0 : Int32))), (.ref b149)]))
  refine OwnGo.of (A := T208.setTop (mkF m 707 #[.val (.int p0), .val (.long q1), .second, .val (.int p2), .val (.int p3), .val (.int p4), .val (.int sz), .val (.long o1), .second, .val (.ref b1), .val (.long sv), .second, .val (.double (FP.l2d so)), .second, .val (.ref b50), .val (.int (1 : Int32)), .val (.int (1 : Int32)), .val (.ref b149), .val (.ref b154)] [(.int (if (7 : Int32) < sz then (1 : Int32) else (0 : Int32))), (.ref b149)])) (B := T208.setTop (mkF m 711 #[.val (.int p0), .val (.long q1), .second, .val (.int p2), .val (.int p3), .val (.int p4), .val (.int sz), .val (.long o1), .second, .val (.ref b1), .val (.long sv), .second, .val (.double (FP.l2d so)), .second, .val (.ref b50), .val (.int (1 : Int32)), .val (.int (1 : Int32)), .val (.ref b149), .val (.ref b154)] [(.int (7 : Int32)), (.ref b1), (.int (if (7 : Int32) < sz then (1 : Int32) else (0 : Int32))), (.ref b149)])) (fun t k => ?_) ?_
  · show Steps p.tables e below (T208.setTop (mkF m 707 #[.val (.int p0), .val (.long q1), .second, .val (.int p2), .val (.int p3), .val (.int p4), .val (.int sz), .val (.long o1), .second, .val (.ref b1), .val (.long sv), .second, .val (.double (FP.l2d so)), .second, .val (.ref b50), .val (.int (1 : Int32)), .val (.int (1 : Int32)), .val (.ref b149), .val (.ref b154)] [(.int (if (7 : Int32) < sz then (1 : Int32) else (0 : Int32))), (.ref b149)])) t
    refine XS.aload X208.here hx rfl (hb hby at_707) rfl rfl ?_
    refine XS.bipush X208.here hx rfl (hb hby at_709) ?_
    exact k
  have cq215 := f210
  obtain ⟨clq215, Arq215, qq215, Sq215, Nq215, Hq215, Gq215⟩ := cq215
  have hinq215 := inb_of (j := (7 : Int32)) Sq215 ⟨by decide, by decide⟩
  refine OwnGo.of (X208.laload hx (j := (7 : Int32)) (v := (.long v7)) Arq215.1 (State.isArrayOf_alike hZ.alike Arq215.2.1) Arq215.2.2 hinq215 (Hq215.at hinq215 rfl) (g := (mkF m 711 #[.val (.int p0), .val (.long q1), .second, .val (.int p2), .val (.int p3), .val (.int p4), .val (.int sz), .val (.long o1), .second, .val (.ref b1), .val (.long sv), .second, .val (.double (FP.l2d so)), .second, .val (.ref b50), .val (.int (1 : Int32)), .val (.int (1 : Int32)), .val (.ref b149), .val (.ref b154)] [(.int (7 : Int32)), (.ref b1), (.int (if (7 : Int32) < sz then (1 : Int32) else (0 : Int32))), (.ref b149)])) rfl rfl (hb hby at_711)) ?_
  show OwnGo p.tables e below _ (T208.setTop (mkF m 712 #[.val (.int p0), .val (.long q1), .second, .val (.int p2), .val (.int p3), .val (.int p4), .val (.int sz), .val (.long o1), .second, .val (.ref b1), .val (.long sv), .second, .val (.double (FP.l2d so)), .second, .val (.ref b50), .val (.int (1 : Int32)), .val (.int (1 : Int32)), .val (.ref b149), .val (.ref b154)] [(.long v7), (.int (if (7 : Int32) < sz then (1 : Int32) else (0 : Int32))), (.ref b149)]))
  refine OwnGo.of (A := T208.setTop (mkF m 712 #[.val (.int p0), .val (.long q1), .second, .val (.int p2), .val (.int p3), .val (.int p4), .val (.int sz), .val (.long o1), .second, .val (.ref b1), .val (.long sv), .second, .val (.double (FP.l2d so)), .second, .val (.ref b50), .val (.int (1 : Int32)), .val (.int (1 : Int32)), .val (.ref b149), .val (.ref b154)] [(.long v7), (.int (if (7 : Int32) < sz then (1 : Int32) else (0 : Int32))), (.ref b149)])) (B := T208.setTop (mkF m 715 #[.val (.int p0), .val (.long q1), .second, .val (.int p2), .val (.int p3), .val (.int p4), .val (.int sz), .val (.long o1), .second, .val (.ref b1), .val (.long sv), .second, .val (.double (FP.l2d so)), .second, .val (.ref b50), .val (.int (1 : Int32)), .val (.int (1 : Int32)), .val (.ref b149), .val (.ref b154)] [(.long (v7 - o1)), (.int (if (7 : Int32) < sz then (1 : Int32) else (0 : Int32))), (.ref b149)])) (fun t k => ?_) ?_
  · show Steps p.tables e below (T208.setTop (mkF m 712 #[.val (.int p0), .val (.long q1), .second, .val (.int p2), .val (.int p3), .val (.int p4), .val (.int sz), .val (.long o1), .second, .val (.ref b1), .val (.long sv), .second, .val (.double (FP.l2d so)), .second, .val (.ref b50), .val (.int (1 : Int32)), .val (.int (1 : Int32)), .val (.ref b149), .val (.ref b154)] [(.long v7), (.int (if (7 : Int32) < sz then (1 : Int32) else (0 : Int32))), (.ref b149)])) t
    refine XS.lload X208.here hx rfl (hb hby at_712) rfl ?_
    refine XS.lsub X208.here hx rfl (hb hby at_714) rfl ?_
    exact k
  obtain ⟨T216, L216, v216, X216, hQ216, st216⟩ := own_callS X208 hx (y := (⟨"com/example/rankwright/rankwright/rank/AccumulatorSiftDownPinLaw", "addIf", "([JZJ)V"⟩ : MethodName)) hown (mvT hZ (hw _ (List.mem_of_getElem? (i := 24) rfl))) (mvT hZ (hw _ (List.mem_of_getElem? (i := 25) rfl))) (mvT hZ (hw _ (List.mem_of_getElem? (i := 3) rfl))) (mvT hZ (hw _ (List.mem_of_getElem? (i := 26) rfl))) (by decide) (backOf (W := 0) (rmi l Z aw hw [] b149 (if (7 : Int32) < sz then (1 : Int32) else (0 : Int32)) (v7 - o1) W212 k149 T208.heap n0 f209 y208_0 g_b149) hZ (hw _ (List.mem_of_getElem? (i := 26) rfl)) (hw _ (List.mem_of_getElem? (i := 3) rfl)) (by decide) (by decide)) (g := (mkF m 715 #[.val (.int p0), .val (.long q1), .second, .val (.int p2), .val (.int p3), .val (.int p4), .val (.int sz), .val (.long o1), .second, .val (.ref b1), .val (.long sv), .second, .val (.double (FP.l2d so)), .second, .val (.ref b50), .val (.int (1 : Int32)), .val (.int (1 : Int32)), .val (.ref b149), .val (.ref b154)] [(.long (v7 - o1)), (.int (if (7 : Int32) < sz then (1 : Int32) else (0 : Int32))), (.ref b149)])) rfl (by rw [hml]; rfl) (argsL := [(.ref b149), (.int (if (7 : Int32) < sz then (1 : Int32) else (0 : Int32))), (.long (v7 - o1))]) (rest := []) (lenOf pd_8 rfl) rfl (by show 2 * 0 + _ ≤ _; exact Nat.le_of_eq rfl) (hb hby at_715) rfl rfl (by decide) (by decide)
  obtain ⟨rfl, N216q, K216, y216_0⟩ := hQ216
  have f217 : n0 ≤ T216.heap.size := Nat.le_trans f209 K216.1
  have f218 : Arv Z T216.heap b1 k1 .long (8 : Int32) [(.long v0), (.long v1), (.long v2), (.long v3), (.long v4), (.long v5), (.long v6), (.long v7)] (.long (0 : Int64)) := f210.keep K216 (ninS ne_b1_b149 nin0)
  have f219 : Arv Z T216.heap b50 k50 .double (10 : Int32) (own_l10 (G)) (.double (0 : UInt64)) := f211.keep K216 (ninS ne_b50_b149 nin0)
  have f220 : Arv Z T216.heap b154 k154 .long (8 : Int32) [(.long (0 : Int64)), (.long (0 : Int64)), (.long (0 : Int64)), (.long (0 : Int64)), (.long (0 : Int64)), (.long (0 : Int64)), (.long (0 : Int64)), (.long (0 : Int64))] (.long (0 : Int64)) := f212.keep K216 (ninS (Ne.symm ne_b149_b154) nin0)
  obtain ⟨W220, qW220⟩ : ∃ z, z = own_ai W212 (if (7 : Int32) < sz then (1 : Int32) else (0 : Int32)) (v7 - o1) := ⟨_, rfl⟩
  rw [← qW220] at y216_0
  have N216 := Fr.app N208 N216q
  refine OwnGo.of st216 ?_
  show OwnGo p.tables e below _ (T216.setTop (mkF m 718 #[.val (.int p0), .val (.long q1), .second, .val (.int p2), .val (.int p3), .val (.int p4), .val (.int sz), .val (.long o1), .second, .val (.ref b1), .val (.long sv), .second, .val (.double (FP.l2d so)), .second, .val (.ref b50), .val (.int (1 : Int32)), .val (.int (1 : Int32)), .val (.ref b149), .val (.ref b154)] []))
  refine OwnGo.of (A := T216.setTop (mkF m 718 #[.val (.int p0), .val (.long q1), .second, .val (.int p2), .val (.int p3), .val (.int p4), .val (.int sz), .val (.long o1), .second, .val (.ref b1), .val (.long sv), .second, .val (.double (FP.l2d so)), .second, .val (.ref b50), .val (.int (1 : Int32)), .val (.int (1 : Int32)), .val (.ref b149), .val (.ref b154)] [])) (B := T216.setTop (mkF m 723 #[.val (.int p0), .val (.long q1), .second, .val (.int p2), .val (.int p3), .val (.int p4), .val (.int sz), .val (.long o1), .second, .val (.ref b1), .val (.long sv), .second, .val (.double (FP.l2d so)), .second, .val (.ref b50), .val (.int (1 : Int32)), .val (.int (1 : Int32)), .val (.ref b149), .val (.ref b154)] [(.int sz), (.int (0 : Int32)), (.ref b154)])) (fun t k => ?_) ?_
  · show Steps p.tables e below (T216.setTop (mkF m 718 #[.val (.int p0), .val (.long q1), .second, .val (.int p2), .val (.int p3), .val (.int p4), .val (.int sz), .val (.long o1), .second, .val (.ref b1), .val (.long sv), .second, .val (.double (FP.l2d so)), .second, .val (.ref b50), .val (.int (1 : Int32)), .val (.int (1 : Int32)), .val (.ref b149), .val (.ref b154)] [])) t
    refine XS.aload X216.here hx rfl (hb hby at_718) rfl rfl ?_
    refine XS.iconst X216.here hx rfl (hb hby at_720) ?_
    refine XS.iload X216.here hx rfl (hb hby at_721) rfl ?_
    exact k
  refine OwnGo.of (A := T216.setTop (mkF m 723 #[.val (.int p0), .val (.long q1), .second, .val (.int p2), .val (.int p3), .val (.int p4), .val (.int sz), .val (.long o1), .second, .val (.ref b1), .val (.long sv), .second, .val (.double (FP.l2d so)), .second, .val (.ref b50), .val (.int (1 : Int32)), .val (.int (1 : Int32)), .val (.ref b149), .val (.ref b154)] [(.int sz), (.int (0 : Int32)), (.ref b154)])) (B := T216.setTop (mkF m 731 #[.val (.int p0), .val (.long q1), .second, .val (.int p2), .val (.int p3), .val (.int p4), .val (.int sz), .val (.long o1), .second, .val (.ref b1), .val (.long sv), .second, .val (.double (FP.l2d so)), .second, .val (.ref b50), .val (.int (1 : Int32)), .val (.int (1 : Int32)), .val (.ref b149), .val (.ref b154)] [(.int (if (0 : Int32) < sz then (1 : Int32) else (0 : Int32))), (.ref b154)])) (fun t k => ?_) ?_
  · by_cases hc222 : (0 : Int32) < sz
    · rw [if_pos hc222] at k
      show Steps p.tables e below (T216.setTop (mkF m 723 #[.val (.int p0), .val (.long q1), .second, .val (.int p2), .val (.int p3), .val (.int p4), .val (.int sz), .val (.long o1), .second, .val (.ref b1), .val (.long sv), .second, .val (.double (FP.l2d so)), .second, .val (.ref b50), .val (.int (1 : Int32)), .val (.int (1 : Int32)), .val (.ref b149), .val (.ref b154)] [(.int sz), (.int (0 : Int32)), (.ref b154)])) t
      refine XS.icmpNo X216.here hx rfl (hb hby at_723) rfl (tlt hc222).2.1 ?_
      show Steps p.tables e below (T216.setTop (mkF m 726 #[.val (.int p0), .val (.long q1), .second, .val (.int p2), .val (.int p3), .val (.int p4), .val (.int sz), .val (.long o1), .second, .val (.ref b1), .val (.long sv), .second, .val (.double (FP.l2d so)), .second, .val (.ref b50), .val (.int (1 : Int32)), .val (.int (1 : Int32)), .val (.ref b149), .val (.ref b154)] [(.ref b154)])) t
      refine XS.iconst X216.here hx rfl (hb hby at_726) ?_
      show Steps p.tables e below (T216.setTop (mkF m 727 #[.val (.int p0), .val (.long q1), .second, .val (.int p2), .val (.int p3), .val (.int p4), .val (.int sz), .val (.long o1), .second, .val (.ref b1), .val (.long sv), .second, .val (.double (FP.l2d so)), .second, .val (.ref b50), .val (.int (1 : Int32)), .val (.int (1 : Int32)), .val (.ref b149), .val (.ref b154)] [(.int (1 : Int32)), (.ref b154)])) t
      refine XS.goto X216.here hx rfl (pc0 := 727) (pc' := 731) rfl (hb hby at_727) (by decide) (by decide) ?_
      exact k
    · rw [if_neg hc222] at k
      show Steps p.tables e below (T216.setTop (mkF m 723 #[.val (.int p0), .val (.long q1), .second, .val (.int p2), .val (.int p3), .val (.int p4), .val (.int sz), .val (.long o1), .second, .val (.ref b1), .val (.long sv), .second, .val (.double (FP.l2d so)), .second, .val (.ref b50), .val (.int (1 : Int32)), .val (.int (1 : Int32)), .val (.ref b149), .val (.ref b154)] [(.int sz), (.int (0 : Int32)), (.ref b154)])) t
      refine XS.icmpYes X216.here hx rfl (pc0 := 723) (pc' := 730) rfl (hb hby at_723) rfl (flt hc222).2.1 (by decide) (by decide) ?_
      show Steps p.tables e below (T216.setTop (mkF m 730 #[.val (.int p0), .val (.long q1), .second, .val (.int p2), .val (.int p3), .val (.int p4), .val (.int sz), .val (.long o1), .second, .val (.ref b1), .val (.long sv), .second, .val (.double (FP.l2d so)), .second, .val (.ref b50), .val (.int (1 : Int32)), .val (.int (1 : Int32)), .val (.ref b149), .val (.ref b154)] [(.ref b154)])) t
      refine XS.iconst X216.here hx rfl (hb hby at_730) ?_
      exact k
  show OwnGo p.tables e below _ (T216.setTop (mkF m 731 #[.val (.int p0), .val (.long q1), .second, .val (.int p2), .val (.int p3), .val (.int p4), .val (.int sz), .val (.long o1), .second, .val (.ref b1), .val (.long sv), .second, .val (.double (FP.l2d so)), .second, .val (.ref b50), .val (.int (1 : Int32)), .val (.int (1 : Int32)), .val (.ref b149), .val (.ref b154)] [(.int (if (0 : Int32) < sz then (1 : Int32) else (0 : Int32))), (.ref b154)]))
  refine OwnGo.of (A := T216.setTop (mkF m 731 #[.val (.int p0), .val (.long q1), .second, .val (.int p2), .val (.int p3), .val (.int p4), .val (.int sz), .val (.long o1), .second, .val (.ref b1), .val (.long sv), .second, .val (.double (FP.l2d so)), .second, .val (.ref b50), .val (.int (1 : Int32)), .val (.int (1 : Int32)), .val (.ref b149), .val (.ref b154)] [(.int (if (0 : Int32) < sz then (1 : Int32) else (0 : Int32))), (.ref b154)])) (B := T216.setTop (mkF m 734 #[.val (.int p0), .val (.long q1), .second, .val (.int p2), .val (.int p3), .val (.int p4), .val (.int sz), .val (.long o1), .second, .val (.ref b1), .val (.long sv), .second, .val (.double (FP.l2d so)), .second, .val (.ref b50), .val (.int (1 : Int32)), .val (.int (1 : Int32)), .val (.ref b149), .val (.ref b154)] [(.int (0 : Int32)), (.ref b50), (.int (if (0 : Int32) < sz then (1 : Int32) else (0 : Int32))), (.ref b154)])) (fun t k => ?_) ?_
  · show Steps p.tables e below (T216.setTop (mkF m 731 #[.val (.int p0), .val (.long q1), .second, .val (.int p2), .val (.int p3), .val (.int p4), .val (.int sz), .val (.long o1), .second, .val (.ref b1), .val (.long sv), .second, .val (.double (FP.l2d so)), .second, .val (.ref b50), .val (.int (1 : Int32)), .val (.int (1 : Int32)), .val (.ref b149), .val (.ref b154)] [(.int (if (0 : Int32) < sz then (1 : Int32) else (0 : Int32))), (.ref b154)])) t
    refine XS.aload X216.here hx rfl (hb hby at_731) rfl rfl ?_
    refine XS.iconst X216.here hx rfl (hb hby at_733) ?_
    exact k
  have cq223 := f219
  obtain ⟨clq223, Arq223, qq223, Sq223, Nq223, Hq223, Gq223⟩ := cq223
  have hinq223 := inb_of (j := (0 : Int32)) Sq223 ⟨by decide, by decide⟩
  refine OwnGo.of (X216.daload hx (j := (0 : Int32)) (v := (.double (FP.l2d (G 0)))) Arq223.1 (State.isArrayOf_alike hZ.alike Arq223.2.1) Arq223.2.2 hinq223 (Hq223.at hinq223 rfl) (g := (mkF m 734 #[.val (.int p0), .val (.long q1), .second, .val (.int p2), .val (.int p3), .val (.int p4), .val (.int sz), .val (.long o1), .second, .val (.ref b1), .val (.long sv), .second, .val (.double (FP.l2d so)), .second, .val (.ref b50), .val (.int (1 : Int32)), .val (.int (1 : Int32)), .val (.ref b149), .val (.ref b154)] [(.int (0 : Int32)), (.ref b50), (.int (if (0 : Int32) < sz then (1 : Int32) else (0 : Int32))), (.ref b154)])) rfl rfl (hb hby at_734)) ?_
  show OwnGo p.tables e below _ (T216.setTop (mkF m 735 #[.val (.int p0), .val (.long q1), .second, .val (.int p2), .val (.int p3), .val (.int p4), .val (.int sz), .val (.long o1), .second, .val (.ref b1), .val (.long sv), .second, .val (.double (FP.l2d so)), .second, .val (.ref b50), .val (.int (1 : Int32)), .val (.int (1 : Int32)), .val (.ref b149), .val (.ref b154)] [(.double (FP.l2d (G 0))), (.int (if (0 : Int32) < sz then (1 : Int32) else (0 : Int32))), (.ref b154)]))
  refine OwnGo.of (A := T216.setTop (mkF m 735 #[.val (.int p0), .val (.long q1), .second, .val (.int p2), .val (.int p3), .val (.int p4), .val (.int sz), .val (.long o1), .second, .val (.ref b1), .val (.long sv), .second, .val (.double (FP.l2d so)), .second, .val (.ref b50), .val (.int (1 : Int32)), .val (.int (1 : Int32)), .val (.ref b149), .val (.ref b154)] [(.double (FP.l2d (G 0))), (.int (if (0 : Int32) < sz then (1 : Int32) else (0 : Int32))), (.ref b154)])) (B := T216.setTop (mkF m 736 #[.val (.int p0), .val (.long q1), .second, .val (.int p2), .val (.int p3), .val (.int p4), .val (.int sz), .val (.long o1), .second, .val (.ref b1), .val (.long sv), .second, .val (.double (FP.l2d so)), .second, .val (.ref b50), .val (.int (1 : Int32)), .val (.int (1 : Int32)), .val (.ref b149), .val (.ref b154)] [(.long (FP.d2l (FP.l2d (G 0)))), (.int (if (0 : Int32) < sz then (1 : Int32) else (0 : Int32))), (.ref b154)])) (fun t k => ?_) ?_
  · show Steps p.tables e below (T216.setTop (mkF m 735 #[.val (.int p0), .val (.long q1), .second, .val (.int p2), .val (.int p3), .val (.int p4), .val (.int sz), .val (.long o1), .second, .val (.ref b1), .val (.long sv), .second, .val (.double (FP.l2d so)), .second, .val (.ref b50), .val (.int (1 : Int32)), .val (.int (1 : Int32)), .val (.ref b149), .val (.ref b154)] [(.double (FP.l2d (G 0))), (.int (if (0 : Int32) < sz then (1 : Int32) else (0 : Int32))), (.ref b154)])) t
    refine XS.d2lS X216.here hx rfl (hb hby at_735) rfl rfl ?_
    exact k
  rw [d2l_w (BG 0)]
  show OwnGo p.tables e below _ (T216.setTop (mkF m 736 #[.val (.int p0), .val (.long q1), .second, .val (.int p2), .val (.int p3), .val (.int p4), .val (.int sz), .val (.long o1), .second, .val (.ref b1), .val (.long sv), .second, .val (.double (FP.l2d so)), .second, .val (.ref b50), .val (.int (1 : Int32)), .val (.int (1 : Int32)), .val (.ref b149), .val (.ref b154)] [(.long (G 0)), (.int (if (0 : Int32) < sz then (1 : Int32) else (0 : Int32))), (.ref b154)]))
  refine OwnGo.of (A := T216.setTop (mkF m 736 #[.val (.int p0), .val (.long q1), .second, .val (.int p2), .val (.int p3), .val (.int p4), .val (.int sz), .val (.long o1), .second, .val (.ref b1), .val (.long sv), .second, .val (.double (FP.l2d so)), .second, .val (.ref b50), .val (.int (1 : Int32)), .val (.int (1 : Int32)), .val (.ref b149), .val (.ref b154)] [(.long (G 0)), (.int (if (0 : Int32) < sz then (1 : Int32) else (0 : Int32))), (.ref b154)])) (B := T216.setTop (mkF m 739 #[.val (.int p0), .val (.long q1), .second, .val (.int p2), .val (.int p3), .val (.int p4), .val (.int sz), .val (.long o1), .second, .val (.ref b1), .val (.long sv), .second, .val (.double (FP.l2d so)), .second, .val (.ref b50), .val (.int (1 : Int32)), .val (.int (1 : Int32)), .val (.ref b149), .val (.ref b154)] [(.long ((G 0) - o1)), (.int (if (0 : Int32) < sz then (1 : Int32) else (0 : Int32))), (.ref b154)])) (fun t k => ?_) ?_
  · show Steps p.tables e below (T216.setTop (mkF m 736 #[.val (.int p0), .val (.long q1), .second, .val (.int p2), .val (.int p3), .val (.int p4), .val (.int sz), .val (.long o1), .second, .val (.ref b1), .val (.long sv), .second, .val (.double (FP.l2d so)), .second, .val (.ref b50), .val (.int (1 : Int32)), .val (.int (1 : Int32)), .val (.ref b149), .val (.ref b154)] [(.long (G 0)), (.int (if (0 : Int32) < sz then (1 : Int32) else (0 : Int32))), (.ref b154)])) t
    refine XS.lload X216.here hx rfl (hb hby at_736) rfl ?_
    refine XS.lsub X216.here hx rfl (hb hby at_738) rfl ?_
    exact k
  obtain ⟨T224, L224, v224, X224, hQ224, st224⟩ := own_callS X216 hx (y := (⟨"com/example/rankwright/rankwright/rank/AccumulatorSiftDownPinLaw", "addIf", "([JZJ)V"⟩ : MethodName)) hown (mvT hZ (hw _ (List.mem_of_getElem? (i := 24) rfl))) (mvT hZ (hw _ (List.mem_of_getElem? (i := 25) rfl))) (mvT hZ (hw _ (List.mem_of_getElem? (i := 3) rfl))) (mvT hZ (hw _ (List.mem_of_getElem? (i := 26) rfl))) (by decide) (backOf (W := 0) (rmi l Z aw hw [] b154 (if (0 : Int32) < sz then (1 : Int32) else (0 : Int32)) ((G 0) - o1) (fun _ => (0 : Int64)) k154 T216.heap n0 f217 f220 g_b154) hZ (hw _ (List.mem_of_getElem? (i := 26) rfl)) (hw _ (List.mem_of_getElem? (i := 3) rfl)) (by decide) (by decide)) (g := (mkF m 739 #[.val (.int p0), .val (.long q1), .second, .val (.int p2), .val (.int p3), .val (.int p4), .val (.int sz), .val (.long o1), .second, .val (.ref b1), .val (.long sv), .second, .val (.double (FP.l2d so)), .second, .val (.ref b50), .val (.int (1 : Int32)), .val (.int (1 : Int32)), .val (.ref b149), .val (.ref b154)] [(.long ((G 0) - o1)), (.int (if (0 : Int32) < sz then (1 : Int32) else (0 : Int32))), (.ref b154)])) rfl (by rw [hml]; rfl) (argsL := [(.ref b154), (.int (if (0 : Int32) < sz then (1 : Int32) else (0 : Int32))), (.long ((G 0) - o1))]) (rest := []) (lenOf pd_8 rfl) rfl (by show 2 * 0 + _ ≤ _; exact Nat.le_of_eq rfl) (hb hby at_739) rfl rfl (by decide) (by decide)
  obtain ⟨rfl, N224q, K224, y224_0⟩ := hQ224
  have f225 : n0 ≤ T224.heap.size := Nat.le_trans f217 K224.1
  have f226 : Arv Z T224.heap b1 k1 .long (8 : Int32) [(.long v0), (.long v1), (.long v2), (.long v3), (.long v4), (.long v5), (.long v6), (.long v7)] (.long (0 : Int64)) := f218.keep K224 (ninS ne_b1_b154 nin0)
  have f227 : Arv Z T224.heap b50 k50 .double (10 : Int32) (own_l10 (G)) (.double (0 : UInt64)) := f219.keep K224 (ninS ne_b50_b154 nin0)
  have f228 : Arv Z T224.heap b149 k149 .long (8 : Int32) (own_l8 (W220)) (.long (0 : Int64)) := y216_0.keep K224 (ninS ne_b149_b154 nin0)
  obtain ⟨W228, qW228⟩ : ∃ z, z = own_ai (fun _ => (0 : Int64)) (if (0 : Int32) < sz then (1 : Int32) else (0 : Int32)) ((G 0) - o1) := ⟨_, rfl⟩
  rw [← qW228] at y224_0
  have N224 := Fr.app N216 N224q
  refine OwnGo.of st224 ?_
  show OwnGo p.tables e below _ (T224.setTop (mkF m 742 #[.val (.int p0), .val (.long q1), .second, .val (.int p2), .val (.int p3), .val (.int p4), .val (.int sz), .val (.long o1), .second, .val (.ref b1), .val (.long sv), .second, .val (.double (FP.l2d so)), .second, .val (.ref b50), .val (.int (1 : Int32)), .val (.int (1 : Int32)), .val (.ref b149), .val (.ref b154)] []))
  refine OwnGo.of (A := T224.setTop (mkF m 742 #[.val (.int p0), .val (.long q1), .second, .val (.int p2), .val (.int p3), .val (.int p4), .val (.int sz), .val (.long o1), .second, .val (.ref b1), .val (.long sv), .second, .val (.double (FP.l2d so)), .second, .val (.ref b50), .val (.int (1 : Int32)), .val (.int (1 : Int32)), .val (.ref b149), .val (.ref b154)] [])) (B := T224.setTop (mkF m 747 #[.val (.int p0), .val (.long q1), .second, .val (.int p2), .val (.int p3), .val (.int p4), .val (.int sz), .val (.long o1), .second, .val (.ref b1), .val (.long sv), .second, .val (.double (FP.l2d so)), .second, .val (.ref b50), .val (.int (1 : Int32)), .val (.int (1 : Int32)), .val (.ref b149), .val (.ref b154)] [(.int sz), (.int (1 : Int32)), (.ref b154)])) (fun t k => ?_) ?_
  · show Steps p.tables e below (T224.setTop (mkF m 742 #[.val (.int p0), .val (.long q1), .second, .val (.int p2), .val (.int p3), .val (.int p4), .val (.int sz), .val (.long o1), .second, .val (.ref b1), .val (.long sv), .second, .val (.double (FP.l2d so)), .second, .val (.ref b50), .val (.int (1 : Int32)), .val (.int (1 : Int32)), .val (.ref b149), .val (.ref b154)] [])) t
    refine XS.aload X224.here hx rfl (hb hby at_742) rfl rfl ?_
    refine XS.iconst X224.here hx rfl (hb hby at_744) ?_
    refine XS.iload X224.here hx rfl (hb hby at_745) rfl ?_
    exact k
  refine OwnGo.of (A := T224.setTop (mkF m 747 #[.val (.int p0), .val (.long q1), .second, .val (.int p2), .val (.int p3), .val (.int p4), .val (.int sz), .val (.long o1), .second, .val (.ref b1), .val (.long sv), .second, .val (.double (FP.l2d so)), .second, .val (.ref b50), .val (.int (1 : Int32)), .val (.int (1 : Int32)), .val (.ref b149), .val (.ref b154)] [(.int sz), (.int (1 : Int32)), (.ref b154)])) (B := T224.setTop (mkF m 755 #[.val (.int p0), .val (.long q1), .second, .val (.int p2), .val (.int p3), .val (.int p4), .val (.int sz), .val (.long o1), .second, .val (.ref b1), .val (.long sv), .second, .val (.double (FP.l2d so)), .second, .val (.ref b50), .val (.int (1 : Int32)), .val (.int (1 : Int32)), .val (.ref b149), .val (.ref b154)] [(.int (if (1 : Int32) < sz then (1 : Int32) else (0 : Int32))), (.ref b154)])) (fun t k => ?_) ?_
  · by_cases hc230 : (1 : Int32) < sz
    · rw [if_pos hc230] at k
      show Steps p.tables e below (T224.setTop (mkF m 747 #[.val (.int p0), .val (.long q1), .second, .val (.int p2), .val (.int p3), .val (.int p4), .val (.int sz), .val (.long o1), .second, .val (.ref b1), .val (.long sv), .second, .val (.double (FP.l2d so)), .second, .val (.ref b50), .val (.int (1 : Int32)), .val (.int (1 : Int32)), .val (.ref b149), .val (.ref b154)] [(.int sz), (.int (1 : Int32)), (.ref b154)])) t
      refine XS.icmpNo X224.here hx rfl (hb hby at_747) rfl (tlt hc230).2.1 ?_
      show Steps p.tables e below (T224.setTop (mkF m 750 #[.val (.int p0), .val (.long q1), .second, .val (.int p2), .val (.int p3), .val (.int p4), .val (.int sz), .val (.long o1), .second, .val (.ref b1), .val (.long sv), .second, .val (.double (FP.l2d so)), .second, .val (.ref b50), .val (.int (1 : Int32)), .val (.int (1 : Int32)), .val (.ref b149), .val (.ref b154)] [(.ref b154)])) t
      refine XS.iconst X224.here hx rfl (hb hby at_750) ?_
      show Steps p.tables e below (T224.setTop (mkF m 751 #[.val (.int p0), .val (.long q1), .second, .val (.int p2), .val (.int p3), .val (.int p4), .val (.int sz), .val (.long o1), .second, .val (.ref b1), .val (.long sv), .second, .val (.double (FP.l2d so)), .second, .val (.ref b50), .val (.int (1 : Int32)), .val (.int (1 : Int32)), .val (.ref b149), .val (.ref b154)] [(.int (1 : Int32)), (.ref b154)])) t
      refine XS.goto X224.here hx rfl (pc0 := 751) (pc' := 755) rfl (hb hby at_751) (by decide) (by decide) ?_
      exact k
    · rw [if_neg hc230] at k
      show Steps p.tables e below (T224.setTop (mkF m 747 #[.val (.int p0), .val (.long q1), .second, .val (.int p2), .val (.int p3), .val (.int p4), .val (.int sz), .val (.long o1), .second, .val (.ref b1), .val (.long sv), .second, .val (.double (FP.l2d so)), .second, .val (.ref b50), .val (.int (1 : Int32)), .val (.int (1 : Int32)), .val (.ref b149), .val (.ref b154)] [(.int sz), (.int (1 : Int32)), (.ref b154)])) t
      refine XS.icmpYes X224.here hx rfl (pc0 := 747) (pc' := 754) rfl (hb hby at_747) rfl (flt hc230).2.1 (by decide) (by decide) ?_
      show Steps p.tables e below (T224.setTop (mkF m 754 #[.val (.int p0), .val (.long q1), .second, .val (.int p2), .val (.int p3), .val (.int p4), .val (.int sz), .val (.long o1), .second, .val (.ref b1), .val (.long sv), .second, .val (.double (FP.l2d so)), .second, .val (.ref b50), .val (.int (1 : Int32)), .val (.int (1 : Int32)), .val (.ref b149), .val (.ref b154)] [(.ref b154)])) t
      refine XS.iconst X224.here hx rfl (hb hby at_754) ?_
      exact k
  show OwnGo p.tables e below _ (T224.setTop (mkF m 755 #[.val (.int p0), .val (.long q1), .second, .val (.int p2), .val (.int p3), .val (.int p4), .val (.int sz), .val (.long o1), .second, .val (.ref b1), .val (.long sv), .second, .val (.double (FP.l2d so)), .second, .val (.ref b50), .val (.int (1 : Int32)), .val (.int (1 : Int32)), .val (.ref b149), .val (.ref b154)] [(.int (if (1 : Int32) < sz then (1 : Int32) else (0 : Int32))), (.ref b154)]))
  refine OwnGo.of (A := T224.setTop (mkF m 755 #[.val (.int p0), .val (.long q1), .second, .val (.int p2), .val (.int p3), .val (.int p4), .val (.int sz), .val (.long o1), .second, .val (.ref b1), .val (.long sv), .second, .val (.double (FP.l2d so)), .second, .val (.ref b50), .val (.int (1 : Int32)), .val (.int (1 : Int32)), .val (.ref b149), .val (.ref b154)] [(.int (if (1 : Int32) < sz then (1 : Int32) else (0 : Int32))), (.ref b154)])) (B := T224.setTop (mkF m 758 #[.val (.int p0), .val (.long q1), .second, .val (.int p2), .val (.int p3), .val (.int p4), .val (.int sz), .val (.long o1), .second, .val (.ref b1), .val (.long sv), .second, .val (.double (FP.l2d so)), .second, .val (.ref b50), .val (.int (1 : Int32)), .val (.int (1 : Int32)), .val (.ref b149), .val (.ref b154)] [(.int (1 : Int32)), (.ref b50), (.int (if (1 : Int32) < sz then (1 : Int32) else (0 : Int32))), (.ref b154)])) (fun t k => ?_) ?_
  · show Steps p.tables e below (T224.setTop (mkF m 755 #[.val (.int p0), .val (.long q1), .second, .val (.int p2), .val (.int p3), .val (.int p4), .val (.int sz), .val (.long o1), .second, .val (.ref b1), .val (.long sv), .second, .val (.double (FP.l2d so)), .second, .val (.ref b50), .val (.int (1 : Int32)), .val (.int (1 : Int32)), .val (.ref b149), .val (.ref b154)] [(.int (if (1 : Int32) < sz then (1 : Int32) else (0 : Int32))), (.ref b154)])) t
    refine XS.aload X224.here hx rfl (hb hby at_755) rfl rfl ?_
    refine XS.iconst X224.here hx rfl (hb hby at_757) ?_
    exact k
  have cq231 := f227
  obtain ⟨clq231, Arq231, qq231, Sq231, Nq231, Hq231, Gq231⟩ := cq231
  have hinq231 := inb_of (j := (1 : Int32)) Sq231 ⟨by decide, by decide⟩
  refine OwnGo.of (X224.daload hx (j := (1 : Int32)) (v := (.double (FP.l2d (G 1)))) Arq231.1 (State.isArrayOf_alike hZ.alike Arq231.2.1) Arq231.2.2 hinq231 (Hq231.at hinq231 rfl) (g := (mkF m 758 #[.val (.int p0), .val (.long q1), .second, .val (.int p2), .val (.int p3), .val (.int p4), .val (.int sz), .val (.long o1), .second, .val (.ref b1), .val (.long sv), .second, .val (.double (FP.l2d so)), .second, .val (.ref b50), .val (.int (1 : Int32)), .val (.int (1 : Int32)), .val (.ref b149), .val (.ref b154)] [(.int (1 : Int32)), (.ref b50), (.int (if (1 : Int32) < sz then (1 : Int32) else (0 : Int32))), (.ref b154)])) rfl rfl (hb hby at_758)) ?_
  show OwnGo p.tables e below _ (T224.setTop (mkF m 759 #[.val (.int p0), .val (.long q1), .second, .val (.int p2), .val (.int p3), .val (.int p4), .val (.int sz), .val (.long o1), .second, .val (.ref b1), .val (.long sv), .second, .val (.double (FP.l2d so)), .second, .val (.ref b50), .val (.int (1 : Int32)), .val (.int (1 : Int32)), .val (.ref b149), .val (.ref b154)] [(.double (FP.l2d (G 1))), (.int (if (1 : Int32) < sz then (1 : Int32) else (0 : Int32))), (.ref b154)]))
  refine OwnGo.of (A := T224.setTop (mkF m 759 #[.val (.int p0), .val (.long q1), .second, .val (.int p2), .val (.int p3), .val (.int p4), .val (.int sz), .val (.long o1), .second, .val (.ref b1), .val (.long sv), .second, .val (.double (FP.l2d so)), .second, .val (.ref b50), .val (.int (1 : Int32)), .val (.int (1 : Int32)), .val (.ref b149), .val (.ref b154)] [(.double (FP.l2d (G 1))), (.int (if (1 : Int32) < sz then (1 : Int32) else (0 : Int32))), (.ref b154)])) (B := T224.setTop (mkF m 760 #[.val (.int p0), .val (.long q1), .second, .val (.int p2), .val (.int p3), .val (.int p4), .val (.int sz), .val (.long o1), .second, .val (.ref b1), .val (.long sv), .second, .val (.double (FP.l2d so)), .second, .val (.ref b50), .val (.int (1 : Int32)), .val (.int (1 : Int32)), .val (.ref b149), .val (.ref b154)] [(.long (FP.d2l (FP.l2d (G 1)))), (.int (if (1 : Int32) < sz then (1 : Int32) else (0 : Int32))), (.ref b154)])) (fun t k => ?_) ?_
  · show Steps p.tables e below (T224.setTop (mkF m 759 #[.val (.int p0), .val (.long q1), .second, .val (.int p2), .val (.int p3), .val (.int p4), .val (.int sz), .val (.long o1), .second, .val (.ref b1), .val (.long sv), .second, .val (.double (FP.l2d so)), .second, .val (.ref b50), .val (.int (1 : Int32)), .val (.int (1 : Int32)), .val (.ref b149), .val (.ref b154)] [(.double (FP.l2d (G 1))), (.int (if (1 : Int32) < sz then (1 : Int32) else (0 : Int32))), (.ref b154)])) t
    refine XS.d2lS X224.here hx rfl (hb hby at_759) rfl rfl ?_
    exact k
  rw [d2l_w (BG 1)]
  show OwnGo p.tables e below _ (T224.setTop (mkF m 760 #[.val (.int p0), .val (.long q1), .second, .val (.int p2), .val (.int p3), .val (.int p4), .val (.int sz), .val (.long o1), .second, .val (.ref b1), .val (.long sv), .second, .val (.double (FP.l2d so)), .second, .val (.ref b50), .val (.int (1 : Int32)), .val (.int (1 : Int32)), .val (.ref b149), .val (.ref b154)] [(.long (G 1)), (.int (if (1 : Int32) < sz then (1 : Int32) else (0 : Int32))), (.ref b154)]))
  refine OwnGo.of (A := T224.setTop (mkF m 760 #[.val (.int p0), .val (.long q1), .second, .val (.int p2), .val (.int p3), .val (.int p4), .val (.int sz), .val (.long o1), .second, .val (.ref b1), .val (.long sv), .second, .val (.double (FP.l2d so)), .second, .val (.ref b50), .val (.int (1 : Int32)), .val (.int (1 : Int32)), .val (.ref b149), .val (.ref b154)] [(.long (G 1)), (.int (if (1 : Int32) < sz then (1 : Int32) else (0 : Int32))), (.ref b154)])) (B := T224.setTop (mkF m 763 #[.val (.int p0), .val (.long q1), .second, .val (.int p2), .val (.int p3), .val (.int p4), .val (.int sz), .val (.long o1), .second, .val (.ref b1), .val (.long sv), .second, .val (.double (FP.l2d so)), .second, .val (.ref b50), .val (.int (1 : Int32)), .val (.int (1 : Int32)), .val (.ref b149), .val (.ref b154)] [(.long ((G 1) - o1)), (.int (if (1 : Int32) < sz then (1 : Int32) else (0 : Int32))), (.ref b154)])) (fun t k => ?_) ?_
  · show Steps p.tables e below (T224.setTop (mkF m 760 #[.val (.int p0), .val (.long q1), .second, .val (.int p2), .val (.int p3), .val (.int p4), .val (.int sz), .val (.long o1), .second, .val (.ref b1), .val (.long sv), .second, .val (.double (FP.l2d so)), .second, .val (.ref b50), .val (.int (1 : Int32)), .val (.int (1 : Int32)), .val (.ref b149), .val (.ref b154)] [(.long (G 1)), (.int (if (1 : Int32) < sz then (1 : Int32) else (0 : Int32))), (.ref b154)])) t
    refine XS.lload X224.here hx rfl (hb hby at_760) rfl ?_
    refine XS.lsub X224.here hx rfl (hb hby at_762) rfl ?_
    exact k
  obtain ⟨T232, L232, v232, X232, hQ232, st232⟩ := own_callS X224 hx (y := (⟨"com/example/rankwright/rankwright/rank/AccumulatorSiftDownPinLaw", "addIf", "([JZJ)V"⟩ : MethodName)) hown (mvT hZ (hw _ (List.mem_of_getElem? (i := 24) rfl))) (mvT hZ (hw _ (List.mem_of_getElem? (i := 25) rfl))) (mvT hZ (hw _ (List.mem_of_getElem? (i := 3) rfl))) (mvT hZ (hw _ (List.mem_of_getElem? (i := 26) rfl))) (by decide) (backOf (W := 0) (rmi l Z aw hw [] b154 (if (1 : Int32) < sz then (1 : Int32) else (0 : Int32)) ((G 1) - o1) W228 k154 T224.heap n0 f225 y224_0 g_b154) hZ (hw _ (List.mem_of_getElem? (i := 26) rfl)) (hw _ (List.mem_of_getElem? (i := 3) rfl)) (by decide) (by decide)) (g := (mkF m 763 #[.val (.int p0), .val (.long q1), .second, .val (.int p2), .val (.int p3), .val (.int p4), .val (.int sz), .val (.long o1), .second, .val (.ref b1), .val (.long sv), .second, .val (.double (FP.l2d so)), .second, .val (.ref b50), .val (.int (1 : Int32)), .val (.int (1 : Int32)), .val (.ref b149), .val (.ref b154)] [(.long ((G 1) - o1)), (.int (if (1 : Int32) < sz then (1 : Int32) else (0 : Int32))), (.ref b154)])) rfl (by rw [hml]; rfl) (argsL := [(.ref b154), (.int (if (1 : Int32) < sz then (1 : Int32) else (0 : Int32))), (.long ((G 1) - o1))]) (rest := []) (lenOf pd_8 rfl) rfl (by show 2 * 0 + _ ≤ _; exact Nat.le_of_eq rfl) (hb hby at_763) rfl rfl (by decide) (by decide)
  obtain ⟨rfl, N232q, K232, y232_0⟩ := hQ232
  have f233 : n0 ≤ T232.heap.size := Nat.le_trans f225 K232.1
  have f234 : Arv Z T232.heap b1 k1 .long (8 : Int32) [(.long v0), (.long v1), (.long v2), (.long v3), (.long v4), (.long v5), (.long v6), (.long v7)] (.long (0 : Int64)) := f226.keep K232 (ninS ne_b1_b154 nin0)
  have f235 : Arv Z T232.heap b50 k50 .double (10 : Int32) (own_l10 (G)) (.double (0 : UInt64)) := f227.keep K232 (ninS ne_b50_b154 nin0)
  have f236 : Arv Z T232.heap b149 k149 .long (8 : Int32) (own_l8 (W220)) (.long (0 : Int64)) := f228.keep K232 (ninS ne_b149_b154 nin0)
  obtain ⟨W236, qW236⟩ : ∃ z, z = own_ai W228 (if (1 : Int32) < sz then (1 : Int32) else (0 : Int32)) ((G 1) - o1) := ⟨_, rfl⟩
  rw [← qW236] at y232_0
  have N232 := Fr.app N224 N232q
  refine OwnGo.of st232 ?_
  show OwnGo p.tables e below _ (T232.setTop (mkF m 766 #[.val (.int p0), .val (.long q1), .second, .val (.int p2), .val (.int p3), .val (.int p4), .val (.int sz), .val (.long o1), .second, .val (.ref b1), .val (.long sv), .second, .val (.double (FP.l2d so)), .second, .val (.ref b50), .val (.int (1 : Int32)), .val (.int (1 : Int32)), .val (.ref b149), .val (.ref b154)] []))
  refine OwnGo.of (A := T232.setTop (mkF m 766 #[.val (.int p0), .val (.long q1), .second, .val (.int p2), .val (.int p3), .val (.int p4), .val (.int sz), .val (.long o1), .second, .val (.ref b1), .val (.long sv), .second, .val (.double (FP.l2d so)), .second, .val (.ref b50), .val (.int (1 : Int32)), .val (.int (1 : Int32)), .val (.ref b149), .val (.ref b154)] [])) (B := T232.setTop (mkF m 771 #[.val (.int p0), .val (.long q1), .second, .val (.int p2), .val (.int p3), .val (.int p4), .val (.int sz), .val (.long o1), .second, .val (.ref b1), .val (.long sv), .second, .val (.double (FP.l2d so)), .second, .val (.ref b50), .val (.int (1 : Int32)), .val (.int (1 : Int32)), .val (.ref b149), .val (.ref b154)] [(.int sz), (.int (2 : Int32)), (.ref b154)])) (fun t k => ?_) ?_
  · show Steps p.tables e below (T232.setTop (mkF m 766 #[.val (.int p0), .val (.long q1), .second, .val (.int p2), .val (.int p3), .val (.int p4), .val (.int sz), .val (.long o1), .second, .val (.ref b1), .val (.long sv), .second, .val (.double (FP.l2d so)), .second, .val (.ref b50), .val (.int (1 : Int32)), .val (.int (1 : Int32)), .val (.ref b149), .val (.ref b154)] [])) t
    refine XS.aload X232.here hx rfl (hb hby at_766) rfl rfl ?_
    refine XS.iconst X232.here hx rfl (hb hby at_768) ?_
    refine XS.iload X232.here hx rfl (hb hby at_769) rfl ?_
    exact k
  refine OwnGo.of (A := T232.setTop (mkF m 771 #[.val (.int p0), .val (.long q1), .second, .val (.int p2), .val (.int p3), .val (.int p4), .val (.int sz), .val (.long o1), .second, .val (.ref b1), .val (.long sv), .second, .val (.double (FP.l2d so)), .second, .val (.ref b50), .val (.int (1 : Int32)), .val (.int (1 : Int32)), .val (.ref b149), .val (.ref b154)] [(.int sz), (.int (2 : Int32)), (.ref b154)])) (B := T232.setTop (mkF m 779 #[.val (.int p0), .val (.long q1), .second, .val (.int p2), .val (.int p3), .val (.int p4), .val (.int sz), .val (.long o1), .second, .val (.ref b1), .val (.long sv), .second, .val (.double (FP.l2d so)), .second, .val (.ref b50), .val (.int (1 : Int32)), .val (.int (1 : Int32)), .val (.ref b149), .val (.ref b154)] [(.int (if (2 : Int32) < sz then (1 : Int32) else (0 : Int32))), (.ref b154)])) (fun t k => ?_) ?_
  · by_cases hc238 : (2 : Int32) < sz
    · rw [if_pos hc238] at k
      show Steps p.tables e below (T232.setTop (mkF m 771 #[.val (.int p0), .val (.long q1), .second, .val (.int p2), .val (.int p3), .val (.int p4), .val (.int sz), .val (.long o1), .second, .val (.ref b1), .val (.long sv), .second, .val (.double (FP.l2d so)), .second, .val (.ref b50), .val (.int (1 : Int32)), .val (.int (1 : Int32)), .val (.ref b149), .val (.ref b154)] [(.int sz), (.int (2 : Int32)), (.ref b154)])) t
      refine XS.icmpNo X232.here hx rfl (hb hby at_771) rfl (tlt hc238).2.1 ?_
      show Steps p.tables e below (T232.setTop (mkF m 774 #[.val (.int p0), .val (.long q1), .second, .val (.int p2), .val (.int p3), .val (.int p4), .val (.int sz), .val (.long o1), .second, .val (.ref b1), .val (.long sv), .second, .val (.double (FP.l2d so)), .second, .val (.ref b50), .val (.int (1 : Int32)), .val (.int (1 : Int32)), .val (.ref b149), .val (.ref b154)] [(.ref b154)])) t
      refine XS.iconst X232.here hx rfl (hb hby at_774) ?_
      show Steps p.tables e below (T232.setTop (mkF m 775 #[.val (.int p0), .val (.long q1), .second, .val (.int p2), .val (.int p3), .val (.int p4), .val (.int sz), .val (.long o1), .second, .val (.ref b1), .val (.long sv), .second, .val (.double (FP.l2d so)), .second, .val (.ref b50), .val (.int (1 : Int32)), .val (.int (1 : Int32)), .val (.ref b149), .val (.ref b154)] [(.int (1 : Int32)), (.ref b154)])) t
      refine XS.goto X232.here hx rfl (pc0 := 775) (pc' := 779) rfl (hb hby at_775) (by decide) (by decide) ?_
      exact k
    · rw [if_neg hc238] at k
      show Steps p.tables e below (T232.setTop (mkF m 771 #[.val (.int p0), .val (.long q1), .second, .val (.int p2), .val (.int p3), .val (.int p4), .val (.int sz), .val (.long o1), .second, .val (.ref b1), .val (.long sv), .second, .val (.double (FP.l2d so)), .second, .val (.ref b50), .val (.int (1 : Int32)), .val (.int (1 : Int32)), .val (.ref b149), .val (.ref b154)] [(.int sz), (.int (2 : Int32)), (.ref b154)])) t
      refine XS.icmpYes X232.here hx rfl (pc0 := 771) (pc' := 778) rfl (hb hby at_771) rfl (flt hc238).2.1 (by decide) (by decide) ?_
      show Steps p.tables e below (T232.setTop (mkF m 778 #[.val (.int p0), .val (.long q1), .second, .val (.int p2), .val (.int p3), .val (.int p4), .val (.int sz), .val (.long o1), .second, .val (.ref b1), .val (.long sv), .second, .val (.double (FP.l2d so)), .second, .val (.ref b50), .val (.int (1 : Int32)), .val (.int (1 : Int32)), .val (.ref b149), .val (.ref b154)] [(.ref b154)])) t
      refine XS.iconst X232.here hx rfl (hb hby at_778) ?_
      exact k
  show OwnGo p.tables e below _ (T232.setTop (mkF m 779 #[.val (.int p0), .val (.long q1), .second, .val (.int p2), .val (.int p3), .val (.int p4), .val (.int sz), .val (.long o1), .second, .val (.ref b1), .val (.long sv), .second, .val (.double (FP.l2d so)), .second, .val (.ref b50), .val (.int (1 : Int32)), .val (.int (1 : Int32)), .val (.ref b149), .val (.ref b154)] [(.int (if (2 : Int32) < sz then (1 : Int32) else (0 : Int32))), (.ref b154)]))
  refine OwnGo.of (A := T232.setTop (mkF m 779 #[.val (.int p0), .val (.long q1), .second, .val (.int p2), .val (.int p3), .val (.int p4), .val (.int sz), .val (.long o1), .second, .val (.ref b1), .val (.long sv), .second, .val (.double (FP.l2d so)), .second, .val (.ref b50), .val (.int (1 : Int32)), .val (.int (1 : Int32)), .val (.ref b149), .val (.ref b154)] [(.int (if (2 : Int32) < sz then (1 : Int32) else (0 : Int32))), (.ref b154)])) (B := T232.setTop (mkF m 782 #[.val (.int p0), .val (.long q1), .second, .val (.int p2), .val (.int p3), .val (.int p4), .val (.int sz), .val (.long o1), .second, .val (.ref b1), .val (.long sv), .second, .val (.double (FP.l2d so)), .second, .val (.ref b50), .val (.int (1 : Int32)), .val (.int (1 : Int32)), .val (.ref b149), .val (.ref b154)] [(.int (2 : Int32)), (.ref b50), (.int (if (2 : Int32) < sz then (1 : Int32) else (0 : Int32))), (.ref b154)])) (fun t k => ?_) ?_
  · show Steps p.tables e below (T232.setTop (mkF m 779 #[.val (.int p0), .val (.long q1), .second, .val (.int p2), .val (.int p3), .val (.int p4), .val (.int sz), .val (.long o1), .second, .val (.ref b1), .val (.long sv), .second, .val (.double (FP.l2d so)), .second, .val (.ref b50), .val (.int (1 : Int32)), .val (.int (1 : Int32)), .val (.ref b149), .val (.ref b154)] [(.int (if (2 : Int32) < sz then (1 : Int32) else (0 : Int32))), (.ref b154)])) t
    refine XS.aload X232.here hx rfl (hb hby at_779) rfl rfl ?_
    refine XS.iconst X232.here hx rfl (hb hby at_781) ?_
    exact k
  have cq239 := f235
  obtain ⟨clq239, Arq239, qq239, Sq239, Nq239, Hq239, Gq239⟩ := cq239
  have hinq239 := inb_of (j := (2 : Int32)) Sq239 ⟨by decide, by decide⟩
  refine OwnGo.of (X232.daload hx (j := (2 : Int32)) (v := (.double (FP.l2d (G 2)))) Arq239.1 (State.isArrayOf_alike hZ.alike Arq239.2.1) Arq239.2.2 hinq239 (Hq239.at hinq239 rfl) (g := (mkF m 782 #[.val (.int p0), .val (.long q1), .second, .val (.int p2), .val (.int p3), .val (.int p4), .val (.int sz), .val (.long o1), .second, .val (.ref b1), .val (.long sv), .second, .val (.double (FP.l2d so)), .second, .val (.ref b50), .val (.int (1 : Int32)), .val (.int (1 : Int32)), .val (.ref b149), .val (.ref b154)] [(.int (2 : Int32)), (.ref b50), (.int (if (2 : Int32) < sz then (1 : Int32) else (0 : Int32))), (.ref b154)])) rfl rfl (hb hby at_782)) ?_
  show OwnGo p.tables e below _ (T232.setTop (mkF m 783 #[.val (.int p0), .val (.long q1), .second, .val (.int p2), .val (.int p3), .val (.int p4), .val (.int sz), .val (.long o1), .second, .val (.ref b1), .val (.long sv), .second, .val (.double (FP.l2d so)), .second, .val (.ref b50), .val (.int (1 : Int32)), .val (.int (1 : Int32)), .val (.ref b149), .val (.ref b154)] [(.double (FP.l2d (G 2))), (.int (if (2 : Int32) < sz then (1 : Int32) else (0 : Int32))), (.ref b154)]))
  refine OwnGo.of (A := T232.setTop (mkF m 783 #[.val (.int p0), .val (.long q1), .second, .val (.int p2), .val (.int p3), .val (.int p4), .val (.int sz), .val (.long o1), .second, .val (.ref b1), .val (.long sv), .second, .val (.double (FP.l2d so)), .second, .val (.ref b50), .val (.int (1 : Int32)), .val (.int (1 : Int32)), .val (.ref b149), .val (.ref b154)] [(.double (FP.l2d (G 2))), (.int (if (2 : Int32) < sz then (1 : Int32) else (0 : Int32))), (.ref b154)])) (B := T232.setTop (mkF m 784 #[.val (.int p0), .val (.long q1), .second, .val (.int p2), .val (.int p3), .val (.int p4), .val (.int sz), .val (.long o1), .second, .val (.ref b1), .val (.long sv), .second, .val (.double (FP.l2d so)), .second, .val (.ref b50), .val (.int (1 : Int32)), .val (.int (1 : Int32)), .val (.ref b149), .val (.ref b154)] [(.long (FP.d2l (FP.l2d (G 2)))), (.int (if (2 : Int32) < sz then (1 : Int32) else (0 : Int32))), (.ref b154)])) (fun t k => ?_) ?_
  · show Steps p.tables e below (T232.setTop (mkF m 783 #[.val (.int p0), .val (.long q1), .second, .val (.int p2), .val (.int p3), .val (.int p4), .val (.int sz), .val (.long o1), .second, .val (.ref b1), .val (.long sv), .second, .val (.double (FP.l2d so)), .second, .val (.ref b50), .val (.int (1 : Int32)), .val (.int (1 : Int32)), .val (.ref b149), .val (.ref b154)] [(.double (FP.l2d (G 2))), (.int (if (2 : Int32) < sz then (1 : Int32) else (0 : Int32))), (.ref b154)])) t
    refine XS.d2lS X232.here hx rfl (hb hby at_783) rfl rfl ?_
    exact k
  rw [d2l_w (BG 2)]
  show OwnGo p.tables e below _ (T232.setTop (mkF m 784 #[.val (.int p0), .val (.long q1), .second, .val (.int p2), .val (.int p3), .val (.int p4), .val (.int sz), .val (.long o1), .second, .val (.ref b1), .val (.long sv), .second, .val (.double (FP.l2d so)), .second, .val (.ref b50), .val (.int (1 : Int32)), .val (.int (1 : Int32)), .val (.ref b149), .val (.ref b154)] [(.long (G 2)), (.int (if (2 : Int32) < sz then (1 : Int32) else (0 : Int32))), (.ref b154)]))
  refine OwnGo.of (A := T232.setTop (mkF m 784 #[.val (.int p0), .val (.long q1), .second, .val (.int p2), .val (.int p3), .val (.int p4), .val (.int sz), .val (.long o1), .second, .val (.ref b1), .val (.long sv), .second, .val (.double (FP.l2d so)), .second, .val (.ref b50), .val (.int (1 : Int32)), .val (.int (1 : Int32)), .val (.ref b149), .val (.ref b154)] [(.long (G 2)), (.int (if (2 : Int32) < sz then (1 : Int32) else (0 : Int32))), (.ref b154)])) (B := T232.setTop (mkF m 787 #[.val (.int p0), .val (.long q1), .second, .val (.int p2), .val (.int p3), .val (.int p4), .val (.int sz), .val (.long o1), .second, .val (.ref b1), .val (.long sv), .second, .val (.double (FP.l2d so)), .second, .val (.ref b50), .val (.int (1 : Int32)), .val (.int (1 : Int32)), .val (.ref b149), .val (.ref b154)] [(.long ((G 2) - o1)), (.int (if (2 : Int32) < sz then (1 : Int32) else (0 : Int32))), (.ref b154)])) (fun t k => ?_) ?_
  · show Steps p.tables e below (T232.setTop (mkF m 784 #[.val (.int p0), .val (.long q1), .second, .val (.int p2), .val (.int p3), .val (.int p4), .val (.int sz), .val (.long o1), .second, .val (.ref b1), .val (.long sv), .second, .val (.double (FP.l2d so)), .second, .val (.ref b50), .val (.int (1 : Int32)), .val (.int (1 : Int32)), .val (.ref b149), .val (.ref b154)] [(.long (G 2)), (.int (if (2 : Int32) < sz then (1 : Int32) else (0 : Int32))), (.ref b154)])) t
    refine XS.lload X232.here hx rfl (hb hby at_784) rfl ?_
    refine XS.lsub X232.here hx rfl (hb hby at_786) rfl ?_
    exact k
  obtain ⟨T240, L240, v240, X240, hQ240, st240⟩ := own_callS X232 hx (y := (⟨"com/example/rankwright/rankwright/rank/AccumulatorSiftDownPinLaw", "addIf", "([JZJ)V"⟩ : MethodName)) hown (mvT hZ (hw _ (List.mem_of_getElem? (i := 24) rfl))) (mvT hZ (hw _ (List.mem_of_getElem? (i := 25) rfl))) (mvT hZ (hw _ (List.mem_of_getElem? (i := 3) rfl))) (mvT hZ (hw _ (List.mem_of_getElem? (i := 26) rfl))) (by decide) (backOf (W := 0) (rmi l Z aw hw [] b154 (if (2 : Int32) < sz then (1 : Int32) else (0 : Int32)) ((G 2) - o1) W236 k154 T232.heap n0 f233 y232_0 g_b154) hZ (hw _ (List.mem_of_getElem? (i := 26) rfl)) (hw _ (List.mem_of_getElem? (i := 3) rfl)) (by decide) (by decide)) (g := (mkF m 787 #[.val (.int p0), .val (.long q1), .second, .val (.int p2), .val (.int p3), .val (.int p4), .val (.int sz), .val (.long o1), .second, .val (.ref b1), .val (.long sv), .second, .val (.double (FP.l2d so)), .second, .val (.ref b50), .val (.int (1 : Int32)), .val (.int (1 : Int32)), .val (.ref b149), .val (.ref b154)] [(.long ((G 2) - o1)), (.int (if (2 : Int32) < sz then (1 : Int32) else (0 : Int32))), (.ref b154)])) rfl (by rw [hml]; rfl) (argsL := [(.ref b154), (.int (if (2 : Int32) < sz then (1 : Int32) else (0 : Int32))), (.long ((G 2) - o1))]) (rest := []) (lenOf pd_8 rfl) rfl (by show 2 * 0 + _ ≤ _; exact Nat.le_of_eq rfl) (hb hby at_787) rfl rfl (by decide) (by decide)
  obtain ⟨rfl, N240q, K240, y240_0⟩ := hQ240
  have f241 : n0 ≤ T240.heap.size := Nat.le_trans f233 K240.1
  have f242 : Arv Z T240.heap b1 k1 .long (8 : Int32) [(.long v0), (.long v1), (.long v2), (.long v3), (.long v4), (.long v5), (.long v6), (.long v7)] (.long (0 : Int64)) := f234.keep K240 (ninS ne_b1_b154 nin0)
  have f243 : Arv Z T240.heap b50 k50 .double (10 : Int32) (own_l10 (G)) (.double (0 : UInt64)) := f235.keep K240 (ninS ne_b50_b154 nin0)
  have f244 : Arv Z T240.heap b149 k149 .long (8 : Int32) (own_l8 (W220)) (.long (0 : Int64)) := f236.keep K240 (ninS ne_b149_b154 nin0)
  obtain ⟨W244, qW244⟩ : ∃ z, z = own_ai W236 (if (2 : Int32) < sz then (1 : Int32) else (0 : Int32)) ((G 2) - o1) := ⟨_, rfl⟩
  rw [← qW244] at y240_0
  have N240 := Fr.app N232 N240q
  refine OwnGo.of st240 ?_
  show OwnGo p.tables e below _ (T240.setTop (mkF m 790 #[.val (.int p0), .val (.long q1), .second, .val (.int p2), .val (.int p3), .val (.int p4), .val (.int sz), .val (.long o1), .second, .val (.ref b1), .val (.long sv), .second, .val (.double (FP.l2d so)), .second, .val (.ref b50), .val (.int (1 : Int32)), .val (.int (1 : Int32)), .val (.ref b149), .val (.ref b154)] []))
  refine OwnGo.of (A := T240.setTop (mkF m 790 #[.val (.int p0), .val (.long q1), .second, .val (.int p2), .val (.int p3), .val (.int p4), .val (.int sz), .val (.long o1), .second, .val (.ref b1), .val (.long sv), .second, .val (.double (FP.l2d so)), .second, .val (.ref b50), .val (.int (1 : Int32)), .val (.int (1 : Int32)), .val (.ref b149), .val (.ref b154)] [])) (B := T240.setTop (mkF m 795 #[.val (.int p0), .val (.long q1), .second, .val (.int p2), .val (.int p3), .val (.int p4), .val (.int sz), .val (.long o1), .second, .val (.ref b1), .val (.long sv), .second, .val (.double (FP.l2d so)), .second, .val (.ref b50), .val (.int (1 : Int32)), .val (.int (1 : Int32)), .val (.ref b149), .val (.ref b154)] [(.int sz), (.int (3 : Int32)), (.ref b154)])) (fun t k => ?_) ?_
  · show Steps p.tables e below (T240.setTop (mkF m 790 #[.val (.int p0), .val (.long q1), .second, .val (.int p2), .val (.int p3), .val (.int p4), .val (.int sz), .val (.long o1), .second, .val (.ref b1), .val (.long sv), .second, .val (.double (FP.l2d so)), .second, .val (.ref b50), .val (.int (1 : Int32)), .val (.int (1 : Int32)), .val (.ref b149), .val (.ref b154)] [])) t
    refine XS.aload X240.here hx rfl (hb hby at_790) rfl rfl ?_
    refine XS.iconst X240.here hx rfl (hb hby at_792) ?_
    refine XS.iload X240.here hx rfl (hb hby at_793) rfl ?_
    exact k
  refine OwnGo.of (A := T240.setTop (mkF m 795 #[.val (.int p0), .val (.long q1), .second, .val (.int p2), .val (.int p3), .val (.int p4), .val (.int sz), .val (.long o1), .second, .val (.ref b1), .val (.long sv), .second, .val (.double (FP.l2d so)), .second, .val (.ref b50), .val (.int (1 : Int32)), .val (.int (1 : Int32)), .val (.ref b149), .val (.ref b154)] [(.int sz), (.int (3 : Int32)), (.ref b154)])) (B := T240.setTop (mkF m 803 #[.val (.int p0), .val (.long q1), .second, .val (.int p2), .val (.int p3), .val (.int p4), .val (.int sz), .val (.long o1), .second, .val (.ref b1), .val (.long sv), .second, .val (.double (FP.l2d so)), .second, .val (.ref b50), .val (.int (1 : Int32)), .val (.int (1 : Int32)), .val (.ref b149), .val (.ref b154)] [(.int (if (3 : Int32) < sz then (1 : Int32) else (0 : Int32))), (.ref b154)])) (fun t k => ?_) ?_
  · by_cases hc246 : (3 : Int32) < sz
    · rw [if_pos hc246] at k
      show Steps p.tables e below (T240.setTop (mkF m 795 #[.val (.int p0), .val (.long q1), .second, .val (.int p2), .val (.int p3), .val (.int p4), .val (.int sz), .val (.long o1), .second, .val (.ref b1), .val (.long sv), .second, .val (.double (FP.l2d so)), .second, .val (.ref b50), .val (.int (1 : Int32)), .val (.int (1 : Int32)), .val (.ref b149), .val (.ref b154)] [(.int sz), (.int (3 : Int32)), (.ref b154)])) t
      refine XS.icmpNo X240.here hx rfl (hb hby at_795) rfl (tlt hc246).2.1 ?_
      show Steps p.tables e below (T240.setTop (mkF m 798 #[.val (.int p0), .val (.long q1), .second, .val (.int p2), .val (.int p3), .val (.int p4), .val (.int sz), .val (.long o1), .second, .val (.ref b1), .val (.long sv), .second, .val (.double (FP.l2d so)), .second, .val (.ref b50), .val (.int (1 : Int32)), .val (.int (1 : Int32)), .val (.ref b149), .val (.ref b154)] [(.ref b154)])) t
      refine XS.iconst X240.here hx rfl (hb hby at_798) ?_
      show Steps p.tables e below (T240.setTop (mkF m 799 #[.val (.int p0), .val (.long q1), .second, .val (.int p2), .val (.int p3), .val (.int p4), .val (.int sz), .val (.long o1), .second, .val (.ref b1), .val (.long sv), .second, .val (.double (FP.l2d so)), .second, .val (.ref b50), .val (.int (1 : Int32)), .val (.int (1 : Int32)), .val (.ref b149), .val (.ref b154)] [(.int (1 : Int32)), (.ref b154)])) t
      refine XS.goto X240.here hx rfl (pc0 := 799) (pc' := 803) rfl (hb hby at_799) (by decide) (by decide) ?_
      exact k
    · rw [if_neg hc246] at k
      show Steps p.tables e below (T240.setTop (mkF m 795 #[.val (.int p0), .val (.long q1), .second, .val (.int p2), .val (.int p3), .val (.int p4), .val (.int sz), .val (.long o1), .second, .val (.ref b1), .val (.long sv), .second, .val (.double (FP.l2d so)), .second, .val (.ref b50), .val (.int (1 : Int32)), .val (.int (1 : Int32)), .val (.ref b149), .val (.ref b154)] [(.int sz), (.int (3 : Int32)), (.ref b154)])) t
      refine XS.icmpYes X240.here hx rfl (pc0 := 795) (pc' := 802) rfl (hb hby at_795) rfl (flt hc246).2.1 (by decide) (by decide) ?_
      show Steps p.tables e below (T240.setTop (mkF m 802 #[.val (.int p0), .val (.long q1), .second, .val (.int p2), .val (.int p3), .val (.int p4), .val (.int sz), .val (.long o1), .second, .val (.ref b1), .val (.long sv), .second, .val (.double (FP.l2d so)), .second, .val (.ref b50), .val (.int (1 : Int32)), .val (.int (1 : Int32)), .val (.ref b149), .val (.ref b154)] [(.ref b154)])) t
      refine XS.iconst X240.here hx rfl (hb hby at_802) ?_
      exact k
  show OwnGo p.tables e below _ (T240.setTop (mkF m 803 #[.val (.int p0), .val (.long q1), .second, .val (.int p2), .val (.int p3), .val (.int p4), .val (.int sz), .val (.long o1), .second, .val (.ref b1), .val (.long sv), .second, .val (.double (FP.l2d so)), .second, .val (.ref b50), .val (.int (1 : Int32)), .val (.int (1 : Int32)), .val (.ref b149), .val (.ref b154)] [(.int (if (3 : Int32) < sz then (1 : Int32) else (0 : Int32))), (.ref b154)]))
  refine OwnGo.of (A := T240.setTop (mkF m 803 #[.val (.int p0), .val (.long q1), .second, .val (.int p2), .val (.int p3), .val (.int p4), .val (.int sz), .val (.long o1), .second, .val (.ref b1), .val (.long sv), .second, .val (.double (FP.l2d so)), .second, .val (.ref b50), .val (.int (1 : Int32)), .val (.int (1 : Int32)), .val (.ref b149), .val (.ref b154)] [(.int (if (3 : Int32) < sz then (1 : Int32) else (0 : Int32))), (.ref b154)])) (B := T240.setTop (mkF m 806 #[.val (.int p0), .val (.long q1), .second, .val (.int p2), .val (.int p3), .val (.int p4), .val (.int sz), .val (.long o1), .second, .val (.ref b1), .val (.long sv), .second, .val (.double (FP.l2d so)), .second, .val (.ref b50), .val (.int (1 : Int32)), .val (.int (1 : Int32)), .val (.ref b149), .val (.ref b154)] [(.int (3 : Int32)), (.ref b50), (.int (if (3 : Int32) < sz then (1 : Int32) else (0 : Int32))), (.ref b154)])) (fun t k => ?_) ?_
  · show Steps p.tables e below (T240.setTop (mkF m 803 #[.val (.int p0), .val (.long q1), .second, .val (.int p2), .val (.int p3), .val (.int p4), .val (.int sz), .val (.long o1), .second, .val (.ref b1), .val (.long sv), .second, .val (.double (FP.l2d so)), .second, .val (.ref b50), .val (.int (1 : Int32)), .val (.int (1 : Int32)), .val (.ref b149), .val (.ref b154)] [(.int (if (3 : Int32) < sz then (1 : Int32) else (0 : Int32))), (.ref b154)])) t
    refine XS.aload X240.here hx rfl (hb hby at_803) rfl rfl ?_
    refine XS.iconst X240.here hx rfl (hb hby at_805) ?_
    exact k
  have cq247 := f243
  obtain ⟨clq247, Arq247, qq247, Sq247, Nq247, Hq247, Gq247⟩ := cq247
  have hinq247 := inb_of (j := (3 : Int32)) Sq247 ⟨by decide, by decide⟩
  refine OwnGo.of (X240.daload hx (j := (3 : Int32)) (v := (.double (FP.l2d (G 3)))) Arq247.1 (State.isArrayOf_alike hZ.alike Arq247.2.1) Arq247.2.2 hinq247 (Hq247.at hinq247 rfl) (g := (mkF m 806 #[.val (.int p0), .val (.long q1), .second, .val (.int p2), .val (.int p3), .val (.int p4), .val (.int sz), .val (.long o1), .second, .val (.ref b1), .val (.long sv), .second, .val (.double (FP.l2d so)), .second, .val (.ref b50), .val (.int (1 : Int32)), .val (.int (1 : Int32)), .val (.ref b149), .val (.ref b154)] [(.int (3 : Int32)), (.ref b50), (.int (if (3 : Int32) < sz then (1 : Int32) else (0 : Int32))), (.ref b154)])) rfl rfl (hb hby at_806)) ?_
  show OwnGo p.tables e below _ (T240.setTop (mkF m 807 #[.val (.int p0), .val (.long q1), .second, .val (.int p2), .val (.int p3), .val (.int p4), .val (.int sz), .val (.long o1), .second, .val (.ref b1), .val (.long sv), .second, .val (.double (FP.l2d so)), .second, .val (.ref b50), .val (.int (1 : Int32)), .val (.int (1 : Int32)), .val (.ref b149), .val (.ref b154)] [(.double (FP.l2d (G 3))), (.int (if (3 : Int32) < sz then (1 : Int32) else (0 : Int32))), (.ref b154)]))
  refine OwnGo.of (A := T240.setTop (mkF m 807 #[.val (.int p0), .val (.long q1), .second, .val (.int p2), .val (.int p3), .val (.int p4), .val (.int sz), .val (.long o1), .second, .val (.ref b1), .val (.long sv), .second, .val (.double (FP.l2d so)), .second, .val (.ref b50), .val (.int (1 : Int32)), .val (.int (1 : Int32)), .val (.ref b149), .val (.ref b154)] [(.double (FP.l2d (G 3))), (.int (if (3 : Int32) < sz then (1 : Int32) else (0 : Int32))), (.ref b154)])) (B := T240.setTop (mkF m 808 #[.val (.int p0), .val (.long q1), .second, .val (.int p2), .val (.int p3), .val (.int p4), .val (.int sz), .val (.long o1), .second, .val (.ref b1), .val (.long sv), .second, .val (.double (FP.l2d so)), .second, .val (.ref b50), .val (.int (1 : Int32)), .val (.int (1 : Int32)), .val (.ref b149), .val (.ref b154)] [(.long (FP.d2l (FP.l2d (G 3)))), (.int (if (3 : Int32) < sz then (1 : Int32) else (0 : Int32))), (.ref b154)])) (fun t k => ?_) ?_
  · show Steps p.tables e below (T240.setTop (mkF m 807 #[.val (.int p0), .val (.long q1), .second, .val (.int p2), .val (.int p3), .val (.int p4), .val (.int sz), .val (.long o1), .second, .val (.ref b1), .val (.long sv), .second, .val (.double (FP.l2d so)), .second, .val (.ref b50), .val (.int (1 : Int32)), .val (.int (1 : Int32)), .val (.ref b149), .val (.ref b154)] [(.double (FP.l2d (G 3))), (.int (if (3 : Int32) < sz then (1 : Int32) else (0 : Int32))), (.ref b154)])) t
    refine XS.d2lS X240.here hx rfl (hb hby at_807) rfl rfl ?_
    exact k
  rw [d2l_w (BG 3)]
  show OwnGo p.tables e below _ (T240.setTop (mkF m 808 #[.val (.int p0), .val (.long q1), .second, .val (.int p2), .val (.int p3), .val (.int p4), .val (.int sz), .val (.long o1), .second, .val (.ref b1), .val (.long sv), .second, .val (.double (FP.l2d so)), .second, .val (.ref b50), .val (.int (1 : Int32)), .val (.int (1 : Int32)), .val (.ref b149), .val (.ref b154)] [(.long (G 3)), (.int (if (3 : Int32) < sz then (1 : Int32) else (0 : Int32))), (.ref b154)]))
  refine OwnGo.of (A := T240.setTop (mkF m 808 #[.val (.int p0), .val (.long q1), .second, .val (.int p2), .val (.int p3), .val (.int p4), .val (.int sz), .val (.long o1), .second, .val (.ref b1), .val (.long sv), .second, .val (.double (FP.l2d so)), .second, .val (.ref b50), .val (.int (1 : Int32)), .val (.int (1 : Int32)), .val (.ref b149), .val (.ref b154)] [(.long (G 3)), (.int (if (3 : Int32) < sz then (1 : Int32) else (0 : Int32))), (.ref b154)])) (B := T240.setTop (mkF m 811 #[.val (.int p0), .val (.long q1), .second, .val (.int p2), .val (.int p3), .val (.int p4), .val (.int sz), .val (.long o1), .second, .val (.ref b1), .val (.long sv), .second, .val (.double (FP.l2d so)), .second, .val (.ref b50), .val (.int (1 : Int32)), .val (.int (1 : Int32)), .val (.ref b149), .val (.ref b154)] [(.long ((G 3) - o1)), (.int (if (3 : Int32) < sz then (1 : Int32) else (0 : Int32))), (.ref b154)])) (fun t k => ?_) ?_
  · show Steps p.tables e below (T240.setTop (mkF m 808 #[.val (.int p0), .val (.long q1), .second, .val (.int p2), .val (.int p3), .val (.int p4), .val (.int sz), .val (.long o1), .second, .val (.ref b1), .val (.long sv), .second, .val (.double (FP.l2d so)), .second, .val (.ref b50), .val (.int (1 : Int32)), .val (.int (1 : Int32)), .val (.ref b149), .val (.ref b154)] [(.long (G 3)), (.int (if (3 : Int32) < sz then (1 : Int32) else (0 : Int32))), (.ref b154)])) t
    refine XS.lload X240.here hx rfl (hb hby at_808) rfl ?_
    refine XS.lsub X240.here hx rfl (hb hby at_810) rfl ?_
    exact k
  obtain ⟨T248, L248, v248, X248, hQ248, st248⟩ := own_callS X240 hx (y := (⟨"com/example/rankwright/rankwright/rank/AccumulatorSiftDownPinLaw", "addIf", "([JZJ)V"⟩ : MethodName)) hown (mvT hZ (hw _ (List.mem_of_getElem? (i := 24) rfl))) (mvT hZ (hw _ (List.mem_of_getElem? (i := 25) rfl))) (mvT hZ (hw _ (List.mem_of_getElem? (i := 3) rfl))) (mvT hZ (hw _ (List.mem_of_getElem? (i := 26) rfl))) (by decide) (backOf (W := 0) (rmi l Z aw hw [] b154 (if (3 : Int32) < sz then (1 : Int32) else (0 : Int32)) ((G 3) - o1) W244 k154 T240.heap n0 f241 y240_0 g_b154) hZ (hw _ (List.mem_of_getElem? (i := 26) rfl)) (hw _ (List.mem_of_getElem? (i := 3) rfl)) (by decide) (by decide)) (g := (mkF m 811 #[.val (.int p0), .val (.long q1), .second, .val (.int p2), .val (.int p3), .val (.int p4), .val (.int sz), .val (.long o1), .second, .val (.ref b1), .val (.long sv), .second, .val (.double (FP.l2d so)), .second, .val (.ref b50), .val (.int (1 : Int32)), .val (.int (1 : Int32)), .val (.ref b149), .val (.ref b154)] [(.long ((G 3) - o1)), (.int (if (3 : Int32) < sz then (1 : Int32) else (0 : Int32))), (.ref b154)])) rfl (by rw [hml]; rfl) (argsL := [(.ref b154), (.int (if (3 : Int32) < sz then (1 : Int32) else (0 : Int32))), (.long ((G 3) - o1))]) (rest := []) (lenOf pd_8 rfl) rfl (by show 2 * 0 + _ ≤ _; exact Nat.le_of_eq rfl) (hb hby at_811) rfl rfl (by decide) (by decide)
  obtain ⟨rfl, N248q, K248, y248_0⟩ := hQ248
  have f249 : n0 ≤ T248.heap.size := Nat.le_trans f241 K248.1
  have f250 : Arv Z T248.heap b1 k1 .long (8 : Int32) [(.long v0), (.long v1), (.long v2), (.long v3), (.long v4), (.long v5), (.long v6), (.long v7)] (.long (0 : Int64)) := f242.keep K248 (ninS ne_b1_b154 nin0)
  have f251 : Arv Z T248.heap b50 k50 .double (10 : Int32) (own_l10 (G)) (.double (0 : UInt64)) := f243.keep K248 (ninS ne_b50_b154 nin0)
  have f252 : Arv Z T248.heap b149 k149 .long (8 : Int32) (own_l8 (W220)) (.long (0 : Int64)) := f244.keep K248 (ninS ne_b149_b154 nin0)
  obtain ⟨W252, qW252⟩ : ∃ z, z = own_ai W244 (if (3 : Int32) < sz then (1 : Int32) else (0 : Int32)) ((G 3) - o1) := ⟨_, rfl⟩
  rw [← qW252] at y248_0
  have N248 := Fr.app N240 N248q
  refine OwnGo.of st248 ?_
  show OwnGo p.tables e below _ (T248.setTop (mkF m 814 #[.val (.int p0), .val (.long q1), .second, .val (.int p2), .val (.int p3), .val (.int p4), .val (.int sz), .val (.long o1), .second, .val (.ref b1), .val (.long sv), .second, .val (.double (FP.l2d so)), .second, .val (.ref b50), .val (.int (1 : Int32)), .val (.int (1 : Int32)), .val (.ref b149), .val (.ref b154)] []))
  refine OwnGo.of (A := T248.setTop (mkF m 814 #[.val (.int p0), .val (.long q1), .second, .val (.int p2), .val (.int p3), .val (.int p4), .val (.int sz), .val (.long o1), .second, .val (.ref b1), .val (.long sv), .second, .val (.double (FP.l2d so)), .second, .val (.ref b50), .val (.int (1 : Int32)), .val (.int (1 : Int32)), .val (.ref b149), .val (.ref b154)] [])) (B := T248.setTop (mkF m 819 #[.val (.int p0), .val (.long q1), .second, .val (.int p2), .val (.int p3), .val (.int p4), .val (.int sz), .val (.long o1), .second, .val (.ref b1), .val (.long sv), .second, .val (.double (FP.l2d so)), .second, .val (.ref b50), .val (.int (1 : Int32)), .val (.int (1 : Int32)), .val (.ref b149), .val (.ref b154)] [(.int sz), (.int (4 : Int32)), (.ref b154)])) (fun t k => ?_) ?_
  · show Steps p.tables e below (T248.setTop (mkF m 814 #[.val (.int p0), .val (.long q1), .second, .val (.int p2), .val (.int p3), .val (.int p4), .val (.int sz), .val (.long o1), .second, .val (.ref b1), .val (.long sv), .second, .val (.double (FP.l2d so)), .second, .val (.ref b50), .val (.int (1 : Int32)), .val (.int (1 : Int32)), .val (.ref b149), .val (.ref b154)] [])) t
    refine XS.aload X248.here hx rfl (hb hby at_814) rfl rfl ?_
    refine XS.iconst X248.here hx rfl (hb hby at_816) ?_
    refine XS.iload X248.here hx rfl (hb hby at_817) rfl ?_
    exact k
  refine OwnGo.of (A := T248.setTop (mkF m 819 #[.val (.int p0), .val (.long q1), .second, .val (.int p2), .val (.int p3), .val (.int p4), .val (.int sz), .val (.long o1), .second, .val (.ref b1), .val (.long sv), .second, .val (.double (FP.l2d so)), .second, .val (.ref b50), .val (.int (1 : Int32)), .val (.int (1 : Int32)), .val (.ref b149), .val (.ref b154)] [(.int sz), (.int (4 : Int32)), (.ref b154)])) (B := T248.setTop (mkF m 827 #[.val (.int p0), .val (.long q1), .second, .val (.int p2), .val (.int p3), .val (.int p4), .val (.int sz), .val (.long o1), .second, .val (.ref b1), .val (.long sv), .second, .val (.double (FP.l2d so)), .second, .val (.ref b50), .val (.int (1 : Int32)), .val (.int (1 : Int32)), .val (.ref b149), .val (.ref b154)] [(.int (if (4 : Int32) < sz then (1 : Int32) else (0 : Int32))), (.ref b154)])) (fun t k => ?_) ?_
  · by_cases hc254 : (4 : Int32) < sz
    · rw [if_pos hc254] at k
      show Steps p.tables e below (T248.setTop (mkF m 819 #[.val (.int p0), .val (.long q1), .second, .val (.int p2), .val (.int p3), .val (.int p4), .val (.int sz), .val (.long o1), .second, .val (.ref b1), .val (.long sv), .second, .val (.double (FP.l2d so)), .second, .val (.ref b50), .val (.int (1 : Int32)), .val (.int (1 : Int32)), .val (.ref b149), .val (.ref b154)] [(.int sz), (.int (4 : Int32)), (.ref b154)])) t
      refine XS.icmpNo X248.here hx rfl (hb hby at_819) rfl (tlt hc254).2.1 ?_
      show Steps p.tables e below (T248.setTop (mkF m 822 #[.val (.int p0), .val (.long q1), .second, .val (.int p2), .val (.int p3), .val (.int p4), .val (.int sz), .val (.long o1), .second, .val (.ref b1), .val (.long sv), .second, .val (.double (FP.l2d so)), .second, .val (.ref b50), .val (.int (1 : Int32)), .val (.int (1 : Int32)), .val (.ref b149), .val (.ref b154)] [(.ref b154)])) t
      refine XS.iconst X248.here hx rfl (hb hby at_822) ?_
      show Steps p.tables e below (T248.setTop (mkF m 823 #[.val (.int p0), .val (.long q1), .second, .val (.int p2), .val (.int p3), .val (.int p4), .val (.int sz), .val (.long o1), .second, .val (.ref b1), .val (.long sv), .second, .val (.double (FP.l2d so)), .second, .val (.ref b50), .val (.int (1 : Int32)), .val (.int (1 : Int32)), .val (.ref b149), .val (.ref b154)] [(.int (1 : Int32)), (.ref b154)])) t
      refine XS.goto X248.here hx rfl (pc0 := 823) (pc' := 827) rfl (hb hby at_823) (by decide) (by decide) ?_
      exact k
    · rw [if_neg hc254] at k
      show Steps p.tables e below (T248.setTop (mkF m 819 #[.val (.int p0), .val (.long q1), .second, .val (.int p2), .val (.int p3), .val (.int p4), .val (.int sz), .val (.long o1), .second, .val (.ref b1), .val (.long sv), .second, .val (.double (FP.l2d so)), .second, .val (.ref b50), .val (.int (1 : Int32)), .val (.int (1 : Int32)), .val (.ref b149), .val (.ref b154)] [(.int sz), (.int (4 : Int32)), (.ref b154)])) t
      refine XS.icmpYes X248.here hx rfl (pc0 := 819) (pc' := 826) rfl (hb hby at_819) rfl (flt hc254).2.1 (by decide) (by decide) ?_
      show Steps p.tables e below (T248.setTop (mkF m 826 #[.val (.int p0), .val (.long q1), .second, .val (.int p2), .val (.int p3), .val (.int p4), .val (.int sz), .val (.long o1), .second, .val (.ref b1), .val (.long sv), .second, .val (.double (FP.l2d so)), .second, .val (.ref b50), .val (.int (1 : Int32)), .val (.int (1 : Int32)), .val (.ref b149), .val (.ref b154)] [(.ref b154)])) t
      refine XS.iconst X248.here hx rfl (hb hby at_826) ?_
      exact k
  show OwnGo p.tables e below _ (T248.setTop (mkF m 827 #[.val (.int p0), .val (.long q1), .second, .val (.int p2), .val (.int p3), .val (.int p4), .val (.int sz), .val (.long o1), .second, .val (.ref b1), .val (.long sv), .second, .val (.double (FP.l2d so)), .second, .val (.ref b50), .val (.int (1 : Int32)), .val (.int (1 : Int32)), .val (.ref b149), .val (.ref b154)] [(.int (if (4 : Int32) < sz then (1 : Int32) else (0 : Int32))), (.ref b154)]))
  refine OwnGo.of (A := T248.setTop (mkF m 827 #[.val (.int p0), .val (.long q1), .second, .val (.int p2), .val (.int p3), .val (.int p4), .val (.int sz), .val (.long o1), .second, .val (.ref b1), .val (.long sv), .second, .val (.double (FP.l2d so)), .second, .val (.ref b50), .val (.int (1 : Int32)), .val (.int (1 : Int32)), .val (.ref b149), .val (.ref b154)] [(.int (if (4 : Int32) < sz then (1 : Int32) else (0 : Int32))), (.ref b154)])) (B := T248.setTop (mkF m 830 #[.val (.int p0), .val (.long q1), .second, .val (.int p2), .val (.int p3), .val (.int p4), .val (.int sz), .val (.long o1), .second, .val (.ref b1), .val (.long sv), .second, .val (.double (FP.l2d so)), .second, .val (.ref b50), .val (.int (1 : Int32)), .val (.int (1 : Int32)), .val (.ref b149), .val (.ref b154)] [(.int (4 : Int32)), (.ref b50), (.int (if (4 : Int32) < sz then (1 : Int32) else (0 : Int32))), (.ref b154)])) (fun t k => ?_) ?_
  · show Steps p.tables e below (T248.setTop (mkF m 827 #[.val (.int p0), .val (.long q1), .second, .val (.int p2), .val (.int p3), .val (.int p4), .val (.int sz), .val (.long o1), .second, .val (.ref b1), .val (.long sv), .second, .val (.double (FP.l2d so)), .second, .val (.ref b50), .val (.int (1 : Int32)), .val (.int (1 : Int32)), .val (.ref b149), .val (.ref b154)] [(.int (if (4 : Int32) < sz then (1 : Int32) else (0 : Int32))), (.ref b154)])) t
    refine XS.aload X248.here hx rfl (hb hby at_827) rfl rfl ?_
    refine XS.iconst X248.here hx rfl (hb hby at_829) ?_
    exact k
  have cq255 := f251
  obtain ⟨clq255, Arq255, qq255, Sq255, Nq255, Hq255, Gq255⟩ := cq255
  have hinq255 := inb_of (j := (4 : Int32)) Sq255 ⟨by decide, by decide⟩
  refine OwnGo.of (X248.daload hx (j := (4 : Int32)) (v := (.double (FP.l2d (G 4)))) Arq255.1 (State.isArrayOf_alike hZ.alike Arq255.2.1) Arq255.2.2 hinq255 (Hq255.at hinq255 rfl) (g := (mkF m 830 #[.val (.int p0), .val (.long q1), .second, .val (.int p2), .val (.int p3), .val (.int p4), .val (.int sz), .val (.long o1), .second, .val (.ref b1), .val (.long sv), .second, .val (.double (FP.l2d so)), .second, .val (.ref b50), .val (.int (1 : Int32)), .val (.int (1 : Int32)), .val (.ref b149), .val (.ref b154)] [(.int (4 : Int32)), (.ref b50), (.int (if (4 : Int32) < sz then (1 : Int32) else (0 : Int32))), (.ref b154)])) rfl rfl (hb hby at_830)) ?_
  show OwnGo p.tables e below _ (T248.setTop (mkF m 831 #[.val (.int p0), .val (.long q1), .second, .val (.int p2), .val (.int p3), .val (.int p4), .val (.int sz), .val (.long o1), .second, .val (.ref b1), .val (.long sv), .second, .val (.double (FP.l2d so)), .second, .val (.ref b50), .val (.int (1 : Int32)), .val (.int (1 : Int32)), .val (.ref b149), .val (.ref b154)] [(.double (FP.l2d (G 4))), (.int (if (4 : Int32) < sz then (1 : Int32) else (0 : Int32))), (.ref b154)]))
  refine OwnGo.of (A := T248.setTop (mkF m 831 #[.val (.int p0), .val (.long q1), .second, .val (.int p2), .val (.int p3), .val (.int p4), .val (.int sz), .val (.long o1), .second, .val (.ref b1), .val (.long sv), .second, .val (.double (FP.l2d so)), .second, .val (.ref b50), .val (.int (1 : Int32)), .val (.int (1 : Int32)), .val (.ref b149), .val (.ref b154)] [(.double (FP.l2d (G 4))), (.int (if (4 : Int32) < sz then (1 : Int32) else (0 : Int32))), (.ref b154)])) (B := T248.setTop (mkF m 832 #[.val (.int p0), .val (.long q1), .second, .val (.int p2), .val (.int p3), .val (.int p4), .val (.int sz), .val (.long o1), .second, .val (.ref b1), .val (.long sv), .second, .val (.double (FP.l2d so)), .second, .val (.ref b50), .val (.int (1 : Int32)), .val (.int (1 : Int32)), .val (.ref b149), .val (.ref b154)] [(.long (FP.d2l (FP.l2d (G 4)))), (.int (if (4 : Int32) < sz then (1 : Int32) else (0 : Int32))), (.ref b154)])) (fun t k => ?_) ?_
  · show Steps p.tables e below (T248.setTop (mkF m 831 #[.val (.int p0), .val (.long q1), .second, .val (.int p2), .val (.int p3), .val (.int p4), .val (.int sz), .val (.long o1), .second, .val (.ref b1), .val (.long sv), .second, .val (.double (FP.l2d so)), .second, .val (.ref b50), .val (.int (1 : Int32)), .val (.int (1 : Int32)), .val (.ref b149), .val (.ref b154)] [(.double (FP.l2d (G 4))), (.int (if (4 : Int32) < sz then (1 : Int32) else (0 : Int32))), (.ref b154)])) t
    refine XS.d2lS X248.here hx rfl (hb hby at_831) rfl rfl ?_
    exact k
  rw [d2l_w (BG 4)]
  show OwnGo p.tables e below _ (T248.setTop (mkF m 832 #[.val (.int p0), .val (.long q1), .second, .val (.int p2), .val (.int p3), .val (.int p4), .val (.int sz), .val (.long o1), .second, .val (.ref b1), .val (.long sv), .second, .val (.double (FP.l2d so)), .second, .val (.ref b50), .val (.int (1 : Int32)), .val (.int (1 : Int32)), .val (.ref b149), .val (.ref b154)] [(.long (G 4)), (.int (if (4 : Int32) < sz then (1 : Int32) else (0 : Int32))), (.ref b154)]))
  refine OwnGo.of (A := T248.setTop (mkF m 832 #[.val (.int p0), .val (.long q1), .second, .val (.int p2), .val (.int p3), .val (.int p4), .val (.int sz), .val (.long o1), .second, .val (.ref b1), .val (.long sv), .second, .val (.double (FP.l2d so)), .second, .val (.ref b50), .val (.int (1 : Int32)), .val (.int (1 : Int32)), .val (.ref b149), .val (.ref b154)] [(.long (G 4)), (.int (if (4 : Int32) < sz then (1 : Int32) else (0 : Int32))), (.ref b154)])) (B := T248.setTop (mkF m 835 #[.val (.int p0), .val (.long q1), .second, .val (.int p2), .val (.int p3), .val (.int p4), .val (.int sz), .val (.long o1), .second, .val (.ref b1), .val (.long sv), .second, .val (.double (FP.l2d so)), .second, .val (.ref b50), .val (.int (1 : Int32)), .val (.int (1 : Int32)), .val (.ref b149), .val (.ref b154)] [(.long ((G 4) - o1)), (.int (if (4 : Int32) < sz then (1 : Int32) else (0 : Int32))), (.ref b154)])) (fun t k => ?_) ?_
  · show Steps p.tables e below (T248.setTop (mkF m 832 #[.val (.int p0), .val (.long q1), .second, .val (.int p2), .val (.int p3), .val (.int p4), .val (.int sz), .val (.long o1), .second, .val (.ref b1), .val (.long sv), .second, .val (.double (FP.l2d so)), .second, .val (.ref b50), .val (.int (1 : Int32)), .val (.int (1 : Int32)), .val (.ref b149), .val (.ref b154)] [(.long (G 4)), (.int (if (4 : Int32) < sz then (1 : Int32) else (0 : Int32))), (.ref b154)])) t
    refine XS.lload X248.here hx rfl (hb hby at_832) rfl ?_
    refine XS.lsub X248.here hx rfl (hb hby at_834) rfl ?_
    exact k
  obtain ⟨T256, L256, v256, X256, hQ256, st256⟩ := own_callS X248 hx (y := (⟨"com/example/rankwright/rankwright/rank/AccumulatorSiftDownPinLaw", "addIf", "([JZJ)V"⟩ : MethodName)) hown (mvT hZ (hw _ (List.mem_of_getElem? (i := 24) rfl))) (mvT hZ (hw _ (List.mem_of_getElem? (i := 25) rfl))) (mvT hZ (hw _ (List.mem_of_getElem? (i := 3) rfl))) (mvT hZ (hw _ (List.mem_of_getElem? (i := 26) rfl))) (by decide) (backOf (W := 0) (rmi l Z aw hw [] b154 (if (4 : Int32) < sz then (1 : Int32) else (0 : Int32)) ((G 4) - o1) W252 k154 T248.heap n0 f249 y248_0 g_b154) hZ (hw _ (List.mem_of_getElem? (i := 26) rfl)) (hw _ (List.mem_of_getElem? (i := 3) rfl)) (by decide) (by decide)) (g := (mkF m 835 #[.val (.int p0), .val (.long q1), .second, .val (.int p2), .val (.int p3), .val (.int p4), .val (.int sz), .val (.long o1), .second, .val (.ref b1), .val (.long sv), .second, .val (.double (FP.l2d so)), .second, .val (.ref b50), .val (.int (1 : Int32)), .val (.int (1 : Int32)), .val (.ref b149), .val (.ref b154)] [(.long ((G 4) - o1)), (.int (if (4 : Int32) < sz then (1 : Int32) else (0 : Int32))), (.ref b154)])) rfl (by rw [hml]; rfl) (argsL := [(.ref b154), (.int (if (4 : Int32) < sz then (1 : Int32) else (0 : Int32))), (.long ((G 4) - o1))]) (rest := []) (lenOf pd_8 rfl) rfl (by show 2 * 0 + _ ≤ _; exact Nat.le_of_eq rfl) (hb hby at_835) rfl rfl (by decide) (by decide)
  obtain ⟨rfl, N256q, K256, y256_0⟩ := hQ256
  have f257 : n0 ≤ T256.heap.size := Nat.le_trans f249 K256.1
  have f258 : Arv Z T256.heap b1 k1 .long (8 : Int32) [(.long v0), (.long v1), (.long v2), (.long v3), (.long v4), (.long v5), (.long v6), (.long v7)] (.long (0 : Int64)) := f250.keep K256 (ninS ne_b1_b154 nin0)
  have f259 : Arv Z T256.heap b50 k50 .double (10 : Int32) (own_l10 (G)) (.double (0 : UInt64)) := f251.keep K256 (ninS ne_b50_b154 nin0)
  have f260 : Arv Z T256.heap b149 k149 .long (8 : Int32) (own_l8 (W220)) (.long (0 : Int64)) := f252.keep K256 (ninS ne_b149_b154 nin0)
  obtain ⟨W260, qW260⟩ : ∃ z, z = own_ai W252 (if (4 : Int32) < sz then (1 : Int32) else (0 : Int32)) ((G 4) - o1) := ⟨_, rfl⟩
  rw [← qW260] at y256_0
  have N256 := Fr.app N248 N256q
  refine OwnGo.of st256 ?_
  show OwnGo p.tables e below _ (T256.setTop (mkF m 838 #[.val (.int p0), .val (.long q1), .second, .val (.int p2), .val (.int p3), .val (.int p4), .val (.int sz), .val (.long o1), .second, .val (.ref b1), .val (.long sv), .second, .val (.double (FP.l2d so)), .second, .val (.ref b50), .val (.int (1 : Int32)), .val (.int (1 : Int32)), .val (.ref b149), .val (.ref b154)] []))
  refine OwnGo.of (A := T256.setTop (mkF m 838 #[.val (.int p0), .val (.long q1), .second, .val (.int p2), .val (.int p3), .val (.int p4), .val (.int sz), .val (.long o1), .second, .val (.ref b1), .val (.long sv), .second, .val (.double (FP.l2d so)), .second, .val (.ref b50), .val (.int (1 : Int32)), .val (.int (1 : Int32)), .val (.ref b149), .val (.ref b154)] [])) (B := T256.setTop (mkF m 843 #[.val (.int p0), .val (.long q1), .second, .val (.int p2), .val (.int p3), .val (.int p4), .val (.int sz), .val (.long o1), .second, .val (.ref b1), .val (.long sv), .second, .val (.double (FP.l2d so)), .second, .val (.ref b50), .val (.int (1 : Int32)), .val (.int (1 : Int32)), .val (.ref b149), .val (.ref b154)] [(.int sz), (.int (5 : Int32)), (.ref b154)])) (fun t k => ?_) ?_
  · show Steps p.tables e below (T256.setTop (mkF m 838 #[.val (.int p0), .val (.long q1), .second, .val (.int p2), .val (.int p3), .val (.int p4), .val (.int sz), .val (.long o1), .second, .val (.ref b1), .val (.long sv), .second, .val (.double (FP.l2d so)), .second, .val (.ref b50), .val (.int (1 : Int32)), .val (.int (1 : Int32)), .val (.ref b149), .val (.ref b154)] [])) t
    refine XS.aload X256.here hx rfl (hb hby at_838) rfl rfl ?_
    refine XS.iconst X256.here hx rfl (hb hby at_840) ?_
    refine XS.iload X256.here hx rfl (hb hby at_841) rfl ?_
    exact k
  refine OwnGo.of (A := T256.setTop (mkF m 843 #[.val (.int p0), .val (.long q1), .second, .val (.int p2), .val (.int p3), .val (.int p4), .val (.int sz), .val (.long o1), .second, .val (.ref b1), .val (.long sv), .second, .val (.double (FP.l2d so)), .second, .val (.ref b50), .val (.int (1 : Int32)), .val (.int (1 : Int32)), .val (.ref b149), .val (.ref b154)] [(.int sz), (.int (5 : Int32)), (.ref b154)])) (B := T256.setTop (mkF m 851 #[.val (.int p0), .val (.long q1), .second, .val (.int p2), .val (.int p3), .val (.int p4), .val (.int sz), .val (.long o1), .second, .val (.ref b1), .val (.long sv), .second, .val (.double (FP.l2d so)), .second, .val (.ref b50), .val (.int (1 : Int32)), .val (.int (1 : Int32)), .val (.ref b149), .val (.ref b154)] [(.int (if (5 : Int32) < sz then (1 : Int32) else (0 : Int32))), (.ref b154)])) (fun t k => ?_) ?_
  · by_cases hc262 : (5 : Int32) < sz
    · rw [if_pos hc262] at k
      show Steps p.tables e below (T256.setTop (mkF m 843 #[.val (.int p0), .val (.long q1), .second, .val (.int p2), .val (.int p3), .val (.int p4), .val (.int sz), .val (.long o1), .second, .val (.ref b1), .val (.long sv), .second, .val (.double (FP.l2d so)), .second, .val (.ref b50), .val (.int (1 : Int32)), .val (.int (1 : Int32)), .val (.ref b149), .val (.ref b154)] [(.int sz), (.int (5 : Int32)), (.ref b154)])) t
      refine XS.icmpNo X256.here hx rfl (hb hby at_843) rfl (tlt hc262).2.1 ?_
      show Steps p.tables e below (T256.setTop (mkF m 846 #[.val (.int p0), .val (.long q1), .second, .val (.int p2), .val (.int p3), .val (.int p4), .val (.int sz), .val (.long o1), .second, .val (.ref b1), .val (.long sv), .second, .val (.double (FP.l2d so)), .second, .val (.ref b50), .val (.int (1 : Int32)), .val (.int (1 : Int32)), .val (.ref b149), .val (.ref b154)] [(.ref b154)])) t
      refine XS.iconst X256.here hx rfl (hb hby at_846) ?_
      show Steps p.tables e below (T256.setTop (mkF m 847 #[.val (.int p0), .val (.long q1), .second, .val (.int p2), .val (.int p3), .val (.int p4), .val (.int sz), .val (.long o1), .second, .val (.ref b1), .val (.long sv), .second, .val (.double (FP.l2d so)), .second, .val (.ref b50), .val (.int (1 : Int32)), .val (.int (1 : Int32)), .val (.ref b149), .val (.ref b154)] [(.int (1 : Int32)), (.ref b154)])) t
      refine XS.goto X256.here hx rfl (pc0 := 847) (pc' := 851) rfl (hb hby at_847) (by decide) (by decide) ?_
      exact k
    · rw [if_neg hc262] at k
      show Steps p.tables e below (T256.setTop (mkF m 843 #[.val (.int p0), .val (.long q1), .second, .val (.int p2), .val (.int p3), .val (.int p4), .val (.int sz), .val (.long o1), .second, .val (.ref b1), .val (.long sv), .second, .val (.double (FP.l2d so)), .second, .val (.ref b50), .val (.int (1 : Int32)), .val (.int (1 : Int32)), .val (.ref b149), .val (.ref b154)] [(.int sz), (.int (5 : Int32)), (.ref b154)])) t
      refine XS.icmpYes X256.here hx rfl (pc0 := 843) (pc' := 850) rfl (hb hby at_843) rfl (flt hc262).2.1 (by decide) (by decide) ?_
      show Steps p.tables e below (T256.setTop (mkF m 850 #[.val (.int p0), .val (.long q1), .second, .val (.int p2), .val (.int p3), .val (.int p4), .val (.int sz), .val (.long o1), .second, .val (.ref b1), .val (.long sv), .second, .val (.double (FP.l2d so)), .second, .val (.ref b50), .val (.int (1 : Int32)), .val (.int (1 : Int32)), .val (.ref b149), .val (.ref b154)] [(.ref b154)])) t
      refine XS.iconst X256.here hx rfl (hb hby at_850) ?_
      exact k
  show OwnGo p.tables e below _ (T256.setTop (mkF m 851 #[.val (.int p0), .val (.long q1), .second, .val (.int p2), .val (.int p3), .val (.int p4), .val (.int sz), .val (.long o1), .second, .val (.ref b1), .val (.long sv), .second, .val (.double (FP.l2d so)), .second, .val (.ref b50), .val (.int (1 : Int32)), .val (.int (1 : Int32)), .val (.ref b149), .val (.ref b154)] [(.int (if (5 : Int32) < sz then (1 : Int32) else (0 : Int32))), (.ref b154)]))
  refine OwnGo.of (A := T256.setTop (mkF m 851 #[.val (.int p0), .val (.long q1), .second, .val (.int p2), .val (.int p3), .val (.int p4), .val (.int sz), .val (.long o1), .second, .val (.ref b1), .val (.long sv), .second, .val (.double (FP.l2d so)), .second, .val (.ref b50), .val (.int (1 : Int32)), .val (.int (1 : Int32)), .val (.ref b149), .val (.ref b154)] [(.int (if (5 : Int32) < sz then (1 : Int32) else (0 : Int32))), (.ref b154)])) (B := T256.setTop (mkF m 854 #[.val (.int p0), .val (.long q1), .second, .val (.int p2), .val (.int p3), .val (.int p4), .val (.int sz), .val (.long o1), .second, .val (.ref b1), .val (.long sv), .second, .val (.double (FP.l2d so)), .second, .val (.ref b50), .val (.int (1 : Int32)), .val (.int (1 : Int32)), .val (.ref b149), .val (.ref b154)] [(.int (5 : Int32)), (.ref b50), (.int (if (5 : Int32) < sz then (1 : Int32) else (0 : Int32))), (.ref b154)])) (fun t k => ?_) ?_
  · show Steps p.tables e below (T256.setTop (mkF m 851 #[.val (.int p0), .val (.long q1), .second, .val (.int p2), .val (.int p3), .val (.int p4), .val (.int sz), .val (.long o1), .second, .val (.ref b1), .val (.long sv), .second, .val (.double (FP.l2d so)), .second, .val (.ref b50), .val (.int (1 : Int32)), .val (.int (1 : Int32)), .val (.ref b149), .val (.ref b154)] [(.int (if (5 : Int32) < sz then (1 : Int32) else (0 : Int32))), (.ref b154)])) t
    refine XS.aload X256.here hx rfl (hb hby at_851) rfl rfl ?_
    refine XS.iconst X256.here hx rfl (hb hby at_853) ?_
    exact k
  have cq263 := f259
  obtain ⟨clq263, Arq263, qq263, Sq263, Nq263, Hq263, Gq263⟩ := cq263
  have hinq263 := inb_of (j := (5 : Int32)) Sq263 ⟨by decide, by decide⟩
  refine OwnGo.of (X256.daload hx (j := (5 : Int32)) (v := (.double (FP.l2d (G 5)))) Arq263.1 (State.isArrayOf_alike hZ.alike Arq263.2.1) Arq263.2.2 hinq263 (Hq263.at hinq263 rfl) (g := (mkF m 854 #[.val (.int p0), .val (.long q1), .second, .val (.int p2), .val (.int p3), .val (.int p4), .val (.int sz), .val (.long o1), .second, .val (.ref b1), .val (.long sv), .second, .val (.double (FP.l2d so)), .second, .val (.ref b50), .val (.int (1 : Int32)), .val (.int (1 : Int32)), .val (.ref b149), .val (.ref b154)] [(.int (5 : Int32)), (.ref b50), (.int (if (5 : Int32) < sz then (1 : Int32) else (0 : Int32))), (.ref b154)])) rfl rfl (hb hby at_854)) ?_
  show OwnGo p.tables e below _ (T256.setTop (mkF m 855 #[.val (.int p0), .val (.long q1), .second, .val (.int p2), .val (.int p3), .val (.int p4), .val (.int sz), .val (.long o1), .second, .val (.ref b1), .val (.long sv), .second, .val (.double (FP.l2d so)), .second, .val (.ref b50), .val (.int (1 : Int32)), .val (.int (1 : Int32)), .val (.ref b149), .val (.ref b154)] [(.double (FP.l2d (G 5))), (.int (if (5 : Int32) < sz then (1 : Int32) else (0 : Int32))), (.ref b154)]))
  refine OwnGo.of (A := T256.setTop (mkF m 855 #[.val (.int p0), .val (.long q1), .second, .val (.int p2), .val (.int p3), .val (.int p4), .val (.int sz), .val (.long o1), .second, .val (.ref b1), .val (.long sv), .second, .val (.double (FP.l2d so)), .second, .val (.ref b50), .val (.int (1 : Int32)), .val (.int (1 : Int32)), .val (.ref b149), .val (.ref b154)] [(.double (FP.l2d (G 5))), (.int (if (5 : Int32) < sz then (1 : Int32) else (0 : Int32))), (.ref b154)])) (B := T256.setTop (mkF m 856 #[.val (.int p0), .val (.long q1), .second, .val (.int p2), .val (.int p3), .val (.int p4), .val (.int sz), .val (.long o1), .second, .val (.ref b1), .val (.long sv), .second, .val (.double (FP.l2d so)), .second, .val (.ref b50), .val (.int (1 : Int32)), .val (.int (1 : Int32)), .val (.ref b149), .val (.ref b154)] [(.long (FP.d2l (FP.l2d (G 5)))), (.int (if (5 : Int32) < sz then (1 : Int32) else (0 : Int32))), (.ref b154)])) (fun t k => ?_) ?_
  · show Steps p.tables e below (T256.setTop (mkF m 855 #[.val (.int p0), .val (.long q1), .second, .val (.int p2), .val (.int p3), .val (.int p4), .val (.int sz), .val (.long o1), .second, .val (.ref b1), .val (.long sv), .second, .val (.double (FP.l2d so)), .second, .val (.ref b50), .val (.int (1 : Int32)), .val (.int (1 : Int32)), .val (.ref b149), .val (.ref b154)] [(.double (FP.l2d (G 5))), (.int (if (5 : Int32) < sz then (1 : Int32) else (0 : Int32))), (.ref b154)])) t
    refine XS.d2lS X256.here hx rfl (hb hby at_855) rfl rfl ?_
    exact k
  rw [d2l_w (BG 5)]
  show OwnGo p.tables e below _ (T256.setTop (mkF m 856 #[.val (.int p0), .val (.long q1), .second, .val (.int p2), .val (.int p3), .val (.int p4), .val (.int sz), .val (.long o1), .second, .val (.ref b1), .val (.long sv), .second, .val (.double (FP.l2d so)), .second, .val (.ref b50), .val (.int (1 : Int32)), .val (.int (1 : Int32)), .val (.ref b149), .val (.ref b154)] [(.long (G 5)), (.int (if (5 : Int32) < sz then (1 : Int32) else (0 : Int32))), (.ref b154)]))
  refine OwnGo.of (A := T256.setTop (mkF m 856 #[.val (.int p0), .val (.long q1), .second, .val (.int p2), .val (.int p3), .val (.int p4), .val (.int sz), .val (.long o1), .second, .val (.ref b1), .val (.long sv), .second, .val (.double (FP.l2d so)), .second, .val (.ref b50), .val (.int (1 : Int32)), .val (.int (1 : Int32)), .val (.ref b149), .val (.ref b154)] [(.long (G 5)), (.int (if (5 : Int32) < sz then (1 : Int32) else (0 : Int32))), (.ref b154)])) (B := T256.setTop (mkF m 859 #[.val (.int p0), .val (.long q1), .second, .val (.int p2), .val (.int p3), .val (.int p4), .val (.int sz), .val (.long o1), .second, .val (.ref b1), .val (.long sv), .second, .val (.double (FP.l2d so)), .second, .val (.ref b50), .val (.int (1 : Int32)), .val (.int (1 : Int32)), .val (.ref b149), .val (.ref b154)] [(.long ((G 5) - o1)), (.int (if (5 : Int32) < sz then (1 : Int32) else (0 : Int32))), (.ref b154)])) (fun t k => ?_) ?_
  · show Steps p.tables e below (T256.setTop (mkF m 856 #[.val (.int p0), .val (.long q1), .second, .val (.int p2), .val (.int p3), .val (.int p4), .val (.int sz), .val (.long o1), .second, .val (.ref b1), .val (.long sv), .second, .val (.double (FP.l2d so)), .second, .val (.ref b50), .val (.int (1 : Int32)), .val (.int (1 : Int32)), .val (.ref b149), .val (.ref b154)] [(.long (G 5)), (.int (if (5 : Int32) < sz then (1 : Int32) else (0 : Int32))), (.ref b154)])) t
    refine XS.lload X256.here hx rfl (hb hby at_856) rfl ?_
    refine XS.lsub X256.here hx rfl (hb hby at_858) rfl ?_
    exact k
  obtain ⟨T264, L264, v264, X264, hQ264, st264⟩ := own_callS X256 hx (y := (⟨"com/example/rankwright/rankwright/rank/AccumulatorSiftDownPinLaw", "addIf", "([JZJ)V"⟩ : MethodName)) hown (mvT hZ (hw _ (List.mem_of_getElem? (i := 24) rfl))) (mvT hZ (hw _ (List.mem_of_getElem? (i := 25) rfl))) (mvT hZ (hw _ (List.mem_of_getElem? (i := 3) rfl))) (mvT hZ (hw _ (List.mem_of_getElem? (i := 26) rfl))) (by decide) (backOf (W := 0) (rmi l Z aw hw [] b154 (if (5 : Int32) < sz then (1 : Int32) else (0 : Int32)) ((G 5) - o1) W260 k154 T256.heap n0 f257 y256_0 g_b154) hZ (hw _ (List.mem_of_getElem? (i := 26) rfl)) (hw _ (List.mem_of_getElem? (i := 3) rfl)) (by decide) (by decide)) (g := (mkF m 859 #[.val (.int p0), .val (.long q1), .second, .val (.int p2), .val (.int p3), .val (.int p4), .val (.int sz), .val (.long o1), .second, .val (.ref b1), .val (.long sv), .second, .val (.double (FP.l2d so)), .second, .val (.ref b50), .val (.int (1 : Int32)), .val (.int (1 : Int32)), .val (.ref b149), .val (.ref b154)] [(.long ((G 5) - o1)), (.int (if (5 : Int32) < sz then (1 : Int32) else (0 : Int32))), (.ref b154)])) rfl (by rw [hml]; rfl) (argsL := [(.ref b154), (.int (if (5 : Int32) < sz then (1 : Int32) else (0 : Int32))), (.long ((G 5) - o1))]) (rest := []) (lenOf pd_8 rfl) rfl (by show 2 * 0 + _ ≤ _; exact Nat.le_of_eq rfl) (hb hby at_859) rfl rfl (by decide) (by decide)
  obtain ⟨rfl, N264q, K264, y264_0⟩ := hQ264
  have f265 : n0 ≤ T264.heap.size := Nat.le_trans f257 K264.1
  have f266 : Arv Z T264.heap b1 k1 .long (8 : Int32) [(.long v0), (.long v1), (.long v2), (.long v3), (.long v4), (.long v5), (.long v6), (.long v7)] (.long (0 : Int64)) := f258.keep K264 (ninS ne_b1_b154 nin0)
  have f267 : Arv Z T264.heap b50 k50 .double (10 : Int32) (own_l10 (G)) (.double (0 : UInt64)) := f259.keep K264 (ninS ne_b50_b154 nin0)
  have f268 : Arv Z T264.heap b149 k149 .long (8 : Int32) (own_l8 (W220)) (.long (0 : Int64)) := f260.keep K264 (ninS ne_b149_b154 nin0)
  obtain ⟨W268, qW268⟩ : ∃ z, z = own_ai W260 (if (5 : Int32) < sz then (1 : Int32) else (0 : Int32)) ((G 5) - o1) := ⟨_, rfl⟩
  rw [← qW268] at y264_0
  have N264 := Fr.app N256 N264q
  refine OwnGo.of st264 ?_
  show OwnGo p.tables e below _ (T264.setTop (mkF m 862 #[.val (.int p0), .val (.long q1), .second, .val (.int p2), .val (.int p3), .val (.int p4), .val (.int sz), .val (.long o1), .second, .val (.ref b1), .val (.long sv), .second, .val (.double (FP.l2d so)), .second, .val (.ref b50), .val (.int (1 : Int32)), .val (.int (1 : Int32)), .val (.ref b149), .val (.ref b154)] []))
  refine OwnGo.of (A := T264.setTop (mkF m 862 #[.val (.int p0), .val (.long q1), .second, .val (.int p2), .val (.int p3), .val (.int p4), .val (.int sz), .val (.long o1), .second, .val (.ref b1), .val (.long sv), .second, .val (.double (FP.l2d so)), .second, .val (.ref b50), .val (.int (1 : Int32)), .val (.int (1 : Int32)), .val (.ref b149), .val (.ref b154)] [])) (B := T264.setTop (mkF m 868 #[.val (.int p0), .val (.long q1), .second, .val (.int p2), .val (.int p3), .val (.int p4), .val (.int sz), .val (.long o1), .second, .val (.ref b1), .val (.long sv), .second, .val (.double (FP.l2d so)), .second, .val (.ref b50), .val (.int (1 : Int32)), .val (.int (1 : Int32)), .val (.ref b149), .val (.ref b154)] [(.int sz), (.int (6 : Int32)), (.ref b154)])) (fun t k => ?_) ?_
  · show Steps p.tables e below (T264.setTop (mkF m 862 #[.val (.int p0), .val (.long q1), .second, .val (.int p2), .val (.int p3), .val (.int p4), .val (.int sz), .val (.long o1), .second, .val (.ref b1), .val (.long sv), .second, .val (.double (FP.l2d so)), .second, .val (.ref b50), .val (.int (1 : Int32)), .val (.int (1 : Int32)), .val (.ref b149), .val (.ref b154)] [])) t
    refine XS.aload X264.here hx rfl (hb hby at_862) rfl rfl ?_
    refine XS.bipush X264.here hx rfl (hb hby at_864) ?_
    refine XS.iload X264.here hx rfl (hb hby at_866) rfl ?_
    exact k
  refine OwnGo.of (A := T264.setTop (mkF m 868 #[.val (.int p0), .val (.long q1), .second, .val (.int p2), .val (.int p3), .val (.int p4), .val (.int sz), .val (.long o1), .second, .val (.ref b1), .val (.long sv), .second, .val (.double (FP.l2d so)), .second, .val (.ref b50), .val (.int (1 : Int32)), .val (.int (1 : Int32)), .val (.ref b149), .val (.ref b154)] [(.int sz), (.int (6 : Int32)), (.ref b154)])) (B := T264.setTop (mkF m 876 #[.val (.int p0), .val (.long q1), .second, .val (.int p2), .val (.int p3), .val (.int p4), .val (.int sz), .val (.long o1), .second, .val (.ref b1), .val (.long sv), .second, .val (.double (FP.l2d so)), .second, .val (.ref b50), .val (.int (1 : Int32)), .val (.int (1 : Int32)), .val (.ref b149), .val (.ref b154)] [(.int (if (6 : Int32) < sz then (1 : Int32) else (0 : Int32))), (.ref b154)])) (fun t k => ?_) ?_
  · by_cases hc270 : (6 : Int32) < sz
    · rw [if_pos hc270] at k
      show Steps p.tables e below (T264.setTop (mkF m 868 #[.val (.int p0), .val (.long q1), .second, .val (.int p2), .val (.int p3), .val (.int p4), .val (.int sz), .val (.long o1), .second, .val (.ref b1), .val (.long sv), .second, .val (.double (FP.l2d so)), .second, .val (.ref b50), .val (.int (1 : Int32)), .val (.int (1 : Int32)), .val (.ref b149), .val (.ref b154)] [(.int sz), (.int (6 : Int32)), (.ref b154)])) t
      refine XS.icmpNo X264.here hx rfl (hb hby at_868) rfl (tlt hc270).2.1 ?_
      show Steps p.tables e below (T264.setTop (mkF m 871 #[.val (.int p0), .val (.long q1), .second, .val (.int p2), .val (.int p3), .val (.int p4), .val (.int sz), .val (.long o1), .second, .val (.ref b1), .val (.long sv), .second, .val (.double (FP.l2d so)), .second, .val (.ref b50), .val (.int (1 : Int32)), .val (.int (1 : Int32)), .val (.ref b149), .val (.ref b154)] [(.ref b154)])) t
      refine XS.iconst X264.here hx rfl (hb hby at_871) ?_
      show Steps p.tables e below (T264.setTop (mkF m 872 #[.val (.int p0), .val (.long q1), .second, .val (.int p2), .val (.int p3), .val (.int p4), .val (.int sz), .val (.long o1), .second, .val (.ref b1), .val (.long sv), .second, .val (.double (FP.l2d so)), .second, .val (.ref b50), .val (.int (1 : Int32)), .val (.int (1 : Int32)), .val (.ref b149), .val (.ref b154)] [(.int (1 : Int32)), (.ref b154)])) t
      refine XS.goto X264.here hx rfl (pc0 := 872) (pc' := 876) rfl (hb hby at_872) (by decide) (by decide) ?_
      exact k
    · rw [if_neg hc270] at k
      show Steps p.tables e below (T264.setTop (mkF m 868 #[.val (.int p0), .val (.long q1), .second, .val (.int p2), .val (.int p3), .val (.int p4), .val (.int sz), .val (.long o1), .second, .val (.ref b1), .val (.long sv), .second, .val (.double (FP.l2d so)), .second, .val (.ref b50), .val (.int (1 : Int32)), .val (.int (1 : Int32)), .val (.ref b149), .val (.ref b154)] [(.int sz), (.int (6 : Int32)), (.ref b154)])) t
      refine XS.icmpYes X264.here hx rfl (pc0 := 868) (pc' := 875) rfl (hb hby at_868) rfl (flt hc270).2.1 (by decide) (by decide) ?_
      show Steps p.tables e below (T264.setTop (mkF m 875 #[.val (.int p0), .val (.long q1), .second, .val (.int p2), .val (.int p3), .val (.int p4), .val (.int sz), .val (.long o1), .second, .val (.ref b1), .val (.long sv), .second, .val (.double (FP.l2d so)), .second, .val (.ref b50), .val (.int (1 : Int32)), .val (.int (1 : Int32)), .val (.ref b149), .val (.ref b154)] [(.ref b154)])) t
      refine XS.iconst X264.here hx rfl (hb hby at_875) ?_
      exact k
  show OwnGo p.tables e below _ (T264.setTop (mkF m 876 #[.val (.int p0), .val (.long q1), .second, .val (.int p2), .val (.int p3), .val (.int p4), .val (.int sz), .val (.long o1), .second, .val (.ref b1), .val (.long sv), .second, .val (.double (FP.l2d so)), .second, .val (.ref b50), .val (.int (1 : Int32)), .val (.int (1 : Int32)), .val (.ref b149), .val (.ref b154)] [(.int (if (6 : Int32) < sz then (1 : Int32) else (0 : Int32))), (.ref b154)]))
  refine OwnGo.of (A := T264.setTop (mkF m 876 #[.val (.int p0), .val (.long q1), .second, .val (.int p2), .val (.int p3), .val (.int p4), .val (.int sz), .val (.long o1), .second, .val (.ref b1), .val (.long sv), .second, .val (.double (FP.l2d so)), .second, .val (.ref b50), .val (.int (1 : Int32)), .val (.int (1 : Int32)), .val (.ref b149), .val (.ref b154)] [(.int (if (6 : Int32) < sz then (1 : Int32) else (0 : Int32))), (.ref b154)])) (B := T264.setTop (mkF m 880 #[.val (.int p0), .val (.long q1), .second, .val (.int p2), .val (.int p3), .val (.int p4), .val (.int sz), .val (.long o1), .second, .val (.ref b1), .val (.long sv), .second, .val (.double (FP.l2d so)), .second, .val (.ref b50), .val (.int (1 : Int32)), .val (.int (1 : Int32)), .val (.ref b149), .val (.ref b154)] [(.int (6 : Int32)), (.ref b50), (.int (if (6 : Int32) < sz then (1 : Int32) else (0 : Int32))), (.ref b154)])) (fun t k => ?_) ?_
  · show Steps p.tables e below (T264.setTop (mkF m 876 #[.val (.int p0), .val (.long q1), .second, .val (.int p2), .val (.int p3), .val (.int p4), .val (.int sz), .val (.long o1), .second, .val (.ref b1), .val (.long sv), .second, .val (.double (FP.l2d so)), .second, .val (.ref b50), .val (.int (1 : Int32)), .val (.int (1 : Int32)), .val (.ref b149), .val (.ref b154)] [(.int (if (6 : Int32) < sz then (1 : Int32) else (0 : Int32))), (.ref b154)])) t
    refine XS.aload X264.here hx rfl (hb hby at_876) rfl rfl ?_
    refine XS.bipush X264.here hx rfl (hb hby at_878) ?_
    exact k
  have cq271 := f267
  obtain ⟨clq271, Arq271, qq271, Sq271, Nq271, Hq271, Gq271⟩ := cq271
  have hinq271 := inb_of (j := (6 : Int32)) Sq271 ⟨by decide, by decide⟩
  refine OwnGo.of (X264.daload hx (j := (6 : Int32)) (v := (.double (FP.l2d (G 6)))) Arq271.1 (State.isArrayOf_alike hZ.alike Arq271.2.1) Arq271.2.2 hinq271 (Hq271.at hinq271 rfl) (g := (mkF m 880 #[.val (.int p0), .val (.long q1), .second, .val (.int p2), .val (.int p3), .val (.int p4), .val (.int sz), .val (.long o1), .second, .val (.ref b1), .val (.long sv), .second, .val (.double (FP.l2d so)), .second, .val (.ref b50), .val (.int (1 : Int32)), .val (.int (1 : Int32)), .val (.ref b149), .val (.ref b154)] [(.int (6 : Int32)), (.ref b50), (.int (if (6 : Int32) < sz then (1 : Int32) else (0 : Int32))), (.ref b154)])) rfl rfl (hb hby at_880)) ?_
  show OwnGo p.tables e below _ (T264.setTop (mkF m 881 #[.val (.int p0), .val (.long q1), .second, .val (.int p2), .val (.int p3), .val (.int p4), .val (.int sz), .val (.long o1), .second, .val (.ref b1), .val (.long sv), .second, .val (.double (FP.l2d so)), .second, .val (.ref b50), .val (.int (1 : Int32)), .val (.int (1 : Int32)), .val (.ref b149), .val (.ref b154)] [(.double (FP.l2d (G 6))), (.int (if (6 : Int32) < sz then (1 : Int32) else (0 : Int32))), (.ref b154)]))
  refine OwnGo.of (A := T264.setTop (mkF m 881 #[.val (.int p0), .val (.long q1), .second, .val (.int p2), .val (.int p3), .val (.int p4), .val (.int sz), .val (.long o1), .second, .val (.ref b1), .val (.long sv), .second, .val (.double (FP.l2d so)), .second, .val (.ref b50), .val (.int (1 : Int32)), .val (.int (1 : Int32)), .val (.ref b149), .val (.ref b154)] [(.double (FP.l2d (G 6))), (.int (if (6 : Int32) < sz then (1 : Int32) else (0 : Int32))), (.ref b154)])) (B := T264.setTop (mkF m 882 #[.val (.int p0), .val (.long q1), .second, .val (.int p2), .val (.int p3), .val (.int p4), .val (.int sz), .val (.long o1), .second, .val (.ref b1), .val (.long sv), .second, .val (.double (FP.l2d so)), .second, .val (.ref b50), .val (.int (1 : Int32)), .val (.int (1 : Int32)), .val (.ref b149), .val (.ref b154)] [(.long (FP.d2l (FP.l2d (G 6)))), (.int (if (6 : Int32) < sz then (1 : Int32) else (0 : Int32))), (.ref b154)])) (fun t k => ?_) ?_
  · show Steps p.tables e below (T264.setTop (mkF m 881 #[.val (.int p0), .val (.long q1), .second, .val (.int p2), .val (.int p3), .val (.int p4), .val (.int sz), .val (.long o1), .second, .val (.ref b1), .val (.long sv), .second, .val (.double (FP.l2d so)), .second, .val (.ref b50), .val (.int (1 : Int32)), .val (.int (1 : Int32)), .val (.ref b149), .val (.ref b154)] [(.double (FP.l2d (G 6))), (.int (if (6 : Int32) < sz then (1 : Int32) else (0 : Int32))), (.ref b154)])) t
    refine XS.d2lS X264.here hx rfl (hb hby at_881) rfl rfl ?_
    exact k
  rw [d2l_w (BG 6)]
  show OwnGo p.tables e below _ (T264.setTop (mkF m 882 #[.val (.int p0), .val (.long q1), .second, .val (.int p2), .val (.int p3), .val (.int p4), .val (.int sz), .val (.long o1), .second, .val (.ref b1), .val (.long sv), .second, .val (.double (FP.l2d so)), .second, .val (.ref b50), .val (.int (1 : Int32)), .val (.int (1 : Int32)), .val (.ref b149), .val (.ref b154)] [(.long (G 6)), (.int (if (6 : Int32) < sz then (1 : Int32) else (0 : Int32))), (.ref b154)]))
  refine OwnGo.of (A := T264.setTop (mkF m 882 #[.val (.int p0), .val (.long q1), .second, .val (.int p2), .val (.int p3), .val (.int p4), .val (.int sz), .val (.long o1), .second, .val (.ref b1), .val (.long sv), .second, .val (.double (FP.l2d so)), .second, .val (.ref b50), .val (.int (1 : Int32)), .val (.int (1 : Int32)), .val (.ref b149), .val (.ref b154)] [(.long (G 6)), (.int (if (6 : Int32) < sz then (1 : Int32) else (0 : Int32))), (.ref b154)])) (B := T264.setTop (mkF m 885 #[.val (.int p0), .val (.long q1), .second, .val (.int p2), .val (.int p3), .val (.int p4), .val (.int sz), .val (.long o1), .second, .val (.ref b1), .val (.long sv), .second, .val (.double (FP.l2d so)), .second, .val (.ref b50), .val (.int (1 : Int32)), .val (.int (1 : Int32)), .val (.ref b149), .val (.ref b154)] [(.long ((G 6) - o1)), (.int (if (6 : Int32) < sz then (1 : Int32) else (0 : Int32))), (.ref b154)])) (fun t k => ?_) ?_
  · show Steps p.tables e below (T264.setTop (mkF m 882 #[.val (.int p0), .val (.long q1), .second, .val (.int p2), .val (.int p3), .val (.int p4), .val (.int sz), .val (.long o1), .second, .val (.ref b1), .val (.long sv), .second, .val (.double (FP.l2d so)), .second, .val (.ref b50), .val (.int (1 : Int32)), .val (.int (1 : Int32)), .val (.ref b149), .val (.ref b154)] [(.long (G 6)), (.int (if (6 : Int32) < sz then (1 : Int32) else (0 : Int32))), (.ref b154)])) t
    refine XS.lload X264.here hx rfl (hb hby at_882) rfl ?_
    refine XS.lsub X264.here hx rfl (hb hby at_884) rfl ?_
    exact k
  obtain ⟨T272, L272, v272, X272, hQ272, st272⟩ := own_callS X264 hx (y := (⟨"com/example/rankwright/rankwright/rank/AccumulatorSiftDownPinLaw", "addIf", "([JZJ)V"⟩ : MethodName)) hown (mvT hZ (hw _ (List.mem_of_getElem? (i := 24) rfl))) (mvT hZ (hw _ (List.mem_of_getElem? (i := 25) rfl))) (mvT hZ (hw _ (List.mem_of_getElem? (i := 3) rfl))) (mvT hZ (hw _ (List.mem_of_getElem? (i := 26) rfl))) (by decide) (backOf (W := 0) (rmi l Z aw hw [] b154 (if (6 : Int32) < sz then (1 : Int32) else (0 : Int32)) ((G 6) - o1) W268 k154 T264.heap n0 f265 y264_0 g_b154) hZ (hw _ (List.mem_of_getElem? (i := 26) rfl)) (hw _ (List.mem_of_getElem? (i := 3) rfl)) (by decide) (by decide)) (g := (mkF m 885 #[.val (.int p0), .val (.long q1), .second, .val (.int p2), .val (.int p3), .val (.int p4), .val (.int sz), .val (.long o1), .second, .val (.ref b1), .val (.long sv), .second, .val (.double (FP.l2d so)), .second, .val (.ref b50), .val (.int (1 : Int32)), .val (.int (1 : Int32)), .val (.ref b149), .val (.ref b154)] [(.long ((G 6) - o1)), (.int (if (6 : Int32) < sz then (1 : Int32) else (0 : Int32))), (.ref b154)])) rfl (by rw [hml]; rfl) (argsL := [(.ref b154), (.int (if (6 : Int32) < sz then (1 : Int32) else (0 : Int32))), (.long ((G 6) - o1))]) (rest := []) (lenOf pd_8 rfl) rfl (by show 2 * 0 + _ ≤ _; exact Nat.le_of_eq rfl) (hb hby at_885) rfl rfl (by decide) (by decide)
  obtain ⟨rfl, N272q, K272, y272_0⟩ := hQ272
  have f273 : n0 ≤ T272.heap.size := Nat.le_trans f265 K272.1
  have f274 : Arv Z T272.heap b1 k1 .long (8 : Int32) [(.long v0), (.long v1), (.long v2), (.long v3), (.long v4), (.long v5), (.long v6), (.long v7)] (.long (0 : Int64)) := f266.keep K272 (ninS ne_b1_b154 nin0)
  have f275 : Arv Z T272.heap b50 k50 .double (10 : Int32) (own_l10 (G)) (.double (0 : UInt64)) := f267.keep K272 (ninS ne_b50_b154 nin0)
  have f276 : Arv Z T272.heap b149 k149 .long (8 : Int32) (own_l8 (W220)) (.long (0 : Int64)) := f268.keep K272 (ninS ne_b149_b154 nin0)
  obtain ⟨W276, qW276⟩ : ∃ z, z = own_ai W268 (if (6 : Int32) < sz then (1 : Int32) else (0 : Int32)) ((G 6) - o1) := ⟨_, rfl⟩
  rw [← qW276] at y272_0
  have N272 := Fr.app N264 N272q
  refine OwnGo.of st272 ?_
  show OwnGo p.tables e below _ (T272.setTop (mkF m 888 #[.val (.int p0), .val (.long q1), .second, .val (.int p2), .val (.int p3), .val (.int p4), .val (.int sz), .val (.long o1), .second, .val (.ref b1), .val (.long sv), .second, .val (.double (FP.l2d so)), .second, .val (.ref b50), .val (.int (1 : Int32)), .val (.int (1 : Int32)), .val (.ref b149), .val (.ref b154)] []))
  refine OwnGo.of (A := T272.setTop (mkF m 888 #[.val (.int p0), .val (.long q1), .second, .val (.int p2), .val (.int p3), .val (.int p4), .val (.int sz), .val (.long o1), .second, .val (.ref b1), .val (.long sv), .second, .val (.double (FP.l2d so)), .second, .val (.ref b50), .val (.int (1 : Int32)), .val (.int (1 : Int32)), .val (.ref b149), .val (.ref b154)] [])) (B := T272.setTop (mkF m 894 #[.val (.int p0), .val (.long q1), .second, .val (.int p2), .val (.int p3), .val (.int p4), .val (.int sz), .val (.long o1), .second, .val (.ref b1), .val (.long sv), .second, .val (.double (FP.l2d so)), .second, .val (.ref b50), .val (.int (1 : Int32)), .val (.int (1 : Int32)), .val (.ref b149), .val (.ref b154)] [(.int sz), (.int (7 : Int32)), (.ref b154)])) (fun t k => ?_) ?_
  · show Steps p.tables e below (T272.setTop (mkF m 888 #[.val (.int p0), .val (.long q1), .second, .val (.int p2), .val (.int p3), .val (.int p4), .val (.int sz), .val (.long o1), .second, .val (.ref b1), .val (.long sv), .second, .val (.double (FP.l2d so)), .second, .val (.ref b50), .val (.int (1 : Int32)), .val (.int (1 : Int32)), .val (.ref b149), .val (.ref b154)] [])) t
    refine XS.aload X272.here hx rfl (hb hby at_888) rfl rfl ?_
    refine XS.bipush X272.here hx rfl (hb hby at_890) ?_
    refine XS.iload X272.here hx rfl (hb hby at_892) rfl ?_
    exact k
  refine OwnGo.of (A := T272.setTop (mkF m 894 #[.val (.int p0), .val (.long q1), .second, .val (.int p2), .val (.int p3), .val (.int p4), .val (.int sz), .val (.long o1), .second, .val (.ref b1), .val (.long sv), .second, .val (.double (FP.l2d so)), .second, .val (.ref b50), .val (.int (1 : Int32)), .val (.int (1 : Int32)), .val (.ref b149), .val (.ref b154)] [(.int sz), (.int (7 : Int32)), (.ref b154)])) (B := T272.setTop (mkF m 902 #[.val (.int p0), .val (.long q1), .second, .val (.int p2), .val (.int p3), .val (.int p4), .val (.int sz), .val (.long o1), .second, .val (.ref b1), .val (.long sv), .second, .val (.double (FP.l2d so)), .second, .val (.ref b50), .val (.int (1 : Int32)), .val (.int (1 : Int32)), .val (.ref b149), .val (.ref b154)] [(.int (if (7 : Int32) < sz then (1 : Int32) else (0 : Int32))), (.ref b154)])) (fun t k => ?_) ?_
  · by_cases hc278 : (7 : Int32) < sz
    · rw [if_pos hc278] at k
      show Steps p.tables e below (T272.setTop (mkF m 894 #[.val (.int p0), .val (.long q1), .second, .val (.int p2), .val (.int p3), .val (.int p4), .val (.int sz), .val (.long o1), .second, .val (.ref b1), .val (.long sv), .second, .val (.double (FP.l2d so)), .second, .val (.ref b50), .val (.int (1 : Int32)), .val (.int (1 : Int32)), .val (.ref b149), .val (.ref b154)] [(.int sz), (.int (7 : Int32)), (.ref b154)])) t
      refine XS.icmpNo X272.here hx rfl (hb hby at_894) rfl (tlt hc278).2.1 ?_
      show Steps p.tables e below (T272.setTop (mkF m 897 #[.val (.int p0), .val (.long q1), .second, .val (.int p2), .val (.int p3), .val (.int p4), .val (.int sz), .val (.long o1), .second, .val (.ref b1), .val (.long sv), .second, .val (.double (FP.l2d so)), .second, .val (.ref b50), .val (.int (1 : Int32)), .val (.int (1 : Int32)), .val (.ref b149), .val (.ref b154)] [(.ref b154)])) t
      refine XS.iconst X272.here hx rfl (hb hby at_897) ?_
      show Steps p.tables e below (T272.setTop (mkF m 898 #[.val (.int p0), .val (.long q1), .second, .val (.int p2), .val (.int p3), .val (.int p4), .val (.int sz), .val (.long o1), .second, .val (.ref b1), .val (.long sv), .second, .val (.double (FP.l2d so)), .second, .val (.ref b50), .val (.int (1 : Int32)), .val (.int (1 : Int32)), .val (.ref b149), .val (.ref b154)] [(.int (1 : Int32)), (.ref b154)])) t
      refine XS.goto X272.here hx rfl (pc0 := 898) (pc' := 902) rfl (hb hby at_898) (by decide) (by decide) ?_
      exact k
    · rw [if_neg hc278] at k
      show Steps p.tables e below (T272.setTop (mkF m 894 #[.val (.int p0), .val (.long q1), .second, .val (.int p2), .val (.int p3), .val (.int p4), .val (.int sz), .val (.long o1), .second, .val (.ref b1), .val (.long sv), .second, .val (.double (FP.l2d so)), .second, .val (.ref b50), .val (.int (1 : Int32)), .val (.int (1 : Int32)), .val (.ref b149), .val (.ref b154)] [(.int sz), (.int (7 : Int32)), (.ref b154)])) t
      refine XS.icmpYes X272.here hx rfl (pc0 := 894) (pc' := 901) rfl (hb hby at_894) rfl (flt hc278).2.1 (by decide) (by decide) ?_
      show Steps p.tables e below (T272.setTop (mkF m 901 #[.val (.int p0), .val (.long q1), .second, .val (.int p2), .val (.int p3), .val (.int p4), .val (.int sz), .val (.long o1), .second, .val (.ref b1), .val (.long sv), .second, .val (.double (FP.l2d so)), .second, .val (.ref b50), .val (.int (1 : Int32)), .val (.int (1 : Int32)), .val (.ref b149), .val (.ref b154)] [(.ref b154)])) t
      refine XS.iconst X272.here hx rfl (hb hby at_901) ?_
      exact k
  show OwnGo p.tables e below _ (T272.setTop (mkF m 902 #[.val (.int p0), .val (.long q1), .second, .val (.int p2), .val (.int p3), .val (.int p4), .val (.int sz), .val (.long o1), .second, .val (.ref b1), .val (.long sv), .second, .val (.double (FP.l2d so)), .second, .val (.ref b50), .val (.int (1 : Int32)), .val (.int (1 : Int32)), .val (.ref b149), .val (.ref b154)] [(.int (if (7 : Int32) < sz then (1 : Int32) else (0 : Int32))), (.ref b154)]))
  refine OwnGo.of (A := T272.setTop (mkF m 902 #[.val (.int p0), .val (.long q1), .second, .val (.int p2), .val (.int p3), .val (.int p4), .val (.int sz), .val (.long o1), .second, .val (.ref b1), .val (.long sv), .second, .val (.double (FP.l2d so)), .second, .val (.ref b50), .val (.int (1 : Int32)), .val (.int (1 : Int32)), .val (.ref b149), .val (.ref b154)] [(.int (if (7 : Int32) < sz then (1 : Int32) else (0 : Int32))), (.ref b154)])) (B := T272.setTop (mkF m 906 #[.val (.int p0), .val (.long q1), .second, .val (.int p2), .val (.int p3), .val (.int p4), .val (.int sz), .val (.long o1), .second, .val (.ref b1), .val (.long sv), .second, .val (.double (FP.l2d so)), .second, .val (.ref b50), .val (.int (1 : Int32)), .val (.int (1 : Int32)), .val (.ref b149), .val (.ref b154)] [(.int (7 : Int32)), (.ref b50), (.int (if (7 : Int32) < sz then (1 : Int32) else (0 : Int32))), (.ref b154)])) (fun t k => ?_) ?_
  · show Steps p.tables e below (T272.setTop (mkF m 902 #[.val (.int p0), .val (.long q1), .second, .val (.int p2), .val (.int p3), .val (.int p4), .val (.int sz), .val (.long o1), .second, .val (.ref b1), .val (.long sv), .second, .val (.double (FP.l2d so)), .second, .val (.ref b50), .val (.int (1 : Int32)), .val (.int (1 : Int32)), .val (.ref b149), .val (.ref b154)] [(.int (if (7 : Int32) < sz then (1 : Int32) else (0 : Int32))), (.ref b154)])) t
    refine XS.aload X272.here hx rfl (hb hby at_902) rfl rfl ?_
    refine XS.bipush X272.here hx rfl (hb hby at_904) ?_
    exact k
  have cq279 := f275
  obtain ⟨clq279, Arq279, qq279, Sq279, Nq279, Hq279, Gq279⟩ := cq279
  have hinq279 := inb_of (j := (7 : Int32)) Sq279 ⟨by decide, by decide⟩
  refine OwnGo.of (X272.daload hx (j := (7 : Int32)) (v := (.double (FP.l2d (G 7)))) Arq279.1 (State.isArrayOf_alike hZ.alike Arq279.2.1) Arq279.2.2 hinq279 (Hq279.at hinq279 rfl) (g := (mkF m 906 #[.val (.int p0), .val (.long q1), .second, .val (.int p2), .val (.int p3), .val (.int p4), .val (.int sz), .val (.long o1), .second, .val (.ref b1), .val (.long sv), .second, .val (.double (FP.l2d so)), .second, .val (.ref b50), .val (.int (1 : Int32)), .val (.int (1 : Int32)), .val (.ref b149), .val (.ref b154)] [(.int (7 : Int32)), (.ref b50), (.int (if (7 : Int32) < sz then (1 : Int32) else (0 : Int32))), (.ref b154)])) rfl rfl (hb hby at_906)) ?_
  show OwnGo p.tables e below _ (T272.setTop (mkF m 907 #[.val (.int p0), .val (.long q1), .second, .val (.int p2), .val (.int p3), .val (.int p4), .val (.int sz), .val (.long o1), .second, .val (.ref b1), .val (.long sv), .second, .val (.double (FP.l2d so)), .second, .val (.ref b50), .val (.int (1 : Int32)), .val (.int (1 : Int32)), .val (.ref b149), .val (.ref b154)] [(.double (FP.l2d (G 7))), (.int (if (7 : Int32) < sz then (1 : Int32) else (0 : Int32))), (.ref b154)]))
  refine OwnGo.of (A := T272.setTop (mkF m 907 #[.val (.int p0), .val (.long q1), .second, .val (.int p2), .val (.int p3), .val (.int p4), .val (.int sz), .val (.long o1), .second, .val (.ref b1), .val (.long sv), .second, .val (.double (FP.l2d so)), .second, .val (.ref b50), .val (.int (1 : Int32)), .val (.int (1 : Int32)), .val (.ref b149), .val (.ref b154)] [(.double (FP.l2d (G 7))), (.int (if (7 : Int32) < sz then (1 : Int32) else (0 : Int32))), (.ref b154)])) (B := T272.setTop (mkF m 908 #[.val (.int p0), .val (.long q1), .second, .val (.int p2), .val (.int p3), .val (.int p4), .val (.int sz), .val (.long o1), .second, .val (.ref b1), .val (.long sv), .second, .val (.double (FP.l2d so)), .second, .val (.ref b50), .val (.int (1 : Int32)), .val (.int (1 : Int32)), .val (.ref b149), .val (.ref b154)] [(.long (FP.d2l (FP.l2d (G 7)))), (.int (if (7 : Int32) < sz then (1 : Int32) else (0 : Int32))), (.ref b154)])) (fun t k => ?_) ?_
  · show Steps p.tables e below (T272.setTop (mkF m 907 #[.val (.int p0), .val (.long q1), .second, .val (.int p2), .val (.int p3), .val (.int p4), .val (.int sz), .val (.long o1), .second, .val (.ref b1), .val (.long sv), .second, .val (.double (FP.l2d so)), .second, .val (.ref b50), .val (.int (1 : Int32)), .val (.int (1 : Int32)), .val (.ref b149), .val (.ref b154)] [(.double (FP.l2d (G 7))), (.int (if (7 : Int32) < sz then (1 : Int32) else (0 : Int32))), (.ref b154)])) t
    refine XS.d2lS X272.here hx rfl (hb hby at_907) rfl rfl ?_
    exact k
  rw [d2l_w (BG 7)]
  show OwnGo p.tables e below _ (T272.setTop (mkF m 908 #[.val (.int p0), .val (.long q1), .second, .val (.int p2), .val (.int p3), .val (.int p4), .val (.int sz), .val (.long o1), .second, .val (.ref b1), .val (.long sv), .second, .val (.double (FP.l2d so)), .second, .val (.ref b50), .val (.int (1 : Int32)), .val (.int (1 : Int32)), .val (.ref b149), .val (.ref b154)] [(.long (G 7)), (.int (if (7 : Int32) < sz then (1 : Int32) else (0 : Int32))), (.ref b154)]))
  refine OwnGo.of (A := T272.setTop (mkF m 908 #[.val (.int p0), .val (.long q1), .second, .val (.int p2), .val (.int p3), .val (.int p4), .val (.int sz), .val (.long o1), .second, .val (.ref b1), .val (.long sv), .second, .val (.double (FP.l2d so)), .second, .val (.ref b50), .val (.int (1 : Int32)), .val (.int (1 : Int32)), .val (.ref b149), .val (.ref b154)] [(.long (G 7)), (.int (if (7 : Int32) < sz then (1 : Int32) else (0 : Int32))), (.ref b154)])) (B := T272.setTop (mkF m 911 #[.val (.int p0), .val (.long q1), .second, .val (.int p2), .val (.int p3), .val (.int p4), .val (.int sz), .val (.long o1), .second, .val (.ref b1), .val (.long sv), .second, .val (.double (FP.l2d so)), .second, .val (.ref b50), .val (.int (1 : Int32)), .val (.int (1 : Int32)), .val (.ref b149), .val (.ref b154)] [(.long ((G 7) - o1)), (.int (if (7 : Int32) < sz then (1 : Int32) else (0 : Int32))), (.ref b154)])) (fun t k => ?_) ?_
  · show Steps p.tables e below (T272.setTop (mkF m 908 #[.val (.int p0), .val (.long q1), .second, .val (.int p2), .val (.int p3), .val (.int p4), .val (.int sz), .val (.long o1), .second, .val (.ref b1), .val (.long sv), .second, .val (.double (FP.l2d so)), .second, .val (.ref b50), .val (.int (1 : Int32)), .val (.int (1 : Int32)), .val (.ref b149), .val (.ref b154)] [(.long (G 7)), (.int (if (7 : Int32) < sz then (1 : Int32) else (0 : Int32))), (.ref b154)])) t
    refine XS.lload X272.here hx rfl (hb hby at_908) rfl ?_
    refine XS.lsub X272.here hx rfl (hb hby at_910) rfl ?_
    exact k
  obtain ⟨T280, L280, v280, X280, hQ280, st280⟩ := own_callS X272 hx (y := (⟨"com/example/rankwright/rankwright/rank/AccumulatorSiftDownPinLaw", "addIf", "([JZJ)V"⟩ : MethodName)) hown (mvT hZ (hw _ (List.mem_of_getElem? (i := 24) rfl))) (mvT hZ (hw _ (List.mem_of_getElem? (i := 25) rfl))) (mvT hZ (hw _ (List.mem_of_getElem? (i := 3) rfl))) (mvT hZ (hw _ (List.mem_of_getElem? (i := 26) rfl))) (by decide) (backOf (W := 0) (rmi l Z aw hw [] b154 (if (7 : Int32) < sz then (1 : Int32) else (0 : Int32)) ((G 7) - o1) W276 k154 T272.heap n0 f273 y272_0 g_b154) hZ (hw _ (List.mem_of_getElem? (i := 26) rfl)) (hw _ (List.mem_of_getElem? (i := 3) rfl)) (by decide) (by decide)) (g := (mkF m 911 #[.val (.int p0), .val (.long q1), .second, .val (.int p2), .val (.int p3), .val (.int p4), .val (.int sz), .val (.long o1), .second, .val (.ref b1), .val (.long sv), .second, .val (.double (FP.l2d so)), .second, .val (.ref b50), .val (.int (1 : Int32)), .val (.int (1 : Int32)), .val (.ref b149), .val (.ref b154)] [(.long ((G 7) - o1)), (.int (if (7 : Int32) < sz then (1 : Int32) else (0 : Int32))), (.ref b154)])) rfl (by rw [hml]; rfl) (argsL := [(.ref b154), (.int (if (7 : Int32) < sz then (1 : Int32) else (0 : Int32))), (.long ((G 7) - o1))]) (rest := []) (lenOf pd_8 rfl) rfl (by show 2 * 0 + _ ≤ _; exact Nat.le_of_eq rfl) (hb hby at_911) rfl rfl (by decide) (by decide)
  obtain ⟨rfl, N280q, K280, y280_0⟩ := hQ280
  have f281 : n0 ≤ T280.heap.size := Nat.le_trans f273 K280.1
  have f282 : Arv Z T280.heap b1 k1 .long (8 : Int32) [(.long v0), (.long v1), (.long v2), (.long v3), (.long v4), (.long v5), (.long v6), (.long v7)] (.long (0 : Int64)) := f274.keep K280 (ninS ne_b1_b154 nin0)
  have f283 : Arv Z T280.heap b50 k50 .double (10 : Int32) (own_l10 (G)) (.double (0 : UInt64)) := f275.keep K280 (ninS ne_b50_b154 nin0)
  have f284 : Arv Z T280.heap b149 k149 .long (8 : Int32) (own_l8 (W220)) (.long (0 : Int64)) := f276.keep K280 (ninS ne_b149_b154 nin0)
  obtain ⟨W284, qW284⟩ : ∃ z, z = own_ai W276 (if (7 : Int32) < sz then (1 : Int32) else (0 : Int32)) ((G 7) - o1) := ⟨_, rfl⟩
  rw [← qW284] at y280_0
  have N280 := Fr.app N272 N280q
  refine OwnGo.of st280 ?_
  show OwnGo p.tables e below _ (T280.setTop (mkF m 914 #[.val (.int p0), .val (.long q1), .second, .val (.int p2), .val (.int p3), .val (.int p4), .val (.int sz), .val (.long o1), .second, .val (.ref b1), .val (.long sv), .second, .val (.double (FP.l2d so)), .second, .val (.ref b50), .val (.int (1 : Int32)), .val (.int (1 : Int32)), .val (.ref b149), .val (.ref b154)] []))
  refine OwnGo.of (A := T280.setTop (mkF m 914 #[.val (.int p0), .val (.long q1), .second, .val (.int p2), .val (.int p3), .val (.int p4), .val (.int sz), .val (.long o1), .second, .val (.ref b1), .val (.long sv), .second, .val (.double (FP.l2d so)), .second, .val (.ref b50), .val (.int (1 : Int32)), .val (.int (1 : Int32)), .val (.ref b149), .val (.ref b154)] [])) (B := T280.setTop (mkF m 916 #[.val (.int p0), .val (.long q1), .second, .val (.int p2), .val (.int p3), .val (.int p4), .val (.int sz), .val (.long o1), .second, .val (.ref b1), .val (.long sv), .second, .val (.double (FP.l2d so)), .second, .val (.ref b50), .val (.int (1 : Int32)), .val (.int (1 : Int32)), .val (.ref b149), .val (.ref b154)] [(.int (1 : Int32))])) (fun t k => ?_) ?_
  · show Steps p.tables e below (T280.setTop (mkF m 914 #[.val (.int p0), .val (.long q1), .second, .val (.int p2), .val (.int p3), .val (.int p4), .val (.int sz), .val (.long o1), .second, .val (.ref b1), .val (.long sv), .second, .val (.double (FP.l2d so)), .second, .val (.ref b50), .val (.int (1 : Int32)), .val (.int (1 : Int32)), .val (.ref b149), .val (.ref b154)] [])) t
    refine XS.iload X280.here hx rfl (hb hby at_914) rfl ?_
    exact k
  have hc286 : ¬ ((1 : Int32) = (0 : Int32)) := by decide
  refine OwnGo.of (A := T280.setTop (mkF m 916 #[.val (.int p0), .val (.long q1), .second, .val (.int p2), .val (.int p3), .val (.int p4), .val (.int sz), .val (.long o1), .second, .val (.ref b1), .val (.long sv), .second, .val (.double (FP.l2d so)), .second, .val (.ref b50), .val (.int (1 : Int32)), .val (.int (1 : Int32)), .val (.ref b149), .val (.ref b154)] [(.int (1 : Int32))])) (B := T280.setTop (mkF m 921 #[.val (.int p0), .val (.long q1), .second, .val (.int p2), .val (.int p3), .val (.int p4), .val (.int sz), .val (.long o1), .second, .val (.ref b1), .val (.long sv), .second, .val (.double (FP.l2d so)), .second, .val (.ref b50), .val (.int (1 : Int32)), .val (.int (1 : Int32)), .val (.ref b149), .val (.ref b154)] [(.int (1 : Int32))])) (fun t k => ?_) ?_
  · show Steps p.tables e below (T280.setTop (mkF m 916 #[.val (.int p0), .val (.long q1), .second, .val (.int p2), .val (.int p3), .val (.int p4), .val (.int sz), .val (.long o1), .second, .val (.ref b1), .val (.long sv), .second, .val (.double (FP.l2d so)), .second, .val (.ref b50), .val (.int (1 : Int32)), .val (.int (1 : Int32)), .val (.ref b149), .val (.ref b154)] [(.int (1 : Int32))])) t
    refine XS.ifNo X280.here hx rfl (hb hby at_916) rfl ((if0 _ _).trans (feq hc286).1) ?_
    refine XS.iload X280.here hx rfl (hb hby at_919) rfl ?_
    exact k
  have hc287 : ¬ ((1 : Int32) = (0 : Int32)) := by decide
  refine OwnGo.of (A := T280.setTop (mkF m 921 #[.val (.int p0), .val (.long q1), .second, .val (.int p2), .val (.int p3), .val (.int p4), .val (.int sz), .val (.long o1), .second, .val (.ref b1), .val (.long sv), .second, .val (.double (FP.l2d so)), .second, .val (.ref b50), .val (.int (1 : Int32)), .val (.int (1 : Int32)), .val (.ref b149), .val (.ref b154)] [(.int (1 : Int32))])) (B := T280.setTop (mkF m 924 #[.val (.int p0), .val (.long q1), .second, .val (.int p2), .val (.int p3), .val (.int p4), .val (.int sz), .val (.long o1), .second, .val (.ref b1), .val (.long sv), .second, .val (.double (FP.l2d so)), .second, .val (.ref b50), .val (.int (1 : Int32)), .val (.int (1 : Int32)), .val (.ref b149), .val (.ref b154)] [])) (fun t k => ?_) ?_
  · show Steps p.tables e below (T280.setTop (mkF m 921 #[.val (.int p0), .val (.long q1), .second, .val (.int p2), .val (.int p3), .val (.int p4), .val (.int sz), .val (.long o1), .second, .val (.ref b1), .val (.long sv), .second, .val (.double (FP.l2d so)), .second, .val (.ref b50), .val (.int (1 : Int32)), .val (.int (1 : Int32)), .val (.ref b149), .val (.ref b154)] [(.int (1 : Int32))])) t
    refine XS.ifNo X280.here hx rfl (hb hby at_921) rfl ((if0 _ _).trans (feq hc287).1) ?_
    exact k
  have hAB : ∀ k, W220 k = W284 k := by rw [qW220, qW212, qW204, qW196, qW188, qW180, qW172, qW164, qW284, qW276, qW268, qW260, qW252, qW244, qW236, qW228]; exact hsum
  refine OwnGo.of (A := T280.setTop (mkF m 924 #[.val (.int p0), .val (.long q1), .second, .val (.int p2), .val (.int p3), .val (.int p4), .val (.int sz), .val (.long o1), .second, .val (.ref b1), .val (.long sv), .second, .val (.double (FP.l2d so)), .second, .val (.ref b50), .val (.int (1 : Int32)), .val (.int (1 : Int32)), .val (.ref b149), .val (.ref b154)] [])) (B := T280.setTop (mkF m 928 #[.val (.int p0), .val (.long q1), .second, .val (.int p2), .val (.int p3), .val (.int p4), .val (.int sz), .val (.long o1), .second, .val (.ref b1), .val (.long sv), .second, .val (.double (FP.l2d so)), .second, .val (.ref b50), .val (.int (1 : Int32)), .val (.int (1 : Int32)), .val (.ref b149), .val (.ref b154)] [(.ref b154), (.ref b149)])) (fun t k => ?_) ?_
  · show Steps p.tables e below (T280.setTop (mkF m 924 #[.val (.int p0), .val (.long q1), .second, .val (.int p2), .val (.int p3), .val (.int p4), .val (.int sz), .val (.long o1), .second, .val (.ref b1), .val (.long sv), .second, .val (.double (FP.l2d so)), .second, .val (.ref b50), .val (.int (1 : Int32)), .val (.int (1 : Int32)), .val (.ref b149), .val (.ref b154)] [])) t
    refine XS.aload X280.here hx rfl (hb hby at_924) rfl rfl ?_
    refine XS.aload X280.here hx rfl (hb hby at_926) rfl rfl ?_
    exact k
  obtain ⟨T288, L288, v288, X288, hQ288, st288⟩ := own_callS X280 hx (y := (⟨"com/example/rankwright/rankwright/rank/AccumulatorSiftDownPinLaw", "same", "([J[J)Z"⟩ : MethodName)) hown (mvT hZ (hw _ (List.mem_of_getElem? (i := 27) rfl))) (mvT hZ (hw _ (List.mem_of_getElem? (i := 28) rfl))) (mvT hZ (hw _ (List.mem_of_getElem? (i := 3) rfl))) (mvT hZ (hw _ (List.mem_of_getElem? (i := 29) rfl))) (by decide) (backOf (W := 0) (rmm l Z aw hw [] b149 b154 W220 W284 k149 k154 T280.heap n0 f281 f284 y280_0 hAB) hZ (hw _ (List.mem_of_getElem? (i := 29) rfl)) (hw _ (List.mem_of_getElem? (i := 3) rfl)) (by decide) (by decide)) (g := (mkF m 928 #[.val (.int p0), .val (.long q1), .second, .val (.int p2), .val (.int p3), .val (.int p4), .val (.int sz), .val (.long o1), .second, .val (.ref b1), .val (.long sv), .second, .val (.double (FP.l2d so)), .second, .val (.ref b50), .val (.int (1 : Int32)), .val (.int (1 : Int32)), .val (.ref b149), .val (.ref b154)] [(.ref b154), (.ref b149)])) rfl (by rw [hml]; rfl) (argsL := [(.ref b149), (.ref b154)]) (rest := []) (lenOf pd_9 rfl) rfl (by show 2 * 0 + _ ≤ _; exact Nat.le_of_eq rfl) (hb hby at_928) rfl rfl (by decide) (by decide)
  obtain ⟨rfl, N288q, eq288⟩ := hQ288
  have N288 := Fr.app N280 N288q
  refine OwnGo.of st288 ?_
  show OwnGo p.tables e below _ (T288.setTop (mkF m 931 #[.val (.int p0), .val (.long q1), .second, .val (.int p2), .val (.int p3), .val (.int p4), .val (.int sz), .val (.long o1), .second, .val (.ref b1), .val (.long sv), .second, .val (.double (FP.l2d so)), .second, .val (.ref b50), .val (.int (1 : Int32)), .val (.int (1 : Int32)), .val (.ref b149), .val (.ref b154)] [(.int (1 : Int32))]))
  have hc289 : ¬ ((1 : Int32) = (0 : Int32)) := by decide
  refine OwnGo.of (A := T288.setTop (mkF m 931 #[.val (.int p0), .val (.long q1), .second, .val (.int p2), .val (.int p3), .val (.int p4), .val (.int sz), .val (.long o1), .second, .val (.ref b1), .val (.long sv), .second, .val (.double (FP.l2d so)), .second, .val (.ref b50), .val (.int (1 : Int32)), .val (.int (1 : Int32)), .val (.ref b149), .val (.ref b154)] [(.int (1 : Int32))])) (B := T288.setTop (mkF m 939 #[.val (.int p0), .val (.long q1), .second, .val (.int p2), .val (.int p3), .val (.int p4), .val (.int sz), .val (.long o1), .second, .val (.ref b1), .val (.long sv), .second, .val (.double (FP.l2d so)), .second, .val (.ref b50), .val (.int (1 : Int32)), .val (.int (1 : Int32)), .val (.ref b149), .val (.ref b154)] [(.int (1 : Int32))])) (fun t k => ?_) ?_
  · show Steps p.tables e below (T288.setTop (mkF m 931 #[.val (.int p0), .val (.long q1), .second, .val (.int p2), .val (.int p3), .val (.int p4), .val (.int sz), .val (.long o1), .second, .val (.ref b1), .val (.long sv), .second, .val (.double (FP.l2d so)), .second, .val (.ref b50), .val (.int (1 : Int32)), .val (.int (1 : Int32)), .val (.ref b149), .val (.ref b154)] [(.int (1 : Int32))])) t
    refine XS.ifNo X288.here hx rfl (hb hby at_931) rfl ((if0 _ _).trans (feq hc289).1) ?_
    refine XS.iconst X288.here hx rfl (hb hby at_934) ?_
    refine XS.goto X288.here hx rfl (pc0 := 935) (pc' := 939) rfl (hb hby at_935) (by decide) (by decide) ?_
    exact k
  obtain ⟨fs, hr, hrun, hended, hW, hsame⟩ := X288.leave (v := some (.int (nar .boolean (1 : Int32)))) (fun h => by rw [Bd.returns] at h; cases h) hlk
  refine ⟨_, _, ?_, hrun, hended, _, _, rfl, ?_, ⟨_, rfl⟩, hW, hsame.mono (by decide) (by decide)⟩
  · show Steps p.tables e below (T288.setTop (mkF m 939 #[.val (.int p0), .val (.long q1), .second, .val (.int p2), .val (.int p3), .val (.int p4), .val (.int sz), .val (.long o1), .second, .val (.ref b1), .val (.long sv), .second, .val (.double (FP.l2d so)), .second, .val (.ref b50), .val (.int (1 : Int32)), .val (.int (1 : Int32)), .val (.ref b149), .val (.ref b154)] [(.int (1 : Int32))])) _
    exact retN X288 hx (t := .boolean) Bd.returns (by simp) (hb hby at_939) hr
  · show Qrm0 Z p0 q1 p2 p3 p4 h0 n0 _ (T288.setFrames fs).heap _
    rw [show (T288.setFrames fs).heap = T280.heap from eq288]
    exact ⟨rfl, N288⟩
set_option maxRecDepth 65536 in
set_option maxHeartbeats 40000000 in
theorem comes_1 {Post : Tables → Env → Array Value → State → Outcome → State → Prop} (hpost : ∀ tb e args s v u, (limb_1_1.after args s (.returned v) u = true ∧ limb_1_2.after args s (.returned v) u = true ∧ True) → FrameEnd s (.returned v) u (Jvm.fieldLocs frame_1_writes args s ++ Jvm.arrayLocs frame_1_arrays args s ++ Jvm.staticLocs frame_1_statics s) 16 192 → Post tb e args s (.returned v) u) :
    ArmFor flags0 classFile x code maxLocals ret World_1 tables_1 room_1 Calls_1 rest_1 Pre_1 Post := by
  intro l hfl _ _ p e ha hc hk s m args below hf hA hF happ hP
  obtain ⟨hcalls, hrest, hpre⟩ := hP
  obtain ⟨-, -, -, hnamed, -, -, -, hat⟩ := (Spec.applies_iff hf).mp happ
  obtain ⟨hg, hn⟩ := and_e (Cond.before_iff.mp (show (Jvm.Cond.and given_1 narrow_1).before args s = true from hpre))
  obtain ⟨gg1, gg2⟩ := and_e hg
  obtain ⟨gg3, gg4⟩ := and_e gg2
  obtain ⟨gg5, gg6⟩ := and_e gg4
  obtain ⟨gg7, gg8⟩ := and_e gg6
  obtain ⟨gg9, gg10⟩ := and_e gg8
  obtain ⟨w0, w1, w2, w3, w4, rfl⟩ : ∃ w0 w1 w2 w3 w4 : Value, args = #[w0, w1, w2, w3, w4] := by
    have hs : args.size = 5 := by simpa [Cond.value, given_1] using gg1
    obtain ⟨L⟩ := args
    match L, hs with
    | [w0, w1, w2, w3, w4], _ => exact ⟨w0, w1, w2, w3, w4, rfl⟩
  have hw := fun d (hd : d ∈ tables_1) => atoms_spec (ws := Jvm.Cond.code x code maxLocals ret :: tables_1) hat d (List.mem_cons_of_mem _ hd)
  have hfit : Fit s := fun {y c} hc i hi => by
    obtain ⟨ha, rfl⟩ := Array.getElem?_eq_some_iff.mp hc
    have q := List.all_eq_true.mp ((Array.all_eq_true_iff_forall_mem.mp hF) _ (Array.getElem_mem ha)) i (List.mem_range.mpr hi)
    simpa [Array.getElem?_eq_getElem hi] using q
  obtain ⟨i0, ei0⟩ := is_v gg3
  obtain rfl : w0 = (.int i0) := Option.some.inj ei0
  obtain ⟨i1, ei1⟩ := isL_v gg5
  obtain rfl : w1 = (.long i1) := Option.some.inj ei1
  obtain ⟨i2, ei2⟩ := is_v gg7
  obtain rfl : w2 = (.int i2) := Option.some.inj ei2
  obtain ⟨i3, ei3⟩ := is_v gg9
  obtain rfl : w3 = (.int i3) := Option.some.inj ei3
  obtain ⟨i4, ei4⟩ := is_v gg10
  obtain rfl : w4 = (.int i4) := Option.some.inj ei4
  obtain ⟨n, o, h1, h2, h3, _, L, rfl, ⟨rfl, N⟩, hq⟩ := rm0 l s _ hw tables_1 i0 i1 i2 i3 i4  s.heap s.heap.size (Nat.le_refl _)  p e ha hc hk s m _ below hf ((Spec.applies_iff_loose hf).mp happ).1 ⟨rfl, State.Warmed39.refl s, rfl⟩ trivial
  refine ⟨n, _, h1, h2, h3, hpost _ _ _ _ _ _ ⟨Cond.after_iff.mpr rfl, Cond.after_iff.mpr (eq_i res_at (Term.int_eval (1)) rfl), trivial⟩ ⟨hq.1, hq.2.1, (hq.2.2.sift fun y hy => Or.inr (N y hy)).mono (by decide) (by decide)⟩⟩
theorem main_1_1 : Claimed_1_1 := comes_1 fun _ _ _ _ _ _ h hF => ⟨h.1, hF⟩
theorem main_1_2 : Claimed_1_2 := comes_1 fun _ _ _ _ _ _ h hF => ⟨h.2.1, hF⟩
end Jvm.Pilot.@@N@@
namespace Jvm.Pilot.@@N@@
open Jvm Jvm.ClassFile Sem Op Lib Jvm.Free Jvm.Stand Jvm.Pilot.@@N@@.Jvm.D
/-! MADE BY PROGRAM (witnessworld.py) out of the Statement's table words and the real class files: 11 classes; the members and pool entries that the words name. The judged class is class 1, her method 1. -/
namespace start1
open Jvm.ClassFile
def u (s : String) : CpInfo := .utf8 (stringToUtf16 s)
/-- a pool by its gaps: so many unusable entries, then the entry; so many at the end -/
def gap : Nat → List CpInfo → List CpInfo
  | 0, r => r
  | n + 1, r => .unusable :: gap n r
def poolList (es : List (Nat × CpInfo)) (last : Nat) : List CpInfo := es.foldr (fun e r => gap e.1 (e.2 :: r)) (gap last [])
def pool (es : List (Nat × CpInfo)) (last : Nat) : Array CpInfo := ⟨poolList es last⟩
def fileOf (pool : Array CpInfo) (this : Nat) (attrs : Array Attribute := #[]) (ms : Array MethodInfo := #[]) (fl : Nat := 33) (sup : Nat := 0) (ifs : Array Nat := #[]) (fds : Array FieldInfo := #[]) : ClassFile where
  minorVersion := 0
  majorVersion := 65
  constantPool := pool
  accessFlags := fl
  thisClass := this
  superClass := sup
  interfaces := ifs
  fields := fds
  methods := ms
  attributes := attrs
def plain (name : String) (sup : Option ClassId) : Class where
  name := name
  kind := .ordinary
  loader := none
  accessFlags := 33
  super := sup
  interfaces := #[]
  cf := none
  fields := #[]
  methods := #[]
  instanceTypes := #[]
  staticTypes := #[]
  resolved := #[]
  callSites := []
  init := .initialized
  statics := none
  mirror := none

def pool0 : Array CpInfo := pool [(5, u "<init>"), (0, u "()V"), (1, .class_ 10), (1, u "java/lang/Object")] 113

def k0m0 : Method := { name := "<init>", desc := "()V", sig := { parameters := [], returnType := none }, accessFlags := 1, code := none }
/-- java/lang/Object -/
def k0 : Class := { plain "java/lang/Object" none with
  accessFlags := 33
  interfaces := #[]
  cf := some (fileOf pool0 8 #[] #[{ accessFlags := 1, nameIndex := 5, descriptorIndex := 6, attributes := #[] }] 33 0 #[] #[])
  fields := #[]
  methods := #[k0m0]
  instanceTypes := #[]
  staticTypes := #[]
  resolved := Array.replicate 124 none
  statics := none }

def pool1 : Array CpInfo := pool [(2, .class_ 4), (1, u "java/lang/Object"), (0, u "<init>"), (0, u "()V"), (0, .methodref 8 9), (0, .class_ 10), (0, .nameAndType 11 12), (0, u "com/example/rankwright/rankwright/rank/AccumulatorSiftDownPinLaw"), (0, u "inc"), (0, u "(JI)J"), (0, .long 100), (1, .methodref 8 16), (0, .nameAndType 17 18), (0, u "slot"), (0, u "([JIID)D"), (0, .methodref 20 21), (0, .class_ 22), (0, .nameAndType 23 24), (0, u "com/example/rankwright/rankwright/rank/Accumulator"), (0, u "siftDown"), (0, u "([DID)V"), (0, .methodref 8 26), (0, .nameAndType 27 28), (0, u "ordered"), (0, u "([DII)Z"), (0, .methodref 8 30), (0, .nameAndType 31 32), (0, u "kept"), (0, u "([DIID)Z"), (0, .methodref 8 34), (0, .nameAndType 35 36), (0, u "addPowers"), (0, u "([JJ)V"), (0, .methodref 8 38), (0, .nameAndType 39 40), (0, u "addIf"), (0, u "([JZJ)V"), (0, .methodref 8 42), (0, .nameAndType 43 44), (0, u "same"), (0, u "([J[J)Z"), (0, .long 7), (3, u "law"), (0, u "(IJIII)Z")] 7

def k1m0 : Method := { name := "<init>", desc := "()V", sig := { parameters := [], returnType := none }, accessFlags := 1, code := none }
def k1c1 : Code := { maxStack := 7, maxLocals := 19, code := code, exceptionTable := #[], attributes := #[] }
def k1m1 : Method := { name := "law", desc := "(IJIII)Z", sig := { parameters := [.int, .long, .int, .int, .int], returnType := some .boolean }, accessFlags := 9, code := some k1c1 }
def k1c2 : Code := { maxStack := 4, maxLocals := 3, code := method_3_code, exceptionTable := #[], attributes := #[] }
def k1m2 : Method := { name := "inc", desc := "(JI)J", sig := { parameters := [.long, .int], returnType := some .long }, accessFlags := 10, code := some k1c2 }
def k1c3 : Code := { maxStack := 2, maxLocals := 5, code := method_4_code, exceptionTable := #[], attributes := #[] }
def k1m3 : Method := { name := "slot", desc := "([JIID)D", sig := { parameters := [(.array .long), .int, .int, .double], returnType := some .double }, accessFlags := 10, code := some k1c3 }
def k1c4 : Code := { maxStack := 4, maxLocals := 3, code := method_5_code, exceptionTable := #[], attributes := #[] }
def k1m4 : Method := { name := "ordered", desc := "([DII)Z", sig := { parameters := [(.array .double), .int, .int], returnType := some .boolean }, accessFlags := 10, code := some k1c4 }
def k1c5 : Code := { maxStack := 4, maxLocals := 5, code := method_6_code, exceptionTable := #[], attributes := #[] }
def k1m5 : Method := { name := "kept", desc := "([DIID)Z", sig := { parameters := [(.array .double), .int, .int, .double], returnType := some .boolean }, accessFlags := 10, code := some k1c5 }
def k1c6 : Code := { maxStack := 3, maxLocals := 4, code := method_7_code, exceptionTable := #[], attributes := #[] }
def k1m6 : Method := { name := "addIf", desc := "([JZJ)V", sig := { parameters := [(.array .long), .boolean, .long], returnType := none }, accessFlags := 10, code := some k1c6 }
def k1c7 : Code := { maxStack := 6, maxLocals := 5, code := method_8_code, exceptionTable := #[], attributes := #[] }
def k1m7 : Method := { name := "addPowers", desc := "([JJ)V", sig := { parameters := [(.array .long), .long], returnType := none }, accessFlags := 10, code := some k1c7 }
def k1c8 : Code := { maxStack := 4, maxLocals := 2, code := method_9_code, exceptionTable := #[], attributes := #[] }
def k1m8 : Method := { name := "same", desc := "([J[J)Z", sig := { parameters := [(.array .long), (.array .long)], returnType := some .boolean }, accessFlags := 10, code := some k1c8 }
/-- com/example/rankwright/rankwright/rank/AccumulatorSiftDownPinLaw -/
def k1 : Class := { plain "com/example/rankwright/rankwright/rank/AccumulatorSiftDownPinLaw" (some 0) with
  accessFlags := 49
  interfaces := #[]
  cf := some (fileOf pool1 8 #[] #[{ accessFlags := 1, nameIndex := 5, descriptorIndex := 6, attributes := #[] }, { accessFlags := 9, nameIndex := 49, descriptorIndex := 50, attributes := #[] }, { accessFlags := 10, nameIndex := 11, descriptorIndex := 12, attributes := #[] }, { accessFlags := 10, nameIndex := 17, descriptorIndex := 18, attributes := #[] }, { accessFlags := 10, nameIndex := 27, descriptorIndex := 28, attributes := #[] }, { accessFlags := 10, nameIndex := 31, descriptorIndex := 32, attributes := #[] }, { accessFlags := 10, nameIndex := 39, descriptorIndex := 40, attributes := #[] }, { accessFlags := 10, nameIndex := 35, descriptorIndex := 36, attributes := #[] }, { accessFlags := 10, nameIndex := 43, descriptorIndex := 44, attributes := #[] }] 49 2 #[] #[])
  fields := #[]
  methods := #[k1m0, k1m1, k1m2, k1m3, k1m4, k1m5, k1m6, k1m7, k1m8]
  instanceTypes := #[]
  staticTypes := #[]
  resolved := Array.replicate 58 none
  statics := none }

def pool2 : Array CpInfo := pool [(2, .class_ 4), (1, u "com/example/rankwright/rankwright/rank/Accumulator"), (3, .class_ 10), (1, u "java/lang/Object"), (3, u "documentCount"), (0, u "I"), (6, u "floor"), (0, u "D"), (2, u "mostByPlace"), (7, u "touched"), (0, u "Lcom/example/rankwright/rankwright/rank/Touched;"), (6, u "byPlace"), (0, u "[D"), (2, u "dense"), (0, u "Z"), (16, u "touchedWords"), (0, u "[J"), (2, u "documentsTouched"), (4, u "byDocument"), (1, .class_ 77), (1, u "com/example/rankwright/rankwright/rank/Accumulator$Values"), (66, .class_ 146), (1, u "com/example/rankwright/rankwright/rank/Accumulator$Ids"), (117, u "([DID)V"), (2, u "siftDown"), (17, u "PRINTED_EQUAL"), (1, u "BELOW"), (1, u "TIED"), (1, u "ABOVE"), (1, u "DENSE_SHARE"), (1, u "SELECTION_BUCKETS"), (26, .class_ 323), (0, u "com/example/rankwright/rankwright/rank/Accumulator$Ids$1")] 31

def k2c0 : Code := { maxStack := 4, maxLocals := 6, code := prog_94_method_25_code, exceptionTable := #[], attributes := #[] }
def k2m0 : Method := { name := "siftDown", desc := "([DID)V", sig := { parameters := [(.array .double), .int, .double], returnType := none }, accessFlags := 8, code := some k2c0 }
/-- com/example/rankwright/rankwright/rank/Accumulator -/
def k2 : Class := { plain "com/example/rankwright/rankwright/rank/Accumulator" (some 0) with
  accessFlags := 49
  interfaces := #[]
  cf := some (fileOf pool2 2 #[.nestMembers #[75, 144, 322]] #[{ accessFlags := 8, nameIndex := 267, descriptorIndex := 264, attributes := #[] }] 49 8 #[] #[{ accessFlags := 24, nameIndex := 285, descriptorIndex := 23, attributes := #[] }, { accessFlags := 26, nameIndex := 287, descriptorIndex := 15, attributes := #[] }, { accessFlags := 26, nameIndex := 289, descriptorIndex := 15, attributes := #[] }, { accessFlags := 26, nameIndex := 291, descriptorIndex := 15, attributes := #[] }, { accessFlags := 26, nameIndex := 293, descriptorIndex := 15, attributes := #[] }, { accessFlags := 26, nameIndex := 295, descriptorIndex := 15, attributes := #[] }, { accessFlags := 18, nameIndex := 14, descriptorIndex := 15, attributes := #[] }, { accessFlags := 18, nameIndex := 22, descriptorIndex := 23, attributes := #[] }, { accessFlags := 18, nameIndex := 26, descriptorIndex := 15, attributes := #[] }, { accessFlags := 18, nameIndex := 34, descriptorIndex := 35, attributes := #[] }, { accessFlags := 2, nameIndex := 42, descriptorIndex := 43, attributes := #[] }, { accessFlags := 2, nameIndex := 46, descriptorIndex := 47, attributes := #[] }, { accessFlags := 2, nameIndex := 73, descriptorIndex := 43, attributes := #[] }, { accessFlags := 2, nameIndex := 64, descriptorIndex := 65, attributes := #[] }, { accessFlags := 2, nameIndex := 68, descriptorIndex := 15, attributes := #[] }])
  fields := #[{ name := "PRINTED_EQUAL", type := .double, accessFlags := 24, slot := 0, constantValue := 0 }, { name := "BELOW", type := .int, accessFlags := 26, slot := 1, constantValue := 0 }, { name := "TIED", type := .int, accessFlags := 26, slot := 2, constantValue := 0 }, { name := "ABOVE", type := .int, accessFlags := 26, slot := 3, constantValue := 0 }, { name := "DENSE_SHARE", type := .int, accessFlags := 26, slot := 4, constantValue := 0 }, { name := "SELECTION_BUCKETS", type := .int, accessFlags := 26, slot := 5, constantValue := 0 }, { name := "documentCount", type := .int, accessFlags := 18, slot := 0, constantValue := 0 }, { name := "floor", type := .double, accessFlags := 18, slot := 1, constantValue := 0 }, { name := "mostByPlace", type := .int, accessFlags := 18, slot := 2, constantValue := 0 }, { name := "touched", type := (.object "com/example/rankwright/rankwright/rank/Touched"), accessFlags := 18, slot := 3, constantValue := 0 }, { name := "byPlace", type := (.array .double), accessFlags := 2, slot := 4, constantValue := 0 }, { name := "dense", type := .boolean, accessFlags := 2, slot := 5, constantValue := 0 }, { name := "byDocument", type := (.array .double), accessFlags := 2, slot := 6, constantValue := 0 }, { name := "touchedWords", type := (.array .long), accessFlags := 2, slot := 7, constantValue := 0 }, { name := "documentsTouched", type := .int, accessFlags := 2, slot := 8, constantValue := 0 }]
  methods := #[k2m0]
  instanceTypes := #[.int, .double, .int, (.object "com/example/rankwright/rankwright/rank/Touched"), (.array .double), .boolean, (.array .double), (.array .long), .int]
  staticTypes := #[.double, .int, .int, .int, .int, .int]
  resolved := Array.replicate 355 none
  statics := none }

def pool3 : Array CpInfo := pool [(1, u "java/lang/Cloneable"), (0, .class_ 1), (0, u "java/lang/Object"), (0, .class_ 3)] 3

/-- java/lang/Cloneable -/
def k3 : Class := { plain "java/lang/Cloneable" (some 0) with
  accessFlags := 1537
  interfaces := #[]
  cf := some (fileOf pool3 2 #[] #[] 1537 4 #[] #[])
  fields := #[]
  methods := #[]
  instanceTypes := #[]
  staticTypes := #[]
  resolved := Array.replicate 8 none
  statics := none }

def pool4 : Array CpInfo := pool [(1, u "java/io/Serializable"), (0, .class_ 1), (0, u "java/lang/Object"), (0, .class_ 3)] 3

/-- java/io/Serializable -/
def k4 : Class := { plain "java/io/Serializable" (some 0) with
  accessFlags := 1537
  interfaces := #[]
  cf := some (fileOf pool4 2 #[] #[] 1537 4 #[] #[])
  fields := #[]
  methods := #[]
  instanceTypes := #[]
  staticTypes := #[]
  resolved := Array.replicate 8 none
  statics := none }

/-- the primitive byte -/
def k5 : Class := { plain "byte" none with kind := .primitive 'B', accessFlags := 0x411 }
/-- [B -/
def k6 : Class := { plain "[B" (some 0) with kind := .array 5 .byte, interfaces := #[3, 4], accessFlags := 1041 }

/-- the primitive double -/
def k7 : Class := { plain "double" none with kind := .primitive 'D', accessFlags := 0x411 }
/-- [D -/
def k8 : Class := { plain "[D" (some 0) with kind := .array 7 .double, interfaces := #[3, 4], accessFlags := 1041 }

/-- the primitive long -/
def k9 : Class := { plain "long" none with kind := .primitive 'J', accessFlags := 0x411 }
/-- [J -/
def k10 : Class := { plain "[J" (some 0) with kind := .array 9 .long, interfaces := #[3, 4], accessFlags := 1041 }

def heap : Heap := #[]
def classes : Array Class := #[k0, k1, k2, k3, k4, k5, k6, k7, k8, k9, k10]
def interned : List (Array UInt16 × Addr) := []
def slotsUsed : Nat := 0
def theMethod : MethodId := ⟨1, 1⟩
def args0 : Array Value := #[.int 3, .long 45, .int 6, .int 7, .int 8]
def aboutOver (below : List Frame) : State where
  vm := { classes := classes, interned := interned.toArray }
  heap := heap
  slotsUsed := slotsUsed
  threads := #[{ frames := .invoking theMethod args0 :: below }]
def below0 : List Frame := [.native { method := ⟨0, 0⟩, args := #[] }]
def about1 : State := aboutOver below0
def p0 : Program := .bare "" "" ""
def e0 : Env := launch0.env 0 0 0
theorem w_frames : about1.frames = Frame.invoking theMethod args0 :: below0 := rfl
set_option maxRecDepth 65536 in
theorem w_args : argsFit about1.vm theMethod args0 = true := by decide +kernel
set_option maxRecDepth 65536 in
theorem w_heap : heapFits about1 = true := by decide +kernel
set_option maxRecDepth 65536 in
theorem w_runnable : about1.curStatus? = some .runnable := by decide +kernel
set_option maxRecDepth 65536 in
theorem w_alone : about1.alone = true := by decide +kernel
set_option maxRecDepth 65536 in
theorem w_named : about1.methodNamed? x = some theMethod := by decide +kernel
set_option maxRecDepth 65536 in
theorem w_hears : about1.hears theMethod below0 = true := by decide +kernel
set_option maxRecDepth 65536 in
theorem w_ripe : about1.ripe theMethod args0 below0 = true := by decide +kernel
theorem w_running : about1.status = .running := rfl
set_option maxRecDepth 65536 in
theorem w_room : about1.hasRoom e0.platform room_1 = true :=
  launch0.hasRoom_least _ room_1 (by decide +kernel) (by decide +kernel) (by decide +kernel) (by decide +kernel) (by decide +kernel) (by decide +kernel)
theorem allAtoms_all (ts : List Jvm.Cond) (a : Array Jvm.Value) (st : Jvm.State) : (allAtoms ts).before a st = ts.all (fun c => c.before a st) := by
  induction ts with
  | nil => rfl
  | cons c t ih =>
    show (Jvm.Cond.and c (allAtoms t)).before a st = _
    rw [Jvm.Cond.before_and, ih, List.all_cons]
def words1 : List Jvm.Cond := Jvm.Cond.code x code maxLocals ret :: tables_1
/-- a 'code' word, met by the world's own term for the bytes: nothing is compared byte by byte -/
theorem code_word {y : MethodName} {bytes : ByteArray} {mx : Nat} {rt : Option FieldType} {a : Array Value} {s : State} {m : MethodId} {meth : Method} {c : Code} (h1 : s.methodNamed? y = some m) (h2 : s.vm.method? m = some meth) (h3 : meth.code = some c) (h4 : c.code = bytes)
    (h5 : (c.maxLocals == mx && c.exceptionTable.isEmpty && decide (c.maxStack ≤ mostOperands) && decide (meth.sig.returnType = rt) && !meth.locks && decide (parseMethodDescriptor y.desc = some meth.sig)) = true) : (Jvm.Cond.code y bytes mx rt).before a s = true := by
  simp only [Bool.and_eq_true, beq_iff_eq, Bool.not_eq_true', decide_eq_true_eq] at h5
  obtain ⟨⟨⟨⟨⟨g1, g2⟩, g3⟩, g4⟩, g5⟩, g6⟩ := h5
  simp [Cond.before, Cond.holds, Cond.value, h1, h2, h3, h4, g1, g2, g3, g4, g5, g6]
def isCode : Jvm.Cond → Bool
  | .code _ _ _ _ => true
  | _ => false
theorem all_split {L : List Jvm.Cond} {P : Jvm.Cond → Bool} (h1 : L.all (fun c => isCode c || P c) = true) (h2 : ∀ c ∈ L.filter isCode, P c = true) : L.all P = true := by
  refine List.all_eq_true.mpr fun c hc => ?_
  have h := List.all_eq_true.mp h1 c hc
  rcases Bool.eq_false_or_eq_true (isCode c) with hi | hi
  · exact h2 c (List.mem_filter.mpr ⟨hc, hi⟩)
  · simpa [hi] using h
set_option maxRecDepth 65536 in
theorem w_c0 : (Jvm.Cond.code x code maxLocals ret).before args0 about1 = true := code_word (m := ⟨1, 1⟩) (meth := k1m1) (c := k1c1) (by decide +kernel) rfl rfl rfl (by decide +kernel)
set_option maxRecDepth 65536 in
theorem w_c1 : (Jvm.Cond.code ({ cls := "com/example/rankwright/rankwright/rank/AccumulatorSiftDownPinLaw", name := "inc", desc := "(JI)J" } : Jvm.MethodName) method_3_code (3 : Nat) (Option.some Jvm.ClassFile.FieldType.long)).before args0 about1 = true := code_word (m := ⟨1, 2⟩) (meth := k1m2) (c := k1c2) (by decide +kernel) rfl rfl rfl (by decide +kernel)
set_option maxRecDepth 65536 in
theorem w_c2 : (Jvm.Cond.code ({ cls := "com/example/rankwright/rankwright/rank/AccumulatorSiftDownPinLaw", name := "slot", desc := "([JIID)D" } : Jvm.MethodName) method_4_code (5 : Nat) (Option.some Jvm.ClassFile.FieldType.double)).before args0 about1 = true := code_word (m := ⟨1, 3⟩) (meth := k1m3) (c := k1c3) (by decide +kernel) rfl rfl rfl (by decide +kernel)
set_option maxRecDepth 65536 in
theorem w_c3 : (Jvm.Cond.code ({ cls := "com/example/rankwright/rankwright/rank/Accumulator", name := "siftDown", desc := "([DID)V" } : Jvm.MethodName) prog_94_method_25_code (6 : Nat) (Option.none : Option Jvm.ClassFile.FieldType)).before args0 about1 = true := code_word (m := ⟨2, 0⟩) (meth := k2m0) (c := k2c0) (by decide +kernel) rfl rfl rfl (by decide +kernel)
set_option maxRecDepth 65536 in
theorem w_c4 : (Jvm.Cond.code ({ cls := "com/example/rankwright/rankwright/rank/AccumulatorSiftDownPinLaw", name := "ordered", desc := "([DII)Z" } : Jvm.MethodName) method_5_code (3 : Nat) (Option.some Jvm.ClassFile.FieldType.boolean)).before args0 about1 = true := code_word (m := ⟨1, 4⟩) (meth := k1m4) (c := k1c4) (by decide +kernel) rfl rfl rfl (by decide +kernel)
set_option maxRecDepth 65536 in
theorem w_c5 : (Jvm.Cond.code ({ cls := "com/example/rankwright/rankwright/rank/AccumulatorSiftDownPinLaw", name := "kept", desc := "([DIID)Z" } : Jvm.MethodName) method_6_code (5 : Nat) (Option.some Jvm.ClassFile.FieldType.boolean)).before args0 about1 = true := code_word (m := ⟨1, 5⟩) (meth := k1m5) (c := k1c5) (by decide +kernel) rfl rfl rfl (by decide +kernel)
set_option maxRecDepth 65536 in
theorem w_c6 : (Jvm.Cond.code ({ cls := "com/example/rankwright/rankwright/rank/AccumulatorSiftDownPinLaw", name := "addPowers", desc := "([JJ)V" } : Jvm.MethodName) method_8_code (5 : Nat) (Option.none : Option Jvm.ClassFile.FieldType)).before args0 about1 = true := code_word (m := ⟨1, 7⟩) (meth := k1m7) (c := k1c7) (by decide +kernel) rfl rfl rfl (by decide +kernel)
set_option maxRecDepth 65536 in
theorem w_c7 : (Jvm.Cond.code ({ cls := "com/example/rankwright/rankwright/rank/AccumulatorSiftDownPinLaw", name := "addIf", desc := "([JZJ)V" } : Jvm.MethodName) method_7_code (4 : Nat) (Option.none : Option Jvm.ClassFile.FieldType)).before args0 about1 = true := code_word (m := ⟨1, 6⟩) (meth := k1m6) (c := k1c6) (by decide +kernel) rfl rfl rfl (by decide +kernel)
set_option maxRecDepth 65536 in
theorem w_c8 : (Jvm.Cond.code ({ cls := "com/example/rankwright/rankwright/rank/AccumulatorSiftDownPinLaw", name := "same", desc := "([J[J)Z" } : Jvm.MethodName) method_9_code (2 : Nat) (Option.some Jvm.ClassFile.FieldType.boolean)).before args0 about1 = true := code_word (m := ⟨1, 8⟩) (meth := k1m8) (c := k1c8) (by decide +kernel) rfl rfl rfl (by decide +kernel)
def codes1 : List Jvm.Cond := [Jvm.Cond.code x code maxLocals ret, Jvm.Cond.code ({ cls := "com/example/rankwright/rankwright/rank/AccumulatorSiftDownPinLaw", name := "inc", desc := "(JI)J" } : Jvm.MethodName) method_3_code (3 : Nat) (Option.some Jvm.ClassFile.FieldType.long), Jvm.Cond.code ({ cls := "com/example/rankwright/rankwright/rank/AccumulatorSiftDownPinLaw", name := "slot", desc := "([JIID)D" } : Jvm.MethodName) method_4_code (5 : Nat) (Option.some Jvm.ClassFile.FieldType.double), Jvm.Cond.code ({ cls := "com/example/rankwright/rankwright/rank/Accumulator", name := "siftDown", desc := "([DID)V" } : Jvm.MethodName) prog_94_method_25_code (6 : Nat) (Option.none : Option Jvm.ClassFile.FieldType), Jvm.Cond.code ({ cls := "com/example/rankwright/rankwright/rank/AccumulatorSiftDownPinLaw", name := "ordered", desc := "([DII)Z" } : Jvm.MethodName) method_5_code (3 : Nat) (Option.some Jvm.ClassFile.FieldType.boolean), Jvm.Cond.code ({ cls := "com/example/rankwright/rankwright/rank/AccumulatorSiftDownPinLaw", name := "kept", desc := "([DIID)Z" } : Jvm.MethodName) method_6_code (5 : Nat) (Option.some Jvm.ClassFile.FieldType.boolean), Jvm.Cond.code ({ cls := "com/example/rankwright/rankwright/rank/AccumulatorSiftDownPinLaw", name := "addPowers", desc := "([JJ)V" } : Jvm.MethodName) method_8_code (5 : Nat) (Option.none : Option Jvm.ClassFile.FieldType), Jvm.Cond.code ({ cls := "com/example/rankwright/rankwright/rank/AccumulatorSiftDownPinLaw", name := "addIf", desc := "([JZJ)V" } : Jvm.MethodName) method_7_code (4 : Nat) (Option.none : Option Jvm.ClassFile.FieldType), Jvm.Cond.code ({ cls := "com/example/rankwright/rankwright/rank/AccumulatorSiftDownPinLaw", name := "same", desc := "([J[J)Z" } : Jvm.MethodName) method_9_code (2 : Nat) (Option.some Jvm.ClassFile.FieldType.boolean)]
set_option maxRecDepth 65536 in
theorem codes_eq : words1.filter isCode = codes1 := rfl
theorem w_codes : ∀ c ∈ words1.filter isCode, c.before args0 about1 = true := by
  rw [codes_eq]
  intro c hc
  simp only [codes1, List.mem_cons, List.not_mem_nil, or_false] at hc
  rcases hc with rfl | rfl | rfl | rfl | rfl | rfl | rfl | rfl | rfl
  · exact w_c0
  · exact w_c1
  · exact w_c2
  · exact w_c3
  · exact w_c4
  · exact w_c5
  · exact w_c6
  · exact w_c7
  · exact w_c8
set_option maxRecDepth 65536 in
theorem w_t1 : (words1.take 24).all (fun c => isCode c || c.before args0 about1) = true := by decide +kernel
set_option maxRecDepth 65536 in
theorem w_t2 : (words1.drop 24).all (fun c => isCode c || c.before args0 about1) = true := by decide +kernel
theorem w_tables : (allAtoms (Jvm.Cond.code x code maxLocals ret :: tables_1)).before args0 about1 = true := by
  rw [allAtoms_all]
  show words1.all (fun c => c.before args0 about1) = true
  refine all_split ?_ w_codes
  rw [← List.take_append_drop 24 words1, List.all_append, w_t1, w_t2]
  rfl
set_option maxRecDepth 65536 in
theorem w_case : (Jvm.Cond.and given_1 narrow_1).before args0 about1 = true := by decide +kernel
theorem w_applies : (headSpec (Jvm.Cond.code x code maxLocals ret :: tables_1) room_1).applies x e0.platform about1 = true :=
  (Spec.applies_iff w_frames).mpr ⟨w_running, w_runnable, w_alone, w_named, w_hears, w_ripe, w_room, w_tables⟩
theorem atStart : AtStart classFile x code maxLocals ret World_1 tables_1 room_1 Calls_1 rest_1 Pre_1 launch0 p0 e0 about1 theMethod args0 below0 :=
  ⟨lists_1, trivial, launch0.admits_env _ _ _, launch0.least_env, fairChoices_fair.cas, fairChoices_fair.clock, w_frames, w_args, w_heap, w_applies, trivial, trivial, w_case⟩
end start1
theorem witness_1 : WitnessClaimed_1 := ⟨start1.p0, start1.e0, start1.about1, start1.theMethod, start1.args0, start1.below0, start1.atStart⟩
end Jvm.Pilot.@@N@@
