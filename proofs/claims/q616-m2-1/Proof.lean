import JvmDerived
import JvmDerived.Pilot.@@N@@Statement
import JvmDerived.Pilot.@@N@@Code
set_option linter.unusedVariables false
set_option linter.unusedSimpArgs false
namespace Jvm.Pilot.@@N@@
open Jvm Jvm.ClassFile Sem Op Lib Jvm.Free Jvm.Stand Jvm.LawKit Jvm.RoadKit Bundle Jvm.Pilot.@@N@@.Jvm.D
section OwnKit
variable {p : Program} {l : Launch} {e : Env} {R : Room} {s : State} {m : MethodId} {args : Array Value} {below : List Frame} {meth : Method} {c : Code} {T : State} {locs : List Loc} {cells slots : Nat}
theorem own_retI (X : Stand p l e R s m args below meth c T locs cells slots) (hx : p.tables.exec = Jvm.exec) {pc : Nat} {Ls : Array Slot} {z : Int32} {rest : List Value} (hret : meth.sig.returnType = some .int) (hd : decode c.code pc = .ok (.ireturn, 1)) {fs : List Frame}
    (hl : ∀ (f : JFrame) (acts : List Action), f.method = m → f.locked = none → f.entered = [] → (doReturn e (T.setTop f) acts (some (.int z))).1 = T.setFrames fs) : Steps p.tables e below (T.setTop (mkF m pc Ls (.int z :: rest))) (T.setFrames fs) :=
  retOut X hx hret rfl (Or.inl ⟨rfl, Or.inl rfl, z, rfl⟩) hd hl
theorem own_retL (X : Stand p l e R s m args below meth c T locs cells slots) (hx : p.tables.exec = Jvm.exec) {pc : Nat} {Ls : Array Slot} {z : Int64} {rest : List Value} (hret : meth.sig.returnType = some .long) (hd : decode c.code pc = .ok (.lreturn, 1)) {fs : List Frame}
    (hl : ∀ (f : JFrame) (acts : List Action), f.method = m → f.locked = none → f.entered = [] → (doReturn e (T.setTop f) acts (some (.long z))).1 = T.setFrames fs) : Steps p.tables e below (T.setTop (mkF m pc Ls (.long z :: rest))) (T.setFrames fs) :=
  retOut X hx hret rfl (Or.inr (Or.inl ⟨rfl, rfl, z, rfl⟩)) hd hl
theorem own_retA (X : Stand p l e R s m args below meth c T locs cells slots) (hx : p.tables.exec = Jvm.exec) {pc : Nat} {Ls : Array Slot} {t : FieldType} {v : Value} {rest : List Value} (hret : meth.sig.returnType = some t) (ht : t.isReference = true) (hv : v.isRef = true) (hn : narrow t v = v) (hd : decode c.code pc = .ok (.areturn, 1)) {fs : List Frame}
    (hl : ∀ (f : JFrame) (acts : List Action), f.method = m → f.locked = none → f.entered = [] → (doReturn e (T.setTop f) acts (some v)).1 = T.setFrames fs) : Steps p.tables e below (T.setTop (mkF m pc Ls (v :: rest))) (T.setFrames fs) :=
  retOut X hx hret hn (Or.inr (Or.inr (Or.inr (Or.inr ⟨rfl, ht, hv⟩)))) hd hl
theorem own_ns_exa {Z : State} {h : Heap} {a : Addr} {C : String} (F : Exa Z h a C) : ∃ c : Cell, h[a]? = some c ∧ c.vm.isStatics = false := by
  obtain ⟨c, _, h1, -, -, h4, -⟩ := F; exact ⟨c, h1, h4⟩
theorem own_ns_arv {Z : State} {h : Heap} {a : Addr} {k : ClassId} {ty : FieldType} {z : Int32} {vs : List Value} {dv : Value} (F : Arv Z h a k ty z vs dv) : ∃ c : Cell, h[a]? = some c ∧ c.vm.isStatics = false := by
  obtain ⟨c, A, -⟩ := F; exact ⟨c, A.1, A.plain⟩
theorem own_sta_keep {Z : State} {h h' : Heap} {C n d : String} {v : Value} {ws : List Addr} (F : Sta Z h C n d v) (K : Keep h h' ws) (q : ∀ x ∈ ws, ∃ c : Cell, h[x]? = some c ∧ c.vm.isStatics = false) : Sta Z h' C n d v := by
  obtain ⟨cf, i, k, f, st, cell, h1, h2, h3, h4, h5, h6, h7⟩ := F
  refine ⟨cf, i, k, f, st, cell, h1, h2, h3, h4, K.2.1 st cell h5 (fun m => ?_), h6, h7⟩
  obtain ⟨c, e1, e2⟩ := q st m; cases h5.symm.trans e1; rw [e2] at h6; cases h6
/-- from A the run ends, and then P -/
def OwnGo (tb : Tables) (e : Env) (below : List Frame) (P : Outcome → State → Prop) (A : State) : Prop := ∃ s₂ o, Steps tb e below A s₂ ∧ s₂.status = .running ∧ Ended s₂ below o ∧ P o s₂
theorem OwnGo.of {tb : Tables} {P : Outcome → State → Prop} {A B : State} (k : ∀ t, Steps tb e below B t → Steps tb e below A t) (g : OwnGo tb e below P B) : OwnGo tb e below P A := by
  obtain ⟨s2, o, h1, h2⟩ := g; exact ⟨s2, o, k _ h1, h2⟩
abbrev OwnPre (R : Room) (as' : Array Value) (h : Heap) (rc rs : Nat) : Pt → Array Value → Prop := fun A a => a = as' ∧ A.U.heap = h ∧ A.cells + rc ≤ R.cells ∧ A.slots + rs ≤ R.slots
abbrev OwnPost (Q : Option Value → Heap → List Loc → Prop) (rc rs : Nat) : Pt → Array Value → Option Value → Pt → Prop := fun A _ v B => ∃ L, Q v B.U.heap L ∧ B.locs = A.locs ++ L ∧ B.cells = A.cells + rc ∧ B.slots = A.slots + rs
theorem own_callS (X : Stand p l e R s m args below meth c T locs cells slots) (hexec : p.tables.exec = Jvm.exec) {own : String} {index : Nat} {y : MethodName} {bytes : ByteArray} {maxL : Nat} {ret : Option FieldType}
    (hown : s.vm.findClass own = some m.cls) (hlink : (Jvm.Cond.methodLink own index y).before args s = true) (hstat : (Jvm.Cond.static y).before args s = true) (hinit : (Jvm.Cond.initialized y.cls).before args s = true)
    (hcode : (Jvm.Cond.code y bytes maxL ret).before args s = true) (hy : y.cls ≠ "java/lang/invoke/MethodHandle" ∧ y.cls ≠ "java/lang/invoke/VarHandle")
    {W : Nat} {as' : Array Value} {h : Heap} {Q : Option Value → Heap → List Loc → Prop} {rc rs : Nat} (hK : Back l R p e below s args y 3 W (OwnPre R as' h rc rs) (OwnPost Q rc rs))
    {g : JFrame} (hg : g.method = m) (hsize : g.locals.size = c.maxLocals) {argsL rest : List Value} (hlen : ∀ sig, parseMethodDescriptor y.desc = some sig → argsL.length = sig.parameters.length)
    (hstack : g.stack = argsL.reverse ++ rest) (hW : 2 * g.monitorRoom + (rest.map fun v => v.category).sum ≤ W) (hdg : decode c.code g.pc = .ok (.invokestatic index, 3))
    (ha : argsL.toArray = as') (eT : T.heap = h) (hc : cells + rc ≤ R.cells) (hs : slots + rs ≤ R.slots) :
    ∃ (T' : State) (L : List Loc) (v : Option Value), Stand p l e R s m args below meth c T' (locs ++ L) (cells + rc) (slots + rs) ∧ Q v T'.heap L ∧ ∀ target, Steps p.tables e below (T'.setTop { g with pc := g.pc + 3, stack := v.toList ++ rest }) target → Steps p.tables e below (T.setTop g) target := by
  obtain ⟨v, _, ⟨T1, L1, k1, n1⟩, -, X1, ⟨Lc, hQ, l1, y1, z1⟩, st⟩ := Jvm.LawKit.callS X hexec hown hlink hstat hinit hcode hy hK hg hsize hlen hstack hW hdg (fun _ _ => ⟨ha, eT, hc, hs⟩)
  dsimp only [Pt.U, Pt.locs, Pt.cells, Pt.slots] at X1 l1 y1 z1 st hQ
  subst l1 y1 z1
  exact ⟨T1, Lc, v, X1, hQ, st⟩
theorem own_callI (X : Stand p l e R s m args below meth c T locs cells slots) (hexec : p.tables.exec = Jvm.exec) {own : String} {index : Nat} {y : MethodName} (hy1 : y.name = "<init>")
    (hown : s.vm.findClass own = some m.cls) (hlink : (Jvm.Cond.methodLink own index y).before args s = true) (hinst : (Jvm.Cond.instanceMethod y).before args s = true)
    {bytes : ByteArray} {maxL : Nat} (hcode : (Jvm.Cond.code y bytes maxL none).before args s = true) (hy : y.cls ≠ "java/lang/invoke/MethodHandle" ∧ y.cls ≠ "java/lang/invoke/VarHandle")
    {W : Nat} {as' : Array Value} {h : Heap} {Q : Option Value → Heap → List Loc → Prop} {rc rs : Nat} (hK : Back l R p e below s args y 3 W (OwnPre R as' h rc rs) (OwnPost Q rc rs))
    {g : JFrame} (hg : g.method = m) (hsize : g.locals.size = c.maxLocals) {a : Addr} {argsL rest : List Value}
    (hlen : ∀ sig, parseMethodDescriptor y.desc = some sig → argsL.length = sig.parameters.length) (hstack : g.stack = argsL.reverse ++ .ref a :: rest) (hW : 2 * g.monitorRoom + (rest.map fun v => v.category).sum ≤ W)
    (hdg : decode c.code g.pc = .ok (.invokespecial index, 3)) (ha : (Value.ref a :: argsL).toArray = as') (eT : T.heap = h) (hc : cells + rc ≤ R.cells) (hs : slots + rs ≤ R.slots) :
    ∃ (T' : State) (L : List Loc) (v : Option Value), Stand p l e R s m args below meth c T' (locs ++ L) (cells + rc) (slots + rs) ∧ Q v T'.heap L ∧ ∀ target, Steps p.tables e below (T'.setTop { g with pc := g.pc + 3, stack := v.toList ++ rest }) target → Steps p.tables e below (T.setTop g) target := by
  obtain ⟨v, _, ⟨T1, L1, k1, n1⟩, -, X1, ⟨Lc, hQ, l1, y1, z1⟩, st⟩ := X.specialBack hexec hy1 hown hlink hinst hcode hy hK hg hsize (Steps.refl _) hlen hstack hW hdg (fun _ _ => ⟨ha, eT, hc, hs⟩)
  dsimp only [Pt.U, Pt.locs, Pt.cells, Pt.slots] at X1 l1 y1 z1 st hQ
  subst l1 y1 z1
  exact ⟨T1, Lc, v, X1, hQ, fun t k => st.trans k⟩
theorem own_callV (X : Stand p l e R s m args below meth c T locs cells slots) (hexec : p.tables.exec = Jvm.exec) {own C : String} {index : Nat} {y z : MethodName}
    (hown : s.vm.findClass own = some m.cls) (hlink : (Jvm.Cond.methodLink own index y).before args s = true) (hdecl : (Jvm.Cond.declares y).before args s = true) (hnf : NotFace s y)
    (hsel : (Jvm.Cond.selects C y z).before args s = true) (hinst : (Jvm.Cond.instanceMethod z).before args s = true) (hy : y.cls ≠ "java/lang/invoke/MethodHandle" ∧ y.cls ≠ "java/lang/invoke/VarHandle")
    {W : Nat} {as' : Array Value} {h : Heap} {Q : Option Value → Heap → List Loc → Prop} {rc rs : Nat} (hK : Back l R p e below s args z 3 W (OwnPre R as' h rc rs) (OwnPost Q rc rs))
    {b : Addr} {cB : ClassId} (hcB : s.vm.findClass C = some cB) (hrecv : IsOf cB T b)
    {g : JFrame} (hg : g.method = m) (hsize : g.locals.size = c.maxLocals) {argsL rest : List Value}
    (hlen : ∀ sig, parseMethodDescriptor y.desc = some sig → argsL.length = sig.parameters.length) (hstack : g.stack = argsL.reverse ++ .ref b :: rest) (hW : 2 * g.monitorRoom + (rest.map fun v => v.category).sum ≤ W)
    (hdg : decode c.code g.pc = .ok (.invokevirtual index, 3)) (ha : (Value.ref b :: argsL).toArray = as') (eT : T.heap = h) (hc : cells + rc ≤ R.cells) (hs : slots + rs ≤ R.slots) :
    ∃ (T' : State) (L : List Loc) (v : Option Value), Stand p l e R s m args below meth c T' (locs ++ L) (cells + rc) (slots + rs) ∧ Q v T'.heap L ∧ ∀ target, Steps p.tables e below (T'.setTop { g with pc := g.pc + 3, stack := v.toList ++ rest }) target → Steps p.tables e below (T.setTop g) target := by
  obtain ⟨v, _, ⟨T1, L1, k1, n1⟩, -, X1, ⟨Lc, hQ, l1, y1, z1⟩, st⟩ := X.virtualBack hexec hown hlink hdecl hnf hsel hinst hy hK hcB hrecv hg hsize (Steps.refl _) hlen hstack hW hdg (fun _ _ => ⟨ha, eT, hc, hs⟩)
  dsimp only [Pt.U, Pt.locs, Pt.cells, Pt.slots] at X1 l1 y1 z1 st hQ
  subst l1 y1 z1
  exact ⟨T1, Lc, v, X1, hQ, fun t k => st.trans k⟩
end OwnKit

def own_arr (F : Nat → Int32) : List Value := (List.range 13).map (fun j => Value.int (F j))
def own_upd (F : Nat → Int32) (i : Nat) (v : Int32) : Nat → Int32 := fun j => if j = i then v else F j
theorem own_arr_len (F : Nat → Int32) : (own_arr F).length = 13 := by simp [own_arr]
theorem own_arr_set (F : Nat → Int32) (i : Nat) (v : Int32) : (own_arr F).set i (.int v) = own_arr (own_upd F i v) := by
  apply List.ext_getElem
  · simp [own_arr]
  · intro j h1 h2
    simp only [own_arr, own_upd, List.getElem_set, List.getElem_map, List.getElem_range]
    by_cases e : i = j
    · simp [e]
    · simp [e, Ne.symm e, fun q : j = i => e q.symm]
theorem own_arr_get (F : Nat → Int32) (i : Nat) (d : Value) (h : i < 13) : (own_arr F).getD i d = .int (F i) := by
  simp [own_arr, List.getD, h]
def own_byte (x : Nat) : Int32 := (Int32.ofNat x).toInt8.toInt32
def OwnSpec (v i : Nat) (F G : Nat → Int32) (n : Nat) : Prop := 1 ≤ n ∧ v < 128 ^ n ∧ (n = 1 ∨ 128 ^ (n - 1) ≤ v) ∧ (∀ j, (j < i ∨ i + n ≤ j) → G j = F j) ∧ ∀ t, t < n → G (i + t) = own_byte (v / 128 ^ t % 128 + if t + 1 < n then 128 else 0)
theorem own_spec_last {v i : Nat} {F : Nat → Int32} {b : Int32} (h : v < 128) (hb : b = own_byte v) : OwnSpec v i F (own_upd F i b) 1 := by
  refine ⟨Nat.le_refl _, by simpa using h, Or.inl rfl, fun j hj => ?_, fun t ht => ?_⟩
  · have : j ≠ i := by omega
    simp [own_upd, this]
  · have : t = 0 := by omega
    subst this
    simp [own_upd, hb, Nat.mod_eq_of_lt h]
theorem own_spec_step {v i : Nat} {F G : Nat → Int32} {b : Int32} {n : Nat} (h : 128 ≤ v) (hb : b = own_byte (v % 128 + 128)) (S : OwnSpec (v / 128) (i + 1) (own_upd F i b) G n) : OwnSpec v i F G (n + 1) := by
  obtain ⟨s1, s2, s3, s4, s5⟩ := S
  refine ⟨by omega, ?_, Or.inr ?_, fun j hj => ?_, fun t ht => ?_⟩
  · rw [Nat.pow_succ]; have := Nat.div_lt_iff_lt_mul (k := 128) (x := v) (y := 128 ^ n) (by decide); exact this.mp s2
  · show 128 ^ n ≤ v
    rcases s3 with e | e
    · subst e; simpa using h
    · have : n = n - 1 + 1 := by omega
      rw [this, Nat.pow_succ]
      exact (Nat.le_div_iff_mul_le (by decide)).mp e
  · rw [s4 j (by omega)]
    have : j ≠ i := by omega
    simp [own_upd, this]
  · cases t with
    | zero =>
      rw [s4 (i + 0) (by omega)]
      have : 0 + 1 < n + 1 := by omega
      simp [own_upd, hb, this]
    | succ t =>
      have := s5 t (by omega)
      rw [show i + (t + 1) = i + 1 + t from by omega, this]
      have e1 : v / 128 / 128 ^ t = v / 128 ^ (t + 1) := by rw [Nat.div_div_eq_div_mul, Nat.pow_succ, Nat.mul_comm]
      rw [e1]
      have : (t + 1 < n) ↔ (t + 1 + 1 < n + 1) := by omega
      simp only [this]
theorem own_n9 {v i n : Nat} {F G : Nat → Int32} (hv : v < 9223372036854775808) (S : OwnSpec v i F G n) : n ≤ 9 := by
  obtain ⟨s1, s2, s3, -⟩ := S
  rcases s3 with e | e
  · omega
  · apply Nat.le_of_not_lt
    intro q
    have : 128 ^ 9 ≤ 128 ^ (n - 1) := Nat.pow_le_pow_right (by decide) (by omega)
    have h9 : (128 : Nat) ^ 9 = 9223372036854775808 := by decide
    omega
theorem OwnGo.mono {tb : Tables} {e : Env} {below : List Frame} {P P' : Outcome → State → Prop} {A : State} (g : OwnGo tb e below P A) (h : ∀ o s, P o s → P' o s) : OwnGo tb e below P' A := by
  obtain ⟨s2, o, h1, h2, h3, h4⟩ := g; exact ⟨s2, o, h1, h2, h3, h _ _ h4⟩
theorem own_pl (v : Int64) (h : 0 ≤ v.toInt) : ((v.toUInt64 >>> ((7 : Int32) &&& 0x3f).toInt64.toUInt64).toInt64).toInt = v.toInt / 128 := by
  have h1 := c_lushr v 7 7 (by decide) (by decide)
  have r := rng64 v
  omega
theorem own_lt128 (v : Int64) : lcmpW v (128 : Int64) < (0 : Int32) ↔ v.toInt < 128 := by
  rw [lw_lt, Int64.lt_iff_toInt_lt, show (128 : Int64).toInt = 128 from by decide]
theorem own_bt (x : Int32) (n : Nat) (hn : n < 256) (h : (x.toInt - n) % 256 = 0) : x.toInt8.toInt32 = own_byte n := by
  have h1 := c_i2b x
  have h2 := c_i2b (Int32.ofNat n)
  have h3 : (Int32.ofNat n).toInt = n := Int32.toInt_ofNat_of_lt (by omega)
  apply Int32.toInt_inj.mp; unfold own_byte; omega
theorem own_b_more (v : Int64) (h : 0 ≤ v.toInt) : ((((v &&& (127 : Int64)) ||| (128 : Int64)).toInt32).toInt8.toInt32).toInt8.toInt32 = own_byte (v.toInt.toNat % 128 + 128) := by
  have h1 := c_maskL v 127 7 (by decide) (by decide)
  have h2 := c_orL' (v &&& 127) 128 7 (by decide) 128 (by decide) (by decide) (by omega) (by omega)
  have h3 := c_l2i ((v &&& (127 : Int64)) ||| (128 : Int64))
  have h4 := c_i2b (((v &&& (127 : Int64)) ||| (128 : Int64)).toInt32)
  rw [show (128 : Int64).toInt = 128 from by decide] at h2
  refine own_bt _ _ (by omega) ?_
  omega
theorem own_b_last (v : Int64) (h : 0 ≤ v.toInt) (hv : v.toInt < 128) : ((v.toInt32).toInt8.toInt32).toInt8.toInt32 = own_byte v.toInt.toNat := by
  have h3 := c_l2i v
  have h4 := c_i2b v.toInt32
  refine own_bt _ _ (by omega) ?_
  omega
theorem own_i1 (i : Int32) (h : 0 ≤ i.toInt ∧ i.toInt < 13) : (i + 1).toInt = i.toInt + 1 ∧ (i + 1).toNatClampNeg = i.toNatClampNeg + 1 := by
  have h1 := c_iadd i 1
  have r := rng32 (i + 1)
  rw [show (1 : Int32).toInt = 1 from by decide] at h1
  have e : (i + 1).toInt = i.toInt + 1 := by omega
  refine ⟨e, ?_⟩
  show (i + 1).toInt.toNat = i.toInt.toNat + 1
  omega
theorem own_in13 (i : Int32) (h : 0 ≤ i.toInt ∧ i.toInt < 13) : ¬ i < 0 ∧ i < 13 := by
  rw [Int32.lt_iff_toInt_lt, Int32.lt_iff_toInt_lt, show (0 : Int32).toInt = 0 from by decide, show (13 : Int32).toInt = 13 from by decide]; omega
theorem own_ofnat (i : Int32) (n : Nat) (h : 0 ≤ i.toInt ∧ i.toInt < 13) (hn : n ≤ 100) : i + 1 + Int32.ofNat n = i + Int32.ofNat (n + 1) := by
  have e1 : (Int32.ofNat n).toInt = n := Int32.toInt_ofNat_of_lt (by omega)
  have e2 : (Int32.ofNat (n + 1)).toInt = (n + 1 : Nat) := Int32.toInt_ofNat_of_lt (by omega)
  have h1 := c_iadd (i + 1) (Int32.ofNat n)
  have h2 := c_iadd i (Int32.ofNat (n + 1))
  have h3 := (own_i1 i h).1
  have r1 := rng32 (i + 1 + Int32.ofNat n)
  have r2 := rng32 (i + Int32.ofNat (n + 1))
  apply Int32.toInt_inj.mp; omega
def own_more (q0 : Int64) (p1 : Int32) : Int32 := (if (lcmpW ((q0.toUInt64 >>> (((7 : Int32) * p1) &&& 0x3f).toInt64.toUInt64).toInt64) (0 : Int64)) = (0 : Int32) then (0 : Int32) else (1 : Int32))
theorem pn_0 : plainName "com/example/rankwright/rankwright/index/ByteWriterWriteNumberPinLaw" = true := by first | (simp [plainName, overriddenIn]; done) | decide +kernel
theorem d1_0 : decode method_3_code 0 = .ok (.lload_n 0, 1) := by decide +kernel
theorem d1_1 : decode method_3_code 1 = .ok (.bipush 7, 2) := by decide +kernel
theorem d1_3 : decode method_3_code 3 = .ok (.iload_n 2, 1) := by decide +kernel
theorem d1_4 : decode method_3_code 4 = .ok (.imul, 1) := by decide +kernel
theorem d1_5 : decode method_3_code 5 = .ok (.lushr, 1) := by decide +kernel
theorem d1_6 : decode method_3_code 6 = .ok (.lconst 0, 1) := by decide +kernel
theorem d1_7 : decode method_3_code 7 = .ok (.lcmp, 1) := by decide +kernel
theorem d1_8 : decode method_3_code 8 = .ok (.ifCond .eq 7, 3) := by decide +kernel
theorem d1_11 : decode method_3_code 11 = .ok (.iconst 1, 1) := by decide +kernel
theorem d1_12 : decode method_3_code 12 = .ok (.goto 4, 3) := by decide +kernel
theorem d1_15 : decode method_3_code 15 = .ok (.iconst 0, 1) := by decide +kernel
theorem d1_16 : decode method_3_code 16 = .ok (.ireturn, 1) := by decide +kernel
theorem ef_rm1 (m : MethodId) (q0 : Int64) (p1 : Int32) : entryFrame m #[(.long q0), (.int p1)] 3 = mkF m 0 #[.val (.long q0), .second, .val (.int p1)] [] := by first | (simp [entryFrame, mkF, argsToLocals, Value.category]; done) | rfl
def Qrm1 (Z : State) (q0 : Int64) (p1 : Int32) (h0 : Heap) (n0 : Nat) (v : Option Value) (h : Heap) (L : List Loc) : Prop := v = some (.int (own_more q0 p1)) ∧ Fr n0 L ∧ h = h0
set_option maxRecDepth 65536 in
set_option maxHeartbeats 40000000 in
theorem rm1 (l : Launch) (Z : State) (aw : Array Value) (hw : ∀ d ∈ tables_1, d.before aw Z = true) (ws : List Jvm.Cond) (q0 : Int64) (p1 : Int32) (h0 : Heap) (n0 : Nat) (Z0 : n0 ≤ h0.size) :
    MetFree l (⟨"com/example/rankwright/rankwright/index/ByteWriterWriteNumberPinLaw", "more", "(JI)I"⟩ : MethodName) (head1 (Jvm.Cond.code (⟨"com/example/rankwright/rankwright/index/ByteWriterWriteNumberPinLaw", "more", "(JI)I"⟩ : MethodName) method_3_code 3 (some .int) :: ws) ({ frames := 0, cells := 0, slots := 0, locals := 0 } : Room)) (fun a U => a = #[(.long q0), (.int p1)] ∧ Z.Warmed39 U.vm ∧ U.heap = h0) (fun _ _ _ _ _ => True) (fun _ U o U' => ∃ v L, o = .returned v ∧ Qrm1 Z q0 p1 h0 n0 v U'.heap L ∧ FrameEnd U o U' L ({ frames := 0, cells := 0, slots := 0, locals := 0 } : Room).cells ({ frames := 0, cells := 0, slots := 0, locals := 0 } : Room).slots) := by
  refine MetFree.of_bodySF (plainFor_of_name pn_0) hisR ?_
  intro p e s m args below meth c s₁ Bd hml0 hP hK
  obtain ⟨rfl, hZ, hh⟩ := hP
  have hx := Bd.exec
  have hby := Bd.bytes
  have hml : c.maxLocals = 3 := hml0
  have hown : s.vm.findClass "com/example/rankwright/rankwright/index/ByteWriterWriteNumberPinLaw" = some m.cls := findClass_of_methodNamed Bd.named
  have hnm := (name_of_methodNamed Bd.named Bd.method).1
  have X0 : Stand p l e ({ frames := 0, cells := 0, slots := 0, locals := 0 } : Room) s m #[(.long q0), (.int p1)] below meth c s₁ [] 0 0 := Stand.of_body Bd
  have e0 : s₁.heap = h0 := by rw [← hh, Bd.state]; rfl
  have N0 := Fr.nil n0
  have hlk := Bd.notSynchronized
  show OwnGo p.tables e below _ (s₁.setTop (entryFrame m #[(.long q0), (.int p1)] 3))
  rw [ef_rm1 m q0 p1]
  show OwnGo p.tables e below _ (s₁.setTop (mkF m 0 #[.val (.long q0), .second, .val (.int p1)] []))
  refine OwnGo.of (A := s₁.setTop (mkF m 0 #[.val (.long q0), .second, .val (.int p1)] [])) (B := s₁.setTop (mkF m 8 #[.val (.long q0), .second, .val (.int p1)] [(.int (lcmpW ((q0.toUInt64 >>> (((7 : Int32) * p1) &&& 0x3f).toInt64.toUInt64).toInt64) (0 : Int64)))])) (fun t k => ?_) ?_
  · show Steps p.tables e below (s₁.setTop (mkF m 0 #[.val (.long q0), .second, .val (.int p1)] [])) t
    refine XS.lloadN X0.here hx rfl (hb hby d1_0) rfl ?_
    show Steps p.tables e below (s₁.setTop (mkF m 1 #[.val (.long q0), .second, .val (.int p1)] [(.long q0)])) t
    refine XS.bipush X0.here hx rfl (hb hby d1_1) ?_
    show Steps p.tables e below (s₁.setTop (mkF m 3 #[.val (.long q0), .second, .val (.int p1)] [(.int (7 : Int32)), (.long q0)])) t
    refine XS.iloadN X0.here hx rfl (hb hby d1_3) rfl ?_
    show Steps p.tables e below (s₁.setTop (mkF m 4 #[.val (.long q0), .second, .val (.int p1)] [(.int p1), (.int (7 : Int32)), (.long q0)])) t
    refine XS.imul X0.here hx rfl (hb hby d1_4) rfl ?_
    show Steps p.tables e below (s₁.setTop (mkF m 5 #[.val (.long q0), .second, .val (.int p1)] [(.int ((7 : Int32) * p1)), (.long q0)])) t
    refine XS.lushr X0.here hx rfl (hb hby d1_5) rfl ?_
    show Steps p.tables e below (s₁.setTop (mkF m 6 #[.val (.long q0), .second, .val (.int p1)] [(.long ((q0.toUInt64 >>> (((7 : Int32) * p1) &&& 0x3f).toInt64.toUInt64).toInt64))])) t
    refine XS.lconst X0.here hx rfl (hb hby d1_6) ?_
    show Steps p.tables e below (s₁.setTop (mkF m 7 #[.val (.long q0), .second, .val (.int p1)] [(.long (0 : Int64)), (.long ((q0.toUInt64 >>> (((7 : Int32) * p1) &&& 0x3f).toInt64.toUInt64).toInt64))])) t
    refine XS.lcmp X0.here hx rfl (hb hby d1_7) rfl ?_
    exact k
  by_cases hc1 : (lcmpW ((q0.toUInt64 >>> (((7 : Int32) * p1) &&& 0x3f).toInt64.toUInt64).toInt64) (0 : Int64)) = (0 : Int32)
  · refine OwnGo.of (A := s₁.setTop (mkF m 8 #[.val (.long q0), .second, .val (.int p1)] [(.int (lcmpW ((q0.toUInt64 >>> (((7 : Int32) * p1) &&& 0x3f).toInt64.toUInt64).toInt64) (0 : Int64)))])) (B := s₁.setTop (mkF m 16 #[.val (.long q0), .second, .val (.int p1)] [(.int (0 : Int32))])) (fun t k => ?_) ?_
    · show Steps p.tables e below (s₁.setTop (mkF m 8 #[.val (.long q0), .second, .val (.int p1)] [(.int (lcmpW ((q0.toUInt64 >>> (((7 : Int32) * p1) &&& 0x3f).toInt64.toUInt64).toInt64) (0 : Int64)))])) t
      refine XS.ifYes X0.here hx rfl (pc0 := 8) (pc' := 15) rfl (hb hby d1_8) rfl ((if0 _ _).trans (teq hc1).1) (by decide) (by decide) ?_
      show Steps p.tables e below (s₁.setTop (mkF m 15 #[.val (.long q0), .second, .val (.int p1)] [])) t
      refine XS.iconst X0.here hx rfl (hb hby d1_15) ?_
      exact k
    obtain ⟨fs, hr, hrun, hended, hW, hsame⟩ := X0.leave (v := some (.int (0 : Int32))) (fun h => by rw [Bd.returns] at h; cases h) hlk
    refine ⟨_, _, ?_, hrun, hended, _, _, rfl, ?_, ⟨_, rfl⟩, hW, hsame.mono (by decide) (by decide)⟩
    · show Steps p.tables e below (s₁.setTop (mkF m 16 #[.val (.long q0), .second, .val (.int p1)] [(.int (0 : Int32))])) _
      exact own_retI X0 hx Bd.returns (hb hby d1_16) hr
    · show Qrm1 Z q0 p1 h0 n0 _ (s₁.setFrames fs).heap _
      rw [show (s₁.setFrames fs).heap = h0 from e0]
      exact ⟨congrArg (fun z => some (Value.int z)) (by rw [own_more, if_pos hc1]; try rfl), N0, rfl⟩
  · refine OwnGo.of (A := s₁.setTop (mkF m 8 #[.val (.long q0), .second, .val (.int p1)] [(.int (lcmpW ((q0.toUInt64 >>> (((7 : Int32) * p1) &&& 0x3f).toInt64.toUInt64).toInt64) (0 : Int64)))])) (B := s₁.setTop (mkF m 16 #[.val (.long q0), .second, .val (.int p1)] [(.int (1 : Int32))])) (fun t k => ?_) ?_
    · show Steps p.tables e below (s₁.setTop (mkF m 8 #[.val (.long q0), .second, .val (.int p1)] [(.int (lcmpW ((q0.toUInt64 >>> (((7 : Int32) * p1) &&& 0x3f).toInt64.toUInt64).toInt64) (0 : Int64)))])) t
      refine XS.ifNo X0.here hx rfl (hb hby d1_8) rfl ((if0 _ _).trans (feq hc1).1) ?_
      show Steps p.tables e below (s₁.setTop (mkF m 11 #[.val (.long q0), .second, .val (.int p1)] [])) t
      refine XS.iconst X0.here hx rfl (hb hby d1_11) ?_
      show Steps p.tables e below (s₁.setTop (mkF m 12 #[.val (.long q0), .second, .val (.int p1)] [(.int (1 : Int32))])) t
      refine XS.goto X0.here hx rfl (pc0 := 12) (pc' := 16) rfl (hb hby d1_12) (by decide) (by decide) ?_
      exact k
    obtain ⟨fs, hr, hrun, hended, hW, hsame⟩ := X0.leave (v := some (.int (1 : Int32))) (fun h => by rw [Bd.returns] at h; cases h) hlk
    refine ⟨_, _, ?_, hrun, hended, _, _, rfl, ?_, ⟨_, rfl⟩, hW, hsame.mono (by decide) (by decide)⟩
    · show Steps p.tables e below (s₁.setTop (mkF m 16 #[.val (.long q0), .second, .val (.int p1)] [(.int (1 : Int32))])) _
      exact own_retI X0 hx Bd.returns (hb hby d1_16) hr
    · show Qrm1 Z q0 p1 h0 n0 _ (s₁.setFrames fs).heap _
      rw [show (s₁.setFrames fs).heap = h0 from e0]
      exact ⟨congrArg (fun z => some (Value.int z)) (by rw [own_more, if_neg hc1]; try rfl), N0, rfl⟩
theorem pn_1 : plainName "com/example/rankwright/rankwright/index/ByteWriter" = true := by first | (simp [plainName, overriddenIn]; done) | decide +kernel
theorem d2_0 : decode prog_40_method_6_code 0 = .ok (.lload_n 0, 1) := by decide +kernel
theorem d2_1 : decode prog_40_method_6_code 1 = .ok (.lstore 4, 2) := by decide +kernel
theorem d2_3 : decode prog_40_method_6_code 3 = .ok (.iload_n 3, 1) := by decide +kernel
theorem d2_4 : decode prog_40_method_6_code 4 = .ok (.istore 6, 2) := by decide +kernel
theorem d2_6 : decode prog_40_method_6_code 6 = .ok (.lload 4, 2) := by decide +kernel
theorem d2_8 : decode prog_40_method_6_code 8 = .ok (.ldc2_w 25, 3) := by decide +kernel
theorem d2_11 : decode prog_40_method_6_code 11 = .ok (.lcmp, 1) := by decide +kernel
theorem d2_12 : decode prog_40_method_6_code 12 = .ok (.ifCond .lt 32, 3) := by decide +kernel
theorem d2_15 : decode prog_40_method_6_code 15 = .ok (.aload_n 2, 1) := by decide +kernel
theorem d2_16 : decode prog_40_method_6_code 16 = .ok (.iload 6, 2) := by decide +kernel
theorem d2_18 : decode prog_40_method_6_code 18 = .ok (.iinc 6 1, 3) := by decide +kernel
theorem d2_21 : decode prog_40_method_6_code 21 = .ok (.lload 4, 2) := by decide +kernel
theorem d2_23 : decode prog_40_method_6_code 23 = .ok (.ldc2_w 27, 3) := by decide +kernel
theorem d2_26 : decode prog_40_method_6_code 26 = .ok (.land, 1) := by decide +kernel
theorem d2_27 : decode prog_40_method_6_code 27 = .ok (.ldc2_w 25, 3) := by decide +kernel
theorem d2_30 : decode prog_40_method_6_code 30 = .ok (.lor, 1) := by decide +kernel
theorem d2_31 : decode prog_40_method_6_code 31 = .ok (.l2i, 1) := by decide +kernel
theorem d2_32 : decode prog_40_method_6_code 32 = .ok (.i2b, 1) := by decide +kernel
theorem d2_33 : decode prog_40_method_6_code 33 = .ok (.bastore, 1) := by decide +kernel
theorem d2_34 : decode prog_40_method_6_code 34 = .ok (.lload 4, 2) := by decide +kernel
theorem d2_36 : decode prog_40_method_6_code 36 = .ok (.bipush 7, 2) := by decide +kernel
theorem d2_38 : decode prog_40_method_6_code 38 = .ok (.lushr, 1) := by decide +kernel
theorem d2_39 : decode prog_40_method_6_code 39 = .ok (.lstore 4, 2) := by decide +kernel
theorem d2_41 : decode prog_40_method_6_code 41 = .ok (.goto (-35), 3) := by decide +kernel
theorem d2_44 : decode prog_40_method_6_code 44 = .ok (.aload_n 2, 1) := by decide +kernel
theorem d2_45 : decode prog_40_method_6_code 45 = .ok (.iload 6, 2) := by decide +kernel
theorem d2_47 : decode prog_40_method_6_code 47 = .ok (.iinc 6 1, 3) := by decide +kernel
theorem d2_50 : decode prog_40_method_6_code 50 = .ok (.lload 4, 2) := by decide +kernel
theorem d2_52 : decode prog_40_method_6_code 52 = .ok (.l2i, 1) := by decide +kernel
theorem d2_53 : decode prog_40_method_6_code 53 = .ok (.i2b, 1) := by decide +kernel
theorem d2_54 : decode prog_40_method_6_code 54 = .ok (.bastore, 1) := by decide +kernel
theorem d2_55 : decode prog_40_method_6_code 55 = .ok (.iload 6, 2) := by decide +kernel
theorem d2_57 : decode prog_40_method_6_code 57 = .ok (.ireturn, 1) := by decide +kernel
theorem ef_rm2 (m : MethodId) (q0 : Int64) (a1 : Addr) (p2 : Int32) : entryFrame m #[(.long q0), (.ref a1), (.int p2)] 7 = mkF m 0 #[.val (.long q0), .second, .val (.ref a1), .val (.int p2), .unset, .unset, .unset] [] := by first | (simp [entryFrame, mkF, argsToLocals, Value.category]; done) | rfl
def Qrm2 (Z : State) (q0 : Int64) (a1 : Addr) (p2 : Int32) (F0 : Nat → Int32) (ka : ClassId) (h0 : Heap) (n0 : Nat) (v : Option Value) (h : Heap) (L : List Loc) : Prop := ∃ n G, v = some (.int (p2 + Int32.ofNat n)) ∧ Fr n0 L ∧ Keep h0 h [a1] ∧ Arv Z h a1 ka .byte (13 : Int32) (own_arr G) (.int (0 : Int32)) ∧ OwnSpec q0.toInt.toNat p2.toNatClampNeg F0 G n
set_option maxRecDepth 65536 in
set_option maxHeartbeats 40000000 in
theorem rm2 (l : Launch) (Z : State) (aw : Array Value) (hw : ∀ d ∈ tables_1, d.before aw Z = true) (ws : List Jvm.Cond) (q0 : Int64) (a1 : Addr) (p2 : Int32) (F0 : Nat → Int32) (ka : ClassId) (h0 : Heap) (n0 : Nat) (Z0 : n0 ≤ h0.size) (V_a : Arv Z h0 a1 ka .byte (13 : Int32) (own_arr F0) (.int (0 : Int32))) (g_a1 : n0 ≤ a1) (hv0 : 0 ≤ q0.toInt) (hv1 : q0.toInt < 9223372036854775808) (hi0 : 0 ≤ p2.toInt ∧ p2.toInt < 4) :
    MetFree l (⟨"com/example/rankwright/rankwright/index/ByteWriter", "writeNumber", "(J[BI)I"⟩ : MethodName) (head1 (Jvm.Cond.code (⟨"com/example/rankwright/rankwright/index/ByteWriter", "writeNumber", "(J[BI)I"⟩ : MethodName) prog_40_method_6_code 7 (some .int) :: ws) ({ frames := 0, cells := 0, slots := 0, locals := 0 } : Room)) (fun a U => a = #[(.long q0), (.ref a1), (.int p2)] ∧ Z.Warmed39 U.vm ∧ U.heap = h0) (fun _ _ _ _ _ => True) (fun _ U o U' => ∃ v L, o = .returned v ∧ Qrm2 Z q0 a1 p2 F0 ka h0 n0 v U'.heap L ∧ FrameEnd U o U' L ({ frames := 0, cells := 0, slots := 0, locals := 0 } : Room).cells ({ frames := 0, cells := 0, slots := 0, locals := 0 } : Room).slots) := by
  refine MetFree.of_bodySF (plainFor_of_name pn_1) hisR ?_
  intro p e s m args below meth c s₁ Bd hml0 hP hK
  obtain ⟨rfl, hZ, hh⟩ := hP
  have hx := Bd.exec
  have hby := Bd.bytes
  have hml : c.maxLocals = 7 := hml0
  have hown : s.vm.findClass "com/example/rankwright/rankwright/index/ByteWriter" = some m.cls := findClass_of_methodNamed Bd.named
  have hnm := (name_of_methodNamed Bd.named Bd.method).1
  have X0 : Stand p l e ({ frames := 0, cells := 0, slots := 0, locals := 0 } : Room) s m #[(.long q0), (.ref a1), (.int p2)] below meth c s₁ [] 0 0 := Stand.of_body Bd
  have e0 : s₁.heap = h0 := by rw [← hh, Bd.state]; rfl
  have N0 := Fr.nil n0
  have hlk := Bd.notSynchronized
  show OwnGo p.tables e below _ (s₁.setTop (entryFrame m #[(.long q0), (.ref a1), (.int p2)] 7))
  rw [ef_rm2 m q0 a1 p2]
  have K0 : Keep h0 h0 [a1] := Keep.refl _ _
  show OwnGo p.tables e below _ (s₁.setTop (mkF m 0 #[.val (.long q0), .second, .val (.ref a1), .val (.int p2), .unset, .unset, .unset] []))
  refine OwnGo.of (A := s₁.setTop (mkF m 0 #[.val (.long q0), .second, .val (.ref a1), .val (.int p2), .unset, .unset, .unset] [])) (B := s₁.setTop (mkF m 6 #[.val (.long q0), .second, .val (.ref a1), .val (.int p2), .val (.long q0), .second, .val (.int p2)] [])) (fun t k => ?_) ?_
  · show Steps p.tables e below (s₁.setTop (mkF m 0 #[.val (.long q0), .second, .val (.ref a1), .val (.int p2), .unset, .unset, .unset] [])) t
    refine XS.lloadN X0.here hx rfl (hb hby d2_0) rfl ?_
    show Steps p.tables e below (s₁.setTop (mkF m 1 #[.val (.long q0), .second, .val (.ref a1), .val (.int p2), .unset, .unset, .unset] [(.long q0)])) t
    refine XS.lstore X0.here hx rfl (hb hby d2_1) rfl (l' := #[.val (.long q0), .second, .val (.ref a1), .val (.int p2), .val (.long q0), .second, .unset]) rfl ?_
    show Steps p.tables e below (s₁.setTop (mkF m 3 #[.val (.long q0), .second, .val (.ref a1), .val (.int p2), .val (.long q0), .second, .unset] [])) t
    refine XS.iloadN X0.here hx rfl (hb hby d2_3) rfl ?_
    show Steps p.tables e below (s₁.setTop (mkF m 4 #[.val (.long q0), .second, .val (.ref a1), .val (.int p2), .val (.long q0), .second, .unset] [(.int p2)])) t
    refine XS.istore X0.here hx rfl (hb hby d2_4) rfl (l' := #[.val (.long q0), .second, .val (.ref a1), .val (.int p2), .val (.long q0), .second, .val (.int p2)]) rfl ?_
    exact k
  have loop : ∀ (k : Nat) (Tj : State) (Lo : List Loc) (hj : Heap) (v1 : Int64) (i1 : Int32) (F1 : Nat → Int32) (Xj : Stand p l e ({ frames := 0, cells := 0, slots := 0, locals := 0 } : Room) s m #[(.long q0), (.ref a1), (.int p2)] below meth c Tj Lo 0 0) (ej : Tj.heap = hj) (Nj : Fr n0 Lo) (Zj : n0 ≤ hj.size) (Kj : Keep h0 hj [a1]) (Vj : Arv Z hj a1 ka .byte (13 : Int32) (own_arr F1) (.int (0 : Int32))) (hv : 0 ≤ v1.toInt) (hk : v1.toInt < (128 : Int) ^ (k + 1)) (hi0 : 0 ≤ i1.toInt ∧ i1.toInt + k < 13), OwnGo p.tables e below (fun o U' => ∃ v L, o = .returned v ∧ Qrm2 Z v1 a1 i1 F1 ka h0 n0 v U'.heap L ∧ FrameEnd s o U' L ({ frames := 0, cells := 0, slots := 0, locals := 0 } : Room).cells ({ frames := 0, cells := 0, slots := 0, locals := 0 } : Room).slots) (Tj.setTop (mkF m 6 #[.val (.long q0), .second, .val (.ref a1), .val (.int p2), .val (.long v1), .second, .val (.int i1)] [])) := by
    intro k
    induction k with
    | zero =>
      intro Tj Lo hj v1 i1 F1 Xj ej Nj Zj Kj Vj hv hk hi0
      have hi : 0 ≤ i1.toInt ∧ i1.toInt < 13 := by omega
      show OwnGo p.tables e below _ (Tj.setTop (mkF m 6 #[.val (.long q0), .second, .val (.ref a1), .val (.int p2), .val (.long v1), .second, .val (.int i1)] []))
      refine OwnGo.of (A := Tj.setTop (mkF m 6 #[.val (.long q0), .second, .val (.ref a1), .val (.int p2), .val (.long v1), .second, .val (.int i1)] [])) (B := Tj.setTop (mkF m 12 #[.val (.long q0), .second, .val (.ref a1), .val (.int p2), .val (.long v1), .second, .val (.int i1)] [(.int (lcmpW v1 (128 : Int64)))])) (fun t k => ?_) ?_
      · show Steps p.tables e below (Tj.setTop (mkF m 6 #[.val (.long q0), .second, .val (.ref a1), .val (.int p2), .val (.long v1), .second, .val (.int i1)] [])) t
        refine XS.lload Xj.here hx rfl (hb hby d2_6) rfl ?_
        show Steps p.tables e below (Tj.setTop (mkF m 8 #[.val (.long q0), .second, .val (.ref a1), .val (.int p2), .val (.long v1), .second, .val (.int i1)] [(.long v1)])) t
        refine Xj.ldc2Long hx hown (mvT hZ (hw _ (List.mem_of_getElem? (i := 10) rfl))) (g := (mkF m 8 #[.val (.long q0), .second, .val (.ref a1), .val (.int p2), .val (.long v1), .second, .val (.int i1)] [(.long v1)])) rfl (hb hby d2_8) _ ?_
        show Steps p.tables e below (Tj.setTop (mkF m 11 #[.val (.long q0), .second, .val (.ref a1), .val (.int p2), .val (.long v1), .second, .val (.int i1)] [(.long (128 : Int64)), (.long v1)])) t
        refine XS.lcmp Xj.here hx rfl (hb hby d2_11) rfl ?_
        exact k
      have hc1 : (lcmpW v1 (128 : Int64)) < (0 : Int32) := by rw [own_lt128]; simpa using hk
      refine OwnGo.of (A := Tj.setTop (mkF m 12 #[.val (.long q0), .second, .val (.ref a1), .val (.int p2), .val (.long v1), .second, .val (.int i1)] [(.int (lcmpW v1 (128 : Int64)))])) (B := Tj.setTop (mkF m 54 #[.val (.long q0), .second, .val (.ref a1), .val (.int p2), .val (.long v1), .second, .val (.int (i1 + (1 : Int32)))] [(.int ((v1.toInt32).toInt8.toInt32)), (.int i1), (.ref a1)])) (fun t k => ?_) ?_
      · show Steps p.tables e below (Tj.setTop (mkF m 12 #[.val (.long q0), .second, .val (.ref a1), .val (.int p2), .val (.long v1), .second, .val (.int i1)] [(.int (lcmpW v1 (128 : Int64)))])) t
        refine XS.ifYes Xj.here hx rfl (pc0 := 12) (pc' := 44) rfl (hb hby d2_12) rfl ((if0 _ _).trans (tlt hc1).1) (by decide) (by decide) ?_
        show Steps p.tables e below (Tj.setTop (mkF m 44 #[.val (.long q0), .second, .val (.ref a1), .val (.int p2), .val (.long v1), .second, .val (.int i1)] [])) t
        refine XS.aloadN Xj.here hx rfl (hb hby d2_44) rfl rfl ?_
        show Steps p.tables e below (Tj.setTop (mkF m 45 #[.val (.long q0), .second, .val (.ref a1), .val (.int p2), .val (.long v1), .second, .val (.int i1)] [(.ref a1)])) t
        refine XS.iload Xj.here hx rfl (hb hby d2_45) rfl ?_
        show Steps p.tables e below (Tj.setTop (mkF m 47 #[.val (.long q0), .second, .val (.ref a1), .val (.int p2), .val (.long v1), .second, .val (.int i1)] [(.int i1), (.ref a1)])) t
        refine XS.iinc Xj.here hx rfl (hb hby d2_47) rfl (l' := #[.val (.long q0), .second, .val (.ref a1), .val (.int p2), .val (.long v1), .second, .val (.int (i1 + (1 : Int32)))]) rfl ?_
        show Steps p.tables e below (Tj.setTop (mkF m 50 #[.val (.long q0), .second, .val (.ref a1), .val (.int p2), .val (.long v1), .second, .val (.int (i1 + (1 : Int32)))] [(.int i1), (.ref a1)])) t
        refine XS.lload Xj.here hx rfl (hb hby d2_50) rfl ?_
        show Steps p.tables e below (Tj.setTop (mkF m 52 #[.val (.long q0), .second, .val (.ref a1), .val (.int p2), .val (.long v1), .second, .val (.int (i1 + (1 : Int32)))] [(.long v1), (.int i1), (.ref a1)])) t
        refine XS.l2i Xj.here hx rfl (hb hby d2_52) rfl ?_
        show Steps p.tables e below (Tj.setTop (mkF m 53 #[.val (.long q0), .second, .val (.ref a1), .val (.int p2), .val (.long v1), .second, .val (.int (i1 + (1 : Int32)))] [(.int (v1.toInt32)), (.int i1), (.ref a1)])) t
        refine XS.i2b Xj.here hx rfl (hb hby d2_53) rfl ?_
        exact k
      have cq2 := Vj
      obtain ⟨clq2, Arq2, qq2, Sq2, Nq2, Hq2, Gq2⟩ := cq2
      obtain ⟨T3, h3, X3, e3, W3, st3⟩ := stB Xj hx hZ ej Arq2 (j := i1) (inb_of Sq2 (own_in13 _ hi)) (g := (mkF m 54 #[.val (.long q0), .second, .val (.ref a1), .val (.int p2), .val (.long v1), .second, .val (.int (i1 + (1 : Int32)))] [(.int ((v1.toInt32).toInt8.toInt32)), (.int i1), (.ref a1)])) rfl rfl (hb hby d2_54)
      refine OwnGo.of st3 ?_
      have N3 := Fr.snoc X3 Nj g_a1
      have f4 : Keep h0 h3 [a1] := Kj.wr W3 (Or.inl (List.mem_of_getElem? (i := 0) rfl))
      have f5 : n0 ≤ h3.size := Nat.le_trans Zj (Keep.of_wr W3).1
      have f6 : Arv Z h3 a1 ka .byte (13 : Int32) (own_arr (own_upd F1 i1.toNatClampNeg ((((v1.toInt32).toInt8.toInt32)).toInt8.toInt32))) (.int (0 : Int32)) := (own_arr_set F1 i1.toNatClampNeg ((((v1.toInt32).toInt8.toInt32)).toInt8.toInt32)) ▸ Arv.set Arq2 qq2 Sq2 Nq2 Hq2 Gq2 (fits_nar_byte _) W3 i1.toNatClampNeg rfl (by rw [own_arr_len]; show i1.toInt.toNat < 13; omega)
      show OwnGo p.tables e below _ (T3.setTop (mkF m 55 #[.val (.long q0), .second, .val (.ref a1), .val (.int p2), .val (.long v1), .second, .val (.int (i1 + (1 : Int32)))] []))
      refine OwnGo.of (A := T3.setTop (mkF m 55 #[.val (.long q0), .second, .val (.ref a1), .val (.int p2), .val (.long v1), .second, .val (.int (i1 + (1 : Int32)))] [])) (B := T3.setTop (mkF m 57 #[.val (.long q0), .second, .val (.ref a1), .val (.int p2), .val (.long v1), .second, .val (.int (i1 + (1 : Int32)))] [(.int (i1 + (1 : Int32)))])) (fun t k => ?_) ?_
      · show Steps p.tables e below (T3.setTop (mkF m 55 #[.val (.long q0), .second, .val (.ref a1), .val (.int p2), .val (.long v1), .second, .val (.int (i1 + (1 : Int32)))] [])) t
        refine XS.iload X3.here hx rfl (hb hby d2_55) rfl ?_
        exact k
      obtain ⟨fs, hr, hrun, hended, hW, hsame⟩ := X3.leave (v := some (.int (i1 + (1 : Int32)))) (fun h => by rw [Bd.returns] at h; cases h) hlk
      refine ⟨_, _, ?_, hrun, hended, _, _, rfl, ?_, ⟨_, rfl⟩, hW, hsame.mono (by decide) (by decide)⟩
      · show Steps p.tables e below (T3.setTop (mkF m 57 #[.val (.long q0), .second, .val (.ref a1), .val (.int p2), .val (.long v1), .second, .val (.int (i1 + (1 : Int32)))] [(.int (i1 + (1 : Int32)))])) _
        exact own_retI X3 hx Bd.returns (hb hby d2_57) hr
      · show Qrm2 Z v1 a1 i1 F1 ka h0 n0 _ (T3.setFrames fs).heap _
        rw [show (T3.setFrames fs).heap = h3 from e3]
        have hlt : v1.toInt < 128 := by rw [own_lt128] at hc1; exact hc1
        exact ⟨1, _, rfl, N3, f4, f6, own_spec_last (by omega) (own_b_last v1 hv hlt)⟩
    | succ k ih =>
      intro Tj Lo hj v1 i1 F1 Xj ej Nj Zj Kj Vj hv hk hi0
      have hi : 0 ≤ i1.toInt ∧ i1.toInt < 13 := by omega
      show OwnGo p.tables e below _ (Tj.setTop (mkF m 6 #[.val (.long q0), .second, .val (.ref a1), .val (.int p2), .val (.long v1), .second, .val (.int i1)] []))
      refine OwnGo.of (A := Tj.setTop (mkF m 6 #[.val (.long q0), .second, .val (.ref a1), .val (.int p2), .val (.long v1), .second, .val (.int i1)] [])) (B := Tj.setTop (mkF m 12 #[.val (.long q0), .second, .val (.ref a1), .val (.int p2), .val (.long v1), .second, .val (.int i1)] [(.int (lcmpW v1 (128 : Int64)))])) (fun t k => ?_) ?_
      · show Steps p.tables e below (Tj.setTop (mkF m 6 #[.val (.long q0), .second, .val (.ref a1), .val (.int p2), .val (.long v1), .second, .val (.int i1)] [])) t
        refine XS.lload Xj.here hx rfl (hb hby d2_6) rfl ?_
        show Steps p.tables e below (Tj.setTop (mkF m 8 #[.val (.long q0), .second, .val (.ref a1), .val (.int p2), .val (.long v1), .second, .val (.int i1)] [(.long v1)])) t
        refine Xj.ldc2Long hx hown (mvT hZ (hw _ (List.mem_of_getElem? (i := 10) rfl))) (g := (mkF m 8 #[.val (.long q0), .second, .val (.ref a1), .val (.int p2), .val (.long v1), .second, .val (.int i1)] [(.long v1)])) rfl (hb hby d2_8) _ ?_
        show Steps p.tables e below (Tj.setTop (mkF m 11 #[.val (.long q0), .second, .val (.ref a1), .val (.int p2), .val (.long v1), .second, .val (.int i1)] [(.long (128 : Int64)), (.long v1)])) t
        refine XS.lcmp Xj.here hx rfl (hb hby d2_11) rfl ?_
        exact k
      by_cases hc8 : (lcmpW v1 (128 : Int64)) < (0 : Int32)
      · refine OwnGo.of (A := Tj.setTop (mkF m 12 #[.val (.long q0), .second, .val (.ref a1), .val (.int p2), .val (.long v1), .second, .val (.int i1)] [(.int (lcmpW v1 (128 : Int64)))])) (B := Tj.setTop (mkF m 54 #[.val (.long q0), .second, .val (.ref a1), .val (.int p2), .val (.long v1), .second, .val (.int (i1 + (1 : Int32)))] [(.int ((v1.toInt32).toInt8.toInt32)), (.int i1), (.ref a1)])) (fun t k => ?_) ?_
        · show Steps p.tables e below (Tj.setTop (mkF m 12 #[.val (.long q0), .second, .val (.ref a1), .val (.int p2), .val (.long v1), .second, .val (.int i1)] [(.int (lcmpW v1 (128 : Int64)))])) t
          refine XS.ifYes Xj.here hx rfl (pc0 := 12) (pc' := 44) rfl (hb hby d2_12) rfl ((if0 _ _).trans (tlt hc8).1) (by decide) (by decide) ?_
          show Steps p.tables e below (Tj.setTop (mkF m 44 #[.val (.long q0), .second, .val (.ref a1), .val (.int p2), .val (.long v1), .second, .val (.int i1)] [])) t
          refine XS.aloadN Xj.here hx rfl (hb hby d2_44) rfl rfl ?_
          show Steps p.tables e below (Tj.setTop (mkF m 45 #[.val (.long q0), .second, .val (.ref a1), .val (.int p2), .val (.long v1), .second, .val (.int i1)] [(.ref a1)])) t
          refine XS.iload Xj.here hx rfl (hb hby d2_45) rfl ?_
          show Steps p.tables e below (Tj.setTop (mkF m 47 #[.val (.long q0), .second, .val (.ref a1), .val (.int p2), .val (.long v1), .second, .val (.int i1)] [(.int i1), (.ref a1)])) t
          refine XS.iinc Xj.here hx rfl (hb hby d2_47) rfl (l' := #[.val (.long q0), .second, .val (.ref a1), .val (.int p2), .val (.long v1), .second, .val (.int (i1 + (1 : Int32)))]) rfl ?_
          show Steps p.tables e below (Tj.setTop (mkF m 50 #[.val (.long q0), .second, .val (.ref a1), .val (.int p2), .val (.long v1), .second, .val (.int (i1 + (1 : Int32)))] [(.int i1), (.ref a1)])) t
          refine XS.lload Xj.here hx rfl (hb hby d2_50) rfl ?_
          show Steps p.tables e below (Tj.setTop (mkF m 52 #[.val (.long q0), .second, .val (.ref a1), .val (.int p2), .val (.long v1), .second, .val (.int (i1 + (1 : Int32)))] [(.long v1), (.int i1), (.ref a1)])) t
          refine XS.l2i Xj.here hx rfl (hb hby d2_52) rfl ?_
          show Steps p.tables e below (Tj.setTop (mkF m 53 #[.val (.long q0), .second, .val (.ref a1), .val (.int p2), .val (.long v1), .second, .val (.int (i1 + (1 : Int32)))] [(.int (v1.toInt32)), (.int i1), (.ref a1)])) t
          refine XS.i2b Xj.here hx rfl (hb hby d2_53) rfl ?_
          exact k
        have cq9 := Vj
        obtain ⟨clq9, Arq9, qq9, Sq9, Nq9, Hq9, Gq9⟩ := cq9
        obtain ⟨T10, h10, X10, e10, W10, st10⟩ := stB Xj hx hZ ej Arq9 (j := i1) (inb_of Sq9 (own_in13 _ hi)) (g := (mkF m 54 #[.val (.long q0), .second, .val (.ref a1), .val (.int p2), .val (.long v1), .second, .val (.int (i1 + (1 : Int32)))] [(.int ((v1.toInt32).toInt8.toInt32)), (.int i1), (.ref a1)])) rfl rfl (hb hby d2_54)
        refine OwnGo.of st10 ?_
        have N10 := Fr.snoc X10 Nj g_a1
        have f11 : Keep h0 h10 [a1] := Kj.wr W10 (Or.inl (List.mem_of_getElem? (i := 0) rfl))
        have f12 : n0 ≤ h10.size := Nat.le_trans Zj (Keep.of_wr W10).1
        have f13 : Arv Z h10 a1 ka .byte (13 : Int32) (own_arr (own_upd F1 i1.toNatClampNeg ((((v1.toInt32).toInt8.toInt32)).toInt8.toInt32))) (.int (0 : Int32)) := (own_arr_set F1 i1.toNatClampNeg ((((v1.toInt32).toInt8.toInt32)).toInt8.toInt32)) ▸ Arv.set Arq9 qq9 Sq9 Nq9 Hq9 Gq9 (fits_nar_byte _) W10 i1.toNatClampNeg rfl (by rw [own_arr_len]; show i1.toInt.toNat < 13; omega)
        show OwnGo p.tables e below _ (T10.setTop (mkF m 55 #[.val (.long q0), .second, .val (.ref a1), .val (.int p2), .val (.long v1), .second, .val (.int (i1 + (1 : Int32)))] []))
        refine OwnGo.of (A := T10.setTop (mkF m 55 #[.val (.long q0), .second, .val (.ref a1), .val (.int p2), .val (.long v1), .second, .val (.int (i1 + (1 : Int32)))] [])) (B := T10.setTop (mkF m 57 #[.val (.long q0), .second, .val (.ref a1), .val (.int p2), .val (.long v1), .second, .val (.int (i1 + (1 : Int32)))] [(.int (i1 + (1 : Int32)))])) (fun t k => ?_) ?_
        · show Steps p.tables e below (T10.setTop (mkF m 55 #[.val (.long q0), .second, .val (.ref a1), .val (.int p2), .val (.long v1), .second, .val (.int (i1 + (1 : Int32)))] [])) t
          refine XS.iload X10.here hx rfl (hb hby d2_55) rfl ?_
          exact k
        obtain ⟨fs, hr, hrun, hended, hW, hsame⟩ := X10.leave (v := some (.int (i1 + (1 : Int32)))) (fun h => by rw [Bd.returns] at h; cases h) hlk
        refine ⟨_, _, ?_, hrun, hended, _, _, rfl, ?_, ⟨_, rfl⟩, hW, hsame.mono (by decide) (by decide)⟩
        · show Steps p.tables e below (T10.setTop (mkF m 57 #[.val (.long q0), .second, .val (.ref a1), .val (.int p2), .val (.long v1), .second, .val (.int (i1 + (1 : Int32)))] [(.int (i1 + (1 : Int32)))])) _
          exact own_retI X10 hx Bd.returns (hb hby d2_57) hr
        · show Qrm2 Z v1 a1 i1 F1 ka h0 n0 _ (T10.setFrames fs).heap _
          rw [show (T10.setFrames fs).heap = h10 from e10]
          have hlt : v1.toInt < 128 := by rw [own_lt128] at hc8; exact hc8
          exact ⟨1, _, rfl, N10, f11, f13, own_spec_last (by omega) (own_b_last v1 hv hlt)⟩
      · refine OwnGo.of (A := Tj.setTop (mkF m 12 #[.val (.long q0), .second, .val (.ref a1), .val (.int p2), .val (.long v1), .second, .val (.int i1)] [(.int (lcmpW v1 (128 : Int64)))])) (B := Tj.setTop (mkF m 33 #[.val (.long q0), .second, .val (.ref a1), .val (.int p2), .val (.long v1), .second, .val (.int (i1 + (1 : Int32)))] [(.int ((((v1 &&& (127 : Int64)) ||| (128 : Int64)).toInt32).toInt8.toInt32)), (.int i1), (.ref a1)])) (fun t k => ?_) ?_
        · show Steps p.tables e below (Tj.setTop (mkF m 12 #[.val (.long q0), .second, .val (.ref a1), .val (.int p2), .val (.long v1), .second, .val (.int i1)] [(.int (lcmpW v1 (128 : Int64)))])) t
          refine XS.ifNo Xj.here hx rfl (hb hby d2_12) rfl ((if0 _ _).trans (flt hc8).1) ?_
          show Steps p.tables e below (Tj.setTop (mkF m 15 #[.val (.long q0), .second, .val (.ref a1), .val (.int p2), .val (.long v1), .second, .val (.int i1)] [])) t
          refine XS.aloadN Xj.here hx rfl (hb hby d2_15) rfl rfl ?_
          show Steps p.tables e below (Tj.setTop (mkF m 16 #[.val (.long q0), .second, .val (.ref a1), .val (.int p2), .val (.long v1), .second, .val (.int i1)] [(.ref a1)])) t
          refine XS.iload Xj.here hx rfl (hb hby d2_16) rfl ?_
          show Steps p.tables e below (Tj.setTop (mkF m 18 #[.val (.long q0), .second, .val (.ref a1), .val (.int p2), .val (.long v1), .second, .val (.int i1)] [(.int i1), (.ref a1)])) t
          refine XS.iinc Xj.here hx rfl (hb hby d2_18) rfl (l' := #[.val (.long q0), .second, .val (.ref a1), .val (.int p2), .val (.long v1), .second, .val (.int (i1 + (1 : Int32)))]) rfl ?_
          show Steps p.tables e below (Tj.setTop (mkF m 21 #[.val (.long q0), .second, .val (.ref a1), .val (.int p2), .val (.long v1), .second, .val (.int (i1 + (1 : Int32)))] [(.int i1), (.ref a1)])) t
          refine XS.lload Xj.here hx rfl (hb hby d2_21) rfl ?_
          show Steps p.tables e below (Tj.setTop (mkF m 23 #[.val (.long q0), .second, .val (.ref a1), .val (.int p2), .val (.long v1), .second, .val (.int (i1 + (1 : Int32)))] [(.long v1), (.int i1), (.ref a1)])) t
          refine Xj.ldc2Long hx hown (mvT hZ (hw _ (List.mem_of_getElem? (i := 15) rfl))) (g := (mkF m 23 #[.val (.long q0), .second, .val (.ref a1), .val (.int p2), .val (.long v1), .second, .val (.int (i1 + (1 : Int32)))] [(.long v1), (.int i1), (.ref a1)])) rfl (hb hby d2_23) _ ?_
          show Steps p.tables e below (Tj.setTop (mkF m 26 #[.val (.long q0), .second, .val (.ref a1), .val (.int p2), .val (.long v1), .second, .val (.int (i1 + (1 : Int32)))] [(.long (127 : Int64)), (.long v1), (.int i1), (.ref a1)])) t
          refine XS.land Xj.here hx rfl (hb hby d2_26) rfl ?_
          show Steps p.tables e below (Tj.setTop (mkF m 27 #[.val (.long q0), .second, .val (.ref a1), .val (.int p2), .val (.long v1), .second, .val (.int (i1 + (1 : Int32)))] [(.long (v1 &&& (127 : Int64))), (.int i1), (.ref a1)])) t
          refine Xj.ldc2Long hx hown (mvT hZ (hw _ (List.mem_of_getElem? (i := 10) rfl))) (g := (mkF m 27 #[.val (.long q0), .second, .val (.ref a1), .val (.int p2), .val (.long v1), .second, .val (.int (i1 + (1 : Int32)))] [(.long (v1 &&& (127 : Int64))), (.int i1), (.ref a1)])) rfl (hb hby d2_27) _ ?_
          show Steps p.tables e below (Tj.setTop (mkF m 30 #[.val (.long q0), .second, .val (.ref a1), .val (.int p2), .val (.long v1), .second, .val (.int (i1 + (1 : Int32)))] [(.long (128 : Int64)), (.long (v1 &&& (127 : Int64))), (.int i1), (.ref a1)])) t
          refine XS.lor Xj.here hx rfl (hb hby d2_30) rfl ?_
          show Steps p.tables e below (Tj.setTop (mkF m 31 #[.val (.long q0), .second, .val (.ref a1), .val (.int p2), .val (.long v1), .second, .val (.int (i1 + (1 : Int32)))] [(.long ((v1 &&& (127 : Int64)) ||| (128 : Int64))), (.int i1), (.ref a1)])) t
          refine XS.l2i Xj.here hx rfl (hb hby d2_31) rfl ?_
          show Steps p.tables e below (Tj.setTop (mkF m 32 #[.val (.long q0), .second, .val (.ref a1), .val (.int p2), .val (.long v1), .second, .val (.int (i1 + (1 : Int32)))] [(.int (((v1 &&& (127 : Int64)) ||| (128 : Int64)).toInt32)), (.int i1), (.ref a1)])) t
          refine XS.i2b Xj.here hx rfl (hb hby d2_32) rfl ?_
          exact k
        have cq15 := Vj
        obtain ⟨clq15, Arq15, qq15, Sq15, Nq15, Hq15, Gq15⟩ := cq15
        obtain ⟨T16, h16, X16, e16, W16, st16⟩ := stB Xj hx hZ ej Arq15 (j := i1) (inb_of Sq15 (own_in13 _ hi)) (g := (mkF m 33 #[.val (.long q0), .second, .val (.ref a1), .val (.int p2), .val (.long v1), .second, .val (.int (i1 + (1 : Int32)))] [(.int ((((v1 &&& (127 : Int64)) ||| (128 : Int64)).toInt32).toInt8.toInt32)), (.int i1), (.ref a1)])) rfl rfl (hb hby d2_33)
        refine OwnGo.of st16 ?_
        have N16 := Fr.snoc X16 Nj g_a1
        have f17 : Keep h0 h16 [a1] := Kj.wr W16 (Or.inl (List.mem_of_getElem? (i := 0) rfl))
        have f18 : n0 ≤ h16.size := Nat.le_trans Zj (Keep.of_wr W16).1
        have f19 : Arv Z h16 a1 ka .byte (13 : Int32) (own_arr (own_upd F1 i1.toNatClampNeg ((((((v1 &&& (127 : Int64)) ||| (128 : Int64)).toInt32).toInt8.toInt32)).toInt8.toInt32))) (.int (0 : Int32)) := (own_arr_set F1 i1.toNatClampNeg ((((((v1 &&& (127 : Int64)) ||| (128 : Int64)).toInt32).toInt8.toInt32)).toInt8.toInt32)) ▸ Arv.set Arq15 qq15 Sq15 Nq15 Hq15 Gq15 (fits_nar_byte _) W16 i1.toNatClampNeg rfl (by rw [own_arr_len]; show i1.toInt.toNat < 13; omega)
        show OwnGo p.tables e below _ (T16.setTop (mkF m 34 #[.val (.long q0), .second, .val (.ref a1), .val (.int p2), .val (.long v1), .second, .val (.int (i1 + (1 : Int32)))] []))
        refine OwnGo.of (A := T16.setTop (mkF m 34 #[.val (.long q0), .second, .val (.ref a1), .val (.int p2), .val (.long v1), .second, .val (.int (i1 + (1 : Int32)))] [])) (B := T16.setTop (mkF m 41 #[.val (.long q0), .second, .val (.ref a1), .val (.int p2), .val (.long ((v1.toUInt64 >>> ((7 : Int32) &&& 0x3f).toInt64.toUInt64).toInt64)), .second, .val (.int (i1 + (1 : Int32)))] [])) (fun t k => ?_) ?_
        · show Steps p.tables e below (T16.setTop (mkF m 34 #[.val (.long q0), .second, .val (.ref a1), .val (.int p2), .val (.long v1), .second, .val (.int (i1 + (1 : Int32)))] [])) t
          refine XS.lload X16.here hx rfl (hb hby d2_34) rfl ?_
          show Steps p.tables e below (T16.setTop (mkF m 36 #[.val (.long q0), .second, .val (.ref a1), .val (.int p2), .val (.long v1), .second, .val (.int (i1 + (1 : Int32)))] [(.long v1)])) t
          refine XS.bipush X16.here hx rfl (hb hby d2_36) ?_
          show Steps p.tables e below (T16.setTop (mkF m 38 #[.val (.long q0), .second, .val (.ref a1), .val (.int p2), .val (.long v1), .second, .val (.int (i1 + (1 : Int32)))] [(.int (7 : Int32)), (.long v1)])) t
          refine XS.lushr X16.here hx rfl (hb hby d2_38) rfl ?_
          show Steps p.tables e below (T16.setTop (mkF m 39 #[.val (.long q0), .second, .val (.ref a1), .val (.int p2), .val (.long v1), .second, .val (.int (i1 + (1 : Int32)))] [(.long ((v1.toUInt64 >>> ((7 : Int32) &&& 0x3f).toInt64.toUInt64).toInt64))])) t
          refine XS.lstore X16.here hx rfl (hb hby d2_39) rfl (l' := #[.val (.long q0), .second, .val (.ref a1), .val (.int p2), .val (.long ((v1.toUInt64 >>> ((7 : Int32) &&& 0x3f).toInt64.toUInt64).toInt64)), .second, .val (.int (i1 + (1 : Int32)))]) rfl ?_
          exact k
        refine OwnGo.of (A := T16.setTop (mkF m 41 #[.val (.long q0), .second, .val (.ref a1), .val (.int p2), .val (.long ((v1.toUInt64 >>> ((7 : Int32) &&& 0x3f).toInt64.toUInt64).toInt64)), .second, .val (.int (i1 + (1 : Int32)))] [])) (B := T16.setTop (mkF m 6 #[.val (.long q0), .second, .val (.ref a1), .val (.int p2), .val (.long ((v1.toUInt64 >>> ((7 : Int32) &&& 0x3f).toInt64.toUInt64).toInt64)), .second, .val (.int (i1 + (1 : Int32)))] [])) (fun t k => ?_) ?_
        · show Steps p.tables e below (T16.setTop (mkF m 41 #[.val (.long q0), .second, .val (.ref a1), .val (.int p2), .val (.long ((v1.toUInt64 >>> ((7 : Int32) &&& 0x3f).toInt64.toUInt64).toInt64)), .second, .val (.int (i1 + (1 : Int32)))] [])) t
          refine XS.goto X16.here hx rfl (pc0 := 41) (pc' := 6) rfl (hb hby d2_41) (by decide) (by decide) ?_
          exact k
        have hge : 128 ≤ v1.toInt := by rw [own_lt128] at hc8; omega
        have hpl := own_pl v1 hv
        have hii := own_i1 i1 hi
        refine OwnGo.mono (ih T16 _ _ _ _ _ X16 e16 N16 f18 f17 f19 (by omega) (by rw [hpl]; rw [Int.pow_succ] at hk; omega) (by omega)) ?_
        rintro o U' ⟨v, L, ho, ⟨n, G, hvr, hN, hK1, hV, hS⟩, hF⟩
        have hn9 := own_n9 (by have r := rng64 v1; rw [hpl]; omega) hS
        refine ⟨v, L, ho, ⟨n + 1, G, ?_, hN, hK1, hV, ?_⟩, hF⟩
        · rw [hvr]; exact congrArg (fun z => some (Value.int z)) (own_ofnat i1 n hi (by omega))
        · refine own_spec_step (by omega) (own_b_more v1 hv) ?_
          have e1 : ((v1.toUInt64 >>> ((7 : Int32) &&& 0x3f).toInt64.toUInt64).toInt64).toInt.toNat = v1.toInt.toNat / 128 := by rw [hpl]; omega
          rw [e1, hii.2] at hS
          exact hS
  exact loop 8 s₁ _ _ q0 p2 F0 X0 e0 N0 Z0 K0 V_a hv0 (by simpa using hv1) (by omega)
def own_ok (a0 : Addr) (p1 : Int32) (p2 : Int32) (p3 : Int32) (q4 : Int64) (p5 : Int32) (F0 : Nat → Int32) (ka : ClassId) : Int32 := (if p1 < p2 then (if (F0 p1.toNatClampNeg) = p5 then (1 : Int32) else (0 : Int32)) else (if p1 < (p2 + p3) then (if (p1 - p2) < (p3 - (1 : Int32)) then (if (F0 p1.toNatClampNeg) = ((((((q4.toUInt64 >>> (((7 : Int32) * (p1 - p2)) &&& 0x3f).toInt64.toUInt64).toInt64) &&& (127 : Int64)).toInt32) ||| (128 : Int32)).toInt8.toInt32) then (1 : Int32) else (0 : Int32)) else (if (F0 p1.toNatClampNeg) = (((((q4.toUInt64 >>> (((7 : Int32) * (p1 - p2)) &&& 0x3f).toInt64.toUInt64).toInt64) &&& (127 : Int64)).toInt32).toInt8.toInt32) then (1 : Int32) else (0 : Int32))) else (if (F0 p1.toNatClampNeg) = p5 then (1 : Int32) else (0 : Int32))))
theorem d3_0 : decode method_4_code 0 = .ok (.iload_n 1, 1) := by decide +kernel
theorem d3_1 : decode method_4_code 1 = .ok (.iload_n 2, 1) := by decide +kernel
theorem d3_2 : decode method_4_code 2 = .ok (.if_icmp .lt 10, 3) := by decide +kernel
theorem d3_5 : decode method_4_code 5 = .ok (.iload_n 1, 1) := by decide +kernel
theorem d3_6 : decode method_4_code 6 = .ok (.iload_n 2, 1) := by decide +kernel
theorem d3_7 : decode method_4_code 7 = .ok (.iload_n 3, 1) := by decide +kernel
theorem d3_8 : decode method_4_code 8 = .ok (.iadd, 1) := by decide +kernel
theorem d3_9 : decode method_4_code 9 = .ok (.if_icmp .lt 17, 3) := by decide +kernel
theorem d3_12 : decode method_4_code 12 = .ok (.aload_n 0, 1) := by decide +kernel
theorem d3_13 : decode method_4_code 13 = .ok (.iload_n 1, 1) := by decide +kernel
theorem d3_14 : decode method_4_code 14 = .ok (.baload, 1) := by decide +kernel
theorem d3_15 : decode method_4_code 15 = .ok (.iload 6, 2) := by decide +kernel
theorem d3_17 : decode method_4_code 17 = .ok (.if_icmp .ne 7, 3) := by decide +kernel
theorem d3_20 : decode method_4_code 20 = .ok (.iconst 1, 1) := by decide +kernel
theorem d3_21 : decode method_4_code 21 = .ok (.goto 4, 3) := by decide +kernel
theorem d3_24 : decode method_4_code 24 = .ok (.iconst 0, 1) := by decide +kernel
theorem d3_25 : decode method_4_code 25 = .ok (.ireturn, 1) := by decide +kernel
theorem d3_26 : decode method_4_code 26 = .ok (.iload_n 1, 1) := by decide +kernel
theorem d3_27 : decode method_4_code 27 = .ok (.iload_n 2, 1) := by decide +kernel
theorem d3_28 : decode method_4_code 28 = .ok (.isub, 1) := by decide +kernel
theorem d3_29 : decode method_4_code 29 = .ok (.istore 7, 2) := by decide +kernel
theorem d3_31 : decode method_4_code 31 = .ok (.lload 4, 2) := by decide +kernel
theorem d3_33 : decode method_4_code 33 = .ok (.bipush 7, 2) := by decide +kernel
theorem d3_35 : decode method_4_code 35 = .ok (.iload 7, 2) := by decide +kernel
theorem d3_37 : decode method_4_code 37 = .ok (.imul, 1) := by decide +kernel
theorem d3_38 : decode method_4_code 38 = .ok (.lushr, 1) := by decide +kernel
theorem d3_39 : decode method_4_code 39 = .ok (.ldc2_w 27, 3) := by decide +kernel
theorem d3_42 : decode method_4_code 42 = .ok (.land, 1) := by decide +kernel
theorem d3_43 : decode method_4_code 43 = .ok (.l2i, 1) := by decide +kernel
theorem d3_44 : decode method_4_code 44 = .ok (.istore 8, 2) := by decide +kernel
theorem d3_46 : decode method_4_code 46 = .ok (.iload 7, 2) := by decide +kernel
theorem d3_48 : decode method_4_code 48 = .ok (.iload_n 3, 1) := by decide +kernel
theorem d3_49 : decode method_4_code 49 = .ok (.iconst 1, 1) := by decide +kernel
theorem d3_50 : decode method_4_code 50 = .ok (.isub, 1) := by decide +kernel
theorem d3_51 : decode method_4_code 51 = .ok (.if_icmp .ge 12, 3) := by decide +kernel
theorem d3_54 : decode method_4_code 54 = .ok (.iload 8, 2) := by decide +kernel
theorem d3_56 : decode method_4_code 56 = .ok (.sipush 128, 3) := by decide +kernel
theorem d3_59 : decode method_4_code 59 = .ok (.ior, 1) := by decide +kernel
theorem d3_60 : decode method_4_code 60 = .ok (.goto 5, 3) := by decide +kernel
theorem d3_63 : decode method_4_code 63 = .ok (.iload 8, 2) := by decide +kernel
theorem d3_65 : decode method_4_code 65 = .ok (.istore 9, 2) := by decide +kernel
theorem d3_67 : decode method_4_code 67 = .ok (.aload_n 0, 1) := by decide +kernel
theorem d3_68 : decode method_4_code 68 = .ok (.iload_n 1, 1) := by decide +kernel
theorem d3_69 : decode method_4_code 69 = .ok (.baload, 1) := by decide +kernel
theorem d3_70 : decode method_4_code 70 = .ok (.iload 9, 2) := by decide +kernel
theorem d3_72 : decode method_4_code 72 = .ok (.i2b, 1) := by decide +kernel
theorem d3_73 : decode method_4_code 73 = .ok (.if_icmp .ne 7, 3) := by decide +kernel
theorem d3_76 : decode method_4_code 76 = .ok (.iconst 1, 1) := by decide +kernel
theorem d3_77 : decode method_4_code 77 = .ok (.goto 4, 3) := by decide +kernel
theorem d3_80 : decode method_4_code 80 = .ok (.iconst 0, 1) := by decide +kernel
theorem d3_81 : decode method_4_code 81 = .ok (.ireturn, 1) := by decide +kernel
theorem ef_rm3 (m : MethodId) (a0 : Addr) (p1 : Int32) (p2 : Int32) (p3 : Int32) (q4 : Int64) (p5 : Int32) : entryFrame m #[(.ref a0), (.int p1), (.int p2), (.int p3), (.long q4), (.int p5)] 10 = mkF m 0 #[.val (.ref a0), .val (.int p1), .val (.int p2), .val (.int p3), .val (.long q4), .second, .val (.int p5), .unset, .unset, .unset] [] := by first | (simp [entryFrame, mkF, argsToLocals, Value.category]; done) | rfl
def Qrm3 (Z : State) (a0 : Addr) (p1 : Int32) (p2 : Int32) (p3 : Int32) (q4 : Int64) (p5 : Int32) (F0 : Nat → Int32) (ka : ClassId) (h0 : Heap) (n0 : Nat) (v : Option Value) (h : Heap) (L : List Loc) : Prop := v = some (.int (own_ok a0 p1 p2 p3 q4 p5 F0 ka)) ∧ Fr n0 L ∧ h = h0
set_option maxRecDepth 65536 in
set_option maxHeartbeats 40000000 in
theorem rm3 (l : Launch) (Z : State) (aw : Array Value) (hw : ∀ d ∈ tables_1, d.before aw Z = true) (ws : List Jvm.Cond) (a0 : Addr) (p1 : Int32) (p2 : Int32) (p3 : Int32) (q4 : Int64) (p5 : Int32) (F0 : Nat → Int32) (ka : ClassId) (h0 : Heap) (n0 : Nat) (Z0 : n0 ≤ h0.size) (V_a : Arv Z h0 a0 ka .byte (13 : Int32) (own_arr F0) (.int (0 : Int32))) (hj : 0 ≤ p1.toInt ∧ p1.toInt < 13) :
    MetFree l (⟨"com/example/rankwright/rankwright/index/ByteWriterWriteNumberPinLaw", "ok", "([BIIIJB)Z"⟩ : MethodName) (head1 (Jvm.Cond.code (⟨"com/example/rankwright/rankwright/index/ByteWriterWriteNumberPinLaw", "ok", "([BIIIJB)Z"⟩ : MethodName) method_4_code 10 (some .boolean) :: ws) ({ frames := 0, cells := 0, slots := 0, locals := 0 } : Room)) (fun a U => a = #[(.ref a0), (.int p1), (.int p2), (.int p3), (.long q4), (.int p5)] ∧ Z.Warmed39 U.vm ∧ U.heap = h0) (fun _ _ _ _ _ => True) (fun _ U o U' => ∃ v L, o = .returned v ∧ Qrm3 Z a0 p1 p2 p3 q4 p5 F0 ka h0 n0 v U'.heap L ∧ FrameEnd U o U' L ({ frames := 0, cells := 0, slots := 0, locals := 0 } : Room).cells ({ frames := 0, cells := 0, slots := 0, locals := 0 } : Room).slots) := by
  refine MetFree.of_bodySF (plainFor_of_name pn_0) hisR ?_
  intro p e s m args below meth c s₁ Bd hml0 hP hK
  obtain ⟨rfl, hZ, hh⟩ := hP
  have hx := Bd.exec
  have hby := Bd.bytes
  have hml : c.maxLocals = 10 := hml0
  have hown : s.vm.findClass "com/example/rankwright/rankwright/index/ByteWriterWriteNumberPinLaw" = some m.cls := findClass_of_methodNamed Bd.named
  have hnm := (name_of_methodNamed Bd.named Bd.method).1
  have X0 : Stand p l e ({ frames := 0, cells := 0, slots := 0, locals := 0 } : Room) s m #[(.ref a0), (.int p1), (.int p2), (.int p3), (.long q4), (.int p5)] below meth c s₁ [] 0 0 := Stand.of_body Bd
  have e0 : s₁.heap = h0 := by rw [← hh, Bd.state]; rfl
  have N0 := Fr.nil n0
  have hlk := Bd.notSynchronized
  show OwnGo p.tables e below _ (s₁.setTop (entryFrame m #[(.ref a0), (.int p1), (.int p2), (.int p3), (.long q4), (.int p5)] 10))
  rw [ef_rm3 m a0 p1 p2 p3 q4 p5]
  show OwnGo p.tables e below _ (s₁.setTop (mkF m 0 #[.val (.ref a0), .val (.int p1), .val (.int p2), .val (.int p3), .val (.long q4), .second, .val (.int p5), .unset, .unset, .unset] []))
  refine OwnGo.of (A := s₁.setTop (mkF m 0 #[.val (.ref a0), .val (.int p1), .val (.int p2), .val (.int p3), .val (.long q4), .second, .val (.int p5), .unset, .unset, .unset] [])) (B := s₁.setTop (mkF m 2 #[.val (.ref a0), .val (.int p1), .val (.int p2), .val (.int p3), .val (.long q4), .second, .val (.int p5), .unset, .unset, .unset] [(.int p2), (.int p1)])) (fun t k => ?_) ?_
  · show Steps p.tables e below (s₁.setTop (mkF m 0 #[.val (.ref a0), .val (.int p1), .val (.int p2), .val (.int p3), .val (.long q4), .second, .val (.int p5), .unset, .unset, .unset] [])) t
    refine XS.iloadN X0.here hx rfl (hb hby d3_0) rfl ?_
    show Steps p.tables e below (s₁.setTop (mkF m 1 #[.val (.ref a0), .val (.int p1), .val (.int p2), .val (.int p3), .val (.long q4), .second, .val (.int p5), .unset, .unset, .unset] [(.int p1)])) t
    refine XS.iloadN X0.here hx rfl (hb hby d3_1) rfl ?_
    exact k
  by_cases hc1 : p1 < p2
  · refine OwnGo.of (A := s₁.setTop (mkF m 2 #[.val (.ref a0), .val (.int p1), .val (.int p2), .val (.int p3), .val (.long q4), .second, .val (.int p5), .unset, .unset, .unset] [(.int p2), (.int p1)])) (B := s₁.setTop (mkF m 14 #[.val (.ref a0), .val (.int p1), .val (.int p2), .val (.int p3), .val (.long q4), .second, .val (.int p5), .unset, .unset, .unset] [(.int p1), (.ref a0)])) (fun t k => ?_) ?_
    · show Steps p.tables e below (s₁.setTop (mkF m 2 #[.val (.ref a0), .val (.int p1), .val (.int p2), .val (.int p3), .val (.long q4), .second, .val (.int p5), .unset, .unset, .unset] [(.int p2), (.int p1)])) t
      refine XS.icmpYes X0.here hx rfl (pc0 := 2) (pc' := 12) rfl (hb hby d3_2) rfl (tlt hc1).1 (by decide) (by decide) ?_
      show Steps p.tables e below (s₁.setTop (mkF m 12 #[.val (.ref a0), .val (.int p1), .val (.int p2), .val (.int p3), .val (.long q4), .second, .val (.int p5), .unset, .unset, .unset] [])) t
      refine XS.aloadN X0.here hx rfl (hb hby d3_12) rfl rfl ?_
      show Steps p.tables e below (s₁.setTop (mkF m 13 #[.val (.ref a0), .val (.int p1), .val (.int p2), .val (.int p3), .val (.long q4), .second, .val (.int p5), .unset, .unset, .unset] [(.ref a0)])) t
      refine XS.iloadN X0.here hx rfl (hb hby d3_13) rfl ?_
      exact k
    have cq2 := V_a
    obtain ⟨clq2, Arq2, qq2, Sq2, Nq2, Hq2, Gq2⟩ := cq2
    have hinq2 := inb_of (j := p1) Sq2 (own_in13 _ hj)
    refine OwnGo.of (X0.baloadBytes hx (j := p1) (v := (.int (F0 p1.toNatClampNeg))) (by rw [e0]; exact Arq2.1) (State.isArrayOf_alike hZ.alike Arq2.2.1) Arq2.2.2 hinq2 (Hq2.at hinq2 (own_arr_get F0 _ _ (by show p1.toInt.toNat < 13; omega))) (g := (mkF m 14 #[.val (.ref a0), .val (.int p1), .val (.int p2), .val (.int p3), .val (.long q4), .second, .val (.int p5), .unset, .unset, .unset] [(.int p1), (.ref a0)])) rfl rfl (hb hby d3_14)) ?_
    show OwnGo p.tables e below _ (s₁.setTop (mkF m 15 #[.val (.ref a0), .val (.int p1), .val (.int p2), .val (.int p3), .val (.long q4), .second, .val (.int p5), .unset, .unset, .unset] [(.int (F0 p1.toNatClampNeg))]))
    refine OwnGo.of (A := s₁.setTop (mkF m 15 #[.val (.ref a0), .val (.int p1), .val (.int p2), .val (.int p3), .val (.long q4), .second, .val (.int p5), .unset, .unset, .unset] [(.int (F0 p1.toNatClampNeg))])) (B := s₁.setTop (mkF m 17 #[.val (.ref a0), .val (.int p1), .val (.int p2), .val (.int p3), .val (.long q4), .second, .val (.int p5), .unset, .unset, .unset] [(.int p5), (.int (F0 p1.toNatClampNeg))])) (fun t k => ?_) ?_
    · show Steps p.tables e below (s₁.setTop (mkF m 15 #[.val (.ref a0), .val (.int p1), .val (.int p2), .val (.int p3), .val (.long q4), .second, .val (.int p5), .unset, .unset, .unset] [(.int (F0 p1.toNatClampNeg))])) t
      refine XS.iload X0.here hx rfl (hb hby d3_15) rfl ?_
      exact k
    by_cases hc3 : (F0 p1.toNatClampNeg) = p5
    · refine OwnGo.of (A := s₁.setTop (mkF m 17 #[.val (.ref a0), .val (.int p1), .val (.int p2), .val (.int p3), .val (.long q4), .second, .val (.int p5), .unset, .unset, .unset] [(.int p5), (.int (F0 p1.toNatClampNeg))])) (B := s₁.setTop (mkF m 25 #[.val (.ref a0), .val (.int p1), .val (.int p2), .val (.int p3), .val (.long q4), .second, .val (.int p5), .unset, .unset, .unset] [(.int (1 : Int32))])) (fun t k => ?_) ?_
      · show Steps p.tables e below (s₁.setTop (mkF m 17 #[.val (.ref a0), .val (.int p1), .val (.int p2), .val (.int p3), .val (.long q4), .second, .val (.int p5), .unset, .unset, .unset] [(.int p5), (.int (F0 p1.toNatClampNeg))])) t
        refine XS.icmpNo X0.here hx rfl (hb hby d3_17) rfl (teq hc3).2 ?_
        show Steps p.tables e below (s₁.setTop (mkF m 20 #[.val (.ref a0), .val (.int p1), .val (.int p2), .val (.int p3), .val (.long q4), .second, .val (.int p5), .unset, .unset, .unset] [])) t
        refine XS.iconst X0.here hx rfl (hb hby d3_20) ?_
        show Steps p.tables e below (s₁.setTop (mkF m 21 #[.val (.ref a0), .val (.int p1), .val (.int p2), .val (.int p3), .val (.long q4), .second, .val (.int p5), .unset, .unset, .unset] [(.int (1 : Int32))])) t
        refine XS.goto X0.here hx rfl (pc0 := 21) (pc' := 25) rfl (hb hby d3_21) (by decide) (by decide) ?_
        exact k
      obtain ⟨fs, hr, hrun, hended, hW, hsame⟩ := X0.leave (v := some (.int (nar .boolean (1 : Int32)))) (fun h => by rw [Bd.returns] at h; cases h) hlk
      refine ⟨_, _, ?_, hrun, hended, _, _, rfl, ?_, ⟨_, rfl⟩, hW, hsame.mono (by decide) (by decide)⟩
      · show Steps p.tables e below (s₁.setTop (mkF m 25 #[.val (.ref a0), .val (.int p1), .val (.int p2), .val (.int p3), .val (.long q4), .second, .val (.int p5), .unset, .unset, .unset] [(.int (1 : Int32))])) _
        exact retN X0 hx (t := .boolean) Bd.returns (by simp) (hb hby d3_25) hr
      · show Qrm3 Z a0 p1 p2 p3 q4 p5 F0 ka h0 n0 _ (s₁.setFrames fs).heap _
        rw [show (s₁.setFrames fs).heap = h0 from e0]
        exact ⟨congrArg (fun z => some (Value.int z)) (by rw [own_ok, if_pos hc1, if_pos hc3]; try rfl), N0, rfl⟩
    · refine OwnGo.of (A := s₁.setTop (mkF m 17 #[.val (.ref a0), .val (.int p1), .val (.int p2), .val (.int p3), .val (.long q4), .second, .val (.int p5), .unset, .unset, .unset] [(.int p5), (.int (F0 p1.toNatClampNeg))])) (B := s₁.setTop (mkF m 25 #[.val (.ref a0), .val (.int p1), .val (.int p2), .val (.int p3), .val (.long q4), .second, .val (.int p5), .unset, .unset, .unset] [(.int (0 : Int32))])) (fun t k => ?_) ?_
      · show Steps p.tables e below (s₁.setTop (mkF m 17 #[.val (.ref a0), .val (.int p1), .val (.int p2), .val (.int p3), .val (.long q4), .second, .val (.int p5), .unset, .unset, .unset] [(.int p5), (.int (F0 p1.toNatClampNeg))])) t
        refine XS.icmpYes X0.here hx rfl (pc0 := 17) (pc' := 24) rfl (hb hby d3_17) rfl (feq hc3).2 (by decide) (by decide) ?_
        show Steps p.tables e below (s₁.setTop (mkF m 24 #[.val (.ref a0), .val (.int p1), .val (.int p2), .val (.int p3), .val (.long q4), .second, .val (.int p5), .unset, .unset, .unset] [])) t
        refine XS.iconst X0.here hx rfl (hb hby d3_24) ?_
        exact k
      obtain ⟨fs, hr, hrun, hended, hW, hsame⟩ := X0.leave (v := some (.int (nar .boolean (0 : Int32)))) (fun h => by rw [Bd.returns] at h; cases h) hlk
      refine ⟨_, _, ?_, hrun, hended, _, _, rfl, ?_, ⟨_, rfl⟩, hW, hsame.mono (by decide) (by decide)⟩
      · show Steps p.tables e below (s₁.setTop (mkF m 25 #[.val (.ref a0), .val (.int p1), .val (.int p2), .val (.int p3), .val (.long q4), .second, .val (.int p5), .unset, .unset, .unset] [(.int (0 : Int32))])) _
        exact retN X0 hx (t := .boolean) Bd.returns (by simp) (hb hby d3_25) hr
      · show Qrm3 Z a0 p1 p2 p3 q4 p5 F0 ka h0 n0 _ (s₁.setFrames fs).heap _
        rw [show (s₁.setFrames fs).heap = h0 from e0]
        exact ⟨congrArg (fun z => some (Value.int z)) (by rw [own_ok, if_pos hc1, if_neg hc3]; try rfl), N0, rfl⟩
  · refine OwnGo.of (A := s₁.setTop (mkF m 2 #[.val (.ref a0), .val (.int p1), .val (.int p2), .val (.int p3), .val (.long q4), .second, .val (.int p5), .unset, .unset, .unset] [(.int p2), (.int p1)])) (B := s₁.setTop (mkF m 9 #[.val (.ref a0), .val (.int p1), .val (.int p2), .val (.int p3), .val (.long q4), .second, .val (.int p5), .unset, .unset, .unset] [(.int (p2 + p3)), (.int p1)])) (fun t k => ?_) ?_
    · show Steps p.tables e below (s₁.setTop (mkF m 2 #[.val (.ref a0), .val (.int p1), .val (.int p2), .val (.int p3), .val (.long q4), .second, .val (.int p5), .unset, .unset, .unset] [(.int p2), (.int p1)])) t
      refine XS.icmpNo X0.here hx rfl (hb hby d3_2) rfl (flt hc1).1 ?_
      show Steps p.tables e below (s₁.setTop (mkF m 5 #[.val (.ref a0), .val (.int p1), .val (.int p2), .val (.int p3), .val (.long q4), .second, .val (.int p5), .unset, .unset, .unset] [])) t
      refine XS.iloadN X0.here hx rfl (hb hby d3_5) rfl ?_
      show Steps p.tables e below (s₁.setTop (mkF m 6 #[.val (.ref a0), .val (.int p1), .val (.int p2), .val (.int p3), .val (.long q4), .second, .val (.int p5), .unset, .unset, .unset] [(.int p1)])) t
      refine XS.iloadN X0.here hx rfl (hb hby d3_6) rfl ?_
      show Steps p.tables e below (s₁.setTop (mkF m 7 #[.val (.ref a0), .val (.int p1), .val (.int p2), .val (.int p3), .val (.long q4), .second, .val (.int p5), .unset, .unset, .unset] [(.int p2), (.int p1)])) t
      refine XS.iloadN X0.here hx rfl (hb hby d3_7) rfl ?_
      show Steps p.tables e below (s₁.setTop (mkF m 8 #[.val (.ref a0), .val (.int p1), .val (.int p2), .val (.int p3), .val (.long q4), .second, .val (.int p5), .unset, .unset, .unset] [(.int p3), (.int p2), (.int p1)])) t
      refine XS.iadd X0.here hx rfl (hb hby d3_8) rfl ?_
      exact k
    by_cases hc6 : p1 < (p2 + p3)
    · refine OwnGo.of (A := s₁.setTop (mkF m 9 #[.val (.ref a0), .val (.int p1), .val (.int p2), .val (.int p3), .val (.long q4), .second, .val (.int p5), .unset, .unset, .unset] [(.int (p2 + p3)), (.int p1)])) (B := s₁.setTop (mkF m 51 #[.val (.ref a0), .val (.int p1), .val (.int p2), .val (.int p3), .val (.long q4), .second, .val (.int p5), .val (.int (p1 - p2)), .val (.int ((((q4.toUInt64 >>> (((7 : Int32) * (p1 - p2)) &&& 0x3f).toInt64.toUInt64).toInt64) &&& (127 : Int64)).toInt32)), .unset] [(.int (p3 - (1 : Int32))), (.int (p1 - p2))])) (fun t k => ?_) ?_
      · show Steps p.tables e below (s₁.setTop (mkF m 9 #[.val (.ref a0), .val (.int p1), .val (.int p2), .val (.int p3), .val (.long q4), .second, .val (.int p5), .unset, .unset, .unset] [(.int (p2 + p3)), (.int p1)])) t
        refine XS.icmpYes X0.here hx rfl (pc0 := 9) (pc' := 26) rfl (hb hby d3_9) rfl (tlt hc6).1 (by decide) (by decide) ?_
        show Steps p.tables e below (s₁.setTop (mkF m 26 #[.val (.ref a0), .val (.int p1), .val (.int p2), .val (.int p3), .val (.long q4), .second, .val (.int p5), .unset, .unset, .unset] [])) t
        refine XS.iloadN X0.here hx rfl (hb hby d3_26) rfl ?_
        show Steps p.tables e below (s₁.setTop (mkF m 27 #[.val (.ref a0), .val (.int p1), .val (.int p2), .val (.int p3), .val (.long q4), .second, .val (.int p5), .unset, .unset, .unset] [(.int p1)])) t
        refine XS.iloadN X0.here hx rfl (hb hby d3_27) rfl ?_
        show Steps p.tables e below (s₁.setTop (mkF m 28 #[.val (.ref a0), .val (.int p1), .val (.int p2), .val (.int p3), .val (.long q4), .second, .val (.int p5), .unset, .unset, .unset] [(.int p2), (.int p1)])) t
        refine XS.isub X0.here hx rfl (hb hby d3_28) rfl ?_
        show Steps p.tables e below (s₁.setTop (mkF m 29 #[.val (.ref a0), .val (.int p1), .val (.int p2), .val (.int p3), .val (.long q4), .second, .val (.int p5), .unset, .unset, .unset] [(.int (p1 - p2))])) t
        refine XS.istore X0.here hx rfl (hb hby d3_29) rfl (l' := #[.val (.ref a0), .val (.int p1), .val (.int p2), .val (.int p3), .val (.long q4), .second, .val (.int p5), .val (.int (p1 - p2)), .unset, .unset]) rfl ?_
        show Steps p.tables e below (s₁.setTop (mkF m 31 #[.val (.ref a0), .val (.int p1), .val (.int p2), .val (.int p3), .val (.long q4), .second, .val (.int p5), .val (.int (p1 - p2)), .unset, .unset] [])) t
        refine XS.lload X0.here hx rfl (hb hby d3_31) rfl ?_
        show Steps p.tables e below (s₁.setTop (mkF m 33 #[.val (.ref a0), .val (.int p1), .val (.int p2), .val (.int p3), .val (.long q4), .second, .val (.int p5), .val (.int (p1 - p2)), .unset, .unset] [(.long q4)])) t
        refine XS.bipush X0.here hx rfl (hb hby d3_33) ?_
        show Steps p.tables e below (s₁.setTop (mkF m 35 #[.val (.ref a0), .val (.int p1), .val (.int p2), .val (.int p3), .val (.long q4), .second, .val (.int p5), .val (.int (p1 - p2)), .unset, .unset] [(.int (7 : Int32)), (.long q4)])) t
        refine XS.iload X0.here hx rfl (hb hby d3_35) rfl ?_
        show Steps p.tables e below (s₁.setTop (mkF m 37 #[.val (.ref a0), .val (.int p1), .val (.int p2), .val (.int p3), .val (.long q4), .second, .val (.int p5), .val (.int (p1 - p2)), .unset, .unset] [(.int (p1 - p2)), (.int (7 : Int32)), (.long q4)])) t
        refine XS.imul X0.here hx rfl (hb hby d3_37) rfl ?_
        show Steps p.tables e below (s₁.setTop (mkF m 38 #[.val (.ref a0), .val (.int p1), .val (.int p2), .val (.int p3), .val (.long q4), .second, .val (.int p5), .val (.int (p1 - p2)), .unset, .unset] [(.int ((7 : Int32) * (p1 - p2))), (.long q4)])) t
        refine XS.lushr X0.here hx rfl (hb hby d3_38) rfl ?_
        show Steps p.tables e below (s₁.setTop (mkF m 39 #[.val (.ref a0), .val (.int p1), .val (.int p2), .val (.int p3), .val (.long q4), .second, .val (.int p5), .val (.int (p1 - p2)), .unset, .unset] [(.long ((q4.toUInt64 >>> (((7 : Int32) * (p1 - p2)) &&& 0x3f).toInt64.toUInt64).toInt64))])) t
        refine X0.ldc2Long hx hown (mvT hZ (hw _ (List.mem_of_getElem? (i := 14) rfl))) (g := (mkF m 39 #[.val (.ref a0), .val (.int p1), .val (.int p2), .val (.int p3), .val (.long q4), .second, .val (.int p5), .val (.int (p1 - p2)), .unset, .unset] [(.long ((q4.toUInt64 >>> (((7 : Int32) * (p1 - p2)) &&& 0x3f).toInt64.toUInt64).toInt64))])) rfl (hb hby d3_39) _ ?_
        show Steps p.tables e below (s₁.setTop (mkF m 42 #[.val (.ref a0), .val (.int p1), .val (.int p2), .val (.int p3), .val (.long q4), .second, .val (.int p5), .val (.int (p1 - p2)), .unset, .unset] [(.long (127 : Int64)), (.long ((q4.toUInt64 >>> (((7 : Int32) * (p1 - p2)) &&& 0x3f).toInt64.toUInt64).toInt64))])) t
        refine XS.land X0.here hx rfl (hb hby d3_42) rfl ?_
        show Steps p.tables e below (s₁.setTop (mkF m 43 #[.val (.ref a0), .val (.int p1), .val (.int p2), .val (.int p3), .val (.long q4), .second, .val (.int p5), .val (.int (p1 - p2)), .unset, .unset] [(.long (((q4.toUInt64 >>> (((7 : Int32) * (p1 - p2)) &&& 0x3f).toInt64.toUInt64).toInt64) &&& (127 : Int64)))])) t
        refine XS.l2i X0.here hx rfl (hb hby d3_43) rfl ?_
        show Steps p.tables e below (s₁.setTop (mkF m 44 #[.val (.ref a0), .val (.int p1), .val (.int p2), .val (.int p3), .val (.long q4), .second, .val (.int p5), .val (.int (p1 - p2)), .unset, .unset] [(.int ((((q4.toUInt64 >>> (((7 : Int32) * (p1 - p2)) &&& 0x3f).toInt64.toUInt64).toInt64) &&& (127 : Int64)).toInt32))])) t
        refine XS.istore X0.here hx rfl (hb hby d3_44) rfl (l' := #[.val (.ref a0), .val (.int p1), .val (.int p2), .val (.int p3), .val (.long q4), .second, .val (.int p5), .val (.int (p1 - p2)), .val (.int ((((q4.toUInt64 >>> (((7 : Int32) * (p1 - p2)) &&& 0x3f).toInt64.toUInt64).toInt64) &&& (127 : Int64)).toInt32)), .unset]) rfl ?_
        show Steps p.tables e below (s₁.setTop (mkF m 46 #[.val (.ref a0), .val (.int p1), .val (.int p2), .val (.int p3), .val (.long q4), .second, .val (.int p5), .val (.int (p1 - p2)), .val (.int ((((q4.toUInt64 >>> (((7 : Int32) * (p1 - p2)) &&& 0x3f).toInt64.toUInt64).toInt64) &&& (127 : Int64)).toInt32)), .unset] [])) t
        refine XS.iload X0.here hx rfl (hb hby d3_46) rfl ?_
        show Steps p.tables e below (s₁.setTop (mkF m 48 #[.val (.ref a0), .val (.int p1), .val (.int p2), .val (.int p3), .val (.long q4), .second, .val (.int p5), .val (.int (p1 - p2)), .val (.int ((((q4.toUInt64 >>> (((7 : Int32) * (p1 - p2)) &&& 0x3f).toInt64.toUInt64).toInt64) &&& (127 : Int64)).toInt32)), .unset] [(.int (p1 - p2))])) t
        refine XS.iloadN X0.here hx rfl (hb hby d3_48) rfl ?_
        show Steps p.tables e below (s₁.setTop (mkF m 49 #[.val (.ref a0), .val (.int p1), .val (.int p2), .val (.int p3), .val (.long q4), .second, .val (.int p5), .val (.int (p1 - p2)), .val (.int ((((q4.toUInt64 >>> (((7 : Int32) * (p1 - p2)) &&& 0x3f).toInt64.toUInt64).toInt64) &&& (127 : Int64)).toInt32)), .unset] [(.int p3), (.int (p1 - p2))])) t
        refine XS.iconst X0.here hx rfl (hb hby d3_49) ?_
        show Steps p.tables e below (s₁.setTop (mkF m 50 #[.val (.ref a0), .val (.int p1), .val (.int p2), .val (.int p3), .val (.long q4), .second, .val (.int p5), .val (.int (p1 - p2)), .val (.int ((((q4.toUInt64 >>> (((7 : Int32) * (p1 - p2)) &&& 0x3f).toInt64.toUInt64).toInt64) &&& (127 : Int64)).toInt32)), .unset] [(.int (1 : Int32)), (.int p3), (.int (p1 - p2))])) t
        refine XS.isub X0.here hx rfl (hb hby d3_50) rfl ?_
        exact k
      by_cases hc7 : (p1 - p2) < (p3 - (1 : Int32))
      · refine OwnGo.of (A := s₁.setTop (mkF m 51 #[.val (.ref a0), .val (.int p1), .val (.int p2), .val (.int p3), .val (.long q4), .second, .val (.int p5), .val (.int (p1 - p2)), .val (.int ((((q4.toUInt64 >>> (((7 : Int32) * (p1 - p2)) &&& 0x3f).toInt64.toUInt64).toInt64) &&& (127 : Int64)).toInt32)), .unset] [(.int (p3 - (1 : Int32))), (.int (p1 - p2))])) (B := s₁.setTop (mkF m 69 #[.val (.ref a0), .val (.int p1), .val (.int p2), .val (.int p3), .val (.long q4), .second, .val (.int p5), .val (.int (p1 - p2)), .val (.int ((((q4.toUInt64 >>> (((7 : Int32) * (p1 - p2)) &&& 0x3f).toInt64.toUInt64).toInt64) &&& (127 : Int64)).toInt32)), .val (.int (((((q4.toUInt64 >>> (((7 : Int32) * (p1 - p2)) &&& 0x3f).toInt64.toUInt64).toInt64) &&& (127 : Int64)).toInt32) ||| (128 : Int32)))] [(.int p1), (.ref a0)])) (fun t k => ?_) ?_
        · show Steps p.tables e below (s₁.setTop (mkF m 51 #[.val (.ref a0), .val (.int p1), .val (.int p2), .val (.int p3), .val (.long q4), .second, .val (.int p5), .val (.int (p1 - p2)), .val (.int ((((q4.toUInt64 >>> (((7 : Int32) * (p1 - p2)) &&& 0x3f).toInt64.toUInt64).toInt64) &&& (127 : Int64)).toInt32)), .unset] [(.int (p3 - (1 : Int32))), (.int (p1 - p2))])) t
          refine XS.icmpNo X0.here hx rfl (hb hby d3_51) rfl (tlt hc7).2.1 ?_
          show Steps p.tables e below (s₁.setTop (mkF m 54 #[.val (.ref a0), .val (.int p1), .val (.int p2), .val (.int p3), .val (.long q4), .second, .val (.int p5), .val (.int (p1 - p2)), .val (.int ((((q4.toUInt64 >>> (((7 : Int32) * (p1 - p2)) &&& 0x3f).toInt64.toUInt64).toInt64) &&& (127 : Int64)).toInt32)), .unset] [])) t
          refine XS.iload X0.here hx rfl (hb hby d3_54) rfl ?_
          show Steps p.tables e below (s₁.setTop (mkF m 56 #[.val (.ref a0), .val (.int p1), .val (.int p2), .val (.int p3), .val (.long q4), .second, .val (.int p5), .val (.int (p1 - p2)), .val (.int ((((q4.toUInt64 >>> (((7 : Int32) * (p1 - p2)) &&& 0x3f).toInt64.toUInt64).toInt64) &&& (127 : Int64)).toInt32)), .unset] [(.int ((((q4.toUInt64 >>> (((7 : Int32) * (p1 - p2)) &&& 0x3f).toInt64.toUInt64).toInt64) &&& (127 : Int64)).toInt32))])) t
          refine XS.sipush X0.here hx rfl (hb hby d3_56) ?_
          show Steps p.tables e below (s₁.setTop (mkF m 59 #[.val (.ref a0), .val (.int p1), .val (.int p2), .val (.int p3), .val (.long q4), .second, .val (.int p5), .val (.int (p1 - p2)), .val (.int ((((q4.toUInt64 >>> (((7 : Int32) * (p1 - p2)) &&& 0x3f).toInt64.toUInt64).toInt64) &&& (127 : Int64)).toInt32)), .unset] [(.int (128 : Int32)), (.int ((((q4.toUInt64 >>> (((7 : Int32) * (p1 - p2)) &&& 0x3f).toInt64.toUInt64).toInt64) &&& (127 : Int64)).toInt32))])) t
          refine XS.ior X0.here hx rfl (hb hby d3_59) rfl ?_
          show Steps p.tables e below (s₁.setTop (mkF m 60 #[.val (.ref a0), .val (.int p1), .val (.int p2), .val (.int p3), .val (.long q4), .second, .val (.int p5), .val (.int (p1 - p2)), .val (.int ((((q4.toUInt64 >>> (((7 : Int32) * (p1 - p2)) &&& 0x3f).toInt64.toUInt64).toInt64) &&& (127 : Int64)).toInt32)), .unset] [(.int (((((q4.toUInt64 >>> (((7 : Int32) * (p1 - p2)) &&& 0x3f).toInt64.toUInt64).toInt64) &&& (127 : Int64)).toInt32) ||| (128 : Int32)))])) t
          refine XS.goto X0.here hx rfl (pc0 := 60) (pc' := 65) rfl (hb hby d3_60) (by decide) (by decide) ?_
          show Steps p.tables e below (s₁.setTop (mkF m 65 #[.val (.ref a0), .val (.int p1), .val (.int p2), .val (.int p3), .val (.long q4), .second, .val (.int p5), .val (.int (p1 - p2)), .val (.int ((((q4.toUInt64 >>> (((7 : Int32) * (p1 - p2)) &&& 0x3f).toInt64.toUInt64).toInt64) &&& (127 : Int64)).toInt32)), .unset] [(.int (((((q4.toUInt64 >>> (((7 : Int32) * (p1 - p2)) &&& 0x3f).toInt64.toUInt64).toInt64) &&& (127 : Int64)).toInt32) ||| (128 : Int32)))])) t
          refine XS.istore X0.here hx rfl (hb hby d3_65) rfl (l' := #[.val (.ref a0), .val (.int p1), .val (.int p2), .val (.int p3), .val (.long q4), .second, .val (.int p5), .val (.int (p1 - p2)), .val (.int ((((q4.toUInt64 >>> (((7 : Int32) * (p1 - p2)) &&& 0x3f).toInt64.toUInt64).toInt64) &&& (127 : Int64)).toInt32)), .val (.int (((((q4.toUInt64 >>> (((7 : Int32) * (p1 - p2)) &&& 0x3f).toInt64.toUInt64).toInt64) &&& (127 : Int64)).toInt32) ||| (128 : Int32)))]) rfl ?_
          show Steps p.tables e below (s₁.setTop (mkF m 67 #[.val (.ref a0), .val (.int p1), .val (.int p2), .val (.int p3), .val (.long q4), .second, .val (.int p5), .val (.int (p1 - p2)), .val (.int ((((q4.toUInt64 >>> (((7 : Int32) * (p1 - p2)) &&& 0x3f).toInt64.toUInt64).toInt64) &&& (127 : Int64)).toInt32)), .val (.int (((((q4.toUInt64 >>> (((7 : Int32) * (p1 - p2)) &&& 0x3f).toInt64.toUInt64).toInt64) &&& (127 : Int64)).toInt32) ||| (128 : Int32)))] [])) t
          refine XS.aloadN X0.here hx rfl (hb hby d3_67) rfl rfl ?_
          show Steps p.tables e below (s₁.setTop (mkF m 68 #[.val (.ref a0), .val (.int p1), .val (.int p2), .val (.int p3), .val (.long q4), .second, .val (.int p5), .val (.int (p1 - p2)), .val (.int ((((q4.toUInt64 >>> (((7 : Int32) * (p1 - p2)) &&& 0x3f).toInt64.toUInt64).toInt64) &&& (127 : Int64)).toInt32)), .val (.int (((((q4.toUInt64 >>> (((7 : Int32) * (p1 - p2)) &&& 0x3f).toInt64.toUInt64).toInt64) &&& (127 : Int64)).toInt32) ||| (128 : Int32)))] [(.ref a0)])) t
          refine XS.iloadN X0.here hx rfl (hb hby d3_68) rfl ?_
          exact k
        have cq8 := V_a
        obtain ⟨clq8, Arq8, qq8, Sq8, Nq8, Hq8, Gq8⟩ := cq8
        have hinq8 := inb_of (j := p1) Sq8 (own_in13 _ hj)
        refine OwnGo.of (X0.baloadBytes hx (j := p1) (v := (.int (F0 p1.toNatClampNeg))) (by rw [e0]; exact Arq8.1) (State.isArrayOf_alike hZ.alike Arq8.2.1) Arq8.2.2 hinq8 (Hq8.at hinq8 (own_arr_get F0 _ _ (by show p1.toInt.toNat < 13; omega))) (g := (mkF m 69 #[.val (.ref a0), .val (.int p1), .val (.int p2), .val (.int p3), .val (.long q4), .second, .val (.int p5), .val (.int (p1 - p2)), .val (.int ((((q4.toUInt64 >>> (((7 : Int32) * (p1 - p2)) &&& 0x3f).toInt64.toUInt64).toInt64) &&& (127 : Int64)).toInt32)), .val (.int (((((q4.toUInt64 >>> (((7 : Int32) * (p1 - p2)) &&& 0x3f).toInt64.toUInt64).toInt64) &&& (127 : Int64)).toInt32) ||| (128 : Int32)))] [(.int p1), (.ref a0)])) rfl rfl (hb hby d3_69)) ?_
        show OwnGo p.tables e below _ (s₁.setTop (mkF m 70 #[.val (.ref a0), .val (.int p1), .val (.int p2), .val (.int p3), .val (.long q4), .second, .val (.int p5), .val (.int (p1 - p2)), .val (.int ((((q4.toUInt64 >>> (((7 : Int32) * (p1 - p2)) &&& 0x3f).toInt64.toUInt64).toInt64) &&& (127 : Int64)).toInt32)), .val (.int (((((q4.toUInt64 >>> (((7 : Int32) * (p1 - p2)) &&& 0x3f).toInt64.toUInt64).toInt64) &&& (127 : Int64)).toInt32) ||| (128 : Int32)))] [(.int (F0 p1.toNatClampNeg))]))
        refine OwnGo.of (A := s₁.setTop (mkF m 70 #[.val (.ref a0), .val (.int p1), .val (.int p2), .val (.int p3), .val (.long q4), .second, .val (.int p5), .val (.int (p1 - p2)), .val (.int ((((q4.toUInt64 >>> (((7 : Int32) * (p1 - p2)) &&& 0x3f).toInt64.toUInt64).toInt64) &&& (127 : Int64)).toInt32)), .val (.int (((((q4.toUInt64 >>> (((7 : Int32) * (p1 - p2)) &&& 0x3f).toInt64.toUInt64).toInt64) &&& (127 : Int64)).toInt32) ||| (128 : Int32)))] [(.int (F0 p1.toNatClampNeg))])) (B := s₁.setTop (mkF m 73 #[.val (.ref a0), .val (.int p1), .val (.int p2), .val (.int p3), .val (.long q4), .second, .val (.int p5), .val (.int (p1 - p2)), .val (.int ((((q4.toUInt64 >>> (((7 : Int32) * (p1 - p2)) &&& 0x3f).toInt64.toUInt64).toInt64) &&& (127 : Int64)).toInt32)), .val (.int (((((q4.toUInt64 >>> (((7 : Int32) * (p1 - p2)) &&& 0x3f).toInt64.toUInt64).toInt64) &&& (127 : Int64)).toInt32) ||| (128 : Int32)))] [(.int ((((((q4.toUInt64 >>> (((7 : Int32) * (p1 - p2)) &&& 0x3f).toInt64.toUInt64).toInt64) &&& (127 : Int64)).toInt32) ||| (128 : Int32)).toInt8.toInt32)), (.int (F0 p1.toNatClampNeg))])) (fun t k => ?_) ?_
        · show Steps p.tables e below (s₁.setTop (mkF m 70 #[.val (.ref a0), .val (.int p1), .val (.int p2), .val (.int p3), .val (.long q4), .second, .val (.int p5), .val (.int (p1 - p2)), .val (.int ((((q4.toUInt64 >>> (((7 : Int32) * (p1 - p2)) &&& 0x3f).toInt64.toUInt64).toInt64) &&& (127 : Int64)).toInt32)), .val (.int (((((q4.toUInt64 >>> (((7 : Int32) * (p1 - p2)) &&& 0x3f).toInt64.toUInt64).toInt64) &&& (127 : Int64)).toInt32) ||| (128 : Int32)))] [(.int (F0 p1.toNatClampNeg))])) t
          refine XS.iload X0.here hx rfl (hb hby d3_70) rfl ?_
          show Steps p.tables e below (s₁.setTop (mkF m 72 #[.val (.ref a0), .val (.int p1), .val (.int p2), .val (.int p3), .val (.long q4), .second, .val (.int p5), .val (.int (p1 - p2)), .val (.int ((((q4.toUInt64 >>> (((7 : Int32) * (p1 - p2)) &&& 0x3f).toInt64.toUInt64).toInt64) &&& (127 : Int64)).toInt32)), .val (.int (((((q4.toUInt64 >>> (((7 : Int32) * (p1 - p2)) &&& 0x3f).toInt64.toUInt64).toInt64) &&& (127 : Int64)).toInt32) ||| (128 : Int32)))] [(.int (((((q4.toUInt64 >>> (((7 : Int32) * (p1 - p2)) &&& 0x3f).toInt64.toUInt64).toInt64) &&& (127 : Int64)).toInt32) ||| (128 : Int32))), (.int (F0 p1.toNatClampNeg))])) t
          refine XS.i2b X0.here hx rfl (hb hby d3_72) rfl ?_
          exact k
        by_cases hc9 : (F0 p1.toNatClampNeg) = ((((((q4.toUInt64 >>> (((7 : Int32) * (p1 - p2)) &&& 0x3f).toInt64.toUInt64).toInt64) &&& (127 : Int64)).toInt32) ||| (128 : Int32)).toInt8.toInt32)
        · refine OwnGo.of (A := s₁.setTop (mkF m 73 #[.val (.ref a0), .val (.int p1), .val (.int p2), .val (.int p3), .val (.long q4), .second, .val (.int p5), .val (.int (p1 - p2)), .val (.int ((((q4.toUInt64 >>> (((7 : Int32) * (p1 - p2)) &&& 0x3f).toInt64.toUInt64).toInt64) &&& (127 : Int64)).toInt32)), .val (.int (((((q4.toUInt64 >>> (((7 : Int32) * (p1 - p2)) &&& 0x3f).toInt64.toUInt64).toInt64) &&& (127 : Int64)).toInt32) ||| (128 : Int32)))] [(.int ((((((q4.toUInt64 >>> (((7 : Int32) * (p1 - p2)) &&& 0x3f).toInt64.toUInt64).toInt64) &&& (127 : Int64)).toInt32) ||| (128 : Int32)).toInt8.toInt32)), (.int (F0 p1.toNatClampNeg))])) (B := s₁.setTop (mkF m 81 #[.val (.ref a0), .val (.int p1), .val (.int p2), .val (.int p3), .val (.long q4), .second, .val (.int p5), .val (.int (p1 - p2)), .val (.int ((((q4.toUInt64 >>> (((7 : Int32) * (p1 - p2)) &&& 0x3f).toInt64.toUInt64).toInt64) &&& (127 : Int64)).toInt32)), .val (.int (((((q4.toUInt64 >>> (((7 : Int32) * (p1 - p2)) &&& 0x3f).toInt64.toUInt64).toInt64) &&& (127 : Int64)).toInt32) ||| (128 : Int32)))] [(.int (1 : Int32))])) (fun t k => ?_) ?_
          · show Steps p.tables e below (s₁.setTop (mkF m 73 #[.val (.ref a0), .val (.int p1), .val (.int p2), .val (.int p3), .val (.long q4), .second, .val (.int p5), .val (.int (p1 - p2)), .val (.int ((((q4.toUInt64 >>> (((7 : Int32) * (p1 - p2)) &&& 0x3f).toInt64.toUInt64).toInt64) &&& (127 : Int64)).toInt32)), .val (.int (((((q4.toUInt64 >>> (((7 : Int32) * (p1 - p2)) &&& 0x3f).toInt64.toUInt64).toInt64) &&& (127 : Int64)).toInt32) ||| (128 : Int32)))] [(.int ((((((q4.toUInt64 >>> (((7 : Int32) * (p1 - p2)) &&& 0x3f).toInt64.toUInt64).toInt64) &&& (127 : Int64)).toInt32) ||| (128 : Int32)).toInt8.toInt32)), (.int (F0 p1.toNatClampNeg))])) t
            refine XS.icmpNo X0.here hx rfl (hb hby d3_73) rfl (teq hc9).2 ?_
            show Steps p.tables e below (s₁.setTop (mkF m 76 #[.val (.ref a0), .val (.int p1), .val (.int p2), .val (.int p3), .val (.long q4), .second, .val (.int p5), .val (.int (p1 - p2)), .val (.int ((((q4.toUInt64 >>> (((7 : Int32) * (p1 - p2)) &&& 0x3f).toInt64.toUInt64).toInt64) &&& (127 : Int64)).toInt32)), .val (.int (((((q4.toUInt64 >>> (((7 : Int32) * (p1 - p2)) &&& 0x3f).toInt64.toUInt64).toInt64) &&& (127 : Int64)).toInt32) ||| (128 : Int32)))] [])) t
            refine XS.iconst X0.here hx rfl (hb hby d3_76) ?_
            show Steps p.tables e below (s₁.setTop (mkF m 77 #[.val (.ref a0), .val (.int p1), .val (.int p2), .val (.int p3), .val (.long q4), .second, .val (.int p5), .val (.int (p1 - p2)), .val (.int ((((q4.toUInt64 >>> (((7 : Int32) * (p1 - p2)) &&& 0x3f).toInt64.toUInt64).toInt64) &&& (127 : Int64)).toInt32)), .val (.int (((((q4.toUInt64 >>> (((7 : Int32) * (p1 - p2)) &&& 0x3f).toInt64.toUInt64).toInt64) &&& (127 : Int64)).toInt32) ||| (128 : Int32)))] [(.int (1 : Int32))])) t
            refine XS.goto X0.here hx rfl (pc0 := 77) (pc' := 81) rfl (hb hby d3_77) (by decide) (by decide) ?_
            exact k
          obtain ⟨fs, hr, hrun, hended, hW, hsame⟩ := X0.leave (v := some (.int (nar .boolean (1 : Int32)))) (fun h => by rw [Bd.returns] at h; cases h) hlk
          refine ⟨_, _, ?_, hrun, hended, _, _, rfl, ?_, ⟨_, rfl⟩, hW, hsame.mono (by decide) (by decide)⟩
          · show Steps p.tables e below (s₁.setTop (mkF m 81 #[.val (.ref a0), .val (.int p1), .val (.int p2), .val (.int p3), .val (.long q4), .second, .val (.int p5), .val (.int (p1 - p2)), .val (.int ((((q4.toUInt64 >>> (((7 : Int32) * (p1 - p2)) &&& 0x3f).toInt64.toUInt64).toInt64) &&& (127 : Int64)).toInt32)), .val (.int (((((q4.toUInt64 >>> (((7 : Int32) * (p1 - p2)) &&& 0x3f).toInt64.toUInt64).toInt64) &&& (127 : Int64)).toInt32) ||| (128 : Int32)))] [(.int (1 : Int32))])) _
            exact retN X0 hx (t := .boolean) Bd.returns (by simp) (hb hby d3_81) hr
          · show Qrm3 Z a0 p1 p2 p3 q4 p5 F0 ka h0 n0 _ (s₁.setFrames fs).heap _
            rw [show (s₁.setFrames fs).heap = h0 from e0]
            exact ⟨congrArg (fun z => some (Value.int z)) (by rw [own_ok, if_neg hc1, if_pos hc6, if_pos hc7, if_pos hc9]; try rfl), N0, rfl⟩
        · refine OwnGo.of (A := s₁.setTop (mkF m 73 #[.val (.ref a0), .val (.int p1), .val (.int p2), .val (.int p3), .val (.long q4), .second, .val (.int p5), .val (.int (p1 - p2)), .val (.int ((((q4.toUInt64 >>> (((7 : Int32) * (p1 - p2)) &&& 0x3f).toInt64.toUInt64).toInt64) &&& (127 : Int64)).toInt32)), .val (.int (((((q4.toUInt64 >>> (((7 : Int32) * (p1 - p2)) &&& 0x3f).toInt64.toUInt64).toInt64) &&& (127 : Int64)).toInt32) ||| (128 : Int32)))] [(.int ((((((q4.toUInt64 >>> (((7 : Int32) * (p1 - p2)) &&& 0x3f).toInt64.toUInt64).toInt64) &&& (127 : Int64)).toInt32) ||| (128 : Int32)).toInt8.toInt32)), (.int (F0 p1.toNatClampNeg))])) (B := s₁.setTop (mkF m 81 #[.val (.ref a0), .val (.int p1), .val (.int p2), .val (.int p3), .val (.long q4), .second, .val (.int p5), .val (.int (p1 - p2)), .val (.int ((((q4.toUInt64 >>> (((7 : Int32) * (p1 - p2)) &&& 0x3f).toInt64.toUInt64).toInt64) &&& (127 : Int64)).toInt32)), .val (.int (((((q4.toUInt64 >>> (((7 : Int32) * (p1 - p2)) &&& 0x3f).toInt64.toUInt64).toInt64) &&& (127 : Int64)).toInt32) ||| (128 : Int32)))] [(.int (0 : Int32))])) (fun t k => ?_) ?_
          · show Steps p.tables e below (s₁.setTop (mkF m 73 #[.val (.ref a0), .val (.int p1), .val (.int p2), .val (.int p3), .val (.long q4), .second, .val (.int p5), .val (.int (p1 - p2)), .val (.int ((((q4.toUInt64 >>> (((7 : Int32) * (p1 - p2)) &&& 0x3f).toInt64.toUInt64).toInt64) &&& (127 : Int64)).toInt32)), .val (.int (((((q4.toUInt64 >>> (((7 : Int32) * (p1 - p2)) &&& 0x3f).toInt64.toUInt64).toInt64) &&& (127 : Int64)).toInt32) ||| (128 : Int32)))] [(.int ((((((q4.toUInt64 >>> (((7 : Int32) * (p1 - p2)) &&& 0x3f).toInt64.toUInt64).toInt64) &&& (127 : Int64)).toInt32) ||| (128 : Int32)).toInt8.toInt32)), (.int (F0 p1.toNatClampNeg))])) t
            refine XS.icmpYes X0.here hx rfl (pc0 := 73) (pc' := 80) rfl (hb hby d3_73) rfl (feq hc9).2 (by decide) (by decide) ?_
            show Steps p.tables e below (s₁.setTop (mkF m 80 #[.val (.ref a0), .val (.int p1), .val (.int p2), .val (.int p3), .val (.long q4), .second, .val (.int p5), .val (.int (p1 - p2)), .val (.int ((((q4.toUInt64 >>> (((7 : Int32) * (p1 - p2)) &&& 0x3f).toInt64.toUInt64).toInt64) &&& (127 : Int64)).toInt32)), .val (.int (((((q4.toUInt64 >>> (((7 : Int32) * (p1 - p2)) &&& 0x3f).toInt64.toUInt64).toInt64) &&& (127 : Int64)).toInt32) ||| (128 : Int32)))] [])) t
            refine XS.iconst X0.here hx rfl (hb hby d3_80) ?_
            exact k
          obtain ⟨fs, hr, hrun, hended, hW, hsame⟩ := X0.leave (v := some (.int (nar .boolean (0 : Int32)))) (fun h => by rw [Bd.returns] at h; cases h) hlk
          refine ⟨_, _, ?_, hrun, hended, _, _, rfl, ?_, ⟨_, rfl⟩, hW, hsame.mono (by decide) (by decide)⟩
          · show Steps p.tables e below (s₁.setTop (mkF m 81 #[.val (.ref a0), .val (.int p1), .val (.int p2), .val (.int p3), .val (.long q4), .second, .val (.int p5), .val (.int (p1 - p2)), .val (.int ((((q4.toUInt64 >>> (((7 : Int32) * (p1 - p2)) &&& 0x3f).toInt64.toUInt64).toInt64) &&& (127 : Int64)).toInt32)), .val (.int (((((q4.toUInt64 >>> (((7 : Int32) * (p1 - p2)) &&& 0x3f).toInt64.toUInt64).toInt64) &&& (127 : Int64)).toInt32) ||| (128 : Int32)))] [(.int (0 : Int32))])) _
            exact retN X0 hx (t := .boolean) Bd.returns (by simp) (hb hby d3_81) hr
          · show Qrm3 Z a0 p1 p2 p3 q4 p5 F0 ka h0 n0 _ (s₁.setFrames fs).heap _
            rw [show (s₁.setFrames fs).heap = h0 from e0]
            exact ⟨congrArg (fun z => some (Value.int z)) (by rw [own_ok, if_neg hc1, if_pos hc6, if_pos hc7, if_neg hc9]; try rfl), N0, rfl⟩
      · refine OwnGo.of (A := s₁.setTop (mkF m 51 #[.val (.ref a0), .val (.int p1), .val (.int p2), .val (.int p3), .val (.long q4), .second, .val (.int p5), .val (.int (p1 - p2)), .val (.int ((((q4.toUInt64 >>> (((7 : Int32) * (p1 - p2)) &&& 0x3f).toInt64.toUInt64).toInt64) &&& (127 : Int64)).toInt32)), .unset] [(.int (p3 - (1 : Int32))), (.int (p1 - p2))])) (B := s₁.setTop (mkF m 69 #[.val (.ref a0), .val (.int p1), .val (.int p2), .val (.int p3), .val (.long q4), .second, .val (.int p5), .val (.int (p1 - p2)), .val (.int ((((q4.toUInt64 >>> (((7 : Int32) * (p1 - p2)) &&& 0x3f).toInt64.toUInt64).toInt64) &&& (127 : Int64)).toInt32)), .val (.int ((((q4.toUInt64 >>> (((7 : Int32) * (p1 - p2)) &&& 0x3f).toInt64.toUInt64).toInt64) &&& (127 : Int64)).toInt32))] [(.int p1), (.ref a0)])) (fun t k => ?_) ?_
        · show Steps p.tables e below (s₁.setTop (mkF m 51 #[.val (.ref a0), .val (.int p1), .val (.int p2), .val (.int p3), .val (.long q4), .second, .val (.int p5), .val (.int (p1 - p2)), .val (.int ((((q4.toUInt64 >>> (((7 : Int32) * (p1 - p2)) &&& 0x3f).toInt64.toUInt64).toInt64) &&& (127 : Int64)).toInt32)), .unset] [(.int (p3 - (1 : Int32))), (.int (p1 - p2))])) t
          refine XS.icmpYes X0.here hx rfl (pc0 := 51) (pc' := 63) rfl (hb hby d3_51) rfl (flt hc7).2.1 (by decide) (by decide) ?_
          show Steps p.tables e below (s₁.setTop (mkF m 63 #[.val (.ref a0), .val (.int p1), .val (.int p2), .val (.int p3), .val (.long q4), .second, .val (.int p5), .val (.int (p1 - p2)), .val (.int ((((q4.toUInt64 >>> (((7 : Int32) * (p1 - p2)) &&& 0x3f).toInt64.toUInt64).toInt64) &&& (127 : Int64)).toInt32)), .unset] [])) t
          refine XS.iload X0.here hx rfl (hb hby d3_63) rfl ?_
          show Steps p.tables e below (s₁.setTop (mkF m 65 #[.val (.ref a0), .val (.int p1), .val (.int p2), .val (.int p3), .val (.long q4), .second, .val (.int p5), .val (.int (p1 - p2)), .val (.int ((((q4.toUInt64 >>> (((7 : Int32) * (p1 - p2)) &&& 0x3f).toInt64.toUInt64).toInt64) &&& (127 : Int64)).toInt32)), .unset] [(.int ((((q4.toUInt64 >>> (((7 : Int32) * (p1 - p2)) &&& 0x3f).toInt64.toUInt64).toInt64) &&& (127 : Int64)).toInt32))])) t
          refine XS.istore X0.here hx rfl (hb hby d3_65) rfl (l' := #[.val (.ref a0), .val (.int p1), .val (.int p2), .val (.int p3), .val (.long q4), .second, .val (.int p5), .val (.int (p1 - p2)), .val (.int ((((q4.toUInt64 >>> (((7 : Int32) * (p1 - p2)) &&& 0x3f).toInt64.toUInt64).toInt64) &&& (127 : Int64)).toInt32)), .val (.int ((((q4.toUInt64 >>> (((7 : Int32) * (p1 - p2)) &&& 0x3f).toInt64.toUInt64).toInt64) &&& (127 : Int64)).toInt32))]) rfl ?_
          show Steps p.tables e below (s₁.setTop (mkF m 67 #[.val (.ref a0), .val (.int p1), .val (.int p2), .val (.int p3), .val (.long q4), .second, .val (.int p5), .val (.int (p1 - p2)), .val (.int ((((q4.toUInt64 >>> (((7 : Int32) * (p1 - p2)) &&& 0x3f).toInt64.toUInt64).toInt64) &&& (127 : Int64)).toInt32)), .val (.int ((((q4.toUInt64 >>> (((7 : Int32) * (p1 - p2)) &&& 0x3f).toInt64.toUInt64).toInt64) &&& (127 : Int64)).toInt32))] [])) t
          refine XS.aloadN X0.here hx rfl (hb hby d3_67) rfl rfl ?_
          show Steps p.tables e below (s₁.setTop (mkF m 68 #[.val (.ref a0), .val (.int p1), .val (.int p2), .val (.int p3), .val (.long q4), .second, .val (.int p5), .val (.int (p1 - p2)), .val (.int ((((q4.toUInt64 >>> (((7 : Int32) * (p1 - p2)) &&& 0x3f).toInt64.toUInt64).toInt64) &&& (127 : Int64)).toInt32)), .val (.int ((((q4.toUInt64 >>> (((7 : Int32) * (p1 - p2)) &&& 0x3f).toInt64.toUInt64).toInt64) &&& (127 : Int64)).toInt32))] [(.ref a0)])) t
          refine XS.iloadN X0.here hx rfl (hb hby d3_68) rfl ?_
          exact k
        have cq12 := V_a
        obtain ⟨clq12, Arq12, qq12, Sq12, Nq12, Hq12, Gq12⟩ := cq12
        have hinq12 := inb_of (j := p1) Sq12 (own_in13 _ hj)
        refine OwnGo.of (X0.baloadBytes hx (j := p1) (v := (.int (F0 p1.toNatClampNeg))) (by rw [e0]; exact Arq12.1) (State.isArrayOf_alike hZ.alike Arq12.2.1) Arq12.2.2 hinq12 (Hq12.at hinq12 (own_arr_get F0 _ _ (by show p1.toInt.toNat < 13; omega))) (g := (mkF m 69 #[.val (.ref a0), .val (.int p1), .val (.int p2), .val (.int p3), .val (.long q4), .second, .val (.int p5), .val (.int (p1 - p2)), .val (.int ((((q4.toUInt64 >>> (((7 : Int32) * (p1 - p2)) &&& 0x3f).toInt64.toUInt64).toInt64) &&& (127 : Int64)).toInt32)), .val (.int ((((q4.toUInt64 >>> (((7 : Int32) * (p1 - p2)) &&& 0x3f).toInt64.toUInt64).toInt64) &&& (127 : Int64)).toInt32))] [(.int p1), (.ref a0)])) rfl rfl (hb hby d3_69)) ?_
        show OwnGo p.tables e below _ (s₁.setTop (mkF m 70 #[.val (.ref a0), .val (.int p1), .val (.int p2), .val (.int p3), .val (.long q4), .second, .val (.int p5), .val (.int (p1 - p2)), .val (.int ((((q4.toUInt64 >>> (((7 : Int32) * (p1 - p2)) &&& 0x3f).toInt64.toUInt64).toInt64) &&& (127 : Int64)).toInt32)), .val (.int ((((q4.toUInt64 >>> (((7 : Int32) * (p1 - p2)) &&& 0x3f).toInt64.toUInt64).toInt64) &&& (127 : Int64)).toInt32))] [(.int (F0 p1.toNatClampNeg))]))
        refine OwnGo.of (A := s₁.setTop (mkF m 70 #[.val (.ref a0), .val (.int p1), .val (.int p2), .val (.int p3), .val (.long q4), .second, .val (.int p5), .val (.int (p1 - p2)), .val (.int ((((q4.toUInt64 >>> (((7 : Int32) * (p1 - p2)) &&& 0x3f).toInt64.toUInt64).toInt64) &&& (127 : Int64)).toInt32)), .val (.int ((((q4.toUInt64 >>> (((7 : Int32) * (p1 - p2)) &&& 0x3f).toInt64.toUInt64).toInt64) &&& (127 : Int64)).toInt32))] [(.int (F0 p1.toNatClampNeg))])) (B := s₁.setTop (mkF m 73 #[.val (.ref a0), .val (.int p1), .val (.int p2), .val (.int p3), .val (.long q4), .second, .val (.int p5), .val (.int (p1 - p2)), .val (.int ((((q4.toUInt64 >>> (((7 : Int32) * (p1 - p2)) &&& 0x3f).toInt64.toUInt64).toInt64) &&& (127 : Int64)).toInt32)), .val (.int ((((q4.toUInt64 >>> (((7 : Int32) * (p1 - p2)) &&& 0x3f).toInt64.toUInt64).toInt64) &&& (127 : Int64)).toInt32))] [(.int (((((q4.toUInt64 >>> (((7 : Int32) * (p1 - p2)) &&& 0x3f).toInt64.toUInt64).toInt64) &&& (127 : Int64)).toInt32).toInt8.toInt32)), (.int (F0 p1.toNatClampNeg))])) (fun t k => ?_) ?_
        · show Steps p.tables e below (s₁.setTop (mkF m 70 #[.val (.ref a0), .val (.int p1), .val (.int p2), .val (.int p3), .val (.long q4), .second, .val (.int p5), .val (.int (p1 - p2)), .val (.int ((((q4.toUInt64 >>> (((7 : Int32) * (p1 - p2)) &&& 0x3f).toInt64.toUInt64).toInt64) &&& (127 : Int64)).toInt32)), .val (.int ((((q4.toUInt64 >>> (((7 : Int32) * (p1 - p2)) &&& 0x3f).toInt64.toUInt64).toInt64) &&& (127 : Int64)).toInt32))] [(.int (F0 p1.toNatClampNeg))])) t
          refine XS.iload X0.here hx rfl (hb hby d3_70) rfl ?_
          show Steps p.tables e below (s₁.setTop (mkF m 72 #[.val (.ref a0), .val (.int p1), .val (.int p2), .val (.int p3), .val (.long q4), .second, .val (.int p5), .val (.int (p1 - p2)), .val (.int ((((q4.toUInt64 >>> (((7 : Int32) * (p1 - p2)) &&& 0x3f).toInt64.toUInt64).toInt64) &&& (127 : Int64)).toInt32)), .val (.int ((((q4.toUInt64 >>> (((7 : Int32) * (p1 - p2)) &&& 0x3f).toInt64.toUInt64).toInt64) &&& (127 : Int64)).toInt32))] [(.int ((((q4.toUInt64 >>> (((7 : Int32) * (p1 - p2)) &&& 0x3f).toInt64.toUInt64).toInt64) &&& (127 : Int64)).toInt32)), (.int (F0 p1.toNatClampNeg))])) t
          refine XS.i2b X0.here hx rfl (hb hby d3_72) rfl ?_
          exact k
        by_cases hc13 : (F0 p1.toNatClampNeg) = (((((q4.toUInt64 >>> (((7 : Int32) * (p1 - p2)) &&& 0x3f).toInt64.toUInt64).toInt64) &&& (127 : Int64)).toInt32).toInt8.toInt32)
        · refine OwnGo.of (A := s₁.setTop (mkF m 73 #[.val (.ref a0), .val (.int p1), .val (.int p2), .val (.int p3), .val (.long q4), .second, .val (.int p5), .val (.int (p1 - p2)), .val (.int ((((q4.toUInt64 >>> (((7 : Int32) * (p1 - p2)) &&& 0x3f).toInt64.toUInt64).toInt64) &&& (127 : Int64)).toInt32)), .val (.int ((((q4.toUInt64 >>> (((7 : Int32) * (p1 - p2)) &&& 0x3f).toInt64.toUInt64).toInt64) &&& (127 : Int64)).toInt32))] [(.int (((((q4.toUInt64 >>> (((7 : Int32) * (p1 - p2)) &&& 0x3f).toInt64.toUInt64).toInt64) &&& (127 : Int64)).toInt32).toInt8.toInt32)), (.int (F0 p1.toNatClampNeg))])) (B := s₁.setTop (mkF m 81 #[.val (.ref a0), .val (.int p1), .val (.int p2), .val (.int p3), .val (.long q4), .second, .val (.int p5), .val (.int (p1 - p2)), .val (.int ((((q4.toUInt64 >>> (((7 : Int32) * (p1 - p2)) &&& 0x3f).toInt64.toUInt64).toInt64) &&& (127 : Int64)).toInt32)), .val (.int ((((q4.toUInt64 >>> (((7 : Int32) * (p1 - p2)) &&& 0x3f).toInt64.toUInt64).toInt64) &&& (127 : Int64)).toInt32))] [(.int (1 : Int32))])) (fun t k => ?_) ?_
          · show Steps p.tables e below (s₁.setTop (mkF m 73 #[.val (.ref a0), .val (.int p1), .val (.int p2), .val (.int p3), .val (.long q4), .second, .val (.int p5), .val (.int (p1 - p2)), .val (.int ((((q4.toUInt64 >>> (((7 : Int32) * (p1 - p2)) &&& 0x3f).toInt64.toUInt64).toInt64) &&& (127 : Int64)).toInt32)), .val (.int ((((q4.toUInt64 >>> (((7 : Int32) * (p1 - p2)) &&& 0x3f).toInt64.toUInt64).toInt64) &&& (127 : Int64)).toInt32))] [(.int (((((q4.toUInt64 >>> (((7 : Int32) * (p1 - p2)) &&& 0x3f).toInt64.toUInt64).toInt64) &&& (127 : Int64)).toInt32).toInt8.toInt32)), (.int (F0 p1.toNatClampNeg))])) t
            refine XS.icmpNo X0.here hx rfl (hb hby d3_73) rfl (teq hc13).2 ?_
            show Steps p.tables e below (s₁.setTop (mkF m 76 #[.val (.ref a0), .val (.int p1), .val (.int p2), .val (.int p3), .val (.long q4), .second, .val (.int p5), .val (.int (p1 - p2)), .val (.int ((((q4.toUInt64 >>> (((7 : Int32) * (p1 - p2)) &&& 0x3f).toInt64.toUInt64).toInt64) &&& (127 : Int64)).toInt32)), .val (.int ((((q4.toUInt64 >>> (((7 : Int32) * (p1 - p2)) &&& 0x3f).toInt64.toUInt64).toInt64) &&& (127 : Int64)).toInt32))] [])) t
            refine XS.iconst X0.here hx rfl (hb hby d3_76) ?_
            show Steps p.tables e below (s₁.setTop (mkF m 77 #[.val (.ref a0), .val (.int p1), .val (.int p2), .val (.int p3), .val (.long q4), .second, .val (.int p5), .val (.int (p1 - p2)), .val (.int ((((q4.toUInt64 >>> (((7 : Int32) * (p1 - p2)) &&& 0x3f).toInt64.toUInt64).toInt64) &&& (127 : Int64)).toInt32)), .val (.int ((((q4.toUInt64 >>> (((7 : Int32) * (p1 - p2)) &&& 0x3f).toInt64.toUInt64).toInt64) &&& (127 : Int64)).toInt32))] [(.int (1 : Int32))])) t
            refine XS.goto X0.here hx rfl (pc0 := 77) (pc' := 81) rfl (hb hby d3_77) (by decide) (by decide) ?_
            exact k
          obtain ⟨fs, hr, hrun, hended, hW, hsame⟩ := X0.leave (v := some (.int (nar .boolean (1 : Int32)))) (fun h => by rw [Bd.returns] at h; cases h) hlk
          refine ⟨_, _, ?_, hrun, hended, _, _, rfl, ?_, ⟨_, rfl⟩, hW, hsame.mono (by decide) (by decide)⟩
          · show Steps p.tables e below (s₁.setTop (mkF m 81 #[.val (.ref a0), .val (.int p1), .val (.int p2), .val (.int p3), .val (.long q4), .second, .val (.int p5), .val (.int (p1 - p2)), .val (.int ((((q4.toUInt64 >>> (((7 : Int32) * (p1 - p2)) &&& 0x3f).toInt64.toUInt64).toInt64) &&& (127 : Int64)).toInt32)), .val (.int ((((q4.toUInt64 >>> (((7 : Int32) * (p1 - p2)) &&& 0x3f).toInt64.toUInt64).toInt64) &&& (127 : Int64)).toInt32))] [(.int (1 : Int32))])) _
            exact retN X0 hx (t := .boolean) Bd.returns (by simp) (hb hby d3_81) hr
          · show Qrm3 Z a0 p1 p2 p3 q4 p5 F0 ka h0 n0 _ (s₁.setFrames fs).heap _
            rw [show (s₁.setFrames fs).heap = h0 from e0]
            exact ⟨congrArg (fun z => some (Value.int z)) (by rw [own_ok, if_neg hc1, if_pos hc6, if_neg hc7, if_pos hc13]; try rfl), N0, rfl⟩
        · refine OwnGo.of (A := s₁.setTop (mkF m 73 #[.val (.ref a0), .val (.int p1), .val (.int p2), .val (.int p3), .val (.long q4), .second, .val (.int p5), .val (.int (p1 - p2)), .val (.int ((((q4.toUInt64 >>> (((7 : Int32) * (p1 - p2)) &&& 0x3f).toInt64.toUInt64).toInt64) &&& (127 : Int64)).toInt32)), .val (.int ((((q4.toUInt64 >>> (((7 : Int32) * (p1 - p2)) &&& 0x3f).toInt64.toUInt64).toInt64) &&& (127 : Int64)).toInt32))] [(.int (((((q4.toUInt64 >>> (((7 : Int32) * (p1 - p2)) &&& 0x3f).toInt64.toUInt64).toInt64) &&& (127 : Int64)).toInt32).toInt8.toInt32)), (.int (F0 p1.toNatClampNeg))])) (B := s₁.setTop (mkF m 81 #[.val (.ref a0), .val (.int p1), .val (.int p2), .val (.int p3), .val (.long q4), .second, .val (.int p5), .val (.int (p1 - p2)), .val (.int ((((q4.toUInt64 >>> (((7 : Int32) * (p1 - p2)) &&& 0x3f).toInt64.toUInt64).toInt64) &&& (127 : Int64)).toInt32)), .val (.int ((((q4.toUInt64 >>> (((7 : Int32) * (p1 - p2)) &&& 0x3f).toInt64.toUInt64).toInt64) &&& (127 : Int64)).toInt32))] [(.int (0 : Int32))])) (fun t k => ?_) ?_
          · show Steps p.tables e below (s₁.setTop (mkF m 73 #[.val (.ref a0), .val (.int p1), .val (.int p2), .val (.int p3), .val (.long q4), .second, .val (.int p5), .val (.int (p1 - p2)), .val (.int ((((q4.toUInt64 >>> (((7 : Int32) * (p1 - p2)) &&& 0x3f).toInt64.toUInt64).toInt64) &&& (127 : Int64)).toInt32)), .val (.int ((((q4.toUInt64 >>> (((7 : Int32) * (p1 - p2)) &&& 0x3f).toInt64.toUInt64).toInt64) &&& (127 : Int64)).toInt32))] [(.int (((((q4.toUInt64 >>> (((7 : Int32) * (p1 - p2)) &&& 0x3f).toInt64.toUInt64).toInt64) &&& (127 : Int64)).toInt32).toInt8.toInt32)), (.int (F0 p1.toNatClampNeg))])) t
            refine XS.icmpYes X0.here hx rfl (pc0 := 73) (pc' := 80) rfl (hb hby d3_73) rfl (feq hc13).2 (by decide) (by decide) ?_
            show Steps p.tables e below (s₁.setTop (mkF m 80 #[.val (.ref a0), .val (.int p1), .val (.int p2), .val (.int p3), .val (.long q4), .second, .val (.int p5), .val (.int (p1 - p2)), .val (.int ((((q4.toUInt64 >>> (((7 : Int32) * (p1 - p2)) &&& 0x3f).toInt64.toUInt64).toInt64) &&& (127 : Int64)).toInt32)), .val (.int ((((q4.toUInt64 >>> (((7 : Int32) * (p1 - p2)) &&& 0x3f).toInt64.toUInt64).toInt64) &&& (127 : Int64)).toInt32))] [])) t
            refine XS.iconst X0.here hx rfl (hb hby d3_80) ?_
            exact k
          obtain ⟨fs, hr, hrun, hended, hW, hsame⟩ := X0.leave (v := some (.int (nar .boolean (0 : Int32)))) (fun h => by rw [Bd.returns] at h; cases h) hlk
          refine ⟨_, _, ?_, hrun, hended, _, _, rfl, ?_, ⟨_, rfl⟩, hW, hsame.mono (by decide) (by decide)⟩
          · show Steps p.tables e below (s₁.setTop (mkF m 81 #[.val (.ref a0), .val (.int p1), .val (.int p2), .val (.int p3), .val (.long q4), .second, .val (.int p5), .val (.int (p1 - p2)), .val (.int ((((q4.toUInt64 >>> (((7 : Int32) * (p1 - p2)) &&& 0x3f).toInt64.toUInt64).toInt64) &&& (127 : Int64)).toInt32)), .val (.int ((((q4.toUInt64 >>> (((7 : Int32) * (p1 - p2)) &&& 0x3f).toInt64.toUInt64).toInt64) &&& (127 : Int64)).toInt32))] [(.int (0 : Int32))])) _
            exact retN X0 hx (t := .boolean) Bd.returns (by simp) (hb hby d3_81) hr
          · show Qrm3 Z a0 p1 p2 p3 q4 p5 F0 ka h0 n0 _ (s₁.setFrames fs).heap _
            rw [show (s₁.setFrames fs).heap = h0 from e0]
            exact ⟨congrArg (fun z => some (Value.int z)) (by rw [own_ok, if_neg hc1, if_pos hc6, if_neg hc7, if_neg hc13]; try rfl), N0, rfl⟩
    · refine OwnGo.of (A := s₁.setTop (mkF m 9 #[.val (.ref a0), .val (.int p1), .val (.int p2), .val (.int p3), .val (.long q4), .second, .val (.int p5), .unset, .unset, .unset] [(.int (p2 + p3)), (.int p1)])) (B := s₁.setTop (mkF m 14 #[.val (.ref a0), .val (.int p1), .val (.int p2), .val (.int p3), .val (.long q4), .second, .val (.int p5), .unset, .unset, .unset] [(.int p1), (.ref a0)])) (fun t k => ?_) ?_
      · show Steps p.tables e below (s₁.setTop (mkF m 9 #[.val (.ref a0), .val (.int p1), .val (.int p2), .val (.int p3), .val (.long q4), .second, .val (.int p5), .unset, .unset, .unset] [(.int (p2 + p3)), (.int p1)])) t
        refine XS.icmpNo X0.here hx rfl (hb hby d3_9) rfl (flt hc6).1 ?_
        show Steps p.tables e below (s₁.setTop (mkF m 12 #[.val (.ref a0), .val (.int p1), .val (.int p2), .val (.int p3), .val (.long q4), .second, .val (.int p5), .unset, .unset, .unset] [])) t
        refine XS.aloadN X0.here hx rfl (hb hby d3_12) rfl rfl ?_
        show Steps p.tables e below (s₁.setTop (mkF m 13 #[.val (.ref a0), .val (.int p1), .val (.int p2), .val (.int p3), .val (.long q4), .second, .val (.int p5), .unset, .unset, .unset] [(.ref a0)])) t
        refine XS.iloadN X0.here hx rfl (hb hby d3_13) rfl ?_
        exact k
      have cq16 := V_a
      obtain ⟨clq16, Arq16, qq16, Sq16, Nq16, Hq16, Gq16⟩ := cq16
      have hinq16 := inb_of (j := p1) Sq16 (own_in13 _ hj)
      refine OwnGo.of (X0.baloadBytes hx (j := p1) (v := (.int (F0 p1.toNatClampNeg))) (by rw [e0]; exact Arq16.1) (State.isArrayOf_alike hZ.alike Arq16.2.1) Arq16.2.2 hinq16 (Hq16.at hinq16 (own_arr_get F0 _ _ (by show p1.toInt.toNat < 13; omega))) (g := (mkF m 14 #[.val (.ref a0), .val (.int p1), .val (.int p2), .val (.int p3), .val (.long q4), .second, .val (.int p5), .unset, .unset, .unset] [(.int p1), (.ref a0)])) rfl rfl (hb hby d3_14)) ?_
      show OwnGo p.tables e below _ (s₁.setTop (mkF m 15 #[.val (.ref a0), .val (.int p1), .val (.int p2), .val (.int p3), .val (.long q4), .second, .val (.int p5), .unset, .unset, .unset] [(.int (F0 p1.toNatClampNeg))]))
      refine OwnGo.of (A := s₁.setTop (mkF m 15 #[.val (.ref a0), .val (.int p1), .val (.int p2), .val (.int p3), .val (.long q4), .second, .val (.int p5), .unset, .unset, .unset] [(.int (F0 p1.toNatClampNeg))])) (B := s₁.setTop (mkF m 17 #[.val (.ref a0), .val (.int p1), .val (.int p2), .val (.int p3), .val (.long q4), .second, .val (.int p5), .unset, .unset, .unset] [(.int p5), (.int (F0 p1.toNatClampNeg))])) (fun t k => ?_) ?_
      · show Steps p.tables e below (s₁.setTop (mkF m 15 #[.val (.ref a0), .val (.int p1), .val (.int p2), .val (.int p3), .val (.long q4), .second, .val (.int p5), .unset, .unset, .unset] [(.int (F0 p1.toNatClampNeg))])) t
        refine XS.iload X0.here hx rfl (hb hby d3_15) rfl ?_
        exact k
      by_cases hc17 : (F0 p1.toNatClampNeg) = p5
      · refine OwnGo.of (A := s₁.setTop (mkF m 17 #[.val (.ref a0), .val (.int p1), .val (.int p2), .val (.int p3), .val (.long q4), .second, .val (.int p5), .unset, .unset, .unset] [(.int p5), (.int (F0 p1.toNatClampNeg))])) (B := s₁.setTop (mkF m 25 #[.val (.ref a0), .val (.int p1), .val (.int p2), .val (.int p3), .val (.long q4), .second, .val (.int p5), .unset, .unset, .unset] [(.int (1 : Int32))])) (fun t k => ?_) ?_
        · show Steps p.tables e below (s₁.setTop (mkF m 17 #[.val (.ref a0), .val (.int p1), .val (.int p2), .val (.int p3), .val (.long q4), .second, .val (.int p5), .unset, .unset, .unset] [(.int p5), (.int (F0 p1.toNatClampNeg))])) t
          refine XS.icmpNo X0.here hx rfl (hb hby d3_17) rfl (teq hc17).2 ?_
          show Steps p.tables e below (s₁.setTop (mkF m 20 #[.val (.ref a0), .val (.int p1), .val (.int p2), .val (.int p3), .val (.long q4), .second, .val (.int p5), .unset, .unset, .unset] [])) t
          refine XS.iconst X0.here hx rfl (hb hby d3_20) ?_
          show Steps p.tables e below (s₁.setTop (mkF m 21 #[.val (.ref a0), .val (.int p1), .val (.int p2), .val (.int p3), .val (.long q4), .second, .val (.int p5), .unset, .unset, .unset] [(.int (1 : Int32))])) t
          refine XS.goto X0.here hx rfl (pc0 := 21) (pc' := 25) rfl (hb hby d3_21) (by decide) (by decide) ?_
          exact k
        obtain ⟨fs, hr, hrun, hended, hW, hsame⟩ := X0.leave (v := some (.int (nar .boolean (1 : Int32)))) (fun h => by rw [Bd.returns] at h; cases h) hlk
        refine ⟨_, _, ?_, hrun, hended, _, _, rfl, ?_, ⟨_, rfl⟩, hW, hsame.mono (by decide) (by decide)⟩
        · show Steps p.tables e below (s₁.setTop (mkF m 25 #[.val (.ref a0), .val (.int p1), .val (.int p2), .val (.int p3), .val (.long q4), .second, .val (.int p5), .unset, .unset, .unset] [(.int (1 : Int32))])) _
          exact retN X0 hx (t := .boolean) Bd.returns (by simp) (hb hby d3_25) hr
        · show Qrm3 Z a0 p1 p2 p3 q4 p5 F0 ka h0 n0 _ (s₁.setFrames fs).heap _
          rw [show (s₁.setFrames fs).heap = h0 from e0]
          exact ⟨congrArg (fun z => some (Value.int z)) (by rw [own_ok, if_neg hc1, if_neg hc6, if_pos hc17]; try rfl), N0, rfl⟩
      · refine OwnGo.of (A := s₁.setTop (mkF m 17 #[.val (.ref a0), .val (.int p1), .val (.int p2), .val (.int p3), .val (.long q4), .second, .val (.int p5), .unset, .unset, .unset] [(.int p5), (.int (F0 p1.toNatClampNeg))])) (B := s₁.setTop (mkF m 25 #[.val (.ref a0), .val (.int p1), .val (.int p2), .val (.int p3), .val (.long q4), .second, .val (.int p5), .unset, .unset, .unset] [(.int (0 : Int32))])) (fun t k => ?_) ?_
        · show Steps p.tables e below (s₁.setTop (mkF m 17 #[.val (.ref a0), .val (.int p1), .val (.int p2), .val (.int p3), .val (.long q4), .second, .val (.int p5), .unset, .unset, .unset] [(.int p5), (.int (F0 p1.toNatClampNeg))])) t
          refine XS.icmpYes X0.here hx rfl (pc0 := 17) (pc' := 24) rfl (hb hby d3_17) rfl (feq hc17).2 (by decide) (by decide) ?_
          show Steps p.tables e below (s₁.setTop (mkF m 24 #[.val (.ref a0), .val (.int p1), .val (.int p2), .val (.int p3), .val (.long q4), .second, .val (.int p5), .unset, .unset, .unset] [])) t
          refine XS.iconst X0.here hx rfl (hb hby d3_24) ?_
          exact k
        obtain ⟨fs, hr, hrun, hended, hW, hsame⟩ := X0.leave (v := some (.int (nar .boolean (0 : Int32)))) (fun h => by rw [Bd.returns] at h; cases h) hlk
        refine ⟨_, _, ?_, hrun, hended, _, _, rfl, ?_, ⟨_, rfl⟩, hW, hsame.mono (by decide) (by decide)⟩
        · show Steps p.tables e below (s₁.setTop (mkF m 25 #[.val (.ref a0), .val (.int p1), .val (.int p2), .val (.int p3), .val (.long q4), .second, .val (.int p5), .unset, .unset, .unset] [(.int (0 : Int32))])) _
          exact retN X0 hx (t := .boolean) Bd.returns (by simp) (hb hby d3_25) hr
        · show Qrm3 Z a0 p1 p2 p3 q4 p5 F0 ka h0 n0 _ (s₁.setFrames fs).heap _
          rw [show (s₁.setFrames fs).heap = h0 from e0]
          exact ⟨congrArg (fun z => some (Value.int z)) (by rw [own_ok, if_neg hc1, if_neg hc6, if_neg hc17]; try rfl), N0, rfl⟩

theorem own_idem (x : Int32) : x.toInt8.toInt32.toInt8.toInt32 = x.toInt8.toInt32 := by
  have h1 := c_i2b x
  have h2 := c_i2b x.toInt8.toInt32
  apply Int32.toInt_inj.mp; omega
theorem own_at4 (p : Int32) : 0 ≤ (p &&& (3 : Int32)).toInt ∧ (p &&& (3 : Int32)).toInt < 4 := by
  have h1 := c_mask p 3 2 (by decide) (by decide)
  omega
theorem own_shn (v : Int64) (q : Int32) : 0 ≤ v.toInt → ((v.toUInt64 >>> (q &&& 0x3f).toInt64.toUInt64).toInt64).toInt = v.toInt / ((2 ^ (q.toBitVec.toNat % 64) : Nat) : Int) := by
  intro h
  by_cases e : q.toBitVec.toNat % 64 = 0
  · have e1 := (sm64 q 0 e).1
    have e2 : (q &&& 0x3f).toInt64 = 0 := Int64.toBitVec_inj.mp (by rw [e1]; rfl)
    rw [e2, e]
    have : (v.toUInt64 >>> (0 : Int64).toUInt64).toInt64 = v := by
      apply Int64.toBitVec_inj.mp
      show (v.toUInt64 >>> (0 : UInt64)).toBitVec = v.toBitVec
      simp
    rw [this]; simp
  · have h1 := c_lushr v q _ rfl (Nat.pos_of_ne_zero e)
    have r := rng64 v
    rw [h1, Int.emod_eq_of_lt h (by omega)]
theorem own_val (q : Int64) (k : Int32) : 0 ≤ (((q &&& (9223372036854775807 : Int64)).toUInt64 >>> (k &&& 0x3f).toInt64.toUInt64).toInt64).toInt ∧ (((q &&& (9223372036854775807 : Int64)).toUInt64 >>> (k &&& 0x3f).toInt64.toUInt64).toInt64).toInt < 9223372036854775808 := by
  have h1 := c_maskL q 9223372036854775807 63 (by decide) (by decide)
  have h2 := own_shn (q &&& 9223372036854775807) k (by omega)
  rw [h2]
  refine ⟨Int.ediv_nonneg (by omega) (Int.natCast_nonneg _), ?_⟩
  have := Int.ediv_le_self (a := (q &&& 9223372036854775807).toInt) ((2 ^ (k.toBitVec.toNat % 64) : Nat) : Int) (by omega)
  omega
theorem own_more_eq (v : Int64) (h : 0 ≤ v.toInt) (t : Nat) (ht : t ≤ 8) (h0 : 0 < t) : own_more v (Int32.ofNat t) = if v.toInt.toNat < 128 ^ t then 0 else 1 := by
  have hs := own_shn v ((7 : Int32) * Int32.ofNat t) h
  have hm : ((7 : Int32) * Int32.ofNat t).toBitVec.toNat % 64 = 7 * t := by
    have : t = 1 ∨ t = 2 ∨ t = 3 ∨ t = 4 ∨ t = 5 ∨ t = 6 ∨ t = 7 ∨ t = 8 := by omega
    rcases this with rfl | rfl | rfl | rfl | rfl | rfl | rfl | rfl <;> decide
  rw [hm] at hs
  have hp : (128 : Nat) ^ t = 2 ^ (7 * t) := by rw [Nat.pow_mul]
  have hpos : 0 < 2 ^ (7 * t) := Nat.pos_of_ne_zero (by simp)
  have key : lcmpW ((v.toUInt64 >>> (((7 : Int32) * Int32.ofNat t) &&& 0x3f).toInt64.toUInt64).toInt64) (0 : Int64) = (0 : Int32) ↔ v.toInt.toNat < 128 ^ t := by
    rw [lw_eq, ← Int64.toInt_inj, hs, show (0 : Int64).toInt = 0 from by decide, hp]
    have e1 : v.toInt = (v.toInt.toNat : Int) := by omega
    rw [e1]
    generalize v.toInt.toNat = n
    generalize 2 ^ (7 * t) = d at *
    have e2 : (n : Int) / (d : Int) = ((n / d : Nat) : Int) := rfl
    rw [e2]
    constructor
    · intro q
      have q' : n / d = 0 := by omega
      exact (Nat.div_eq_zero_iff_lt hpos).mp q'
    · intro q
      have q' : n / d = 0 := (Nat.div_eq_zero_iff_lt hpos).mpr q
      omega
  unfold own_more
  simp only [key]
  try (split <;> rfl)
theorem own_sum (vv : Int64) (h0 : 0 ≤ vv.toInt) (hv : vv.toInt < 9223372036854775808) (n i : Nat) (F G : Nat → Int32) (S : OwnSpec vv.toInt.toNat i F G n) : (((((((((1 : Int32) + (own_more vv (1 : Int32))) + (own_more vv (2 : Int32))) + (own_more vv (3 : Int32))) + (own_more vv (4 : Int32))) + (own_more vv (5 : Int32))) + (own_more vv (6 : Int32))) + (own_more vv (7 : Int32))) + (own_more vv (8 : Int32))) = Int32.ofNat n := by
  have m1 := own_more_eq vv h0 1 (by decide) (by decide)
  have m2 := own_more_eq vv h0 2 (by decide) (by decide)
  have m3 := own_more_eq vv h0 3 (by decide) (by decide)
  have m4 := own_more_eq vv h0 4 (by decide) (by decide)
  have m5 := own_more_eq vv h0 5 (by decide) (by decide)
  have m6 := own_more_eq vv h0 6 (by decide) (by decide)
  have m7 := own_more_eq vv h0 7 (by decide) (by decide)
  have m8 := own_more_eq vv h0 8 (by decide) (by decide)
  rw [show (Int32.ofNat 1) = (1 : Int32) from rfl] at m1
  rw [show (Int32.ofNat 2) = (2 : Int32) from rfl] at m2
  rw [show (Int32.ofNat 3) = (3 : Int32) from rfl] at m3
  rw [show (Int32.ofNat 4) = (4 : Int32) from rfl] at m4
  rw [show (Int32.ofNat 5) = (5 : Int32) from rfl] at m5
  rw [show (Int32.ofNat 6) = (6 : Int32) from rfl] at m6
  rw [show (Int32.ofNat 7) = (7 : Int32) from rfl] at m7
  rw [show (Int32.ofNat 8) = (8 : Int32) from rfl] at m8
  rw [m1, m2, m3, m4, m5, m6, m7, m8]
  have hn := own_n9 (by omega) S
  obtain ⟨s1, s2, s3, -⟩ := S
  generalize vv.toInt.toNat = v at *
  simp only [Nat.reducePow] at *
  have : n = 1 ∨ n = 2 ∨ n = 3 ∨ n = 4 ∨ n = 5 ∨ n = 6 ∨ n = 7 ∨ n = 8 ∨ n = 9 := by omega
  rcases this with rfl | rfl | rfl | rfl | rfl | rfl | rfl | rfl | rfl
  all_goals
    simp only [Nat.reducePow, Nat.reduceSub, Nat.reduceEqDiff, false_or, true_or] at s2 s3
    repeat (first | rw [if_pos (by omega)] | rw [if_neg (by omega)])
    try decide

theorem own_sh7 (v : Int64) (h : 0 ≤ v.toInt) (t : Nat) (ht : t ≤ 8) : ((v.toUInt64 >>> (((7 : Int32) * Int32.ofNat t) &&& 0x3f).toInt64.toUInt64).toInt64).toInt = ((v.toInt.toNat / 128 ^ t : Nat) : Int) := by
  have hs := own_shn v ((7 : Int32) * Int32.ofNat t) h
  have hm : ((7 : Int32) * Int32.ofNat t).toBitVec.toNat % 64 = 7 * t := by
    have : t = 0 ∨ t = 1 ∨ t = 2 ∨ t = 3 ∨ t = 4 ∨ t = 5 ∨ t = 6 ∨ t = 7 ∨ t = 8 := by omega
    rcases this with rfl | rfl | rfl | rfl | rfl | rfl | rfl | rfl | rfl <;> decide
  rw [hs, hm, show (128 : Nat) ^ t = 2 ^ (7 * t) from by rw [Nat.pow_mul]]
  have e1 : v.toInt = (v.toInt.toNat : Int) := by omega
  rw [e1]; rfl
theorem own_okay (vv : Int64) (at1 s1 : Int32) (nn : Nat) (Gf : Nat → Int32) (h0 : 0 ≤ vv.toInt) (hv : vv.toInt < 9223372036854775808) (ha : 0 ≤ at1.toInt ∧ at1.toInt < 4) (S : OwnSpec vv.toInt.toNat at1.toNatClampNeg (fun _ => s1) Gf nn) (j : Int32) (hj : 0 ≤ j.toInt ∧ j.toInt < 13) (a : Addr) (ka : ClassId) : own_ok a j at1 (Int32.ofNat nn) vv s1 Gf ka = 1 := by
  have hn9 := own_n9 (by omega) S
  obtain ⟨k1, -, -, s4, s5⟩ := S
  have en : (Int32.ofNat nn).toInt = nn := Int32.toInt_ofNat_of_lt (by omega)
  have ea : (at1 + Int32.ofNat nn).toInt = at1.toInt + nn := by
    have := c_iadd at1 (Int32.ofNat nn)
    have := rng32 (at1 + Int32.ofNat nn)
    omega
  have ej : j.toNatClampNeg = j.toInt.toNat := rfl
  have et : at1.toNatClampNeg = at1.toInt.toNat := rfl
  unfold own_ok
  by_cases c1 : j < at1
  · have e : j.toInt < at1.toInt := Int32.lt_iff_toInt_lt.mp c1
    rw [if_pos c1, if_pos (s4 _ (by rw [ej, et]; omega))]
  · have e : ¬ j.toInt < at1.toInt := fun q => c1 (Int32.lt_iff_toInt_lt.mpr q)
    rw [if_neg c1]
    by_cases c2 : j < at1 + Int32.ofNat nn
    · have e2 : j.toInt < at1.toInt + nn := by rw [← ea]; exact Int32.lt_iff_toInt_lt.mp c2
      rw [if_pos c2]
      obtain ⟨t, ht⟩ : ∃ t : Nat, (t : Int) = j.toInt - at1.toInt := ⟨(j.toInt - at1.toInt).toNat, by omega⟩
      have eo : (Int32.ofNat t).toInt = t := Int32.toInt_ofNat_of_lt (by omega)
      have hjt : j - at1 = Int32.ofNat t := by
        have := c_isub j at1
        have := rng32 (j - at1)
        apply Int32.toInt_inj.mp; omega
      have hG := s5 t (by omega)
      have hidx : j.toNatClampNeg = at1.toNatClampNeg + t := by rw [ej, et]; omega
      have en1 : (Int32.ofNat nn - 1).toInt = nn - 1 := by
        have := c_isub (Int32.ofNat nn) 1
        have := rng32 (Int32.ofNat nn - 1)
        rw [show (1 : Int32).toInt = 1 from by decide] at *
        omega
      have hsh := own_sh7 vv h0 t (by omega)
      rw [hjt, hidx, hG]
      generalize ((vv.toUInt64 >>> (((7 : Int32) * Int32.ofNat t) &&& 0x3f).toInt64.toUInt64).toInt64) = w at *
      generalize vv.toInt.toNat / 128 ^ t = d at *
      have m1 := c_maskL w 127 7 (by decide) (by decide)
      have m2 := c_l2i (w &&& 127)
      have r2 := rng32 (w &&& 127).toInt32
      have m3 : (w &&& 127).toInt32.toInt = ((d % 128 : Nat) : Int) := by omega
      by_cases c3 : Int32.ofNat t < Int32.ofNat nn - 1
      · have e3 : (t : Int) < nn - 1 := by rw [← eo, ← en1]; exact Int32.lt_iff_toInt_lt.mp c3
        have m4 := c_or' (w &&& 127).toInt32 128 7 (by decide) 128 (by decide) (by decide) (by omega) (by omega)
        rw [show (128 : Int32).toInt = 128 from by decide] at m4
        rw [if_pos c3, if_pos (show t + 1 < nn from by omega), if_pos (own_bt _ _ (by omega) (by omega)).symm]
      · have e3 : ¬ (t : Int) < nn - 1 := by rw [← eo, ← en1]; exact fun q => c3 (Int32.lt_iff_toInt_lt.mpr q)
        rw [if_neg c3, if_neg (show ¬ t + 1 < nn from by omega), if_pos (own_bt _ _ (by omega) (by omega)).symm]
    · have e2 : ¬ j.toInt < at1.toInt + nn := by rw [← ea]; exact fun q => c2 (Int32.lt_iff_toInt_lt.mpr q)
      rw [if_neg c2, if_pos (s4 _ (by rw [ej, et]; omega))]
theorem pd_2 : parseMethodDescriptor "(JI)I" = some ⟨[.long, .int], some .int⟩ := by decide +kernel
theorem pd_3 : parseMethodDescriptor "(J[BI)I" = some ⟨[.long, (.array .byte), .int], some .int⟩ := by decide +kernel
theorem pd_4 : parseMethodDescriptor "([BIIIJB)Z" = some ⟨[(.array .byte), .int, .int, .int, .long, .byte], some .boolean⟩ := by decide +kernel
theorem ef_rm0 (m : MethodId) (q0 : Int64) (p1 : Int32) (p2 : Int32) (p3 : Int32) : entryFrame m #[(.long q0), (.int p1), (.int p2), (.int p3)] maxLocals = mkF m 0 #[.val (.long q0), .second, .val (.int p1), .val (.int p2), .val (.int p3), .unset, .unset, .unset, .unset, .unset, .unset, .unset] [] := by first | (simp [entryFrame, mkF, argsToLocals, Value.category, maxLocals]; done) | rfl
def Qrm0 (Z : State) (q0 : Int64) (p1 : Int32) (p2 : Int32) (p3 : Int32) (h0 : Heap) (n0 : Nat) (v : Option Value) (h : Heap) (L : List Loc) : Prop := v = some (.int 1) ∧ Fr n0 L
set_option maxRecDepth 65536 in
set_option maxHeartbeats 40000000 in
theorem rm0 (l : Launch) (Z : State) (aw : Array Value) (hw : ∀ d ∈ tables_1, d.before aw Z = true) (ws : List Jvm.Cond) (q0 : Int64) (p1 : Int32) (p2 : Int32) (p3 : Int32) (h0 : Heap) (n0 : Nat) (Z0 : n0 ≤ h0.size) :
    MetFree l x (head1 (Jvm.Cond.code x code maxLocals ret :: ws) room_1) (fun a U => a = #[(.long q0), (.int p1), (.int p2), (.int p3)] ∧ Z.Warmed39 U.vm ∧ U.heap = h0) (fun _ _ _ _ _ => True) (fun _ U o U' => ∃ v L, o = .returned v ∧ Qrm0 Z q0 p1 p2 p3 h0 n0 v U'.heap L ∧ FrameEnd U o U' L room_1.cells room_1.slots) := by
  refine MetFree.of_bodySF (plainFor_of_name pn_0) hisR ?_
  intro p e s m args below meth c s₁ Bd hml0 hP hK
  obtain ⟨rfl, hZ, hh⟩ := hP
  have hx := Bd.exec
  have hby := Bd.bytes
  have hml : c.maxLocals = 12 := hml0
  have hown : s.vm.findClass "com/example/rankwright/rankwright/index/ByteWriterWriteNumberPinLaw" = some m.cls := findClass_of_methodNamed Bd.named
  have hnm := (name_of_methodNamed Bd.named Bd.method).1
  have X0 : Stand p l e room_1 s m #[(.long q0), (.int p1), (.int p2), (.int p3)] below meth c s₁ [] 0 0 := Stand.of_body Bd
  have e0 : s₁.heap = h0 := by rw [← hh, Bd.state]; rfl
  have N0 := Fr.nil n0
  have hlk := Bd.notSynchronized
  show OwnGo p.tables e below _ (s₁.setTop (entryFrame m #[(.long q0), (.int p1), (.int p2), (.int p3)] maxLocals))
  rw [ef_rm0 m q0 p1 p2 p3]
  show OwnGo p.tables e below _ (s₁.setTop (mkF m 0 #[.val (.long q0), .second, .val (.int p1), .val (.int p2), .val (.int p3), .unset, .unset, .unset, .unset, .unset, .unset, .unset] []))
  refine OwnGo.of (A := s₁.setTop (mkF m 0 #[.val (.long q0), .second, .val (.int p1), .val (.int p2), .val (.int p3), .unset, .unset, .unset, .unset, .unset, .unset, .unset] [])) (B := s₁.setTop (mkF m 12 #[.val (.long q0), .second, .val (.int p1), .val (.int p2), .val (.int p3), .val (.long (((q0 &&& (9223372036854775807 : Int64)).toUInt64 >>> ((p1 &&& (63 : Int32)) &&& 0x3f).toInt64.toUInt64).toInt64)), .second, .unset, .unset, .unset, .unset, .unset] [])) (fun t k => ?_) ?_
  · show Steps p.tables e below (s₁.setTop (mkF m 0 #[.val (.long q0), .second, .val (.int p1), .val (.int p2), .val (.int p3), .unset, .unset, .unset, .unset, .unset, .unset, .unset] [])) t
    refine XS.lloadN X0.here hx rfl (hb hby at_0) rfl ?_
    show Steps p.tables e below (s₁.setTop (mkF m 1 #[.val (.long q0), .second, .val (.int p1), .val (.int p2), .val (.int p3), .unset, .unset, .unset, .unset, .unset, .unset, .unset] [(.long q0)])) t
    refine X0.ldc2Long hx hown (mvT hZ (hw _ (List.mem_of_getElem? (i := 0) rfl))) (g := (mkF m 1 #[.val (.long q0), .second, .val (.int p1), .val (.int p2), .val (.int p3), .unset, .unset, .unset, .unset, .unset, .unset, .unset] [(.long q0)])) rfl (hb hby at_1) _ ?_
    show Steps p.tables e below (s₁.setTop (mkF m 4 #[.val (.long q0), .second, .val (.int p1), .val (.int p2), .val (.int p3), .unset, .unset, .unset, .unset, .unset, .unset, .unset] [(.long (9223372036854775807 : Int64)), (.long q0)])) t
    refine XS.land X0.here hx rfl (hb hby at_4) rfl ?_
    show Steps p.tables e below (s₁.setTop (mkF m 5 #[.val (.long q0), .second, .val (.int p1), .val (.int p2), .val (.int p3), .unset, .unset, .unset, .unset, .unset, .unset, .unset] [(.long (q0 &&& (9223372036854775807 : Int64)))])) t
    refine XS.iloadN X0.here hx rfl (hb hby at_5) rfl ?_
    show Steps p.tables e below (s₁.setTop (mkF m 6 #[.val (.long q0), .second, .val (.int p1), .val (.int p2), .val (.int p3), .unset, .unset, .unset, .unset, .unset, .unset, .unset] [(.int p1), (.long (q0 &&& (9223372036854775807 : Int64)))])) t
    refine XS.bipush X0.here hx rfl (hb hby at_6) ?_
    show Steps p.tables e below (s₁.setTop (mkF m 8 #[.val (.long q0), .second, .val (.int p1), .val (.int p2), .val (.int p3), .unset, .unset, .unset, .unset, .unset, .unset, .unset] [(.int (63 : Int32)), (.int p1), (.long (q0 &&& (9223372036854775807 : Int64)))])) t
    refine XS.iand X0.here hx rfl (hb hby at_8) rfl ?_
    show Steps p.tables e below (s₁.setTop (mkF m 9 #[.val (.long q0), .second, .val (.int p1), .val (.int p2), .val (.int p3), .unset, .unset, .unset, .unset, .unset, .unset, .unset] [(.int (p1 &&& (63 : Int32))), (.long (q0 &&& (9223372036854775807 : Int64)))])) t
    refine XS.lushr X0.here hx rfl (hb hby at_9) rfl ?_
    show Steps p.tables e below (s₁.setTop (mkF m 10 #[.val (.long q0), .second, .val (.int p1), .val (.int p2), .val (.int p3), .unset, .unset, .unset, .unset, .unset, .unset, .unset] [(.long (((q0 &&& (9223372036854775807 : Int64)).toUInt64 >>> ((p1 &&& (63 : Int32)) &&& 0x3f).toInt64.toUInt64).toInt64))])) t
    refine XS.lstore X0.here hx rfl (hb hby at_10) rfl (l' := #[.val (.long q0), .second, .val (.int p1), .val (.int p2), .val (.int p3), .val (.long (((q0 &&& (9223372036854775807 : Int64)).toUInt64 >>> ((p1 &&& (63 : Int32)) &&& 0x3f).toInt64.toUInt64).toInt64)), .second, .unset, .unset, .unset, .unset, .unset]) rfl ?_
    exact k
  obtain ⟨vv, hvv⟩ : ∃ z, z = (((q0 &&& (9223372036854775807 : Int64)).toUInt64 >>> ((p1 &&& (63 : Int32)) &&& 0x3f).toInt64.toUInt64).toInt64) := ⟨_, rfl⟩
  have hv0 : 0 ≤ vv.toInt := by subst hvv; exact (own_val _ _).1
  have hv1 : vv.toInt < 9223372036854775808 := by subst hvv; exact (own_val _ _).2
  rw [← hvv]
  show OwnGo p.tables e below _ (s₁.setTop (mkF m 12 #[.val (.long q0), .second, .val (.int p1), .val (.int p2), .val (.int p3), .val (.long vv), .second, .unset, .unset, .unset, .unset, .unset] []))
  refine OwnGo.of (A := s₁.setTop (mkF m 12 #[.val (.long q0), .second, .val (.int p1), .val (.int p2), .val (.int p3), .val (.long vv), .second, .unset, .unset, .unset, .unset, .unset] [])) (B := s₁.setTop (mkF m 17 #[.val (.long q0), .second, .val (.int p1), .val (.int p2), .val (.int p3), .val (.long vv), .second, .val (.int (p2 &&& (3 : Int32))), .unset, .unset, .unset, .unset] [])) (fun t k => ?_) ?_
  · show Steps p.tables e below (s₁.setTop (mkF m 12 #[.val (.long q0), .second, .val (.int p1), .val (.int p2), .val (.int p3), .val (.long vv), .second, .unset, .unset, .unset, .unset, .unset] [])) t
    refine XS.iloadN X0.here hx rfl (hb hby at_12) rfl ?_
    show Steps p.tables e below (s₁.setTop (mkF m 13 #[.val (.long q0), .second, .val (.int p1), .val (.int p2), .val (.int p3), .val (.long vv), .second, .unset, .unset, .unset, .unset, .unset] [(.int p2)])) t
    refine XS.iconst X0.here hx rfl (hb hby at_13) ?_
    show Steps p.tables e below (s₁.setTop (mkF m 14 #[.val (.long q0), .second, .val (.int p1), .val (.int p2), .val (.int p3), .val (.long vv), .second, .unset, .unset, .unset, .unset, .unset] [(.int (3 : Int32)), (.int p2)])) t
    refine XS.iand X0.here hx rfl (hb hby at_14) rfl ?_
    show Steps p.tables e below (s₁.setTop (mkF m 15 #[.val (.long q0), .second, .val (.int p1), .val (.int p2), .val (.int p3), .val (.long vv), .second, .unset, .unset, .unset, .unset, .unset] [(.int (p2 &&& (3 : Int32)))])) t
    refine XS.istore X0.here hx rfl (hb hby at_15) rfl (l' := #[.val (.long q0), .second, .val (.int p1), .val (.int p2), .val (.int p3), .val (.long vv), .second, .val (.int (p2 &&& (3 : Int32))), .unset, .unset, .unset, .unset]) rfl ?_
    exact k
  obtain ⟨at1, hat⟩ : ∃ z, z = (p2 &&& (3 : Int32)) := ⟨_, rfl⟩
  have ha4 : 0 ≤ at1.toInt ∧ at1.toInt < 4 := by subst hat; exact own_at4 _
  rw [← hat]
  show OwnGo p.tables e below _ (s₁.setTop (mkF m 17 #[.val (.long q0), .second, .val (.int p1), .val (.int p2), .val (.int p3), .val (.long vv), .second, .val (.int at1), .unset, .unset, .unset, .unset] []))
  refine OwnGo.of (A := s₁.setTop (mkF m 17 #[.val (.long q0), .second, .val (.int p1), .val (.int p2), .val (.int p3), .val (.long vv), .second, .val (.int at1), .unset, .unset, .unset, .unset] [])) (B := s₁.setTop (mkF m 22 #[.val (.long q0), .second, .val (.int p1), .val (.int p2), .val (.int p3), .val (.long vv), .second, .val (.int at1), .val (.int (p3.toInt8.toInt32)), .unset, .unset, .unset] [])) (fun t k => ?_) ?_
  · show Steps p.tables e below (s₁.setTop (mkF m 17 #[.val (.long q0), .second, .val (.int p1), .val (.int p2), .val (.int p3), .val (.long vv), .second, .val (.int at1), .unset, .unset, .unset, .unset] [])) t
    refine XS.iload X0.here hx rfl (hb hby at_17) rfl ?_
    show Steps p.tables e below (s₁.setTop (mkF m 19 #[.val (.long q0), .second, .val (.int p1), .val (.int p2), .val (.int p3), .val (.long vv), .second, .val (.int at1), .unset, .unset, .unset, .unset] [(.int p3)])) t
    refine XS.i2b X0.here hx rfl (hb hby at_19) rfl ?_
    show Steps p.tables e below (s₁.setTop (mkF m 20 #[.val (.long q0), .second, .val (.int p1), .val (.int p2), .val (.int p3), .val (.long vv), .second, .val (.int at1), .unset, .unset, .unset, .unset] [(.int (p3.toInt8.toInt32))])) t
    refine XS.istore X0.here hx rfl (hb hby at_20) rfl (l' := #[.val (.long q0), .second, .val (.int p1), .val (.int p2), .val (.int p3), .val (.long vv), .second, .val (.int at1), .val (.int (p3.toInt8.toInt32)), .unset, .unset, .unset]) rfl ?_
    exact k
  obtain ⟨s1, hs1⟩ : ∃ z, z = (p3.toInt8.toInt32) := ⟨_, rfl⟩
  have hs : s1.toInt8.toInt32 = s1 := by subst hs1; exact own_idem _
  rw [← hs1]
  show OwnGo p.tables e below _ (s₁.setTop (mkF m 22 #[.val (.long q0), .second, .val (.int p1), .val (.int p2), .val (.int p3), .val (.long vv), .second, .val (.int at1), .val (.int s1), .unset, .unset, .unset] []))
  refine OwnGo.of (A := s₁.setTop (mkF m 22 #[.val (.long q0), .second, .val (.int p1), .val (.int p2), .val (.int p3), .val (.long vv), .second, .val (.int at1), .val (.int s1), .unset, .unset, .unset] [])) (B := s₁.setTop (mkF m 24 #[.val (.long q0), .second, .val (.int p1), .val (.int p2), .val (.int p3), .val (.long vv), .second, .val (.int at1), .val (.int s1), .unset, .unset, .unset] [(.int (13 : Int32))])) (fun t k => ?_) ?_
  · show Steps p.tables e below (s₁.setTop (mkF m 22 #[.val (.long q0), .second, .val (.int p1), .val (.int p2), .val (.int p3), .val (.long vv), .second, .val (.int at1), .val (.int s1), .unset, .unset, .unset] [])) t
    refine XS.bipush X0.here hx rfl (hb hby at_22) ?_
    exact k
  obtain ⟨T1, h1, k1, X1, e1, E1, A1, st1⟩ := newP X0 hx hZ (hw _ (List.mem_of_getElem? (i := 1) rfl)) e0 (g := (mkF m 24 #[.val (.long q0), .second, .val (.int p1), .val (.int p2), .val (.int p3), .val (.long vv), .second, .val (.int at1), .val (.int s1), .unset, .unset, .unset] [(.int (13 : Int32))])) rfl (hb hby at_24) rfl (by decide) (cap := 13) (by decide) (by decide) (by decide) (by decide)
  obtain ⟨b1, g1⟩ : ∃ z, z = h0.size := ⟨_, rfl⟩
  rw [← g1] at A1 st1
  refine OwnGo.of st1 ?_
  have g_b1 : n0 ≤ b1 := Nat.le_trans Z0 (Nat.le_of_eq g1.symm)
  have f2 : n0 ≤ h1.size := Nat.le_trans Z0 E1.1
  have f3 : Arv Z h1 b1 k1 .byte (13 : Int32) [(.int (0 : Int32)), (.int (0 : Int32)), (.int (0 : Int32)), (.int (0 : Int32)), (.int (0 : Int32)), (.int (0 : Int32)), (.int (0 : Int32)), (.int (0 : Int32)), (.int (0 : Int32)), (.int (0 : Int32)), (.int (0 : Int32)), (.int (0 : Int32)), (.int (0 : Int32))] (.int (0 : Int32)) := (Arv.new A1 (by decide)).pad (pad_rep [] (.int (0 : Int32)) 13)
  show OwnGo p.tables e below _ (T1.setTop (mkF m 26 #[.val (.long q0), .second, .val (.int p1), .val (.int p2), .val (.int p3), .val (.long vv), .second, .val (.int at1), .val (.int s1), .unset, .unset, .unset] [(.ref b1)]))
  refine OwnGo.of (A := T1.setTop (mkF m 26 #[.val (.long q0), .second, .val (.int p1), .val (.int p2), .val (.int p3), .val (.long vv), .second, .val (.int at1), .val (.int s1), .unset, .unset, .unset] [(.ref b1)])) (B := T1.setTop (mkF m 30 #[.val (.long q0), .second, .val (.int p1), .val (.int p2), .val (.int p3), .val (.long vv), .second, .val (.int at1), .val (.int s1), .unset, .unset, .unset] [(.int s1), (.int (0 : Int32)), (.ref b1), (.ref b1)])) (fun t k => ?_) ?_
  · show Steps p.tables e below (T1.setTop (mkF m 26 #[.val (.long q0), .second, .val (.int p1), .val (.int p2), .val (.int p3), .val (.long vv), .second, .val (.int at1), .val (.int s1), .unset, .unset, .unset] [(.ref b1)])) t
    refine XS.dup X1.here hx rfl (hb hby at_26) rfl rfl ?_
    show Steps p.tables e below (T1.setTop (mkF m 27 #[.val (.long q0), .second, .val (.int p1), .val (.int p2), .val (.int p3), .val (.long vv), .second, .val (.int at1), .val (.int s1), .unset, .unset, .unset] [(.ref b1), (.ref b1)])) t
    refine XS.iconst X1.here hx rfl (hb hby at_27) ?_
    show Steps p.tables e below (T1.setTop (mkF m 28 #[.val (.long q0), .second, .val (.int p1), .val (.int p2), .val (.int p3), .val (.long vv), .second, .val (.int at1), .val (.int s1), .unset, .unset, .unset] [(.int (0 : Int32)), (.ref b1), (.ref b1)])) t
    refine XS.iload X1.here hx rfl (hb hby at_28) rfl ?_
    exact k
  have cq4 := f3
  obtain ⟨clq4, Arq4, qq4, Sq4, Nq4, Hq4, Gq4⟩ := cq4
  obtain ⟨T5, h5, X5, e5, W5, st5⟩ := stB X1 hx hZ e1 Arq4 (j := (0 : Int32)) (inb_of Sq4 ⟨by decide, by decide⟩) (g := (mkF m 30 #[.val (.long q0), .second, .val (.int p1), .val (.int p2), .val (.int p3), .val (.long vv), .second, .val (.int at1), .val (.int s1), .unset, .unset, .unset] [(.int s1), (.int (0 : Int32)), (.ref b1), (.ref b1)])) rfl rfl (hb hby at_30)
  refine OwnGo.of st5 ?_
  have N5 := Fr.snoc X5 N0 g_b1
  have f6 : n0 ≤ h5.size := Nat.le_trans f2 (Keep.of_wr W5).1
  have f7 : Arv Z h5 b1 k1 .byte (13 : Int32) [(.int (s1).toInt8.toInt32), (.int (0 : Int32)), (.int (0 : Int32)), (.int (0 : Int32)), (.int (0 : Int32)), (.int (0 : Int32)), (.int (0 : Int32)), (.int (0 : Int32)), (.int (0 : Int32)), (.int (0 : Int32)), (.int (0 : Int32)), (.int (0 : Int32)), (.int (0 : Int32))] (.int (0 : Int32)) := Arv.set Arq4 qq4 Sq4 Nq4 Hq4 Gq4 (fits_nar_byte _) W5 0 rfl (Nat.le_of_ble_eq_true rfl)
  show OwnGo p.tables e below _ (T5.setTop (mkF m 31 #[.val (.long q0), .second, .val (.int p1), .val (.int p2), .val (.int p3), .val (.long vv), .second, .val (.int at1), .val (.int s1), .unset, .unset, .unset] [(.ref b1)]))
  refine OwnGo.of (A := T5.setTop (mkF m 31 #[.val (.long q0), .second, .val (.int p1), .val (.int p2), .val (.int p3), .val (.long vv), .second, .val (.int at1), .val (.int s1), .unset, .unset, .unset] [(.ref b1)])) (B := T5.setTop (mkF m 35 #[.val (.long q0), .second, .val (.int p1), .val (.int p2), .val (.int p3), .val (.long vv), .second, .val (.int at1), .val (.int s1), .unset, .unset, .unset] [(.int s1), (.int (1 : Int32)), (.ref b1), (.ref b1)])) (fun t k => ?_) ?_
  · show Steps p.tables e below (T5.setTop (mkF m 31 #[.val (.long q0), .second, .val (.int p1), .val (.int p2), .val (.int p3), .val (.long vv), .second, .val (.int at1), .val (.int s1), .unset, .unset, .unset] [(.ref b1)])) t
    refine XS.dup X5.here hx rfl (hb hby at_31) rfl rfl ?_
    show Steps p.tables e below (T5.setTop (mkF m 32 #[.val (.long q0), .second, .val (.int p1), .val (.int p2), .val (.int p3), .val (.long vv), .second, .val (.int at1), .val (.int s1), .unset, .unset, .unset] [(.ref b1), (.ref b1)])) t
    refine XS.iconst X5.here hx rfl (hb hby at_32) ?_
    show Steps p.tables e below (T5.setTop (mkF m 33 #[.val (.long q0), .second, .val (.int p1), .val (.int p2), .val (.int p3), .val (.long vv), .second, .val (.int at1), .val (.int s1), .unset, .unset, .unset] [(.int (1 : Int32)), (.ref b1), (.ref b1)])) t
    refine XS.iload X5.here hx rfl (hb hby at_33) rfl ?_
    exact k
  have cq8 := f7
  obtain ⟨clq8, Arq8, qq8, Sq8, Nq8, Hq8, Gq8⟩ := cq8
  obtain ⟨T9, h9, X9, e9, W9, st9⟩ := stB X5 hx hZ e5 Arq8 (j := (1 : Int32)) (inb_of Sq8 ⟨by decide, by decide⟩) (g := (mkF m 35 #[.val (.long q0), .second, .val (.int p1), .val (.int p2), .val (.int p3), .val (.long vv), .second, .val (.int at1), .val (.int s1), .unset, .unset, .unset] [(.int s1), (.int (1 : Int32)), (.ref b1), (.ref b1)])) rfl rfl (hb hby at_35)
  refine OwnGo.of st9 ?_
  have N9 := Fr.snoc X9 N5 g_b1
  have f10 : n0 ≤ h9.size := Nat.le_trans f6 (Keep.of_wr W9).1
  have f11 : Arv Z h9 b1 k1 .byte (13 : Int32) [(.int (s1).toInt8.toInt32), (.int (s1).toInt8.toInt32), (.int (0 : Int32)), (.int (0 : Int32)), (.int (0 : Int32)), (.int (0 : Int32)), (.int (0 : Int32)), (.int (0 : Int32)), (.int (0 : Int32)), (.int (0 : Int32)), (.int (0 : Int32)), (.int (0 : Int32)), (.int (0 : Int32))] (.int (0 : Int32)) := Arv.set Arq8 qq8 Sq8 Nq8 Hq8 Gq8 (fits_nar_byte _) W9 1 rfl (Nat.le_of_ble_eq_true rfl)
  show OwnGo p.tables e below _ (T9.setTop (mkF m 36 #[.val (.long q0), .second, .val (.int p1), .val (.int p2), .val (.int p3), .val (.long vv), .second, .val (.int at1), .val (.int s1), .unset, .unset, .unset] [(.ref b1)]))
  refine OwnGo.of (A := T9.setTop (mkF m 36 #[.val (.long q0), .second, .val (.int p1), .val (.int p2), .val (.int p3), .val (.long vv), .second, .val (.int at1), .val (.int s1), .unset, .unset, .unset] [(.ref b1)])) (B := T9.setTop (mkF m 40 #[.val (.long q0), .second, .val (.int p1), .val (.int p2), .val (.int p3), .val (.long vv), .second, .val (.int at1), .val (.int s1), .unset, .unset, .unset] [(.int s1), (.int (2 : Int32)), (.ref b1), (.ref b1)])) (fun t k => ?_) ?_
  · show Steps p.tables e below (T9.setTop (mkF m 36 #[.val (.long q0), .second, .val (.int p1), .val (.int p2), .val (.int p3), .val (.long vv), .second, .val (.int at1), .val (.int s1), .unset, .unset, .unset] [(.ref b1)])) t
    refine XS.dup X9.here hx rfl (hb hby at_36) rfl rfl ?_
    show Steps p.tables e below (T9.setTop (mkF m 37 #[.val (.long q0), .second, .val (.int p1), .val (.int p2), .val (.int p3), .val (.long vv), .second, .val (.int at1), .val (.int s1), .unset, .unset, .unset] [(.ref b1), (.ref b1)])) t
    refine XS.iconst X9.here hx rfl (hb hby at_37) ?_
    show Steps p.tables e below (T9.setTop (mkF m 38 #[.val (.long q0), .second, .val (.int p1), .val (.int p2), .val (.int p3), .val (.long vv), .second, .val (.int at1), .val (.int s1), .unset, .unset, .unset] [(.int (2 : Int32)), (.ref b1), (.ref b1)])) t
    refine XS.iload X9.here hx rfl (hb hby at_38) rfl ?_
    exact k
  have cq12 := f11
  obtain ⟨clq12, Arq12, qq12, Sq12, Nq12, Hq12, Gq12⟩ := cq12
  obtain ⟨T13, h13, X13, e13, W13, st13⟩ := stB X9 hx hZ e9 Arq12 (j := (2 : Int32)) (inb_of Sq12 ⟨by decide, by decide⟩) (g := (mkF m 40 #[.val (.long q0), .second, .val (.int p1), .val (.int p2), .val (.int p3), .val (.long vv), .second, .val (.int at1), .val (.int s1), .unset, .unset, .unset] [(.int s1), (.int (2 : Int32)), (.ref b1), (.ref b1)])) rfl rfl (hb hby at_40)
  refine OwnGo.of st13 ?_
  have N13 := Fr.snoc X13 N9 g_b1
  have f14 : n0 ≤ h13.size := Nat.le_trans f10 (Keep.of_wr W13).1
  have f15 : Arv Z h13 b1 k1 .byte (13 : Int32) [(.int (s1).toInt8.toInt32), (.int (s1).toInt8.toInt32), (.int (s1).toInt8.toInt32), (.int (0 : Int32)), (.int (0 : Int32)), (.int (0 : Int32)), (.int (0 : Int32)), (.int (0 : Int32)), (.int (0 : Int32)), (.int (0 : Int32)), (.int (0 : Int32)), (.int (0 : Int32)), (.int (0 : Int32))] (.int (0 : Int32)) := Arv.set Arq12 qq12 Sq12 Nq12 Hq12 Gq12 (fits_nar_byte _) W13 2 rfl (Nat.le_of_ble_eq_true rfl)
  show OwnGo p.tables e below _ (T13.setTop (mkF m 41 #[.val (.long q0), .second, .val (.int p1), .val (.int p2), .val (.int p3), .val (.long vv), .second, .val (.int at1), .val (.int s1), .unset, .unset, .unset] [(.ref b1)]))
  refine OwnGo.of (A := T13.setTop (mkF m 41 #[.val (.long q0), .second, .val (.int p1), .val (.int p2), .val (.int p3), .val (.long vv), .second, .val (.int at1), .val (.int s1), .unset, .unset, .unset] [(.ref b1)])) (B := T13.setTop (mkF m 45 #[.val (.long q0), .second, .val (.int p1), .val (.int p2), .val (.int p3), .val (.long vv), .second, .val (.int at1), .val (.int s1), .unset, .unset, .unset] [(.int s1), (.int (3 : Int32)), (.ref b1), (.ref b1)])) (fun t k => ?_) ?_
  · show Steps p.tables e below (T13.setTop (mkF m 41 #[.val (.long q0), .second, .val (.int p1), .val (.int p2), .val (.int p3), .val (.long vv), .second, .val (.int at1), .val (.int s1), .unset, .unset, .unset] [(.ref b1)])) t
    refine XS.dup X13.here hx rfl (hb hby at_41) rfl rfl ?_
    show Steps p.tables e below (T13.setTop (mkF m 42 #[.val (.long q0), .second, .val (.int p1), .val (.int p2), .val (.int p3), .val (.long vv), .second, .val (.int at1), .val (.int s1), .unset, .unset, .unset] [(.ref b1), (.ref b1)])) t
    refine XS.iconst X13.here hx rfl (hb hby at_42) ?_
    show Steps p.tables e below (T13.setTop (mkF m 43 #[.val (.long q0), .second, .val (.int p1), .val (.int p2), .val (.int p3), .val (.long vv), .second, .val (.int at1), .val (.int s1), .unset, .unset, .unset] [(.int (3 : Int32)), (.ref b1), (.ref b1)])) t
    refine XS.iload X13.here hx rfl (hb hby at_43) rfl ?_
    exact k
  have cq16 := f15
  obtain ⟨clq16, Arq16, qq16, Sq16, Nq16, Hq16, Gq16⟩ := cq16
  obtain ⟨T17, h17, X17, e17, W17, st17⟩ := stB X13 hx hZ e13 Arq16 (j := (3 : Int32)) (inb_of Sq16 ⟨by decide, by decide⟩) (g := (mkF m 45 #[.val (.long q0), .second, .val (.int p1), .val (.int p2), .val (.int p3), .val (.long vv), .second, .val (.int at1), .val (.int s1), .unset, .unset, .unset] [(.int s1), (.int (3 : Int32)), (.ref b1), (.ref b1)])) rfl rfl (hb hby at_45)
  refine OwnGo.of st17 ?_
  have N17 := Fr.snoc X17 N13 g_b1
  have f18 : n0 ≤ h17.size := Nat.le_trans f14 (Keep.of_wr W17).1
  have f19 : Arv Z h17 b1 k1 .byte (13 : Int32) [(.int (s1).toInt8.toInt32), (.int (s1).toInt8.toInt32), (.int (s1).toInt8.toInt32), (.int (s1).toInt8.toInt32), (.int (0 : Int32)), (.int (0 : Int32)), (.int (0 : Int32)), (.int (0 : Int32)), (.int (0 : Int32)), (.int (0 : Int32)), (.int (0 : Int32)), (.int (0 : Int32)), (.int (0 : Int32))] (.int (0 : Int32)) := Arv.set Arq16 qq16 Sq16 Nq16 Hq16 Gq16 (fits_nar_byte _) W17 3 rfl (Nat.le_of_ble_eq_true rfl)
  show OwnGo p.tables e below _ (T17.setTop (mkF m 46 #[.val (.long q0), .second, .val (.int p1), .val (.int p2), .val (.int p3), .val (.long vv), .second, .val (.int at1), .val (.int s1), .unset, .unset, .unset] [(.ref b1)]))
  refine OwnGo.of (A := T17.setTop (mkF m 46 #[.val (.long q0), .second, .val (.int p1), .val (.int p2), .val (.int p3), .val (.long vv), .second, .val (.int at1), .val (.int s1), .unset, .unset, .unset] [(.ref b1)])) (B := T17.setTop (mkF m 50 #[.val (.long q0), .second, .val (.int p1), .val (.int p2), .val (.int p3), .val (.long vv), .second, .val (.int at1), .val (.int s1), .unset, .unset, .unset] [(.int s1), (.int (4 : Int32)), (.ref b1), (.ref b1)])) (fun t k => ?_) ?_
  · show Steps p.tables e below (T17.setTop (mkF m 46 #[.val (.long q0), .second, .val (.int p1), .val (.int p2), .val (.int p3), .val (.long vv), .second, .val (.int at1), .val (.int s1), .unset, .unset, .unset] [(.ref b1)])) t
    refine XS.dup X17.here hx rfl (hb hby at_46) rfl rfl ?_
    show Steps p.tables e below (T17.setTop (mkF m 47 #[.val (.long q0), .second, .val (.int p1), .val (.int p2), .val (.int p3), .val (.long vv), .second, .val (.int at1), .val (.int s1), .unset, .unset, .unset] [(.ref b1), (.ref b1)])) t
    refine XS.iconst X17.here hx rfl (hb hby at_47) ?_
    show Steps p.tables e below (T17.setTop (mkF m 48 #[.val (.long q0), .second, .val (.int p1), .val (.int p2), .val (.int p3), .val (.long vv), .second, .val (.int at1), .val (.int s1), .unset, .unset, .unset] [(.int (4 : Int32)), (.ref b1), (.ref b1)])) t
    refine XS.iload X17.here hx rfl (hb hby at_48) rfl ?_
    exact k
  have cq20 := f19
  obtain ⟨clq20, Arq20, qq20, Sq20, Nq20, Hq20, Gq20⟩ := cq20
  obtain ⟨T21, h21, X21, e21, W21, st21⟩ := stB X17 hx hZ e17 Arq20 (j := (4 : Int32)) (inb_of Sq20 ⟨by decide, by decide⟩) (g := (mkF m 50 #[.val (.long q0), .second, .val (.int p1), .val (.int p2), .val (.int p3), .val (.long vv), .second, .val (.int at1), .val (.int s1), .unset, .unset, .unset] [(.int s1), (.int (4 : Int32)), (.ref b1), (.ref b1)])) rfl rfl (hb hby at_50)
  refine OwnGo.of st21 ?_
  have N21 := Fr.snoc X21 N17 g_b1
  have f22 : n0 ≤ h21.size := Nat.le_trans f18 (Keep.of_wr W21).1
  have f23 : Arv Z h21 b1 k1 .byte (13 : Int32) [(.int (s1).toInt8.toInt32), (.int (s1).toInt8.toInt32), (.int (s1).toInt8.toInt32), (.int (s1).toInt8.toInt32), (.int (s1).toInt8.toInt32), (.int (0 : Int32)), (.int (0 : Int32)), (.int (0 : Int32)), (.int (0 : Int32)), (.int (0 : Int32)), (.int (0 : Int32)), (.int (0 : Int32)), (.int (0 : Int32))] (.int (0 : Int32)) := Arv.set Arq20 qq20 Sq20 Nq20 Hq20 Gq20 (fits_nar_byte _) W21 4 rfl (Nat.le_of_ble_eq_true rfl)
  show OwnGo p.tables e below _ (T21.setTop (mkF m 51 #[.val (.long q0), .second, .val (.int p1), .val (.int p2), .val (.int p3), .val (.long vv), .second, .val (.int at1), .val (.int s1), .unset, .unset, .unset] [(.ref b1)]))
  refine OwnGo.of (A := T21.setTop (mkF m 51 #[.val (.long q0), .second, .val (.int p1), .val (.int p2), .val (.int p3), .val (.long vv), .second, .val (.int at1), .val (.int s1), .unset, .unset, .unset] [(.ref b1)])) (B := T21.setTop (mkF m 55 #[.val (.long q0), .second, .val (.int p1), .val (.int p2), .val (.int p3), .val (.long vv), .second, .val (.int at1), .val (.int s1), .unset, .unset, .unset] [(.int s1), (.int (5 : Int32)), (.ref b1), (.ref b1)])) (fun t k => ?_) ?_
  · show Steps p.tables e below (T21.setTop (mkF m 51 #[.val (.long q0), .second, .val (.int p1), .val (.int p2), .val (.int p3), .val (.long vv), .second, .val (.int at1), .val (.int s1), .unset, .unset, .unset] [(.ref b1)])) t
    refine XS.dup X21.here hx rfl (hb hby at_51) rfl rfl ?_
    show Steps p.tables e below (T21.setTop (mkF m 52 #[.val (.long q0), .second, .val (.int p1), .val (.int p2), .val (.int p3), .val (.long vv), .second, .val (.int at1), .val (.int s1), .unset, .unset, .unset] [(.ref b1), (.ref b1)])) t
    refine XS.iconst X21.here hx rfl (hb hby at_52) ?_
    show Steps p.tables e below (T21.setTop (mkF m 53 #[.val (.long q0), .second, .val (.int p1), .val (.int p2), .val (.int p3), .val (.long vv), .second, .val (.int at1), .val (.int s1), .unset, .unset, .unset] [(.int (5 : Int32)), (.ref b1), (.ref b1)])) t
    refine XS.iload X21.here hx rfl (hb hby at_53) rfl ?_
    exact k
  have cq24 := f23
  obtain ⟨clq24, Arq24, qq24, Sq24, Nq24, Hq24, Gq24⟩ := cq24
  obtain ⟨T25, h25, X25, e25, W25, st25⟩ := stB X21 hx hZ e21 Arq24 (j := (5 : Int32)) (inb_of Sq24 ⟨by decide, by decide⟩) (g := (mkF m 55 #[.val (.long q0), .second, .val (.int p1), .val (.int p2), .val (.int p3), .val (.long vv), .second, .val (.int at1), .val (.int s1), .unset, .unset, .unset] [(.int s1), (.int (5 : Int32)), (.ref b1), (.ref b1)])) rfl rfl (hb hby at_55)
  refine OwnGo.of st25 ?_
  have N25 := Fr.snoc X25 N21 g_b1
  have f26 : n0 ≤ h25.size := Nat.le_trans f22 (Keep.of_wr W25).1
  have f27 : Arv Z h25 b1 k1 .byte (13 : Int32) [(.int (s1).toInt8.toInt32), (.int (s1).toInt8.toInt32), (.int (s1).toInt8.toInt32), (.int (s1).toInt8.toInt32), (.int (s1).toInt8.toInt32), (.int (s1).toInt8.toInt32), (.int (0 : Int32)), (.int (0 : Int32)), (.int (0 : Int32)), (.int (0 : Int32)), (.int (0 : Int32)), (.int (0 : Int32)), (.int (0 : Int32))] (.int (0 : Int32)) := Arv.set Arq24 qq24 Sq24 Nq24 Hq24 Gq24 (fits_nar_byte _) W25 5 rfl (Nat.le_of_ble_eq_true rfl)
  show OwnGo p.tables e below _ (T25.setTop (mkF m 56 #[.val (.long q0), .second, .val (.int p1), .val (.int p2), .val (.int p3), .val (.long vv), .second, .val (.int at1), .val (.int s1), .unset, .unset, .unset] [(.ref b1)]))
  refine OwnGo.of (A := T25.setTop (mkF m 56 #[.val (.long q0), .second, .val (.int p1), .val (.int p2), .val (.int p3), .val (.long vv), .second, .val (.int at1), .val (.int s1), .unset, .unset, .unset] [(.ref b1)])) (B := T25.setTop (mkF m 61 #[.val (.long q0), .second, .val (.int p1), .val (.int p2), .val (.int p3), .val (.long vv), .second, .val (.int at1), .val (.int s1), .unset, .unset, .unset] [(.int s1), (.int (6 : Int32)), (.ref b1), (.ref b1)])) (fun t k => ?_) ?_
  · show Steps p.tables e below (T25.setTop (mkF m 56 #[.val (.long q0), .second, .val (.int p1), .val (.int p2), .val (.int p3), .val (.long vv), .second, .val (.int at1), .val (.int s1), .unset, .unset, .unset] [(.ref b1)])) t
    refine XS.dup X25.here hx rfl (hb hby at_56) rfl rfl ?_
    show Steps p.tables e below (T25.setTop (mkF m 57 #[.val (.long q0), .second, .val (.int p1), .val (.int p2), .val (.int p3), .val (.long vv), .second, .val (.int at1), .val (.int s1), .unset, .unset, .unset] [(.ref b1), (.ref b1)])) t
    refine XS.bipush X25.here hx rfl (hb hby at_57) ?_
    show Steps p.tables e below (T25.setTop (mkF m 59 #[.val (.long q0), .second, .val (.int p1), .val (.int p2), .val (.int p3), .val (.long vv), .second, .val (.int at1), .val (.int s1), .unset, .unset, .unset] [(.int (6 : Int32)), (.ref b1), (.ref b1)])) t
    refine XS.iload X25.here hx rfl (hb hby at_59) rfl ?_
    exact k
  have cq28 := f27
  obtain ⟨clq28, Arq28, qq28, Sq28, Nq28, Hq28, Gq28⟩ := cq28
  obtain ⟨T29, h29, X29, e29, W29, st29⟩ := stB X25 hx hZ e25 Arq28 (j := (6 : Int32)) (inb_of Sq28 ⟨by decide, by decide⟩) (g := (mkF m 61 #[.val (.long q0), .second, .val (.int p1), .val (.int p2), .val (.int p3), .val (.long vv), .second, .val (.int at1), .val (.int s1), .unset, .unset, .unset] [(.int s1), (.int (6 : Int32)), (.ref b1), (.ref b1)])) rfl rfl (hb hby at_61)
  refine OwnGo.of st29 ?_
  have N29 := Fr.snoc X29 N25 g_b1
  have f30 : n0 ≤ h29.size := Nat.le_trans f26 (Keep.of_wr W29).1
  have f31 : Arv Z h29 b1 k1 .byte (13 : Int32) [(.int (s1).toInt8.toInt32), (.int (s1).toInt8.toInt32), (.int (s1).toInt8.toInt32), (.int (s1).toInt8.toInt32), (.int (s1).toInt8.toInt32), (.int (s1).toInt8.toInt32), (.int (s1).toInt8.toInt32), (.int (0 : Int32)), (.int (0 : Int32)), (.int (0 : Int32)), (.int (0 : Int32)), (.int (0 : Int32)), (.int (0 : Int32))] (.int (0 : Int32)) := Arv.set Arq28 qq28 Sq28 Nq28 Hq28 Gq28 (fits_nar_byte _) W29 6 rfl (Nat.le_of_ble_eq_true rfl)
  show OwnGo p.tables e below _ (T29.setTop (mkF m 62 #[.val (.long q0), .second, .val (.int p1), .val (.int p2), .val (.int p3), .val (.long vv), .second, .val (.int at1), .val (.int s1), .unset, .unset, .unset] [(.ref b1)]))
  refine OwnGo.of (A := T29.setTop (mkF m 62 #[.val (.long q0), .second, .val (.int p1), .val (.int p2), .val (.int p3), .val (.long vv), .second, .val (.int at1), .val (.int s1), .unset, .unset, .unset] [(.ref b1)])) (B := T29.setTop (mkF m 67 #[.val (.long q0), .second, .val (.int p1), .val (.int p2), .val (.int p3), .val (.long vv), .second, .val (.int at1), .val (.int s1), .unset, .unset, .unset] [(.int s1), (.int (7 : Int32)), (.ref b1), (.ref b1)])) (fun t k => ?_) ?_
  · show Steps p.tables e below (T29.setTop (mkF m 62 #[.val (.long q0), .second, .val (.int p1), .val (.int p2), .val (.int p3), .val (.long vv), .second, .val (.int at1), .val (.int s1), .unset, .unset, .unset] [(.ref b1)])) t
    refine XS.dup X29.here hx rfl (hb hby at_62) rfl rfl ?_
    show Steps p.tables e below (T29.setTop (mkF m 63 #[.val (.long q0), .second, .val (.int p1), .val (.int p2), .val (.int p3), .val (.long vv), .second, .val (.int at1), .val (.int s1), .unset, .unset, .unset] [(.ref b1), (.ref b1)])) t
    refine XS.bipush X29.here hx rfl (hb hby at_63) ?_
    show Steps p.tables e below (T29.setTop (mkF m 65 #[.val (.long q0), .second, .val (.int p1), .val (.int p2), .val (.int p3), .val (.long vv), .second, .val (.int at1), .val (.int s1), .unset, .unset, .unset] [(.int (7 : Int32)), (.ref b1), (.ref b1)])) t
    refine XS.iload X29.here hx rfl (hb hby at_65) rfl ?_
    exact k
  have cq32 := f31
  obtain ⟨clq32, Arq32, qq32, Sq32, Nq32, Hq32, Gq32⟩ := cq32
  obtain ⟨T33, h33, X33, e33, W33, st33⟩ := stB X29 hx hZ e29 Arq32 (j := (7 : Int32)) (inb_of Sq32 ⟨by decide, by decide⟩) (g := (mkF m 67 #[.val (.long q0), .second, .val (.int p1), .val (.int p2), .val (.int p3), .val (.long vv), .second, .val (.int at1), .val (.int s1), .unset, .unset, .unset] [(.int s1), (.int (7 : Int32)), (.ref b1), (.ref b1)])) rfl rfl (hb hby at_67)
  refine OwnGo.of st33 ?_
  have N33 := Fr.snoc X33 N29 g_b1
  have f34 : n0 ≤ h33.size := Nat.le_trans f30 (Keep.of_wr W33).1
  have f35 : Arv Z h33 b1 k1 .byte (13 : Int32) [(.int (s1).toInt8.toInt32), (.int (s1).toInt8.toInt32), (.int (s1).toInt8.toInt32), (.int (s1).toInt8.toInt32), (.int (s1).toInt8.toInt32), (.int (s1).toInt8.toInt32), (.int (s1).toInt8.toInt32), (.int (s1).toInt8.toInt32), (.int (0 : Int32)), (.int (0 : Int32)), (.int (0 : Int32)), (.int (0 : Int32)), (.int (0 : Int32))] (.int (0 : Int32)) := Arv.set Arq32 qq32 Sq32 Nq32 Hq32 Gq32 (fits_nar_byte _) W33 7 rfl (Nat.le_of_ble_eq_true rfl)
  show OwnGo p.tables e below _ (T33.setTop (mkF m 68 #[.val (.long q0), .second, .val (.int p1), .val (.int p2), .val (.int p3), .val (.long vv), .second, .val (.int at1), .val (.int s1), .unset, .unset, .unset] [(.ref b1)]))
  refine OwnGo.of (A := T33.setTop (mkF m 68 #[.val (.long q0), .second, .val (.int p1), .val (.int p2), .val (.int p3), .val (.long vv), .second, .val (.int at1), .val (.int s1), .unset, .unset, .unset] [(.ref b1)])) (B := T33.setTop (mkF m 73 #[.val (.long q0), .second, .val (.int p1), .val (.int p2), .val (.int p3), .val (.long vv), .second, .val (.int at1), .val (.int s1), .unset, .unset, .unset] [(.int s1), (.int (8 : Int32)), (.ref b1), (.ref b1)])) (fun t k => ?_) ?_
  · show Steps p.tables e below (T33.setTop (mkF m 68 #[.val (.long q0), .second, .val (.int p1), .val (.int p2), .val (.int p3), .val (.long vv), .second, .val (.int at1), .val (.int s1), .unset, .unset, .unset] [(.ref b1)])) t
    refine XS.dup X33.here hx rfl (hb hby at_68) rfl rfl ?_
    show Steps p.tables e below (T33.setTop (mkF m 69 #[.val (.long q0), .second, .val (.int p1), .val (.int p2), .val (.int p3), .val (.long vv), .second, .val (.int at1), .val (.int s1), .unset, .unset, .unset] [(.ref b1), (.ref b1)])) t
    refine XS.bipush X33.here hx rfl (hb hby at_69) ?_
    show Steps p.tables e below (T33.setTop (mkF m 71 #[.val (.long q0), .second, .val (.int p1), .val (.int p2), .val (.int p3), .val (.long vv), .second, .val (.int at1), .val (.int s1), .unset, .unset, .unset] [(.int (8 : Int32)), (.ref b1), (.ref b1)])) t
    refine XS.iload X33.here hx rfl (hb hby at_71) rfl ?_
    exact k
  have cq36 := f35
  obtain ⟨clq36, Arq36, qq36, Sq36, Nq36, Hq36, Gq36⟩ := cq36
  obtain ⟨T37, h37, X37, e37, W37, st37⟩ := stB X33 hx hZ e33 Arq36 (j := (8 : Int32)) (inb_of Sq36 ⟨by decide, by decide⟩) (g := (mkF m 73 #[.val (.long q0), .second, .val (.int p1), .val (.int p2), .val (.int p3), .val (.long vv), .second, .val (.int at1), .val (.int s1), .unset, .unset, .unset] [(.int s1), (.int (8 : Int32)), (.ref b1), (.ref b1)])) rfl rfl (hb hby at_73)
  refine OwnGo.of st37 ?_
  have N37 := Fr.snoc X37 N33 g_b1
  have f38 : n0 ≤ h37.size := Nat.le_trans f34 (Keep.of_wr W37).1
  have f39 : Arv Z h37 b1 k1 .byte (13 : Int32) [(.int (s1).toInt8.toInt32), (.int (s1).toInt8.toInt32), (.int (s1).toInt8.toInt32), (.int (s1).toInt8.toInt32), (.int (s1).toInt8.toInt32), (.int (s1).toInt8.toInt32), (.int (s1).toInt8.toInt32), (.int (s1).toInt8.toInt32), (.int (s1).toInt8.toInt32), (.int (0 : Int32)), (.int (0 : Int32)), (.int (0 : Int32)), (.int (0 : Int32))] (.int (0 : Int32)) := Arv.set Arq36 qq36 Sq36 Nq36 Hq36 Gq36 (fits_nar_byte _) W37 8 rfl (Nat.le_of_ble_eq_true rfl)
  show OwnGo p.tables e below _ (T37.setTop (mkF m 74 #[.val (.long q0), .second, .val (.int p1), .val (.int p2), .val (.int p3), .val (.long vv), .second, .val (.int at1), .val (.int s1), .unset, .unset, .unset] [(.ref b1)]))
  refine OwnGo.of (A := T37.setTop (mkF m 74 #[.val (.long q0), .second, .val (.int p1), .val (.int p2), .val (.int p3), .val (.long vv), .second, .val (.int at1), .val (.int s1), .unset, .unset, .unset] [(.ref b1)])) (B := T37.setTop (mkF m 79 #[.val (.long q0), .second, .val (.int p1), .val (.int p2), .val (.int p3), .val (.long vv), .second, .val (.int at1), .val (.int s1), .unset, .unset, .unset] [(.int s1), (.int (9 : Int32)), (.ref b1), (.ref b1)])) (fun t k => ?_) ?_
  · show Steps p.tables e below (T37.setTop (mkF m 74 #[.val (.long q0), .second, .val (.int p1), .val (.int p2), .val (.int p3), .val (.long vv), .second, .val (.int at1), .val (.int s1), .unset, .unset, .unset] [(.ref b1)])) t
    refine XS.dup X37.here hx rfl (hb hby at_74) rfl rfl ?_
    show Steps p.tables e below (T37.setTop (mkF m 75 #[.val (.long q0), .second, .val (.int p1), .val (.int p2), .val (.int p3), .val (.long vv), .second, .val (.int at1), .val (.int s1), .unset, .unset, .unset] [(.ref b1), (.ref b1)])) t
    refine XS.bipush X37.here hx rfl (hb hby at_75) ?_
    show Steps p.tables e below (T37.setTop (mkF m 77 #[.val (.long q0), .second, .val (.int p1), .val (.int p2), .val (.int p3), .val (.long vv), .second, .val (.int at1), .val (.int s1), .unset, .unset, .unset] [(.int (9 : Int32)), (.ref b1), (.ref b1)])) t
    refine XS.iload X37.here hx rfl (hb hby at_77) rfl ?_
    exact k
  have cq40 := f39
  obtain ⟨clq40, Arq40, qq40, Sq40, Nq40, Hq40, Gq40⟩ := cq40
  obtain ⟨T41, h41, X41, e41, W41, st41⟩ := stB X37 hx hZ e37 Arq40 (j := (9 : Int32)) (inb_of Sq40 ⟨by decide, by decide⟩) (g := (mkF m 79 #[.val (.long q0), .second, .val (.int p1), .val (.int p2), .val (.int p3), .val (.long vv), .second, .val (.int at1), .val (.int s1), .unset, .unset, .unset] [(.int s1), (.int (9 : Int32)), (.ref b1), (.ref b1)])) rfl rfl (hb hby at_79)
  refine OwnGo.of st41 ?_
  have N41 := Fr.snoc X41 N37 g_b1
  have f42 : n0 ≤ h41.size := Nat.le_trans f38 (Keep.of_wr W41).1
  have f43 : Arv Z h41 b1 k1 .byte (13 : Int32) [(.int (s1).toInt8.toInt32), (.int (s1).toInt8.toInt32), (.int (s1).toInt8.toInt32), (.int (s1).toInt8.toInt32), (.int (s1).toInt8.toInt32), (.int (s1).toInt8.toInt32), (.int (s1).toInt8.toInt32), (.int (s1).toInt8.toInt32), (.int (s1).toInt8.toInt32), (.int (s1).toInt8.toInt32), (.int (0 : Int32)), (.int (0 : Int32)), (.int (0 : Int32))] (.int (0 : Int32)) := Arv.set Arq40 qq40 Sq40 Nq40 Hq40 Gq40 (fits_nar_byte _) W41 9 rfl (Nat.le_of_ble_eq_true rfl)
  show OwnGo p.tables e below _ (T41.setTop (mkF m 80 #[.val (.long q0), .second, .val (.int p1), .val (.int p2), .val (.int p3), .val (.long vv), .second, .val (.int at1), .val (.int s1), .unset, .unset, .unset] [(.ref b1)]))
  refine OwnGo.of (A := T41.setTop (mkF m 80 #[.val (.long q0), .second, .val (.int p1), .val (.int p2), .val (.int p3), .val (.long vv), .second, .val (.int at1), .val (.int s1), .unset, .unset, .unset] [(.ref b1)])) (B := T41.setTop (mkF m 85 #[.val (.long q0), .second, .val (.int p1), .val (.int p2), .val (.int p3), .val (.long vv), .second, .val (.int at1), .val (.int s1), .unset, .unset, .unset] [(.int s1), (.int (10 : Int32)), (.ref b1), (.ref b1)])) (fun t k => ?_) ?_
  · show Steps p.tables e below (T41.setTop (mkF m 80 #[.val (.long q0), .second, .val (.int p1), .val (.int p2), .val (.int p3), .val (.long vv), .second, .val (.int at1), .val (.int s1), .unset, .unset, .unset] [(.ref b1)])) t
    refine XS.dup X41.here hx rfl (hb hby at_80) rfl rfl ?_
    show Steps p.tables e below (T41.setTop (mkF m 81 #[.val (.long q0), .second, .val (.int p1), .val (.int p2), .val (.int p3), .val (.long vv), .second, .val (.int at1), .val (.int s1), .unset, .unset, .unset] [(.ref b1), (.ref b1)])) t
    refine XS.bipush X41.here hx rfl (hb hby at_81) ?_
    show Steps p.tables e below (T41.setTop (mkF m 83 #[.val (.long q0), .second, .val (.int p1), .val (.int p2), .val (.int p3), .val (.long vv), .second, .val (.int at1), .val (.int s1), .unset, .unset, .unset] [(.int (10 : Int32)), (.ref b1), (.ref b1)])) t
    refine XS.iload X41.here hx rfl (hb hby at_83) rfl ?_
    exact k
  have cq44 := f43
  obtain ⟨clq44, Arq44, qq44, Sq44, Nq44, Hq44, Gq44⟩ := cq44
  obtain ⟨T45, h45, X45, e45, W45, st45⟩ := stB X41 hx hZ e41 Arq44 (j := (10 : Int32)) (inb_of Sq44 ⟨by decide, by decide⟩) (g := (mkF m 85 #[.val (.long q0), .second, .val (.int p1), .val (.int p2), .val (.int p3), .val (.long vv), .second, .val (.int at1), .val (.int s1), .unset, .unset, .unset] [(.int s1), (.int (10 : Int32)), (.ref b1), (.ref b1)])) rfl rfl (hb hby at_85)
  refine OwnGo.of st45 ?_
  have N45 := Fr.snoc X45 N41 g_b1
  have f46 : n0 ≤ h45.size := Nat.le_trans f42 (Keep.of_wr W45).1
  have f47 : Arv Z h45 b1 k1 .byte (13 : Int32) [(.int (s1).toInt8.toInt32), (.int (s1).toInt8.toInt32), (.int (s1).toInt8.toInt32), (.int (s1).toInt8.toInt32), (.int (s1).toInt8.toInt32), (.int (s1).toInt8.toInt32), (.int (s1).toInt8.toInt32), (.int (s1).toInt8.toInt32), (.int (s1).toInt8.toInt32), (.int (s1).toInt8.toInt32), (.int (s1).toInt8.toInt32), (.int (0 : Int32)), (.int (0 : Int32))] (.int (0 : Int32)) := Arv.set Arq44 qq44 Sq44 Nq44 Hq44 Gq44 (fits_nar_byte _) W45 10 rfl (Nat.le_of_ble_eq_true rfl)
  show OwnGo p.tables e below _ (T45.setTop (mkF m 86 #[.val (.long q0), .second, .val (.int p1), .val (.int p2), .val (.int p3), .val (.long vv), .second, .val (.int at1), .val (.int s1), .unset, .unset, .unset] [(.ref b1)]))
  refine OwnGo.of (A := T45.setTop (mkF m 86 #[.val (.long q0), .second, .val (.int p1), .val (.int p2), .val (.int p3), .val (.long vv), .second, .val (.int at1), .val (.int s1), .unset, .unset, .unset] [(.ref b1)])) (B := T45.setTop (mkF m 91 #[.val (.long q0), .second, .val (.int p1), .val (.int p2), .val (.int p3), .val (.long vv), .second, .val (.int at1), .val (.int s1), .unset, .unset, .unset] [(.int s1), (.int (11 : Int32)), (.ref b1), (.ref b1)])) (fun t k => ?_) ?_
  · show Steps p.tables e below (T45.setTop (mkF m 86 #[.val (.long q0), .second, .val (.int p1), .val (.int p2), .val (.int p3), .val (.long vv), .second, .val (.int at1), .val (.int s1), .unset, .unset, .unset] [(.ref b1)])) t
    refine XS.dup X45.here hx rfl (hb hby at_86) rfl rfl ?_
    show Steps p.tables e below (T45.setTop (mkF m 87 #[.val (.long q0), .second, .val (.int p1), .val (.int p2), .val (.int p3), .val (.long vv), .second, .val (.int at1), .val (.int s1), .unset, .unset, .unset] [(.ref b1), (.ref b1)])) t
    refine XS.bipush X45.here hx rfl (hb hby at_87) ?_
    show Steps p.tables e below (T45.setTop (mkF m 89 #[.val (.long q0), .second, .val (.int p1), .val (.int p2), .val (.int p3), .val (.long vv), .second, .val (.int at1), .val (.int s1), .unset, .unset, .unset] [(.int (11 : Int32)), (.ref b1), (.ref b1)])) t
    refine XS.iload X45.here hx rfl (hb hby at_89) rfl ?_
    exact k
  have cq48 := f47
  obtain ⟨clq48, Arq48, qq48, Sq48, Nq48, Hq48, Gq48⟩ := cq48
  obtain ⟨T49, h49, X49, e49, W49, st49⟩ := stB X45 hx hZ e45 Arq48 (j := (11 : Int32)) (inb_of Sq48 ⟨by decide, by decide⟩) (g := (mkF m 91 #[.val (.long q0), .second, .val (.int p1), .val (.int p2), .val (.int p3), .val (.long vv), .second, .val (.int at1), .val (.int s1), .unset, .unset, .unset] [(.int s1), (.int (11 : Int32)), (.ref b1), (.ref b1)])) rfl rfl (hb hby at_91)
  refine OwnGo.of st49 ?_
  have N49 := Fr.snoc X49 N45 g_b1
  have f50 : n0 ≤ h49.size := Nat.le_trans f46 (Keep.of_wr W49).1
  have f51 : Arv Z h49 b1 k1 .byte (13 : Int32) [(.int (s1).toInt8.toInt32), (.int (s1).toInt8.toInt32), (.int (s1).toInt8.toInt32), (.int (s1).toInt8.toInt32), (.int (s1).toInt8.toInt32), (.int (s1).toInt8.toInt32), (.int (s1).toInt8.toInt32), (.int (s1).toInt8.toInt32), (.int (s1).toInt8.toInt32), (.int (s1).toInt8.toInt32), (.int (s1).toInt8.toInt32), (.int (s1).toInt8.toInt32), (.int (0 : Int32))] (.int (0 : Int32)) := Arv.set Arq48 qq48 Sq48 Nq48 Hq48 Gq48 (fits_nar_byte _) W49 11 rfl (Nat.le_of_ble_eq_true rfl)
  show OwnGo p.tables e below _ (T49.setTop (mkF m 92 #[.val (.long q0), .second, .val (.int p1), .val (.int p2), .val (.int p3), .val (.long vv), .second, .val (.int at1), .val (.int s1), .unset, .unset, .unset] [(.ref b1)]))
  refine OwnGo.of (A := T49.setTop (mkF m 92 #[.val (.long q0), .second, .val (.int p1), .val (.int p2), .val (.int p3), .val (.long vv), .second, .val (.int at1), .val (.int s1), .unset, .unset, .unset] [(.ref b1)])) (B := T49.setTop (mkF m 97 #[.val (.long q0), .second, .val (.int p1), .val (.int p2), .val (.int p3), .val (.long vv), .second, .val (.int at1), .val (.int s1), .unset, .unset, .unset] [(.int s1), (.int (12 : Int32)), (.ref b1), (.ref b1)])) (fun t k => ?_) ?_
  · show Steps p.tables e below (T49.setTop (mkF m 92 #[.val (.long q0), .second, .val (.int p1), .val (.int p2), .val (.int p3), .val (.long vv), .second, .val (.int at1), .val (.int s1), .unset, .unset, .unset] [(.ref b1)])) t
    refine XS.dup X49.here hx rfl (hb hby at_92) rfl rfl ?_
    show Steps p.tables e below (T49.setTop (mkF m 93 #[.val (.long q0), .second, .val (.int p1), .val (.int p2), .val (.int p3), .val (.long vv), .second, .val (.int at1), .val (.int s1), .unset, .unset, .unset] [(.ref b1), (.ref b1)])) t
    refine XS.bipush X49.here hx rfl (hb hby at_93) ?_
    show Steps p.tables e below (T49.setTop (mkF m 95 #[.val (.long q0), .second, .val (.int p1), .val (.int p2), .val (.int p3), .val (.long vv), .second, .val (.int at1), .val (.int s1), .unset, .unset, .unset] [(.int (12 : Int32)), (.ref b1), (.ref b1)])) t
    refine XS.iload X49.here hx rfl (hb hby at_95) rfl ?_
    exact k
  have cq52 := f51
  obtain ⟨clq52, Arq52, qq52, Sq52, Nq52, Hq52, Gq52⟩ := cq52
  obtain ⟨T53, h53, X53, e53, W53, st53⟩ := stB X49 hx hZ e49 Arq52 (j := (12 : Int32)) (inb_of Sq52 ⟨by decide, by decide⟩) (g := (mkF m 97 #[.val (.long q0), .second, .val (.int p1), .val (.int p2), .val (.int p3), .val (.long vv), .second, .val (.int at1), .val (.int s1), .unset, .unset, .unset] [(.int s1), (.int (12 : Int32)), (.ref b1), (.ref b1)])) rfl rfl (hb hby at_97)
  refine OwnGo.of st53 ?_
  have N53 := Fr.snoc X53 N49 g_b1
  have f54 : n0 ≤ h53.size := Nat.le_trans f50 (Keep.of_wr W53).1
  have f55 : Arv Z h53 b1 k1 .byte (13 : Int32) [(.int (s1).toInt8.toInt32), (.int (s1).toInt8.toInt32), (.int (s1).toInt8.toInt32), (.int (s1).toInt8.toInt32), (.int (s1).toInt8.toInt32), (.int (s1).toInt8.toInt32), (.int (s1).toInt8.toInt32), (.int (s1).toInt8.toInt32), (.int (s1).toInt8.toInt32), (.int (s1).toInt8.toInt32), (.int (s1).toInt8.toInt32), (.int (s1).toInt8.toInt32), (.int (s1).toInt8.toInt32)] (.int (0 : Int32)) := Arv.set Arq52 qq52 Sq52 Nq52 Hq52 Gq52 (fits_nar_byte _) W53 12 rfl (Nat.le_of_ble_eq_true rfl)
  show OwnGo p.tables e below _ (T53.setTop (mkF m 98 #[.val (.long q0), .second, .val (.int p1), .val (.int p2), .val (.int p3), .val (.long vv), .second, .val (.int at1), .val (.int s1), .unset, .unset, .unset] [(.ref b1)]))
  refine OwnGo.of (A := T53.setTop (mkF m 98 #[.val (.long q0), .second, .val (.int p1), .val (.int p2), .val (.int p3), .val (.long vv), .second, .val (.int at1), .val (.int s1), .unset, .unset, .unset] [(.ref b1)])) (B := T53.setTop (mkF m 100 #[.val (.long q0), .second, .val (.int p1), .val (.int p2), .val (.int p3), .val (.long vv), .second, .val (.int at1), .val (.int s1), .val (.ref b1), .unset, .unset] [])) (fun t k => ?_) ?_
  · show Steps p.tables e below (T53.setTop (mkF m 98 #[.val (.long q0), .second, .val (.int p1), .val (.int p2), .val (.int p3), .val (.long vv), .second, .val (.int at1), .val (.int s1), .unset, .unset, .unset] [(.ref b1)])) t
    refine XS.astore X53.here hx rfl (hb hby at_98) rfl rfl (l' := #[.val (.long q0), .second, .val (.int p1), .val (.int p2), .val (.int p3), .val (.long vv), .second, .val (.int at1), .val (.int s1), .val (.ref b1), .unset, .unset]) rfl ?_
    exact k
  have VC : Arv Z h53 b1 k1 .byte (13 : Int32) (own_arr (fun _ => s1)) (.int (0 : Int32)) := by have q := f55; rw [hs] at q; exact q
  refine OwnGo.of (A := T53.setTop (mkF m 100 #[.val (.long q0), .second, .val (.int p1), .val (.int p2), .val (.int p3), .val (.long vv), .second, .val (.int at1), .val (.int s1), .val (.ref b1), .unset, .unset] [])) (B := T53.setTop (mkF m 104 #[.val (.long q0), .second, .val (.int p1), .val (.int p2), .val (.int p3), .val (.long vv), .second, .val (.int at1), .val (.int s1), .val (.ref b1), .unset, .unset] [(.int (1 : Int32)), (.long vv), (.int (1 : Int32))])) (fun t k => ?_) ?_
  · show Steps p.tables e below (T53.setTop (mkF m 100 #[.val (.long q0), .second, .val (.int p1), .val (.int p2), .val (.int p3), .val (.long vv), .second, .val (.int at1), .val (.int s1), .val (.ref b1), .unset, .unset] [])) t
    refine XS.iconst X53.here hx rfl (hb hby at_100) ?_
    show Steps p.tables e below (T53.setTop (mkF m 101 #[.val (.long q0), .second, .val (.int p1), .val (.int p2), .val (.int p3), .val (.long vv), .second, .val (.int at1), .val (.int s1), .val (.ref b1), .unset, .unset] [(.int (1 : Int32))])) t
    refine XS.lload X53.here hx rfl (hb hby at_101) rfl ?_
    show Steps p.tables e below (T53.setTop (mkF m 103 #[.val (.long q0), .second, .val (.int p1), .val (.int p2), .val (.int p3), .val (.long vv), .second, .val (.int at1), .val (.int s1), .val (.ref b1), .unset, .unset] [(.long vv), (.int (1 : Int32))])) t
    refine XS.iconst X53.here hx rfl (hb hby at_103) ?_
    exact k
  obtain ⟨T56, L56, v56, X56, hQ56, st56⟩ := own_callS X53 hx (y := (⟨"com/example/rankwright/rankwright/index/ByteWriterWriteNumberPinLaw", "more", "(JI)I"⟩ : MethodName)) hown (mvT hZ (hw _ (List.mem_of_getElem? (i := 2) rfl))) (mvT hZ (hw _ (List.mem_of_getElem? (i := 3) rfl))) (mvT hZ (hw _ (List.mem_of_getElem? (i := 4) rfl))) (mvT hZ (hw _ (List.mem_of_getElem? (i := 5) rfl))) (by decide) (backOf (W := 1) (rm1 l Z aw hw [] vv (1 : Int32)  h53 n0 f54 ) hZ (hw _ (List.mem_of_getElem? (i := 5) rfl)) (hw _ (List.mem_of_getElem? (i := 4) rfl)) (by decide) (by decide)) (g := (mkF m 104 #[.val (.long q0), .second, .val (.int p1), .val (.int p2), .val (.int p3), .val (.long vv), .second, .val (.int at1), .val (.int s1), .val (.ref b1), .unset, .unset] [(.int (1 : Int32)), (.long vv), (.int (1 : Int32))])) rfl (by rw [hml]; rfl) (argsL := [(.long vv), (.int (1 : Int32))]) (rest := [(.int (1 : Int32))]) (lenOf pd_2 rfl) rfl (by show 2 * 0 + _ ≤ _; exact Nat.le_of_eq rfl) (hb hby at_104) rfl e53 (by decide) (by decide)
  obtain ⟨rfl, N56q, eq56⟩ := hQ56
  have N56 := Fr.app N53 N56q
  refine OwnGo.of st56 ?_
  show OwnGo p.tables e below _ (T56.setTop (mkF m 107 #[.val (.long q0), .second, .val (.int p1), .val (.int p2), .val (.int p3), .val (.long vv), .second, .val (.int at1), .val (.int s1), .val (.ref b1), .unset, .unset] [(.int (own_more vv (1 : Int32))), (.int (1 : Int32))]))
  refine OwnGo.of (A := T56.setTop (mkF m 107 #[.val (.long q0), .second, .val (.int p1), .val (.int p2), .val (.int p3), .val (.long vv), .second, .val (.int at1), .val (.int s1), .val (.ref b1), .unset, .unset] [(.int (own_more vv (1 : Int32))), (.int (1 : Int32))])) (B := T56.setTop (mkF m 111 #[.val (.long q0), .second, .val (.int p1), .val (.int p2), .val (.int p3), .val (.long vv), .second, .val (.int at1), .val (.int s1), .val (.ref b1), .unset, .unset] [(.int (2 : Int32)), (.long vv), (.int ((1 : Int32) + (own_more vv (1 : Int32))))])) (fun t k => ?_) ?_
  · show Steps p.tables e below (T56.setTop (mkF m 107 #[.val (.long q0), .second, .val (.int p1), .val (.int p2), .val (.int p3), .val (.long vv), .second, .val (.int at1), .val (.int s1), .val (.ref b1), .unset, .unset] [(.int (own_more vv (1 : Int32))), (.int (1 : Int32))])) t
    refine XS.iadd X56.here hx rfl (hb hby at_107) rfl ?_
    show Steps p.tables e below (T56.setTop (mkF m 108 #[.val (.long q0), .second, .val (.int p1), .val (.int p2), .val (.int p3), .val (.long vv), .second, .val (.int at1), .val (.int s1), .val (.ref b1), .unset, .unset] [(.int ((1 : Int32) + (own_more vv (1 : Int32))))])) t
    refine XS.lload X56.here hx rfl (hb hby at_108) rfl ?_
    show Steps p.tables e below (T56.setTop (mkF m 110 #[.val (.long q0), .second, .val (.int p1), .val (.int p2), .val (.int p3), .val (.long vv), .second, .val (.int at1), .val (.int s1), .val (.ref b1), .unset, .unset] [(.long vv), (.int ((1 : Int32) + (own_more vv (1 : Int32))))])) t
    refine XS.iconst X56.here hx rfl (hb hby at_110) ?_
    exact k
  obtain ⟨T57, L57, v57, X57, hQ57, st57⟩ := own_callS X56 hx (y := (⟨"com/example/rankwright/rankwright/index/ByteWriterWriteNumberPinLaw", "more", "(JI)I"⟩ : MethodName)) hown (mvT hZ (hw _ (List.mem_of_getElem? (i := 2) rfl))) (mvT hZ (hw _ (List.mem_of_getElem? (i := 3) rfl))) (mvT hZ (hw _ (List.mem_of_getElem? (i := 4) rfl))) (mvT hZ (hw _ (List.mem_of_getElem? (i := 5) rfl))) (by decide) (backOf (W := 1) (rm1 l Z aw hw [] vv (2 : Int32)  h53 n0 f54 ) hZ (hw _ (List.mem_of_getElem? (i := 5) rfl)) (hw _ (List.mem_of_getElem? (i := 4) rfl)) (by decide) (by decide)) (g := (mkF m 111 #[.val (.long q0), .second, .val (.int p1), .val (.int p2), .val (.int p3), .val (.long vv), .second, .val (.int at1), .val (.int s1), .val (.ref b1), .unset, .unset] [(.int (2 : Int32)), (.long vv), (.int ((1 : Int32) + (own_more vv (1 : Int32))))])) rfl (by rw [hml]; rfl) (argsL := [(.long vv), (.int (2 : Int32))]) (rest := [(.int ((1 : Int32) + (own_more vv (1 : Int32))))]) (lenOf pd_2 rfl) rfl (by show 2 * 0 + _ ≤ _; exact Nat.le_of_eq rfl) (hb hby at_111) rfl eq56 (by decide) (by decide)
  obtain ⟨rfl, N57q, eq57⟩ := hQ57
  have N57 := Fr.app N56 N57q
  refine OwnGo.of st57 ?_
  show OwnGo p.tables e below _ (T57.setTop (mkF m 114 #[.val (.long q0), .second, .val (.int p1), .val (.int p2), .val (.int p3), .val (.long vv), .second, .val (.int at1), .val (.int s1), .val (.ref b1), .unset, .unset] [(.int (own_more vv (2 : Int32))), (.int ((1 : Int32) + (own_more vv (1 : Int32))))]))
  refine OwnGo.of (A := T57.setTop (mkF m 114 #[.val (.long q0), .second, .val (.int p1), .val (.int p2), .val (.int p3), .val (.long vv), .second, .val (.int at1), .val (.int s1), .val (.ref b1), .unset, .unset] [(.int (own_more vv (2 : Int32))), (.int ((1 : Int32) + (own_more vv (1 : Int32))))])) (B := T57.setTop (mkF m 118 #[.val (.long q0), .second, .val (.int p1), .val (.int p2), .val (.int p3), .val (.long vv), .second, .val (.int at1), .val (.int s1), .val (.ref b1), .unset, .unset] [(.int (3 : Int32)), (.long vv), (.int (((1 : Int32) + (own_more vv (1 : Int32))) + (own_more vv (2 : Int32))))])) (fun t k => ?_) ?_
  · show Steps p.tables e below (T57.setTop (mkF m 114 #[.val (.long q0), .second, .val (.int p1), .val (.int p2), .val (.int p3), .val (.long vv), .second, .val (.int at1), .val (.int s1), .val (.ref b1), .unset, .unset] [(.int (own_more vv (2 : Int32))), (.int ((1 : Int32) + (own_more vv (1 : Int32))))])) t
    refine XS.iadd X57.here hx rfl (hb hby at_114) rfl ?_
    show Steps p.tables e below (T57.setTop (mkF m 115 #[.val (.long q0), .second, .val (.int p1), .val (.int p2), .val (.int p3), .val (.long vv), .second, .val (.int at1), .val (.int s1), .val (.ref b1), .unset, .unset] [(.int (((1 : Int32) + (own_more vv (1 : Int32))) + (own_more vv (2 : Int32))))])) t
    refine XS.lload X57.here hx rfl (hb hby at_115) rfl ?_
    show Steps p.tables e below (T57.setTop (mkF m 117 #[.val (.long q0), .second, .val (.int p1), .val (.int p2), .val (.int p3), .val (.long vv), .second, .val (.int at1), .val (.int s1), .val (.ref b1), .unset, .unset] [(.long vv), (.int (((1 : Int32) + (own_more vv (1 : Int32))) + (own_more vv (2 : Int32))))])) t
    refine XS.iconst X57.here hx rfl (hb hby at_117) ?_
    exact k
  obtain ⟨T58, L58, v58, X58, hQ58, st58⟩ := own_callS X57 hx (y := (⟨"com/example/rankwright/rankwright/index/ByteWriterWriteNumberPinLaw", "more", "(JI)I"⟩ : MethodName)) hown (mvT hZ (hw _ (List.mem_of_getElem? (i := 2) rfl))) (mvT hZ (hw _ (List.mem_of_getElem? (i := 3) rfl))) (mvT hZ (hw _ (List.mem_of_getElem? (i := 4) rfl))) (mvT hZ (hw _ (List.mem_of_getElem? (i := 5) rfl))) (by decide) (backOf (W := 1) (rm1 l Z aw hw [] vv (3 : Int32)  h53 n0 f54 ) hZ (hw _ (List.mem_of_getElem? (i := 5) rfl)) (hw _ (List.mem_of_getElem? (i := 4) rfl)) (by decide) (by decide)) (g := (mkF m 118 #[.val (.long q0), .second, .val (.int p1), .val (.int p2), .val (.int p3), .val (.long vv), .second, .val (.int at1), .val (.int s1), .val (.ref b1), .unset, .unset] [(.int (3 : Int32)), (.long vv), (.int (((1 : Int32) + (own_more vv (1 : Int32))) + (own_more vv (2 : Int32))))])) rfl (by rw [hml]; rfl) (argsL := [(.long vv), (.int (3 : Int32))]) (rest := [(.int (((1 : Int32) + (own_more vv (1 : Int32))) + (own_more vv (2 : Int32))))]) (lenOf pd_2 rfl) rfl (by show 2 * 0 + _ ≤ _; exact Nat.le_of_eq rfl) (hb hby at_118) rfl eq57 (by decide) (by decide)
  obtain ⟨rfl, N58q, eq58⟩ := hQ58
  have N58 := Fr.app N57 N58q
  refine OwnGo.of st58 ?_
  show OwnGo p.tables e below _ (T58.setTop (mkF m 121 #[.val (.long q0), .second, .val (.int p1), .val (.int p2), .val (.int p3), .val (.long vv), .second, .val (.int at1), .val (.int s1), .val (.ref b1), .unset, .unset] [(.int (own_more vv (3 : Int32))), (.int (((1 : Int32) + (own_more vv (1 : Int32))) + (own_more vv (2 : Int32))))]))
  refine OwnGo.of (A := T58.setTop (mkF m 121 #[.val (.long q0), .second, .val (.int p1), .val (.int p2), .val (.int p3), .val (.long vv), .second, .val (.int at1), .val (.int s1), .val (.ref b1), .unset, .unset] [(.int (own_more vv (3 : Int32))), (.int (((1 : Int32) + (own_more vv (1 : Int32))) + (own_more vv (2 : Int32))))])) (B := T58.setTop (mkF m 125 #[.val (.long q0), .second, .val (.int p1), .val (.int p2), .val (.int p3), .val (.long vv), .second, .val (.int at1), .val (.int s1), .val (.ref b1), .unset, .unset] [(.int (4 : Int32)), (.long vv), (.int ((((1 : Int32) + (own_more vv (1 : Int32))) + (own_more vv (2 : Int32))) + (own_more vv (3 : Int32))))])) (fun t k => ?_) ?_
  · show Steps p.tables e below (T58.setTop (mkF m 121 #[.val (.long q0), .second, .val (.int p1), .val (.int p2), .val (.int p3), .val (.long vv), .second, .val (.int at1), .val (.int s1), .val (.ref b1), .unset, .unset] [(.int (own_more vv (3 : Int32))), (.int (((1 : Int32) + (own_more vv (1 : Int32))) + (own_more vv (2 : Int32))))])) t
    refine XS.iadd X58.here hx rfl (hb hby at_121) rfl ?_
    show Steps p.tables e below (T58.setTop (mkF m 122 #[.val (.long q0), .second, .val (.int p1), .val (.int p2), .val (.int p3), .val (.long vv), .second, .val (.int at1), .val (.int s1), .val (.ref b1), .unset, .unset] [(.int ((((1 : Int32) + (own_more vv (1 : Int32))) + (own_more vv (2 : Int32))) + (own_more vv (3 : Int32))))])) t
    refine XS.lload X58.here hx rfl (hb hby at_122) rfl ?_
    show Steps p.tables e below (T58.setTop (mkF m 124 #[.val (.long q0), .second, .val (.int p1), .val (.int p2), .val (.int p3), .val (.long vv), .second, .val (.int at1), .val (.int s1), .val (.ref b1), .unset, .unset] [(.long vv), (.int ((((1 : Int32) + (own_more vv (1 : Int32))) + (own_more vv (2 : Int32))) + (own_more vv (3 : Int32))))])) t
    refine XS.iconst X58.here hx rfl (hb hby at_124) ?_
    exact k
  obtain ⟨T59, L59, v59, X59, hQ59, st59⟩ := own_callS X58 hx (y := (⟨"com/example/rankwright/rankwright/index/ByteWriterWriteNumberPinLaw", "more", "(JI)I"⟩ : MethodName)) hown (mvT hZ (hw _ (List.mem_of_getElem? (i := 2) rfl))) (mvT hZ (hw _ (List.mem_of_getElem? (i := 3) rfl))) (mvT hZ (hw _ (List.mem_of_getElem? (i := 4) rfl))) (mvT hZ (hw _ (List.mem_of_getElem? (i := 5) rfl))) (by decide) (backOf (W := 1) (rm1 l Z aw hw [] vv (4 : Int32)  h53 n0 f54 ) hZ (hw _ (List.mem_of_getElem? (i := 5) rfl)) (hw _ (List.mem_of_getElem? (i := 4) rfl)) (by decide) (by decide)) (g := (mkF m 125 #[.val (.long q0), .second, .val (.int p1), .val (.int p2), .val (.int p3), .val (.long vv), .second, .val (.int at1), .val (.int s1), .val (.ref b1), .unset, .unset] [(.int (4 : Int32)), (.long vv), (.int ((((1 : Int32) + (own_more vv (1 : Int32))) + (own_more vv (2 : Int32))) + (own_more vv (3 : Int32))))])) rfl (by rw [hml]; rfl) (argsL := [(.long vv), (.int (4 : Int32))]) (rest := [(.int ((((1 : Int32) + (own_more vv (1 : Int32))) + (own_more vv (2 : Int32))) + (own_more vv (3 : Int32))))]) (lenOf pd_2 rfl) rfl (by show 2 * 0 + _ ≤ _; exact Nat.le_of_eq rfl) (hb hby at_125) rfl eq58 (by decide) (by decide)
  obtain ⟨rfl, N59q, eq59⟩ := hQ59
  have N59 := Fr.app N58 N59q
  refine OwnGo.of st59 ?_
  show OwnGo p.tables e below _ (T59.setTop (mkF m 128 #[.val (.long q0), .second, .val (.int p1), .val (.int p2), .val (.int p3), .val (.long vv), .second, .val (.int at1), .val (.int s1), .val (.ref b1), .unset, .unset] [(.int (own_more vv (4 : Int32))), (.int ((((1 : Int32) + (own_more vv (1 : Int32))) + (own_more vv (2 : Int32))) + (own_more vv (3 : Int32))))]))
  refine OwnGo.of (A := T59.setTop (mkF m 128 #[.val (.long q0), .second, .val (.int p1), .val (.int p2), .val (.int p3), .val (.long vv), .second, .val (.int at1), .val (.int s1), .val (.ref b1), .unset, .unset] [(.int (own_more vv (4 : Int32))), (.int ((((1 : Int32) + (own_more vv (1 : Int32))) + (own_more vv (2 : Int32))) + (own_more vv (3 : Int32))))])) (B := T59.setTop (mkF m 132 #[.val (.long q0), .second, .val (.int p1), .val (.int p2), .val (.int p3), .val (.long vv), .second, .val (.int at1), .val (.int s1), .val (.ref b1), .unset, .unset] [(.int (5 : Int32)), (.long vv), (.int (((((1 : Int32) + (own_more vv (1 : Int32))) + (own_more vv (2 : Int32))) + (own_more vv (3 : Int32))) + (own_more vv (4 : Int32))))])) (fun t k => ?_) ?_
  · show Steps p.tables e below (T59.setTop (mkF m 128 #[.val (.long q0), .second, .val (.int p1), .val (.int p2), .val (.int p3), .val (.long vv), .second, .val (.int at1), .val (.int s1), .val (.ref b1), .unset, .unset] [(.int (own_more vv (4 : Int32))), (.int ((((1 : Int32) + (own_more vv (1 : Int32))) + (own_more vv (2 : Int32))) + (own_more vv (3 : Int32))))])) t
    refine XS.iadd X59.here hx rfl (hb hby at_128) rfl ?_
    show Steps p.tables e below (T59.setTop (mkF m 129 #[.val (.long q0), .second, .val (.int p1), .val (.int p2), .val (.int p3), .val (.long vv), .second, .val (.int at1), .val (.int s1), .val (.ref b1), .unset, .unset] [(.int (((((1 : Int32) + (own_more vv (1 : Int32))) + (own_more vv (2 : Int32))) + (own_more vv (3 : Int32))) + (own_more vv (4 : Int32))))])) t
    refine XS.lload X59.here hx rfl (hb hby at_129) rfl ?_
    show Steps p.tables e below (T59.setTop (mkF m 131 #[.val (.long q0), .second, .val (.int p1), .val (.int p2), .val (.int p3), .val (.long vv), .second, .val (.int at1), .val (.int s1), .val (.ref b1), .unset, .unset] [(.long vv), (.int (((((1 : Int32) + (own_more vv (1 : Int32))) + (own_more vv (2 : Int32))) + (own_more vv (3 : Int32))) + (own_more vv (4 : Int32))))])) t
    refine XS.iconst X59.here hx rfl (hb hby at_131) ?_
    exact k
  obtain ⟨T60, L60, v60, X60, hQ60, st60⟩ := own_callS X59 hx (y := (⟨"com/example/rankwright/rankwright/index/ByteWriterWriteNumberPinLaw", "more", "(JI)I"⟩ : MethodName)) hown (mvT hZ (hw _ (List.mem_of_getElem? (i := 2) rfl))) (mvT hZ (hw _ (List.mem_of_getElem? (i := 3) rfl))) (mvT hZ (hw _ (List.mem_of_getElem? (i := 4) rfl))) (mvT hZ (hw _ (List.mem_of_getElem? (i := 5) rfl))) (by decide) (backOf (W := 1) (rm1 l Z aw hw [] vv (5 : Int32)  h53 n0 f54 ) hZ (hw _ (List.mem_of_getElem? (i := 5) rfl)) (hw _ (List.mem_of_getElem? (i := 4) rfl)) (by decide) (by decide)) (g := (mkF m 132 #[.val (.long q0), .second, .val (.int p1), .val (.int p2), .val (.int p3), .val (.long vv), .second, .val (.int at1), .val (.int s1), .val (.ref b1), .unset, .unset] [(.int (5 : Int32)), (.long vv), (.int (((((1 : Int32) + (own_more vv (1 : Int32))) + (own_more vv (2 : Int32))) + (own_more vv (3 : Int32))) + (own_more vv (4 : Int32))))])) rfl (by rw [hml]; rfl) (argsL := [(.long vv), (.int (5 : Int32))]) (rest := [(.int (((((1 : Int32) + (own_more vv (1 : Int32))) + (own_more vv (2 : Int32))) + (own_more vv (3 : Int32))) + (own_more vv (4 : Int32))))]) (lenOf pd_2 rfl) rfl (by show 2 * 0 + _ ≤ _; exact Nat.le_of_eq rfl) (hb hby at_132) rfl eq59 (by decide) (by decide)
  obtain ⟨rfl, N60q, eq60⟩ := hQ60
  have N60 := Fr.app N59 N60q
  refine OwnGo.of st60 ?_
  show OwnGo p.tables e below _ (T60.setTop (mkF m 135 #[.val (.long q0), .second, .val (.int p1), .val (.int p2), .val (.int p3), .val (.long vv), .second, .val (.int at1), .val (.int s1), .val (.ref b1), .unset, .unset] [(.int (own_more vv (5 : Int32))), (.int (((((1 : Int32) + (own_more vv (1 : Int32))) + (own_more vv (2 : Int32))) + (own_more vv (3 : Int32))) + (own_more vv (4 : Int32))))]))
  refine OwnGo.of (A := T60.setTop (mkF m 135 #[.val (.long q0), .second, .val (.int p1), .val (.int p2), .val (.int p3), .val (.long vv), .second, .val (.int at1), .val (.int s1), .val (.ref b1), .unset, .unset] [(.int (own_more vv (5 : Int32))), (.int (((((1 : Int32) + (own_more vv (1 : Int32))) + (own_more vv (2 : Int32))) + (own_more vv (3 : Int32))) + (own_more vv (4 : Int32))))])) (B := T60.setTop (mkF m 140 #[.val (.long q0), .second, .val (.int p1), .val (.int p2), .val (.int p3), .val (.long vv), .second, .val (.int at1), .val (.int s1), .val (.ref b1), .unset, .unset] [(.int (6 : Int32)), (.long vv), (.int ((((((1 : Int32) + (own_more vv (1 : Int32))) + (own_more vv (2 : Int32))) + (own_more vv (3 : Int32))) + (own_more vv (4 : Int32))) + (own_more vv (5 : Int32))))])) (fun t k => ?_) ?_
  · show Steps p.tables e below (T60.setTop (mkF m 135 #[.val (.long q0), .second, .val (.int p1), .val (.int p2), .val (.int p3), .val (.long vv), .second, .val (.int at1), .val (.int s1), .val (.ref b1), .unset, .unset] [(.int (own_more vv (5 : Int32))), (.int (((((1 : Int32) + (own_more vv (1 : Int32))) + (own_more vv (2 : Int32))) + (own_more vv (3 : Int32))) + (own_more vv (4 : Int32))))])) t
    refine XS.iadd X60.here hx rfl (hb hby at_135) rfl ?_
    show Steps p.tables e below (T60.setTop (mkF m 136 #[.val (.long q0), .second, .val (.int p1), .val (.int p2), .val (.int p3), .val (.long vv), .second, .val (.int at1), .val (.int s1), .val (.ref b1), .unset, .unset] [(.int ((((((1 : Int32) + (own_more vv (1 : Int32))) + (own_more vv (2 : Int32))) + (own_more vv (3 : Int32))) + (own_more vv (4 : Int32))) + (own_more vv (5 : Int32))))])) t
    refine XS.lload X60.here hx rfl (hb hby at_136) rfl ?_
    show Steps p.tables e below (T60.setTop (mkF m 138 #[.val (.long q0), .second, .val (.int p1), .val (.int p2), .val (.int p3), .val (.long vv), .second, .val (.int at1), .val (.int s1), .val (.ref b1), .unset, .unset] [(.long vv), (.int ((((((1 : Int32) + (own_more vv (1 : Int32))) + (own_more vv (2 : Int32))) + (own_more vv (3 : Int32))) + (own_more vv (4 : Int32))) + (own_more vv (5 : Int32))))])) t
    refine XS.bipush X60.here hx rfl (hb hby at_138) ?_
    exact k
  obtain ⟨T61, L61, v61, X61, hQ61, st61⟩ := own_callS X60 hx (y := (⟨"com/example/rankwright/rankwright/index/ByteWriterWriteNumberPinLaw", "more", "(JI)I"⟩ : MethodName)) hown (mvT hZ (hw _ (List.mem_of_getElem? (i := 2) rfl))) (mvT hZ (hw _ (List.mem_of_getElem? (i := 3) rfl))) (mvT hZ (hw _ (List.mem_of_getElem? (i := 4) rfl))) (mvT hZ (hw _ (List.mem_of_getElem? (i := 5) rfl))) (by decide) (backOf (W := 1) (rm1 l Z aw hw [] vv (6 : Int32)  h53 n0 f54 ) hZ (hw _ (List.mem_of_getElem? (i := 5) rfl)) (hw _ (List.mem_of_getElem? (i := 4) rfl)) (by decide) (by decide)) (g := (mkF m 140 #[.val (.long q0), .second, .val (.int p1), .val (.int p2), .val (.int p3), .val (.long vv), .second, .val (.int at1), .val (.int s1), .val (.ref b1), .unset, .unset] [(.int (6 : Int32)), (.long vv), (.int ((((((1 : Int32) + (own_more vv (1 : Int32))) + (own_more vv (2 : Int32))) + (own_more vv (3 : Int32))) + (own_more vv (4 : Int32))) + (own_more vv (5 : Int32))))])) rfl (by rw [hml]; rfl) (argsL := [(.long vv), (.int (6 : Int32))]) (rest := [(.int ((((((1 : Int32) + (own_more vv (1 : Int32))) + (own_more vv (2 : Int32))) + (own_more vv (3 : Int32))) + (own_more vv (4 : Int32))) + (own_more vv (5 : Int32))))]) (lenOf pd_2 rfl) rfl (by show 2 * 0 + _ ≤ _; exact Nat.le_of_eq rfl) (hb hby at_140) rfl eq60 (by decide) (by decide)
  obtain ⟨rfl, N61q, eq61⟩ := hQ61
  have N61 := Fr.app N60 N61q
  refine OwnGo.of st61 ?_
  show OwnGo p.tables e below _ (T61.setTop (mkF m 143 #[.val (.long q0), .second, .val (.int p1), .val (.int p2), .val (.int p3), .val (.long vv), .second, .val (.int at1), .val (.int s1), .val (.ref b1), .unset, .unset] [(.int (own_more vv (6 : Int32))), (.int ((((((1 : Int32) + (own_more vv (1 : Int32))) + (own_more vv (2 : Int32))) + (own_more vv (3 : Int32))) + (own_more vv (4 : Int32))) + (own_more vv (5 : Int32))))]))
  refine OwnGo.of (A := T61.setTop (mkF m 143 #[.val (.long q0), .second, .val (.int p1), .val (.int p2), .val (.int p3), .val (.long vv), .second, .val (.int at1), .val (.int s1), .val (.ref b1), .unset, .unset] [(.int (own_more vv (6 : Int32))), (.int ((((((1 : Int32) + (own_more vv (1 : Int32))) + (own_more vv (2 : Int32))) + (own_more vv (3 : Int32))) + (own_more vv (4 : Int32))) + (own_more vv (5 : Int32))))])) (B := T61.setTop (mkF m 148 #[.val (.long q0), .second, .val (.int p1), .val (.int p2), .val (.int p3), .val (.long vv), .second, .val (.int at1), .val (.int s1), .val (.ref b1), .unset, .unset] [(.int (7 : Int32)), (.long vv), (.int (((((((1 : Int32) + (own_more vv (1 : Int32))) + (own_more vv (2 : Int32))) + (own_more vv (3 : Int32))) + (own_more vv (4 : Int32))) + (own_more vv (5 : Int32))) + (own_more vv (6 : Int32))))])) (fun t k => ?_) ?_
  · show Steps p.tables e below (T61.setTop (mkF m 143 #[.val (.long q0), .second, .val (.int p1), .val (.int p2), .val (.int p3), .val (.long vv), .second, .val (.int at1), .val (.int s1), .val (.ref b1), .unset, .unset] [(.int (own_more vv (6 : Int32))), (.int ((((((1 : Int32) + (own_more vv (1 : Int32))) + (own_more vv (2 : Int32))) + (own_more vv (3 : Int32))) + (own_more vv (4 : Int32))) + (own_more vv (5 : Int32))))])) t
    refine XS.iadd X61.here hx rfl (hb hby at_143) rfl ?_
    show Steps p.tables e below (T61.setTop (mkF m 144 #[.val (.long q0), .second, .val (.int p1), .val (.int p2), .val (.int p3), .val (.long vv), .second, .val (.int at1), .val (.int s1), .val (.ref b1), .unset, .unset] [(.int (((((((1 : Int32) + (own_more vv (1 : Int32))) + (own_more vv (2 : Int32))) + (own_more vv (3 : Int32))) + (own_more vv (4 : Int32))) + (own_more vv (5 : Int32))) + (own_more vv (6 : Int32))))])) t
    refine XS.lload X61.here hx rfl (hb hby at_144) rfl ?_
    show Steps p.tables e below (T61.setTop (mkF m 146 #[.val (.long q0), .second, .val (.int p1), .val (.int p2), .val (.int p3), .val (.long vv), .second, .val (.int at1), .val (.int s1), .val (.ref b1), .unset, .unset] [(.long vv), (.int (((((((1 : Int32) + (own_more vv (1 : Int32))) + (own_more vv (2 : Int32))) + (own_more vv (3 : Int32))) + (own_more vv (4 : Int32))) + (own_more vv (5 : Int32))) + (own_more vv (6 : Int32))))])) t
    refine XS.bipush X61.here hx rfl (hb hby at_146) ?_
    exact k
  obtain ⟨T62, L62, v62, X62, hQ62, st62⟩ := own_callS X61 hx (y := (⟨"com/example/rankwright/rankwright/index/ByteWriterWriteNumberPinLaw", "more", "(JI)I"⟩ : MethodName)) hown (mvT hZ (hw _ (List.mem_of_getElem? (i := 2) rfl))) (mvT hZ (hw _ (List.mem_of_getElem? (i := 3) rfl))) (mvT hZ (hw _ (List.mem_of_getElem? (i := 4) rfl))) (mvT hZ (hw _ (List.mem_of_getElem? (i := 5) rfl))) (by decide) (backOf (W := 1) (rm1 l Z aw hw [] vv (7 : Int32)  h53 n0 f54 ) hZ (hw _ (List.mem_of_getElem? (i := 5) rfl)) (hw _ (List.mem_of_getElem? (i := 4) rfl)) (by decide) (by decide)) (g := (mkF m 148 #[.val (.long q0), .second, .val (.int p1), .val (.int p2), .val (.int p3), .val (.long vv), .second, .val (.int at1), .val (.int s1), .val (.ref b1), .unset, .unset] [(.int (7 : Int32)), (.long vv), (.int (((((((1 : Int32) + (own_more vv (1 : Int32))) + (own_more vv (2 : Int32))) + (own_more vv (3 : Int32))) + (own_more vv (4 : Int32))) + (own_more vv (5 : Int32))) + (own_more vv (6 : Int32))))])) rfl (by rw [hml]; rfl) (argsL := [(.long vv), (.int (7 : Int32))]) (rest := [(.int (((((((1 : Int32) + (own_more vv (1 : Int32))) + (own_more vv (2 : Int32))) + (own_more vv (3 : Int32))) + (own_more vv (4 : Int32))) + (own_more vv (5 : Int32))) + (own_more vv (6 : Int32))))]) (lenOf pd_2 rfl) rfl (by show 2 * 0 + _ ≤ _; exact Nat.le_of_eq rfl) (hb hby at_148) rfl eq61 (by decide) (by decide)
  obtain ⟨rfl, N62q, eq62⟩ := hQ62
  have N62 := Fr.app N61 N62q
  refine OwnGo.of st62 ?_
  show OwnGo p.tables e below _ (T62.setTop (mkF m 151 #[.val (.long q0), .second, .val (.int p1), .val (.int p2), .val (.int p3), .val (.long vv), .second, .val (.int at1), .val (.int s1), .val (.ref b1), .unset, .unset] [(.int (own_more vv (7 : Int32))), (.int (((((((1 : Int32) + (own_more vv (1 : Int32))) + (own_more vv (2 : Int32))) + (own_more vv (3 : Int32))) + (own_more vv (4 : Int32))) + (own_more vv (5 : Int32))) + (own_more vv (6 : Int32))))]))
  refine OwnGo.of (A := T62.setTop (mkF m 151 #[.val (.long q0), .second, .val (.int p1), .val (.int p2), .val (.int p3), .val (.long vv), .second, .val (.int at1), .val (.int s1), .val (.ref b1), .unset, .unset] [(.int (own_more vv (7 : Int32))), (.int (((((((1 : Int32) + (own_more vv (1 : Int32))) + (own_more vv (2 : Int32))) + (own_more vv (3 : Int32))) + (own_more vv (4 : Int32))) + (own_more vv (5 : Int32))) + (own_more vv (6 : Int32))))])) (B := T62.setTop (mkF m 156 #[.val (.long q0), .second, .val (.int p1), .val (.int p2), .val (.int p3), .val (.long vv), .second, .val (.int at1), .val (.int s1), .val (.ref b1), .unset, .unset] [(.int (8 : Int32)), (.long vv), (.int ((((((((1 : Int32) + (own_more vv (1 : Int32))) + (own_more vv (2 : Int32))) + (own_more vv (3 : Int32))) + (own_more vv (4 : Int32))) + (own_more vv (5 : Int32))) + (own_more vv (6 : Int32))) + (own_more vv (7 : Int32))))])) (fun t k => ?_) ?_
  · show Steps p.tables e below (T62.setTop (mkF m 151 #[.val (.long q0), .second, .val (.int p1), .val (.int p2), .val (.int p3), .val (.long vv), .second, .val (.int at1), .val (.int s1), .val (.ref b1), .unset, .unset] [(.int (own_more vv (7 : Int32))), (.int (((((((1 : Int32) + (own_more vv (1 : Int32))) + (own_more vv (2 : Int32))) + (own_more vv (3 : Int32))) + (own_more vv (4 : Int32))) + (own_more vv (5 : Int32))) + (own_more vv (6 : Int32))))])) t
    refine XS.iadd X62.here hx rfl (hb hby at_151) rfl ?_
    show Steps p.tables e below (T62.setTop (mkF m 152 #[.val (.long q0), .second, .val (.int p1), .val (.int p2), .val (.int p3), .val (.long vv), .second, .val (.int at1), .val (.int s1), .val (.ref b1), .unset, .unset] [(.int ((((((((1 : Int32) + (own_more vv (1 : Int32))) + (own_more vv (2 : Int32))) + (own_more vv (3 : Int32))) + (own_more vv (4 : Int32))) + (own_more vv (5 : Int32))) + (own_more vv (6 : Int32))) + (own_more vv (7 : Int32))))])) t
    refine XS.lload X62.here hx rfl (hb hby at_152) rfl ?_
    show Steps p.tables e below (T62.setTop (mkF m 154 #[.val (.long q0), .second, .val (.int p1), .val (.int p2), .val (.int p3), .val (.long vv), .second, .val (.int at1), .val (.int s1), .val (.ref b1), .unset, .unset] [(.long vv), (.int ((((((((1 : Int32) + (own_more vv (1 : Int32))) + (own_more vv (2 : Int32))) + (own_more vv (3 : Int32))) + (own_more vv (4 : Int32))) + (own_more vv (5 : Int32))) + (own_more vv (6 : Int32))) + (own_more vv (7 : Int32))))])) t
    refine XS.bipush X62.here hx rfl (hb hby at_154) ?_
    exact k
  obtain ⟨T63, L63, v63, X63, hQ63, st63⟩ := own_callS X62 hx (y := (⟨"com/example/rankwright/rankwright/index/ByteWriterWriteNumberPinLaw", "more", "(JI)I"⟩ : MethodName)) hown (mvT hZ (hw _ (List.mem_of_getElem? (i := 2) rfl))) (mvT hZ (hw _ (List.mem_of_getElem? (i := 3) rfl))) (mvT hZ (hw _ (List.mem_of_getElem? (i := 4) rfl))) (mvT hZ (hw _ (List.mem_of_getElem? (i := 5) rfl))) (by decide) (backOf (W := 1) (rm1 l Z aw hw [] vv (8 : Int32)  h53 n0 f54 ) hZ (hw _ (List.mem_of_getElem? (i := 5) rfl)) (hw _ (List.mem_of_getElem? (i := 4) rfl)) (by decide) (by decide)) (g := (mkF m 156 #[.val (.long q0), .second, .val (.int p1), .val (.int p2), .val (.int p3), .val (.long vv), .second, .val (.int at1), .val (.int s1), .val (.ref b1), .unset, .unset] [(.int (8 : Int32)), (.long vv), (.int ((((((((1 : Int32) + (own_more vv (1 : Int32))) + (own_more vv (2 : Int32))) + (own_more vv (3 : Int32))) + (own_more vv (4 : Int32))) + (own_more vv (5 : Int32))) + (own_more vv (6 : Int32))) + (own_more vv (7 : Int32))))])) rfl (by rw [hml]; rfl) (argsL := [(.long vv), (.int (8 : Int32))]) (rest := [(.int ((((((((1 : Int32) + (own_more vv (1 : Int32))) + (own_more vv (2 : Int32))) + (own_more vv (3 : Int32))) + (own_more vv (4 : Int32))) + (own_more vv (5 : Int32))) + (own_more vv (6 : Int32))) + (own_more vv (7 : Int32))))]) (lenOf pd_2 rfl) rfl (by show 2 * 0 + _ ≤ _; exact Nat.le_of_eq rfl) (hb hby at_156) rfl eq62 (by decide) (by decide)
  obtain ⟨rfl, N63q, eq63⟩ := hQ63
  have N63 := Fr.app N62 N63q
  refine OwnGo.of st63 ?_
  show OwnGo p.tables e below _ (T63.setTop (mkF m 159 #[.val (.long q0), .second, .val (.int p1), .val (.int p2), .val (.int p3), .val (.long vv), .second, .val (.int at1), .val (.int s1), .val (.ref b1), .unset, .unset] [(.int (own_more vv (8 : Int32))), (.int ((((((((1 : Int32) + (own_more vv (1 : Int32))) + (own_more vv (2 : Int32))) + (own_more vv (3 : Int32))) + (own_more vv (4 : Int32))) + (own_more vv (5 : Int32))) + (own_more vv (6 : Int32))) + (own_more vv (7 : Int32))))]))
  refine OwnGo.of (A := T63.setTop (mkF m 159 #[.val (.long q0), .second, .val (.int p1), .val (.int p2), .val (.int p3), .val (.long vv), .second, .val (.int at1), .val (.int s1), .val (.ref b1), .unset, .unset] [(.int (own_more vv (8 : Int32))), (.int ((((((((1 : Int32) + (own_more vv (1 : Int32))) + (own_more vv (2 : Int32))) + (own_more vv (3 : Int32))) + (own_more vv (4 : Int32))) + (own_more vv (5 : Int32))) + (own_more vv (6 : Int32))) + (own_more vv (7 : Int32))))])) (B := T63.setTop (mkF m 162 #[.val (.long q0), .second, .val (.int p1), .val (.int p2), .val (.int p3), .val (.long vv), .second, .val (.int at1), .val (.int s1), .val (.ref b1), .val (.int (((((((((1 : Int32) + (own_more vv (1 : Int32))) + (own_more vv (2 : Int32))) + (own_more vv (3 : Int32))) + (own_more vv (4 : Int32))) + (own_more vv (5 : Int32))) + (own_more vv (6 : Int32))) + (own_more vv (7 : Int32))) + (own_more vv (8 : Int32)))), .unset] [])) (fun t k => ?_) ?_
  · show Steps p.tables e below (T63.setTop (mkF m 159 #[.val (.long q0), .second, .val (.int p1), .val (.int p2), .val (.int p3), .val (.long vv), .second, .val (.int at1), .val (.int s1), .val (.ref b1), .unset, .unset] [(.int (own_more vv (8 : Int32))), (.int ((((((((1 : Int32) + (own_more vv (1 : Int32))) + (own_more vv (2 : Int32))) + (own_more vv (3 : Int32))) + (own_more vv (4 : Int32))) + (own_more vv (5 : Int32))) + (own_more vv (6 : Int32))) + (own_more vv (7 : Int32))))])) t
    refine XS.iadd X63.here hx rfl (hb hby at_159) rfl ?_
    show Steps p.tables e below (T63.setTop (mkF m 160 #[.val (.long q0), .second, .val (.int p1), .val (.int p2), .val (.int p3), .val (.long vv), .second, .val (.int at1), .val (.int s1), .val (.ref b1), .unset, .unset] [(.int (((((((((1 : Int32) + (own_more vv (1 : Int32))) + (own_more vv (2 : Int32))) + (own_more vv (3 : Int32))) + (own_more vv (4 : Int32))) + (own_more vv (5 : Int32))) + (own_more vv (6 : Int32))) + (own_more vv (7 : Int32))) + (own_more vv (8 : Int32))))])) t
    refine XS.istore X63.here hx rfl (hb hby at_160) rfl (l' := #[.val (.long q0), .second, .val (.int p1), .val (.int p2), .val (.int p3), .val (.long vv), .second, .val (.int at1), .val (.int s1), .val (.ref b1), .val (.int (((((((((1 : Int32) + (own_more vv (1 : Int32))) + (own_more vv (2 : Int32))) + (own_more vv (3 : Int32))) + (own_more vv (4 : Int32))) + (own_more vv (5 : Int32))) + (own_more vv (6 : Int32))) + (own_more vv (7 : Int32))) + (own_more vv (8 : Int32)))), .unset]) rfl ?_
    exact k
  obtain ⟨nb, hnb⟩ : ∃ z, z = (((((((((1 : Int32) + (own_more vv (1 : Int32))) + (own_more vv (2 : Int32))) + (own_more vv (3 : Int32))) + (own_more vv (4 : Int32))) + (own_more vv (5 : Int32))) + (own_more vv (6 : Int32))) + (own_more vv (7 : Int32))) + (own_more vv (8 : Int32))) := ⟨_, rfl⟩
  rw [← hnb]
  show OwnGo p.tables e below _ (T63.setTop (mkF m 162 #[.val (.long q0), .second, .val (.int p1), .val (.int p2), .val (.int p3), .val (.long vv), .second, .val (.int at1), .val (.int s1), .val (.ref b1), .val (.int nb), .unset] []))
  refine OwnGo.of (A := T63.setTop (mkF m 162 #[.val (.long q0), .second, .val (.int p1), .val (.int p2), .val (.int p3), .val (.long vv), .second, .val (.int at1), .val (.int s1), .val (.ref b1), .val (.int nb), .unset] [])) (B := T63.setTop (mkF m 168 #[.val (.long q0), .second, .val (.int p1), .val (.int p2), .val (.int p3), .val (.long vv), .second, .val (.int at1), .val (.int s1), .val (.ref b1), .val (.int nb), .unset] [(.int at1), (.ref b1), (.long vv)])) (fun t k => ?_) ?_
  · show Steps p.tables e below (T63.setTop (mkF m 162 #[.val (.long q0), .second, .val (.int p1), .val (.int p2), .val (.int p3), .val (.long vv), .second, .val (.int at1), .val (.int s1), .val (.ref b1), .val (.int nb), .unset] [])) t
    refine XS.lload X63.here hx rfl (hb hby at_162) rfl ?_
    show Steps p.tables e below (T63.setTop (mkF m 164 #[.val (.long q0), .second, .val (.int p1), .val (.int p2), .val (.int p3), .val (.long vv), .second, .val (.int at1), .val (.int s1), .val (.ref b1), .val (.int nb), .unset] [(.long vv)])) t
    refine XS.aload X63.here hx rfl (hb hby at_164) rfl rfl ?_
    show Steps p.tables e below (T63.setTop (mkF m 166 #[.val (.long q0), .second, .val (.int p1), .val (.int p2), .val (.int p3), .val (.long vv), .second, .val (.int at1), .val (.int s1), .val (.ref b1), .val (.int nb), .unset] [(.ref b1), (.long vv)])) t
    refine XS.iload X63.here hx rfl (hb hby at_166) rfl ?_
    exact k
  obtain ⟨T64, L64, v64, X64, hQ64, st64⟩ := own_callS X63 hx (y := (⟨"com/example/rankwright/rankwright/index/ByteWriter", "writeNumber", "(J[BI)I"⟩ : MethodName)) hown (mvT hZ (hw _ (List.mem_of_getElem? (i := 6) rfl))) (mvT hZ (hw _ (List.mem_of_getElem? (i := 7) rfl))) (mvT hZ (hw _ (List.mem_of_getElem? (i := 8) rfl))) (mvT hZ (hw _ (List.mem_of_getElem? (i := 9) rfl))) (by decide) (backOf (W := 0) (rm2 l Z aw hw [] vv b1 at1 (fun _ => s1) k1 h53 n0 f54 VC g_b1 hv0 hv1 ha4) hZ (hw _ (List.mem_of_getElem? (i := 9) rfl)) (hw _ (List.mem_of_getElem? (i := 8) rfl)) (by decide) (by decide)) (g := (mkF m 168 #[.val (.long q0), .second, .val (.int p1), .val (.int p2), .val (.int p3), .val (.long vv), .second, .val (.int at1), .val (.int s1), .val (.ref b1), .val (.int nb), .unset] [(.int at1), (.ref b1), (.long vv)])) rfl (by rw [hml]; rfl) (argsL := [(.long vv), (.ref b1), (.int at1)]) (rest := []) (lenOf pd_3 rfl) rfl (by show 2 * 0 + _ ≤ _; exact Nat.le_of_eq rfl) (hb hby at_168) rfl eq63 (by decide) (by decide)
  obtain ⟨nn, Gf, rfl, N64q, K64, VG, hS⟩ := hQ64
  have f65 : n0 ≤ T64.heap.size := Nat.le_trans f54 K64.1
  have hnb2 : nb = Int32.ofNat nn := by rw [hnb]; exact own_sum vv hv0 hv1 nn _ _ _ hS
  have hok := fun (j : Int32) (hj : 0 ≤ j.toInt ∧ j.toInt < 13) => own_okay vv at1 s1 nn Gf hv0 hv1 ha4 hS j hj
  have N64 := Fr.app N63 N64q
  refine OwnGo.of st64 ?_
  show OwnGo p.tables e below _ (T64.setTop (mkF m 171 #[.val (.long q0), .second, .val (.int p1), .val (.int p2), .val (.int p3), .val (.long vv), .second, .val (.int at1), .val (.int s1), .val (.ref b1), .val (.int nb), .unset] [(.int (at1 + Int32.ofNat nn))]))
  refine OwnGo.of (A := T64.setTop (mkF m 171 #[.val (.long q0), .second, .val (.int p1), .val (.int p2), .val (.int p3), .val (.long vv), .second, .val (.int at1), .val (.int s1), .val (.ref b1), .val (.int nb), .unset] [(.int (at1 + Int32.ofNat nn))])) (B := T64.setTop (mkF m 180 #[.val (.long q0), .second, .val (.int p1), .val (.int p2), .val (.int p3), .val (.long vv), .second, .val (.int at1), .val (.int s1), .val (.ref b1), .val (.int nb), .val (.int (at1 + Int32.ofNat nn))] [(.int (at1 + nb)), (.int (at1 + Int32.ofNat nn))])) (fun t k => ?_) ?_
  · show Steps p.tables e below (T64.setTop (mkF m 171 #[.val (.long q0), .second, .val (.int p1), .val (.int p2), .val (.int p3), .val (.long vv), .second, .val (.int at1), .val (.int s1), .val (.ref b1), .val (.int nb), .unset] [(.int (at1 + Int32.ofNat nn))])) t
    refine XS.istore X64.here hx rfl (hb hby at_171) rfl (l' := #[.val (.long q0), .second, .val (.int p1), .val (.int p2), .val (.int p3), .val (.long vv), .second, .val (.int at1), .val (.int s1), .val (.ref b1), .val (.int nb), .val (.int (at1 + Int32.ofNat nn))]) rfl ?_
    show Steps p.tables e below (T64.setTop (mkF m 173 #[.val (.long q0), .second, .val (.int p1), .val (.int p2), .val (.int p3), .val (.long vv), .second, .val (.int at1), .val (.int s1), .val (.ref b1), .val (.int nb), .val (.int (at1 + Int32.ofNat nn))] [])) t
    refine XS.iload X64.here hx rfl (hb hby at_173) rfl ?_
    show Steps p.tables e below (T64.setTop (mkF m 175 #[.val (.long q0), .second, .val (.int p1), .val (.int p2), .val (.int p3), .val (.long vv), .second, .val (.int at1), .val (.int s1), .val (.ref b1), .val (.int nb), .val (.int (at1 + Int32.ofNat nn))] [(.int (at1 + Int32.ofNat nn))])) t
    refine XS.iload X64.here hx rfl (hb hby at_175) rfl ?_
    show Steps p.tables e below (T64.setTop (mkF m 177 #[.val (.long q0), .second, .val (.int p1), .val (.int p2), .val (.int p3), .val (.long vv), .second, .val (.int at1), .val (.int s1), .val (.ref b1), .val (.int nb), .val (.int (at1 + Int32.ofNat nn))] [(.int at1), (.int (at1 + Int32.ofNat nn))])) t
    refine XS.iload X64.here hx rfl (hb hby at_177) rfl ?_
    show Steps p.tables e below (T64.setTop (mkF m 179 #[.val (.long q0), .second, .val (.int p1), .val (.int p2), .val (.int p3), .val (.long vv), .second, .val (.int at1), .val (.int s1), .val (.ref b1), .val (.int nb), .val (.int (at1 + Int32.ofNat nn))] [(.int nb), (.int at1), (.int (at1 + Int32.ofNat nn))])) t
    refine XS.iadd X64.here hx rfl (hb hby at_179) rfl ?_
    exact k
  have hc66 : (at1 + Int32.ofNat nn) = (at1 + nb) := by rw [hnb2]
  refine OwnGo.of (A := T64.setTop (mkF m 180 #[.val (.long q0), .second, .val (.int p1), .val (.int p2), .val (.int p3), .val (.long vv), .second, .val (.int at1), .val (.int s1), .val (.ref b1), .val (.int nb), .val (.int (at1 + Int32.ofNat nn))] [(.int (at1 + nb)), (.int (at1 + Int32.ofNat nn))])) (B := T64.setTop (mkF m 194 #[.val (.long q0), .second, .val (.int p1), .val (.int p2), .val (.int p3), .val (.long vv), .second, .val (.int at1), .val (.int s1), .val (.ref b1), .val (.int nb), .val (.int (at1 + Int32.ofNat nn))] [(.int s1), (.long vv), (.int nb), (.int at1), (.int (0 : Int32)), (.ref b1)])) (fun t k => ?_) ?_
  · show Steps p.tables e below (T64.setTop (mkF m 180 #[.val (.long q0), .second, .val (.int p1), .val (.int p2), .val (.int p3), .val (.long vv), .second, .val (.int at1), .val (.int s1), .val (.ref b1), .val (.int nb), .val (.int (at1 + Int32.ofNat nn))] [(.int (at1 + nb)), (.int (at1 + Int32.ofNat nn))])) t
    refine XS.icmpNo X64.here hx rfl (hb hby at_180) rfl (teq hc66).2 ?_
    show Steps p.tables e below (T64.setTop (mkF m 183 #[.val (.long q0), .second, .val (.int p1), .val (.int p2), .val (.int p3), .val (.long vv), .second, .val (.int at1), .val (.int s1), .val (.ref b1), .val (.int nb), .val (.int (at1 + Int32.ofNat nn))] [])) t
    refine XS.aload X64.here hx rfl (hb hby at_183) rfl rfl ?_
    show Steps p.tables e below (T64.setTop (mkF m 185 #[.val (.long q0), .second, .val (.int p1), .val (.int p2), .val (.int p3), .val (.long vv), .second, .val (.int at1), .val (.int s1), .val (.ref b1), .val (.int nb), .val (.int (at1 + Int32.ofNat nn))] [(.ref b1)])) t
    refine XS.iconst X64.here hx rfl (hb hby at_185) ?_
    show Steps p.tables e below (T64.setTop (mkF m 186 #[.val (.long q0), .second, .val (.int p1), .val (.int p2), .val (.int p3), .val (.long vv), .second, .val (.int at1), .val (.int s1), .val (.ref b1), .val (.int nb), .val (.int (at1 + Int32.ofNat nn))] [(.int (0 : Int32)), (.ref b1)])) t
    refine XS.iload X64.here hx rfl (hb hby at_186) rfl ?_
    show Steps p.tables e below (T64.setTop (mkF m 188 #[.val (.long q0), .second, .val (.int p1), .val (.int p2), .val (.int p3), .val (.long vv), .second, .val (.int at1), .val (.int s1), .val (.ref b1), .val (.int nb), .val (.int (at1 + Int32.ofNat nn))] [(.int at1), (.int (0 : Int32)), (.ref b1)])) t
    refine XS.iload X64.here hx rfl (hb hby at_188) rfl ?_
    show Steps p.tables e below (T64.setTop (mkF m 190 #[.val (.long q0), .second, .val (.int p1), .val (.int p2), .val (.int p3), .val (.long vv), .second, .val (.int at1), .val (.int s1), .val (.ref b1), .val (.int nb), .val (.int (at1 + Int32.ofNat nn))] [(.int nb), (.int at1), (.int (0 : Int32)), (.ref b1)])) t
    refine XS.lload X64.here hx rfl (hb hby at_190) rfl ?_
    show Steps p.tables e below (T64.setTop (mkF m 192 #[.val (.long q0), .second, .val (.int p1), .val (.int p2), .val (.int p3), .val (.long vv), .second, .val (.int at1), .val (.int s1), .val (.ref b1), .val (.int nb), .val (.int (at1 + Int32.ofNat nn))] [(.long vv), (.int nb), (.int at1), (.int (0 : Int32)), (.ref b1)])) t
    refine XS.iload X64.here hx rfl (hb hby at_192) rfl ?_
    exact k
  obtain ⟨T67, L67, v67, X67, hQ67, st67⟩ := own_callS X64 hx (y := (⟨"com/example/rankwright/rankwright/index/ByteWriterWriteNumberPinLaw", "ok", "([BIIIJB)Z"⟩ : MethodName)) hown (mvT hZ (hw _ (List.mem_of_getElem? (i := 11) rfl))) (mvT hZ (hw _ (List.mem_of_getElem? (i := 12) rfl))) (mvT hZ (hw _ (List.mem_of_getElem? (i := 4) rfl))) (mvT hZ (hw _ (List.mem_of_getElem? (i := 13) rfl))) (by decide) (backOf (W := 0) (rm3 l Z aw hw [] b1 (0 : Int32) at1 nb vv s1 Gf k1 T64.heap n0 f65 VG (by decide)) hZ (hw _ (List.mem_of_getElem? (i := 13) rfl)) (hw _ (List.mem_of_getElem? (i := 4) rfl)) (by decide) (by decide)) (g := (mkF m 194 #[.val (.long q0), .second, .val (.int p1), .val (.int p2), .val (.int p3), .val (.long vv), .second, .val (.int at1), .val (.int s1), .val (.ref b1), .val (.int nb), .val (.int (at1 + Int32.ofNat nn))] [(.int s1), (.long vv), (.int nb), (.int at1), (.int (0 : Int32)), (.ref b1)])) rfl (by rw [hml]; rfl) (argsL := [(.ref b1), (.int (0 : Int32)), (.int at1), (.int nb), (.long vv), (.int s1)]) (rest := []) (lenOf pd_4 rfl) rfl (by show 2 * 0 + _ ≤ _; exact Nat.le_of_eq rfl) (hb hby at_194) rfl rfl (by decide) (by decide)
  obtain ⟨rfl, N67q, eq67⟩ := hQ67
  have N67 := Fr.app N64 N67q
  refine OwnGo.of st67 ?_
  show OwnGo p.tables e below _ (T67.setTop (mkF m 197 #[.val (.long q0), .second, .val (.int p1), .val (.int p2), .val (.int p3), .val (.long vv), .second, .val (.int at1), .val (.int s1), .val (.ref b1), .val (.int nb), .val (.int (at1 + Int32.ofNat nn))] [(.int (own_ok b1 (0 : Int32) at1 nb vv s1 Gf k1))]))
  have hc68 : ¬ ((own_ok b1 (0 : Int32) at1 nb vv s1 Gf k1) = (0 : Int32)) := by rw [hnb2, hok _ (by decide)]; decide
  refine OwnGo.of (A := T67.setTop (mkF m 197 #[.val (.long q0), .second, .val (.int p1), .val (.int p2), .val (.int p3), .val (.long vv), .second, .val (.int at1), .val (.int s1), .val (.ref b1), .val (.int nb), .val (.int (at1 + Int32.ofNat nn))] [(.int (own_ok b1 (0 : Int32) at1 nb vv s1 Gf k1))])) (B := T67.setTop (mkF m 211 #[.val (.long q0), .second, .val (.int p1), .val (.int p2), .val (.int p3), .val (.long vv), .second, .val (.int at1), .val (.int s1), .val (.ref b1), .val (.int nb), .val (.int (at1 + Int32.ofNat nn))] [(.int s1), (.long vv), (.int nb), (.int at1), (.int (1 : Int32)), (.ref b1)])) (fun t k => ?_) ?_
  · show Steps p.tables e below (T67.setTop (mkF m 197 #[.val (.long q0), .second, .val (.int p1), .val (.int p2), .val (.int p3), .val (.long vv), .second, .val (.int at1), .val (.int s1), .val (.ref b1), .val (.int nb), .val (.int (at1 + Int32.ofNat nn))] [(.int (own_ok b1 (0 : Int32) at1 nb vv s1 Gf k1))])) t
    refine XS.ifNo X67.here hx rfl (hb hby at_197) rfl ((if0 _ _).trans (feq hc68).1) ?_
    show Steps p.tables e below (T67.setTop (mkF m 200 #[.val (.long q0), .second, .val (.int p1), .val (.int p2), .val (.int p3), .val (.long vv), .second, .val (.int at1), .val (.int s1), .val (.ref b1), .val (.int nb), .val (.int (at1 + Int32.ofNat nn))] [])) t
    refine XS.aload X67.here hx rfl (hb hby at_200) rfl rfl ?_
    show Steps p.tables e below (T67.setTop (mkF m 202 #[.val (.long q0), .second, .val (.int p1), .val (.int p2), .val (.int p3), .val (.long vv), .second, .val (.int at1), .val (.int s1), .val (.ref b1), .val (.int nb), .val (.int (at1 + Int32.ofNat nn))] [(.ref b1)])) t
    refine XS.iconst X67.here hx rfl (hb hby at_202) ?_
    show Steps p.tables e below (T67.setTop (mkF m 203 #[.val (.long q0), .second, .val (.int p1), .val (.int p2), .val (.int p3), .val (.long vv), .second, .val (.int at1), .val (.int s1), .val (.ref b1), .val (.int nb), .val (.int (at1 + Int32.ofNat nn))] [(.int (1 : Int32)), (.ref b1)])) t
    refine XS.iload X67.here hx rfl (hb hby at_203) rfl ?_
    show Steps p.tables e below (T67.setTop (mkF m 205 #[.val (.long q0), .second, .val (.int p1), .val (.int p2), .val (.int p3), .val (.long vv), .second, .val (.int at1), .val (.int s1), .val (.ref b1), .val (.int nb), .val (.int (at1 + Int32.ofNat nn))] [(.int at1), (.int (1 : Int32)), (.ref b1)])) t
    refine XS.iload X67.here hx rfl (hb hby at_205) rfl ?_
    show Steps p.tables e below (T67.setTop (mkF m 207 #[.val (.long q0), .second, .val (.int p1), .val (.int p2), .val (.int p3), .val (.long vv), .second, .val (.int at1), .val (.int s1), .val (.ref b1), .val (.int nb), .val (.int (at1 + Int32.ofNat nn))] [(.int nb), (.int at1), (.int (1 : Int32)), (.ref b1)])) t
    refine XS.lload X67.here hx rfl (hb hby at_207) rfl ?_
    show Steps p.tables e below (T67.setTop (mkF m 209 #[.val (.long q0), .second, .val (.int p1), .val (.int p2), .val (.int p3), .val (.long vv), .second, .val (.int at1), .val (.int s1), .val (.ref b1), .val (.int nb), .val (.int (at1 + Int32.ofNat nn))] [(.long vv), (.int nb), (.int at1), (.int (1 : Int32)), (.ref b1)])) t
    refine XS.iload X67.here hx rfl (hb hby at_209) rfl ?_
    exact k
  obtain ⟨T69, L69, v69, X69, hQ69, st69⟩ := own_callS X67 hx (y := (⟨"com/example/rankwright/rankwright/index/ByteWriterWriteNumberPinLaw", "ok", "([BIIIJB)Z"⟩ : MethodName)) hown (mvT hZ (hw _ (List.mem_of_getElem? (i := 11) rfl))) (mvT hZ (hw _ (List.mem_of_getElem? (i := 12) rfl))) (mvT hZ (hw _ (List.mem_of_getElem? (i := 4) rfl))) (mvT hZ (hw _ (List.mem_of_getElem? (i := 13) rfl))) (by decide) (backOf (W := 0) (rm3 l Z aw hw [] b1 (1 : Int32) at1 nb vv s1 Gf k1 T64.heap n0 f65 VG (by decide)) hZ (hw _ (List.mem_of_getElem? (i := 13) rfl)) (hw _ (List.mem_of_getElem? (i := 4) rfl)) (by decide) (by decide)) (g := (mkF m 211 #[.val (.long q0), .second, .val (.int p1), .val (.int p2), .val (.int p3), .val (.long vv), .second, .val (.int at1), .val (.int s1), .val (.ref b1), .val (.int nb), .val (.int (at1 + Int32.ofNat nn))] [(.int s1), (.long vv), (.int nb), (.int at1), (.int (1 : Int32)), (.ref b1)])) rfl (by rw [hml]; rfl) (argsL := [(.ref b1), (.int (1 : Int32)), (.int at1), (.int nb), (.long vv), (.int s1)]) (rest := []) (lenOf pd_4 rfl) rfl (by show 2 * 0 + _ ≤ _; exact Nat.le_of_eq rfl) (hb hby at_211) rfl eq67 (by decide) (by decide)
  obtain ⟨rfl, N69q, eq69⟩ := hQ69
  have N69 := Fr.app N67 N69q
  refine OwnGo.of st69 ?_
  show OwnGo p.tables e below _ (T69.setTop (mkF m 214 #[.val (.long q0), .second, .val (.int p1), .val (.int p2), .val (.int p3), .val (.long vv), .second, .val (.int at1), .val (.int s1), .val (.ref b1), .val (.int nb), .val (.int (at1 + Int32.ofNat nn))] [(.int (own_ok b1 (1 : Int32) at1 nb vv s1 Gf k1))]))
  have hc70 : ¬ ((own_ok b1 (1 : Int32) at1 nb vv s1 Gf k1) = (0 : Int32)) := by rw [hnb2, hok _ (by decide)]; decide
  refine OwnGo.of (A := T69.setTop (mkF m 214 #[.val (.long q0), .second, .val (.int p1), .val (.int p2), .val (.int p3), .val (.long vv), .second, .val (.int at1), .val (.int s1), .val (.ref b1), .val (.int nb), .val (.int (at1 + Int32.ofNat nn))] [(.int (own_ok b1 (1 : Int32) at1 nb vv s1 Gf k1))])) (B := T69.setTop (mkF m 228 #[.val (.long q0), .second, .val (.int p1), .val (.int p2), .val (.int p3), .val (.long vv), .second, .val (.int at1), .val (.int s1), .val (.ref b1), .val (.int nb), .val (.int (at1 + Int32.ofNat nn))] [(.int s1), (.long vv), (.int nb), (.int at1), (.int (2 : Int32)), (.ref b1)])) (fun t k => ?_) ?_
  · show Steps p.tables e below (T69.setTop (mkF m 214 #[.val (.long q0), .second, .val (.int p1), .val (.int p2), .val (.int p3), .val (.long vv), .second, .val (.int at1), .val (.int s1), .val (.ref b1), .val (.int nb), .val (.int (at1 + Int32.ofNat nn))] [(.int (own_ok b1 (1 : Int32) at1 nb vv s1 Gf k1))])) t
    refine XS.ifNo X69.here hx rfl (hb hby at_214) rfl ((if0 _ _).trans (feq hc70).1) ?_
    show Steps p.tables e below (T69.setTop (mkF m 217 #[.val (.long q0), .second, .val (.int p1), .val (.int p2), .val (.int p3), .val (.long vv), .second, .val (.int at1), .val (.int s1), .val (.ref b1), .val (.int nb), .val (.int (at1 + Int32.ofNat nn))] [])) t
    refine XS.aload X69.here hx rfl (hb hby at_217) rfl rfl ?_
    show Steps p.tables e below (T69.setTop (mkF m 219 #[.val (.long q0), .second, .val (.int p1), .val (.int p2), .val (.int p3), .val (.long vv), .second, .val (.int at1), .val (.int s1), .val (.ref b1), .val (.int nb), .val (.int (at1 + Int32.ofNat nn))] [(.ref b1)])) t
    refine XS.iconst X69.here hx rfl (hb hby at_219) ?_
    show Steps p.tables e below (T69.setTop (mkF m 220 #[.val (.long q0), .second, .val (.int p1), .val (.int p2), .val (.int p3), .val (.long vv), .second, .val (.int at1), .val (.int s1), .val (.ref b1), .val (.int nb), .val (.int (at1 + Int32.ofNat nn))] [(.int (2 : Int32)), (.ref b1)])) t
    refine XS.iload X69.here hx rfl (hb hby at_220) rfl ?_
    show Steps p.tables e below (T69.setTop (mkF m 222 #[.val (.long q0), .second, .val (.int p1), .val (.int p2), .val (.int p3), .val (.long vv), .second, .val (.int at1), .val (.int s1), .val (.ref b1), .val (.int nb), .val (.int (at1 + Int32.ofNat nn))] [(.int at1), (.int (2 : Int32)), (.ref b1)])) t
    refine XS.iload X69.here hx rfl (hb hby at_222) rfl ?_
    show Steps p.tables e below (T69.setTop (mkF m 224 #[.val (.long q0), .second, .val (.int p1), .val (.int p2), .val (.int p3), .val (.long vv), .second, .val (.int at1), .val (.int s1), .val (.ref b1), .val (.int nb), .val (.int (at1 + Int32.ofNat nn))] [(.int nb), (.int at1), (.int (2 : Int32)), (.ref b1)])) t
    refine XS.lload X69.here hx rfl (hb hby at_224) rfl ?_
    show Steps p.tables e below (T69.setTop (mkF m 226 #[.val (.long q0), .second, .val (.int p1), .val (.int p2), .val (.int p3), .val (.long vv), .second, .val (.int at1), .val (.int s1), .val (.ref b1), .val (.int nb), .val (.int (at1 + Int32.ofNat nn))] [(.long vv), (.int nb), (.int at1), (.int (2 : Int32)), (.ref b1)])) t
    refine XS.iload X69.here hx rfl (hb hby at_226) rfl ?_
    exact k
  obtain ⟨T71, L71, v71, X71, hQ71, st71⟩ := own_callS X69 hx (y := (⟨"com/example/rankwright/rankwright/index/ByteWriterWriteNumberPinLaw", "ok", "([BIIIJB)Z"⟩ : MethodName)) hown (mvT hZ (hw _ (List.mem_of_getElem? (i := 11) rfl))) (mvT hZ (hw _ (List.mem_of_getElem? (i := 12) rfl))) (mvT hZ (hw _ (List.mem_of_getElem? (i := 4) rfl))) (mvT hZ (hw _ (List.mem_of_getElem? (i := 13) rfl))) (by decide) (backOf (W := 0) (rm3 l Z aw hw [] b1 (2 : Int32) at1 nb vv s1 Gf k1 T64.heap n0 f65 VG (by decide)) hZ (hw _ (List.mem_of_getElem? (i := 13) rfl)) (hw _ (List.mem_of_getElem? (i := 4) rfl)) (by decide) (by decide)) (g := (mkF m 228 #[.val (.long q0), .second, .val (.int p1), .val (.int p2), .val (.int p3), .val (.long vv), .second, .val (.int at1), .val (.int s1), .val (.ref b1), .val (.int nb), .val (.int (at1 + Int32.ofNat nn))] [(.int s1), (.long vv), (.int nb), (.int at1), (.int (2 : Int32)), (.ref b1)])) rfl (by rw [hml]; rfl) (argsL := [(.ref b1), (.int (2 : Int32)), (.int at1), (.int nb), (.long vv), (.int s1)]) (rest := []) (lenOf pd_4 rfl) rfl (by show 2 * 0 + _ ≤ _; exact Nat.le_of_eq rfl) (hb hby at_228) rfl eq69 (by decide) (by decide)
  obtain ⟨rfl, N71q, eq71⟩ := hQ71
  have N71 := Fr.app N69 N71q
  refine OwnGo.of st71 ?_
  show OwnGo p.tables e below _ (T71.setTop (mkF m 231 #[.val (.long q0), .second, .val (.int p1), .val (.int p2), .val (.int p3), .val (.long vv), .second, .val (.int at1), .val (.int s1), .val (.ref b1), .val (.int nb), .val (.int (at1 + Int32.ofNat nn))] [(.int (own_ok b1 (2 : Int32) at1 nb vv s1 Gf k1))]))
  have hc72 : ¬ ((own_ok b1 (2 : Int32) at1 nb vv s1 Gf k1) = (0 : Int32)) := by rw [hnb2, hok _ (by decide)]; decide
  refine OwnGo.of (A := T71.setTop (mkF m 231 #[.val (.long q0), .second, .val (.int p1), .val (.int p2), .val (.int p3), .val (.long vv), .second, .val (.int at1), .val (.int s1), .val (.ref b1), .val (.int nb), .val (.int (at1 + Int32.ofNat nn))] [(.int (own_ok b1 (2 : Int32) at1 nb vv s1 Gf k1))])) (B := T71.setTop (mkF m 245 #[.val (.long q0), .second, .val (.int p1), .val (.int p2), .val (.int p3), .val (.long vv), .second, .val (.int at1), .val (.int s1), .val (.ref b1), .val (.int nb), .val (.int (at1 + Int32.ofNat nn))] [(.int s1), (.long vv), (.int nb), (.int at1), (.int (3 : Int32)), (.ref b1)])) (fun t k => ?_) ?_
  · show Steps p.tables e below (T71.setTop (mkF m 231 #[.val (.long q0), .second, .val (.int p1), .val (.int p2), .val (.int p3), .val (.long vv), .second, .val (.int at1), .val (.int s1), .val (.ref b1), .val (.int nb), .val (.int (at1 + Int32.ofNat nn))] [(.int (own_ok b1 (2 : Int32) at1 nb vv s1 Gf k1))])) t
    refine XS.ifNo X71.here hx rfl (hb hby at_231) rfl ((if0 _ _).trans (feq hc72).1) ?_
    show Steps p.tables e below (T71.setTop (mkF m 234 #[.val (.long q0), .second, .val (.int p1), .val (.int p2), .val (.int p3), .val (.long vv), .second, .val (.int at1), .val (.int s1), .val (.ref b1), .val (.int nb), .val (.int (at1 + Int32.ofNat nn))] [])) t
    refine XS.aload X71.here hx rfl (hb hby at_234) rfl rfl ?_
    show Steps p.tables e below (T71.setTop (mkF m 236 #[.val (.long q0), .second, .val (.int p1), .val (.int p2), .val (.int p3), .val (.long vv), .second, .val (.int at1), .val (.int s1), .val (.ref b1), .val (.int nb), .val (.int (at1 + Int32.ofNat nn))] [(.ref b1)])) t
    refine XS.iconst X71.here hx rfl (hb hby at_236) ?_
    show Steps p.tables e below (T71.setTop (mkF m 237 #[.val (.long q0), .second, .val (.int p1), .val (.int p2), .val (.int p3), .val (.long vv), .second, .val (.int at1), .val (.int s1), .val (.ref b1), .val (.int nb), .val (.int (at1 + Int32.ofNat nn))] [(.int (3 : Int32)), (.ref b1)])) t
    refine XS.iload X71.here hx rfl (hb hby at_237) rfl ?_
    show Steps p.tables e below (T71.setTop (mkF m 239 #[.val (.long q0), .second, .val (.int p1), .val (.int p2), .val (.int p3), .val (.long vv), .second, .val (.int at1), .val (.int s1), .val (.ref b1), .val (.int nb), .val (.int (at1 + Int32.ofNat nn))] [(.int at1), (.int (3 : Int32)), (.ref b1)])) t
    refine XS.iload X71.here hx rfl (hb hby at_239) rfl ?_
    show Steps p.tables e below (T71.setTop (mkF m 241 #[.val (.long q0), .second, .val (.int p1), .val (.int p2), .val (.int p3), .val (.long vv), .second, .val (.int at1), .val (.int s1), .val (.ref b1), .val (.int nb), .val (.int (at1 + Int32.ofNat nn))] [(.int nb), (.int at1), (.int (3 : Int32)), (.ref b1)])) t
    refine XS.lload X71.here hx rfl (hb hby at_241) rfl ?_
    show Steps p.tables e below (T71.setTop (mkF m 243 #[.val (.long q0), .second, .val (.int p1), .val (.int p2), .val (.int p3), .val (.long vv), .second, .val (.int at1), .val (.int s1), .val (.ref b1), .val (.int nb), .val (.int (at1 + Int32.ofNat nn))] [(.long vv), (.int nb), (.int at1), (.int (3 : Int32)), (.ref b1)])) t
    refine XS.iload X71.here hx rfl (hb hby at_243) rfl ?_
    exact k
  obtain ⟨T73, L73, v73, X73, hQ73, st73⟩ := own_callS X71 hx (y := (⟨"com/example/rankwright/rankwright/index/ByteWriterWriteNumberPinLaw", "ok", "([BIIIJB)Z"⟩ : MethodName)) hown (mvT hZ (hw _ (List.mem_of_getElem? (i := 11) rfl))) (mvT hZ (hw _ (List.mem_of_getElem? (i := 12) rfl))) (mvT hZ (hw _ (List.mem_of_getElem? (i := 4) rfl))) (mvT hZ (hw _ (List.mem_of_getElem? (i := 13) rfl))) (by decide) (backOf (W := 0) (rm3 l Z aw hw [] b1 (3 : Int32) at1 nb vv s1 Gf k1 T64.heap n0 f65 VG (by decide)) hZ (hw _ (List.mem_of_getElem? (i := 13) rfl)) (hw _ (List.mem_of_getElem? (i := 4) rfl)) (by decide) (by decide)) (g := (mkF m 245 #[.val (.long q0), .second, .val (.int p1), .val (.int p2), .val (.int p3), .val (.long vv), .second, .val (.int at1), .val (.int s1), .val (.ref b1), .val (.int nb), .val (.int (at1 + Int32.ofNat nn))] [(.int s1), (.long vv), (.int nb), (.int at1), (.int (3 : Int32)), (.ref b1)])) rfl (by rw [hml]; rfl) (argsL := [(.ref b1), (.int (3 : Int32)), (.int at1), (.int nb), (.long vv), (.int s1)]) (rest := []) (lenOf pd_4 rfl) rfl (by show 2 * 0 + _ ≤ _; exact Nat.le_of_eq rfl) (hb hby at_245) rfl eq71 (by decide) (by decide)
  obtain ⟨rfl, N73q, eq73⟩ := hQ73
  have N73 := Fr.app N71 N73q
  refine OwnGo.of st73 ?_
  show OwnGo p.tables e below _ (T73.setTop (mkF m 248 #[.val (.long q0), .second, .val (.int p1), .val (.int p2), .val (.int p3), .val (.long vv), .second, .val (.int at1), .val (.int s1), .val (.ref b1), .val (.int nb), .val (.int (at1 + Int32.ofNat nn))] [(.int (own_ok b1 (3 : Int32) at1 nb vv s1 Gf k1))]))
  have hc74 : ¬ ((own_ok b1 (3 : Int32) at1 nb vv s1 Gf k1) = (0 : Int32)) := by rw [hnb2, hok _ (by decide)]; decide
  refine OwnGo.of (A := T73.setTop (mkF m 248 #[.val (.long q0), .second, .val (.int p1), .val (.int p2), .val (.int p3), .val (.long vv), .second, .val (.int at1), .val (.int s1), .val (.ref b1), .val (.int nb), .val (.int (at1 + Int32.ofNat nn))] [(.int (own_ok b1 (3 : Int32) at1 nb vv s1 Gf k1))])) (B := T73.setTop (mkF m 262 #[.val (.long q0), .second, .val (.int p1), .val (.int p2), .val (.int p3), .val (.long vv), .second, .val (.int at1), .val (.int s1), .val (.ref b1), .val (.int nb), .val (.int (at1 + Int32.ofNat nn))] [(.int s1), (.long vv), (.int nb), (.int at1), (.int (4 : Int32)), (.ref b1)])) (fun t k => ?_) ?_
  · show Steps p.tables e below (T73.setTop (mkF m 248 #[.val (.long q0), .second, .val (.int p1), .val (.int p2), .val (.int p3), .val (.long vv), .second, .val (.int at1), .val (.int s1), .val (.ref b1), .val (.int nb), .val (.int (at1 + Int32.ofNat nn))] [(.int (own_ok b1 (3 : Int32) at1 nb vv s1 Gf k1))])) t
    refine XS.ifNo X73.here hx rfl (hb hby at_248) rfl ((if0 _ _).trans (feq hc74).1) ?_
    show Steps p.tables e below (T73.setTop (mkF m 251 #[.val (.long q0), .second, .val (.int p1), .val (.int p2), .val (.int p3), .val (.long vv), .second, .val (.int at1), .val (.int s1), .val (.ref b1), .val (.int nb), .val (.int (at1 + Int32.ofNat nn))] [])) t
    refine XS.aload X73.here hx rfl (hb hby at_251) rfl rfl ?_
    show Steps p.tables e below (T73.setTop (mkF m 253 #[.val (.long q0), .second, .val (.int p1), .val (.int p2), .val (.int p3), .val (.long vv), .second, .val (.int at1), .val (.int s1), .val (.ref b1), .val (.int nb), .val (.int (at1 + Int32.ofNat nn))] [(.ref b1)])) t
    refine XS.iconst X73.here hx rfl (hb hby at_253) ?_
    show Steps p.tables e below (T73.setTop (mkF m 254 #[.val (.long q0), .second, .val (.int p1), .val (.int p2), .val (.int p3), .val (.long vv), .second, .val (.int at1), .val (.int s1), .val (.ref b1), .val (.int nb), .val (.int (at1 + Int32.ofNat nn))] [(.int (4 : Int32)), (.ref b1)])) t
    refine XS.iload X73.here hx rfl (hb hby at_254) rfl ?_
    show Steps p.tables e below (T73.setTop (mkF m 256 #[.val (.long q0), .second, .val (.int p1), .val (.int p2), .val (.int p3), .val (.long vv), .second, .val (.int at1), .val (.int s1), .val (.ref b1), .val (.int nb), .val (.int (at1 + Int32.ofNat nn))] [(.int at1), (.int (4 : Int32)), (.ref b1)])) t
    refine XS.iload X73.here hx rfl (hb hby at_256) rfl ?_
    show Steps p.tables e below (T73.setTop (mkF m 258 #[.val (.long q0), .second, .val (.int p1), .val (.int p2), .val (.int p3), .val (.long vv), .second, .val (.int at1), .val (.int s1), .val (.ref b1), .val (.int nb), .val (.int (at1 + Int32.ofNat nn))] [(.int nb), (.int at1), (.int (4 : Int32)), (.ref b1)])) t
    refine XS.lload X73.here hx rfl (hb hby at_258) rfl ?_
    show Steps p.tables e below (T73.setTop (mkF m 260 #[.val (.long q0), .second, .val (.int p1), .val (.int p2), .val (.int p3), .val (.long vv), .second, .val (.int at1), .val (.int s1), .val (.ref b1), .val (.int nb), .val (.int (at1 + Int32.ofNat nn))] [(.long vv), (.int nb), (.int at1), (.int (4 : Int32)), (.ref b1)])) t
    refine XS.iload X73.here hx rfl (hb hby at_260) rfl ?_
    exact k
  obtain ⟨T75, L75, v75, X75, hQ75, st75⟩ := own_callS X73 hx (y := (⟨"com/example/rankwright/rankwright/index/ByteWriterWriteNumberPinLaw", "ok", "([BIIIJB)Z"⟩ : MethodName)) hown (mvT hZ (hw _ (List.mem_of_getElem? (i := 11) rfl))) (mvT hZ (hw _ (List.mem_of_getElem? (i := 12) rfl))) (mvT hZ (hw _ (List.mem_of_getElem? (i := 4) rfl))) (mvT hZ (hw _ (List.mem_of_getElem? (i := 13) rfl))) (by decide) (backOf (W := 0) (rm3 l Z aw hw [] b1 (4 : Int32) at1 nb vv s1 Gf k1 T64.heap n0 f65 VG (by decide)) hZ (hw _ (List.mem_of_getElem? (i := 13) rfl)) (hw _ (List.mem_of_getElem? (i := 4) rfl)) (by decide) (by decide)) (g := (mkF m 262 #[.val (.long q0), .second, .val (.int p1), .val (.int p2), .val (.int p3), .val (.long vv), .second, .val (.int at1), .val (.int s1), .val (.ref b1), .val (.int nb), .val (.int (at1 + Int32.ofNat nn))] [(.int s1), (.long vv), (.int nb), (.int at1), (.int (4 : Int32)), (.ref b1)])) rfl (by rw [hml]; rfl) (argsL := [(.ref b1), (.int (4 : Int32)), (.int at1), (.int nb), (.long vv), (.int s1)]) (rest := []) (lenOf pd_4 rfl) rfl (by show 2 * 0 + _ ≤ _; exact Nat.le_of_eq rfl) (hb hby at_262) rfl eq73 (by decide) (by decide)
  obtain ⟨rfl, N75q, eq75⟩ := hQ75
  have N75 := Fr.app N73 N75q
  refine OwnGo.of st75 ?_
  show OwnGo p.tables e below _ (T75.setTop (mkF m 265 #[.val (.long q0), .second, .val (.int p1), .val (.int p2), .val (.int p3), .val (.long vv), .second, .val (.int at1), .val (.int s1), .val (.ref b1), .val (.int nb), .val (.int (at1 + Int32.ofNat nn))] [(.int (own_ok b1 (4 : Int32) at1 nb vv s1 Gf k1))]))
  have hc76 : ¬ ((own_ok b1 (4 : Int32) at1 nb vv s1 Gf k1) = (0 : Int32)) := by rw [hnb2, hok _ (by decide)]; decide
  refine OwnGo.of (A := T75.setTop (mkF m 265 #[.val (.long q0), .second, .val (.int p1), .val (.int p2), .val (.int p3), .val (.long vv), .second, .val (.int at1), .val (.int s1), .val (.ref b1), .val (.int nb), .val (.int (at1 + Int32.ofNat nn))] [(.int (own_ok b1 (4 : Int32) at1 nb vv s1 Gf k1))])) (B := T75.setTop (mkF m 279 #[.val (.long q0), .second, .val (.int p1), .val (.int p2), .val (.int p3), .val (.long vv), .second, .val (.int at1), .val (.int s1), .val (.ref b1), .val (.int nb), .val (.int (at1 + Int32.ofNat nn))] [(.int s1), (.long vv), (.int nb), (.int at1), (.int (5 : Int32)), (.ref b1)])) (fun t k => ?_) ?_
  · show Steps p.tables e below (T75.setTop (mkF m 265 #[.val (.long q0), .second, .val (.int p1), .val (.int p2), .val (.int p3), .val (.long vv), .second, .val (.int at1), .val (.int s1), .val (.ref b1), .val (.int nb), .val (.int (at1 + Int32.ofNat nn))] [(.int (own_ok b1 (4 : Int32) at1 nb vv s1 Gf k1))])) t
    refine XS.ifNo X75.here hx rfl (hb hby at_265) rfl ((if0 _ _).trans (feq hc76).1) ?_
    show Steps p.tables e below (T75.setTop (mkF m 268 #[.val (.long q0), .second, .val (.int p1), .val (.int p2), .val (.int p3), .val (.long vv), .second, .val (.int at1), .val (.int s1), .val (.ref b1), .val (.int nb), .val (.int (at1 + Int32.ofNat nn))] [])) t
    refine XS.aload X75.here hx rfl (hb hby at_268) rfl rfl ?_
    show Steps p.tables e below (T75.setTop (mkF m 270 #[.val (.long q0), .second, .val (.int p1), .val (.int p2), .val (.int p3), .val (.long vv), .second, .val (.int at1), .val (.int s1), .val (.ref b1), .val (.int nb), .val (.int (at1 + Int32.ofNat nn))] [(.ref b1)])) t
    refine XS.iconst X75.here hx rfl (hb hby at_270) ?_
    show Steps p.tables e below (T75.setTop (mkF m 271 #[.val (.long q0), .second, .val (.int p1), .val (.int p2), .val (.int p3), .val (.long vv), .second, .val (.int at1), .val (.int s1), .val (.ref b1), .val (.int nb), .val (.int (at1 + Int32.ofNat nn))] [(.int (5 : Int32)), (.ref b1)])) t
    refine XS.iload X75.here hx rfl (hb hby at_271) rfl ?_
    show Steps p.tables e below (T75.setTop (mkF m 273 #[.val (.long q0), .second, .val (.int p1), .val (.int p2), .val (.int p3), .val (.long vv), .second, .val (.int at1), .val (.int s1), .val (.ref b1), .val (.int nb), .val (.int (at1 + Int32.ofNat nn))] [(.int at1), (.int (5 : Int32)), (.ref b1)])) t
    refine XS.iload X75.here hx rfl (hb hby at_273) rfl ?_
    show Steps p.tables e below (T75.setTop (mkF m 275 #[.val (.long q0), .second, .val (.int p1), .val (.int p2), .val (.int p3), .val (.long vv), .second, .val (.int at1), .val (.int s1), .val (.ref b1), .val (.int nb), .val (.int (at1 + Int32.ofNat nn))] [(.int nb), (.int at1), (.int (5 : Int32)), (.ref b1)])) t
    refine XS.lload X75.here hx rfl (hb hby at_275) rfl ?_
    show Steps p.tables e below (T75.setTop (mkF m 277 #[.val (.long q0), .second, .val (.int p1), .val (.int p2), .val (.int p3), .val (.long vv), .second, .val (.int at1), .val (.int s1), .val (.ref b1), .val (.int nb), .val (.int (at1 + Int32.ofNat nn))] [(.long vv), (.int nb), (.int at1), (.int (5 : Int32)), (.ref b1)])) t
    refine XS.iload X75.here hx rfl (hb hby at_277) rfl ?_
    exact k
  obtain ⟨T77, L77, v77, X77, hQ77, st77⟩ := own_callS X75 hx (y := (⟨"com/example/rankwright/rankwright/index/ByteWriterWriteNumberPinLaw", "ok", "([BIIIJB)Z"⟩ : MethodName)) hown (mvT hZ (hw _ (List.mem_of_getElem? (i := 11) rfl))) (mvT hZ (hw _ (List.mem_of_getElem? (i := 12) rfl))) (mvT hZ (hw _ (List.mem_of_getElem? (i := 4) rfl))) (mvT hZ (hw _ (List.mem_of_getElem? (i := 13) rfl))) (by decide) (backOf (W := 0) (rm3 l Z aw hw [] b1 (5 : Int32) at1 nb vv s1 Gf k1 T64.heap n0 f65 VG (by decide)) hZ (hw _ (List.mem_of_getElem? (i := 13) rfl)) (hw _ (List.mem_of_getElem? (i := 4) rfl)) (by decide) (by decide)) (g := (mkF m 279 #[.val (.long q0), .second, .val (.int p1), .val (.int p2), .val (.int p3), .val (.long vv), .second, .val (.int at1), .val (.int s1), .val (.ref b1), .val (.int nb), .val (.int (at1 + Int32.ofNat nn))] [(.int s1), (.long vv), (.int nb), (.int at1), (.int (5 : Int32)), (.ref b1)])) rfl (by rw [hml]; rfl) (argsL := [(.ref b1), (.int (5 : Int32)), (.int at1), (.int nb), (.long vv), (.int s1)]) (rest := []) (lenOf pd_4 rfl) rfl (by show 2 * 0 + _ ≤ _; exact Nat.le_of_eq rfl) (hb hby at_279) rfl eq75 (by decide) (by decide)
  obtain ⟨rfl, N77q, eq77⟩ := hQ77
  have N77 := Fr.app N75 N77q
  refine OwnGo.of st77 ?_
  show OwnGo p.tables e below _ (T77.setTop (mkF m 282 #[.val (.long q0), .second, .val (.int p1), .val (.int p2), .val (.int p3), .val (.long vv), .second, .val (.int at1), .val (.int s1), .val (.ref b1), .val (.int nb), .val (.int (at1 + Int32.ofNat nn))] [(.int (own_ok b1 (5 : Int32) at1 nb vv s1 Gf k1))]))
  have hc78 : ¬ ((own_ok b1 (5 : Int32) at1 nb vv s1 Gf k1) = (0 : Int32)) := by rw [hnb2, hok _ (by decide)]; decide
  refine OwnGo.of (A := T77.setTop (mkF m 282 #[.val (.long q0), .second, .val (.int p1), .val (.int p2), .val (.int p3), .val (.long vv), .second, .val (.int at1), .val (.int s1), .val (.ref b1), .val (.int nb), .val (.int (at1 + Int32.ofNat nn))] [(.int (own_ok b1 (5 : Int32) at1 nb vv s1 Gf k1))])) (B := T77.setTop (mkF m 297 #[.val (.long q0), .second, .val (.int p1), .val (.int p2), .val (.int p3), .val (.long vv), .second, .val (.int at1), .val (.int s1), .val (.ref b1), .val (.int nb), .val (.int (at1 + Int32.ofNat nn))] [(.int s1), (.long vv), (.int nb), (.int at1), (.int (6 : Int32)), (.ref b1)])) (fun t k => ?_) ?_
  · show Steps p.tables e below (T77.setTop (mkF m 282 #[.val (.long q0), .second, .val (.int p1), .val (.int p2), .val (.int p3), .val (.long vv), .second, .val (.int at1), .val (.int s1), .val (.ref b1), .val (.int nb), .val (.int (at1 + Int32.ofNat nn))] [(.int (own_ok b1 (5 : Int32) at1 nb vv s1 Gf k1))])) t
    refine XS.ifNo X77.here hx rfl (hb hby at_282) rfl ((if0 _ _).trans (feq hc78).1) ?_
    show Steps p.tables e below (T77.setTop (mkF m 285 #[.val (.long q0), .second, .val (.int p1), .val (.int p2), .val (.int p3), .val (.long vv), .second, .val (.int at1), .val (.int s1), .val (.ref b1), .val (.int nb), .val (.int (at1 + Int32.ofNat nn))] [])) t
    refine XS.aload X77.here hx rfl (hb hby at_285) rfl rfl ?_
    show Steps p.tables e below (T77.setTop (mkF m 287 #[.val (.long q0), .second, .val (.int p1), .val (.int p2), .val (.int p3), .val (.long vv), .second, .val (.int at1), .val (.int s1), .val (.ref b1), .val (.int nb), .val (.int (at1 + Int32.ofNat nn))] [(.ref b1)])) t
    refine XS.bipush X77.here hx rfl (hb hby at_287) ?_
    show Steps p.tables e below (T77.setTop (mkF m 289 #[.val (.long q0), .second, .val (.int p1), .val (.int p2), .val (.int p3), .val (.long vv), .second, .val (.int at1), .val (.int s1), .val (.ref b1), .val (.int nb), .val (.int (at1 + Int32.ofNat nn))] [(.int (6 : Int32)), (.ref b1)])) t
    refine XS.iload X77.here hx rfl (hb hby at_289) rfl ?_
    show Steps p.tables e below (T77.setTop (mkF m 291 #[.val (.long q0), .second, .val (.int p1), .val (.int p2), .val (.int p3), .val (.long vv), .second, .val (.int at1), .val (.int s1), .val (.ref b1), .val (.int nb), .val (.int (at1 + Int32.ofNat nn))] [(.int at1), (.int (6 : Int32)), (.ref b1)])) t
    refine XS.iload X77.here hx rfl (hb hby at_291) rfl ?_
    show Steps p.tables e below (T77.setTop (mkF m 293 #[.val (.long q0), .second, .val (.int p1), .val (.int p2), .val (.int p3), .val (.long vv), .second, .val (.int at1), .val (.int s1), .val (.ref b1), .val (.int nb), .val (.int (at1 + Int32.ofNat nn))] [(.int nb), (.int at1), (.int (6 : Int32)), (.ref b1)])) t
    refine XS.lload X77.here hx rfl (hb hby at_293) rfl ?_
    show Steps p.tables e below (T77.setTop (mkF m 295 #[.val (.long q0), .second, .val (.int p1), .val (.int p2), .val (.int p3), .val (.long vv), .second, .val (.int at1), .val (.int s1), .val (.ref b1), .val (.int nb), .val (.int (at1 + Int32.ofNat nn))] [(.long vv), (.int nb), (.int at1), (.int (6 : Int32)), (.ref b1)])) t
    refine XS.iload X77.here hx rfl (hb hby at_295) rfl ?_
    exact k
  obtain ⟨T79, L79, v79, X79, hQ79, st79⟩ := own_callS X77 hx (y := (⟨"com/example/rankwright/rankwright/index/ByteWriterWriteNumberPinLaw", "ok", "([BIIIJB)Z"⟩ : MethodName)) hown (mvT hZ (hw _ (List.mem_of_getElem? (i := 11) rfl))) (mvT hZ (hw _ (List.mem_of_getElem? (i := 12) rfl))) (mvT hZ (hw _ (List.mem_of_getElem? (i := 4) rfl))) (mvT hZ (hw _ (List.mem_of_getElem? (i := 13) rfl))) (by decide) (backOf (W := 0) (rm3 l Z aw hw [] b1 (6 : Int32) at1 nb vv s1 Gf k1 T64.heap n0 f65 VG (by decide)) hZ (hw _ (List.mem_of_getElem? (i := 13) rfl)) (hw _ (List.mem_of_getElem? (i := 4) rfl)) (by decide) (by decide)) (g := (mkF m 297 #[.val (.long q0), .second, .val (.int p1), .val (.int p2), .val (.int p3), .val (.long vv), .second, .val (.int at1), .val (.int s1), .val (.ref b1), .val (.int nb), .val (.int (at1 + Int32.ofNat nn))] [(.int s1), (.long vv), (.int nb), (.int at1), (.int (6 : Int32)), (.ref b1)])) rfl (by rw [hml]; rfl) (argsL := [(.ref b1), (.int (6 : Int32)), (.int at1), (.int nb), (.long vv), (.int s1)]) (rest := []) (lenOf pd_4 rfl) rfl (by show 2 * 0 + _ ≤ _; exact Nat.le_of_eq rfl) (hb hby at_297) rfl eq77 (by decide) (by decide)
  obtain ⟨rfl, N79q, eq79⟩ := hQ79
  have N79 := Fr.app N77 N79q
  refine OwnGo.of st79 ?_
  show OwnGo p.tables e below _ (T79.setTop (mkF m 300 #[.val (.long q0), .second, .val (.int p1), .val (.int p2), .val (.int p3), .val (.long vv), .second, .val (.int at1), .val (.int s1), .val (.ref b1), .val (.int nb), .val (.int (at1 + Int32.ofNat nn))] [(.int (own_ok b1 (6 : Int32) at1 nb vv s1 Gf k1))]))
  have hc80 : ¬ ((own_ok b1 (6 : Int32) at1 nb vv s1 Gf k1) = (0 : Int32)) := by rw [hnb2, hok _ (by decide)]; decide
  refine OwnGo.of (A := T79.setTop (mkF m 300 #[.val (.long q0), .second, .val (.int p1), .val (.int p2), .val (.int p3), .val (.long vv), .second, .val (.int at1), .val (.int s1), .val (.ref b1), .val (.int nb), .val (.int (at1 + Int32.ofNat nn))] [(.int (own_ok b1 (6 : Int32) at1 nb vv s1 Gf k1))])) (B := T79.setTop (mkF m 315 #[.val (.long q0), .second, .val (.int p1), .val (.int p2), .val (.int p3), .val (.long vv), .second, .val (.int at1), .val (.int s1), .val (.ref b1), .val (.int nb), .val (.int (at1 + Int32.ofNat nn))] [(.int s1), (.long vv), (.int nb), (.int at1), (.int (7 : Int32)), (.ref b1)])) (fun t k => ?_) ?_
  · show Steps p.tables e below (T79.setTop (mkF m 300 #[.val (.long q0), .second, .val (.int p1), .val (.int p2), .val (.int p3), .val (.long vv), .second, .val (.int at1), .val (.int s1), .val (.ref b1), .val (.int nb), .val (.int (at1 + Int32.ofNat nn))] [(.int (own_ok b1 (6 : Int32) at1 nb vv s1 Gf k1))])) t
    refine XS.ifNo X79.here hx rfl (hb hby at_300) rfl ((if0 _ _).trans (feq hc80).1) ?_
    show Steps p.tables e below (T79.setTop (mkF m 303 #[.val (.long q0), .second, .val (.int p1), .val (.int p2), .val (.int p3), .val (.long vv), .second, .val (.int at1), .val (.int s1), .val (.ref b1), .val (.int nb), .val (.int (at1 + Int32.ofNat nn))] [])) t
    refine XS.aload X79.here hx rfl (hb hby at_303) rfl rfl ?_
    show Steps p.tables e below (T79.setTop (mkF m 305 #[.val (.long q0), .second, .val (.int p1), .val (.int p2), .val (.int p3), .val (.long vv), .second, .val (.int at1), .val (.int s1), .val (.ref b1), .val (.int nb), .val (.int (at1 + Int32.ofNat nn))] [(.ref b1)])) t
    refine XS.bipush X79.here hx rfl (hb hby at_305) ?_
    show Steps p.tables e below (T79.setTop (mkF m 307 #[.val (.long q0), .second, .val (.int p1), .val (.int p2), .val (.int p3), .val (.long vv), .second, .val (.int at1), .val (.int s1), .val (.ref b1), .val (.int nb), .val (.int (at1 + Int32.ofNat nn))] [(.int (7 : Int32)), (.ref b1)])) t
    refine XS.iload X79.here hx rfl (hb hby at_307) rfl ?_
    show Steps p.tables e below (T79.setTop (mkF m 309 #[.val (.long q0), .second, .val (.int p1), .val (.int p2), .val (.int p3), .val (.long vv), .second, .val (.int at1), .val (.int s1), .val (.ref b1), .val (.int nb), .val (.int (at1 + Int32.ofNat nn))] [(.int at1), (.int (7 : Int32)), (.ref b1)])) t
    refine XS.iload X79.here hx rfl (hb hby at_309) rfl ?_
    show Steps p.tables e below (T79.setTop (mkF m 311 #[.val (.long q0), .second, .val (.int p1), .val (.int p2), .val (.int p3), .val (.long vv), .second, .val (.int at1), .val (.int s1), .val (.ref b1), .val (.int nb), .val (.int (at1 + Int32.ofNat nn))] [(.int nb), (.int at1), (.int (7 : Int32)), (.ref b1)])) t
    refine XS.lload X79.here hx rfl (hb hby at_311) rfl ?_
    show Steps p.tables e below (T79.setTop (mkF m 313 #[.val (.long q0), .second, .val (.int p1), .val (.int p2), .val (.int p3), .val (.long vv), .second, .val (.int at1), .val (.int s1), .val (.ref b1), .val (.int nb), .val (.int (at1 + Int32.ofNat nn))] [(.long vv), (.int nb), (.int at1), (.int (7 : Int32)), (.ref b1)])) t
    refine XS.iload X79.here hx rfl (hb hby at_313) rfl ?_
    exact k
  obtain ⟨T81, L81, v81, X81, hQ81, st81⟩ := own_callS X79 hx (y := (⟨"com/example/rankwright/rankwright/index/ByteWriterWriteNumberPinLaw", "ok", "([BIIIJB)Z"⟩ : MethodName)) hown (mvT hZ (hw _ (List.mem_of_getElem? (i := 11) rfl))) (mvT hZ (hw _ (List.mem_of_getElem? (i := 12) rfl))) (mvT hZ (hw _ (List.mem_of_getElem? (i := 4) rfl))) (mvT hZ (hw _ (List.mem_of_getElem? (i := 13) rfl))) (by decide) (backOf (W := 0) (rm3 l Z aw hw [] b1 (7 : Int32) at1 nb vv s1 Gf k1 T64.heap n0 f65 VG (by decide)) hZ (hw _ (List.mem_of_getElem? (i := 13) rfl)) (hw _ (List.mem_of_getElem? (i := 4) rfl)) (by decide) (by decide)) (g := (mkF m 315 #[.val (.long q0), .second, .val (.int p1), .val (.int p2), .val (.int p3), .val (.long vv), .second, .val (.int at1), .val (.int s1), .val (.ref b1), .val (.int nb), .val (.int (at1 + Int32.ofNat nn))] [(.int s1), (.long vv), (.int nb), (.int at1), (.int (7 : Int32)), (.ref b1)])) rfl (by rw [hml]; rfl) (argsL := [(.ref b1), (.int (7 : Int32)), (.int at1), (.int nb), (.long vv), (.int s1)]) (rest := []) (lenOf pd_4 rfl) rfl (by show 2 * 0 + _ ≤ _; exact Nat.le_of_eq rfl) (hb hby at_315) rfl eq79 (by decide) (by decide)
  obtain ⟨rfl, N81q, eq81⟩ := hQ81
  have N81 := Fr.app N79 N81q
  refine OwnGo.of st81 ?_
  show OwnGo p.tables e below _ (T81.setTop (mkF m 318 #[.val (.long q0), .second, .val (.int p1), .val (.int p2), .val (.int p3), .val (.long vv), .second, .val (.int at1), .val (.int s1), .val (.ref b1), .val (.int nb), .val (.int (at1 + Int32.ofNat nn))] [(.int (own_ok b1 (7 : Int32) at1 nb vv s1 Gf k1))]))
  have hc82 : ¬ ((own_ok b1 (7 : Int32) at1 nb vv s1 Gf k1) = (0 : Int32)) := by rw [hnb2, hok _ (by decide)]; decide
  refine OwnGo.of (A := T81.setTop (mkF m 318 #[.val (.long q0), .second, .val (.int p1), .val (.int p2), .val (.int p3), .val (.long vv), .second, .val (.int at1), .val (.int s1), .val (.ref b1), .val (.int nb), .val (.int (at1 + Int32.ofNat nn))] [(.int (own_ok b1 (7 : Int32) at1 nb vv s1 Gf k1))])) (B := T81.setTop (mkF m 333 #[.val (.long q0), .second, .val (.int p1), .val (.int p2), .val (.int p3), .val (.long vv), .second, .val (.int at1), .val (.int s1), .val (.ref b1), .val (.int nb), .val (.int (at1 + Int32.ofNat nn))] [(.int s1), (.long vv), (.int nb), (.int at1), (.int (8 : Int32)), (.ref b1)])) (fun t k => ?_) ?_
  · show Steps p.tables e below (T81.setTop (mkF m 318 #[.val (.long q0), .second, .val (.int p1), .val (.int p2), .val (.int p3), .val (.long vv), .second, .val (.int at1), .val (.int s1), .val (.ref b1), .val (.int nb), .val (.int (at1 + Int32.ofNat nn))] [(.int (own_ok b1 (7 : Int32) at1 nb vv s1 Gf k1))])) t
    refine XS.ifNo X81.here hx rfl (hb hby at_318) rfl ((if0 _ _).trans (feq hc82).1) ?_
    show Steps p.tables e below (T81.setTop (mkF m 321 #[.val (.long q0), .second, .val (.int p1), .val (.int p2), .val (.int p3), .val (.long vv), .second, .val (.int at1), .val (.int s1), .val (.ref b1), .val (.int nb), .val (.int (at1 + Int32.ofNat nn))] [])) t
    refine XS.aload X81.here hx rfl (hb hby at_321) rfl rfl ?_
    show Steps p.tables e below (T81.setTop (mkF m 323 #[.val (.long q0), .second, .val (.int p1), .val (.int p2), .val (.int p3), .val (.long vv), .second, .val (.int at1), .val (.int s1), .val (.ref b1), .val (.int nb), .val (.int (at1 + Int32.ofNat nn))] [(.ref b1)])) t
    refine XS.bipush X81.here hx rfl (hb hby at_323) ?_
    show Steps p.tables e below (T81.setTop (mkF m 325 #[.val (.long q0), .second, .val (.int p1), .val (.int p2), .val (.int p3), .val (.long vv), .second, .val (.int at1), .val (.int s1), .val (.ref b1), .val (.int nb), .val (.int (at1 + Int32.ofNat nn))] [(.int (8 : Int32)), (.ref b1)])) t
    refine XS.iload X81.here hx rfl (hb hby at_325) rfl ?_
    show Steps p.tables e below (T81.setTop (mkF m 327 #[.val (.long q0), .second, .val (.int p1), .val (.int p2), .val (.int p3), .val (.long vv), .second, .val (.int at1), .val (.int s1), .val (.ref b1), .val (.int nb), .val (.int (at1 + Int32.ofNat nn))] [(.int at1), (.int (8 : Int32)), (.ref b1)])) t
    refine XS.iload X81.here hx rfl (hb hby at_327) rfl ?_
    show Steps p.tables e below (T81.setTop (mkF m 329 #[.val (.long q0), .second, .val (.int p1), .val (.int p2), .val (.int p3), .val (.long vv), .second, .val (.int at1), .val (.int s1), .val (.ref b1), .val (.int nb), .val (.int (at1 + Int32.ofNat nn))] [(.int nb), (.int at1), (.int (8 : Int32)), (.ref b1)])) t
    refine XS.lload X81.here hx rfl (hb hby at_329) rfl ?_
    show Steps p.tables e below (T81.setTop (mkF m 331 #[.val (.long q0), .second, .val (.int p1), .val (.int p2), .val (.int p3), .val (.long vv), .second, .val (.int at1), .val (.int s1), .val (.ref b1), .val (.int nb), .val (.int (at1 + Int32.ofNat nn))] [(.long vv), (.int nb), (.int at1), (.int (8 : Int32)), (.ref b1)])) t
    refine XS.iload X81.here hx rfl (hb hby at_331) rfl ?_
    exact k
  obtain ⟨T83, L83, v83, X83, hQ83, st83⟩ := own_callS X81 hx (y := (⟨"com/example/rankwright/rankwright/index/ByteWriterWriteNumberPinLaw", "ok", "([BIIIJB)Z"⟩ : MethodName)) hown (mvT hZ (hw _ (List.mem_of_getElem? (i := 11) rfl))) (mvT hZ (hw _ (List.mem_of_getElem? (i := 12) rfl))) (mvT hZ (hw _ (List.mem_of_getElem? (i := 4) rfl))) (mvT hZ (hw _ (List.mem_of_getElem? (i := 13) rfl))) (by decide) (backOf (W := 0) (rm3 l Z aw hw [] b1 (8 : Int32) at1 nb vv s1 Gf k1 T64.heap n0 f65 VG (by decide)) hZ (hw _ (List.mem_of_getElem? (i := 13) rfl)) (hw _ (List.mem_of_getElem? (i := 4) rfl)) (by decide) (by decide)) (g := (mkF m 333 #[.val (.long q0), .second, .val (.int p1), .val (.int p2), .val (.int p3), .val (.long vv), .second, .val (.int at1), .val (.int s1), .val (.ref b1), .val (.int nb), .val (.int (at1 + Int32.ofNat nn))] [(.int s1), (.long vv), (.int nb), (.int at1), (.int (8 : Int32)), (.ref b1)])) rfl (by rw [hml]; rfl) (argsL := [(.ref b1), (.int (8 : Int32)), (.int at1), (.int nb), (.long vv), (.int s1)]) (rest := []) (lenOf pd_4 rfl) rfl (by show 2 * 0 + _ ≤ _; exact Nat.le_of_eq rfl) (hb hby at_333) rfl eq81 (by decide) (by decide)
  obtain ⟨rfl, N83q, eq83⟩ := hQ83
  have N83 := Fr.app N81 N83q
  refine OwnGo.of st83 ?_
  show OwnGo p.tables e below _ (T83.setTop (mkF m 336 #[.val (.long q0), .second, .val (.int p1), .val (.int p2), .val (.int p3), .val (.long vv), .second, .val (.int at1), .val (.int s1), .val (.ref b1), .val (.int nb), .val (.int (at1 + Int32.ofNat nn))] [(.int (own_ok b1 (8 : Int32) at1 nb vv s1 Gf k1))]))
  have hc84 : ¬ ((own_ok b1 (8 : Int32) at1 nb vv s1 Gf k1) = (0 : Int32)) := by rw [hnb2, hok _ (by decide)]; decide
  refine OwnGo.of (A := T83.setTop (mkF m 336 #[.val (.long q0), .second, .val (.int p1), .val (.int p2), .val (.int p3), .val (.long vv), .second, .val (.int at1), .val (.int s1), .val (.ref b1), .val (.int nb), .val (.int (at1 + Int32.ofNat nn))] [(.int (own_ok b1 (8 : Int32) at1 nb vv s1 Gf k1))])) (B := T83.setTop (mkF m 351 #[.val (.long q0), .second, .val (.int p1), .val (.int p2), .val (.int p3), .val (.long vv), .second, .val (.int at1), .val (.int s1), .val (.ref b1), .val (.int nb), .val (.int (at1 + Int32.ofNat nn))] [(.int s1), (.long vv), (.int nb), (.int at1), (.int (9 : Int32)), (.ref b1)])) (fun t k => ?_) ?_
  · show Steps p.tables e below (T83.setTop (mkF m 336 #[.val (.long q0), .second, .val (.int p1), .val (.int p2), .val (.int p3), .val (.long vv), .second, .val (.int at1), .val (.int s1), .val (.ref b1), .val (.int nb), .val (.int (at1 + Int32.ofNat nn))] [(.int (own_ok b1 (8 : Int32) at1 nb vv s1 Gf k1))])) t
    refine XS.ifNo X83.here hx rfl (hb hby at_336) rfl ((if0 _ _).trans (feq hc84).1) ?_
    show Steps p.tables e below (T83.setTop (mkF m 339 #[.val (.long q0), .second, .val (.int p1), .val (.int p2), .val (.int p3), .val (.long vv), .second, .val (.int at1), .val (.int s1), .val (.ref b1), .val (.int nb), .val (.int (at1 + Int32.ofNat nn))] [])) t
    refine XS.aload X83.here hx rfl (hb hby at_339) rfl rfl ?_
    show Steps p.tables e below (T83.setTop (mkF m 341 #[.val (.long q0), .second, .val (.int p1), .val (.int p2), .val (.int p3), .val (.long vv), .second, .val (.int at1), .val (.int s1), .val (.ref b1), .val (.int nb), .val (.int (at1 + Int32.ofNat nn))] [(.ref b1)])) t
    refine XS.bipush X83.here hx rfl (hb hby at_341) ?_
    show Steps p.tables e below (T83.setTop (mkF m 343 #[.val (.long q0), .second, .val (.int p1), .val (.int p2), .val (.int p3), .val (.long vv), .second, .val (.int at1), .val (.int s1), .val (.ref b1), .val (.int nb), .val (.int (at1 + Int32.ofNat nn))] [(.int (9 : Int32)), (.ref b1)])) t
    refine XS.iload X83.here hx rfl (hb hby at_343) rfl ?_
    show Steps p.tables e below (T83.setTop (mkF m 345 #[.val (.long q0), .second, .val (.int p1), .val (.int p2), .val (.int p3), .val (.long vv), .second, .val (.int at1), .val (.int s1), .val (.ref b1), .val (.int nb), .val (.int (at1 + Int32.ofNat nn))] [(.int at1), (.int (9 : Int32)), (.ref b1)])) t
    refine XS.iload X83.here hx rfl (hb hby at_345) rfl ?_
    show Steps p.tables e below (T83.setTop (mkF m 347 #[.val (.long q0), .second, .val (.int p1), .val (.int p2), .val (.int p3), .val (.long vv), .second, .val (.int at1), .val (.int s1), .val (.ref b1), .val (.int nb), .val (.int (at1 + Int32.ofNat nn))] [(.int nb), (.int at1), (.int (9 : Int32)), (.ref b1)])) t
    refine XS.lload X83.here hx rfl (hb hby at_347) rfl ?_
    show Steps p.tables e below (T83.setTop (mkF m 349 #[.val (.long q0), .second, .val (.int p1), .val (.int p2), .val (.int p3), .val (.long vv), .second, .val (.int at1), .val (.int s1), .val (.ref b1), .val (.int nb), .val (.int (at1 + Int32.ofNat nn))] [(.long vv), (.int nb), (.int at1), (.int (9 : Int32)), (.ref b1)])) t
    refine XS.iload X83.here hx rfl (hb hby at_349) rfl ?_
    exact k
  obtain ⟨T85, L85, v85, X85, hQ85, st85⟩ := own_callS X83 hx (y := (⟨"com/example/rankwright/rankwright/index/ByteWriterWriteNumberPinLaw", "ok", "([BIIIJB)Z"⟩ : MethodName)) hown (mvT hZ (hw _ (List.mem_of_getElem? (i := 11) rfl))) (mvT hZ (hw _ (List.mem_of_getElem? (i := 12) rfl))) (mvT hZ (hw _ (List.mem_of_getElem? (i := 4) rfl))) (mvT hZ (hw _ (List.mem_of_getElem? (i := 13) rfl))) (by decide) (backOf (W := 0) (rm3 l Z aw hw [] b1 (9 : Int32) at1 nb vv s1 Gf k1 T64.heap n0 f65 VG (by decide)) hZ (hw _ (List.mem_of_getElem? (i := 13) rfl)) (hw _ (List.mem_of_getElem? (i := 4) rfl)) (by decide) (by decide)) (g := (mkF m 351 #[.val (.long q0), .second, .val (.int p1), .val (.int p2), .val (.int p3), .val (.long vv), .second, .val (.int at1), .val (.int s1), .val (.ref b1), .val (.int nb), .val (.int (at1 + Int32.ofNat nn))] [(.int s1), (.long vv), (.int nb), (.int at1), (.int (9 : Int32)), (.ref b1)])) rfl (by rw [hml]; rfl) (argsL := [(.ref b1), (.int (9 : Int32)), (.int at1), (.int nb), (.long vv), (.int s1)]) (rest := []) (lenOf pd_4 rfl) rfl (by show 2 * 0 + _ ≤ _; exact Nat.le_of_eq rfl) (hb hby at_351) rfl eq83 (by decide) (by decide)
  obtain ⟨rfl, N85q, eq85⟩ := hQ85
  have N85 := Fr.app N83 N85q
  refine OwnGo.of st85 ?_
  show OwnGo p.tables e below _ (T85.setTop (mkF m 354 #[.val (.long q0), .second, .val (.int p1), .val (.int p2), .val (.int p3), .val (.long vv), .second, .val (.int at1), .val (.int s1), .val (.ref b1), .val (.int nb), .val (.int (at1 + Int32.ofNat nn))] [(.int (own_ok b1 (9 : Int32) at1 nb vv s1 Gf k1))]))
  have hc86 : ¬ ((own_ok b1 (9 : Int32) at1 nb vv s1 Gf k1) = (0 : Int32)) := by rw [hnb2, hok _ (by decide)]; decide
  refine OwnGo.of (A := T85.setTop (mkF m 354 #[.val (.long q0), .second, .val (.int p1), .val (.int p2), .val (.int p3), .val (.long vv), .second, .val (.int at1), .val (.int s1), .val (.ref b1), .val (.int nb), .val (.int (at1 + Int32.ofNat nn))] [(.int (own_ok b1 (9 : Int32) at1 nb vv s1 Gf k1))])) (B := T85.setTop (mkF m 369 #[.val (.long q0), .second, .val (.int p1), .val (.int p2), .val (.int p3), .val (.long vv), .second, .val (.int at1), .val (.int s1), .val (.ref b1), .val (.int nb), .val (.int (at1 + Int32.ofNat nn))] [(.int s1), (.long vv), (.int nb), (.int at1), (.int (10 : Int32)), (.ref b1)])) (fun t k => ?_) ?_
  · show Steps p.tables e below (T85.setTop (mkF m 354 #[.val (.long q0), .second, .val (.int p1), .val (.int p2), .val (.int p3), .val (.long vv), .second, .val (.int at1), .val (.int s1), .val (.ref b1), .val (.int nb), .val (.int (at1 + Int32.ofNat nn))] [(.int (own_ok b1 (9 : Int32) at1 nb vv s1 Gf k1))])) t
    refine XS.ifNo X85.here hx rfl (hb hby at_354) rfl ((if0 _ _).trans (feq hc86).1) ?_
    show Steps p.tables e below (T85.setTop (mkF m 357 #[.val (.long q0), .second, .val (.int p1), .val (.int p2), .val (.int p3), .val (.long vv), .second, .val (.int at1), .val (.int s1), .val (.ref b1), .val (.int nb), .val (.int (at1 + Int32.ofNat nn))] [])) t
    refine XS.aload X85.here hx rfl (hb hby at_357) rfl rfl ?_
    show Steps p.tables e below (T85.setTop (mkF m 359 #[.val (.long q0), .second, .val (.int p1), .val (.int p2), .val (.int p3), .val (.long vv), .second, .val (.int at1), .val (.int s1), .val (.ref b1), .val (.int nb), .val (.int (at1 + Int32.ofNat nn))] [(.ref b1)])) t
    refine XS.bipush X85.here hx rfl (hb hby at_359) ?_
    show Steps p.tables e below (T85.setTop (mkF m 361 #[.val (.long q0), .second, .val (.int p1), .val (.int p2), .val (.int p3), .val (.long vv), .second, .val (.int at1), .val (.int s1), .val (.ref b1), .val (.int nb), .val (.int (at1 + Int32.ofNat nn))] [(.int (10 : Int32)), (.ref b1)])) t
    refine XS.iload X85.here hx rfl (hb hby at_361) rfl ?_
    show Steps p.tables e below (T85.setTop (mkF m 363 #[.val (.long q0), .second, .val (.int p1), .val (.int p2), .val (.int p3), .val (.long vv), .second, .val (.int at1), .val (.int s1), .val (.ref b1), .val (.int nb), .val (.int (at1 + Int32.ofNat nn))] [(.int at1), (.int (10 : Int32)), (.ref b1)])) t
    refine XS.iload X85.here hx rfl (hb hby at_363) rfl ?_
    show Steps p.tables e below (T85.setTop (mkF m 365 #[.val (.long q0), .second, .val (.int p1), .val (.int p2), .val (.int p3), .val (.long vv), .second, .val (.int at1), .val (.int s1), .val (.ref b1), .val (.int nb), .val (.int (at1 + Int32.ofNat nn))] [(.int nb), (.int at1), (.int (10 : Int32)), (.ref b1)])) t
    refine XS.lload X85.here hx rfl (hb hby at_365) rfl ?_
    show Steps p.tables e below (T85.setTop (mkF m 367 #[.val (.long q0), .second, .val (.int p1), .val (.int p2), .val (.int p3), .val (.long vv), .second, .val (.int at1), .val (.int s1), .val (.ref b1), .val (.int nb), .val (.int (at1 + Int32.ofNat nn))] [(.long vv), (.int nb), (.int at1), (.int (10 : Int32)), (.ref b1)])) t
    refine XS.iload X85.here hx rfl (hb hby at_367) rfl ?_
    exact k
  obtain ⟨T87, L87, v87, X87, hQ87, st87⟩ := own_callS X85 hx (y := (⟨"com/example/rankwright/rankwright/index/ByteWriterWriteNumberPinLaw", "ok", "([BIIIJB)Z"⟩ : MethodName)) hown (mvT hZ (hw _ (List.mem_of_getElem? (i := 11) rfl))) (mvT hZ (hw _ (List.mem_of_getElem? (i := 12) rfl))) (mvT hZ (hw _ (List.mem_of_getElem? (i := 4) rfl))) (mvT hZ (hw _ (List.mem_of_getElem? (i := 13) rfl))) (by decide) (backOf (W := 0) (rm3 l Z aw hw [] b1 (10 : Int32) at1 nb vv s1 Gf k1 T64.heap n0 f65 VG (by decide)) hZ (hw _ (List.mem_of_getElem? (i := 13) rfl)) (hw _ (List.mem_of_getElem? (i := 4) rfl)) (by decide) (by decide)) (g := (mkF m 369 #[.val (.long q0), .second, .val (.int p1), .val (.int p2), .val (.int p3), .val (.long vv), .second, .val (.int at1), .val (.int s1), .val (.ref b1), .val (.int nb), .val (.int (at1 + Int32.ofNat nn))] [(.int s1), (.long vv), (.int nb), (.int at1), (.int (10 : Int32)), (.ref b1)])) rfl (by rw [hml]; rfl) (argsL := [(.ref b1), (.int (10 : Int32)), (.int at1), (.int nb), (.long vv), (.int s1)]) (rest := []) (lenOf pd_4 rfl) rfl (by show 2 * 0 + _ ≤ _; exact Nat.le_of_eq rfl) (hb hby at_369) rfl eq85 (by decide) (by decide)
  obtain ⟨rfl, N87q, eq87⟩ := hQ87
  have N87 := Fr.app N85 N87q
  refine OwnGo.of st87 ?_
  show OwnGo p.tables e below _ (T87.setTop (mkF m 372 #[.val (.long q0), .second, .val (.int p1), .val (.int p2), .val (.int p3), .val (.long vv), .second, .val (.int at1), .val (.int s1), .val (.ref b1), .val (.int nb), .val (.int (at1 + Int32.ofNat nn))] [(.int (own_ok b1 (10 : Int32) at1 nb vv s1 Gf k1))]))
  have hc88 : ¬ ((own_ok b1 (10 : Int32) at1 nb vv s1 Gf k1) = (0 : Int32)) := by rw [hnb2, hok _ (by decide)]; decide
  refine OwnGo.of (A := T87.setTop (mkF m 372 #[.val (.long q0), .second, .val (.int p1), .val (.int p2), .val (.int p3), .val (.long vv), .second, .val (.int at1), .val (.int s1), .val (.ref b1), .val (.int nb), .val (.int (at1 + Int32.ofNat nn))] [(.int (own_ok b1 (10 : Int32) at1 nb vv s1 Gf k1))])) (B := T87.setTop (mkF m 387 #[.val (.long q0), .second, .val (.int p1), .val (.int p2), .val (.int p3), .val (.long vv), .second, .val (.int at1), .val (.int s1), .val (.ref b1), .val (.int nb), .val (.int (at1 + Int32.ofNat nn))] [(.int s1), (.long vv), (.int nb), (.int at1), (.int (11 : Int32)), (.ref b1)])) (fun t k => ?_) ?_
  · show Steps p.tables e below (T87.setTop (mkF m 372 #[.val (.long q0), .second, .val (.int p1), .val (.int p2), .val (.int p3), .val (.long vv), .second, .val (.int at1), .val (.int s1), .val (.ref b1), .val (.int nb), .val (.int (at1 + Int32.ofNat nn))] [(.int (own_ok b1 (10 : Int32) at1 nb vv s1 Gf k1))])) t
    refine XS.ifNo X87.here hx rfl (hb hby at_372) rfl ((if0 _ _).trans (feq hc88).1) ?_
    show Steps p.tables e below (T87.setTop (mkF m 375 #[.val (.long q0), .second, .val (.int p1), .val (.int p2), .val (.int p3), .val (.long vv), .second, .val (.int at1), .val (.int s1), .val (.ref b1), .val (.int nb), .val (.int (at1 + Int32.ofNat nn))] [])) t
    refine XS.aload X87.here hx rfl (hb hby at_375) rfl rfl ?_
    show Steps p.tables e below (T87.setTop (mkF m 377 #[.val (.long q0), .second, .val (.int p1), .val (.int p2), .val (.int p3), .val (.long vv), .second, .val (.int at1), .val (.int s1), .val (.ref b1), .val (.int nb), .val (.int (at1 + Int32.ofNat nn))] [(.ref b1)])) t
    refine XS.bipush X87.here hx rfl (hb hby at_377) ?_
    show Steps p.tables e below (T87.setTop (mkF m 379 #[.val (.long q0), .second, .val (.int p1), .val (.int p2), .val (.int p3), .val (.long vv), .second, .val (.int at1), .val (.int s1), .val (.ref b1), .val (.int nb), .val (.int (at1 + Int32.ofNat nn))] [(.int (11 : Int32)), (.ref b1)])) t
    refine XS.iload X87.here hx rfl (hb hby at_379) rfl ?_
    show Steps p.tables e below (T87.setTop (mkF m 381 #[.val (.long q0), .second, .val (.int p1), .val (.int p2), .val (.int p3), .val (.long vv), .second, .val (.int at1), .val (.int s1), .val (.ref b1), .val (.int nb), .val (.int (at1 + Int32.ofNat nn))] [(.int at1), (.int (11 : Int32)), (.ref b1)])) t
    refine XS.iload X87.here hx rfl (hb hby at_381) rfl ?_
    show Steps p.tables e below (T87.setTop (mkF m 383 #[.val (.long q0), .second, .val (.int p1), .val (.int p2), .val (.int p3), .val (.long vv), .second, .val (.int at1), .val (.int s1), .val (.ref b1), .val (.int nb), .val (.int (at1 + Int32.ofNat nn))] [(.int nb), (.int at1), (.int (11 : Int32)), (.ref b1)])) t
    refine XS.lload X87.here hx rfl (hb hby at_383) rfl ?_
    show Steps p.tables e below (T87.setTop (mkF m 385 #[.val (.long q0), .second, .val (.int p1), .val (.int p2), .val (.int p3), .val (.long vv), .second, .val (.int at1), .val (.int s1), .val (.ref b1), .val (.int nb), .val (.int (at1 + Int32.ofNat nn))] [(.long vv), (.int nb), (.int at1), (.int (11 : Int32)), (.ref b1)])) t
    refine XS.iload X87.here hx rfl (hb hby at_385) rfl ?_
    exact k
  obtain ⟨T89, L89, v89, X89, hQ89, st89⟩ := own_callS X87 hx (y := (⟨"com/example/rankwright/rankwright/index/ByteWriterWriteNumberPinLaw", "ok", "([BIIIJB)Z"⟩ : MethodName)) hown (mvT hZ (hw _ (List.mem_of_getElem? (i := 11) rfl))) (mvT hZ (hw _ (List.mem_of_getElem? (i := 12) rfl))) (mvT hZ (hw _ (List.mem_of_getElem? (i := 4) rfl))) (mvT hZ (hw _ (List.mem_of_getElem? (i := 13) rfl))) (by decide) (backOf (W := 0) (rm3 l Z aw hw [] b1 (11 : Int32) at1 nb vv s1 Gf k1 T64.heap n0 f65 VG (by decide)) hZ (hw _ (List.mem_of_getElem? (i := 13) rfl)) (hw _ (List.mem_of_getElem? (i := 4) rfl)) (by decide) (by decide)) (g := (mkF m 387 #[.val (.long q0), .second, .val (.int p1), .val (.int p2), .val (.int p3), .val (.long vv), .second, .val (.int at1), .val (.int s1), .val (.ref b1), .val (.int nb), .val (.int (at1 + Int32.ofNat nn))] [(.int s1), (.long vv), (.int nb), (.int at1), (.int (11 : Int32)), (.ref b1)])) rfl (by rw [hml]; rfl) (argsL := [(.ref b1), (.int (11 : Int32)), (.int at1), (.int nb), (.long vv), (.int s1)]) (rest := []) (lenOf pd_4 rfl) rfl (by show 2 * 0 + _ ≤ _; exact Nat.le_of_eq rfl) (hb hby at_387) rfl eq87 (by decide) (by decide)
  obtain ⟨rfl, N89q, eq89⟩ := hQ89
  have N89 := Fr.app N87 N89q
  refine OwnGo.of st89 ?_
  show OwnGo p.tables e below _ (T89.setTop (mkF m 390 #[.val (.long q0), .second, .val (.int p1), .val (.int p2), .val (.int p3), .val (.long vv), .second, .val (.int at1), .val (.int s1), .val (.ref b1), .val (.int nb), .val (.int (at1 + Int32.ofNat nn))] [(.int (own_ok b1 (11 : Int32) at1 nb vv s1 Gf k1))]))
  have hc90 : ¬ ((own_ok b1 (11 : Int32) at1 nb vv s1 Gf k1) = (0 : Int32)) := by rw [hnb2, hok _ (by decide)]; decide
  refine OwnGo.of (A := T89.setTop (mkF m 390 #[.val (.long q0), .second, .val (.int p1), .val (.int p2), .val (.int p3), .val (.long vv), .second, .val (.int at1), .val (.int s1), .val (.ref b1), .val (.int nb), .val (.int (at1 + Int32.ofNat nn))] [(.int (own_ok b1 (11 : Int32) at1 nb vv s1 Gf k1))])) (B := T89.setTop (mkF m 405 #[.val (.long q0), .second, .val (.int p1), .val (.int p2), .val (.int p3), .val (.long vv), .second, .val (.int at1), .val (.int s1), .val (.ref b1), .val (.int nb), .val (.int (at1 + Int32.ofNat nn))] [(.int s1), (.long vv), (.int nb), (.int at1), (.int (12 : Int32)), (.ref b1)])) (fun t k => ?_) ?_
  · show Steps p.tables e below (T89.setTop (mkF m 390 #[.val (.long q0), .second, .val (.int p1), .val (.int p2), .val (.int p3), .val (.long vv), .second, .val (.int at1), .val (.int s1), .val (.ref b1), .val (.int nb), .val (.int (at1 + Int32.ofNat nn))] [(.int (own_ok b1 (11 : Int32) at1 nb vv s1 Gf k1))])) t
    refine XS.ifNo X89.here hx rfl (hb hby at_390) rfl ((if0 _ _).trans (feq hc90).1) ?_
    show Steps p.tables e below (T89.setTop (mkF m 393 #[.val (.long q0), .second, .val (.int p1), .val (.int p2), .val (.int p3), .val (.long vv), .second, .val (.int at1), .val (.int s1), .val (.ref b1), .val (.int nb), .val (.int (at1 + Int32.ofNat nn))] [])) t
    refine XS.aload X89.here hx rfl (hb hby at_393) rfl rfl ?_
    show Steps p.tables e below (T89.setTop (mkF m 395 #[.val (.long q0), .second, .val (.int p1), .val (.int p2), .val (.int p3), .val (.long vv), .second, .val (.int at1), .val (.int s1), .val (.ref b1), .val (.int nb), .val (.int (at1 + Int32.ofNat nn))] [(.ref b1)])) t
    refine XS.bipush X89.here hx rfl (hb hby at_395) ?_
    show Steps p.tables e below (T89.setTop (mkF m 397 #[.val (.long q0), .second, .val (.int p1), .val (.int p2), .val (.int p3), .val (.long vv), .second, .val (.int at1), .val (.int s1), .val (.ref b1), .val (.int nb), .val (.int (at1 + Int32.ofNat nn))] [(.int (12 : Int32)), (.ref b1)])) t
    refine XS.iload X89.here hx rfl (hb hby at_397) rfl ?_
    show Steps p.tables e below (T89.setTop (mkF m 399 #[.val (.long q0), .second, .val (.int p1), .val (.int p2), .val (.int p3), .val (.long vv), .second, .val (.int at1), .val (.int s1), .val (.ref b1), .val (.int nb), .val (.int (at1 + Int32.ofNat nn))] [(.int at1), (.int (12 : Int32)), (.ref b1)])) t
    refine XS.iload X89.here hx rfl (hb hby at_399) rfl ?_
    show Steps p.tables e below (T89.setTop (mkF m 401 #[.val (.long q0), .second, .val (.int p1), .val (.int p2), .val (.int p3), .val (.long vv), .second, .val (.int at1), .val (.int s1), .val (.ref b1), .val (.int nb), .val (.int (at1 + Int32.ofNat nn))] [(.int nb), (.int at1), (.int (12 : Int32)), (.ref b1)])) t
    refine XS.lload X89.here hx rfl (hb hby at_401) rfl ?_
    show Steps p.tables e below (T89.setTop (mkF m 403 #[.val (.long q0), .second, .val (.int p1), .val (.int p2), .val (.int p3), .val (.long vv), .second, .val (.int at1), .val (.int s1), .val (.ref b1), .val (.int nb), .val (.int (at1 + Int32.ofNat nn))] [(.long vv), (.int nb), (.int at1), (.int (12 : Int32)), (.ref b1)])) t
    refine XS.iload X89.here hx rfl (hb hby at_403) rfl ?_
    exact k
  obtain ⟨T91, L91, v91, X91, hQ91, st91⟩ := own_callS X89 hx (y := (⟨"com/example/rankwright/rankwright/index/ByteWriterWriteNumberPinLaw", "ok", "([BIIIJB)Z"⟩ : MethodName)) hown (mvT hZ (hw _ (List.mem_of_getElem? (i := 11) rfl))) (mvT hZ (hw _ (List.mem_of_getElem? (i := 12) rfl))) (mvT hZ (hw _ (List.mem_of_getElem? (i := 4) rfl))) (mvT hZ (hw _ (List.mem_of_getElem? (i := 13) rfl))) (by decide) (backOf (W := 0) (rm3 l Z aw hw [] b1 (12 : Int32) at1 nb vv s1 Gf k1 T64.heap n0 f65 VG (by decide)) hZ (hw _ (List.mem_of_getElem? (i := 13) rfl)) (hw _ (List.mem_of_getElem? (i := 4) rfl)) (by decide) (by decide)) (g := (mkF m 405 #[.val (.long q0), .second, .val (.int p1), .val (.int p2), .val (.int p3), .val (.long vv), .second, .val (.int at1), .val (.int s1), .val (.ref b1), .val (.int nb), .val (.int (at1 + Int32.ofNat nn))] [(.int s1), (.long vv), (.int nb), (.int at1), (.int (12 : Int32)), (.ref b1)])) rfl (by rw [hml]; rfl) (argsL := [(.ref b1), (.int (12 : Int32)), (.int at1), (.int nb), (.long vv), (.int s1)]) (rest := []) (lenOf pd_4 rfl) rfl (by show 2 * 0 + _ ≤ _; exact Nat.le_of_eq rfl) (hb hby at_405) rfl eq89 (by decide) (by decide)
  obtain ⟨rfl, N91q, eq91⟩ := hQ91
  have N91 := Fr.app N89 N91q
  refine OwnGo.of st91 ?_
  show OwnGo p.tables e below _ (T91.setTop (mkF m 408 #[.val (.long q0), .second, .val (.int p1), .val (.int p2), .val (.int p3), .val (.long vv), .second, .val (.int at1), .val (.int s1), .val (.ref b1), .val (.int nb), .val (.int (at1 + Int32.ofNat nn))] [(.int (own_ok b1 (12 : Int32) at1 nb vv s1 Gf k1))]))
  have hc92 : ¬ ((own_ok b1 (12 : Int32) at1 nb vv s1 Gf k1) = (0 : Int32)) := by rw [hnb2, hok _ (by decide)]; decide
  refine OwnGo.of (A := T91.setTop (mkF m 408 #[.val (.long q0), .second, .val (.int p1), .val (.int p2), .val (.int p3), .val (.long vv), .second, .val (.int at1), .val (.int s1), .val (.ref b1), .val (.int nb), .val (.int (at1 + Int32.ofNat nn))] [(.int (own_ok b1 (12 : Int32) at1 nb vv s1 Gf k1))])) (B := T91.setTop (mkF m 416 #[.val (.long q0), .second, .val (.int p1), .val (.int p2), .val (.int p3), .val (.long vv), .second, .val (.int at1), .val (.int s1), .val (.ref b1), .val (.int nb), .val (.int (at1 + Int32.ofNat nn))] [(.int (1 : Int32))])) (fun t k => ?_) ?_
  · show Steps p.tables e below (T91.setTop (mkF m 408 #[.val (.long q0), .second, .val (.int p1), .val (.int p2), .val (.int p3), .val (.long vv), .second, .val (.int at1), .val (.int s1), .val (.ref b1), .val (.int nb), .val (.int (at1 + Int32.ofNat nn))] [(.int (own_ok b1 (12 : Int32) at1 nb vv s1 Gf k1))])) t
    refine XS.ifNo X91.here hx rfl (hb hby at_408) rfl ((if0 _ _).trans (feq hc92).1) ?_
    show Steps p.tables e below (T91.setTop (mkF m 411 #[.val (.long q0), .second, .val (.int p1), .val (.int p2), .val (.int p3), .val (.long vv), .second, .val (.int at1), .val (.int s1), .val (.ref b1), .val (.int nb), .val (.int (at1 + Int32.ofNat nn))] [])) t
    refine XS.iconst X91.here hx rfl (hb hby at_411) ?_
    show Steps p.tables e below (T91.setTop (mkF m 412 #[.val (.long q0), .second, .val (.int p1), .val (.int p2), .val (.int p3), .val (.long vv), .second, .val (.int at1), .val (.int s1), .val (.ref b1), .val (.int nb), .val (.int (at1 + Int32.ofNat nn))] [(.int (1 : Int32))])) t
    refine XS.goto X91.here hx rfl (pc0 := 412) (pc' := 416) rfl (hb hby at_412) (by decide) (by decide) ?_
    exact k
  obtain ⟨fs, hr, hrun, hended, hW, hsame⟩ := X91.leave (v := some (.int (nar .boolean (1 : Int32)))) (fun h => by rw [Bd.returns] at h; cases h) hlk
  refine ⟨_, _, ?_, hrun, hended, _, _, rfl, ?_, ⟨_, rfl⟩, hW, hsame.mono (by decide) (by decide)⟩
  · show Steps p.tables e below (T91.setTop (mkF m 416 #[.val (.long q0), .second, .val (.int p1), .val (.int p2), .val (.int p3), .val (.long vv), .second, .val (.int at1), .val (.int s1), .val (.ref b1), .val (.int nb), .val (.int (at1 + Int32.ofNat nn))] [(.int (1 : Int32))])) _
    exact retN X91 hx (t := .boolean) Bd.returns (by simp) (hb hby at_416) hr
  · show Qrm0 Z q0 p1 p2 p3 h0 n0 _ (T91.setFrames fs).heap _
    rw [show (T91.setFrames fs).heap = T64.heap from eq91]
    exact ⟨rfl, N91⟩
set_option maxRecDepth 65536 in
set_option maxHeartbeats 40000000 in
theorem comes_1 {Post : Tables → Env → Array Value → State → Outcome → State → Prop} (hpost : ∀ tb e args s v u, (limb_1_1.after args s (.returned v) u = true ∧ limb_1_2.after args s (.returned v) u = true ∧ True) → FrameEnd s (.returned v) u (Jvm.fieldLocs frame_1_writes args s ++ Jvm.arrayLocs frame_1_arrays args s ++ Jvm.staticLocs frame_1_statics s) 16 128 → Post tb e args s (.returned v) u) :
    ArmFor flags0 classFile x code maxLocals ret World_1 tables_1 room_1 Calls_1 rest_1 Pre_1 Post := by
  intro l hfl _ _ p e ha hc hk s m args below hf hA hF happ hP
  obtain ⟨hcalls, hrest, hpre⟩ := hP
  obtain ⟨-, -, -, hnamed, -, -, -, hat⟩ := (Spec.applies_iff hf).mp happ
  obtain ⟨hg, hn⟩ := and_e (Cond.before_iff.mp (show (Jvm.Cond.and given_1 narrow_1).before args s = true from hpre))
  obtain ⟨gg1, gg2⟩ := and_e hg
  obtain ⟨gg3, gg4⟩ := and_e gg2
  obtain ⟨gg5, gg6⟩ := and_e gg4
  obtain ⟨gg7, gg8⟩ := and_e gg6
  obtain ⟨w0, w1, w2, w3, rfl⟩ : ∃ w0 w1 w2 w3 : Value, args = #[w0, w1, w2, w3] := by
    have hs : args.size = 4 := by simpa [Cond.value, given_1] using gg1
    obtain ⟨L⟩ := args
    match L, hs with
    | [w0, w1, w2, w3], _ => exact ⟨w0, w1, w2, w3, rfl⟩
  have hw := fun d (hd : d ∈ tables_1) => atoms_spec (ws := Jvm.Cond.code x code maxLocals ret :: tables_1) hat d (List.mem_cons_of_mem _ hd)
  have hfit : Fit s := fun {y c} hc i hi => by
    obtain ⟨ha, rfl⟩ := Array.getElem?_eq_some_iff.mp hc
    have q := List.all_eq_true.mp ((Array.all_eq_true_iff_forall_mem.mp hF) _ (Array.getElem_mem ha)) i (List.mem_range.mpr hi)
    simpa [Array.getElem?_eq_getElem hi] using q
  obtain ⟨i0, ei0⟩ := isL_v gg3
  obtain rfl : w0 = (.long i0) := Option.some.inj ei0
  obtain ⟨i1, ei1⟩ := is_v gg5
  obtain rfl : w1 = (.int i1) := Option.some.inj ei1
  obtain ⟨i2, ei2⟩ := is_v gg7
  obtain rfl : w2 = (.int i2) := Option.some.inj ei2
  obtain ⟨i3, ei3⟩ := is_v gg8
  obtain rfl : w3 = (.int i3) := Option.some.inj ei3
  obtain ⟨n, o, h1, h2, h3, _, L, rfl, ⟨rfl, N⟩, hq⟩ := rm0 l s _ hw tables_1 i0 i1 i2 i3  s.heap s.heap.size (Nat.le_refl _)  p e ha hc hk s m _ below hf ((Spec.applies_iff_loose hf).mp happ).1 ⟨rfl, State.Warmed39.refl s, rfl⟩ trivial
  refine ⟨n, _, h1, h2, h3, hpost _ _ _ _ _ _ ⟨Cond.after_iff.mpr rfl, Cond.after_iff.mpr (eq_i res_at (Term.int_eval (1)) rfl), trivial⟩ ⟨hq.1, hq.2.1, (hq.2.2.sift fun y hy => Or.inr (N y hy)).mono (by decide) (by decide)⟩⟩
theorem main_1_1 : Claimed_1_1 := comes_1 fun _ _ _ _ _ _ h hF => ⟨h.1, hF⟩
theorem main_1_2 : Claimed_1_2 := comes_1 fun _ _ _ _ _ _ h hF => ⟨h.2.1, hF⟩
end Jvm.Pilot.@@N@@
namespace Jvm.Pilot.@@N@@
open Jvm Jvm.ClassFile Sem Op Lib Jvm.Free Jvm.Stand Jvm.Pilot.@@N@@.Jvm.D
/-! MADE BY PROGRAM (witnessworld.py) out of the Statement's table words and the real class files: 9 classes; the members and pool entries that the words name. The judged class is class 1, her method 1. -/
namespace start1
open Jvm.ClassFile
def u (s : String) : CpInfo := .utf8 (stringToUtf16 s)
/-- a pool by its gaps: so many unusable entries, then the entry; so many at the end -/
def gap : Nat → List CpInfo → List CpInfo
  | 0, r => r
  | n + 1, r => .unusable :: gap n r
def poolList (es : List (Nat × CpInfo)) (last : Nat) : List CpInfo := es.foldr (fun e r => gap e.1 (e.2 :: r)) (gap last [])
def pool (es : List (Nat × CpInfo)) (last : Nat) : Array CpInfo := ⟨poolList es last⟩
def fileOf (pool : Array CpInfo) (this : Nat) (attrs : Array Attribute := #[]) (ms : Array MethodInfo := #[]) (fl : Nat := 33) (sup : Nat := 0) (ifs : Array Nat := #[]) (fds : Array FieldInfo := #[]) : ClassFile where
  minorVersion := 0
  majorVersion := 65
  constantPool := pool
  accessFlags := fl
  thisClass := this
  superClass := sup
  interfaces := ifs
  fields := fds
  methods := ms
  attributes := attrs
def plain (name : String) (sup : Option ClassId) : Class where
  name := name
  kind := .ordinary
  loader := none
  accessFlags := 33
  super := sup
  interfaces := #[]
  cf := none
  fields := #[]
  methods := #[]
  instanceTypes := #[]
  staticTypes := #[]
  resolved := #[]
  callSites := []
  init := .initialized
  statics := none
  mirror := none

def pool0 : Array CpInfo := pool [(5, u "<init>"), (0, u "()V"), (1, .class_ 10), (1, u "java/lang/Object")] 113

def k0m0 : Method := { name := "<init>", desc := "()V", sig := { parameters := [], returnType := none }, accessFlags := 1, code := none }
/-- java/lang/Object -/
def k0 : Class := { plain "java/lang/Object" none with
  accessFlags := 33
  interfaces := #[]
  cf := some (fileOf pool0 8 #[] #[{ accessFlags := 1, nameIndex := 5, descriptorIndex := 6, attributes := #[] }] 33 0 #[] #[])
  fields := #[]
  methods := #[k0m0]
  instanceTypes := #[]
  staticTypes := #[]
  resolved := Array.replicate 124 none
  statics := none }

def pool1 : Array CpInfo := pool [(2, .class_ 4), (1, u "java/lang/Object"), (0, u "<init>"), (0, u "()V"), (2, .long 9223372036854775807), (1, .methodref 12 13), (0, .class_ 14), (0, .nameAndType 15 16), (0, u "com/example/rankwright/rankwright/index/ByteWriterWriteNumberPinLaw"), (0, u "more"), (0, u "(JI)I"), (0, .methodref 18 19), (0, .class_ 20), (0, .nameAndType 21 22), (0, u "com/example/rankwright/rankwright/index/ByteWriter"), (0, u "writeNumber"), (0, u "(J[BI)I"), (0, .methodref 12 24), (0, .nameAndType 25 26), (0, u "ok"), (0, u "([BIIIJB)Z"), (0, .long 127), (3, u "law"), (0, u "(JIII)Z")] 5

def k1m0 : Method := { name := "<init>", desc := "()V", sig := { parameters := [], returnType := none }, accessFlags := 1, code := none }
def k1c1 : Code := { maxStack := 7, maxLocals := 12, code := code, exceptionTable := #[], attributes := #[] }
def k1m1 : Method := { name := "law", desc := "(JIII)Z", sig := { parameters := [.long, .int, .int, .int], returnType := some .boolean }, accessFlags := 9, code := some k1c1 }
def k1c2 : Code := { maxStack := 4, maxLocals := 3, code := method_3_code, exceptionTable := #[], attributes := #[] }
def k1m2 : Method := { name := "more", desc := "(JI)I", sig := { parameters := [.long, .int], returnType := some .int }, accessFlags := 10, code := some k1c2 }
def k1c3 : Code := { maxStack := 4, maxLocals := 10, code := method_4_code, exceptionTable := #[], attributes := #[] }
def k1m3 : Method := { name := "ok", desc := "([BIIIJB)Z", sig := { parameters := [(.array .byte), .int, .int, .int, .long, .byte], returnType := some .boolean }, accessFlags := 10, code := some k1c3 }
/-- com/example/rankwright/rankwright/index/ByteWriterWriteNumberPinLaw -/
def k1 : Class := { plain "com/example/rankwright/rankwright/index/ByteWriterWriteNumberPinLaw" (some 0) with
  accessFlags := 49
  interfaces := #[]
  cf := some (fileOf pool1 12 #[] #[{ accessFlags := 1, nameIndex := 5, descriptorIndex := 6, attributes := #[] }, { accessFlags := 9, nameIndex := 31, descriptorIndex := 32, attributes := #[] }, { accessFlags := 10, nameIndex := 15, descriptorIndex := 16, attributes := #[] }, { accessFlags := 10, nameIndex := 25, descriptorIndex := 26, attributes := #[] }] 49 2 #[] #[])
  fields := #[]
  methods := #[k1m0, k1m1, k1m2, k1m3]
  instanceTypes := #[]
  staticTypes := #[]
  resolved := Array.replicate 38 none
  statics := none }

def pool2 : Array CpInfo := pool [(2, .class_ 4), (1, u "java/lang/Object"), (3, .class_ 10), (1, u "com/example/rankwright/rankwright/index/ByteWriter"), (0, u "bytes"), (0, u "[B"), (2, u "size"), (0, u "I"), (6, u "writeNumber"), (0, u "(J[BI)I"), (0, .long 128), (1, .long 127), (62, u "LONGEST_NUMBER")] 26

def k2c0 : Code := { maxStack := 6, maxLocals := 7, code := prog_40_method_6_code, exceptionTable := #[], attributes := #[] }
def k2m0 : Method := { name := "writeNumber", desc := "(J[BI)I", sig := { parameters := [.long, (.array .byte), .int], returnType := some .int }, accessFlags := 8, code := some k2c0 }
/-- com/example/rankwright/rankwright/index/ByteWriter -/
def k2 : Class := { plain "com/example/rankwright/rankwright/index/ByteWriter" (some 0) with
  accessFlags := 48
  interfaces := #[]
  cf := some (fileOf pool2 8 #[] #[{ accessFlags := 8, nameIndex := 23, descriptorIndex := 24, attributes := #[] }] 48 2 #[] #[{ accessFlags := 26, nameIndex := 90, descriptorIndex := 16, attributes := #[] }, { accessFlags := 2, nameIndex := 11, descriptorIndex := 12, attributes := #[] }, { accessFlags := 2, nameIndex := 15, descriptorIndex := 16, attributes := #[] }])
  fields := #[{ name := "LONGEST_NUMBER", type := .int, accessFlags := 26, slot := 0, constantValue := 0 }, { name := "bytes", type := (.array .byte), accessFlags := 2, slot := 0, constantValue := 0 }, { name := "size", type := .int, accessFlags := 2, slot := 1, constantValue := 0 }]
  methods := #[k2m0]
  instanceTypes := #[(.array .byte), .int]
  staticTypes := #[.int]
  resolved := Array.replicate 117 none
  statics := none }

def pool3 : Array CpInfo := pool [(1, u "java/lang/Cloneable"), (0, .class_ 1), (0, u "java/lang/Object"), (0, .class_ 3)] 3

/-- java/lang/Cloneable -/
def k3 : Class := { plain "java/lang/Cloneable" (some 0) with
  accessFlags := 1537
  interfaces := #[]
  cf := some (fileOf pool3 2 #[] #[] 1537 4 #[] #[])
  fields := #[]
  methods := #[]
  instanceTypes := #[]
  staticTypes := #[]
  resolved := Array.replicate 8 none
  statics := none }

def pool4 : Array CpInfo := pool [(1, u "java/io/Serializable"), (0, .class_ 1), (0, u "java/lang/Object"), (0, .class_ 3)] 3

/-- java/io/Serializable -/
def k4 : Class := { plain "java/io/Serializable" (some 0) with
  accessFlags := 1537
  interfaces := #[]
  cf := some (fileOf pool4 2 #[] #[] 1537 4 #[] #[])
  fields := #[]
  methods := #[]
  instanceTypes := #[]
  staticTypes := #[]
  resolved := Array.replicate 8 none
  statics := none }

/-- the primitive byte -/
def k5 : Class := { plain "byte" none with kind := .primitive 'B', accessFlags := 0x411 }
/-- [B -/
def k6 : Class := { plain "[B" (some 0) with kind := .array 5 .byte, interfaces := #[3, 4], accessFlags := 1041 }

/-- the primitive int -/
def k7 : Class := { plain "int" none with kind := .primitive 'I', accessFlags := 0x411 }
/-- [I -/
def k8 : Class := { plain "[I" (some 0) with kind := .array 7 .int, interfaces := #[3, 4], accessFlags := 1041 }

def heap : Heap := #[]
def classes : Array Class := #[k0, k1, k2, k3, k4, k5, k6, k7, k8]
def interned : List (Array UInt16 × Addr) := []
def slotsUsed : Nat := 0
def theMethod : MethodId := ⟨1, 1⟩
def args0 : Array Value := #[.long 300, .int 2, .int 5, .int 7]
def aboutOver (below : List Frame) : State where
  vm := { classes := classes, interned := interned.toArray }
  heap := heap
  slotsUsed := slotsUsed
  threads := #[{ frames := .invoking theMethod args0 :: below }]
def below0 : List Frame := [.native { method := ⟨0, 0⟩, args := #[] }]
def about1 : State := aboutOver below0
def p0 : Program := .bare "" "" ""
def e0 : Env := launch0.env 0 0 0
theorem w_frames : about1.frames = Frame.invoking theMethod args0 :: below0 := rfl
set_option maxRecDepth 65536 in
theorem w_args : argsFit about1.vm theMethod args0 = true := by decide +kernel
set_option maxRecDepth 65536 in
theorem w_heap : heapFits about1 = true := by decide +kernel
set_option maxRecDepth 65536 in
theorem w_runnable : about1.curStatus? = some .runnable := by decide +kernel
set_option maxRecDepth 65536 in
theorem w_alone : about1.alone = true := by decide +kernel
set_option maxRecDepth 65536 in
theorem w_named : about1.methodNamed? x = some theMethod := by decide +kernel
set_option maxRecDepth 65536 in
theorem w_hears : about1.hears theMethod below0 = true := by decide +kernel
set_option maxRecDepth 65536 in
theorem w_ripe : about1.ripe theMethod args0 below0 = true := by decide +kernel
theorem w_running : about1.status = .running := rfl
set_option maxRecDepth 65536 in
theorem w_room : about1.hasRoom e0.platform room_1 = true :=
  launch0.hasRoom_least _ room_1 (by decide +kernel) (by decide +kernel) (by decide +kernel) (by decide +kernel) (by decide +kernel) (by decide +kernel)
theorem allAtoms_all (ts : List Jvm.Cond) (a : Array Jvm.Value) (st : Jvm.State) : (allAtoms ts).before a st = ts.all (fun c => c.before a st) := by
  induction ts with
  | nil => rfl
  | cons c t ih =>
    show (Jvm.Cond.and c (allAtoms t)).before a st = _
    rw [Jvm.Cond.before_and, ih, List.all_cons]
def words1 : List Jvm.Cond := Jvm.Cond.code x code maxLocals ret :: tables_1
/-- a 'code' word, met by the world's own term for the bytes: nothing is compared byte by byte -/
theorem code_word {y : MethodName} {bytes : ByteArray} {mx : Nat} {rt : Option FieldType} {a : Array Value} {s : State} {m : MethodId} {meth : Method} {c : Code} (h1 : s.methodNamed? y = some m) (h2 : s.vm.method? m = some meth) (h3 : meth.code = some c) (h4 : c.code = bytes)
    (h5 : (c.maxLocals == mx && c.exceptionTable.isEmpty && decide (c.maxStack ≤ mostOperands) && decide (meth.sig.returnType = rt) && !meth.locks && decide (parseMethodDescriptor y.desc = some meth.sig)) = true) : (Jvm.Cond.code y bytes mx rt).before a s = true := by
  simp only [Bool.and_eq_true, beq_iff_eq, Bool.not_eq_true', decide_eq_true_eq] at h5
  obtain ⟨⟨⟨⟨⟨g1, g2⟩, g3⟩, g4⟩, g5⟩, g6⟩ := h5
  simp [Cond.before, Cond.holds, Cond.value, h1, h2, h3, h4, g1, g2, g3, g4, g5, g6]
def isCode : Jvm.Cond → Bool
  | .code _ _ _ _ => true
  | _ => false
theorem all_split {L : List Jvm.Cond} {P : Jvm.Cond → Bool} (h1 : L.all (fun c => isCode c || P c) = true) (h2 : ∀ c ∈ L.filter isCode, P c = true) : L.all P = true := by
  refine List.all_eq_true.mpr fun c hc => ?_
  have h := List.all_eq_true.mp h1 c hc
  rcases Bool.eq_false_or_eq_true (isCode c) with hi | hi
  · exact h2 c (List.mem_filter.mpr ⟨hc, hi⟩)
  · simpa [hi] using h
set_option maxRecDepth 65536 in
theorem w_c0 : (Jvm.Cond.code x code maxLocals ret).before args0 about1 = true := code_word (m := ⟨1, 1⟩) (meth := k1m1) (c := k1c1) (by decide +kernel) rfl rfl rfl (by decide +kernel)
set_option maxRecDepth 65536 in
theorem w_c1 : (Jvm.Cond.code ({ cls := "com/example/rankwright/rankwright/index/ByteWriterWriteNumberPinLaw", name := "more", desc := "(JI)I" } : Jvm.MethodName) method_3_code (3 : Nat) (Option.some Jvm.ClassFile.FieldType.int)).before args0 about1 = true := code_word (m := ⟨1, 2⟩) (meth := k1m2) (c := k1c2) (by decide +kernel) rfl rfl rfl (by decide +kernel)
set_option maxRecDepth 65536 in
theorem w_c2 : (Jvm.Cond.code ({ cls := "com/example/rankwright/rankwright/index/ByteWriter", name := "writeNumber", desc := "(J[BI)I" } : Jvm.MethodName) prog_40_method_6_code (7 : Nat) (Option.some Jvm.ClassFile.FieldType.int)).before args0 about1 = true := code_word (m := ⟨2, 0⟩) (meth := k2m0) (c := k2c0) (by decide +kernel) rfl rfl rfl (by decide +kernel)
set_option maxRecDepth 65536 in
theorem w_c3 : (Jvm.Cond.code ({ cls := "com/example/rankwright/rankwright/index/ByteWriterWriteNumberPinLaw", name := "ok", desc := "([BIIIJB)Z" } : Jvm.MethodName) method_4_code (10 : Nat) (Option.some Jvm.ClassFile.FieldType.boolean)).before args0 about1 = true := code_word (m := ⟨1, 3⟩) (meth := k1m3) (c := k1c3) (by decide +kernel) rfl rfl rfl (by decide +kernel)
def codes1 : List Jvm.Cond := [Jvm.Cond.code x code maxLocals ret, Jvm.Cond.code ({ cls := "com/example/rankwright/rankwright/index/ByteWriterWriteNumberPinLaw", name := "more", desc := "(JI)I" } : Jvm.MethodName) method_3_code (3 : Nat) (Option.some Jvm.ClassFile.FieldType.int), Jvm.Cond.code ({ cls := "com/example/rankwright/rankwright/index/ByteWriter", name := "writeNumber", desc := "(J[BI)I" } : Jvm.MethodName) prog_40_method_6_code (7 : Nat) (Option.some Jvm.ClassFile.FieldType.int), Jvm.Cond.code ({ cls := "com/example/rankwright/rankwright/index/ByteWriterWriteNumberPinLaw", name := "ok", desc := "([BIIIJB)Z" } : Jvm.MethodName) method_4_code (10 : Nat) (Option.some Jvm.ClassFile.FieldType.boolean)]
set_option maxRecDepth 65536 in
theorem codes_eq : words1.filter isCode = codes1 := rfl
theorem w_codes : ∀ c ∈ words1.filter isCode, c.before args0 about1 = true := by
  rw [codes_eq]
  intro c hc
  simp only [codes1, List.mem_cons, List.not_mem_nil, or_false] at hc
  rcases hc with rfl | rfl | rfl | rfl
  · exact w_c0
  · exact w_c1
  · exact w_c2
  · exact w_c3
set_option maxRecDepth 65536 in
theorem w_t1 : words1.all (fun c => isCode c || c.before args0 about1) = true := by decide +kernel
theorem w_tables : (allAtoms (Jvm.Cond.code x code maxLocals ret :: tables_1)).before args0 about1 = true := by
  rw [allAtoms_all]
  show words1.all (fun c => c.before args0 about1) = true
  refine all_split ?_ w_codes
  rw [w_t1]
set_option maxRecDepth 65536 in
theorem w_case : (Jvm.Cond.and given_1 narrow_1).before args0 about1 = true := by decide +kernel
theorem w_applies : (headSpec (Jvm.Cond.code x code maxLocals ret :: tables_1) room_1).applies x e0.platform about1 = true :=
  (Spec.applies_iff w_frames).mpr ⟨w_running, w_runnable, w_alone, w_named, w_hears, w_ripe, w_room, w_tables⟩
theorem atStart : AtStart classFile x code maxLocals ret World_1 tables_1 room_1 Calls_1 rest_1 Pre_1 launch0 p0 e0 about1 theMethod args0 below0 :=
  ⟨lists_1, trivial, launch0.admits_env _ _ _, launch0.least_env, fairChoices_fair.cas, fairChoices_fair.clock, w_frames, w_args, w_heap, w_applies, trivial, trivial, w_case⟩
end start1
theorem witness_1 : WitnessClaimed_1 := ⟨start1.p0, start1.e0, start1.about1, start1.theMethod, start1.args0, start1.below0, start1.atStart⟩
end Jvm.Pilot.@@N@@
