import JvmDerived
import JvmDerived.Pilot.@@N@@Statement
import JvmDerived.Pilot.@@N@@Code
set_option linter.unusedVariables false
set_option linter.unusedSimpArgs false
namespace Jvm.RoadKit
open Sem ClassFile Op Lib Jvm.Stand Jvm.Free Jvm.LawKit
section New
variable {p : Program} {l : Launch} {e : Env} {R : Room} {s : State} {m : MethodId} {args : Array Value} {below : List Frame} {meth : Method} {c : Code} {T : State} {locs : List Loc} {cells slots : Nat}
theorem retI (X : Stand p l e R s m args below meth c T locs cells slots) (hx : p.tables.exec = Jvm.exec) {pc : Nat} {Ls : Array Slot} {z : Int32} {rest : List Value} (hret : meth.sig.returnType = some .int) (hd : decode c.code pc = .ok (.ireturn, 1)) {fs : List Frame}
    (hl : ∀ (f : JFrame) (acts : List Action), f.method = m → f.locked = none → f.entered = [] → (doReturn e (T.setTop f) acts (some (.int z))).1 = T.setFrames fs) : Steps p.tables e below (T.setTop (mkF m pc Ls (.int z :: rest))) (T.setFrames fs) := by
  have hm' : T.vm.method? m = some meth := X.method'
  have hn : narrow .int (.int z) = .int z := rfl
  show Steps p.tables e below (T.setTop { method := m, pc := pc, locals := Ls, stack := _ :: rest, locked := none }) _
  jvm_step X.here [X.here.top, hx, hd, hm', hret, hn]
  first | (intro acts; rw [hl _ acts rfl rfl rfl]) | rw [hl _ _ rfl rfl rfl]
  exact Steps.refl _
end New
end Jvm.RoadKit
namespace Jvm.Pilot.@@N@@
open Jvm Jvm.ClassFile Sem Op Lib Jvm.Free Jvm.Stand Jvm.LawKit Jvm.RoadKit Bundle Jvm.Pilot.@@N@@.Jvm.D
/-- what a walk owes from the state S on -/
def own_G (p : Program) (e : Env) (below : List Frame) (R : State → Outcome → Prop) (S : State) : Prop := ∃ t o, Steps p.tables e below S t ∧ R t o
theorem own_back {p : Program} {e : Env} {below : List Frame} {R : State → Outcome → Prop} {S S' : State} (k : ∀ t, Steps p.tables e below S' t → Steps p.tables e below S t) (h : own_G p e below R S') : own_G p e below R S := by
  obtain ⟨t, o, h1, h2⟩ := h
  exact ⟨t, o, k t h1, h2⟩
theorem own_open {p : Program} {e : Env} {below : List Frame} {R : State → Outcome → Prop} {S S' : State} (k : ∀ t, Steps p.tables e below S' t → Steps p.tables e below S t) (h : own_G p e below R S') : ∃ t o, Steps p.tables e below S t ∧ R t o := own_back k h
theorem own_done {p : Program} {e : Env} {below : List Frame} {R : State → Outcome → Prop} {S : State} (h : ∃ t o, Steps p.tables e below S t ∧ R t o) : own_G p e below R S := h
/-- an array of ints or chars at a: n places, place i holds f i -/
def own_I (Z : State) (h : Heap) (a : Addr) (ty : FieldType) (n : Nat) (f : Nat → Int32) : Prop := n < 2147483648 ∧ ∃ c : Cell, Arr Z h a c ty ∧ c.slots.size = n ∧ ∀ i, i < n → c.slots[i]? = some (.int (f i))
section OwnI
variable {Z : State} {h h' : Heap} {a b : Addr} {ty : FieldType} {n : Nat} {f : Nat → Int32} {sl : Nat} {v : Value} {ws : List Addr}
theorem own_I.lt (F : own_I Z h a ty n f) : a < h.size := by obtain ⟨-, c, A, -⟩ := F; exact A.lt
theorem own_I.ext (F : own_I Z h a ty n f) (E : Ext h h') : own_I Z h' a ty n f := by obtain ⟨q, c, A, r⟩ := F; exact ⟨q, c, A.ext E, r⟩
theorem own_I.other (F : own_I Z h b ty n f) (W : Wr h h' a sl v) (q : b ≠ a) : own_I Z h' b ty n f := by obtain ⟨q', c, A, r⟩ := F; exact ⟨q', c, A.other W q, r⟩
theorem own_I.keep (F : own_I Z h a ty n f) (K : Keep h h' ws) (q : a ∉ ws) : own_I Z h' a ty n f := by obtain ⟨q', c, A, r⟩ := F; exact ⟨q', c, ⟨K.2.1 a c A.1 q, A.2⟩, r⟩
theorem own_I.new {k : ClassId} {z : Int32} (A : Arr Z h a (newA k ty z) ty) (hd : defaultValue ty = .int 0) (q : ¬ z < 0) (e : z.toNatClampNeg = n) : own_I Z h a ty n (fun _ => 0) := by
  subst e
  exact ⟨(back32 q).2, _, A, sz_new _ _ _, fun i hi => by rw [← hd]; simp [newA, hi]⟩
theorem own_I.set {x : Int32} (F : own_I Z h a ty n f) (W : Wr h h' a sl (.int x)) (q : sl < n) : own_I Z h' a ty n (fun i => if i = sl then x else f i) := by
  obtain ⟨q', c, A, S, H⟩ := F
  refine ⟨q', _, A.same W, by rw [sz_set]; exact S, fun i hi => ?_⟩
  by_cases u : i = sl
  · subst u
    simp [Cell.setSlot, S, hi]
  · have e := H i hi
    simp only [Cell.setSlot, if_neg u]
    rw [Array.getElem?_setIfInBounds_ne (Ne.symm u)]
    exact e
theorem own_I.cong {g : Nat → Int32} (F : own_I Z h a ty n f) (q : ∀ i, i < n → f i = g i) : own_I Z h a ty n g := by
  obtain ⟨q', c, A, S, H⟩ := F
  exact ⟨q', c, A, S, fun i hi => by rw [← q i hi]; exact H i hi⟩
end OwnI
section OwnS
variable {p : Program} {l : Launch} {e : Env} {R : Room} {s : State} {m : MethodId} {args : Array Value} {below : List Frame} {meth : Method} {c : Code} {T : State} {locs : List Loc} {cells slots : Nat} {Z : State} {a0 : Array Value} {h : Heap}
theorem own_newI (X : Stand p l e R s m args below meth c T locs cells slots) (hx : p.tables.exec = Jvm.exec) (hZ : Z.Warmed39 s.vm) (w : (Cond.arrayClass .int).before a0 Z = true) (eT : T.heap = h) {g : JFrame} (hg : g.method = m) (hd : decode c.code g.pc = .ok (.newarray .int, 2)) {n : Int32} {rest : List Value} (hs : g.stack = .int n :: rest)
    (hn : ¬ n < 0) {k : Nat} (hk : n.toNatClampNeg = k) {cap : Nat} (hcap : k ≤ cap) (hb : cap * 8 ≤ 536870912) (hc : cells + 1 ≤ R.cells) (hl : slots + cap ≤ R.slots) :
    ∃ T' h', Stand p l e R s m args below meth c T' locs (cells + 1) (slots + cap) ∧ T'.heap = h' ∧ Ext h h' ∧ own_I Z h' h.size .int k (fun _ => 0) ∧
      ∀ target, Steps p.tables e below (T'.setTop { g with pc := g.pc + 2, stack := .ref h.size :: rest }) target → Steps p.tables e below (T.setTop g) target := by
  obtain ⟨T', h', cA, X', e', E, A, st⟩ := newP X hx hZ (aty := .int) w eT hg hd hs hn (cap := cap) (by omega) hb hc hl
  exact ⟨T', h', X', e', E, own_I.new A rfl hn hk, st⟩
theorem own_newC (X : Stand p l e R s m args below meth c T locs cells slots) (hx : p.tables.exec = Jvm.exec) (hZ : Z.Warmed39 s.vm) (w : (Cond.arrayClass .char).before a0 Z = true) (eT : T.heap = h) {g : JFrame} (hg : g.method = m) (hd : decode c.code g.pc = .ok (.newarray .char, 2)) {n : Int32} {rest : List Value} (hs : g.stack = .int n :: rest)
    (hn : ¬ n < 0) {k : Nat} (hk : n.toNatClampNeg = k) {cap : Nat} (hcap : k ≤ cap) (hb : cap * 8 ≤ 536870912) (hc : cells + 1 ≤ R.cells) (hl : slots + cap ≤ R.slots) :
    ∃ T' h', Stand p l e R s m args below meth c T' locs (cells + 1) (slots + cap) ∧ T'.heap = h' ∧ Ext h h' ∧ own_I Z h' h.size .char k (fun _ => 0) ∧
      ∀ target, Steps p.tables e below (T'.setTop { g with pc := g.pc + 2, stack := .ref h.size :: rest }) target → Steps p.tables e below (T.setTop g) target := by
  obtain ⟨T', h', cA, X', e', E, A, st⟩ := newP X hx hZ (aty := .char) w eT hg hd hs hn (cap := cap) (by omega) hb hc hl
  exact ⟨T', h', X', e', E, own_I.new A rfl hn hk, st⟩
theorem own_stI (X : Stand p l e R s m args below meth c T locs cells slots) (hx : p.tables.exec = Jvm.exec) (hZ : Z.Warmed39 s.vm) (eT : T.heap = h) {a : Addr} {n : Nat} {f : Nat → Int32} (A : own_I Z h a .int n f) {j x : Int32} {k : Nat} (h0 : ¬ j < 0) (hk : j.toNatClampNeg = k) (hkn : k < n) {g : JFrame} (hg : g.method = m) {rest : List Value} (hs : g.stack = .int x :: .int j :: .ref a :: rest) (hd : decode c.code g.pc = .ok (.iastore, 1)) :
    ∃ T' h', Stand p l e R s m args below meth c T' (locs ++ [⟨a, k⟩]) cells slots ∧ T'.heap = h' ∧ Wr h h' a k (.int x) ∧ own_I Z h' a .int n (fun i => if i = k then x else f i) ∧ ∀ target, Steps p.tables e below (T'.setTop { g with pc := g.pc + 1, stack := rest }) target → Steps p.tables e below (T.setTop g) target := by
  have A' := A
  obtain ⟨q', c, A, S, H⟩ := A
  subst hk
  obtain ⟨T', h', X', e', W, st⟩ := stI X hx hZ eT A (j := j) (x := x) (fun q => q.elim h0 (fun q => by omega)) hg hs hd
  exact ⟨T', h', X', e', W, A'.set W hkn, st⟩
theorem own_stC (X : Stand p l e R s m args below meth c T locs cells slots) (hx : p.tables.exec = Jvm.exec) (hZ : Z.Warmed39 s.vm) (eT : T.heap = h) {a : Addr} {n : Nat} {f : Nat → Int32} (A : own_I Z h a .char n f) {j x : Int32} {k : Nat} (h0 : ¬ j < 0) (hk : j.toNatClampNeg = k) (hkn : k < n) {g : JFrame} (hg : g.method = m) {rest : List Value} (hs : g.stack = .int x :: .int j :: .ref a :: rest) (hd : decode c.code g.pc = .ok (.castore, 1)) :
    ∃ T' h', Stand p l e R s m args below meth c T' (locs ++ [⟨a, k⟩]) cells slots ∧ T'.heap = h' ∧ Wr h h' a k (.int (nar .char x)) ∧ own_I Z h' a .char n (fun i => if i = k then nar .char x else f i) ∧ ∀ target, Steps p.tables e below (T'.setTop { g with pc := g.pc + 1, stack := rest }) target → Steps p.tables e below (T.setTop g) target := by
  have A' := A
  obtain ⟨q', c, A, S, H⟩ := A
  subst hk
  obtain ⟨T', h', X', e', W, st⟩ := stC X hx hZ eT A (j := j) (x := x) (fun q => q.elim h0 (fun q => by omega)) hg hs hd
  exact ⟨T', h', X', e', W, A'.set W hkn, st⟩
theorem own_ldI (X : Stand p l e R s m args below meth c T locs cells slots) (hx : p.tables.exec = Jvm.exec) (hZ : Z.Warmed39 s.vm) (eT : T.heap = h) {a : Addr} {n : Nat} {f : Nat → Int32} (A : own_I Z h a .int n f) {j w : Int32} {k : Nat} (h0 : ¬ j < 0) (hk : j.toNatClampNeg = k) (hkn : k < n) (hw : f k = w) {g : JFrame} (hg : g.method = m) {rest : List Value} (hs : g.stack = .int j :: .ref a :: rest) (hd : decode c.code g.pc = .ok (.iaload, 1)) :
    ∀ target, Steps p.tables e below (T.setTop { g with pc := g.pc + 1, stack := .int w :: rest }) target → Steps p.tables e below (T.setTop g) target := by
  obtain ⟨q', c, A, S, H⟩ := A
  subst hk
  exact fun t k => X.iaload hx (j := j) (v := .int w) (by rw [eT]; exact A.1) (State.isArrayOf_alike hZ.alike A.2.1) A.2.2 (fun q => q.elim h0 (fun q => by omega)) (by rw [H _ hkn, hw]) hg hs hd t k
theorem own_ldC (X : Stand p l e R s m args below meth c T locs cells slots) (hx : p.tables.exec = Jvm.exec) (hZ : Z.Warmed39 s.vm) (eT : T.heap = h) {a : Addr} {n : Nat} {f : Nat → Int32} (A : own_I Z h a .char n f) {j w : Int32} {k : Nat} (h0 : ¬ j < 0) (hk : j.toNatClampNeg = k) (hkn : k < n) (hw : f k = w) {g : JFrame} (hg : g.method = m) {rest : List Value} (hs : g.stack = .int j :: .ref a :: rest) (hd : decode c.code g.pc = .ok (.caload, 1)) :
    ∀ target, Steps p.tables e below (T.setTop { g with pc := g.pc + 1, stack := .int w :: rest }) target → Steps p.tables e below (T.setTop g) target := by
  obtain ⟨q', c, A, S, H⟩ := A
  subst hk
  exact fun t k => X.caload hx (j := j) (v := .int w) (by rw [eT]; exact A.1) (State.isArrayOf_alike hZ.alike A.2.1) A.2.2 (fun q => q.elim h0 (fun q => by omega)) (by rw [H _ hkn, hw]) hg hs hd t k
end OwnS
theorem own_dupX2 {tb : Tables} [Ours tb] {e : Env} {below : List Frame} {T target : State} {m : MethodId} {c : Code} {g : JFrame} (h : At T m c below) (hx : tb.exec = Jvm.exec) (hg : g.method = m) {x y z : Value} {rest : List Value} (hd : decode c.code g.pc = .ok (.dup_x2, 1)) (hs : g.stack = x :: y :: z :: rest) (hc : x.category = 1) (hc' : y.category = 1) (hc'' : z.category = 1)
    (hr : Steps tb e below (T.setTop { g with pc := g.pc + 1, stack := x :: y :: z :: x :: rest }) target) : Steps tb e below (T.setTop g) target := by
  subst hg
  jvm_step h [h.top, hx, hd, hs, hc, hc', hc'']
  exact hr
theorem own_len {p : Program} {l : Launch} {e : Env} {R : Room} {s : State} {m : MethodId} {args : Array Value} {below : List Frame} {meth : Method} {c : Code} {T : State} {locs : List Loc} {cells slots : Nat} {Z : State} {h : Heap} (X : Stand p l e R s m args below meth c T locs cells slots) (hx : p.tables.exec = Jvm.exec) (hZ : Z.Warmed39 s.vm) (eT : T.heap = h) {a : Addr} {ty : FieldType} {n : Nat} {f : Nat → Int32} (A : own_I Z h a ty n f) {z : Int32} (h0 : ¬ z < 0) (hk : z.toNatClampNeg = n) {g : JFrame} (hg : g.method = m) {rest : List Value} (hs : g.stack = .ref a :: rest) (hd : decode c.code g.pc = .ok (.arraylength, 1)) :
    ∀ target, Steps p.tables e below (T.setTop { g with pc := g.pc + 1, stack := .int z :: rest }) target → Steps p.tables e below (T.setTop g) target := by
  obtain ⟨q', c, A, S, H⟩ := A
  intro t k
  refine X.arraylength hx (by rw [eT]; exact A.1) (State.isArrayOf_alike hZ.alike A.2.1) hg hs hd t ?_
  rw [len_of (S.trans hk.symm) h0]
  exact k
theorem own_nn (n : Nat) (h : n < 2147483648) : ¬ (Int32.ofNat n < 0) := by
  rw [Int32.lt_iff_toInt_lt, toInt_of rfl (by omega)]
  have e0 : (0 : Int32).toInt = 0 := rfl
  omega
theorem own_arv {Z : State} {h : Heap} {a : Addr} {n : Nat} {f : Nat → Int32} (A : own_I Z h a .int n f) : ∃ k, Arv Z h a k .int (Int32.ofNat n) ((List.range n).map fun i => Value.int (f i)) (.int 0) := by
  obtain ⟨q, c, A, S, H⟩ := A
  refine ⟨c.cls, c, A, rfl, ?_, own_nn n q, ?_, ?_⟩
  · rw [S, clamp_of rfl (by omega)]
  · intro k hk
    rw [S] at hk
    rw [H k hk]
    simp [List.getD_eq_getElem?_getD, hk]
  · intro i hi
    rw [S] at hi
    simp [List.getD_eq_getElem?_getD, hi, fits]
theorem own_of {Z : State} {h : Heap} {a : Addr} {k : ClassId} {ty : FieldType} {z : Int32} {vs : List Value} {dv : Value} {n : Nat} {f : Nat → Int32} (V : Arv Z h a k ty z vs dv) (hz : z.toNatClampNeg = n) (hv : ∀ i, i < n → vs.getD i dv = .int (f i)) : own_I Z h a ty n f := by
  obtain ⟨c, A, -, S, M, H, -⟩ := V
  exact ⟨by rw [← hz]; exact (back32 M).2, c, A, S.trans hz, fun i hi => by rw [H i (by rw [S, hz]; exact hi), hv i hi]⟩
theorem own_copy {p : Program} {l : Launch} {e : Env} {R : Room} {s : State} {m : MethodId} {args : Array Value} {below : List Frame} {meth : Method} {c : Code} {T : State} {locs : List Loc} {cells slots : Nat} {Z : State} {a0 : Array Value} {h : Heap} (X : Stand p l e R s m args below meth c T locs cells slots) (hx : p.tables.exec = Jvm.exec) (hZ : Z.Warmed39 s.vm) {own : String} {index : Nat} (hown : s.vm.findClass own = some m.cls)
    (w1 : (Cond.methodLink own index Jvm.Stand.acN).before a0 Z = true) (w2 : (Cond.native Jvm.Stand.acN).before a0 Z = true) (w3 : (Cond.static Jvm.Stand.acN).before a0 Z = true) (w4 : (Cond.initialized "java/lang/System").before a0 Z = true) (eT : T.heap = h)
    {a b : Addr} {n n1 : Nat} {f f2 : Nat → Int32} (A : own_I Z h a .int n1 f) (B : own_I Z h b .int n f2) {nn : Int32} (hz : ¬ nn < 0) (hnn : nn.toNatClampNeg = n) (hle : n ≤ n1) {n0 : Nat} (N : Fr n0 locs) (ge : n0 ≤ b)
    {g : JFrame} (hg : g.method = m) (hsize : g.locals.size = c.maxLocals) {rest : List Value} (hs : g.stack = .int nn :: .int 0 :: .ref b :: .int 0 :: .ref a :: rest) (hd : decode c.code g.pc = .ok (.invokestatic index, 3))
    (hf : 1 ≤ R.frames) {W : Nat} (hW : 2 * g.monitorRoom + (rest.map fun v => v.category).sum ≤ W) (hlo : W + (nativeFrameWords "java/lang/System" "arraycopy" 5 + 11) ≤ R.locals) :
    ∃ T' h' L, Stand p l e R s m args below meth c T' L cells slots ∧ T'.heap = h' ∧ Fr n0 L ∧ Keep h h' [b] ∧ own_I Z h' b .int n f ∧
      ∀ target, Steps p.tables e below (T'.setTop { g with pc := g.pc + 3, stack := rest }) target → Steps p.tables e below (T.setTop g) target := by
  have hn1 := A.1
  have hn2 := B.1
  obtain ⟨k1, V1⟩ := own_arv A
  obtain ⟨k2, V2⟩ := own_arv B
  have e0 : (0 : Int32).toNatClampNeg = 0 := rfl
  have e1 : (Int32.ofNat n1).toNatClampNeg = n1 := clamp_of rfl (by omega)
  have e2 : (Int32.ofNat n).toNatClampNeg = n := clamp_of rfl (by omega)
  obtain ⟨T', h', L, X', e', N', K', V', st⟩ := cpA X hx hZ hown w1 w2 w3 w4 eT V1 V2 (Or.inl ⟨rfl, rfl⟩) (sp := 0) (dp := 0) (nn := nn) (by decide) (by decide) hz (by rw [e0, e1, hnn]; omega) (by rw [e0, e2, hnn]; omega) rfl (by rw [e0, hnn]; simp) N ge hg hsize hs hd hf hW hlo
  refine ⟨T', h', L, X', e', N', K', own_of V' e2 (fun i hi => ?_), st⟩
  rw [e0, hnn]
  have hi1 : i < n1 := by omega
  simp only [List.take_zero, List.nil_append, List.getD_eq_getElem?_getD]
  rw [List.getElem?_append_left (by simpa using hi)]
  simp [hi, hi1]
theorem own_case {p : Program} {e : Env} {below : List Frame} {R : State → Outcome → Prop} {S S1 S2 : State} {P : Prop} (h1 : P → own_G p e below R S1) (h2 : ¬ P → own_G p e below R S2) (h : (P → own_G p e below R S1) → (¬ P → own_G p e below R S2) → own_G p e below R S) : own_G p e below R S := h h1 h2
theorem own_natOf (x : Int32) (h : 0 ≤ x.toInt) : ∃ n : Nat, x = Int32.ofNat n ∧ (n : Int) = x.toInt ∧ n < 2147483648 := by
  have h1 := x.toInt_lt
  refine ⟨x.toInt.toNat, Int32.toInt_inj.mp ?_, by omega, by omega⟩
  rw [toInt_of rfl (by omega)]
  omega
theorem own_ltn {a b : Nat} (ha : a < 2147483648) (hb : b < 2147483648) : (Int32.ofNat a < Int32.ofNat b) ↔ a < b := by
  rw [Int32.lt_iff_toInt_lt, toInt_of rfl (by omega), toInt_of rfl (by omega)]
  omega
theorem own_eqn {a b : Nat} (ha : a < 2147483648) (hb : b < 2147483648) : (Int32.ofNat a = Int32.ofNat b) ↔ a = b := by
  rw [← Int32.toInt_inj, toInt_of rfl (by omega), toInt_of rfl (by omega)]
  omega
theorem own_cl1 (a : Nat) (h : a < 1000) : (Int32.ofNat a + 1).toNatClampNeg = a + 1 := by
  rw [← inc_ofNat]; exact clamp_of rfl (by omega)
theorem own_nn1 (a : Nat) (h : a < 1000) : ¬ (Int32.ofNat a + 1 < 0) := by
  rw [← inc_ofNat]; exact own_nn _ (by omega)
/-- how many j below i have W j + 1 = k -/
def own_e1 (W : Nat → Nat) : Nat → Nat → Nat
  | 0, _ => 0
  | i + 1, k => own_e1 W i k + (if W i + 1 = k then 1 else 0)
/-- how many j below i have W j below k -/
def own_lt (W : Nat → Nat) : Nat → Nat → Nat
  | 0, _ => 0
  | i + 1, k => own_lt W i k + (if W i < k then 1 else 0)
def own_g (W : Nat → Nat) (S i k : Nat) : Nat := if k ≤ i then own_lt W S k else own_e1 W S k
theorem own_e1_le (W : Nat → Nat) (i k : Nat) : own_e1 W i k ≤ i := by
  induction i with
  | zero => exact Nat.le_refl 0
  | succ i ih => simp only [own_e1]; split <;> omega
theorem own_lt_le (W : Nat → Nat) (i k : Nat) : own_lt W i k ≤ i := by
  induction i with
  | zero => exact Nat.le_refl 0
  | succ i ih => simp only [own_lt]; split <;> omega
theorem own_lt_zero (W : Nat → Nat) (i : Nat) : own_lt W i 0 = 0 := by
  induction i with
  | zero => rfl
  | succ i ih => simp only [own_lt, ih]; rw [if_neg (by omega)]
theorem own_e1_zero (W : Nat → Nat) (i : Nat) : own_e1 W i 0 = 0 := by
  induction i with
  | zero => rfl
  | succ i ih => simp only [own_e1, ih]; rw [if_neg (by omega)]
theorem own_lt_succ (W : Nat → Nat) (i k : Nat) : own_lt W i (k + 1) = own_lt W i k + own_e1 W i (k + 1) := by
  induction i with
  | zero => rfl
  | succ i ih =>
    simp only [own_lt, own_e1, ih]
    by_cases h1 : W i < k
    · rw [if_pos (by omega), if_pos h1, if_neg (by omega)]; omega
    · by_cases h2 : W i = k
      · rw [if_pos (by omega), if_neg h1, if_pos (by omega)]; omega
      · rw [if_neg (by omega), if_neg h1, if_neg (by omega)]; omega
theorem own_e1_mono (W : Nat → Nat) (k i : Nat) : ∀ t, own_e1 W i k ≤ own_e1 W (i + t) k := by
  intro t
  induction t with
  | zero => exact Nat.le_refl _
  | succ t ih => rw [← Nat.add_assoc]; simp only [own_e1]; omega
theorem own_bound (W : Nat → Nat) (S i : Nat) (h : i < S) : own_lt W S (W i) + own_e1 W i (W i + 1) < S := by
  have h1 := own_lt_succ W S (W i)
  have h2 := own_lt_le W S (W i + 1)
  have h3 : own_e1 W (i + 1) (W i + 1) = own_e1 W i (W i + 1) + 1 := by simp only [own_e1]; rw [if_pos trivial]
  obtain ⟨t, rfl⟩ : ∃ t, S = i + 1 + t := ⟨S - (i + 1), by omega⟩
  have h4 := own_e1_mono W (W i + 1) (i + 1) t
  omega
theorem own_step1 (W : Nat → Nat) (i k : Nat) : (if k = W i + 1 then Int32.ofNat (own_e1 W i (W i + 1)) + 1 else Int32.ofNat (own_e1 W i k)) = Int32.ofNat (own_e1 W (i + 1) k) := by
  simp only [own_e1]
  by_cases h : k = W i + 1
  · subst h
    rw [if_pos rfl, if_pos rfl, inc_ofNat]
  · rw [if_neg h, if_neg (fun q => h q.symm), Nat.add_zero]
theorem own_step2 (W : Nat → Nat) (S i k : Nat) : (if k = i + 1 then Int32.ofNat (own_g W S i (i + 1)) + Int32.ofNat (own_g W S i i) else Int32.ofNat (own_g W S i k)) = Int32.ofNat (own_g W S (i + 1) k) := by
  by_cases h : k = i + 1
  · subst h
    rw [if_pos rfl, ← Int32.ofNat_add]
    congr 1
    simp only [own_g]
    rw [if_neg (by omega), if_pos (Nat.le_refl i), if_pos (Nat.le_refl (i + 1)), own_lt_succ]
    omega
  · rw [if_neg h]
    congr 1
    simp only [own_g]
    by_cases h2 : k ≤ i
    · rw [if_pos h2, if_pos (by omega)]
    · rw [if_neg h2, if_neg (by omega)]
theorem own_step3 (W : Nat → Nat) (S i w : Nat) : (if w = W i then Int32.ofNat (own_lt W S (W i) + own_e1 W i (W i + 1)) + 1 else Int32.ofNat (own_lt W S w + own_e1 W i (w + 1))) = Int32.ofNat (own_lt W S w + own_e1 W (i + 1) (w + 1)) := by
  simp only [own_e1]
  by_cases h : w = W i
  · subst h
    rw [if_pos rfl, if_pos rfl, ← inc_ofNat, Nat.add_assoc]
  · rw [if_neg h, if_neg (fun q => h (by omega))]; rfl
def own_min (x y : Int32) : Int32 := if y < x then y else x
def own_hold (x y : Int32) : Int32 := if x < y then 1 else 0
theorem own_minN (N : Nat) (h : N < 1000) : own_min (Int32.ofNat (N + 1)) (Int32.ofNat N) = Int32.ofNat N := by
  unfold own_min
  rw [if_pos ((own_ltn (by omega) (by omega)).mpr (by omega))]
def own_w4 (a b c d : Nat) (i : Nat) : Nat := if i = 3 then d else if i = 2 then c else if i = 1 then b else if i = 0 then a else 0
def own_any (S P a b c d : Nat) : Prop := (0 < S ∧ a = P) ∨ (1 < S ∧ b = P) ∨ (2 < S ∧ c = P) ∨ (3 < S ∧ d = P)
theorem own_has (S P a b c d : Nat) (h : S ≤ 4) : (0 < own_e1 (own_w4 a b c d) S (P + 1)) ↔ own_any S P a b c d := by
  have w0 : own_w4 a b c d 0 = a := rfl
  have w1 : own_w4 a b c d 1 = b := rfl
  have w2 : own_w4 a b c d 2 = c := rfl
  have w3 : own_w4 a b c d 3 = d := rfl
  unfold own_any
  match S, h with
  | 0, _ => simp only [own_e1]; omega
  | 1, _ => simp only [own_e1, w0]; split <;> omega
  | 2, _ => simp only [own_e1, w0, w1]; split <;> split <;> omega
  | 3, _ => simp only [own_e1, w0, w1, w2]; split <;> split <;> split <;> omega
  | 4, _ => simp only [own_e1, w0, w1, w2, w3]; split <;> split <;> split <;> split <;> omega
theorem own_fin (S P a b c d : Nat) (h : S ≤ 4) : (Int32.ofNat (own_lt (own_w4 a b c d) S P) < Int32.ofNat (own_lt (own_w4 a b c d) S (P + 1))) ↔ own_any S P a b c d := by
  have h1 := own_lt_le (own_w4 a b c d) S P
  have h2 := own_lt_le (own_w4 a b c d) S (P + 1)
  rw [own_ltn (by omega) (by omega), own_lt_succ, ← own_has S P a b c d h]
  omega
theorem own_fin1 (S P a b c d : Nat) (h : S ≤ 4) (q : own_any S P a b c d) : own_hold (Int32.ofNat (own_lt (own_w4 a b c d) S P)) (Int32.ofNat (own_lt (own_w4 a b c d) S (P + 1))) = (1 : Int32) := by
  unfold own_hold; rw [if_pos ((own_fin S P a b c d h).mpr q)]
theorem own_fin0 (S P a b c d : Nat) (h : S ≤ 4) (q : ¬ own_any S P a b c d) : own_hold (Int32.ofNat (own_lt (own_w4 a b c d) S P)) (Int32.ofNat (own_lt (own_w4 a b c d) S (P + 1))) = (0 : Int32) := by
  unfold own_hold; rw [if_neg (fun z => q ((own_fin S P a b c d h).mp z))]
theorem d4_0 : decode jdk_29_method_69_code 0 = .ok (.iload_n 0, 1) := by decide +kernel
theorem d4_1 : decode jdk_29_method_69_code 1 = .ok (.iload_n 1, 1) := by decide +kernel
theorem d4_2 : decode jdk_29_method_69_code 2 = .ok (.if_icmp .gt 7, 3) := by decide +kernel
theorem d4_5 : decode jdk_29_method_69_code 5 = .ok (.iload_n 0, 1) := by decide +kernel
theorem d4_6 : decode jdk_29_method_69_code 6 = .ok (.goto 4, 3) := by decide +kernel
theorem d4_9 : decode jdk_29_method_69_code 9 = .ok (.iload_n 1, 1) := by decide +kernel
theorem d4_10 : decode jdk_29_method_69_code 10 = .ok (.ireturn, 1) := by decide +kernel
theorem ef_4 (m : MethodId) (x0 : Int32) (x1 : Int32) : entryFrame m #[(.int x0), (.int x1)] 2 = mkF m 0 #[.val (.int x0), .val (.int x1)] [] := by first | (simp [entryFrame, mkF, argsToLocals, Value.category]; done) | rfl
def Q4 (Z : State) (p1 : Int32) (p2 : Int32) (h0 : Heap) (n0 : Nat) (v : Option Value) (h : Heap) (L : List Loc) : Prop := v = some (.int (own_min p1 p2)) ∧ Fr n0 L ∧ h = h0
set_option maxRecDepth 65536 in
set_option maxHeartbeats 40000000 in
theorem rm4 (l : Launch) (Z : State) (a0 : Array Value) (hw : ∀ d ∈ tables_1, d.before a0 Z = true) (ws : List Jvm.Cond) (p1 : Int32) (p2 : Int32) (h0 : Heap) (n0 : Nat) (Z0 : n0 ≤ h0.size) :
    MetFree l (⟨"java/lang/Math", "min", "(II)I"⟩ : MethodName) (head1 (Jvm.Cond.code (⟨"java/lang/Math", "min", "(II)I"⟩ : MethodName) jdk_29_method_69_code 2 (some .int) :: ws) ({ frames := 0, cells := 0, slots := 0, locals := 0 } : Room)) (fun a U => a = #[(.int p1), (.int p2)] ∧ Z.Warmed39 U.vm ∧ U.heap = h0) (fun _ _ _ _ _ => True) (fun _ U o U' => ∃ v L, o = .returned v ∧ Q4 Z p1 p2 h0 n0 v U'.heap L ∧ FrameEnd U o U' L ({ frames := 0, cells := 0, slots := 0, locals := 0 } : Room).cells ({ frames := 0, cells := 0, slots := 0, locals := 0 } : Room).slots) := by
  refine MetFree.of_bodySF (Jvm.Free.JP.mathPlain rfl (by decide +kernel)) hisR ?_
  intro p e s m args below meth c s₁ Bd hml0 hP hK
  obtain ⟨rfl, hZ, hh⟩ := hP
  have hx := Bd.exec
  have hby := Bd.bytes
  have hml : c.maxLocals = 2 := hml0
  have hown : s.vm.findClass "java/lang/Math" = some m.cls := findClass_of_methodNamed Bd.named
  have hnm := (name_of_methodNamed Bd.named Bd.method).1
  have X0 : Stand p l e ({ frames := 0, cells := 0, slots := 0, locals := 0 } : Room) s m #[(.int p1), (.int p2)] below meth c s₁ [] 0 0 := Stand.of_body Bd
  have e0 : s₁.heap = h0 := by rw [← hh, Bd.state]; rfl
  have N0 := Fr.nil n0
  refine own_open (S' := s₁.setTop (mkF m 0 #[.val (.int p1), .val (.int p2)] [])) (fun t k => castTop (ef_4 m p1 p2) k) ?_
  refine own_back (S' := s₁.setTop (mkF m 1 #[.val (.int p1), .val (.int p2)] [(.int p1)])) (fun _ k => XS.iloadN X0.here hx rfl (hb hby d4_0) rfl k) ?_
  refine own_back (S' := s₁.setTop (mkF m 2 #[.val (.int p1), .val (.int p2)] [(.int p2), (.int p1)])) (fun _ k => XS.iloadN X0.here hx rfl (hb hby d4_1) rfl k) ?_
  by_cases hc2_1 : p2 < p1
  ·
    refine own_back (S' := s₁.setTop (mkF m 9 #[.val (.int p1), .val (.int p2)] [])) (fun _ k => XS.icmpYes X0.here hx rfl (pc0 := 2) (pc' := 9) rfl (hb hby d4_2) rfl (tlt hc2_1).2.2.1 (by decide) (by decide) k) ?_
    refine own_back (S' := s₁.setTop (mkF m 10 #[.val (.int p1), .val (.int p2)] [(.int p2)])) (fun _ k => XS.iloadN X0.here hx rfl (hb hby d4_9) rfl k) ?_
    obtain ⟨fs, hr, hrun, hended, hW, hsame⟩ := X0.leave (v := some (.int p2)) (fun h => by rw [Bd.returns] at h; cases h)
    refine own_done ⟨_, _, retI X0 hx Bd.returns (hb hby d4_10) hr, hrun, hended, _, _, rfl, ?_, ⟨_, rfl⟩, hW, hsame.mono (by decide) (by decide)⟩
    show Q4 Z p1 p2 h0 n0 _ s₁.heap _
    rw [e0]
    exact ⟨by unfold own_min; rw [if_pos hc2_1], N0, rfl⟩
  ·
    refine own_back (S' := s₁.setTop (mkF m 5 #[.val (.int p1), .val (.int p2)] [])) (fun _ k => XS.icmpNo X0.here hx rfl (hb hby d4_2) rfl (flt hc2_1).2.2.1 k) ?_
    refine own_back (S' := s₁.setTop (mkF m 6 #[.val (.int p1), .val (.int p2)] [(.int p1)])) (fun _ k => XS.iloadN X0.here hx rfl (hb hby d4_5) rfl k) ?_
    refine own_back (S' := s₁.setTop (mkF m 10 #[.val (.int p1), .val (.int p2)] [(.int p1)])) (fun _ k => XS.goto X0.here hx rfl (pc0 := 6) (pc' := 10) rfl (hb hby d4_6) (by decide) (by decide) k) ?_
    obtain ⟨fs, hr, hrun, hended, hW, hsame⟩ := X0.leave (v := some (.int p1)) (fun h => by rw [Bd.returns] at h; cases h)
    refine own_done ⟨_, _, retI X0 hx Bd.returns (hb hby d4_10) hr, hrun, hended, _, _, rfl, ?_, ⟨_, rfl⟩, hW, hsame.mono (by decide) (by decide)⟩
    show Q4 Z p1 p2 h0 n0 _ s₁.heap _
    rw [e0]
    exact ⟨by unfold own_min; rw [if_neg hc2_1], N0, rfl⟩
theorem pd_0 : parseMethodDescriptor "(II)I" = some ⟨[.int, .int], some .int⟩ := by decide +kernel
theorem d3_0 : decode jdk_65_method_123_code 0 = .ok (.iload_n 1, 1) := by decide +kernel
theorem d3_1 : decode jdk_65_method_123_code 1 = .ok (.aload_n 0, 1) := by decide +kernel
theorem d3_2 : decode jdk_65_method_123_code 2 = .ok (.arraylength, 1) := by decide +kernel
theorem d3_3 : decode jdk_65_method_123_code 3 = .ok (.if_icmp .ne 11, 3) := by decide +kernel
theorem d3_14 : decode jdk_65_method_123_code 14 = .ok (.iload_n 1, 1) := by decide +kernel
theorem d3_15 : decode jdk_65_method_123_code 15 = .ok (.newarray .int, 2) := by decide +kernel
theorem d3_17 : decode jdk_65_method_123_code 17 = .ok (.astore_n 2, 1) := by decide +kernel
theorem d3_18 : decode jdk_65_method_123_code 18 = .ok (.aload_n 0, 1) := by decide +kernel
theorem d3_19 : decode jdk_65_method_123_code 19 = .ok (.iconst 0, 1) := by decide +kernel
theorem d3_20 : decode jdk_65_method_123_code 20 = .ok (.aload_n 2, 1) := by decide +kernel
theorem d3_21 : decode jdk_65_method_123_code 21 = .ok (.iconst 0, 1) := by decide +kernel
theorem d3_22 : decode jdk_65_method_123_code 22 = .ok (.aload_n 0, 1) := by decide +kernel
theorem d3_23 : decode jdk_65_method_123_code 23 = .ok (.arraylength, 1) := by decide +kernel
theorem d3_24 : decode jdk_65_method_123_code 24 = .ok (.iload_n 1, 1) := by decide +kernel
theorem d3_25 : decode jdk_65_method_123_code 25 = .ok (.invokestatic 304, 3) := by decide +kernel
theorem d3_28 : decode jdk_65_method_123_code 28 = .ok (.invokestatic 150, 3) := by decide +kernel
theorem d3_31 : decode jdk_65_method_123_code 31 = .ok (.aload_n 2, 1) := by decide +kernel
theorem d3_32 : decode jdk_65_method_123_code 32 = .ok (.areturn, 1) := by decide +kernel
theorem pn_java_util_Arrays : plainName "java/util/Arrays" = true := by first | (simp [plainName, overriddenIn]; done) | decide +kernel
theorem ef_3 (m : MethodId) (x0 : Addr) (x1 : Int32) : entryFrame m #[(.ref x0), (.int x1)] 3 = mkF m 0 #[.val (.ref x0), .val (.int x1), .unset] [] := by first | (simp [entryFrame, mkF, argsToLocals, Value.category]; done) | rfl
def Q3 (Z : State) (a1 : Addr) (N : Nat) (f : Nat → Int32) (h0 : Heap) (n0 : Nat) (v : Option Value) (h : Heap) (L : List Loc) : Prop := v = some (.ref h0.size) ∧ Fr n0 L ∧ Keep h0 h [] ∧ own_I Z h h0.size .int N f
set_option maxRecDepth 65536 in
set_option maxHeartbeats 40000000 in
theorem rm3 (l : Launch) (Z : State) (a0 : Array Value) (hw : ∀ d ∈ tables_1, d.before a0 Z = true) (ws : List Jvm.Cond) (a1 : Addr) (N : Nat) (f : Nat → Int32) (h0 : Heap) (n0 : Nat) (Z0 : n0 ≤ h0.size) (PA : own_I Z h0 a1 .int (N + 1) f) (hN : N ≤ 4) :
    MetFree l (⟨"java/util/Arrays", "copyOf", "([II)[I"⟩ : MethodName) (head1 (Jvm.Cond.code (⟨"java/util/Arrays", "copyOf", "([II)[I"⟩ : MethodName) jdk_65_method_123_code 3 (some (.array .int)) :: ws) ({ frames := 1, cells := 1, slots := 4, locals := 18 } : Room)) (fun a U => a = #[(.ref a1), (.int (Int32.ofNat N))] ∧ Z.Warmed39 U.vm ∧ U.heap = h0) (fun _ _ _ _ _ => True) (fun _ U o U' => ∃ v L, o = .returned v ∧ Q3 Z a1 N f h0 n0 v U'.heap L ∧ FrameEnd U o U' L ({ frames := 1, cells := 1, slots := 4, locals := 18 } : Room).cells ({ frames := 1, cells := 1, slots := 4, locals := 18 } : Room).slots) := by
  refine MetFree.of_bodySF (plainFor_of_name pn_java_util_Arrays) hisR ?_
  intro p e s m args below meth c s₁ Bd hml0 hP hK
  obtain ⟨rfl, hZ, hh⟩ := hP
  have hx := Bd.exec
  have hby := Bd.bytes
  have hml : c.maxLocals = 3 := hml0
  have hown : s.vm.findClass "java/util/Arrays" = some m.cls := findClass_of_methodNamed Bd.named
  have hnm := (name_of_methodNamed Bd.named Bd.method).1
  have X0 : Stand p l e ({ frames := 1, cells := 1, slots := 4, locals := 18 } : Room) s m #[(.ref a1), (.int (Int32.ofNat N))] below meth c s₁ [] 0 0 := Stand.of_body Bd
  have e0 : s₁.heap = h0 := by rw [← hh, Bd.state]; rfl
  have N0 := Fr.nil n0
  refine own_open (S' := s₁.setTop (mkF m 0 #[.val (.ref a1), .val (.int (Int32.ofNat N)), .unset] [])) (fun t k => castTop (ef_3 m a1 (Int32.ofNat N)) k) ?_
  refine own_back (S' := s₁.setTop (mkF m 1 #[.val (.ref a1), .val (.int (Int32.ofNat N)), .unset] [(.int (Int32.ofNat N))])) (fun _ k => XS.iloadN X0.here hx rfl (hb hby d3_0) rfl k) ?_
  refine own_back (S' := s₁.setTop (mkF m 2 #[.val (.ref a1), .val (.int (Int32.ofNat N)), .unset] [(.ref a1), (.int (Int32.ofNat N))])) (fun _ k => XS.aloadN X0.here hx rfl (hb hby d3_1) rfl rfl k) ?_
  refine own_back (S' := s₁.setTop (mkF m 3 #[.val (.ref a1), .val (.int (Int32.ofNat N)), .unset] [(.int (Int32.ofNat (N + 1))), (.int (Int32.ofNat N))])) (own_len X0 hx hZ e0 PA (z := (Int32.ofNat (N + 1))) (own_nn _ (by omega)) (clamp_of rfl (by omega)) (g := (mkF m 2 #[.val (.ref a1), .val (.int (Int32.ofNat N)), .unset] [(.ref a1), (.int (Int32.ofNat N))])) rfl rfl (hb hby d3_2)) ?_
  refine own_back (S' := s₁.setTop (mkF m 14 #[.val (.ref a1), .val (.int (Int32.ofNat N)), .unset] [])) (fun _ k => XS.icmpYes X0.here hx rfl (pc0 := 3) (pc' := 14) rfl (hb hby d3_3) rfl (feq ((fun q => by have := (own_eqn (by omega) (by omega)).mp q; omega) : ¬ ((Int32.ofNat N) = (Int32.ofNat (N + 1))))).2 (by decide) (by decide) k) ?_
  refine own_back (S' := s₁.setTop (mkF m 15 #[.val (.ref a1), .val (.int (Int32.ofNat N)), .unset] [(.int (Int32.ofNat N))])) (fun _ k => XS.iloadN X0.here hx rfl (hb hby d3_14) rfl k) ?_
  obtain ⟨T1, h1, X1, e1, E1, A1, st1⟩ := own_newI X0 hx hZ (hw _ (List.mem_of_getElem? (i := 0) rfl)) e0 (g := (mkF m 15 #[.val (.ref a1), .val (.int (Int32.ofNat N)), .unset] [(.int (Int32.ofNat N))])) rfl (hb hby d3_15) rfl (own_nn _ (by omega)) (k := N) (clamp_of rfl (by omega)) (cap := 4) (by omega) (by decide) (by decide) (by decide)
  obtain ⟨b1, g1⟩ : ∃ z, z = h0.size := ⟨_, rfl⟩
  rw [← g1] at A1 st1
  have g_b1 : n0 ≤ b1 := Nat.le_trans Z0 (Nat.le_of_eq g1.symm)
  have ne_a1_b1 : a1 ≠ b1 := Nat.ne_of_lt (Nat.lt_of_lt_of_le PA.lt (Nat.le_of_eq g1.symm))
  have Z1 : n0 ≤ h1.size := Nat.le_trans Z0 E1.1
  have A_a1_1 := PA.ext E1
  have sz_b1 : h0.size ≤ b1 := Nat.le_trans (Keep.refl h0 []).1 (Nat.le_of_eq g1.symm)
  have K1 : Keep h0 h1 [] := (Keep.refl h0 []).ext E1
  refine own_back (S' := T1.setTop (mkF m 17 #[.val (.ref a1), .val (.int (Int32.ofNat N)), .unset] [(.ref b1)])) (st1) ?_
  refine own_back (S' := T1.setTop (mkF m 18 #[.val (.ref a1), .val (.int (Int32.ofNat N)), .val (.ref b1)] [])) (fun _ k => XS.astoreN X1.here hx rfl (hb hby d3_17) rfl rfl (l' := #[.val (.ref a1), .val (.int (Int32.ofNat N)), .val (.ref b1)]) rfl k) ?_
  refine own_back (S' := T1.setTop (mkF m 19 #[.val (.ref a1), .val (.int (Int32.ofNat N)), .val (.ref b1)] [(.ref a1)])) (fun _ k => XS.aloadN X1.here hx rfl (hb hby d3_18) rfl rfl k) ?_
  refine own_back (S' := T1.setTop (mkF m 20 #[.val (.ref a1), .val (.int (Int32.ofNat N)), .val (.ref b1)] [(.int (0 : Int32)), (.ref a1)])) (fun _ k => XS.iconst X1.here hx rfl (hb hby d3_19)  k) ?_
  refine own_back (S' := T1.setTop (mkF m 21 #[.val (.ref a1), .val (.int (Int32.ofNat N)), .val (.ref b1)] [(.ref b1), (.int (0 : Int32)), (.ref a1)])) (fun _ k => XS.aloadN X1.here hx rfl (hb hby d3_20) rfl rfl k) ?_
  refine own_back (S' := T1.setTop (mkF m 22 #[.val (.ref a1), .val (.int (Int32.ofNat N)), .val (.ref b1)] [(.int (0 : Int32)), (.ref b1), (.int (0 : Int32)), (.ref a1)])) (fun _ k => XS.iconst X1.here hx rfl (hb hby d3_21)  k) ?_
  refine own_back (S' := T1.setTop (mkF m 23 #[.val (.ref a1), .val (.int (Int32.ofNat N)), .val (.ref b1)] [(.ref a1), (.int (0 : Int32)), (.ref b1), (.int (0 : Int32)), (.ref a1)])) (fun _ k => XS.aloadN X1.here hx rfl (hb hby d3_22) rfl rfl k) ?_
  refine own_back (S' := T1.setTop (mkF m 24 #[.val (.ref a1), .val (.int (Int32.ofNat N)), .val (.ref b1)] [(.int (Int32.ofNat (N + 1))), (.int (0 : Int32)), (.ref b1), (.int (0 : Int32)), (.ref a1)])) (own_len X1 hx hZ e1 A_a1_1 (z := (Int32.ofNat (N + 1))) (own_nn _ (by omega)) (clamp_of rfl (by omega)) (g := (mkF m 23 #[.val (.ref a1), .val (.int (Int32.ofNat N)), .val (.ref b1)] [(.ref a1), (.int (0 : Int32)), (.ref b1), (.int (0 : Int32)), (.ref a1)])) rfl rfl (hb hby d3_23)) ?_
  refine own_back (S' := T1.setTop (mkF m 25 #[.val (.ref a1), .val (.int (Int32.ofNat N)), .val (.ref b1)] [(.int (Int32.ofNat N)), (.int (Int32.ofNat (N + 1))), (.int (0 : Int32)), (.ref b1), (.int (0 : Int32)), (.ref a1)])) (fun _ k => XS.iloadN X1.here hx rfl (hb hby d3_24) rfl k) ?_
  obtain ⟨_, _, ⟨T2, L2, k2, n2⟩, -, X2, ⟨Lc2, hQ2, l2, y2, z2⟩, st2⟩ := Jvm.LawKit.callS X1 hx (y := (⟨"java/lang/Math", "min", "(II)I"⟩ : MethodName)) hown (mvT hZ (hw _ (List.mem_of_getElem? (i := 19) rfl))) (mvT hZ (hw _ (List.mem_of_getElem? (i := 20) rfl))) (mvT hZ (hw _ (List.mem_of_getElem? (i := 21) rfl))) (mvT hZ (hw _ (List.mem_of_getElem? (i := 22) rfl))) (by decide) (backOf (W := 4) (rm4 l Z a0 hw [] (Int32.ofNat (N + 1)) (Int32.ofNat N) h1 n0 Z1 ) hZ (hw _ (List.mem_of_getElem? (i := 22) rfl)) (hw _ (List.mem_of_getElem? (i := 21) rfl)) (by decide) (by decide)) (g := (mkF m 25 #[.val (.ref a1), .val (.int (Int32.ofNat N)), .val (.ref b1)] [(.int (Int32.ofNat N)), (.int (Int32.ofNat (N + 1))), (.int (0 : Int32)), (.ref b1), (.int (0 : Int32)), (.ref a1)])) rfl (by rw [hml]; rfl) (argsL := [(.int (Int32.ofNat (N + 1))), (.int (Int32.ofNat N))]) (rest := [(.int (0 : Int32)), (.ref b1), (.int (0 : Int32)), (.ref a1)]) (lenOf pd_0 rfl) rfl (by show 2 * 0 + _ ≤ _; exact Nat.le_of_eq rfl) (hb hby d3_25) (fun _ _ => ⟨rfl, e1, (by decide : 1 + 0 ≤ _), (by decide : 4 + 0 ≤ _)⟩)
  dsimp only [Pt.U, Pt.locs, Pt.cells, Pt.slots] at X2 l2 y2 z2 st2 hQ2
  subst l2 y2 z2
  obtain ⟨rfl, N2q, e2⟩ := hQ2
  have N2 := Fr.app N0 N2q
  refine own_back (S' := T2.setTop (mkF m 28 #[.val (.ref a1), .val (.int (Int32.ofNat N)), .val (.ref b1)] [(.int (own_min (Int32.ofNat (N + 1)) (Int32.ofNat N))), (.int (0 : Int32)), (.ref b1), (.int (0 : Int32)), (.ref a1)])) (st2) ?_
  rw [own_minN N (by omega)]
  obtain ⟨T3, h3, L3, X3, e3, N3, Kc3, A3, st3⟩ := own_copy X2 hx hZ hown (hw _ (List.mem_of_getElem? (i := 23) rfl)) (hw _ (List.mem_of_getElem? (i := 26) rfl)) (hw _ (List.mem_of_getElem? (i := 24) rfl)) (hw _ (List.mem_of_getElem? (i := 25) rfl)) e2 A_a1_1 A1 (nn := Int32.ofNat N) (own_nn _ (by omega)) (clamp_of rfl (by omega)) (by omega) N2 g_b1 (g := (mkF m 28 #[.val (.ref a1), .val (.int (Int32.ofNat N)), .val (.ref b1)] [(.int (Int32.ofNat N)), (.int (0 : Int32)), (.ref b1), (.int (0 : Int32)), (.ref a1)])) rfl (by rw [hml]; rfl) rfl (hb hby d3_28) (by decide) (W := 0) (by show 2 * 0 + _ ≤ _; exact Nat.le_of_eq rfl) (by decide)
  have Z3 : n0 ≤ h3.size := Nat.le_trans Z1 Kc3.1
  have A_a1_3 := A_a1_1.keep Kc3 (ninS ne_a1_b1 nin0)
  have K3 : Keep h0 h3 [] := K1.trans Kc3 (fun x hx => by cases List.mem_singleton.mp hx; exact Or.inr sz_b1)
  refine own_back (S' := T3.setTop (mkF m 31 #[.val (.ref a1), .val (.int (Int32.ofNat N)), .val (.ref b1)] [])) (st3) ?_
  refine own_back (S' := T3.setTop (mkF m 32 #[.val (.ref a1), .val (.int (Int32.ofNat N)), .val (.ref b1)] [(.ref b1)])) (fun _ k => XS.aloadN X3.here hx rfl (hb hby d3_31) rfl rfl k) ?_
  obtain ⟨fs, hr, hrun, hended, hW, hsame⟩ := X3.leave (v := some (.ref b1)) (fun h => by rw [Bd.returns] at h; cases h)
  refine own_done ⟨_, _, retOut X3 hx (t := (.array .int)) Bd.returns rfl (Or.inr (Or.inr (Or.inr (Or.inr ⟨rfl, rfl, rfl⟩)))) (hb hby d3_32) hr, hrun, hended, _, _, rfl, ?_, ⟨_, rfl⟩, hW, hsame.mono (by decide) (by decide)⟩
  show Q3 Z a1 N f h0 n0 _ T3.heap _
  rw [e3]
  exact ⟨by rw [g1], N3, K3, by rw [← g1]; exact A3⟩
theorem d5_0 : decode prog_38_method_4_code 0 = .ok (.aload_n 0, 1) := by decide +kernel
theorem d5_1 : decode prog_38_method_4_code 1 = .ok (.getfield 7, 3) := by decide +kernel
theorem d5_4 : decode prog_38_method_4_code 4 = .ok (.iload_n 1, 1) := by decide +kernel
theorem d5_5 : decode prog_38_method_4_code 5 = .ok (.iaload, 1) := by decide +kernel
theorem d5_6 : decode prog_38_method_4_code 6 = .ok (.aload_n 0, 1) := by decide +kernel
theorem d5_7 : decode prog_38_method_4_code 7 = .ok (.getfield 7, 3) := by decide +kernel
theorem d5_10 : decode prog_38_method_4_code 10 = .ok (.iload_n 1, 1) := by decide +kernel
theorem d5_11 : decode prog_38_method_4_code 11 = .ok (.iconst 1, 1) := by decide +kernel
theorem d5_12 : decode prog_38_method_4_code 12 = .ok (.iadd, 1) := by decide +kernel
theorem d5_13 : decode prog_38_method_4_code 13 = .ok (.iaload, 1) := by decide +kernel
theorem d5_14 : decode prog_38_method_4_code 14 = .ok (.if_icmp .ge 7, 3) := by decide +kernel
theorem d5_17 : decode prog_38_method_4_code 17 = .ok (.iconst 1, 1) := by decide +kernel
theorem d5_18 : decode prog_38_method_4_code 18 = .ok (.goto 4, 3) := by decide +kernel
theorem d5_21 : decode prog_38_method_4_code 21 = .ok (.iconst 0, 1) := by decide +kernel
theorem d5_22 : decode prog_38_method_4_code 22 = .ok (.ireturn, 1) := by decide +kernel
theorem pn_com_example_plankeeper_plankeeper_inputs_ParticipantRanges : plainName "com/example/plankeeper/plankeeper/inputs/ParticipantRanges" = true := by first | (simp [plainName, overriddenIn]; done) | decide +kernel
theorem ef_5 (m : MethodId) (x0 : Addr) (x1 : Int32) : entryFrame m #[(.ref x0), (.int x1)] 2 = mkF m 0 #[.val (.ref x0), .val (.int x1)] [] := by first | (simp [entryFrame, mkF, argsToLocals, Value.category]; done) | rfl
def Q5 (Z : State) (a1 : Addr) (P : Nat) (b : Addr) (N : Nat) (f : Nat → Int32) (h0 : Heap) (n0 : Nat) (v : Option Value) (h : Heap) (L : List Loc) : Prop := v = some (.int (own_hold (f P) (f (P + 1)))) ∧ Fr n0 L ∧ h = h0
set_option maxRecDepth 65536 in
set_option maxHeartbeats 40000000 in
theorem rm5 (l : Launch) (Z : State) (a0 : Array Value) (hw : ∀ d ∈ tables_1, d.before a0 Z = true) (ws : List Jvm.Cond) (a1 : Addr) (P : Nat) (b : Addr) (N : Nat) (f : Nat → Int32) (h0 : Heap) (n0 : Nat) (Z0 : n0 ≤ h0.size) (F1 : Fld Z h0 a1 "com/example/plankeeper/plankeeper/inputs/ParticipantRanges" "firsts" "[I" (.ref b)) (PA : own_I Z h0 b .int (N + 1) f) (hP : P < N) (hN : N ≤ 4) :
    MetFree l (⟨"com/example/plankeeper/plankeeper/inputs/ParticipantRanges", "holds", "(I)Z"⟩ : MethodName) (head1 (Jvm.Cond.code (⟨"com/example/plankeeper/plankeeper/inputs/ParticipantRanges", "holds", "(I)Z"⟩ : MethodName) prog_38_method_4_code 2 (some .boolean) :: ws) ({ frames := 0, cells := 0, slots := 0, locals := 0 } : Room)) (fun a U => a = #[(.ref a1), (.int (Int32.ofNat P))] ∧ Z.Warmed39 U.vm ∧ U.heap = h0) (fun _ _ _ _ _ => True) (fun _ U o U' => ∃ v L, o = .returned v ∧ Q5 Z a1 P b N f h0 n0 v U'.heap L ∧ FrameEnd U o U' L ({ frames := 0, cells := 0, slots := 0, locals := 0 } : Room).cells ({ frames := 0, cells := 0, slots := 0, locals := 0 } : Room).slots) := by
  refine MetFree.of_bodySF (plainFor_of_name pn_com_example_plankeeper_plankeeper_inputs_ParticipantRanges) hisR ?_
  intro p e s m args below meth c s₁ Bd hml0 hP hK
  obtain ⟨rfl, hZ, hh⟩ := hP
  have hx := Bd.exec
  have hby := Bd.bytes
  have hml : c.maxLocals = 2 := hml0
  have hown : s.vm.findClass "com/example/plankeeper/plankeeper/inputs/ParticipantRanges" = some m.cls := findClass_of_methodNamed Bd.named
  have hnm := (name_of_methodNamed Bd.named Bd.method).1
  have X0 : Stand p l e ({ frames := 0, cells := 0, slots := 0, locals := 0 } : Room) s m #[(.ref a1), (.int (Int32.ofNat P))] below meth c s₁ [] 0 0 := Stand.of_body Bd
  have e0 : s₁.heap = h0 := by rw [← hh, Bd.state]; rfl
  have N0 := Fr.nil n0
  refine own_open (S' := s₁.setTop (mkF m 0 #[.val (.ref a1), .val (.int (Int32.ofNat P))] [])) (fun t k => castTop (ef_5 m a1 (Int32.ofNat P)) k) ?_
  refine own_back (S' := s₁.setTop (mkF m 1 #[.val (.ref a1), .val (.int (Int32.ofNat P))] [(.ref a1)])) (fun _ k => XS.aloadN X0.here hx rfl (hb hby d5_0) rfl rfl k) ?_
  obtain ⟨T1, X1, e1, st1⟩ := getF X0 hx hZ hown (host := "") (Or.inl (hw _ (List.mem_of_getElem? (i := 11) rfl))) Via.refl e0 F1 (g := (mkF m 1 #[.val (.ref a1), .val (.int (Int32.ofNat P))] [(.ref a1)])) rfl rfl (hb hby d5_1)
  refine own_back (S' := T1.setTop (mkF m 4 #[.val (.ref a1), .val (.int (Int32.ofNat P))] [(.ref b)])) (st1) ?_
  refine own_back (S' := T1.setTop (mkF m 5 #[.val (.ref a1), .val (.int (Int32.ofNat P))] [(.int (Int32.ofNat P)), (.ref b)])) (fun _ k => XS.iloadN X1.here hx rfl (hb hby d5_4) rfl k) ?_
  refine own_back (S' := T1.setTop (mkF m 6 #[.val (.ref a1), .val (.int (Int32.ofNat P))] [(.int (f P))])) (own_ldI X1 hx hZ e1 PA (k := P) (w := (f P)) (own_nn _ (by omega)) (clamp_of rfl (by omega)) (by omega) rfl (g := (mkF m 5 #[.val (.ref a1), .val (.int (Int32.ofNat P))] [(.int (Int32.ofNat P)), (.ref b)])) rfl rfl (hb hby d5_5)) ?_
  refine own_back (S' := T1.setTop (mkF m 7 #[.val (.ref a1), .val (.int (Int32.ofNat P))] [(.ref a1), (.int (f P))])) (fun _ k => XS.aloadN X1.here hx rfl (hb hby d5_6) rfl rfl k) ?_
  obtain ⟨T2, X2, e2, st2⟩ := getF X1 hx hZ hown (host := "") (Or.inl (hw _ (List.mem_of_getElem? (i := 11) rfl))) Via.refl e1 F1 (g := (mkF m 7 #[.val (.ref a1), .val (.int (Int32.ofNat P))] [(.ref a1), (.int (f P))])) rfl rfl (hb hby d5_7)
  refine own_back (S' := T2.setTop (mkF m 10 #[.val (.ref a1), .val (.int (Int32.ofNat P))] [(.ref b), (.int (f P))])) (st2) ?_
  refine own_back (S' := T2.setTop (mkF m 11 #[.val (.ref a1), .val (.int (Int32.ofNat P))] [(.int (Int32.ofNat P)), (.ref b), (.int (f P))])) (fun _ k => XS.iloadN X2.here hx rfl (hb hby d5_10) rfl k) ?_
  refine own_back (S' := T2.setTop (mkF m 12 #[.val (.ref a1), .val (.int (Int32.ofNat P))] [(.int (1 : Int32)), (.int (Int32.ofNat P)), (.ref b), (.int (f P))])) (fun _ k => XS.iconst X2.here hx rfl (hb hby d5_11)  k) ?_
  refine own_back (S' := T2.setTop (mkF m 13 #[.val (.ref a1), .val (.int (Int32.ofNat P))] [(.int ((Int32.ofNat P) + (1 : Int32))), (.ref b), (.int (f P))])) (fun _ k => XS.iadd X2.here hx rfl (hb hby d5_12) rfl k) ?_
  refine own_back (S' := T2.setTop (mkF m 14 #[.val (.ref a1), .val (.int (Int32.ofNat P))] [(.int (f (P + 1))), (.int (f P))])) (own_ldI X2 hx hZ e2 PA (k := (P + 1)) (w := (f (P + 1))) (own_nn1 _ (by omega)) (own_cl1 _ (by omega)) (by omega) rfl (g := (mkF m 13 #[.val (.ref a1), .val (.int (Int32.ofNat P))] [(.int ((Int32.ofNat P) + (1 : Int32))), (.ref b), (.int (f P))])) rfl rfl (hb hby d5_13)) ?_
  by_cases hc14_3 : (f P) < (f (P + 1))
  ·
    refine own_back (S' := T2.setTop (mkF m 17 #[.val (.ref a1), .val (.int (Int32.ofNat P))] [])) (fun _ k => XS.icmpNo X2.here hx rfl (hb hby d5_14) rfl (tlt hc14_3).2.1 k) ?_
    refine own_back (S' := T2.setTop (mkF m 18 #[.val (.ref a1), .val (.int (Int32.ofNat P))] [(.int (1 : Int32))])) (fun _ k => XS.iconst X2.here hx rfl (hb hby d5_17)  k) ?_
    refine own_back (S' := T2.setTop (mkF m 22 #[.val (.ref a1), .val (.int (Int32.ofNat P))] [(.int (1 : Int32))])) (fun _ k => XS.goto X2.here hx rfl (pc0 := 18) (pc' := 22) rfl (hb hby d5_18) (by decide) (by decide) k) ?_
    obtain ⟨fs, hr, hrun, hended, hW, hsame⟩ := X2.leave (v := some (.int (1 : Int32))) (fun h => by rw [Bd.returns] at h; cases h)
    refine own_done ⟨_, _, retN X2 hx (t := .boolean) Bd.returns (by simp) (hb hby d5_22) hr, hrun, hended, _, _, rfl, ?_, ⟨_, rfl⟩, hW, hsame.mono (by decide) (by decide)⟩
    show Q5 Z a1 P b N f h0 n0 _ T2.heap _
    rw [e2]
    exact ⟨by unfold own_hold; rw [if_pos hc14_3], N0, rfl⟩
  ·
    refine own_back (S' := T2.setTop (mkF m 21 #[.val (.ref a1), .val (.int (Int32.ofNat P))] [])) (fun _ k => XS.icmpYes X2.here hx rfl (pc0 := 14) (pc' := 21) rfl (hb hby d5_14) rfl (flt hc14_3).2.1 (by decide) (by decide) k) ?_
    refine own_back (S' := T2.setTop (mkF m 22 #[.val (.ref a1), .val (.int (Int32.ofNat P))] [(.int (0 : Int32))])) (fun _ k => XS.iconst X2.here hx rfl (hb hby d5_21)  k) ?_
    obtain ⟨fs, hr, hrun, hended, hW, hsame⟩ := X2.leave (v := some (.int (0 : Int32))) (fun h => by rw [Bd.returns] at h; cases h)
    refine own_done ⟨_, _, retN X2 hx (t := .boolean) Bd.returns (by simp) (hb hby d5_22) hr, hrun, hended, _, _, rfl, ?_, ⟨_, rfl⟩, hW, hsame.mono (by decide) (by decide)⟩
    show Q5 Z a1 P b N f h0 n0 _ T2.heap _
    rw [e2]
    exact ⟨by unfold own_hold; rw [if_neg hc14_3], N0, rfl⟩
def own_F1 (Z : State) (h0 : Heap) (n0 : Nat) (a1 a2 b : Addr) (N : Nat) (W : Nat → Nat) (f : Nat → Int32) (h : Heap) : Prop :=
  n0 ≤ h.size ∧ Keep h0 h [a1] ∧ Exa Z h a1 "com/example/plankeeper/plankeeper/inputs/ParticipantRanges" ∧ Fld Z h a1 "com/example/plankeeper/plankeeper/inputs/ParticipantRanges" "firsts" "[I" (.ref b) ∧ Fld Z h a1 "com/example/plankeeper/plankeeper/inputs/ParticipantRanges" "order" "[I" .null ∧ own_I Z h a2 .int 4 (fun i => Int32.ofNat (W i)) ∧ own_I Z h b .int (N + 1) f
def own_F3 (Z : State) (h0 : Heap) (n0 : Nat) (a1 a2 b d o : Addr) (S N : Nat) (W : Nat → Nat) (f : Nat → Int32) (h : Heap) : Prop :=
  n0 ≤ h.size ∧ Keep h0 h [a1] ∧ Exa Z h a1 "com/example/plankeeper/plankeeper/inputs/ParticipantRanges" ∧ Fld Z h a1 "com/example/plankeeper/plankeeper/inputs/ParticipantRanges" "firsts" "[I" (.ref b) ∧ Fld Z h a1 "com/example/plankeeper/plankeeper/inputs/ParticipantRanges" "order" "[I" (.ref o) ∧ own_I Z h a2 .int 4 (fun i => Int32.ofNat (W i)) ∧ own_I Z h b .int (N + 1) (fun k => Int32.ofNat (own_lt W S k)) ∧ own_I Z h d .int N f ∧ ∃ fo, own_I Z h o .int S fo
theorem d1_0 : decode prog_38_method_1_code 0 = .ok (.aload_n 0, 1) := by decide +kernel
theorem d1_1 : decode prog_38_method_1_code 1 = .ok (.invokespecial 1, 3) := by decide +kernel
theorem d1_4 : decode prog_38_method_1_code 4 = .ok (.aload_n 0, 1) := by decide +kernel
theorem d1_5 : decode prog_38_method_1_code 5 = .ok (.iload_n 3, 1) := by decide +kernel
theorem d1_6 : decode prog_38_method_1_code 6 = .ok (.iconst 1, 1) := by decide +kernel
theorem d1_7 : decode prog_38_method_1_code 7 = .ok (.iadd, 1) := by decide +kernel
theorem d1_8 : decode prog_38_method_1_code 8 = .ok (.newarray .int, 2) := by decide +kernel
theorem d1_10 : decode prog_38_method_1_code 10 = .ok (.putfield 7, 3) := by decide +kernel
theorem d1_13 : decode prog_38_method_1_code 13 = .ok (.iconst 0, 1) := by decide +kernel
theorem d1_14 : decode prog_38_method_1_code 14 = .ok (.istore 4, 2) := by decide +kernel
theorem d1_16 : decode prog_38_method_1_code 16 = .ok (.iload 4, 2) := by decide +kernel
theorem d1_18 : decode prog_38_method_1_code 18 = .ok (.iload_n 2, 1) := by decide +kernel
theorem d1_19 : decode prog_38_method_1_code 19 = .ok (.if_icmp .ge 24, 3) := by decide +kernel
theorem d1_22 : decode prog_38_method_1_code 22 = .ok (.aload_n 0, 1) := by decide +kernel
theorem d1_23 : decode prog_38_method_1_code 23 = .ok (.getfield 7, 3) := by decide +kernel
theorem d1_26 : decode prog_38_method_1_code 26 = .ok (.aload_n 1, 1) := by decide +kernel
theorem d1_27 : decode prog_38_method_1_code 27 = .ok (.iload 4, 2) := by decide +kernel
theorem d1_29 : decode prog_38_method_1_code 29 = .ok (.iaload, 1) := by decide +kernel
theorem d1_30 : decode prog_38_method_1_code 30 = .ok (.iconst 1, 1) := by decide +kernel
theorem d1_31 : decode prog_38_method_1_code 31 = .ok (.iadd, 1) := by decide +kernel
theorem d1_32 : decode prog_38_method_1_code 32 = .ok (.dup2, 1) := by decide +kernel
theorem d1_33 : decode prog_38_method_1_code 33 = .ok (.iaload, 1) := by decide +kernel
theorem d1_34 : decode prog_38_method_1_code 34 = .ok (.iconst 1, 1) := by decide +kernel
theorem d1_35 : decode prog_38_method_1_code 35 = .ok (.iadd, 1) := by decide +kernel
theorem d1_36 : decode prog_38_method_1_code 36 = .ok (.iastore, 1) := by decide +kernel
theorem d1_37 : decode prog_38_method_1_code 37 = .ok (.iinc 4 1, 3) := by decide +kernel
theorem d1_40 : decode prog_38_method_1_code 40 = .ok (.goto (-24), 3) := by decide +kernel
theorem d1_43 : decode prog_38_method_1_code 43 = .ok (.iconst 0, 1) := by decide +kernel
theorem d1_44 : decode prog_38_method_1_code 44 = .ok (.istore 4, 2) := by decide +kernel
theorem d1_46 : decode prog_38_method_1_code 46 = .ok (.iload 4, 2) := by decide +kernel
theorem d1_48 : decode prog_38_method_1_code 48 = .ok (.iload_n 3, 1) := by decide +kernel
theorem d1_49 : decode prog_38_method_1_code 49 = .ok (.if_icmp .ge 28, 3) := by decide +kernel
theorem d1_52 : decode prog_38_method_1_code 52 = .ok (.aload_n 0, 1) := by decide +kernel
theorem d1_53 : decode prog_38_method_1_code 53 = .ok (.getfield 7, 3) := by decide +kernel
theorem d1_56 : decode prog_38_method_1_code 56 = .ok (.iload 4, 2) := by decide +kernel
theorem d1_58 : decode prog_38_method_1_code 58 = .ok (.iconst 1, 1) := by decide +kernel
theorem d1_59 : decode prog_38_method_1_code 59 = .ok (.iadd, 1) := by decide +kernel
theorem d1_60 : decode prog_38_method_1_code 60 = .ok (.dup2, 1) := by decide +kernel
theorem d1_61 : decode prog_38_method_1_code 61 = .ok (.iaload, 1) := by decide +kernel
theorem d1_62 : decode prog_38_method_1_code 62 = .ok (.aload_n 0, 1) := by decide +kernel
theorem d1_63 : decode prog_38_method_1_code 63 = .ok (.getfield 7, 3) := by decide +kernel
theorem d1_66 : decode prog_38_method_1_code 66 = .ok (.iload 4, 2) := by decide +kernel
theorem d1_68 : decode prog_38_method_1_code 68 = .ok (.iaload, 1) := by decide +kernel
theorem d1_69 : decode prog_38_method_1_code 69 = .ok (.iadd, 1) := by decide +kernel
theorem d1_70 : decode prog_38_method_1_code 70 = .ok (.iastore, 1) := by decide +kernel
theorem d1_71 : decode prog_38_method_1_code 71 = .ok (.iinc 4 1, 3) := by decide +kernel
theorem d1_74 : decode prog_38_method_1_code 74 = .ok (.goto (-28), 3) := by decide +kernel
theorem d1_77 : decode prog_38_method_1_code 77 = .ok (.aload_n 0, 1) := by decide +kernel
theorem d1_78 : decode prog_38_method_1_code 78 = .ok (.iload_n 2, 1) := by decide +kernel
theorem d1_79 : decode prog_38_method_1_code 79 = .ok (.newarray .int, 2) := by decide +kernel
theorem d1_81 : decode prog_38_method_1_code 81 = .ok (.putfield 13, 3) := by decide +kernel
theorem d1_84 : decode prog_38_method_1_code 84 = .ok (.aload_n 0, 1) := by decide +kernel
theorem d1_85 : decode prog_38_method_1_code 85 = .ok (.getfield 7, 3) := by decide +kernel
theorem d1_88 : decode prog_38_method_1_code 88 = .ok (.iload_n 3, 1) := by decide +kernel
theorem d1_89 : decode prog_38_method_1_code 89 = .ok (.invokestatic 16, 3) := by decide +kernel
theorem d1_92 : decode prog_38_method_1_code 92 = .ok (.astore 4, 2) := by decide +kernel
theorem d1_94 : decode prog_38_method_1_code 94 = .ok (.iconst 0, 1) := by decide +kernel
theorem d1_95 : decode prog_38_method_1_code 95 = .ok (.istore 5, 2) := by decide +kernel
theorem d1_97 : decode prog_38_method_1_code 97 = .ok (.iload 5, 2) := by decide +kernel
theorem d1_99 : decode prog_38_method_1_code 99 = .ok (.iload_n 2, 1) := by decide +kernel
theorem d1_100 : decode prog_38_method_1_code 100 = .ok (.if_icmp .ge 28, 3) := by decide +kernel
theorem d1_103 : decode prog_38_method_1_code 103 = .ok (.aload_n 0, 1) := by decide +kernel
theorem d1_104 : decode prog_38_method_1_code 104 = .ok (.getfield 13, 3) := by decide +kernel
theorem d1_107 : decode prog_38_method_1_code 107 = .ok (.aload 4, 2) := by decide +kernel
theorem d1_109 : decode prog_38_method_1_code 109 = .ok (.aload_n 1, 1) := by decide +kernel
theorem d1_110 : decode prog_38_method_1_code 110 = .ok (.iload 5, 2) := by decide +kernel
theorem d1_112 : decode prog_38_method_1_code 112 = .ok (.iaload, 1) := by decide +kernel
theorem d1_113 : decode prog_38_method_1_code 113 = .ok (.dup2, 1) := by decide +kernel
theorem d1_114 : decode prog_38_method_1_code 114 = .ok (.iaload, 1) := by decide +kernel
theorem d1_115 : decode prog_38_method_1_code 115 = .ok (.dup_x2, 1) := by decide +kernel
theorem d1_116 : decode prog_38_method_1_code 116 = .ok (.iconst 1, 1) := by decide +kernel
theorem d1_117 : decode prog_38_method_1_code 117 = .ok (.iadd, 1) := by decide +kernel
theorem d1_118 : decode prog_38_method_1_code 118 = .ok (.iastore, 1) := by decide +kernel
theorem d1_119 : decode prog_38_method_1_code 119 = .ok (.iload 5, 2) := by decide +kernel
theorem d1_121 : decode prog_38_method_1_code 121 = .ok (.iastore, 1) := by decide +kernel
theorem d1_122 : decode prog_38_method_1_code 122 = .ok (.iinc 5 1, 3) := by decide +kernel
theorem d1_125 : decode prog_38_method_1_code 125 = .ok (.goto (-28), 3) := by decide +kernel
theorem d1_128 : decode prog_38_method_1_code 128 = .ok (.return_, 1) := by decide +kernel
set_option maxRecDepth 65536 in
set_option maxHeartbeats 40000000 in
theorem own_loop1 {p : Program} {l : Launch} {e : Env} {R : Room} {s : State} {m : MethodId} {args : Array Value} {below : List Frame} {meth : Method} {c : Code} {cells slots : Nat} {Z : State} {a0 : Array Value} {G : State → Outcome → Prop} (hx : p.tables.exec = Jvm.exec) (hZ : Z.Warmed39 s.vm) (hw : ∀ d ∈ tables_1, d.before a0 Z = true) (hby : c.code = prog_38_method_1_code) (hml : c.maxLocals = 6) (hown : s.vm.findClass "com/example/plankeeper/plankeeper/inputs/ParticipantRanges" = some m.cls) {h0 : Heap} {n0 : Nat} {a1 a2 b : Addr} {S N : Nat} {W : Nat → Nat} (hS : S ≤ 4) (hN : N ≤ 4) (hW : ∀ j, j < 4 → W j < N) (ne1b : a1 ≠ b) (ne2b : a2 ≠ b) (gb : n0 ≤ b) (szb : h0.size ≤ b)
    (cont : ∀ T h locs, Stand p l e R s m args below meth c T locs cells slots → T.heap = h → Fr n0 locs → own_F1 Z h0 n0 a1 a2 b N W (fun k => Int32.ofNat (own_e1 W S k)) h → own_G p e below G (T.setTop (mkF m 43 #[.val (.ref a1), .val (.ref a2), .val (.int (Int32.ofNat S)), .val (.int (Int32.ofNat N)), .val (.int (Int32.ofNat S)), .unset] []))) :
    ∀ (t i : Nat) (T0 : State) (hh : Heap) (locs : List Loc), i + t = S → Stand p l e R s m args below meth c T0 locs cells slots → T0.heap = hh → Fr n0 locs → own_F1 Z h0 n0 a1 a2 b N W (fun k => Int32.ofNat (own_e1 W i k)) hh → own_G p e below G (T0.setTop (mkF m 16 #[.val (.ref a1), .val (.ref a2), .val (.int (Int32.ofNat S)), .val (.int (Int32.ofNat N)), .val (.int (Int32.ofNat i)), .unset] [])) := by
  intro t
  induction t with
  | zero =>
    intro i T0 hh locs hi X0 e0 N0 FF
    have hiS : i = S := by omega
    rw [hiS] at FF ⊢
    have FF' := FF
    obtain ⟨Z0, K0, E0, F0, F0o, A0w, A0b⟩ := FF
    refine own_back (S' := T0.setTop (mkF m 18 #[.val (.ref a1), .val (.ref a2), .val (.int (Int32.ofNat S)), .val (.int (Int32.ofNat N)), .val (.int (Int32.ofNat S)), .unset] [(.int (Int32.ofNat S))])) (fun _ k => XS.iload X0.here hx rfl (hb hby d1_16) rfl k) ?_
    refine own_back (S' := T0.setTop (mkF m 19 #[.val (.ref a1), .val (.ref a2), .val (.int (Int32.ofNat S)), .val (.int (Int32.ofNat N)), .val (.int (Int32.ofNat S)), .unset] [(.int (Int32.ofNat S)), (.int (Int32.ofNat S))])) (fun _ k => XS.iloadN X0.here hx rfl (hb hby d1_18) rfl k) ?_
    refine own_back (S' := T0.setTop (mkF m 43 #[.val (.ref a1), .val (.ref a2), .val (.int (Int32.ofNat S)), .val (.int (Int32.ofNat N)), .val (.int (Int32.ofNat S)), .unset] [])) (fun _ k => XS.icmpYes X0.here hx rfl (pc0 := 19) (pc' := 43) rfl (hb hby d1_19) rfl (flt ((fun q => by have := (own_ltn (by omega) (by omega)).mp q; omega) : ¬ ((Int32.ofNat S) < (Int32.ofNat S)))).2.1 (by decide) (by decide) k) ?_
    exact cont _ _ _ X0 e0 N0 FF'
  | succ t ih =>
    intro i T0 hh locs hi X0 e0 N0 FF
    have hlt : Int32.ofNat i < Int32.ofNat S := (own_ltn (by omega) (by omega)).mpr (by omega)
    have FF' := FF
    obtain ⟨Z0, K0, E0, F0, F0o, A0w, A0b⟩ := FF
    refine own_back (S' := T0.setTop (mkF m 18 #[.val (.ref a1), .val (.ref a2), .val (.int (Int32.ofNat S)), .val (.int (Int32.ofNat N)), .val (.int (Int32.ofNat i)), .unset] [(.int (Int32.ofNat i))])) (fun _ k => XS.iload X0.here hx rfl (hb hby d1_16) rfl k) ?_
    refine own_back (S' := T0.setTop (mkF m 19 #[.val (.ref a1), .val (.ref a2), .val (.int (Int32.ofNat S)), .val (.int (Int32.ofNat N)), .val (.int (Int32.ofNat i)), .unset] [(.int (Int32.ofNat S)), (.int (Int32.ofNat i))])) (fun _ k => XS.iloadN X0.here hx rfl (hb hby d1_18) rfl k) ?_
    refine own_back (S' := T0.setTop (mkF m 22 #[.val (.ref a1), .val (.ref a2), .val (.int (Int32.ofNat S)), .val (.int (Int32.ofNat N)), .val (.int (Int32.ofNat i)), .unset] [])) (fun _ k => XS.icmpNo X0.here hx rfl (hb hby d1_19) rfl (tlt (hlt : (Int32.ofNat i) < (Int32.ofNat S))).2.1 k) ?_
    refine own_back (S' := T0.setTop (mkF m 23 #[.val (.ref a1), .val (.ref a2), .val (.int (Int32.ofNat S)), .val (.int (Int32.ofNat N)), .val (.int (Int32.ofNat i)), .unset] [(.ref a1)])) (fun _ k => XS.aloadN X0.here hx rfl (hb hby d1_22) rfl rfl k) ?_
    obtain ⟨T1, X1, e1, st1⟩ := getF X0 hx hZ hown (host := "") (Or.inl (hw _ (List.mem_of_getElem? (i := 11) rfl))) Via.refl e0 F0 (g := (mkF m 23 #[.val (.ref a1), .val (.ref a2), .val (.int (Int32.ofNat S)), .val (.int (Int32.ofNat N)), .val (.int (Int32.ofNat i)), .unset] [(.ref a1)])) rfl rfl (hb hby d1_23)
    refine own_back (S' := T1.setTop (mkF m 26 #[.val (.ref a1), .val (.ref a2), .val (.int (Int32.ofNat S)), .val (.int (Int32.ofNat N)), .val (.int (Int32.ofNat i)), .unset] [(.ref b)])) (st1) ?_
    refine own_back (S' := T1.setTop (mkF m 27 #[.val (.ref a1), .val (.ref a2), .val (.int (Int32.ofNat S)), .val (.int (Int32.ofNat N)), .val (.int (Int32.ofNat i)), .unset] [(.ref a2), (.ref b)])) (fun _ k => XS.aloadN X1.here hx rfl (hb hby d1_26) rfl rfl k) ?_
    refine own_back (S' := T1.setTop (mkF m 29 #[.val (.ref a1), .val (.ref a2), .val (.int (Int32.ofNat S)), .val (.int (Int32.ofNat N)), .val (.int (Int32.ofNat i)), .unset] [(.int (Int32.ofNat i)), (.ref a2), (.ref b)])) (fun _ k => XS.iload X1.here hx rfl (hb hby d1_27) rfl k) ?_
    refine own_back (S' := T1.setTop (mkF m 30 #[.val (.ref a1), .val (.ref a2), .val (.int (Int32.ofNat S)), .val (.int (Int32.ofNat N)), .val (.int (Int32.ofNat i)), .unset] [(.int (Int32.ofNat (W i))), (.ref b)])) (own_ldI X1 hx hZ e1 A0w (k := i) (w := (Int32.ofNat (W i))) (own_nn _ (by omega)) (clamp_of rfl (by omega)) (by omega) rfl (g := (mkF m 29 #[.val (.ref a1), .val (.ref a2), .val (.int (Int32.ofNat S)), .val (.int (Int32.ofNat N)), .val (.int (Int32.ofNat i)), .unset] [(.int (Int32.ofNat i)), (.ref a2), (.ref b)])) rfl rfl (hb hby d1_29)) ?_
    refine own_back (S' := T1.setTop (mkF m 31 #[.val (.ref a1), .val (.ref a2), .val (.int (Int32.ofNat S)), .val (.int (Int32.ofNat N)), .val (.int (Int32.ofNat i)), .unset] [(.int (1 : Int32)), (.int (Int32.ofNat (W i))), (.ref b)])) (fun _ k => XS.iconst X1.here hx rfl (hb hby d1_30)  k) ?_
    refine own_back (S' := T1.setTop (mkF m 32 #[.val (.ref a1), .val (.ref a2), .val (.int (Int32.ofNat S)), .val (.int (Int32.ofNat N)), .val (.int (Int32.ofNat i)), .unset] [(.int ((Int32.ofNat (W i)) + (1 : Int32))), (.ref b)])) (fun _ k => XS.iadd X1.here hx rfl (hb hby d1_31) rfl k) ?_
    refine own_back (S' := T1.setTop (mkF m 33 #[.val (.ref a1), .val (.ref a2), .val (.int (Int32.ofNat S)), .val (.int (Int32.ofNat N)), .val (.int (Int32.ofNat i)), .unset] [(.int ((Int32.ofNat (W i)) + (1 : Int32))), (.ref b), (.int ((Int32.ofNat (W i)) + (1 : Int32))), (.ref b)])) (fun _ k => Jvm.Free.XT.dup2 X1.here hx rfl (hb hby d1_32) rfl rfl rfl k) ?_
    refine own_back (S' := T1.setTop (mkF m 34 #[.val (.ref a1), .val (.ref a2), .val (.int (Int32.ofNat S)), .val (.int (Int32.ofNat N)), .val (.int (Int32.ofNat i)), .unset] [(.int (Int32.ofNat (own_e1 W i (W i + 1)))), (.int ((Int32.ofNat (W i)) + (1 : Int32))), (.ref b)])) (own_ldI X1 hx hZ e1 A0b (k := (W i + 1)) (w := (Int32.ofNat (own_e1 W i (W i + 1)))) (own_nn1 _ (by have := hW i (by omega); omega)) (own_cl1 _ (by have := hW i (by omega); omega)) (by have := hW i (by omega); omega) rfl (g := (mkF m 33 #[.val (.ref a1), .val (.ref a2), .val (.int (Int32.ofNat S)), .val (.int (Int32.ofNat N)), .val (.int (Int32.ofNat i)), .unset] [(.int ((Int32.ofNat (W i)) + (1 : Int32))), (.ref b), (.int ((Int32.ofNat (W i)) + (1 : Int32))), (.ref b)])) rfl rfl (hb hby d1_33)) ?_
    refine own_back (S' := T1.setTop (mkF m 35 #[.val (.ref a1), .val (.ref a2), .val (.int (Int32.ofNat S)), .val (.int (Int32.ofNat N)), .val (.int (Int32.ofNat i)), .unset] [(.int (1 : Int32)), (.int (Int32.ofNat (own_e1 W i (W i + 1)))), (.int ((Int32.ofNat (W i)) + (1 : Int32))), (.ref b)])) (fun _ k => XS.iconst X1.here hx rfl (hb hby d1_34)  k) ?_
    refine own_back (S' := T1.setTop (mkF m 36 #[.val (.ref a1), .val (.ref a2), .val (.int (Int32.ofNat S)), .val (.int (Int32.ofNat N)), .val (.int (Int32.ofNat i)), .unset] [(.int ((Int32.ofNat (own_e1 W i (W i + 1))) + (1 : Int32))), (.int ((Int32.ofNat (W i)) + (1 : Int32))), (.ref b)])) (fun _ k => XS.iadd X1.here hx rfl (hb hby d1_35) rfl k) ?_
    obtain ⟨T2, h2, X2, e2, W2, A2, st2⟩ := own_stI X1 hx hZ e1 A0b (k := (W i + 1)) (own_nn1 _ (by have := hW i (by omega); omega)) (own_cl1 _ (by have := hW i (by omega); omega)) (by have := hW i (by omega); omega) (g := (mkF m 36 #[.val (.ref a1), .val (.ref a2), .val (.int (Int32.ofNat S)), .val (.int (Int32.ofNat N)), .val (.int (Int32.ofNat i)), .unset] [(.int ((Int32.ofNat (own_e1 W i (W i + 1))) + (1 : Int32))), (.int ((Int32.ofNat (W i)) + (1 : Int32))), (.ref b)])) rfl rfl (hb hby d1_36)
    have N2 := Fr.snoc X2 N0 gb
    have Z2 : n0 ≤ h2.size := Nat.le_trans Z0 (Nat.le_of_eq W2.size.symm)
    have E_a1_2 := E0.wr W2
    have F_a1_firsts_2 := F0.other W2 (Or.inl ne1b)
    have F_a1_order_2 := F0o.other W2 (Or.inl ne1b)
    have A_a2_2 := A0w.other W2 ne2b
    have K2 : Keep h0 h2 [a1] := K0.wr W2 (Or.inr szb)
    refine own_back (S' := T2.setTop (mkF m 37 #[.val (.ref a1), .val (.ref a2), .val (.int (Int32.ofNat S)), .val (.int (Int32.ofNat N)), .val (.int (Int32.ofNat i)), .unset] [])) (st2) ?_
    refine own_back (S' := T2.setTop (mkF m 40 #[.val (.ref a1), .val (.ref a2), .val (.int (Int32.ofNat S)), .val (.int (Int32.ofNat N)), .val (.int ((Int32.ofNat i) + (1 : Int32))), .unset] [])) (fun _ k => XS.iinc X2.here hx rfl (hb hby d1_37) rfl (l' := #[.val (.ref a1), .val (.ref a2), .val (.int (Int32.ofNat S)), .val (.int (Int32.ofNat N)), .val (.int ((Int32.ofNat i) + (1 : Int32))), .unset]) rfl k) ?_
    refine own_back (S' := T2.setTop (mkF m 16 #[.val (.ref a1), .val (.ref a2), .val (.int (Int32.ofNat S)), .val (.int (Int32.ofNat N)), .val (.int ((Int32.ofNat i) + (1 : Int32))), .unset] [])) (fun _ k => XS.goto X2.here hx rfl (pc0 := 40) (pc' := 16) rfl (hb hby d1_40) (by decide) (by decide) k) ?_
    rw [← inc_ofNat i]
    exact ih (i + 1) _ _ _ (by omega) X2 e2 N2 ⟨Z2, K2, E_a1_2, F_a1_firsts_2, F_a1_order_2, A_a2_2, A2.cong (fun k hk => own_step1 W i k)⟩
set_option maxRecDepth 65536 in
set_option maxHeartbeats 40000000 in
theorem own_loop2 {p : Program} {l : Launch} {e : Env} {R : Room} {s : State} {m : MethodId} {args : Array Value} {below : List Frame} {meth : Method} {c : Code} {cells slots : Nat} {Z : State} {a0 : Array Value} {G : State → Outcome → Prop} (hx : p.tables.exec = Jvm.exec) (hZ : Z.Warmed39 s.vm) (hw : ∀ d ∈ tables_1, d.before a0 Z = true) (hby : c.code = prog_38_method_1_code) (hml : c.maxLocals = 6) (hown : s.vm.findClass "com/example/plankeeper/plankeeper/inputs/ParticipantRanges" = some m.cls) {h0 : Heap} {n0 : Nat} {a1 a2 b : Addr} {S N : Nat} {W : Nat → Nat} (hS : S ≤ 4) (hN : N ≤ 4) (hW : ∀ j, j < 4 → W j < N) (ne1b : a1 ≠ b) (ne2b : a2 ≠ b) (gb : n0 ≤ b) (szb : h0.size ≤ b)
    (cont : ∀ T h locs, Stand p l e R s m args below meth c T locs cells slots → T.heap = h → Fr n0 locs → own_F1 Z h0 n0 a1 a2 b N W (fun k => Int32.ofNat (own_g W S N k)) h → own_G p e below G (T.setTop (mkF m 77 #[.val (.ref a1), .val (.ref a2), .val (.int (Int32.ofNat S)), .val (.int (Int32.ofNat N)), .val (.int (Int32.ofNat N)), .unset] []))) :
    ∀ (t i : Nat) (T0 : State) (hh : Heap) (locs : List Loc), i + t = N → Stand p l e R s m args below meth c T0 locs cells slots → T0.heap = hh → Fr n0 locs → own_F1 Z h0 n0 a1 a2 b N W (fun k => Int32.ofNat (own_g W S i k)) hh → own_G p e below G (T0.setTop (mkF m 46 #[.val (.ref a1), .val (.ref a2), .val (.int (Int32.ofNat S)), .val (.int (Int32.ofNat N)), .val (.int (Int32.ofNat i)), .unset] [])) := by
  intro t
  induction t with
  | zero =>
    intro i T0 hh locs hi X0 e0 N0 FF
    have hiS : i = N := by omega
    rw [hiS] at FF ⊢
    have FF' := FF
    obtain ⟨Z0, K0, E0, F0, F0o, A0w, A0b⟩ := FF
    refine own_back (S' := T0.setTop (mkF m 48 #[.val (.ref a1), .val (.ref a2), .val (.int (Int32.ofNat S)), .val (.int (Int32.ofNat N)), .val (.int (Int32.ofNat N)), .unset] [(.int (Int32.ofNat N))])) (fun _ k => XS.iload X0.here hx rfl (hb hby d1_46) rfl k) ?_
    refine own_back (S' := T0.setTop (mkF m 49 #[.val (.ref a1), .val (.ref a2), .val (.int (Int32.ofNat S)), .val (.int (Int32.ofNat N)), .val (.int (Int32.ofNat N)), .unset] [(.int (Int32.ofNat N)), (.int (Int32.ofNat N))])) (fun _ k => XS.iloadN X0.here hx rfl (hb hby d1_48) rfl k) ?_
    refine own_back (S' := T0.setTop (mkF m 77 #[.val (.ref a1), .val (.ref a2), .val (.int (Int32.ofNat S)), .val (.int (Int32.ofNat N)), .val (.int (Int32.ofNat N)), .unset] [])) (fun _ k => XS.icmpYes X0.here hx rfl (pc0 := 49) (pc' := 77) rfl (hb hby d1_49) rfl (flt ((fun q => by have := (own_ltn (by omega) (by omega)).mp q; omega) : ¬ ((Int32.ofNat N) < (Int32.ofNat N)))).2.1 (by decide) (by decide) k) ?_
    exact cont _ _ _ X0 e0 N0 FF'
  | succ t ih =>
    intro i T0 hh locs hi X0 e0 N0 FF
    have hlt : Int32.ofNat i < Int32.ofNat N := (own_ltn (by omega) (by omega)).mpr (by omega)
    have FF' := FF
    obtain ⟨Z0, K0, E0, F0, F0o, A0w, A0b⟩ := FF
    refine own_back (S' := T0.setTop (mkF m 48 #[.val (.ref a1), .val (.ref a2), .val (.int (Int32.ofNat S)), .val (.int (Int32.ofNat N)), .val (.int (Int32.ofNat i)), .unset] [(.int (Int32.ofNat i))])) (fun _ k => XS.iload X0.here hx rfl (hb hby d1_46) rfl k) ?_
    refine own_back (S' := T0.setTop (mkF m 49 #[.val (.ref a1), .val (.ref a2), .val (.int (Int32.ofNat S)), .val (.int (Int32.ofNat N)), .val (.int (Int32.ofNat i)), .unset] [(.int (Int32.ofNat N)), (.int (Int32.ofNat i))])) (fun _ k => XS.iloadN X0.here hx rfl (hb hby d1_48) rfl k) ?_
    refine own_back (S' := T0.setTop (mkF m 52 #[.val (.ref a1), .val (.ref a2), .val (.int (Int32.ofNat S)), .val (.int (Int32.ofNat N)), .val (.int (Int32.ofNat i)), .unset] [])) (fun _ k => XS.icmpNo X0.here hx rfl (hb hby d1_49) rfl (tlt (hlt : (Int32.ofNat i) < (Int32.ofNat N))).2.1 k) ?_
    refine own_back (S' := T0.setTop (mkF m 53 #[.val (.ref a1), .val (.ref a2), .val (.int (Int32.ofNat S)), .val (.int (Int32.ofNat N)), .val (.int (Int32.ofNat i)), .unset] [(.ref a1)])) (fun _ k => XS.aloadN X0.here hx rfl (hb hby d1_52) rfl rfl k) ?_
    obtain ⟨T1, X1, e1, st1⟩ := getF X0 hx hZ hown (host := "") (Or.inl (hw _ (List.mem_of_getElem? (i := 11) rfl))) Via.refl e0 F0 (g := (mkF m 53 #[.val (.ref a1), .val (.ref a2), .val (.int (Int32.ofNat S)), .val (.int (Int32.ofNat N)), .val (.int (Int32.ofNat i)), .unset] [(.ref a1)])) rfl rfl (hb hby d1_53)
    refine own_back (S' := T1.setTop (mkF m 56 #[.val (.ref a1), .val (.ref a2), .val (.int (Int32.ofNat S)), .val (.int (Int32.ofNat N)), .val (.int (Int32.ofNat i)), .unset] [(.ref b)])) (st1) ?_
    refine own_back (S' := T1.setTop (mkF m 58 #[.val (.ref a1), .val (.ref a2), .val (.int (Int32.ofNat S)), .val (.int (Int32.ofNat N)), .val (.int (Int32.ofNat i)), .unset] [(.int (Int32.ofNat i)), (.ref b)])) (fun _ k => XS.iload X1.here hx rfl (hb hby d1_56) rfl k) ?_
    refine own_back (S' := T1.setTop (mkF m 59 #[.val (.ref a1), .val (.ref a2), .val (.int (Int32.ofNat S)), .val (.int (Int32.ofNat N)), .val (.int (Int32.ofNat i)), .unset] [(.int (1 : Int32)), (.int (Int32.ofNat i)), (.ref b)])) (fun _ k => XS.iconst X1.here hx rfl (hb hby d1_58)  k) ?_
    refine own_back (S' := T1.setTop (mkF m 60 #[.val (.ref a1), .val (.ref a2), .val (.int (Int32.ofNat S)), .val (.int (Int32.ofNat N)), .val (.int (Int32.ofNat i)), .unset] [(.int ((Int32.ofNat i) + (1 : Int32))), (.ref b)])) (fun _ k => XS.iadd X1.here hx rfl (hb hby d1_59) rfl k) ?_
    refine own_back (S' := T1.setTop (mkF m 61 #[.val (.ref a1), .val (.ref a2), .val (.int (Int32.ofNat S)), .val (.int (Int32.ofNat N)), .val (.int (Int32.ofNat i)), .unset] [(.int ((Int32.ofNat i) + (1 : Int32))), (.ref b), (.int ((Int32.ofNat i) + (1 : Int32))), (.ref b)])) (fun _ k => Jvm.Free.XT.dup2 X1.here hx rfl (hb hby d1_60) rfl rfl rfl k) ?_
    refine own_back (S' := T1.setTop (mkF m 62 #[.val (.ref a1), .val (.ref a2), .val (.int (Int32.ofNat S)), .val (.int (Int32.ofNat N)), .val (.int (Int32.ofNat i)), .unset] [(.int (Int32.ofNat (own_g W S i (i + 1)))), (.int ((Int32.ofNat i) + (1 : Int32))), (.ref b)])) (own_ldI X1 hx hZ e1 A0b (k := (i + 1)) (w := (Int32.ofNat (own_g W S i (i + 1)))) (own_nn1 _ (by omega)) (own_cl1 _ (by omega)) (by omega) rfl (g := (mkF m 61 #[.val (.ref a1), .val (.ref a2), .val (.int (Int32.ofNat S)), .val (.int (Int32.ofNat N)), .val (.int (Int32.ofNat i)), .unset] [(.int ((Int32.ofNat i) + (1 : Int32))), (.ref b), (.int ((Int32.ofNat i) + (1 : Int32))), (.ref b)])) rfl rfl (hb hby d1_61)) ?_
    refine own_back (S' := T1.setTop (mkF m 63 #[.val (.ref a1), .val (.ref a2), .val (.int (Int32.ofNat S)), .val (.int (Int32.ofNat N)), .val (.int (Int32.ofNat i)), .unset] [(.ref a1), (.int (Int32.ofNat (own_g W S i (i + 1)))), (.int ((Int32.ofNat i) + (1 : Int32))), (.ref b)])) (fun _ k => XS.aloadN X1.here hx rfl (hb hby d1_62) rfl rfl k) ?_
    obtain ⟨T2, X2, e2, st2⟩ := getF X1 hx hZ hown (host := "") (Or.inl (hw _ (List.mem_of_getElem? (i := 11) rfl))) Via.refl e1 F0 (g := (mkF m 63 #[.val (.ref a1), .val (.ref a2), .val (.int (Int32.ofNat S)), .val (.int (Int32.ofNat N)), .val (.int (Int32.ofNat i)), .unset] [(.ref a1), (.int (Int32.ofNat (own_g W S i (i + 1)))), (.int ((Int32.ofNat i) + (1 : Int32))), (.ref b)])) rfl rfl (hb hby d1_63)
    refine own_back (S' := T2.setTop (mkF m 66 #[.val (.ref a1), .val (.ref a2), .val (.int (Int32.ofNat S)), .val (.int (Int32.ofNat N)), .val (.int (Int32.ofNat i)), .unset] [(.ref b), (.int (Int32.ofNat (own_g W S i (i + 1)))), (.int ((Int32.ofNat i) + (1 : Int32))), (.ref b)])) (st2) ?_
    refine own_back (S' := T2.setTop (mkF m 68 #[.val (.ref a1), .val (.ref a2), .val (.int (Int32.ofNat S)), .val (.int (Int32.ofNat N)), .val (.int (Int32.ofNat i)), .unset] [(.int (Int32.ofNat i)), (.ref b), (.int (Int32.ofNat (own_g W S i (i + 1)))), (.int ((Int32.ofNat i) + (1 : Int32))), (.ref b)])) (fun _ k => XS.iload X2.here hx rfl (hb hby d1_66) rfl k) ?_
    refine own_back (S' := T2.setTop (mkF m 69 #[.val (.ref a1), .val (.ref a2), .val (.int (Int32.ofNat S)), .val (.int (Int32.ofNat N)), .val (.int (Int32.ofNat i)), .unset] [(.int (Int32.ofNat (own_g W S i i))), (.int (Int32.ofNat (own_g W S i (i + 1)))), (.int ((Int32.ofNat i) + (1 : Int32))), (.ref b)])) (own_ldI X2 hx hZ e2 A0b (k := i) (w := (Int32.ofNat (own_g W S i i))) (own_nn _ (by omega)) (clamp_of rfl (by omega)) (by omega) rfl (g := (mkF m 68 #[.val (.ref a1), .val (.ref a2), .val (.int (Int32.ofNat S)), .val (.int (Int32.ofNat N)), .val (.int (Int32.ofNat i)), .unset] [(.int (Int32.ofNat i)), (.ref b), (.int (Int32.ofNat (own_g W S i (i + 1)))), (.int ((Int32.ofNat i) + (1 : Int32))), (.ref b)])) rfl rfl (hb hby d1_68)) ?_
    refine own_back (S' := T2.setTop (mkF m 70 #[.val (.ref a1), .val (.ref a2), .val (.int (Int32.ofNat S)), .val (.int (Int32.ofNat N)), .val (.int (Int32.ofNat i)), .unset] [(.int ((Int32.ofNat (own_g W S i (i + 1))) + (Int32.ofNat (own_g W S i i)))), (.int ((Int32.ofNat i) + (1 : Int32))), (.ref b)])) (fun _ k => XS.iadd X2.here hx rfl (hb hby d1_69) rfl k) ?_
    obtain ⟨T3, h3, X3, e3, W3, A3, st3⟩ := own_stI X2 hx hZ e2 A0b (k := (i + 1)) (own_nn1 _ (by omega)) (own_cl1 _ (by omega)) (by omega) (g := (mkF m 70 #[.val (.ref a1), .val (.ref a2), .val (.int (Int32.ofNat S)), .val (.int (Int32.ofNat N)), .val (.int (Int32.ofNat i)), .unset] [(.int ((Int32.ofNat (own_g W S i (i + 1))) + (Int32.ofNat (own_g W S i i)))), (.int ((Int32.ofNat i) + (1 : Int32))), (.ref b)])) rfl rfl (hb hby d1_70)
    have N3 := Fr.snoc X3 N0 gb
    have Z3 : n0 ≤ h3.size := Nat.le_trans Z0 (Nat.le_of_eq W3.size.symm)
    have E_a1_3 := E0.wr W3
    have F_a1_firsts_3 := F0.other W3 (Or.inl ne1b)
    have F_a1_order_3 := F0o.other W3 (Or.inl ne1b)
    have A_a2_3 := A0w.other W3 ne2b
    have K3 : Keep h0 h3 [a1] := K0.wr W3 (Or.inr szb)
    refine own_back (S' := T3.setTop (mkF m 71 #[.val (.ref a1), .val (.ref a2), .val (.int (Int32.ofNat S)), .val (.int (Int32.ofNat N)), .val (.int (Int32.ofNat i)), .unset] [])) (st3) ?_
    refine own_back (S' := T3.setTop (mkF m 74 #[.val (.ref a1), .val (.ref a2), .val (.int (Int32.ofNat S)), .val (.int (Int32.ofNat N)), .val (.int ((Int32.ofNat i) + (1 : Int32))), .unset] [])) (fun _ k => XS.iinc X3.here hx rfl (hb hby d1_71) rfl (l' := #[.val (.ref a1), .val (.ref a2), .val (.int (Int32.ofNat S)), .val (.int (Int32.ofNat N)), .val (.int ((Int32.ofNat i) + (1 : Int32))), .unset]) rfl k) ?_
    refine own_back (S' := T3.setTop (mkF m 46 #[.val (.ref a1), .val (.ref a2), .val (.int (Int32.ofNat S)), .val (.int (Int32.ofNat N)), .val (.int ((Int32.ofNat i) + (1 : Int32))), .unset] [])) (fun _ k => XS.goto X3.here hx rfl (pc0 := 74) (pc' := 46) rfl (hb hby d1_74) (by decide) (by decide) k) ?_
    rw [← inc_ofNat i]
    exact ih (i + 1) _ _ _ (by omega) X3 e3 N3 ⟨Z3, K3, E_a1_3, F_a1_firsts_3, F_a1_order_3, A_a2_3, A3.cong (fun k hk => own_step2 W S i k)⟩
set_option maxRecDepth 65536 in
set_option maxHeartbeats 40000000 in
theorem own_loop3 {p : Program} {l : Launch} {e : Env} {R : Room} {s : State} {m : MethodId} {args : Array Value} {below : List Frame} {meth : Method} {c : Code} {cells slots : Nat} {Z : State} {a0 : Array Value} {G : State → Outcome → Prop} (hx : p.tables.exec = Jvm.exec) (hZ : Z.Warmed39 s.vm) (hw : ∀ d ∈ tables_1, d.before a0 Z = true) (hby : c.code = prog_38_method_1_code) (hml : c.maxLocals = 6) (hown : s.vm.findClass "com/example/plankeeper/plankeeper/inputs/ParticipantRanges" = some m.cls) {h0 : Heap} {n0 : Nat} {a1 a2 b d o : Addr} {S N : Nat} {W : Nat → Nat} (hS : S ≤ 4) (hN : N ≤ 4) (hW : ∀ j, j < 4 → W j < N) (ne1b : a1 ≠ b) (ne2b : a2 ≠ b) (gb : n0 ≤ b) (szb : h0.size ≤ b) (ne_a1_d : a1 ≠ d) (ne_a2_d : a2 ≠ d) (ne_b_d : b ≠ d) (ne_o_d : o ≠ d) (ne_a1_o : a1 ≠ o) (ne_a2_o : a2 ≠ o) (ne_b_o : b ≠ o) (gd : n0 ≤ d) (go : n0 ≤ o) (szd : h0.size ≤ d) (szo : h0.size ≤ o)
    (cont : ∀ T h locs, Stand p l e R s m args below meth c T locs cells slots → T.heap = h → Fr n0 locs → own_F3 Z h0 n0 a1 a2 b d o S N W (fun w => Int32.ofNat (own_lt W S w + own_e1 W S (w + 1))) h → own_G p e below G (T.setTop (mkF m 128 #[.val (.ref a1), .val (.ref a2), .val (.int (Int32.ofNat S)), .val (.int (Int32.ofNat N)), .val (.ref d), .val (.int (Int32.ofNat S))] []))) :
    ∀ (t i : Nat) (T0 : State) (hh : Heap) (locs : List Loc), i + t = S → Stand p l e R s m args below meth c T0 locs cells slots → T0.heap = hh → Fr n0 locs → own_F3 Z h0 n0 a1 a2 b d o S N W (fun w => Int32.ofNat (own_lt W S w + own_e1 W i (w + 1))) hh → own_G p e below G (T0.setTop (mkF m 97 #[.val (.ref a1), .val (.ref a2), .val (.int (Int32.ofNat S)), .val (.int (Int32.ofNat N)), .val (.ref d), .val (.int (Int32.ofNat i))] [])) := by
  intro t
  induction t with
  | zero =>
    intro i T0 hh locs hi X0 e0 N0 FF
    have hiS : i = S := by omega
    rw [hiS] at FF ⊢
    have FF' := FF
    obtain ⟨Z0, K0, E0, F0, F0o, A0w, A0b, A0d, fo, A0o⟩ := FF
    refine own_back (S' := T0.setTop (mkF m 99 #[.val (.ref a1), .val (.ref a2), .val (.int (Int32.ofNat S)), .val (.int (Int32.ofNat N)), .val (.ref d), .val (.int (Int32.ofNat S))] [(.int (Int32.ofNat S))])) (fun _ k => XS.iload X0.here hx rfl (hb hby d1_97) rfl k) ?_
    refine own_back (S' := T0.setTop (mkF m 100 #[.val (.ref a1), .val (.ref a2), .val (.int (Int32.ofNat S)), .val (.int (Int32.ofNat N)), .val (.ref d), .val (.int (Int32.ofNat S))] [(.int (Int32.ofNat S)), (.int (Int32.ofNat S))])) (fun _ k => XS.iloadN X0.here hx rfl (hb hby d1_99) rfl k) ?_
    refine own_back (S' := T0.setTop (mkF m 128 #[.val (.ref a1), .val (.ref a2), .val (.int (Int32.ofNat S)), .val (.int (Int32.ofNat N)), .val (.ref d), .val (.int (Int32.ofNat S))] [])) (fun _ k => XS.icmpYes X0.here hx rfl (pc0 := 100) (pc' := 128) rfl (hb hby d1_100) rfl (flt ((fun q => by have := (own_ltn (by omega) (by omega)).mp q; omega) : ¬ ((Int32.ofNat S) < (Int32.ofNat S)))).2.1 (by decide) (by decide) k) ?_
    exact cont _ _ _ X0 e0 N0 FF'
  | succ t ih =>
    intro i T0 hh locs hi X0 e0 N0 FF
    have hlt : Int32.ofNat i < Int32.ofNat S := (own_ltn (by omega) (by omega)).mpr (by omega)
    have FF' := FF
    obtain ⟨Z0, K0, E0, F0, F0o, A0w, A0b, A0d, fo, A0o⟩ := FF
    refine own_back (S' := T0.setTop (mkF m 99 #[.val (.ref a1), .val (.ref a2), .val (.int (Int32.ofNat S)), .val (.int (Int32.ofNat N)), .val (.ref d), .val (.int (Int32.ofNat i))] [(.int (Int32.ofNat i))])) (fun _ k => XS.iload X0.here hx rfl (hb hby d1_97) rfl k) ?_
    refine own_back (S' := T0.setTop (mkF m 100 #[.val (.ref a1), .val (.ref a2), .val (.int (Int32.ofNat S)), .val (.int (Int32.ofNat N)), .val (.ref d), .val (.int (Int32.ofNat i))] [(.int (Int32.ofNat S)), (.int (Int32.ofNat i))])) (fun _ k => XS.iloadN X0.here hx rfl (hb hby d1_99) rfl k) ?_
    refine own_back (S' := T0.setTop (mkF m 103 #[.val (.ref a1), .val (.ref a2), .val (.int (Int32.ofNat S)), .val (.int (Int32.ofNat N)), .val (.ref d), .val (.int (Int32.ofNat i))] [])) (fun _ k => XS.icmpNo X0.here hx rfl (hb hby d1_100) rfl (tlt (hlt : (Int32.ofNat i) < (Int32.ofNat S))).2.1 k) ?_
    refine own_back (S' := T0.setTop (mkF m 104 #[.val (.ref a1), .val (.ref a2), .val (.int (Int32.ofNat S)), .val (.int (Int32.ofNat N)), .val (.ref d), .val (.int (Int32.ofNat i))] [(.ref a1)])) (fun _ k => XS.aloadN X0.here hx rfl (hb hby d1_103) rfl rfl k) ?_
    obtain ⟨T1, X1, e1, st1⟩ := getF X0 hx hZ hown (host := "") (Or.inl (hw _ (List.mem_of_getElem? (i := 13) rfl))) Via.refl e0 F0o (g := (mkF m 104 #[.val (.ref a1), .val (.ref a2), .val (.int (Int32.ofNat S)), .val (.int (Int32.ofNat N)), .val (.ref d), .val (.int (Int32.ofNat i))] [(.ref a1)])) rfl rfl (hb hby d1_104)
    refine own_back (S' := T1.setTop (mkF m 107 #[.val (.ref a1), .val (.ref a2), .val (.int (Int32.ofNat S)), .val (.int (Int32.ofNat N)), .val (.ref d), .val (.int (Int32.ofNat i))] [(.ref o)])) (st1) ?_
    refine own_back (S' := T1.setTop (mkF m 109 #[.val (.ref a1), .val (.ref a2), .val (.int (Int32.ofNat S)), .val (.int (Int32.ofNat N)), .val (.ref d), .val (.int (Int32.ofNat i))] [(.ref d), (.ref o)])) (fun _ k => XS.aload X1.here hx rfl (hb hby d1_107) rfl rfl k) ?_
    refine own_back (S' := T1.setTop (mkF m 110 #[.val (.ref a1), .val (.ref a2), .val (.int (Int32.ofNat S)), .val (.int (Int32.ofNat N)), .val (.ref d), .val (.int (Int32.ofNat i))] [(.ref a2), (.ref d), (.ref o)])) (fun _ k => XS.aloadN X1.here hx rfl (hb hby d1_109) rfl rfl k) ?_
    refine own_back (S' := T1.setTop (mkF m 112 #[.val (.ref a1), .val (.ref a2), .val (.int (Int32.ofNat S)), .val (.int (Int32.ofNat N)), .val (.ref d), .val (.int (Int32.ofNat i))] [(.int (Int32.ofNat i)), (.ref a2), (.ref d), (.ref o)])) (fun _ k => XS.iload X1.here hx rfl (hb hby d1_110) rfl k) ?_
    refine own_back (S' := T1.setTop (mkF m 113 #[.val (.ref a1), .val (.ref a2), .val (.int (Int32.ofNat S)), .val (.int (Int32.ofNat N)), .val (.ref d), .val (.int (Int32.ofNat i))] [(.int (Int32.ofNat (W i))), (.ref d), (.ref o)])) (own_ldI X1 hx hZ e1 A0w (k := i) (w := (Int32.ofNat (W i))) (own_nn _ (by omega)) (clamp_of rfl (by omega)) (by omega) rfl (g := (mkF m 112 #[.val (.ref a1), .val (.ref a2), .val (.int (Int32.ofNat S)), .val (.int (Int32.ofNat N)), .val (.ref d), .val (.int (Int32.ofNat i))] [(.int (Int32.ofNat i)), (.ref a2), (.ref d), (.ref o)])) rfl rfl (hb hby d1_112)) ?_
    refine own_back (S' := T1.setTop (mkF m 114 #[.val (.ref a1), .val (.ref a2), .val (.int (Int32.ofNat S)), .val (.int (Int32.ofNat N)), .val (.ref d), .val (.int (Int32.ofNat i))] [(.int (Int32.ofNat (W i))), (.ref d), (.int (Int32.ofNat (W i))), (.ref d), (.ref o)])) (fun _ k => Jvm.Free.XT.dup2 X1.here hx rfl (hb hby d1_113) rfl rfl rfl k) ?_
    refine own_back (S' := T1.setTop (mkF m 115 #[.val (.ref a1), .val (.ref a2), .val (.int (Int32.ofNat S)), .val (.int (Int32.ofNat N)), .val (.ref d), .val (.int (Int32.ofNat i))] [(.int (Int32.ofNat (own_lt W S (W i) + own_e1 W i (W i + 1)))), (.int (Int32.ofNat (W i))), (.ref d), (.ref o)])) (own_ldI X1 hx hZ e1 A0d (k := (W i)) (w := (Int32.ofNat (own_lt W S (W i) + own_e1 W i (W i + 1)))) (own_nn _ (by have := hW i (by omega); omega)) (clamp_of rfl (by have := hW i (by omega); omega)) (by have := hW i (by omega); omega) rfl (g := (mkF m 114 #[.val (.ref a1), .val (.ref a2), .val (.int (Int32.ofNat S)), .val (.int (Int32.ofNat N)), .val (.ref d), .val (.int (Int32.ofNat i))] [(.int (Int32.ofNat (W i))), (.ref d), (.int (Int32.ofNat (W i))), (.ref d), (.ref o)])) rfl rfl (hb hby d1_114)) ?_
    refine own_back (S' := T1.setTop (mkF m 116 #[.val (.ref a1), .val (.ref a2), .val (.int (Int32.ofNat S)), .val (.int (Int32.ofNat N)), .val (.ref d), .val (.int (Int32.ofNat i))] [(.int (Int32.ofNat (own_lt W S (W i) + own_e1 W i (W i + 1)))), (.int (Int32.ofNat (W i))), (.ref d), (.int (Int32.ofNat (own_lt W S (W i) + own_e1 W i (W i + 1)))), (.ref o)])) (fun _ k => own_dupX2 X1.here hx rfl (hb hby d1_115) rfl rfl rfl rfl k) ?_
    refine own_back (S' := T1.setTop (mkF m 117 #[.val (.ref a1), .val (.ref a2), .val (.int (Int32.ofNat S)), .val (.int (Int32.ofNat N)), .val (.ref d), .val (.int (Int32.ofNat i))] [(.int (1 : Int32)), (.int (Int32.ofNat (own_lt W S (W i) + own_e1 W i (W i + 1)))), (.int (Int32.ofNat (W i))), (.ref d), (.int (Int32.ofNat (own_lt W S (W i) + own_e1 W i (W i + 1)))), (.ref o)])) (fun _ k => XS.iconst X1.here hx rfl (hb hby d1_116)  k) ?_
    refine own_back (S' := T1.setTop (mkF m 118 #[.val (.ref a1), .val (.ref a2), .val (.int (Int32.ofNat S)), .val (.int (Int32.ofNat N)), .val (.ref d), .val (.int (Int32.ofNat i))] [(.int ((Int32.ofNat (own_lt W S (W i) + own_e1 W i (W i + 1))) + (1 : Int32))), (.int (Int32.ofNat (W i))), (.ref d), (.int (Int32.ofNat (own_lt W S (W i) + own_e1 W i (W i + 1)))), (.ref o)])) (fun _ k => XS.iadd X1.here hx rfl (hb hby d1_117) rfl k) ?_
    obtain ⟨T2, h2, X2, e2, W2, A2, st2⟩ := own_stI X1 hx hZ e1 A0d (k := (W i)) (own_nn _ (by have := hW i (by omega); omega)) (clamp_of rfl (by have := hW i (by omega); omega)) (by have := hW i (by omega); omega) (g := (mkF m 118 #[.val (.ref a1), .val (.ref a2), .val (.int (Int32.ofNat S)), .val (.int (Int32.ofNat N)), .val (.ref d), .val (.int (Int32.ofNat i))] [(.int ((Int32.ofNat (own_lt W S (W i) + own_e1 W i (W i + 1))) + (1 : Int32))), (.int (Int32.ofNat (W i))), (.ref d), (.int (Int32.ofNat (own_lt W S (W i) + own_e1 W i (W i + 1)))), (.ref o)])) rfl rfl (hb hby d1_118)
    have N2 := Fr.snoc X2 N0 gd
    have Z2 : n0 ≤ h2.size := Nat.le_trans Z0 (Nat.le_of_eq W2.size.symm)
    have E_a1_2 := E0.wr W2
    have F_a1_firsts_2 := F0.other W2 (Or.inl ne_a1_d)
    have F_a1_order_2 := F0o.other W2 (Or.inl ne_a1_d)
    have A_a2_2 := A0w.other W2 ne_a2_d
    have A_b_2 := A0b.other W2 ne_b_d
    have A_o_2 := A0o.other W2 ne_o_d
    have K2 : Keep h0 h2 [a1] := K0.wr W2 (Or.inr szd)
    refine own_back (S' := T2.setTop (mkF m 119 #[.val (.ref a1), .val (.ref a2), .val (.int (Int32.ofNat S)), .val (.int (Int32.ofNat N)), .val (.ref d), .val (.int (Int32.ofNat i))] [(.int (Int32.ofNat (own_lt W S (W i) + own_e1 W i (W i + 1)))), (.ref o)])) (st2) ?_
    refine own_back (S' := T2.setTop (mkF m 121 #[.val (.ref a1), .val (.ref a2), .val (.int (Int32.ofNat S)), .val (.int (Int32.ofNat N)), .val (.ref d), .val (.int (Int32.ofNat i))] [(.int (Int32.ofNat i)), (.int (Int32.ofNat (own_lt W S (W i) + own_e1 W i (W i + 1)))), (.ref o)])) (fun _ k => XS.iload X2.here hx rfl (hb hby d1_119) rfl k) ?_
    obtain ⟨T3, h3, X3, e3, W3, A3, st3⟩ := own_stI X2 hx hZ e2 A_o_2 (k := (own_lt W S (W i) + own_e1 W i (W i + 1))) (own_nn _ (by have := own_bound W S i (by omega); omega)) (clamp_of rfl (by have := own_bound W S i (by omega); omega)) (own_bound W S i (by omega)) (g := (mkF m 121 #[.val (.ref a1), .val (.ref a2), .val (.int (Int32.ofNat S)), .val (.int (Int32.ofNat N)), .val (.ref d), .val (.int (Int32.ofNat i))] [(.int (Int32.ofNat i)), (.int (Int32.ofNat (own_lt W S (W i) + own_e1 W i (W i + 1)))), (.ref o)])) rfl rfl (hb hby d1_121)
    have N3 := Fr.snoc X3 N2 go
    have Z3 : n0 ≤ h3.size := Nat.le_trans Z2 (Nat.le_of_eq W3.size.symm)
    have E_a1_3 := E_a1_2.wr W3
    have F_a1_firsts_3 := F_a1_firsts_2.other W3 (Or.inl ne_a1_o)
    have F_a1_order_3 := F_a1_order_2.other W3 (Or.inl ne_a1_o)
    have A_a2_3 := A_a2_2.other W3 ne_a2_o
    have A_b_3 := A_b_2.other W3 ne_b_o
    have A_d_3 := A2.other W3 (Ne.symm ne_o_d)
    have K3 : Keep h0 h3 [a1] := K2.wr W3 (Or.inr szo)
    refine own_back (S' := T3.setTop (mkF m 122 #[.val (.ref a1), .val (.ref a2), .val (.int (Int32.ofNat S)), .val (.int (Int32.ofNat N)), .val (.ref d), .val (.int (Int32.ofNat i))] [])) (st3) ?_
    refine own_back (S' := T3.setTop (mkF m 125 #[.val (.ref a1), .val (.ref a2), .val (.int (Int32.ofNat S)), .val (.int (Int32.ofNat N)), .val (.ref d), .val (.int ((Int32.ofNat i) + (1 : Int32)))] [])) (fun _ k => XS.iinc X3.here hx rfl (hb hby d1_122) rfl (l' := #[.val (.ref a1), .val (.ref a2), .val (.int (Int32.ofNat S)), .val (.int (Int32.ofNat N)), .val (.ref d), .val (.int ((Int32.ofNat i) + (1 : Int32)))]) rfl k) ?_
    refine own_back (S' := T3.setTop (mkF m 97 #[.val (.ref a1), .val (.ref a2), .val (.int (Int32.ofNat S)), .val (.int (Int32.ofNat N)), .val (.ref d), .val (.int ((Int32.ofNat i) + (1 : Int32)))] [])) (fun _ k => XS.goto X3.here hx rfl (pc0 := 125) (pc' := 97) rfl (hb hby d1_125) (by decide) (by decide) k) ?_
    rw [← inc_ofNat i]
    exact ih (i + 1) _ _ _ (by omega) X3 e3 N3 ⟨Z3, K3, E_a1_3, F_a1_firsts_3, F_a1_order_3, A_a2_3, A_b_3, A_d_3.cong (fun k hk => own_step3 W S i k), _, A3⟩
theorem own_start2 (W : Nat → Nat) (S k : Nat) : Int32.ofNat (own_e1 W S k) = Int32.ofNat (own_g W S 0 k) := by
  simp only [own_g]
  by_cases h : k ≤ 0
  · obtain rfl : k = 0 := by omega
    rw [if_pos h, own_lt_zero, own_e1_zero]
  · rw [if_neg h]
theorem own_end2 (W : Nat → Nat) (S N k : Nat) (h : k < N + 1) : Int32.ofNat (own_g W S N k) = Int32.ofNat (own_lt W S k) := by
  simp only [own_g]
  rw [if_pos (by omega)]
theorem pd_1 : parseMethodDescriptor "([II)[I" = some ⟨[(.array .int), .int], some (.array .int)⟩ := by decide +kernel
theorem ef_1 (m : MethodId) (x0 : Addr) (x1 : Addr) (x2 : Int32) (x3 : Int32) : entryFrame m #[(.ref x0), (.ref x1), (.int x2), (.int x3)] 6 = mkF m 0 #[.val (.ref x0), .val (.ref x1), .val (.int x2), .val (.int x3), .unset, .unset] [] := by first | (simp [entryFrame, mkF, argsToLocals, Value.category]; done) | rfl
def Q1 (Z : State) (a1 : Addr) (a2 : Addr) (S : Nat) (N : Nat) (W : Nat → Nat) (h0 : Heap) (n0 : Nat) (v : Option Value) (h : Heap) (L : List Loc) : Prop := v = none ∧ Fr n0 L ∧ Keep h0 h [a1] ∧ Exa Z h a1 "com/example/plankeeper/plankeeper/inputs/ParticipantRanges" ∧ Fld Z h a1 "com/example/plankeeper/plankeeper/inputs/ParticipantRanges" "firsts" "[I" (.ref h0.size) ∧ own_I Z h h0.size .int (N + 1) (fun k => Int32.ofNat (own_lt W S k))
set_option maxRecDepth 65536 in
set_option maxHeartbeats 40000000 in
theorem rm1 (l : Launch) (Z : State) (a0 : Array Value) (hw : ∀ d ∈ tables_1, d.before a0 Z = true) (ws : List Jvm.Cond) (a1 : Addr) (a2 : Addr) (S : Nat) (N : Nat) (W : Nat → Nat) (h0 : Heap) (n0 : Nat) (Z0 : n0 ≤ h0.size) (E1 : Exa Z h0 a1 "com/example/plankeeper/plankeeper/inputs/ParticipantRanges") (g1 : n0 ≤ a1) (F1 : Fld Z h0 a1 "com/example/plankeeper/plankeeper/inputs/ParticipantRanges" "firsts" "[I" .null) (F1o : Fld Z h0 a1 "com/example/plankeeper/plankeeper/inputs/ParticipantRanges" "order" "[I" .null) (PA : own_I Z h0 a2 .int 4 (fun i => Int32.ofNat (W i))) (ne12 : a1 ≠ a2) (hS : S ≤ 4) (hN : N ≤ 4) (hN1 : 1 ≤ N) (hW : ∀ j, j < 4 → W j < N) :
    MetFree l (⟨"com/example/plankeeper/plankeeper/inputs/ParticipantRanges", "<init>", "([III)V"⟩ : MethodName) (head1 (Jvm.Cond.code (⟨"com/example/plankeeper/plankeeper/inputs/ParticipantRanges", "<init>", "([III)V"⟩ : MethodName) prog_38_method_1_code 6 none :: ws) ({ frames := 2, cells := 3, slots := 13, locals := 32 } : Room)) (fun a U => a = #[(.ref a1), (.ref a2), (.int (Int32.ofNat S)), (.int (Int32.ofNat N))] ∧ Z.Warmed39 U.vm ∧ U.heap = h0) (fun _ _ _ _ _ => True) (fun _ U o U' => ∃ v L, o = .returned v ∧ Q1 Z a1 a2 S N W h0 n0 v U'.heap L ∧ FrameEnd U o U' L ({ frames := 2, cells := 3, slots := 13, locals := 32 } : Room).cells ({ frames := 2, cells := 3, slots := 13, locals := 32 } : Room).slots) := by
  refine MetFree.of_bodySF (plainFor_of_name pn_com_example_plankeeper_plankeeper_inputs_ParticipantRanges) hisR ?_
  intro p e s m args below meth c s₁ Bd hml0 hP hK
  obtain ⟨rfl, hZ, hh⟩ := hP
  have hx := Bd.exec
  have hby := Bd.bytes
  have hml : c.maxLocals = 6 := hml0
  have hown : s.vm.findClass "com/example/plankeeper/plankeeper/inputs/ParticipantRanges" = some m.cls := findClass_of_methodNamed Bd.named
  have hnm := (name_of_methodNamed Bd.named Bd.method).1
  have X0 : Stand p l e ({ frames := 2, cells := 3, slots := 13, locals := 32 } : Room) s m #[(.ref a1), (.ref a2), (.int (Int32.ofNat S)), (.int (Int32.ofNat N))] below meth c s₁ [] 0 0 := Stand.of_body Bd
  have e0 : s₁.heap = h0 := by rw [← hh, Bd.state]; rfl
  have N0 := Fr.nil n0
  refine own_open (S' := s₁.setTop (mkF m 0 #[.val (.ref a1), .val (.ref a2), .val (.int (Int32.ofNat S)), .val (.int (Int32.ofNat N)), .unset, .unset] [])) (fun t k => castTop (ef_1 m a1 a2 (Int32.ofNat S) (Int32.ofNat N)) k) ?_
  refine own_back (S' := s₁.setTop (mkF m 1 #[.val (.ref a1), .val (.ref a2), .val (.int (Int32.ofNat S)), .val (.int (Int32.ofNat N)), .unset, .unset] [(.ref a1)])) (fun _ k => XS.aloadN X0.here hx rfl (hb hby d1_0) rfl rfl k) ?_
  obtain ⟨T1, X1, e1, st1⟩ := initO X0 hx hZ hown (hw _ (List.mem_of_getElem? (i := 8) rfl)) (hw _ (List.mem_of_getElem? (i := 9) rfl)) (hw _ (List.mem_of_getElem? (i := 10) rfl)) e0 (g := (mkF m 1 #[.val (.ref a1), .val (.ref a2), .val (.int (Int32.ofNat S)), .val (.int (Int32.ofNat N)), .unset, .unset] [(.ref a1)])) rfl (by rw [hml]; rfl) rfl (hb hby d1_1) (by decide) (W := 0) (by show 2 * 0 + _ ≤ _; exact Nat.le_of_eq rfl) (by decide)
  refine own_back (S' := T1.setTop (mkF m 4 #[.val (.ref a1), .val (.ref a2), .val (.int (Int32.ofNat S)), .val (.int (Int32.ofNat N)), .unset, .unset] [])) (st1) ?_
  refine own_back (S' := T1.setTop (mkF m 5 #[.val (.ref a1), .val (.ref a2), .val (.int (Int32.ofNat S)), .val (.int (Int32.ofNat N)), .unset, .unset] [(.ref a1)])) (fun _ k => XS.aloadN X1.here hx rfl (hb hby d1_4) rfl rfl k) ?_
  refine own_back (S' := T1.setTop (mkF m 6 #[.val (.ref a1), .val (.ref a2), .val (.int (Int32.ofNat S)), .val (.int (Int32.ofNat N)), .unset, .unset] [(.int (Int32.ofNat N)), (.ref a1)])) (fun _ k => XS.iloadN X1.here hx rfl (hb hby d1_5) rfl k) ?_
  refine own_back (S' := T1.setTop (mkF m 7 #[.val (.ref a1), .val (.ref a2), .val (.int (Int32.ofNat S)), .val (.int (Int32.ofNat N)), .unset, .unset] [(.int (1 : Int32)), (.int (Int32.ofNat N)), (.ref a1)])) (fun _ k => XS.iconst X1.here hx rfl (hb hby d1_6)  k) ?_
  refine own_back (S' := T1.setTop (mkF m 8 #[.val (.ref a1), .val (.ref a2), .val (.int (Int32.ofNat S)), .val (.int (Int32.ofNat N)), .unset, .unset] [(.int ((Int32.ofNat N) + (1 : Int32))), (.ref a1)])) (fun _ k => XS.iadd X1.here hx rfl (hb hby d1_7) rfl k) ?_
  obtain ⟨T2, h2, X2, e2, E2, A2, st2⟩ := own_newI X1 hx hZ (hw _ (List.mem_of_getElem? (i := 0) rfl)) e1 (g := (mkF m 8 #[.val (.ref a1), .val (.ref a2), .val (.int (Int32.ofNat S)), .val (.int (Int32.ofNat N)), .unset, .unset] [(.int ((Int32.ofNat N) + (1 : Int32))), (.ref a1)])) rfl (hb hby d1_8) rfl (own_nn1 _ (by omega)) (k := (N + 1)) (own_cl1 _ (by omega)) (cap := 5) (by omega) (by decide) (by decide) (by decide)
  obtain ⟨b2, g2⟩ : ∃ z, z = h0.size := ⟨_, rfl⟩
  rw [← g2] at A2 st2
  have g_b2 : n0 ≤ b2 := Nat.le_trans Z0 (Nat.le_of_eq g2.symm)
  have ne_a1_b2 : a1 ≠ b2 := Nat.ne_of_lt (Nat.lt_of_lt_of_le E1.lt (Nat.le_of_eq g2.symm))
  have ne_a2_b2 : a2 ≠ b2 := Nat.ne_of_lt (Nat.lt_of_lt_of_le PA.lt (Nat.le_of_eq g2.symm))
  have Z2 : n0 ≤ h2.size := Nat.le_trans Z0 E2.1
  have E_a1_2 := E1.ext E2
  have F_a1_firsts_2 := F1.ext E2
  have F_a1_order_2 := F1o.ext E2
  have A_a2_2 := PA.ext E2
  have sz_b2 : h0.size ≤ b2 := Nat.le_trans (Keep.refl h0 [a1]).1 (Nat.le_of_eq g2.symm)
  have K2 : Keep h0 h2 [a1] := (Keep.refl h0 [a1]).ext E2
  refine own_back (S' := T2.setTop (mkF m 10 #[.val (.ref a1), .val (.ref a2), .val (.int (Int32.ofNat S)), .val (.int (Int32.ofNat N)), .unset, .unset] [(.ref b2), (.ref a1)])) (st2) ?_
  obtain ⟨T3, h3, X3, e3, W3, st3⟩ := putF X2 hx hZ hown (host := "") (Or.inl (hw _ (List.mem_of_getElem? (i := 11) rfl))) Via.refl e2 F_a1_firsts_2 E_a1_2 (Or.inr ⟨(hw _ (List.mem_of_getElem? (i := 12) rfl)), rfl, hnm⟩) (hw _ (List.mem_of_getElem? (i := 3) rfl)) (ty := (.array .int)) (by decide) rfl rfl (g := (mkF m 10 #[.val (.ref a1), .val (.ref a2), .val (.int (Int32.ofNat S)), .val (.int (Int32.ofNat N)), .unset, .unset] [(.ref b2), (.ref a1)])) rfl rfl (hb hby d1_10)
  have N3 := Fr.snoc X3 N0 g1
  have Z3 : n0 ≤ h3.size := Nat.le_trans Z2 (Nat.le_of_eq W3.size.symm)
  have E_a1_3 := E_a1_2.wr W3
  have F_a1_order_3 := F_a1_order_2.other W3 (Or.inr (slot_ne (Or.inr (hw _ (List.mem_of_getElem? (i := 14) rfl))) (Or.inr (hw _ (List.mem_of_getElem? (i := 12) rfl))) (by decide) (t := (.array .int)) (t' := (.array .int)) (by decide) (by decide)))
  have A_a2_3 := A_a2_2.other W3 (Ne.symm ne12)
  have A_b2_3 := A2.other W3 (Ne.symm ne_a1_b2)
  have F_a1_firsts_3 := F_a1_firsts_2.same W3
  have K3 : Keep h0 h3 [a1] := K2.wr W3 (Or.inl (List.mem_of_getElem? (i := 0) rfl))
  refine own_back (S' := T3.setTop (mkF m 13 #[.val (.ref a1), .val (.ref a2), .val (.int (Int32.ofNat S)), .val (.int (Int32.ofNat N)), .unset, .unset] [])) (st3) ?_
  refine own_back (S' := T3.setTop (mkF m 14 #[.val (.ref a1), .val (.ref a2), .val (.int (Int32.ofNat S)), .val (.int (Int32.ofNat N)), .unset, .unset] [(.int (0 : Int32))])) (fun _ k => XS.iconst X3.here hx rfl (hb hby d1_13)  k) ?_
  refine own_back (S' := T3.setTop (mkF m 16 #[.val (.ref a1), .val (.ref a2), .val (.int (Int32.ofNat S)), .val (.int (Int32.ofNat N)), .val (.int (0 : Int32)), .unset] [])) (fun _ k => XS.istore X3.here hx rfl (hb hby d1_14) rfl (l' := #[.val (.ref a1), .val (.ref a2), .val (.int (Int32.ofNat S)), .val (.int (Int32.ofNat N)), .val (.int (0 : Int32)), .unset]) rfl k) ?_
  refine own_loop1 hx hZ hw hby hml hown hS hN hW ne_a1_b2 ne_a2_b2 g_b2 sz_b2 ?_ S 0 _ _ _ (by omega) X3 e3 N3 ⟨Z3, K3, E_a1_3, F_a1_firsts_3, F_a1_order_3, A_a2_3, A_b2_3.cong (fun k hk => rfl)⟩
  intro T4 h4 L4 X4 e4 N4 FF4
  obtain ⟨Z4, K4, E4, F4, Fo4, Aw4, Ab4⟩ := FF4
  refine own_back (S' := T4.setTop (mkF m 44 #[.val (.ref a1), .val (.ref a2), .val (.int (Int32.ofNat S)), .val (.int (Int32.ofNat N)), .val (.int (Int32.ofNat S)), .unset] [(.int (0 : Int32))])) (fun _ k => XS.iconst X4.here hx rfl (hb hby d1_43)  k) ?_
  refine own_back (S' := T4.setTop (mkF m 46 #[.val (.ref a1), .val (.ref a2), .val (.int (Int32.ofNat S)), .val (.int (Int32.ofNat N)), .val (.int (0 : Int32)), .unset] [])) (fun _ k => XS.istore X4.here hx rfl (hb hby d1_44) rfl (l' := #[.val (.ref a1), .val (.ref a2), .val (.int (Int32.ofNat S)), .val (.int (Int32.ofNat N)), .val (.int (0 : Int32)), .unset]) rfl k) ?_
  refine own_loop2 (S := S) hx hZ hw hby hml hown hS hN hW ne_a1_b2 ne_a2_b2 g_b2 sz_b2 ?_ N 0 _ _ _ (by omega) X4 e4 N4 ⟨Z4, K4, E4, F4, Fo4, Aw4, Ab4.cong (fun k hk => own_start2 W S k)⟩
  intro T5 h5 L5 X5 e5 N5 FF5
  obtain ⟨Z5, K5, E5, F5, Fo5, Aw5, Ab5⟩ := FF5
  have Abl5 : own_I Z h5 b2 .int (N + 1) (fun k => Int32.ofNat (own_lt W S k)) := Ab5.cong (fun k hk => own_end2 W S N k hk)
  refine own_back (S' := T5.setTop (mkF m 78 #[.val (.ref a1), .val (.ref a2), .val (.int (Int32.ofNat S)), .val (.int (Int32.ofNat N)), .val (.int (Int32.ofNat N)), .unset] [(.ref a1)])) (fun _ k => XS.aloadN X5.here hx rfl (hb hby d1_77) rfl rfl k) ?_
  refine own_back (S' := T5.setTop (mkF m 79 #[.val (.ref a1), .val (.ref a2), .val (.int (Int32.ofNat S)), .val (.int (Int32.ofNat N)), .val (.int (Int32.ofNat N)), .unset] [(.int (Int32.ofNat S)), (.ref a1)])) (fun _ k => XS.iloadN X5.here hx rfl (hb hby d1_78) rfl k) ?_
  obtain ⟨T6, h6, X6, e6, E6, A6, st6⟩ := own_newI X5 hx hZ (hw _ (List.mem_of_getElem? (i := 0) rfl)) e5 (g := (mkF m 79 #[.val (.ref a1), .val (.ref a2), .val (.int (Int32.ofNat S)), .val (.int (Int32.ofNat N)), .val (.int (Int32.ofNat N)), .unset] [(.int (Int32.ofNat S)), (.ref a1)])) rfl (hb hby d1_79) rfl (own_nn _ (by omega)) (k := S) (clamp_of rfl (by omega)) (cap := 4) (by omega) (by decide) (by decide) (by decide)
  obtain ⟨b6, g6⟩ : ∃ z, z = h5.size := ⟨_, rfl⟩
  rw [← g6] at A6 st6
  have g_b6 : n0 ≤ b6 := Nat.le_trans Z5 (Nat.le_of_eq g6.symm)
  have ne_a1_b6 : a1 ≠ b6 := Nat.ne_of_lt (Nat.lt_of_lt_of_le E5.lt (Nat.le_of_eq g6.symm))
  have ne_a2_b6 : a2 ≠ b6 := Nat.ne_of_lt (Nat.lt_of_lt_of_le Aw5.lt (Nat.le_of_eq g6.symm))
  have ne_b2_b6 : b2 ≠ b6 := Nat.ne_of_lt (Nat.lt_of_lt_of_le Abl5.lt (Nat.le_of_eq g6.symm))
  have Z6 : n0 ≤ h6.size := Nat.le_trans Z5 E6.1
  have E_a1_6 := E5.ext E6
  have F_a1_firsts_6 := F5.ext E6
  have F_a1_order_6 := Fo5.ext E6
  have A_a2_6 := Aw5.ext E6
  have A_b2_6 := Abl5.ext E6
  have sz_b6 : h0.size ≤ b6 := Nat.le_trans K5.1 (Nat.le_of_eq g6.symm)
  have K6 : Keep h0 h6 [a1] := K5.ext E6
  refine own_back (S' := T6.setTop (mkF m 81 #[.val (.ref a1), .val (.ref a2), .val (.int (Int32.ofNat S)), .val (.int (Int32.ofNat N)), .val (.int (Int32.ofNat N)), .unset] [(.ref b6), (.ref a1)])) (st6) ?_
  obtain ⟨T7, h7, X7, e7, W7, st7⟩ := putF X6 hx hZ hown (host := "") (Or.inl (hw _ (List.mem_of_getElem? (i := 13) rfl))) Via.refl e6 F_a1_order_6 E_a1_6 (Or.inr ⟨(hw _ (List.mem_of_getElem? (i := 14) rfl)), rfl, hnm⟩) (hw _ (List.mem_of_getElem? (i := 3) rfl)) (ty := (.array .int)) (by decide) rfl rfl (g := (mkF m 81 #[.val (.ref a1), .val (.ref a2), .val (.int (Int32.ofNat S)), .val (.int (Int32.ofNat N)), .val (.int (Int32.ofNat N)), .unset] [(.ref b6), (.ref a1)])) rfl rfl (hb hby d1_81)
  have N7 := Fr.snoc X7 N5 g1
  have Z7 : n0 ≤ h7.size := Nat.le_trans Z6 (Nat.le_of_eq W7.size.symm)
  have E_a1_7 := E_a1_6.wr W7
  have F_a1_firsts_7 := F_a1_firsts_6.other W7 (Or.inr (slot_ne (Or.inr (hw _ (List.mem_of_getElem? (i := 12) rfl))) (Or.inr (hw _ (List.mem_of_getElem? (i := 14) rfl))) (by decide) (t := (.array .int)) (t' := (.array .int)) (by decide) (by decide)))
  have A_a2_7 := A_a2_6.other W7 (Ne.symm ne12)
  have A_b2_7 := A_b2_6.other W7 (Ne.symm ne_a1_b2)
  have A_b6_7 := A6.other W7 (Ne.symm ne_a1_b6)
  have F_a1_order_7 := F_a1_order_6.same W7
  have K7 : Keep h0 h7 [a1] := K6.wr W7 (Or.inl (List.mem_of_getElem? (i := 0) rfl))
  refine own_back (S' := T7.setTop (mkF m 84 #[.val (.ref a1), .val (.ref a2), .val (.int (Int32.ofNat S)), .val (.int (Int32.ofNat N)), .val (.int (Int32.ofNat N)), .unset] [])) (st7) ?_
  refine own_back (S' := T7.setTop (mkF m 85 #[.val (.ref a1), .val (.ref a2), .val (.int (Int32.ofNat S)), .val (.int (Int32.ofNat N)), .val (.int (Int32.ofNat N)), .unset] [(.ref a1)])) (fun _ k => XS.aloadN X7.here hx rfl (hb hby d1_84) rfl rfl k) ?_
  obtain ⟨T8, X8, e8, st8⟩ := getF X7 hx hZ hown (host := "") (Or.inl (hw _ (List.mem_of_getElem? (i := 11) rfl))) Via.refl e7 F_a1_firsts_7 (g := (mkF m 85 #[.val (.ref a1), .val (.ref a2), .val (.int (Int32.ofNat S)), .val (.int (Int32.ofNat N)), .val (.int (Int32.ofNat N)), .unset] [(.ref a1)])) rfl rfl (hb hby d1_85)
  refine own_back (S' := T8.setTop (mkF m 88 #[.val (.ref a1), .val (.ref a2), .val (.int (Int32.ofNat S)), .val (.int (Int32.ofNat N)), .val (.int (Int32.ofNat N)), .unset] [(.ref b2)])) (st8) ?_
  refine own_back (S' := T8.setTop (mkF m 89 #[.val (.ref a1), .val (.ref a2), .val (.int (Int32.ofNat S)), .val (.int (Int32.ofNat N)), .val (.int (Int32.ofNat N)), .unset] [(.int (Int32.ofNat N)), (.ref b2)])) (fun _ k => XS.iloadN X8.here hx rfl (hb hby d1_88) rfl k) ?_
  obtain ⟨_, _, ⟨T9, L9, k9, n9⟩, -, X9, ⟨Lc9, hQ9, l9, y9, z9⟩, st9⟩ := Jvm.LawKit.callS X8 hx (y := (⟨"java/util/Arrays", "copyOf", "([II)[I"⟩ : MethodName)) hown (mvT hZ (hw _ (List.mem_of_getElem? (i := 15) rfl))) (mvT hZ (hw _ (List.mem_of_getElem? (i := 16) rfl))) (mvT hZ (hw _ (List.mem_of_getElem? (i := 17) rfl))) (mvT hZ (hw _ (List.mem_of_getElem? (i := 18) rfl))) (by decide) (backOf (W := 0) (rm3 l Z a0 hw [] b2 N (fun k => Int32.ofNat (own_lt W S k)) h7 n0 Z7 A_b2_7 hN) hZ (hw _ (List.mem_of_getElem? (i := 18) rfl)) (hw _ (List.mem_of_getElem? (i := 17) rfl)) (by decide) (by decide)) (g := (mkF m 89 #[.val (.ref a1), .val (.ref a2), .val (.int (Int32.ofNat S)), .val (.int (Int32.ofNat N)), .val (.int (Int32.ofNat N)), .unset] [(.int (Int32.ofNat N)), (.ref b2)])) rfl (by rw [hml]; rfl) (argsL := [(.ref b2), (.int (Int32.ofNat N))]) (rest := []) (lenOf pd_1 rfl) rfl (by show 2 * 0 + _ ≤ _; exact Nat.le_of_eq rfl) (hb hby d1_89) (fun _ _ => ⟨rfl, e8, (by decide : 2 + 1 ≤ _), (by decide : 9 + 4 ≤ _)⟩)
  dsimp only [Pt.U, Pt.locs, Pt.cells, Pt.slots] at X9 l9 y9 z9 st9 hQ9
  subst l9 y9 z9
  generalize e9 : T9.heap = h9 at hQ9
  obtain ⟨rfl, N9q, Kc9, A9⟩ := hQ9
  have N9 := Fr.app N7 N9q
  obtain ⟨b9, g9⟩ : ∃ z, z = h7.size := ⟨_, rfl⟩
  rw [← g9] at A9 st9
  have g_b9 : n0 ≤ b9 := Nat.le_trans Z7 (Nat.le_of_eq g9.symm)
  have ne_a1_b9 : a1 ≠ b9 := Nat.ne_of_lt (Nat.lt_of_lt_of_le E_a1_7.lt (Nat.le_of_eq g9.symm))
  have ne_a2_b9 : a2 ≠ b9 := Nat.ne_of_lt (Nat.lt_of_lt_of_le A_a2_7.lt (Nat.le_of_eq g9.symm))
  have ne_b2_b9 : b2 ≠ b9 := Nat.ne_of_lt (Nat.lt_of_lt_of_le A_b2_7.lt (Nat.le_of_eq g9.symm))
  have ne_b6_b9 : b6 ≠ b9 := Nat.ne_of_lt (Nat.lt_of_lt_of_le A_b6_7.lt (Nat.le_of_eq g9.symm))
  have sz_b9 : h0.size ≤ b9 := Nat.le_trans K7.1 (Nat.le_of_eq g9.symm)
  have Z9 : n0 ≤ h9.size := Nat.le_trans Z7 Kc9.1
  have E_a1_9 := E_a1_7.keep Kc9
  have F_a1_firsts_9 := F_a1_firsts_7.keep Kc9 nin0
  have F_a1_order_9 := F_a1_order_7.keep Kc9 nin0
  have A_a2_9 := A_a2_7.keep Kc9 nin0
  have A_b2_9 := A_b2_7.keep Kc9 nin0
  have A_b6_9 := A_b6_7.keep Kc9 nin0
  have K9 : Keep h0 h9 [a1] := K7.trans Kc9 (fun x hx => nomatch hx)
  refine own_back (S' := T9.setTop (mkF m 92 #[.val (.ref a1), .val (.ref a2), .val (.int (Int32.ofNat S)), .val (.int (Int32.ofNat N)), .val (.int (Int32.ofNat N)), .unset] [(.ref b9)])) (st9) ?_
  refine own_back (S' := T9.setTop (mkF m 94 #[.val (.ref a1), .val (.ref a2), .val (.int (Int32.ofNat S)), .val (.int (Int32.ofNat N)), .val (.ref b9), .unset] [])) (fun _ k => XS.astore X9.here hx rfl (hb hby d1_92) rfl rfl (l' := #[.val (.ref a1), .val (.ref a2), .val (.int (Int32.ofNat S)), .val (.int (Int32.ofNat N)), .val (.ref b9), .unset]) rfl k) ?_
  refine own_back (S' := T9.setTop (mkF m 95 #[.val (.ref a1), .val (.ref a2), .val (.int (Int32.ofNat S)), .val (.int (Int32.ofNat N)), .val (.ref b9), .unset] [(.int (0 : Int32))])) (fun _ k => XS.iconst X9.here hx rfl (hb hby d1_94)  k) ?_
  refine own_back (S' := T9.setTop (mkF m 97 #[.val (.ref a1), .val (.ref a2), .val (.int (Int32.ofNat S)), .val (.int (Int32.ofNat N)), .val (.ref b9), .val (.int (0 : Int32))] [])) (fun _ k => XS.istore X9.here hx rfl (hb hby d1_95) rfl (l' := #[.val (.ref a1), .val (.ref a2), .val (.int (Int32.ofNat S)), .val (.int (Int32.ofNat N)), .val (.ref b9), .val (.int (0 : Int32))]) rfl k) ?_
  refine own_loop3 hx hZ hw hby hml hown hS hN hW ne_a1_b2 ne_a2_b2 g_b2 sz_b2 ne_a1_b9 ne_a2_b9 ne_b2_b9 ne_b6_b9 ne_a1_b6 ne_a2_b6 ne_b2_b6 g_b9 g_b6 sz_b9 sz_b6 ?_ S 0 _ _ _ (by omega) X9 e9 N9 ⟨Z9, K9, E_a1_9, F_a1_firsts_9, F_a1_order_9, A_a2_9, A_b2_9, A9.cong (fun k hk => rfl), _, A_b6_9⟩
  intro T10 h10 L10 X10 e10 N10 FF10
  obtain ⟨Z10, K10, E10, F10, Fo10, Aw10, Ab10, Ad10, fo10, Ao10⟩ := FF10
  obtain ⟨fs, hr, hrun, hended, hW, hsame⟩ := X10.leave (v := none) (fun _ => rfl)
  refine own_done ⟨_, _, X10.returnOut hx Bd.returns (hb hby d1_128) hr, hrun, hended, _, _, rfl, ?_, ⟨_, rfl⟩, hW, hsame.mono (by decide) (by decide)⟩
  show Q1 Z a1 a2 S N W h0 n0 _ T10.heap _
  rw [e10]
  exact ⟨rfl, N10, K10, E10, by rw [← g2]; exact F10, by rw [← g2]; exact Ab10⟩
theorem own_lawN (x : Int32) : ∃ N : Nat, ((x &&& (3 : Int32)) + (1 : Int32)) = Int32.ofNat N ∧ 1 ≤ N ∧ N ≤ 4 := by
  have h1 := c_and x (3 : Int32) (by decide)
  have e3 : (3 : Int32).toInt = 3 := rfl
  obtain ⟨n, hn, hn2, hn3⟩ := own_natOf (x &&& (3 : Int32)) h1.1
  exact ⟨n + 1, by rw [hn, inc_ofNat], by omega, by omega⟩
theorem own_rem (x : Int32) (N : Nat) (h1 : 1 ≤ N) (h4 : N ≤ 4) (hx : 0 ≤ x.toInt) : ∃ P : Nat, (x % Int32.ofNat N) = Int32.ofNat P ∧ P < N := by
  have e : (Int32.ofNat N).toInt = (N : Int) := toInt_of rfl (by omega)
  have h := (c_irem x (Int32.ofNat N) N e).1 hx
  have h2 := Int.emod_nonneg x.toInt (show (N : Int) ≠ 0 by omega)
  have h3 := Int.emod_lt_of_pos x.toInt (show (0 : Int) < N by omega)
  obtain ⟨n, hn, hn2, hn3⟩ := own_natOf (x % Int32.ofNat N) (by omega)
  exact ⟨n, hn, by omega⟩
theorem own_lawP (x : Int32) (N : Nat) (h1 : 1 ≤ N) (h4 : N ≤ 4) : ∃ P : Nat, (((x.toUInt32 >>> ((2 : Int32) &&& 31).toUInt32).toInt32) % (Int32.ofNat N)) = Int32.ofNat P ∧ P < N := by
  have h := c_iushr x (2 : Int32) 2 (by decide) (by decide)
  refine own_rem _ N h1 h4 ?_
  rw [h]
  have := Int.emod_nonneg x.toInt (show (4294967296 : Int) ≠ 0 by omega)
  exact Int.ediv_nonneg this (by decide)
theorem own_lawS (x : Int32) : ∃ S : Nat, ((x &&& (7 : Int32)) % (5 : Int32)) = Int32.ofNat S ∧ S ≤ 4 := by
  have h1 := c_and x (7 : Int32) (by decide)
  have h := (c_irem (x &&& (7 : Int32)) (5 : Int32) 5 (by decide)).1 h1.1
  obtain ⟨n, hn, hn2, hn3⟩ := own_natOf ((x &&& (7 : Int32)) % (5 : Int32)) (by omega)
  exact ⟨n, hn, by omega⟩
theorem own_lawW (x : Int32) (N : Nat) (h1 : 1 ≤ N) (h4 : N ≤ 4) : ∃ P : Nat, ((x &&& (2147483647 : Int32)) % (Int32.ofNat N)) = Int32.ofNat P ∧ P < N := own_rem _ N h1 h4 (c_and x (2147483647 : Int32) (by decide)).1
theorem own_nz (N : Nat) (h1 : 1 ≤ N) (h4 : N ≤ 4) : Int32.ofNat N ≠ 0 := fun q => by
  have := (own_eqn (a := N) (b := 0) (by omega) (by omega)).mp q
  omega
theorem pd_2 : parseMethodDescriptor "([III)V" = some ⟨[(.array .int), .int, .int], none⟩ := by decide +kernel
theorem pd_3 : parseMethodDescriptor "(I)Z" = some ⟨[.int], some .boolean⟩ := by decide +kernel
theorem pn_com_example_plankeeper_plankeeper_inputs_ParticipantRangesHoldsPinLaw : plainName "com/example/plankeeper/plankeeper/inputs/ParticipantRangesHoldsPinLaw" = true := by first | (simp [plainName, overriddenIn]; done) | decide +kernel
theorem ef_0 (m : MethodId) (x0 : Int32) (x1 : Int32) (x2 : Int32) (x3 : Int32) (x4 : Int32) (x5 : Int32) : entryFrame m #[(.int x0), (.int x1), (.int x2), (.int x3), (.int x4), (.int x5)] maxLocals = mkF m 0 #[.val (.int x0), .val (.int x1), .val (.int x2), .val (.int x3), .val (.int x4), .val (.int x5), .unset, .unset, .unset, .unset, .unset, .unset] [] := by first | (simp [entryFrame, mkF, argsToLocals, Value.category, maxLocals]; done) | rfl
def Q0 (Z : State) (p1 : Int32) (p2 : Int32) (p3 : Int32) (p4 : Int32) (p5 : Int32) (p6 : Int32) (h0 : Heap) (n0 : Nat) (v : Option Value) (h : Heap) (L : List Loc) : Prop := v = some (.int (1 : Int32)) ∧ Fr n0 L
set_option maxRecDepth 65536 in
set_option maxHeartbeats 40000000 in
theorem rm0 (l : Launch) (Z : State) (a0 : Array Value) (hw : ∀ d ∈ tables_1, d.before a0 Z = true) (ws : List Jvm.Cond) (p1 : Int32) (p2 : Int32) (p3 : Int32) (p4 : Int32) (p5 : Int32) (p6 : Int32) (h0 : Heap) (n0 : Nat) (Z0 : n0 ≤ h0.size) :
    MetFree l x (head1 (Jvm.Cond.code x code maxLocals ret :: ws) room_1) (fun a U => a = #[(.int p1), (.int p2), (.int p3), (.int p4), (.int p5), (.int p6)] ∧ Z.Warmed39 U.vm ∧ U.heap = h0) (fun _ _ _ _ _ => True) (fun _ U o U' => ∃ v L, o = .returned v ∧ Q0 Z p1 p2 p3 p4 p5 p6 h0 n0 v U'.heap L ∧ FrameEnd U o U' L room_1.cells room_1.slots) := by
  refine MetFree.of_bodySF (plainFor_of_name pn_com_example_plankeeper_plankeeper_inputs_ParticipantRangesHoldsPinLaw) hisR ?_
  intro p e s m args below meth c s₁ Bd hml0 hP hK
  obtain ⟨rfl, hZ, hh⟩ := hP
  have hx := Bd.exec
  have hby := Bd.bytes
  have hml : c.maxLocals = 12 := hml0
  have hown : s.vm.findClass "com/example/plankeeper/plankeeper/inputs/ParticipantRangesHoldsPinLaw" = some m.cls := findClass_of_methodNamed Bd.named
  have hnm := (name_of_methodNamed Bd.named Bd.method).1
  have X0 : Stand p l e room_1 s m #[(.int p1), (.int p2), (.int p3), (.int p4), (.int p5), (.int p6)] below meth c s₁ [] 0 0 := Stand.of_body Bd
  have e0 : s₁.heap = h0 := by rw [← hh, Bd.state]; rfl
  have N0 := Fr.nil n0
  refine own_open (S' := s₁.setTop (mkF m 0 #[.val (.int p1), .val (.int p2), .val (.int p3), .val (.int p4), .val (.int p5), .val (.int p6), .unset, .unset, .unset, .unset, .unset, .unset] [])) (fun t k => castTop (ef_0 m p1 p2 p3 p4 p5 p6) k) ?_
  refine own_back (S' := s₁.setTop (mkF m 2 #[.val (.int p1), .val (.int p2), .val (.int p3), .val (.int p4), .val (.int p5), .val (.int p6), .unset, .unset, .unset, .unset, .unset, .unset] [(.int p6)])) (fun _ k => XS.iload X0.here hx rfl (hb hby at_0) rfl k) ?_
  refine own_back (S' := s₁.setTop (mkF m 3 #[.val (.int p1), .val (.int p2), .val (.int p3), .val (.int p4), .val (.int p5), .val (.int p6), .unset, .unset, .unset, .unset, .unset, .unset] [(.int (3 : Int32)), (.int p6)])) (fun _ k => XS.iconst X0.here hx rfl (hb hby at_2)  k) ?_
  refine own_back (S' := s₁.setTop (mkF m 4 #[.val (.int p1), .val (.int p2), .val (.int p3), .val (.int p4), .val (.int p5), .val (.int p6), .unset, .unset, .unset, .unset, .unset, .unset] [(.int (p6 &&& (3 : Int32)))])) (fun _ k => XS.iand X0.here hx rfl (hb hby at_3) rfl k) ?_
  refine own_back (S' := s₁.setTop (mkF m 5 #[.val (.int p1), .val (.int p2), .val (.int p3), .val (.int p4), .val (.int p5), .val (.int p6), .unset, .unset, .unset, .unset, .unset, .unset] [(.int (1 : Int32)), (.int (p6 &&& (3 : Int32)))])) (fun _ k => XS.iconst X0.here hx rfl (hb hby at_4)  k) ?_
  refine own_back (S' := s₁.setTop (mkF m 6 #[.val (.int p1), .val (.int p2), .val (.int p3), .val (.int p4), .val (.int p5), .val (.int p6), .unset, .unset, .unset, .unset, .unset, .unset] [(.int ((p6 &&& (3 : Int32)) + (1 : Int32)))])) (fun _ k => XS.iadd X0.here hx rfl (hb hby at_5) rfl k) ?_
  obtain ⟨N, hN, hN1, hN4⟩ := own_lawN p6
  rw [hN]
  refine own_back (S' := s₁.setTop (mkF m 8 #[.val (.int p1), .val (.int p2), .val (.int p3), .val (.int p4), .val (.int p5), .val (.int p6), .val (.int (Int32.ofNat N)), .unset, .unset, .unset, .unset, .unset] [])) (fun _ k => XS.istore X0.here hx rfl (hb hby at_6) rfl (l' := #[.val (.int p1), .val (.int p2), .val (.int p3), .val (.int p4), .val (.int p5), .val (.int p6), .val (.int (Int32.ofNat N)), .unset, .unset, .unset, .unset, .unset]) rfl k) ?_
  refine own_back (S' := s₁.setTop (mkF m 10 #[.val (.int p1), .val (.int p2), .val (.int p3), .val (.int p4), .val (.int p5), .val (.int p6), .val (.int (Int32.ofNat N)), .unset, .unset, .unset, .unset, .unset] [(.int p6)])) (fun _ k => XS.iload X0.here hx rfl (hb hby at_8) rfl k) ?_
  refine own_back (S' := s₁.setTop (mkF m 11 #[.val (.int p1), .val (.int p2), .val (.int p3), .val (.int p4), .val (.int p5), .val (.int p6), .val (.int (Int32.ofNat N)), .unset, .unset, .unset, .unset, .unset] [(.int (2 : Int32)), (.int p6)])) (fun _ k => XS.iconst X0.here hx rfl (hb hby at_10)  k) ?_
  refine own_back (S' := s₁.setTop (mkF m 12 #[.val (.int p1), .val (.int p2), .val (.int p3), .val (.int p4), .val (.int p5), .val (.int p6), .val (.int (Int32.ofNat N)), .unset, .unset, .unset, .unset, .unset] [(.int ((p6.toUInt32 >>> ((2 : Int32) &&& 31).toUInt32).toInt32))])) (fun _ k => XS.iushr X0.here hx rfl (hb hby at_11) rfl k) ?_
  refine own_back (S' := s₁.setTop (mkF m 14 #[.val (.int p1), .val (.int p2), .val (.int p3), .val (.int p4), .val (.int p5), .val (.int p6), .val (.int (Int32.ofNat N)), .unset, .unset, .unset, .unset, .unset] [(.int (Int32.ofNat N)), (.int ((p6.toUInt32 >>> ((2 : Int32) &&& 31).toUInt32).toInt32))])) (fun _ k => XS.iload X0.here hx rfl (hb hby at_12) rfl k) ?_
  refine own_back (S' := s₁.setTop (mkF m 15 #[.val (.int p1), .val (.int p2), .val (.int p3), .val (.int p4), .val (.int p5), .val (.int p6), .val (.int (Int32.ofNat N)), .unset, .unset, .unset, .unset, .unset] [(.int (((p6.toUInt32 >>> ((2 : Int32) &&& 31).toUInt32).toInt32) % (Int32.ofNat N)))])) (fun _ k => iremM X0 hx rfl (hb hby at_14) rfl (own_nz N hN1 hN4) k) ?_
  obtain ⟨P, hP, hPN⟩ := own_lawP p6 N hN1 hN4
  rw [hP]
  refine own_back (S' := s₁.setTop (mkF m 17 #[.val (.int p1), .val (.int p2), .val (.int p3), .val (.int p4), .val (.int p5), .val (.int p6), .val (.int (Int32.ofNat N)), .val (.int (Int32.ofNat P)), .unset, .unset, .unset, .unset] [])) (fun _ k => XS.istore X0.here hx rfl (hb hby at_15) rfl (l' := #[.val (.int p1), .val (.int p2), .val (.int p3), .val (.int p4), .val (.int p5), .val (.int p6), .val (.int (Int32.ofNat N)), .val (.int (Int32.ofNat P)), .unset, .unset, .unset, .unset]) rfl k) ?_
  refine own_back (S' := s₁.setTop (mkF m 19 #[.val (.int p1), .val (.int p2), .val (.int p3), .val (.int p4), .val (.int p5), .val (.int p6), .val (.int (Int32.ofNat N)), .val (.int (Int32.ofNat P)), .unset, .unset, .unset, .unset] [(.int p5)])) (fun _ k => XS.iload X0.here hx rfl (hb hby at_17) rfl k) ?_
  refine own_back (S' := s₁.setTop (mkF m 21 #[.val (.int p1), .val (.int p2), .val (.int p3), .val (.int p4), .val (.int p5), .val (.int p6), .val (.int (Int32.ofNat N)), .val (.int (Int32.ofNat P)), .unset, .unset, .unset, .unset] [(.int (7 : Int32)), (.int p5)])) (fun _ k => XS.bipush X0.here hx rfl (hb hby at_19)  k) ?_
  refine own_back (S' := s₁.setTop (mkF m 22 #[.val (.int p1), .val (.int p2), .val (.int p3), .val (.int p4), .val (.int p5), .val (.int p6), .val (.int (Int32.ofNat N)), .val (.int (Int32.ofNat P)), .unset, .unset, .unset, .unset] [(.int (p5 &&& (7 : Int32)))])) (fun _ k => XS.iand X0.here hx rfl (hb hby at_21) rfl k) ?_
  refine own_back (S' := s₁.setTop (mkF m 23 #[.val (.int p1), .val (.int p2), .val (.int p3), .val (.int p4), .val (.int p5), .val (.int p6), .val (.int (Int32.ofNat N)), .val (.int (Int32.ofNat P)), .unset, .unset, .unset, .unset] [(.int (5 : Int32)), (.int (p5 &&& (7 : Int32)))])) (fun _ k => XS.iconst X0.here hx rfl (hb hby at_22)  k) ?_
  refine own_back (S' := s₁.setTop (mkF m 24 #[.val (.int p1), .val (.int p2), .val (.int p3), .val (.int p4), .val (.int p5), .val (.int p6), .val (.int (Int32.ofNat N)), .val (.int (Int32.ofNat P)), .unset, .unset, .unset, .unset] [(.int ((p5 &&& (7 : Int32)) % (5 : Int32)))])) (fun _ k => iremM X0 hx rfl (hb hby at_23) rfl (by decide) k) ?_
  obtain ⟨SZ, hSZ, hSZ4⟩ := own_lawS p5
  rw [hSZ]
  refine own_back (S' := s₁.setTop (mkF m 26 #[.val (.int p1), .val (.int p2), .val (.int p3), .val (.int p4), .val (.int p5), .val (.int p6), .val (.int (Int32.ofNat N)), .val (.int (Int32.ofNat P)), .val (.int (Int32.ofNat SZ)), .unset, .unset, .unset] [])) (fun _ k => XS.istore X0.here hx rfl (hb hby at_24) rfl (l' := #[.val (.int p1), .val (.int p2), .val (.int p3), .val (.int p4), .val (.int p5), .val (.int p6), .val (.int (Int32.ofNat N)), .val (.int (Int32.ofNat P)), .val (.int (Int32.ofNat SZ)), .unset, .unset, .unset]) rfl k) ?_
  refine own_back (S' := s₁.setTop (mkF m 27 #[.val (.int p1), .val (.int p2), .val (.int p3), .val (.int p4), .val (.int p5), .val (.int p6), .val (.int (Int32.ofNat N)), .val (.int (Int32.ofNat P)), .val (.int (Int32.ofNat SZ)), .unset, .unset, .unset] [(.int (4 : Int32))])) (fun _ k => XS.iconst X0.here hx rfl (hb hby at_26)  k) ?_
  obtain ⟨T1, h1, X1, e1, E1, A1, st1⟩ := own_newI X0 hx hZ (hw _ (List.mem_of_getElem? (i := 0) rfl)) e0 (g := (mkF m 27 #[.val (.int p1), .val (.int p2), .val (.int p3), .val (.int p4), .val (.int p5), .val (.int p6), .val (.int (Int32.ofNat N)), .val (.int (Int32.ofNat P)), .val (.int (Int32.ofNat SZ)), .unset, .unset, .unset] [(.int (4 : Int32))])) rfl (hb hby at_27) rfl (by decide) (k := 4) rfl (cap := 4) (by decide) (by decide) (by decide) (by decide)
  obtain ⟨b1, g1⟩ : ∃ z, z = h0.size := ⟨_, rfl⟩
  rw [← g1] at A1 st1
  have g_b1 : n0 ≤ b1 := Nat.le_trans Z0 (Nat.le_of_eq g1.symm)
  have Z1 : n0 ≤ h1.size := Nat.le_trans Z0 E1.1
  refine own_back (S' := T1.setTop (mkF m 29 #[.val (.int p1), .val (.int p2), .val (.int p3), .val (.int p4), .val (.int p5), .val (.int p6), .val (.int (Int32.ofNat N)), .val (.int (Int32.ofNat P)), .val (.int (Int32.ofNat SZ)), .unset, .unset, .unset] [(.ref b1)])) (st1) ?_
  refine own_back (S' := T1.setTop (mkF m 31 #[.val (.int p1), .val (.int p2), .val (.int p3), .val (.int p4), .val (.int p5), .val (.int p6), .val (.int (Int32.ofNat N)), .val (.int (Int32.ofNat P)), .val (.int (Int32.ofNat SZ)), .val (.ref b1), .unset, .unset] [])) (fun _ k => XS.astore X1.here hx rfl (hb hby at_29) rfl rfl (l' := #[.val (.int p1), .val (.int p2), .val (.int p3), .val (.int p4), .val (.int p5), .val (.int p6), .val (.int (Int32.ofNat N)), .val (.int (Int32.ofNat P)), .val (.int (Int32.ofNat SZ)), .val (.ref b1), .unset, .unset]) rfl k) ?_
  refine own_back (S' := T1.setTop (mkF m 33 #[.val (.int p1), .val (.int p2), .val (.int p3), .val (.int p4), .val (.int p5), .val (.int p6), .val (.int (Int32.ofNat N)), .val (.int (Int32.ofNat P)), .val (.int (Int32.ofNat SZ)), .val (.ref b1), .unset, .unset] [(.ref b1)])) (fun _ k => XS.aload X1.here hx rfl (hb hby at_31) rfl rfl k) ?_
  refine own_back (S' := T1.setTop (mkF m 34 #[.val (.int p1), .val (.int p2), .val (.int p3), .val (.int p4), .val (.int p5), .val (.int p6), .val (.int (Int32.ofNat N)), .val (.int (Int32.ofNat P)), .val (.int (Int32.ofNat SZ)), .val (.ref b1), .unset, .unset] [(.int (0 : Int32)), (.ref b1)])) (fun _ k => XS.iconst X1.here hx rfl (hb hby at_33)  k) ?_
  refine own_back (S' := T1.setTop (mkF m 35 #[.val (.int p1), .val (.int p2), .val (.int p3), .val (.int p4), .val (.int p5), .val (.int p6), .val (.int (Int32.ofNat N)), .val (.int (Int32.ofNat P)), .val (.int (Int32.ofNat SZ)), .val (.ref b1), .unset, .unset] [(.int p1), (.int (0 : Int32)), (.ref b1)])) (fun _ k => XS.iloadN X1.here hx rfl (hb hby at_34) rfl k) ?_
  refine own_back (S' := T1.setTop (mkF m 37 #[.val (.int p1), .val (.int p2), .val (.int p3), .val (.int p4), .val (.int p5), .val (.int p6), .val (.int (Int32.ofNat N)), .val (.int (Int32.ofNat P)), .val (.int (Int32.ofNat SZ)), .val (.ref b1), .unset, .unset] [(.int (2147483647 : Int32)), (.int p1), (.int (0 : Int32)), (.ref b1)])) (fun _ k => X1.ldcInt hx hown (mvT hZ (hw _ (List.mem_of_getElem? (i := 1) rfl))) (g := (mkF m 35 #[.val (.int p1), .val (.int p2), .val (.int p3), .val (.int p4), .val (.int p5), .val (.int p6), .val (.int (Int32.ofNat N)), .val (.int (Int32.ofNat P)), .val (.int (Int32.ofNat SZ)), .val (.ref b1), .unset, .unset] [(.int p1), (.int (0 : Int32)), (.ref b1)])) rfl (hb hby at_35) _ k) ?_
  refine own_back (S' := T1.setTop (mkF m 38 #[.val (.int p1), .val (.int p2), .val (.int p3), .val (.int p4), .val (.int p5), .val (.int p6), .val (.int (Int32.ofNat N)), .val (.int (Int32.ofNat P)), .val (.int (Int32.ofNat SZ)), .val (.ref b1), .unset, .unset] [(.int (p1 &&& (2147483647 : Int32))), (.int (0 : Int32)), (.ref b1)])) (fun _ k => XS.iand X1.here hx rfl (hb hby at_37) rfl k) ?_
  refine own_back (S' := T1.setTop (mkF m 40 #[.val (.int p1), .val (.int p2), .val (.int p3), .val (.int p4), .val (.int p5), .val (.int p6), .val (.int (Int32.ofNat N)), .val (.int (Int32.ofNat P)), .val (.int (Int32.ofNat SZ)), .val (.ref b1), .unset, .unset] [(.int (Int32.ofNat N)), (.int (p1 &&& (2147483647 : Int32))), (.int (0 : Int32)), (.ref b1)])) (fun _ k => XS.iload X1.here hx rfl (hb hby at_38) rfl k) ?_
  refine own_back (S' := T1.setTop (mkF m 41 #[.val (.int p1), .val (.int p2), .val (.int p3), .val (.int p4), .val (.int p5), .val (.int p6), .val (.int (Int32.ofNat N)), .val (.int (Int32.ofNat P)), .val (.int (Int32.ofNat SZ)), .val (.ref b1), .unset, .unset] [(.int ((p1 &&& (2147483647 : Int32)) % (Int32.ofNat N))), (.int (0 : Int32)), (.ref b1)])) (fun _ k => iremM X1 hx rfl (hb hby at_40) rfl (own_nz N hN1 hN4) k) ?_
  obtain ⟨W0, hW0, hW0N⟩ := own_lawW p1 N hN1 hN4
  rw [hW0]
  obtain ⟨T2, h2, X2, e2, W2, A2, st2⟩ := own_stI X1 hx hZ e1 A1 (k := 0) (by decide) rfl (by decide) (g := (mkF m 41 #[.val (.int p1), .val (.int p2), .val (.int p3), .val (.int p4), .val (.int p5), .val (.int p6), .val (.int (Int32.ofNat N)), .val (.int (Int32.ofNat P)), .val (.int (Int32.ofNat SZ)), .val (.ref b1), .unset, .unset] [(.int (Int32.ofNat W0)), (.int (0 : Int32)), (.ref b1)])) rfl rfl (hb hby at_41)
  have N2 := Fr.snoc X2 N0 g_b1
  have Z2 : n0 ≤ h2.size := Nat.le_trans Z1 (Nat.le_of_eq W2.size.symm)
  refine own_back (S' := T2.setTop (mkF m 42 #[.val (.int p1), .val (.int p2), .val (.int p3), .val (.int p4), .val (.int p5), .val (.int p6), .val (.int (Int32.ofNat N)), .val (.int (Int32.ofNat P)), .val (.int (Int32.ofNat SZ)), .val (.ref b1), .unset, .unset] [])) (st2) ?_
  refine own_back (S' := T2.setTop (mkF m 44 #[.val (.int p1), .val (.int p2), .val (.int p3), .val (.int p4), .val (.int p5), .val (.int p6), .val (.int (Int32.ofNat N)), .val (.int (Int32.ofNat P)), .val (.int (Int32.ofNat SZ)), .val (.ref b1), .unset, .unset] [(.ref b1)])) (fun _ k => XS.aload X2.here hx rfl (hb hby at_42) rfl rfl k) ?_
  refine own_back (S' := T2.setTop (mkF m 45 #[.val (.int p1), .val (.int p2), .val (.int p3), .val (.int p4), .val (.int p5), .val (.int p6), .val (.int (Int32.ofNat N)), .val (.int (Int32.ofNat P)), .val (.int (Int32.ofNat SZ)), .val (.ref b1), .unset, .unset] [(.int (1 : Int32)), (.ref b1)])) (fun _ k => XS.iconst X2.here hx rfl (hb hby at_44)  k) ?_
  refine own_back (S' := T2.setTop (mkF m 46 #[.val (.int p1), .val (.int p2), .val (.int p3), .val (.int p4), .val (.int p5), .val (.int p6), .val (.int (Int32.ofNat N)), .val (.int (Int32.ofNat P)), .val (.int (Int32.ofNat SZ)), .val (.ref b1), .unset, .unset] [(.int p2), (.int (1 : Int32)), (.ref b1)])) (fun _ k => XS.iloadN X2.here hx rfl (hb hby at_45) rfl k) ?_
  refine own_back (S' := T2.setTop (mkF m 48 #[.val (.int p1), .val (.int p2), .val (.int p3), .val (.int p4), .val (.int p5), .val (.int p6), .val (.int (Int32.ofNat N)), .val (.int (Int32.ofNat P)), .val (.int (Int32.ofNat SZ)), .val (.ref b1), .unset, .unset] [(.int (2147483647 : Int32)), (.int p2), (.int (1 : Int32)), (.ref b1)])) (fun _ k => X2.ldcInt hx hown (mvT hZ (hw _ (List.mem_of_getElem? (i := 1) rfl))) (g := (mkF m 46 #[.val (.int p1), .val (.int p2), .val (.int p3), .val (.int p4), .val (.int p5), .val (.int p6), .val (.int (Int32.ofNat N)), .val (.int (Int32.ofNat P)), .val (.int (Int32.ofNat SZ)), .val (.ref b1), .unset, .unset] [(.int p2), (.int (1 : Int32)), (.ref b1)])) rfl (hb hby at_46) _ k) ?_
  refine own_back (S' := T2.setTop (mkF m 49 #[.val (.int p1), .val (.int p2), .val (.int p3), .val (.int p4), .val (.int p5), .val (.int p6), .val (.int (Int32.ofNat N)), .val (.int (Int32.ofNat P)), .val (.int (Int32.ofNat SZ)), .val (.ref b1), .unset, .unset] [(.int (p2 &&& (2147483647 : Int32))), (.int (1 : Int32)), (.ref b1)])) (fun _ k => XS.iand X2.here hx rfl (hb hby at_48) rfl k) ?_
  refine own_back (S' := T2.setTop (mkF m 51 #[.val (.int p1), .val (.int p2), .val (.int p3), .val (.int p4), .val (.int p5), .val (.int p6), .val (.int (Int32.ofNat N)), .val (.int (Int32.ofNat P)), .val (.int (Int32.ofNat SZ)), .val (.ref b1), .unset, .unset] [(.int (Int32.ofNat N)), (.int (p2 &&& (2147483647 : Int32))), (.int (1 : Int32)), (.ref b1)])) (fun _ k => XS.iload X2.here hx rfl (hb hby at_49) rfl k) ?_
  refine own_back (S' := T2.setTop (mkF m 52 #[.val (.int p1), .val (.int p2), .val (.int p3), .val (.int p4), .val (.int p5), .val (.int p6), .val (.int (Int32.ofNat N)), .val (.int (Int32.ofNat P)), .val (.int (Int32.ofNat SZ)), .val (.ref b1), .unset, .unset] [(.int ((p2 &&& (2147483647 : Int32)) % (Int32.ofNat N))), (.int (1 : Int32)), (.ref b1)])) (fun _ k => iremM X2 hx rfl (hb hby at_51) rfl (own_nz N hN1 hN4) k) ?_
  obtain ⟨W1, hW1, hW1N⟩ := own_lawW p2 N hN1 hN4
  rw [hW1]
  obtain ⟨T3, h3, X3, e3, W3, A3, st3⟩ := own_stI X2 hx hZ e2 A2 (k := 1) (by decide) rfl (by decide) (g := (mkF m 52 #[.val (.int p1), .val (.int p2), .val (.int p3), .val (.int p4), .val (.int p5), .val (.int p6), .val (.int (Int32.ofNat N)), .val (.int (Int32.ofNat P)), .val (.int (Int32.ofNat SZ)), .val (.ref b1), .unset, .unset] [(.int (Int32.ofNat W1)), (.int (1 : Int32)), (.ref b1)])) rfl rfl (hb hby at_52)
  have N3 := Fr.snoc X3 N2 g_b1
  have Z3 : n0 ≤ h3.size := Nat.le_trans Z2 (Nat.le_of_eq W3.size.symm)
  refine own_back (S' := T3.setTop (mkF m 53 #[.val (.int p1), .val (.int p2), .val (.int p3), .val (.int p4), .val (.int p5), .val (.int p6), .val (.int (Int32.ofNat N)), .val (.int (Int32.ofNat P)), .val (.int (Int32.ofNat SZ)), .val (.ref b1), .unset, .unset] [])) (st3) ?_
  refine own_back (S' := T3.setTop (mkF m 55 #[.val (.int p1), .val (.int p2), .val (.int p3), .val (.int p4), .val (.int p5), .val (.int p6), .val (.int (Int32.ofNat N)), .val (.int (Int32.ofNat P)), .val (.int (Int32.ofNat SZ)), .val (.ref b1), .unset, .unset] [(.ref b1)])) (fun _ k => XS.aload X3.here hx rfl (hb hby at_53) rfl rfl k) ?_
  refine own_back (S' := T3.setTop (mkF m 56 #[.val (.int p1), .val (.int p2), .val (.int p3), .val (.int p4), .val (.int p5), .val (.int p6), .val (.int (Int32.ofNat N)), .val (.int (Int32.ofNat P)), .val (.int (Int32.ofNat SZ)), .val (.ref b1), .unset, .unset] [(.int (2 : Int32)), (.ref b1)])) (fun _ k => XS.iconst X3.here hx rfl (hb hby at_55)  k) ?_
  refine own_back (S' := T3.setTop (mkF m 57 #[.val (.int p1), .val (.int p2), .val (.int p3), .val (.int p4), .val (.int p5), .val (.int p6), .val (.int (Int32.ofNat N)), .val (.int (Int32.ofNat P)), .val (.int (Int32.ofNat SZ)), .val (.ref b1), .unset, .unset] [(.int p3), (.int (2 : Int32)), (.ref b1)])) (fun _ k => XS.iloadN X3.here hx rfl (hb hby at_56) rfl k) ?_
  refine own_back (S' := T3.setTop (mkF m 59 #[.val (.int p1), .val (.int p2), .val (.int p3), .val (.int p4), .val (.int p5), .val (.int p6), .val (.int (Int32.ofNat N)), .val (.int (Int32.ofNat P)), .val (.int (Int32.ofNat SZ)), .val (.ref b1), .unset, .unset] [(.int (2147483647 : Int32)), (.int p3), (.int (2 : Int32)), (.ref b1)])) (fun _ k => X3.ldcInt hx hown (mvT hZ (hw _ (List.mem_of_getElem? (i := 1) rfl))) (g := (mkF m 57 #[.val (.int p1), .val (.int p2), .val (.int p3), .val (.int p4), .val (.int p5), .val (.int p6), .val (.int (Int32.ofNat N)), .val (.int (Int32.ofNat P)), .val (.int (Int32.ofNat SZ)), .val (.ref b1), .unset, .unset] [(.int p3), (.int (2 : Int32)), (.ref b1)])) rfl (hb hby at_57) _ k) ?_
  refine own_back (S' := T3.setTop (mkF m 60 #[.val (.int p1), .val (.int p2), .val (.int p3), .val (.int p4), .val (.int p5), .val (.int p6), .val (.int (Int32.ofNat N)), .val (.int (Int32.ofNat P)), .val (.int (Int32.ofNat SZ)), .val (.ref b1), .unset, .unset] [(.int (p3 &&& (2147483647 : Int32))), (.int (2 : Int32)), (.ref b1)])) (fun _ k => XS.iand X3.here hx rfl (hb hby at_59) rfl k) ?_
  refine own_back (S' := T3.setTop (mkF m 62 #[.val (.int p1), .val (.int p2), .val (.int p3), .val (.int p4), .val (.int p5), .val (.int p6), .val (.int (Int32.ofNat N)), .val (.int (Int32.ofNat P)), .val (.int (Int32.ofNat SZ)), .val (.ref b1), .unset, .unset] [(.int (Int32.ofNat N)), (.int (p3 &&& (2147483647 : Int32))), (.int (2 : Int32)), (.ref b1)])) (fun _ k => XS.iload X3.here hx rfl (hb hby at_60) rfl k) ?_
  refine own_back (S' := T3.setTop (mkF m 63 #[.val (.int p1), .val (.int p2), .val (.int p3), .val (.int p4), .val (.int p5), .val (.int p6), .val (.int (Int32.ofNat N)), .val (.int (Int32.ofNat P)), .val (.int (Int32.ofNat SZ)), .val (.ref b1), .unset, .unset] [(.int ((p3 &&& (2147483647 : Int32)) % (Int32.ofNat N))), (.int (2 : Int32)), (.ref b1)])) (fun _ k => iremM X3 hx rfl (hb hby at_62) rfl (own_nz N hN1 hN4) k) ?_
  obtain ⟨W2, hW2, hW2N⟩ := own_lawW p3 N hN1 hN4
  rw [hW2]
  obtain ⟨T4, h4, X4, e4, W4, A4, st4⟩ := own_stI X3 hx hZ e3 A3 (k := 2) (by decide) rfl (by decide) (g := (mkF m 63 #[.val (.int p1), .val (.int p2), .val (.int p3), .val (.int p4), .val (.int p5), .val (.int p6), .val (.int (Int32.ofNat N)), .val (.int (Int32.ofNat P)), .val (.int (Int32.ofNat SZ)), .val (.ref b1), .unset, .unset] [(.int (Int32.ofNat W2)), (.int (2 : Int32)), (.ref b1)])) rfl rfl (hb hby at_63)
  have N4 := Fr.snoc X4 N3 g_b1
  have Z4 : n0 ≤ h4.size := Nat.le_trans Z3 (Nat.le_of_eq W4.size.symm)
  refine own_back (S' := T4.setTop (mkF m 64 #[.val (.int p1), .val (.int p2), .val (.int p3), .val (.int p4), .val (.int p5), .val (.int p6), .val (.int (Int32.ofNat N)), .val (.int (Int32.ofNat P)), .val (.int (Int32.ofNat SZ)), .val (.ref b1), .unset, .unset] [])) (st4) ?_
  refine own_back (S' := T4.setTop (mkF m 66 #[.val (.int p1), .val (.int p2), .val (.int p3), .val (.int p4), .val (.int p5), .val (.int p6), .val (.int (Int32.ofNat N)), .val (.int (Int32.ofNat P)), .val (.int (Int32.ofNat SZ)), .val (.ref b1), .unset, .unset] [(.ref b1)])) (fun _ k => XS.aload X4.here hx rfl (hb hby at_64) rfl rfl k) ?_
  refine own_back (S' := T4.setTop (mkF m 67 #[.val (.int p1), .val (.int p2), .val (.int p3), .val (.int p4), .val (.int p5), .val (.int p6), .val (.int (Int32.ofNat N)), .val (.int (Int32.ofNat P)), .val (.int (Int32.ofNat SZ)), .val (.ref b1), .unset, .unset] [(.int (3 : Int32)), (.ref b1)])) (fun _ k => XS.iconst X4.here hx rfl (hb hby at_66)  k) ?_
  refine own_back (S' := T4.setTop (mkF m 68 #[.val (.int p1), .val (.int p2), .val (.int p3), .val (.int p4), .val (.int p5), .val (.int p6), .val (.int (Int32.ofNat N)), .val (.int (Int32.ofNat P)), .val (.int (Int32.ofNat SZ)), .val (.ref b1), .unset, .unset] [(.int p4), (.int (3 : Int32)), (.ref b1)])) (fun _ k => XS.iloadN X4.here hx rfl (hb hby at_67) rfl k) ?_
  refine own_back (S' := T4.setTop (mkF m 70 #[.val (.int p1), .val (.int p2), .val (.int p3), .val (.int p4), .val (.int p5), .val (.int p6), .val (.int (Int32.ofNat N)), .val (.int (Int32.ofNat P)), .val (.int (Int32.ofNat SZ)), .val (.ref b1), .unset, .unset] [(.int (2147483647 : Int32)), (.int p4), (.int (3 : Int32)), (.ref b1)])) (fun _ k => X4.ldcInt hx hown (mvT hZ (hw _ (List.mem_of_getElem? (i := 1) rfl))) (g := (mkF m 68 #[.val (.int p1), .val (.int p2), .val (.int p3), .val (.int p4), .val (.int p5), .val (.int p6), .val (.int (Int32.ofNat N)), .val (.int (Int32.ofNat P)), .val (.int (Int32.ofNat SZ)), .val (.ref b1), .unset, .unset] [(.int p4), (.int (3 : Int32)), (.ref b1)])) rfl (hb hby at_68) _ k) ?_
  refine own_back (S' := T4.setTop (mkF m 71 #[.val (.int p1), .val (.int p2), .val (.int p3), .val (.int p4), .val (.int p5), .val (.int p6), .val (.int (Int32.ofNat N)), .val (.int (Int32.ofNat P)), .val (.int (Int32.ofNat SZ)), .val (.ref b1), .unset, .unset] [(.int (p4 &&& (2147483647 : Int32))), (.int (3 : Int32)), (.ref b1)])) (fun _ k => XS.iand X4.here hx rfl (hb hby at_70) rfl k) ?_
  refine own_back (S' := T4.setTop (mkF m 73 #[.val (.int p1), .val (.int p2), .val (.int p3), .val (.int p4), .val (.int p5), .val (.int p6), .val (.int (Int32.ofNat N)), .val (.int (Int32.ofNat P)), .val (.int (Int32.ofNat SZ)), .val (.ref b1), .unset, .unset] [(.int (Int32.ofNat N)), (.int (p4 &&& (2147483647 : Int32))), (.int (3 : Int32)), (.ref b1)])) (fun _ k => XS.iload X4.here hx rfl (hb hby at_71) rfl k) ?_
  refine own_back (S' := T4.setTop (mkF m 74 #[.val (.int p1), .val (.int p2), .val (.int p3), .val (.int p4), .val (.int p5), .val (.int p6), .val (.int (Int32.ofNat N)), .val (.int (Int32.ofNat P)), .val (.int (Int32.ofNat SZ)), .val (.ref b1), .unset, .unset] [(.int ((p4 &&& (2147483647 : Int32)) % (Int32.ofNat N))), (.int (3 : Int32)), (.ref b1)])) (fun _ k => iremM X4 hx rfl (hb hby at_73) rfl (own_nz N hN1 hN4) k) ?_
  obtain ⟨W3, hW3, hW3N⟩ := own_lawW p4 N hN1 hN4
  rw [hW3]
  obtain ⟨T5, h5, X5, e5, W5, A5, st5⟩ := own_stI X4 hx hZ e4 A4 (k := 3) (by decide) rfl (by decide) (g := (mkF m 74 #[.val (.int p1), .val (.int p2), .val (.int p3), .val (.int p4), .val (.int p5), .val (.int p6), .val (.int (Int32.ofNat N)), .val (.int (Int32.ofNat P)), .val (.int (Int32.ofNat SZ)), .val (.ref b1), .unset, .unset] [(.int (Int32.ofNat W3)), (.int (3 : Int32)), (.ref b1)])) rfl rfl (hb hby at_74)
  have N5 := Fr.snoc X5 N4 g_b1
  have Z5 : n0 ≤ h5.size := Nat.le_trans Z4 (Nat.le_of_eq W5.size.symm)
  refine own_back (S' := T5.setTop (mkF m 75 #[.val (.int p1), .val (.int p2), .val (.int p3), .val (.int p4), .val (.int p5), .val (.int p6), .val (.int (Int32.ofNat N)), .val (.int (Int32.ofNat P)), .val (.int (Int32.ofNat SZ)), .val (.ref b1), .unset, .unset] [])) (st5) ?_
  obtain ⟨T6, h6, X6, e6, E6, A6, D6, -, st6⟩ := newO X5 hx hZ hown (hw _ (List.mem_of_getElem? (i := 2) rfl)) (hw _ (List.mem_of_getElem? (i := 3) rfl)) (hw _ (List.mem_of_getElem? (i := 4) rfl)) e5 (g := (mkF m 75 #[.val (.int p1), .val (.int p2), .val (.int p3), .val (.int p4), .val (.int p5), .val (.int p6), .val (.int (Int32.ofNat N)), .val (.int (Int32.ofNat P)), .val (.int (Int32.ofNat SZ)), .val (.ref b1), .unset, .unset] [])) rfl (hb hby at_75) (by decide) (by decide)
  obtain ⟨b6, g6⟩ : ∃ z, z = h5.size := ⟨_, rfl⟩
  rw [← g6] at A6 D6 st6
  have g_b6 : n0 ≤ b6 := Nat.le_trans Z5 (Nat.le_of_eq g6.symm)
  have ne_b1_b6 : b1 ≠ b6 := Nat.ne_of_lt (Nat.lt_of_lt_of_le A5.lt (Nat.le_of_eq g6.symm))
  have Z6 : n0 ≤ h6.size := Nat.le_trans Z5 E6.1
  have A_b1_6 := A5.ext E6
  have F_b6_firsts_6 : Fld Z h6 b6 "com/example/plankeeper/plankeeper/inputs/ParticipantRanges" "firsts" "[I" .null := D6 (Or.inr (hw _ (List.mem_of_getElem? (i := 12) rfl))) (ty := (.array .int)) (by decide)
  have F_b6_order_6 : Fld Z h6 b6 "com/example/plankeeper/plankeeper/inputs/ParticipantRanges" "order" "[I" .null := D6 (Or.inr (hw _ (List.mem_of_getElem? (i := 14) rfl))) (ty := (.array .int)) (by decide)
  refine own_back (S' := T6.setTop (mkF m 78 #[.val (.int p1), .val (.int p2), .val (.int p3), .val (.int p4), .val (.int p5), .val (.int p6), .val (.int (Int32.ofNat N)), .val (.int (Int32.ofNat P)), .val (.int (Int32.ofNat SZ)), .val (.ref b1), .unset, .unset] [(.ref b6)])) (st6) ?_
  refine own_back (S' := T6.setTop (mkF m 79 #[.val (.int p1), .val (.int p2), .val (.int p3), .val (.int p4), .val (.int p5), .val (.int p6), .val (.int (Int32.ofNat N)), .val (.int (Int32.ofNat P)), .val (.int (Int32.ofNat SZ)), .val (.ref b1), .unset, .unset] [(.ref b6), (.ref b6)])) (fun _ k => XS.dup X6.here hx rfl (hb hby at_78) rfl rfl k) ?_
  refine own_back (S' := T6.setTop (mkF m 81 #[.val (.int p1), .val (.int p2), .val (.int p3), .val (.int p4), .val (.int p5), .val (.int p6), .val (.int (Int32.ofNat N)), .val (.int (Int32.ofNat P)), .val (.int (Int32.ofNat SZ)), .val (.ref b1), .unset, .unset] [(.ref b1), (.ref b6), (.ref b6)])) (fun _ k => XS.aload X6.here hx rfl (hb hby at_79) rfl rfl k) ?_
  refine own_back (S' := T6.setTop (mkF m 83 #[.val (.int p1), .val (.int p2), .val (.int p3), .val (.int p4), .val (.int p5), .val (.int p6), .val (.int (Int32.ofNat N)), .val (.int (Int32.ofNat P)), .val (.int (Int32.ofNat SZ)), .val (.ref b1), .unset, .unset] [(.int (Int32.ofNat SZ)), (.ref b1), (.ref b6), (.ref b6)])) (fun _ k => XS.iload X6.here hx rfl (hb hby at_81) rfl k) ?_
  refine own_back (S' := T6.setTop (mkF m 85 #[.val (.int p1), .val (.int p2), .val (.int p3), .val (.int p4), .val (.int p5), .val (.int p6), .val (.int (Int32.ofNat N)), .val (.int (Int32.ofNat P)), .val (.int (Int32.ofNat SZ)), .val (.ref b1), .unset, .unset] [(.int (Int32.ofNat N)), (.int (Int32.ofNat SZ)), (.ref b1), (.ref b6), (.ref b6)])) (fun _ k => XS.iload X6.here hx rfl (hb hby at_83) rfl k) ?_
  have AW : own_I Z h6 b1 .int 4 (fun i => Int32.ofNat (own_w4 W0 W1 W2 W3 i)) := A_b1_6.cong (fun i hi => by match i, hi with | 0, _ => rfl | 1, _ => rfl | 2, _ => rfl | 3, _ => rfl)
  have hWW : ∀ j, j < 4 → own_w4 W0 W1 W2 W3 j < N := fun j hj => by match j, hj with | 0, _ => exact hW0N | 1, _ => exact hW1N | 2, _ => exact hW2N | 3, _ => exact hW3N
  obtain ⟨_, _, ⟨T7, L7, k7, n7⟩, -, X7, ⟨Lc7, hQ7, l7, y7, z7⟩, st7⟩ := X6.specialBack hx (y := (⟨"com/example/plankeeper/plankeeper/inputs/ParticipantRanges", "<init>", "([III)V"⟩ : MethodName)) rfl hown (mvT hZ (hw _ (List.mem_of_getElem? (i := 5) rfl))) (mvT hZ (hw _ (List.mem_of_getElem? (i := 6) rfl))) (mvT hZ (hw _ (List.mem_of_getElem? (i := 7) rfl))) (by decide) (backOf (W := 1) (rm1 l Z a0 hw [] b6 b1 SZ N (own_w4 W0 W1 W2 W3) h6 n0 Z6 A6 g_b6 F_b6_firsts_6 F_b6_order_6 AW (Ne.symm ne_b1_b6) hSZ4 hN4 hN1 hWW) hZ (hw _ (List.mem_of_getElem? (i := 7) rfl)) (hw _ (List.mem_of_getElem? (i := 4) rfl)) (by decide) (by decide)) (g := (mkF m 85 #[.val (.int p1), .val (.int p2), .val (.int p3), .val (.int p4), .val (.int p5), .val (.int p6), .val (.int (Int32.ofNat N)), .val (.int (Int32.ofNat P)), .val (.int (Int32.ofNat SZ)), .val (.ref b1), .unset, .unset] [(.int (Int32.ofNat N)), (.int (Int32.ofNat SZ)), (.ref b1), (.ref b6), (.ref b6)])) rfl (by rw [hml]; rfl) (Steps.refl _) (a := b6) (argsL := [(.ref b1), (.int (Int32.ofNat SZ)), (.int (Int32.ofNat N))]) (rest := [(.ref b6)]) (lenOf pd_2 rfl) rfl (by show 2 * 0 + _ ≤ _; exact Nat.le_of_eq rfl) (hb hby at_85) (fun _ _ => ⟨rfl, e6, (by decide : 2 + 3 ≤ _), (by decide : 6 + 13 ≤ _)⟩)
  dsimp only [Pt.U, Pt.locs, Pt.cells, Pt.slots] at X7 l7 y7 z7 st7 hQ7
  subst l7 y7 z7
  generalize e7 : T7.heap = h7 at hQ7
  obtain ⟨rfl, N7q, K7, Ex7, Fx7, Ax7⟩ := hQ7
  have N7 := Fr.app N5 N7q
  obtain ⟨b7, g7⟩ : ∃ z, z = h6.size := ⟨_, rfl⟩
  rw [← g7] at Fx7 Ax7
  have Z7 : n0 ≤ h7.size := Nat.le_trans Z6 K7.1
  have A_b1_7 := AW.keep K7 (ninS ne_b1_b6 nin0)
  refine own_back (S' := T7.setTop (mkF m 88 #[.val (.int p1), .val (.int p2), .val (.int p3), .val (.int p4), .val (.int p5), .val (.int p6), .val (.int (Int32.ofNat N)), .val (.int (Int32.ofNat P)), .val (.int (Int32.ofNat SZ)), .val (.ref b1), .unset, .unset] [(.ref b6)])) (fun _ k => st7.trans k) ?_
  refine own_back (S' := T7.setTop (mkF m 90 #[.val (.int p1), .val (.int p2), .val (.int p3), .val (.int p4), .val (.int p5), .val (.int p6), .val (.int (Int32.ofNat N)), .val (.int (Int32.ofNat P)), .val (.int (Int32.ofNat SZ)), .val (.ref b1), .val (.ref b6), .unset] [])) (fun _ k => XS.astore X7.here hx rfl (hb hby at_88) rfl rfl (l' := #[.val (.int p1), .val (.int p2), .val (.int p3), .val (.int p4), .val (.int p5), .val (.int p6), .val (.int (Int32.ofNat N)), .val (.int (Int32.ofNat P)), .val (.int (Int32.ofNat SZ)), .val (.ref b1), .val (.ref b6), .unset]) rfl k) ?_
  refine own_case (P := own_any SZ P W0 W1 W2 W3) (S1 := (T7.setTop (mkF m 156 #[.val (.int p1), .val (.int p2), .val (.int p3), .val (.int p4), .val (.int p5), .val (.int p6), .val (.int (Int32.ofNat N)), .val (.int (Int32.ofNat P)), .val (.int (Int32.ofNat SZ)), .val (.ref b1), .val (.ref b6), .val (.int (1 : Int32))] []))) (S2 := (T7.setTop (mkF m 156 #[.val (.int p1), .val (.int p2), .val (.int p3), .val (.int p4), .val (.int p5), .val (.int p6), .val (.int (Int32.ofNat N)), .val (.int (Int32.ofNat P)), .val (.int (Int32.ofNat SZ)), .val (.ref b1), .val (.ref b6), .val (.int (0 : Int32))] []))) (fun hex => ?_) (fun hex => ?_) (fun hT hF => ?_)
  ·
    refine own_back (S' := T7.setTop (mkF m 158 #[.val (.int p1), .val (.int p2), .val (.int p3), .val (.int p4), .val (.int p5), .val (.int p6), .val (.int (Int32.ofNat N)), .val (.int (Int32.ofNat P)), .val (.int (Int32.ofNat SZ)), .val (.ref b1), .val (.ref b6), .val (.int (1 : Int32))] [(.ref b6)])) (fun _ k => XS.aload X7.here hx rfl (hb hby at_156) rfl rfl k) ?_
    refine own_back (S' := T7.setTop (mkF m 160 #[.val (.int p1), .val (.int p2), .val (.int p3), .val (.int p4), .val (.int p5), .val (.int p6), .val (.int (Int32.ofNat N)), .val (.int (Int32.ofNat P)), .val (.int (Int32.ofNat SZ)), .val (.ref b1), .val (.ref b6), .val (.int (1 : Int32))] [(.int (Int32.ofNat P)), (.ref b6)])) (fun _ k => XS.iload X7.here hx rfl (hb hby at_158) rfl k) ?_
    obtain ⟨cq8, kq8, q8a, q8b, q8c⟩ := isOf hZ e7 Ex7
    obtain ⟨_, _, ⟨T8, L8, k8, n8⟩, -, X8, ⟨Lc8, hQ8, l8, y8, z8⟩, st8⟩ := X7.virtualBack hx (y := (⟨"com/example/plankeeper/plankeeper/inputs/ParticipantRanges", "holds", "(I)Z"⟩ : MethodName)) (z := (⟨"com/example/plankeeper/plankeeper/inputs/ParticipantRanges", "holds", "(I)Z"⟩ : MethodName)) hown (mvT hZ (hw _ (List.mem_of_getElem? (i := 27) rfl))) (mvT hZ (hw _ (List.mem_of_getElem? (i := 28) rfl))) (notFace_of_selects (args := #[]) (mvT hZ (hw _ (List.mem_of_getElem? (i := 30) rfl)))) (mvT hZ (hw _ (List.mem_of_getElem? (i := 30) rfl))) (mvT hZ (hw _ (List.mem_of_getElem? (i := 29) rfl))) (by decide) (backOf (W := 0) (rm5 l Z a0 hw [] b6 P b7 N (fun k => Int32.ofNat (own_lt (own_w4 W0 W1 W2 W3) SZ k)) h7 n0 Z7 Fx7 Ax7 hPN hN4) hZ (hw _ (List.mem_of_getElem? (i := 31) rfl)) (hw _ (List.mem_of_getElem? (i := 4) rfl)) (by decide) (by decide)) q8a q8c (g := (mkF m 160 #[.val (.int p1), .val (.int p2), .val (.int p3), .val (.int p4), .val (.int p5), .val (.int p6), .val (.int (Int32.ofNat N)), .val (.int (Int32.ofNat P)), .val (.int (Int32.ofNat SZ)), .val (.ref b1), .val (.ref b6), .val (.int (1 : Int32))] [(.int (Int32.ofNat P)), (.ref b6)])) rfl (by rw [hml]; rfl) (Steps.refl _) (argsL := [(.int (Int32.ofNat P))]) (rest := []) (lenOf pd_3 rfl) rfl (by show 2 * 0 + _ ≤ _; exact Nat.le_of_eq rfl) (hb hby at_160) (fun _ _ => ⟨rfl, e7, (by decide : 5 + 0 ≤ _), (by decide : 19 + 0 ≤ _)⟩)
    dsimp only [Pt.U, Pt.locs, Pt.cells, Pt.slots] at X8 l8 y8 z8 st8 hQ8
    subst l8 y8 z8
    obtain ⟨rfl, N8q, e8⟩ := hQ8
    have N8 := Fr.app N7 N8q
    refine own_back (S' := T8.setTop (mkF m 163 #[.val (.int p1), .val (.int p2), .val (.int p3), .val (.int p4), .val (.int p5), .val (.int p6), .val (.int (Int32.ofNat N)), .val (.int (Int32.ofNat P)), .val (.int (Int32.ofNat SZ)), .val (.ref b1), .val (.ref b6), .val (.int (1 : Int32))] [(.int (own_hold (Int32.ofNat (own_lt (own_w4 W0 W1 W2 W3) SZ P)) (Int32.ofNat (own_lt (own_w4 W0 W1 W2 W3) SZ (P + 1)))))])) (fun _ k => st8.trans k) ?_
    refine own_back (S' := T8.setTop (mkF m 165 #[.val (.int p1), .val (.int p2), .val (.int p3), .val (.int p4), .val (.int p5), .val (.int p6), .val (.int (Int32.ofNat N)), .val (.int (Int32.ofNat P)), .val (.int (Int32.ofNat SZ)), .val (.ref b1), .val (.ref b6), .val (.int (1 : Int32))] [(.int (1 : Int32)), (.int (own_hold (Int32.ofNat (own_lt (own_w4 W0 W1 W2 W3) SZ P)) (Int32.ofNat (own_lt (own_w4 W0 W1 W2 W3) SZ (P + 1)))))])) (fun _ k => XS.iload X8.here hx rfl (hb hby at_163) rfl k) ?_
    refine own_back (S' := T8.setTop (mkF m 168 #[.val (.int p1), .val (.int p2), .val (.int p3), .val (.int p4), .val (.int p5), .val (.int p6), .val (.int (Int32.ofNat N)), .val (.int (Int32.ofNat P)), .val (.int (Int32.ofNat SZ)), .val (.ref b1), .val (.ref b6), .val (.int (1 : Int32))] [])) (fun _ k => XS.icmpNo X8.here hx rfl (hb hby at_165) rfl (teq (own_fin1 _ _ _ _ _ _ hSZ4 hex : (own_hold (Int32.ofNat (own_lt (own_w4 W0 W1 W2 W3) SZ P)) (Int32.ofNat (own_lt (own_w4 W0 W1 W2 W3) SZ (P + 1)))) = (1 : Int32))).2 k) ?_
    refine own_back (S' := T8.setTop (mkF m 169 #[.val (.int p1), .val (.int p2), .val (.int p3), .val (.int p4), .val (.int p5), .val (.int p6), .val (.int (Int32.ofNat N)), .val (.int (Int32.ofNat P)), .val (.int (Int32.ofNat SZ)), .val (.ref b1), .val (.ref b6), .val (.int (1 : Int32))] [(.int (1 : Int32))])) (fun _ k => XS.iconst X8.here hx rfl (hb hby at_168)  k) ?_
    refine own_back (S' := T8.setTop (mkF m 173 #[.val (.int p1), .val (.int p2), .val (.int p3), .val (.int p4), .val (.int p5), .val (.int p6), .val (.int (Int32.ofNat N)), .val (.int (Int32.ofNat P)), .val (.int (Int32.ofNat SZ)), .val (.ref b1), .val (.ref b6), .val (.int (1 : Int32))] [(.int (1 : Int32))])) (fun _ k => XS.goto X8.here hx rfl (pc0 := 169) (pc' := 173) rfl (hb hby at_169) (by decide) (by decide) k) ?_
    obtain ⟨fs, hr, hrun, hended, hW, hsame⟩ := X8.leave (v := some (.int (1 : Int32))) (fun h => by rw [Bd.returns] at h; cases h)
    refine own_done ⟨_, _, retN X8 hx (t := .boolean) Bd.returns (by simp) (hb hby at_173) hr, hrun, hended, _, _, rfl, ?_, ⟨_, rfl⟩, hW, hsame.mono (by decide) (by decide)⟩
    show Q0 Z p1 p2 p3 p4 p5 p6 h0 n0 _ T8.heap _
    rw [e8]
    exact ⟨rfl, N8⟩
  ·
    refine own_back (S' := T7.setTop (mkF m 158 #[.val (.int p1), .val (.int p2), .val (.int p3), .val (.int p4), .val (.int p5), .val (.int p6), .val (.int (Int32.ofNat N)), .val (.int (Int32.ofNat P)), .val (.int (Int32.ofNat SZ)), .val (.ref b1), .val (.ref b6), .val (.int (0 : Int32))] [(.ref b6)])) (fun _ k => XS.aload X7.here hx rfl (hb hby at_156) rfl rfl k) ?_
    refine own_back (S' := T7.setTop (mkF m 160 #[.val (.int p1), .val (.int p2), .val (.int p3), .val (.int p4), .val (.int p5), .val (.int p6), .val (.int (Int32.ofNat N)), .val (.int (Int32.ofNat P)), .val (.int (Int32.ofNat SZ)), .val (.ref b1), .val (.ref b6), .val (.int (0 : Int32))] [(.int (Int32.ofNat P)), (.ref b6)])) (fun _ k => XS.iload X7.here hx rfl (hb hby at_158) rfl k) ?_
    obtain ⟨cq10, kq10, q10a, q10b, q10c⟩ := isOf hZ e7 Ex7
    obtain ⟨_, _, ⟨T10, L10, k10, n10⟩, -, X10, ⟨Lc10, hQ10, l10, y10, z10⟩, st10⟩ := X7.virtualBack hx (y := (⟨"com/example/plankeeper/plankeeper/inputs/ParticipantRanges", "holds", "(I)Z"⟩ : MethodName)) (z := (⟨"com/example/plankeeper/plankeeper/inputs/ParticipantRanges", "holds", "(I)Z"⟩ : MethodName)) hown (mvT hZ (hw _ (List.mem_of_getElem? (i := 27) rfl))) (mvT hZ (hw _ (List.mem_of_getElem? (i := 28) rfl))) (notFace_of_selects (args := #[]) (mvT hZ (hw _ (List.mem_of_getElem? (i := 30) rfl)))) (mvT hZ (hw _ (List.mem_of_getElem? (i := 30) rfl))) (mvT hZ (hw _ (List.mem_of_getElem? (i := 29) rfl))) (by decide) (backOf (W := 0) (rm5 l Z a0 hw [] b6 P b7 N (fun k => Int32.ofNat (own_lt (own_w4 W0 W1 W2 W3) SZ k)) h7 n0 Z7 Fx7 Ax7 hPN hN4) hZ (hw _ (List.mem_of_getElem? (i := 31) rfl)) (hw _ (List.mem_of_getElem? (i := 4) rfl)) (by decide) (by decide)) q10a q10c (g := (mkF m 160 #[.val (.int p1), .val (.int p2), .val (.int p3), .val (.int p4), .val (.int p5), .val (.int p6), .val (.int (Int32.ofNat N)), .val (.int (Int32.ofNat P)), .val (.int (Int32.ofNat SZ)), .val (.ref b1), .val (.ref b6), .val (.int (0 : Int32))] [(.int (Int32.ofNat P)), (.ref b6)])) rfl (by rw [hml]; rfl) (Steps.refl _) (argsL := [(.int (Int32.ofNat P))]) (rest := []) (lenOf pd_3 rfl) rfl (by show 2 * 0 + _ ≤ _; exact Nat.le_of_eq rfl) (hb hby at_160) (fun _ _ => ⟨rfl, e7, (by decide : 5 + 0 ≤ _), (by decide : 19 + 0 ≤ _)⟩)
    dsimp only [Pt.U, Pt.locs, Pt.cells, Pt.slots] at X10 l10 y10 z10 st10 hQ10
    subst l10 y10 z10
    obtain ⟨rfl, N10q, e10⟩ := hQ10
    have N10 := Fr.app N7 N10q
    refine own_back (S' := T10.setTop (mkF m 163 #[.val (.int p1), .val (.int p2), .val (.int p3), .val (.int p4), .val (.int p5), .val (.int p6), .val (.int (Int32.ofNat N)), .val (.int (Int32.ofNat P)), .val (.int (Int32.ofNat SZ)), .val (.ref b1), .val (.ref b6), .val (.int (0 : Int32))] [(.int (own_hold (Int32.ofNat (own_lt (own_w4 W0 W1 W2 W3) SZ P)) (Int32.ofNat (own_lt (own_w4 W0 W1 W2 W3) SZ (P + 1)))))])) (fun _ k => st10.trans k) ?_
    refine own_back (S' := T10.setTop (mkF m 165 #[.val (.int p1), .val (.int p2), .val (.int p3), .val (.int p4), .val (.int p5), .val (.int p6), .val (.int (Int32.ofNat N)), .val (.int (Int32.ofNat P)), .val (.int (Int32.ofNat SZ)), .val (.ref b1), .val (.ref b6), .val (.int (0 : Int32))] [(.int (0 : Int32)), (.int (own_hold (Int32.ofNat (own_lt (own_w4 W0 W1 W2 W3) SZ P)) (Int32.ofNat (own_lt (own_w4 W0 W1 W2 W3) SZ (P + 1)))))])) (fun _ k => XS.iload X10.here hx rfl (hb hby at_163) rfl k) ?_
    refine own_back (S' := T10.setTop (mkF m 168 #[.val (.int p1), .val (.int p2), .val (.int p3), .val (.int p4), .val (.int p5), .val (.int p6), .val (.int (Int32.ofNat N)), .val (.int (Int32.ofNat P)), .val (.int (Int32.ofNat SZ)), .val (.ref b1), .val (.ref b6), .val (.int (0 : Int32))] [])) (fun _ k => XS.icmpNo X10.here hx rfl (hb hby at_165) rfl (teq (own_fin0 _ _ _ _ _ _ hSZ4 hex : (own_hold (Int32.ofNat (own_lt (own_w4 W0 W1 W2 W3) SZ P)) (Int32.ofNat (own_lt (own_w4 W0 W1 W2 W3) SZ (P + 1)))) = (0 : Int32))).2 k) ?_
    refine own_back (S' := T10.setTop (mkF m 169 #[.val (.int p1), .val (.int p2), .val (.int p3), .val (.int p4), .val (.int p5), .val (.int p6), .val (.int (Int32.ofNat N)), .val (.int (Int32.ofNat P)), .val (.int (Int32.ofNat SZ)), .val (.ref b1), .val (.ref b6), .val (.int (0 : Int32))] [(.int (1 : Int32))])) (fun _ k => XS.iconst X10.here hx rfl (hb hby at_168)  k) ?_
    refine own_back (S' := T10.setTop (mkF m 173 #[.val (.int p1), .val (.int p2), .val (.int p3), .val (.int p4), .val (.int p5), .val (.int p6), .val (.int (Int32.ofNat N)), .val (.int (Int32.ofNat P)), .val (.int (Int32.ofNat SZ)), .val (.ref b1), .val (.ref b6), .val (.int (0 : Int32))] [(.int (1 : Int32))])) (fun _ k => XS.goto X10.here hx rfl (pc0 := 169) (pc' := 173) rfl (hb hby at_169) (by decide) (by decide) k) ?_
    obtain ⟨fs, hr, hrun, hended, hW, hsame⟩ := X10.leave (v := some (.int (1 : Int32))) (fun h => by rw [Bd.returns] at h; cases h)
    refine own_done ⟨_, _, retN X10 hx (t := .boolean) Bd.returns (by simp) (hb hby at_173) hr, hrun, hended, _, _, rfl, ?_, ⟨_, rfl⟩, hW, hsame.mono (by decide) (by decide)⟩
    show Q0 Z p1 p2 p3 p4 p5 p6 h0 n0 _ T10.heap _
    rw [e10]
    exact ⟨rfl, N10⟩
  ·
    refine own_back (S' := T7.setTop (mkF m 92 #[.val (.int p1), .val (.int p2), .val (.int p3), .val (.int p4), .val (.int p5), .val (.int p6), .val (.int (Int32.ofNat N)), .val (.int (Int32.ofNat P)), .val (.int (Int32.ofNat SZ)), .val (.ref b1), .val (.ref b6), .unset] [(.int (Int32.ofNat SZ))])) (fun _ k => XS.iload X7.here hx rfl (hb hby at_90) rfl k) ?_
    by_cases hc92_12 : (0 : Int32) < (Int32.ofNat SZ)
    ·
      have hc92_12n : 0 < SZ := (own_ltn (a := 0) (by omega) (by omega)).mp hc92_12
      refine own_back (S' := T7.setTop (mkF m 95 #[.val (.int p1), .val (.int p2), .val (.int p3), .val (.int p4), .val (.int p5), .val (.int p6), .val (.int (Int32.ofNat N)), .val (.int (Int32.ofNat P)), .val (.int (Int32.ofNat SZ)), .val (.ref b1), .val (.ref b6), .unset] [])) (fun _ k => XS.ifNo X7.here hx rfl (hb hby at_92) rfl ((if0 _ _).trans (tlt hc92_12).2.2.2) k) ?_
      refine own_back (S' := T7.setTop (mkF m 97 #[.val (.int p1), .val (.int p2), .val (.int p3), .val (.int p4), .val (.int p5), .val (.int p6), .val (.int (Int32.ofNat N)), .val (.int (Int32.ofNat P)), .val (.int (Int32.ofNat SZ)), .val (.ref b1), .val (.ref b6), .unset] [(.ref b1)])) (fun _ k => XS.aload X7.here hx rfl (hb hby at_95) rfl rfl k) ?_
      refine own_back (S' := T7.setTop (mkF m 98 #[.val (.int p1), .val (.int p2), .val (.int p3), .val (.int p4), .val (.int p5), .val (.int p6), .val (.int (Int32.ofNat N)), .val (.int (Int32.ofNat P)), .val (.int (Int32.ofNat SZ)), .val (.ref b1), .val (.ref b6), .unset] [(.int (0 : Int32)), (.ref b1)])) (fun _ k => XS.iconst X7.here hx rfl (hb hby at_97)  k) ?_
      refine own_back (S' := T7.setTop (mkF m 99 #[.val (.int p1), .val (.int p2), .val (.int p3), .val (.int p4), .val (.int p5), .val (.int p6), .val (.int (Int32.ofNat N)), .val (.int (Int32.ofNat P)), .val (.int (Int32.ofNat SZ)), .val (.ref b1), .val (.ref b6), .unset] [(.int (Int32.ofNat W0))])) (own_ldI X7 hx hZ e7 A_b1_7 (k := 0) (w := (Int32.ofNat W0)) (by decide) rfl (by decide) rfl (g := (mkF m 98 #[.val (.int p1), .val (.int p2), .val (.int p3), .val (.int p4), .val (.int p5), .val (.int p6), .val (.int (Int32.ofNat N)), .val (.int (Int32.ofNat P)), .val (.int (Int32.ofNat SZ)), .val (.ref b1), .val (.ref b6), .unset] [(.int (0 : Int32)), (.ref b1)])) rfl rfl (hb hby at_98)) ?_
      refine own_back (S' := T7.setTop (mkF m 101 #[.val (.int p1), .val (.int p2), .val (.int p3), .val (.int p4), .val (.int p5), .val (.int p6), .val (.int (Int32.ofNat N)), .val (.int (Int32.ofNat P)), .val (.int (Int32.ofNat SZ)), .val (.ref b1), .val (.ref b6), .unset] [(.int (Int32.ofNat P)), (.int (Int32.ofNat W0))])) (fun _ k => XS.iload X7.here hx rfl (hb hby at_99) rfl k) ?_
      by_cases hc101_13 : (Int32.ofNat W0) = (Int32.ofNat P)
      ·
        have hc101_13n : W0 = P := (own_eqn (a := W0) (b := P) (by omega) (by omega)).mp hc101_13
        refine own_back (S' := T7.setTop (mkF m 149 #[.val (.int p1), .val (.int p2), .val (.int p3), .val (.int p4), .val (.int p5), .val (.int p6), .val (.int (Int32.ofNat N)), .val (.int (Int32.ofNat P)), .val (.int (Int32.ofNat SZ)), .val (.ref b1), .val (.ref b6), .unset] [])) (fun _ k => XS.icmpYes X7.here hx rfl (pc0 := 101) (pc' := 149) rfl (hb hby at_101) rfl (teq hc101_13).1 (by decide) (by decide) k) ?_
        refine own_back (S' := T7.setTop (mkF m 150 #[.val (.int p1), .val (.int p2), .val (.int p3), .val (.int p4), .val (.int p5), .val (.int p6), .val (.int (Int32.ofNat N)), .val (.int (Int32.ofNat P)), .val (.int (Int32.ofNat SZ)), .val (.ref b1), .val (.ref b6), .unset] [(.int (1 : Int32))])) (fun _ k => XS.iconst X7.here hx rfl (hb hby at_149)  k) ?_
        refine own_back (S' := T7.setTop (mkF m 154 #[.val (.int p1), .val (.int p2), .val (.int p3), .val (.int p4), .val (.int p5), .val (.int p6), .val (.int (Int32.ofNat N)), .val (.int (Int32.ofNat P)), .val (.int (Int32.ofNat SZ)), .val (.ref b1), .val (.ref b6), .unset] [(.int (1 : Int32))])) (fun _ k => XS.goto X7.here hx rfl (pc0 := 150) (pc' := 154) rfl (hb hby at_150) (by decide) (by decide) k) ?_
        refine own_back (S' := T7.setTop (mkF m 156 #[.val (.int p1), .val (.int p2), .val (.int p3), .val (.int p4), .val (.int p5), .val (.int p6), .val (.int (Int32.ofNat N)), .val (.int (Int32.ofNat P)), .val (.int (Int32.ofNat SZ)), .val (.ref b1), .val (.ref b6), .val (.int (1 : Int32))] [])) (fun _ k => XS.istore X7.here hx rfl (hb hby at_154) rfl (l' := #[.val (.int p1), .val (.int p2), .val (.int p3), .val (.int p4), .val (.int p5), .val (.int p6), .val (.int (Int32.ofNat N)), .val (.int (Int32.ofNat P)), .val (.int (Int32.ofNat SZ)), .val (.ref b1), .val (.ref b6), .val (.int (1 : Int32))]) rfl k) ?_
        exact hT (by unfold own_any; omega)
      ·
        have hc101_13n : ¬ (W0 = P) := fun q => hc101_13 ((own_eqn (a := W0) (b := P) (by omega) (by omega)).mpr q)
        refine own_back (S' := T7.setTop (mkF m 104 #[.val (.int p1), .val (.int p2), .val (.int p3), .val (.int p4), .val (.int p5), .val (.int p6), .val (.int (Int32.ofNat N)), .val (.int (Int32.ofNat P)), .val (.int (Int32.ofNat SZ)), .val (.ref b1), .val (.ref b6), .unset] [])) (fun _ k => XS.icmpNo X7.here hx rfl (hb hby at_101) rfl (feq hc101_13).1 k) ?_
        refine own_back (S' := T7.setTop (mkF m 106 #[.val (.int p1), .val (.int p2), .val (.int p3), .val (.int p4), .val (.int p5), .val (.int p6), .val (.int (Int32.ofNat N)), .val (.int (Int32.ofNat P)), .val (.int (Int32.ofNat SZ)), .val (.ref b1), .val (.ref b6), .unset] [(.int (Int32.ofNat SZ))])) (fun _ k => XS.iload X7.here hx rfl (hb hby at_104) rfl k) ?_
        refine own_back (S' := T7.setTop (mkF m 107 #[.val (.int p1), .val (.int p2), .val (.int p3), .val (.int p4), .val (.int p5), .val (.int p6), .val (.int (Int32.ofNat N)), .val (.int (Int32.ofNat P)), .val (.int (Int32.ofNat SZ)), .val (.ref b1), .val (.ref b6), .unset] [(.int (1 : Int32)), (.int (Int32.ofNat SZ))])) (fun _ k => XS.iconst X7.here hx rfl (hb hby at_106)  k) ?_
        by_cases hc107_14 : (1 : Int32) < (Int32.ofNat SZ)
        ·
          have hc107_14n : 1 < SZ := (own_ltn (a := 1) (by omega) (by omega)).mp hc107_14
          refine own_back (S' := T7.setTop (mkF m 110 #[.val (.int p1), .val (.int p2), .val (.int p3), .val (.int p4), .val (.int p5), .val (.int p6), .val (.int (Int32.ofNat N)), .val (.int (Int32.ofNat P)), .val (.int (Int32.ofNat SZ)), .val (.ref b1), .val (.ref b6), .unset] [])) (fun _ k => XS.icmpNo X7.here hx rfl (hb hby at_107) rfl (tlt hc107_14).2.2.2 k) ?_
          refine own_back (S' := T7.setTop (mkF m 112 #[.val (.int p1), .val (.int p2), .val (.int p3), .val (.int p4), .val (.int p5), .val (.int p6), .val (.int (Int32.ofNat N)), .val (.int (Int32.ofNat P)), .val (.int (Int32.ofNat SZ)), .val (.ref b1), .val (.ref b6), .unset] [(.ref b1)])) (fun _ k => XS.aload X7.here hx rfl (hb hby at_110) rfl rfl k) ?_
          refine own_back (S' := T7.setTop (mkF m 113 #[.val (.int p1), .val (.int p2), .val (.int p3), .val (.int p4), .val (.int p5), .val (.int p6), .val (.int (Int32.ofNat N)), .val (.int (Int32.ofNat P)), .val (.int (Int32.ofNat SZ)), .val (.ref b1), .val (.ref b6), .unset] [(.int (1 : Int32)), (.ref b1)])) (fun _ k => XS.iconst X7.here hx rfl (hb hby at_112)  k) ?_
          refine own_back (S' := T7.setTop (mkF m 114 #[.val (.int p1), .val (.int p2), .val (.int p3), .val (.int p4), .val (.int p5), .val (.int p6), .val (.int (Int32.ofNat N)), .val (.int (Int32.ofNat P)), .val (.int (Int32.ofNat SZ)), .val (.ref b1), .val (.ref b6), .unset] [(.int (Int32.ofNat W1))])) (own_ldI X7 hx hZ e7 A_b1_7 (k := 1) (w := (Int32.ofNat W1)) (by decide) rfl (by decide) rfl (g := (mkF m 113 #[.val (.int p1), .val (.int p2), .val (.int p3), .val (.int p4), .val (.int p5), .val (.int p6), .val (.int (Int32.ofNat N)), .val (.int (Int32.ofNat P)), .val (.int (Int32.ofNat SZ)), .val (.ref b1), .val (.ref b6), .unset] [(.int (1 : Int32)), (.ref b1)])) rfl rfl (hb hby at_113)) ?_
          refine own_back (S' := T7.setTop (mkF m 116 #[.val (.int p1), .val (.int p2), .val (.int p3), .val (.int p4), .val (.int p5), .val (.int p6), .val (.int (Int32.ofNat N)), .val (.int (Int32.ofNat P)), .val (.int (Int32.ofNat SZ)), .val (.ref b1), .val (.ref b6), .unset] [(.int (Int32.ofNat P)), (.int (Int32.ofNat W1))])) (fun _ k => XS.iload X7.here hx rfl (hb hby at_114) rfl k) ?_
          by_cases hc116_15 : (Int32.ofNat W1) = (Int32.ofNat P)
          ·
            have hc116_15n : W1 = P := (own_eqn (a := W1) (b := P) (by omega) (by omega)).mp hc116_15
            refine own_back (S' := T7.setTop (mkF m 149 #[.val (.int p1), .val (.int p2), .val (.int p3), .val (.int p4), .val (.int p5), .val (.int p6), .val (.int (Int32.ofNat N)), .val (.int (Int32.ofNat P)), .val (.int (Int32.ofNat SZ)), .val (.ref b1), .val (.ref b6), .unset] [])) (fun _ k => XS.icmpYes X7.here hx rfl (pc0 := 116) (pc' := 149) rfl (hb hby at_116) rfl (teq hc116_15).1 (by decide) (by decide) k) ?_
            refine own_back (S' := T7.setTop (mkF m 150 #[.val (.int p1), .val (.int p2), .val (.int p3), .val (.int p4), .val (.int p5), .val (.int p6), .val (.int (Int32.ofNat N)), .val (.int (Int32.ofNat P)), .val (.int (Int32.ofNat SZ)), .val (.ref b1), .val (.ref b6), .unset] [(.int (1 : Int32))])) (fun _ k => XS.iconst X7.here hx rfl (hb hby at_149)  k) ?_
            refine own_back (S' := T7.setTop (mkF m 154 #[.val (.int p1), .val (.int p2), .val (.int p3), .val (.int p4), .val (.int p5), .val (.int p6), .val (.int (Int32.ofNat N)), .val (.int (Int32.ofNat P)), .val (.int (Int32.ofNat SZ)), .val (.ref b1), .val (.ref b6), .unset] [(.int (1 : Int32))])) (fun _ k => XS.goto X7.here hx rfl (pc0 := 150) (pc' := 154) rfl (hb hby at_150) (by decide) (by decide) k) ?_
            refine own_back (S' := T7.setTop (mkF m 156 #[.val (.int p1), .val (.int p2), .val (.int p3), .val (.int p4), .val (.int p5), .val (.int p6), .val (.int (Int32.ofNat N)), .val (.int (Int32.ofNat P)), .val (.int (Int32.ofNat SZ)), .val (.ref b1), .val (.ref b6), .val (.int (1 : Int32))] [])) (fun _ k => XS.istore X7.here hx rfl (hb hby at_154) rfl (l' := #[.val (.int p1), .val (.int p2), .val (.int p3), .val (.int p4), .val (.int p5), .val (.int p6), .val (.int (Int32.ofNat N)), .val (.int (Int32.ofNat P)), .val (.int (Int32.ofNat SZ)), .val (.ref b1), .val (.ref b6), .val (.int (1 : Int32))]) rfl k) ?_
            exact hT (by unfold own_any; omega)
          ·
            have hc116_15n : ¬ (W1 = P) := fun q => hc116_15 ((own_eqn (a := W1) (b := P) (by omega) (by omega)).mpr q)
            refine own_back (S' := T7.setTop (mkF m 119 #[.val (.int p1), .val (.int p2), .val (.int p3), .val (.int p4), .val (.int p5), .val (.int p6), .val (.int (Int32.ofNat N)), .val (.int (Int32.ofNat P)), .val (.int (Int32.ofNat SZ)), .val (.ref b1), .val (.ref b6), .unset] [])) (fun _ k => XS.icmpNo X7.here hx rfl (hb hby at_116) rfl (feq hc116_15).1 k) ?_
            refine own_back (S' := T7.setTop (mkF m 121 #[.val (.int p1), .val (.int p2), .val (.int p3), .val (.int p4), .val (.int p5), .val (.int p6), .val (.int (Int32.ofNat N)), .val (.int (Int32.ofNat P)), .val (.int (Int32.ofNat SZ)), .val (.ref b1), .val (.ref b6), .unset] [(.int (Int32.ofNat SZ))])) (fun _ k => XS.iload X7.here hx rfl (hb hby at_119) rfl k) ?_
            refine own_back (S' := T7.setTop (mkF m 122 #[.val (.int p1), .val (.int p2), .val (.int p3), .val (.int p4), .val (.int p5), .val (.int p6), .val (.int (Int32.ofNat N)), .val (.int (Int32.ofNat P)), .val (.int (Int32.ofNat SZ)), .val (.ref b1), .val (.ref b6), .unset] [(.int (2 : Int32)), (.int (Int32.ofNat SZ))])) (fun _ k => XS.iconst X7.here hx rfl (hb hby at_121)  k) ?_
            by_cases hc122_16 : (2 : Int32) < (Int32.ofNat SZ)
            ·
              have hc122_16n : 2 < SZ := (own_ltn (a := 2) (by omega) (by omega)).mp hc122_16
              refine own_back (S' := T7.setTop (mkF m 125 #[.val (.int p1), .val (.int p2), .val (.int p3), .val (.int p4), .val (.int p5), .val (.int p6), .val (.int (Int32.ofNat N)), .val (.int (Int32.ofNat P)), .val (.int (Int32.ofNat SZ)), .val (.ref b1), .val (.ref b6), .unset] [])) (fun _ k => XS.icmpNo X7.here hx rfl (hb hby at_122) rfl (tlt hc122_16).2.2.2 k) ?_
              refine own_back (S' := T7.setTop (mkF m 127 #[.val (.int p1), .val (.int p2), .val (.int p3), .val (.int p4), .val (.int p5), .val (.int p6), .val (.int (Int32.ofNat N)), .val (.int (Int32.ofNat P)), .val (.int (Int32.ofNat SZ)), .val (.ref b1), .val (.ref b6), .unset] [(.ref b1)])) (fun _ k => XS.aload X7.here hx rfl (hb hby at_125) rfl rfl k) ?_
              refine own_back (S' := T7.setTop (mkF m 128 #[.val (.int p1), .val (.int p2), .val (.int p3), .val (.int p4), .val (.int p5), .val (.int p6), .val (.int (Int32.ofNat N)), .val (.int (Int32.ofNat P)), .val (.int (Int32.ofNat SZ)), .val (.ref b1), .val (.ref b6), .unset] [(.int (2 : Int32)), (.ref b1)])) (fun _ k => XS.iconst X7.here hx rfl (hb hby at_127)  k) ?_
              refine own_back (S' := T7.setTop (mkF m 129 #[.val (.int p1), .val (.int p2), .val (.int p3), .val (.int p4), .val (.int p5), .val (.int p6), .val (.int (Int32.ofNat N)), .val (.int (Int32.ofNat P)), .val (.int (Int32.ofNat SZ)), .val (.ref b1), .val (.ref b6), .unset] [(.int (Int32.ofNat W2))])) (own_ldI X7 hx hZ e7 A_b1_7 (k := 2) (w := (Int32.ofNat W2)) (by decide) rfl (by decide) rfl (g := (mkF m 128 #[.val (.int p1), .val (.int p2), .val (.int p3), .val (.int p4), .val (.int p5), .val (.int p6), .val (.int (Int32.ofNat N)), .val (.int (Int32.ofNat P)), .val (.int (Int32.ofNat SZ)), .val (.ref b1), .val (.ref b6), .unset] [(.int (2 : Int32)), (.ref b1)])) rfl rfl (hb hby at_128)) ?_
              refine own_back (S' := T7.setTop (mkF m 131 #[.val (.int p1), .val (.int p2), .val (.int p3), .val (.int p4), .val (.int p5), .val (.int p6), .val (.int (Int32.ofNat N)), .val (.int (Int32.ofNat P)), .val (.int (Int32.ofNat SZ)), .val (.ref b1), .val (.ref b6), .unset] [(.int (Int32.ofNat P)), (.int (Int32.ofNat W2))])) (fun _ k => XS.iload X7.here hx rfl (hb hby at_129) rfl k) ?_
              by_cases hc131_17 : (Int32.ofNat W2) = (Int32.ofNat P)
              ·
                have hc131_17n : W2 = P := (own_eqn (a := W2) (b := P) (by omega) (by omega)).mp hc131_17
                refine own_back (S' := T7.setTop (mkF m 149 #[.val (.int p1), .val (.int p2), .val (.int p3), .val (.int p4), .val (.int p5), .val (.int p6), .val (.int (Int32.ofNat N)), .val (.int (Int32.ofNat P)), .val (.int (Int32.ofNat SZ)), .val (.ref b1), .val (.ref b6), .unset] [])) (fun _ k => XS.icmpYes X7.here hx rfl (pc0 := 131) (pc' := 149) rfl (hb hby at_131) rfl (teq hc131_17).1 (by decide) (by decide) k) ?_
                refine own_back (S' := T7.setTop (mkF m 150 #[.val (.int p1), .val (.int p2), .val (.int p3), .val (.int p4), .val (.int p5), .val (.int p6), .val (.int (Int32.ofNat N)), .val (.int (Int32.ofNat P)), .val (.int (Int32.ofNat SZ)), .val (.ref b1), .val (.ref b6), .unset] [(.int (1 : Int32))])) (fun _ k => XS.iconst X7.here hx rfl (hb hby at_149)  k) ?_
                refine own_back (S' := T7.setTop (mkF m 154 #[.val (.int p1), .val (.int p2), .val (.int p3), .val (.int p4), .val (.int p5), .val (.int p6), .val (.int (Int32.ofNat N)), .val (.int (Int32.ofNat P)), .val (.int (Int32.ofNat SZ)), .val (.ref b1), .val (.ref b6), .unset] [(.int (1 : Int32))])) (fun _ k => XS.goto X7.here hx rfl (pc0 := 150) (pc' := 154) rfl (hb hby at_150) (by decide) (by decide) k) ?_
                refine own_back (S' := T7.setTop (mkF m 156 #[.val (.int p1), .val (.int p2), .val (.int p3), .val (.int p4), .val (.int p5), .val (.int p6), .val (.int (Int32.ofNat N)), .val (.int (Int32.ofNat P)), .val (.int (Int32.ofNat SZ)), .val (.ref b1), .val (.ref b6), .val (.int (1 : Int32))] [])) (fun _ k => XS.istore X7.here hx rfl (hb hby at_154) rfl (l' := #[.val (.int p1), .val (.int p2), .val (.int p3), .val (.int p4), .val (.int p5), .val (.int p6), .val (.int (Int32.ofNat N)), .val (.int (Int32.ofNat P)), .val (.int (Int32.ofNat SZ)), .val (.ref b1), .val (.ref b6), .val (.int (1 : Int32))]) rfl k) ?_
                exact hT (by unfold own_any; omega)
              ·
                have hc131_17n : ¬ (W2 = P) := fun q => hc131_17 ((own_eqn (a := W2) (b := P) (by omega) (by omega)).mpr q)
                refine own_back (S' := T7.setTop (mkF m 134 #[.val (.int p1), .val (.int p2), .val (.int p3), .val (.int p4), .val (.int p5), .val (.int p6), .val (.int (Int32.ofNat N)), .val (.int (Int32.ofNat P)), .val (.int (Int32.ofNat SZ)), .val (.ref b1), .val (.ref b6), .unset] [])) (fun _ k => XS.icmpNo X7.here hx rfl (hb hby at_131) rfl (feq hc131_17).1 k) ?_
                refine own_back (S' := T7.setTop (mkF m 136 #[.val (.int p1), .val (.int p2), .val (.int p3), .val (.int p4), .val (.int p5), .val (.int p6), .val (.int (Int32.ofNat N)), .val (.int (Int32.ofNat P)), .val (.int (Int32.ofNat SZ)), .val (.ref b1), .val (.ref b6), .unset] [(.int (Int32.ofNat SZ))])) (fun _ k => XS.iload X7.here hx rfl (hb hby at_134) rfl k) ?_
                refine own_back (S' := T7.setTop (mkF m 137 #[.val (.int p1), .val (.int p2), .val (.int p3), .val (.int p4), .val (.int p5), .val (.int p6), .val (.int (Int32.ofNat N)), .val (.int (Int32.ofNat P)), .val (.int (Int32.ofNat SZ)), .val (.ref b1), .val (.ref b6), .unset] [(.int (3 : Int32)), (.int (Int32.ofNat SZ))])) (fun _ k => XS.iconst X7.here hx rfl (hb hby at_136)  k) ?_
                by_cases hc137_18 : (3 : Int32) < (Int32.ofNat SZ)
                ·
                  have hc137_18n : 3 < SZ := (own_ltn (a := 3) (by omega) (by omega)).mp hc137_18
                  refine own_back (S' := T7.setTop (mkF m 140 #[.val (.int p1), .val (.int p2), .val (.int p3), .val (.int p4), .val (.int p5), .val (.int p6), .val (.int (Int32.ofNat N)), .val (.int (Int32.ofNat P)), .val (.int (Int32.ofNat SZ)), .val (.ref b1), .val (.ref b6), .unset] [])) (fun _ k => XS.icmpNo X7.here hx rfl (hb hby at_137) rfl (tlt hc137_18).2.2.2 k) ?_
                  refine own_back (S' := T7.setTop (mkF m 142 #[.val (.int p1), .val (.int p2), .val (.int p3), .val (.int p4), .val (.int p5), .val (.int p6), .val (.int (Int32.ofNat N)), .val (.int (Int32.ofNat P)), .val (.int (Int32.ofNat SZ)), .val (.ref b1), .val (.ref b6), .unset] [(.ref b1)])) (fun _ k => XS.aload X7.here hx rfl (hb hby at_140) rfl rfl k) ?_
                  refine own_back (S' := T7.setTop (mkF m 143 #[.val (.int p1), .val (.int p2), .val (.int p3), .val (.int p4), .val (.int p5), .val (.int p6), .val (.int (Int32.ofNat N)), .val (.int (Int32.ofNat P)), .val (.int (Int32.ofNat SZ)), .val (.ref b1), .val (.ref b6), .unset] [(.int (3 : Int32)), (.ref b1)])) (fun _ k => XS.iconst X7.here hx rfl (hb hby at_142)  k) ?_
                  refine own_back (S' := T7.setTop (mkF m 144 #[.val (.int p1), .val (.int p2), .val (.int p3), .val (.int p4), .val (.int p5), .val (.int p6), .val (.int (Int32.ofNat N)), .val (.int (Int32.ofNat P)), .val (.int (Int32.ofNat SZ)), .val (.ref b1), .val (.ref b6), .unset] [(.int (Int32.ofNat W3))])) (own_ldI X7 hx hZ e7 A_b1_7 (k := 3) (w := (Int32.ofNat W3)) (by decide) rfl (by decide) rfl (g := (mkF m 143 #[.val (.int p1), .val (.int p2), .val (.int p3), .val (.int p4), .val (.int p5), .val (.int p6), .val (.int (Int32.ofNat N)), .val (.int (Int32.ofNat P)), .val (.int (Int32.ofNat SZ)), .val (.ref b1), .val (.ref b6), .unset] [(.int (3 : Int32)), (.ref b1)])) rfl rfl (hb hby at_143)) ?_
                  refine own_back (S' := T7.setTop (mkF m 146 #[.val (.int p1), .val (.int p2), .val (.int p3), .val (.int p4), .val (.int p5), .val (.int p6), .val (.int (Int32.ofNat N)), .val (.int (Int32.ofNat P)), .val (.int (Int32.ofNat SZ)), .val (.ref b1), .val (.ref b6), .unset] [(.int (Int32.ofNat P)), (.int (Int32.ofNat W3))])) (fun _ k => XS.iload X7.here hx rfl (hb hby at_144) rfl k) ?_
                  by_cases hc146_19 : (Int32.ofNat W3) = (Int32.ofNat P)
                  ·
                    have hc146_19n : W3 = P := (own_eqn (a := W3) (b := P) (by omega) (by omega)).mp hc146_19
                    refine own_back (S' := T7.setTop (mkF m 149 #[.val (.int p1), .val (.int p2), .val (.int p3), .val (.int p4), .val (.int p5), .val (.int p6), .val (.int (Int32.ofNat N)), .val (.int (Int32.ofNat P)), .val (.int (Int32.ofNat SZ)), .val (.ref b1), .val (.ref b6), .unset] [])) (fun _ k => XS.icmpNo X7.here hx rfl (hb hby at_146) rfl (teq hc146_19).2 k) ?_
                    refine own_back (S' := T7.setTop (mkF m 150 #[.val (.int p1), .val (.int p2), .val (.int p3), .val (.int p4), .val (.int p5), .val (.int p6), .val (.int (Int32.ofNat N)), .val (.int (Int32.ofNat P)), .val (.int (Int32.ofNat SZ)), .val (.ref b1), .val (.ref b6), .unset] [(.int (1 : Int32))])) (fun _ k => XS.iconst X7.here hx rfl (hb hby at_149)  k) ?_
                    refine own_back (S' := T7.setTop (mkF m 154 #[.val (.int p1), .val (.int p2), .val (.int p3), .val (.int p4), .val (.int p5), .val (.int p6), .val (.int (Int32.ofNat N)), .val (.int (Int32.ofNat P)), .val (.int (Int32.ofNat SZ)), .val (.ref b1), .val (.ref b6), .unset] [(.int (1 : Int32))])) (fun _ k => XS.goto X7.here hx rfl (pc0 := 150) (pc' := 154) rfl (hb hby at_150) (by decide) (by decide) k) ?_
                    refine own_back (S' := T7.setTop (mkF m 156 #[.val (.int p1), .val (.int p2), .val (.int p3), .val (.int p4), .val (.int p5), .val (.int p6), .val (.int (Int32.ofNat N)), .val (.int (Int32.ofNat P)), .val (.int (Int32.ofNat SZ)), .val (.ref b1), .val (.ref b6), .val (.int (1 : Int32))] [])) (fun _ k => XS.istore X7.here hx rfl (hb hby at_154) rfl (l' := #[.val (.int p1), .val (.int p2), .val (.int p3), .val (.int p4), .val (.int p5), .val (.int p6), .val (.int (Int32.ofNat N)), .val (.int (Int32.ofNat P)), .val (.int (Int32.ofNat SZ)), .val (.ref b1), .val (.ref b6), .val (.int (1 : Int32))]) rfl k) ?_
                    exact hT (by unfold own_any; omega)
                  ·
                    have hc146_19n : ¬ (W3 = P) := fun q => hc146_19 ((own_eqn (a := W3) (b := P) (by omega) (by omega)).mpr q)
                    refine own_back (S' := T7.setTop (mkF m 153 #[.val (.int p1), .val (.int p2), .val (.int p3), .val (.int p4), .val (.int p5), .val (.int p6), .val (.int (Int32.ofNat N)), .val (.int (Int32.ofNat P)), .val (.int (Int32.ofNat SZ)), .val (.ref b1), .val (.ref b6), .unset] [])) (fun _ k => XS.icmpYes X7.here hx rfl (pc0 := 146) (pc' := 153) rfl (hb hby at_146) rfl (feq hc146_19).2 (by decide) (by decide) k) ?_
                    refine own_back (S' := T7.setTop (mkF m 154 #[.val (.int p1), .val (.int p2), .val (.int p3), .val (.int p4), .val (.int p5), .val (.int p6), .val (.int (Int32.ofNat N)), .val (.int (Int32.ofNat P)), .val (.int (Int32.ofNat SZ)), .val (.ref b1), .val (.ref b6), .unset] [(.int (0 : Int32))])) (fun _ k => XS.iconst X7.here hx rfl (hb hby at_153)  k) ?_
                    refine own_back (S' := T7.setTop (mkF m 156 #[.val (.int p1), .val (.int p2), .val (.int p3), .val (.int p4), .val (.int p5), .val (.int p6), .val (.int (Int32.ofNat N)), .val (.int (Int32.ofNat P)), .val (.int (Int32.ofNat SZ)), .val (.ref b1), .val (.ref b6), .val (.int (0 : Int32))] [])) (fun _ k => XS.istore X7.here hx rfl (hb hby at_154) rfl (l' := #[.val (.int p1), .val (.int p2), .val (.int p3), .val (.int p4), .val (.int p5), .val (.int p6), .val (.int (Int32.ofNat N)), .val (.int (Int32.ofNat P)), .val (.int (Int32.ofNat SZ)), .val (.ref b1), .val (.ref b6), .val (.int (0 : Int32))]) rfl k) ?_
                    exact hF (by unfold own_any; omega)
                ·
                  have hc137_18n : ¬ (3 < SZ) := fun q => hc137_18 ((own_ltn (a := 3) (by omega) (by omega)).mpr q)
                  refine own_back (S' := T7.setTop (mkF m 153 #[.val (.int p1), .val (.int p2), .val (.int p3), .val (.int p4), .val (.int p5), .val (.int p6), .val (.int (Int32.ofNat N)), .val (.int (Int32.ofNat P)), .val (.int (Int32.ofNat SZ)), .val (.ref b1), .val (.ref b6), .unset] [])) (fun _ k => XS.icmpYes X7.here hx rfl (pc0 := 137) (pc' := 153) rfl (hb hby at_137) rfl (flt hc137_18).2.2.2 (by decide) (by decide) k) ?_
                  refine own_back (S' := T7.setTop (mkF m 154 #[.val (.int p1), .val (.int p2), .val (.int p3), .val (.int p4), .val (.int p5), .val (.int p6), .val (.int (Int32.ofNat N)), .val (.int (Int32.ofNat P)), .val (.int (Int32.ofNat SZ)), .val (.ref b1), .val (.ref b6), .unset] [(.int (0 : Int32))])) (fun _ k => XS.iconst X7.here hx rfl (hb hby at_153)  k) ?_
                  refine own_back (S' := T7.setTop (mkF m 156 #[.val (.int p1), .val (.int p2), .val (.int p3), .val (.int p4), .val (.int p5), .val (.int p6), .val (.int (Int32.ofNat N)), .val (.int (Int32.ofNat P)), .val (.int (Int32.ofNat SZ)), .val (.ref b1), .val (.ref b6), .val (.int (0 : Int32))] [])) (fun _ k => XS.istore X7.here hx rfl (hb hby at_154) rfl (l' := #[.val (.int p1), .val (.int p2), .val (.int p3), .val (.int p4), .val (.int p5), .val (.int p6), .val (.int (Int32.ofNat N)), .val (.int (Int32.ofNat P)), .val (.int (Int32.ofNat SZ)), .val (.ref b1), .val (.ref b6), .val (.int (0 : Int32))]) rfl k) ?_
                  exact hF (by unfold own_any; omega)
            ·
              have hc122_16n : ¬ (2 < SZ) := fun q => hc122_16 ((own_ltn (a := 2) (by omega) (by omega)).mpr q)
              refine own_back (S' := T7.setTop (mkF m 134 #[.val (.int p1), .val (.int p2), .val (.int p3), .val (.int p4), .val (.int p5), .val (.int p6), .val (.int (Int32.ofNat N)), .val (.int (Int32.ofNat P)), .val (.int (Int32.ofNat SZ)), .val (.ref b1), .val (.ref b6), .unset] [])) (fun _ k => XS.icmpYes X7.here hx rfl (pc0 := 122) (pc' := 134) rfl (hb hby at_122) rfl (flt hc122_16).2.2.2 (by decide) (by decide) k) ?_
              refine own_back (S' := T7.setTop (mkF m 136 #[.val (.int p1), .val (.int p2), .val (.int p3), .val (.int p4), .val (.int p5), .val (.int p6), .val (.int (Int32.ofNat N)), .val (.int (Int32.ofNat P)), .val (.int (Int32.ofNat SZ)), .val (.ref b1), .val (.ref b6), .unset] [(.int (Int32.ofNat SZ))])) (fun _ k => XS.iload X7.here hx rfl (hb hby at_134) rfl k) ?_
              refine own_back (S' := T7.setTop (mkF m 137 #[.val (.int p1), .val (.int p2), .val (.int p3), .val (.int p4), .val (.int p5), .val (.int p6), .val (.int (Int32.ofNat N)), .val (.int (Int32.ofNat P)), .val (.int (Int32.ofNat SZ)), .val (.ref b1), .val (.ref b6), .unset] [(.int (3 : Int32)), (.int (Int32.ofNat SZ))])) (fun _ k => XS.iconst X7.here hx rfl (hb hby at_136)  k) ?_
              by_cases hc137_20 : (3 : Int32) < (Int32.ofNat SZ)
              ·
                have hc137_20n : 3 < SZ := (own_ltn (a := 3) (by omega) (by omega)).mp hc137_20
                refine own_back (S' := T7.setTop (mkF m 140 #[.val (.int p1), .val (.int p2), .val (.int p3), .val (.int p4), .val (.int p5), .val (.int p6), .val (.int (Int32.ofNat N)), .val (.int (Int32.ofNat P)), .val (.int (Int32.ofNat SZ)), .val (.ref b1), .val (.ref b6), .unset] [])) (fun _ k => XS.icmpNo X7.here hx rfl (hb hby at_137) rfl (tlt hc137_20).2.2.2 k) ?_
                refine own_back (S' := T7.setTop (mkF m 142 #[.val (.int p1), .val (.int p2), .val (.int p3), .val (.int p4), .val (.int p5), .val (.int p6), .val (.int (Int32.ofNat N)), .val (.int (Int32.ofNat P)), .val (.int (Int32.ofNat SZ)), .val (.ref b1), .val (.ref b6), .unset] [(.ref b1)])) (fun _ k => XS.aload X7.here hx rfl (hb hby at_140) rfl rfl k) ?_
                refine own_back (S' := T7.setTop (mkF m 143 #[.val (.int p1), .val (.int p2), .val (.int p3), .val (.int p4), .val (.int p5), .val (.int p6), .val (.int (Int32.ofNat N)), .val (.int (Int32.ofNat P)), .val (.int (Int32.ofNat SZ)), .val (.ref b1), .val (.ref b6), .unset] [(.int (3 : Int32)), (.ref b1)])) (fun _ k => XS.iconst X7.here hx rfl (hb hby at_142)  k) ?_
                refine own_back (S' := T7.setTop (mkF m 144 #[.val (.int p1), .val (.int p2), .val (.int p3), .val (.int p4), .val (.int p5), .val (.int p6), .val (.int (Int32.ofNat N)), .val (.int (Int32.ofNat P)), .val (.int (Int32.ofNat SZ)), .val (.ref b1), .val (.ref b6), .unset] [(.int (Int32.ofNat W3))])) (own_ldI X7 hx hZ e7 A_b1_7 (k := 3) (w := (Int32.ofNat W3)) (by decide) rfl (by decide) rfl (g := (mkF m 143 #[.val (.int p1), .val (.int p2), .val (.int p3), .val (.int p4), .val (.int p5), .val (.int p6), .val (.int (Int32.ofNat N)), .val (.int (Int32.ofNat P)), .val (.int (Int32.ofNat SZ)), .val (.ref b1), .val (.ref b6), .unset] [(.int (3 : Int32)), (.ref b1)])) rfl rfl (hb hby at_143)) ?_
                refine own_back (S' := T7.setTop (mkF m 146 #[.val (.int p1), .val (.int p2), .val (.int p3), .val (.int p4), .val (.int p5), .val (.int p6), .val (.int (Int32.ofNat N)), .val (.int (Int32.ofNat P)), .val (.int (Int32.ofNat SZ)), .val (.ref b1), .val (.ref b6), .unset] [(.int (Int32.ofNat P)), (.int (Int32.ofNat W3))])) (fun _ k => XS.iload X7.here hx rfl (hb hby at_144) rfl k) ?_
                by_cases hc146_21 : (Int32.ofNat W3) = (Int32.ofNat P)
                ·
                  have hc146_21n : W3 = P := (own_eqn (a := W3) (b := P) (by omega) (by omega)).mp hc146_21
                  refine own_back (S' := T7.setTop (mkF m 149 #[.val (.int p1), .val (.int p2), .val (.int p3), .val (.int p4), .val (.int p5), .val (.int p6), .val (.int (Int32.ofNat N)), .val (.int (Int32.ofNat P)), .val (.int (Int32.ofNat SZ)), .val (.ref b1), .val (.ref b6), .unset] [])) (fun _ k => XS.icmpNo X7.here hx rfl (hb hby at_146) rfl (teq hc146_21).2 k) ?_
                  refine own_back (S' := T7.setTop (mkF m 150 #[.val (.int p1), .val (.int p2), .val (.int p3), .val (.int p4), .val (.int p5), .val (.int p6), .val (.int (Int32.ofNat N)), .val (.int (Int32.ofNat P)), .val (.int (Int32.ofNat SZ)), .val (.ref b1), .val (.ref b6), .unset] [(.int (1 : Int32))])) (fun _ k => XS.iconst X7.here hx rfl (hb hby at_149)  k) ?_
                  refine own_back (S' := T7.setTop (mkF m 154 #[.val (.int p1), .val (.int p2), .val (.int p3), .val (.int p4), .val (.int p5), .val (.int p6), .val (.int (Int32.ofNat N)), .val (.int (Int32.ofNat P)), .val (.int (Int32.ofNat SZ)), .val (.ref b1), .val (.ref b6), .unset] [(.int (1 : Int32))])) (fun _ k => XS.goto X7.here hx rfl (pc0 := 150) (pc' := 154) rfl (hb hby at_150) (by decide) (by decide) k) ?_
                  refine own_back (S' := T7.setTop (mkF m 156 #[.val (.int p1), .val (.int p2), .val (.int p3), .val (.int p4), .val (.int p5), .val (.int p6), .val (.int (Int32.ofNat N)), .val (.int (Int32.ofNat P)), .val (.int (Int32.ofNat SZ)), .val (.ref b1), .val (.ref b6), .val (.int (1 : Int32))] [])) (fun _ k => XS.istore X7.here hx rfl (hb hby at_154) rfl (l' := #[.val (.int p1), .val (.int p2), .val (.int p3), .val (.int p4), .val (.int p5), .val (.int p6), .val (.int (Int32.ofNat N)), .val (.int (Int32.ofNat P)), .val (.int (Int32.ofNat SZ)), .val (.ref b1), .val (.ref b6), .val (.int (1 : Int32))]) rfl k) ?_
                  exact hT (by unfold own_any; omega)
                ·
                  have hc146_21n : ¬ (W3 = P) := fun q => hc146_21 ((own_eqn (a := W3) (b := P) (by omega) (by omega)).mpr q)
                  refine own_back (S' := T7.setTop (mkF m 153 #[.val (.int p1), .val (.int p2), .val (.int p3), .val (.int p4), .val (.int p5), .val (.int p6), .val (.int (Int32.ofNat N)), .val (.int (Int32.ofNat P)), .val (.int (Int32.ofNat SZ)), .val (.ref b1), .val (.ref b6), .unset] [])) (fun _ k => XS.icmpYes X7.here hx rfl (pc0 := 146) (pc' := 153) rfl (hb hby at_146) rfl (feq hc146_21).2 (by decide) (by decide) k) ?_
                  refine own_back (S' := T7.setTop (mkF m 154 #[.val (.int p1), .val (.int p2), .val (.int p3), .val (.int p4), .val (.int p5), .val (.int p6), .val (.int (Int32.ofNat N)), .val (.int (Int32.ofNat P)), .val (.int (Int32.ofNat SZ)), .val (.ref b1), .val (.ref b6), .unset] [(.int (0 : Int32))])) (fun _ k => XS.iconst X7.here hx rfl (hb hby at_153)  k) ?_
                  refine own_back (S' := T7.setTop (mkF m 156 #[.val (.int p1), .val (.int p2), .val (.int p3), .val (.int p4), .val (.int p5), .val (.int p6), .val (.int (Int32.ofNat N)), .val (.int (Int32.ofNat P)), .val (.int (Int32.ofNat SZ)), .val (.ref b1), .val (.ref b6), .val (.int (0 : Int32))] [])) (fun _ k => XS.istore X7.here hx rfl (hb hby at_154) rfl (l' := #[.val (.int p1), .val (.int p2), .val (.int p3), .val (.int p4), .val (.int p5), .val (.int p6), .val (.int (Int32.ofNat N)), .val (.int (Int32.ofNat P)), .val (.int (Int32.ofNat SZ)), .val (.ref b1), .val (.ref b6), .val (.int (0 : Int32))]) rfl k) ?_
                  exact hF (by unfold own_any; omega)
              ·
                have hc137_20n : ¬ (3 < SZ) := fun q => hc137_20 ((own_ltn (a := 3) (by omega) (by omega)).mpr q)
                refine own_back (S' := T7.setTop (mkF m 153 #[.val (.int p1), .val (.int p2), .val (.int p3), .val (.int p4), .val (.int p5), .val (.int p6), .val (.int (Int32.ofNat N)), .val (.int (Int32.ofNat P)), .val (.int (Int32.ofNat SZ)), .val (.ref b1), .val (.ref b6), .unset] [])) (fun _ k => XS.icmpYes X7.here hx rfl (pc0 := 137) (pc' := 153) rfl (hb hby at_137) rfl (flt hc137_20).2.2.2 (by decide) (by decide) k) ?_
                refine own_back (S' := T7.setTop (mkF m 154 #[.val (.int p1), .val (.int p2), .val (.int p3), .val (.int p4), .val (.int p5), .val (.int p6), .val (.int (Int32.ofNat N)), .val (.int (Int32.ofNat P)), .val (.int (Int32.ofNat SZ)), .val (.ref b1), .val (.ref b6), .unset] [(.int (0 : Int32))])) (fun _ k => XS.iconst X7.here hx rfl (hb hby at_153)  k) ?_
                refine own_back (S' := T7.setTop (mkF m 156 #[.val (.int p1), .val (.int p2), .val (.int p3), .val (.int p4), .val (.int p5), .val (.int p6), .val (.int (Int32.ofNat N)), .val (.int (Int32.ofNat P)), .val (.int (Int32.ofNat SZ)), .val (.ref b1), .val (.ref b6), .val (.int (0 : Int32))] [])) (fun _ k => XS.istore X7.here hx rfl (hb hby at_154) rfl (l' := #[.val (.int p1), .val (.int p2), .val (.int p3), .val (.int p4), .val (.int p5), .val (.int p6), .val (.int (Int32.ofNat N)), .val (.int (Int32.ofNat P)), .val (.int (Int32.ofNat SZ)), .val (.ref b1), .val (.ref b6), .val (.int (0 : Int32))]) rfl k) ?_
                exact hF (by unfold own_any; omega)
        ·
          have hc107_14n : ¬ (1 < SZ) := fun q => hc107_14 ((own_ltn (a := 1) (by omega) (by omega)).mpr q)
          refine own_back (S' := T7.setTop (mkF m 119 #[.val (.int p1), .val (.int p2), .val (.int p3), .val (.int p4), .val (.int p5), .val (.int p6), .val (.int (Int32.ofNat N)), .val (.int (Int32.ofNat P)), .val (.int (Int32.ofNat SZ)), .val (.ref b1), .val (.ref b6), .unset] [])) (fun _ k => XS.icmpYes X7.here hx rfl (pc0 := 107) (pc' := 119) rfl (hb hby at_107) rfl (flt hc107_14).2.2.2 (by decide) (by decide) k) ?_
          refine own_back (S' := T7.setTop (mkF m 121 #[.val (.int p1), .val (.int p2), .val (.int p3), .val (.int p4), .val (.int p5), .val (.int p6), .val (.int (Int32.ofNat N)), .val (.int (Int32.ofNat P)), .val (.int (Int32.ofNat SZ)), .val (.ref b1), .val (.ref b6), .unset] [(.int (Int32.ofNat SZ))])) (fun _ k => XS.iload X7.here hx rfl (hb hby at_119) rfl k) ?_
          refine own_back (S' := T7.setTop (mkF m 122 #[.val (.int p1), .val (.int p2), .val (.int p3), .val (.int p4), .val (.int p5), .val (.int p6), .val (.int (Int32.ofNat N)), .val (.int (Int32.ofNat P)), .val (.int (Int32.ofNat SZ)), .val (.ref b1), .val (.ref b6), .unset] [(.int (2 : Int32)), (.int (Int32.ofNat SZ))])) (fun _ k => XS.iconst X7.here hx rfl (hb hby at_121)  k) ?_
          by_cases hc122_22 : (2 : Int32) < (Int32.ofNat SZ)
          ·
            have hc122_22n : 2 < SZ := (own_ltn (a := 2) (by omega) (by omega)).mp hc122_22
            refine own_back (S' := T7.setTop (mkF m 125 #[.val (.int p1), .val (.int p2), .val (.int p3), .val (.int p4), .val (.int p5), .val (.int p6), .val (.int (Int32.ofNat N)), .val (.int (Int32.ofNat P)), .val (.int (Int32.ofNat SZ)), .val (.ref b1), .val (.ref b6), .unset] [])) (fun _ k => XS.icmpNo X7.here hx rfl (hb hby at_122) rfl (tlt hc122_22).2.2.2 k) ?_
            refine own_back (S' := T7.setTop (mkF m 127 #[.val (.int p1), .val (.int p2), .val (.int p3), .val (.int p4), .val (.int p5), .val (.int p6), .val (.int (Int32.ofNat N)), .val (.int (Int32.ofNat P)), .val (.int (Int32.ofNat SZ)), .val (.ref b1), .val (.ref b6), .unset] [(.ref b1)])) (fun _ k => XS.aload X7.here hx rfl (hb hby at_125) rfl rfl k) ?_
            refine own_back (S' := T7.setTop (mkF m 128 #[.val (.int p1), .val (.int p2), .val (.int p3), .val (.int p4), .val (.int p5), .val (.int p6), .val (.int (Int32.ofNat N)), .val (.int (Int32.ofNat P)), .val (.int (Int32.ofNat SZ)), .val (.ref b1), .val (.ref b6), .unset] [(.int (2 : Int32)), (.ref b1)])) (fun _ k => XS.iconst X7.here hx rfl (hb hby at_127)  k) ?_
            refine own_back (S' := T7.setTop (mkF m 129 #[.val (.int p1), .val (.int p2), .val (.int p3), .val (.int p4), .val (.int p5), .val (.int p6), .val (.int (Int32.ofNat N)), .val (.int (Int32.ofNat P)), .val (.int (Int32.ofNat SZ)), .val (.ref b1), .val (.ref b6), .unset] [(.int (Int32.ofNat W2))])) (own_ldI X7 hx hZ e7 A_b1_7 (k := 2) (w := (Int32.ofNat W2)) (by decide) rfl (by decide) rfl (g := (mkF m 128 #[.val (.int p1), .val (.int p2), .val (.int p3), .val (.int p4), .val (.int p5), .val (.int p6), .val (.int (Int32.ofNat N)), .val (.int (Int32.ofNat P)), .val (.int (Int32.ofNat SZ)), .val (.ref b1), .val (.ref b6), .unset] [(.int (2 : Int32)), (.ref b1)])) rfl rfl (hb hby at_128)) ?_
            refine own_back (S' := T7.setTop (mkF m 131 #[.val (.int p1), .val (.int p2), .val (.int p3), .val (.int p4), .val (.int p5), .val (.int p6), .val (.int (Int32.ofNat N)), .val (.int (Int32.ofNat P)), .val (.int (Int32.ofNat SZ)), .val (.ref b1), .val (.ref b6), .unset] [(.int (Int32.ofNat P)), (.int (Int32.ofNat W2))])) (fun _ k => XS.iload X7.here hx rfl (hb hby at_129) rfl k) ?_
            by_cases hc131_23 : (Int32.ofNat W2) = (Int32.ofNat P)
            ·
              have hc131_23n : W2 = P := (own_eqn (a := W2) (b := P) (by omega) (by omega)).mp hc131_23
              refine own_back (S' := T7.setTop (mkF m 149 #[.val (.int p1), .val (.int p2), .val (.int p3), .val (.int p4), .val (.int p5), .val (.int p6), .val (.int (Int32.ofNat N)), .val (.int (Int32.ofNat P)), .val (.int (Int32.ofNat SZ)), .val (.ref b1), .val (.ref b6), .unset] [])) (fun _ k => XS.icmpYes X7.here hx rfl (pc0 := 131) (pc' := 149) rfl (hb hby at_131) rfl (teq hc131_23).1 (by decide) (by decide) k) ?_
              refine own_back (S' := T7.setTop (mkF m 150 #[.val (.int p1), .val (.int p2), .val (.int p3), .val (.int p4), .val (.int p5), .val (.int p6), .val (.int (Int32.ofNat N)), .val (.int (Int32.ofNat P)), .val (.int (Int32.ofNat SZ)), .val (.ref b1), .val (.ref b6), .unset] [(.int (1 : Int32))])) (fun _ k => XS.iconst X7.here hx rfl (hb hby at_149)  k) ?_
              refine own_back (S' := T7.setTop (mkF m 154 #[.val (.int p1), .val (.int p2), .val (.int p3), .val (.int p4), .val (.int p5), .val (.int p6), .val (.int (Int32.ofNat N)), .val (.int (Int32.ofNat P)), .val (.int (Int32.ofNat SZ)), .val (.ref b1), .val (.ref b6), .unset] [(.int (1 : Int32))])) (fun _ k => XS.goto X7.here hx rfl (pc0 := 150) (pc' := 154) rfl (hb hby at_150) (by decide) (by decide) k) ?_
              refine own_back (S' := T7.setTop (mkF m 156 #[.val (.int p1), .val (.int p2), .val (.int p3), .val (.int p4), .val (.int p5), .val (.int p6), .val (.int (Int32.ofNat N)), .val (.int (Int32.ofNat P)), .val (.int (Int32.ofNat SZ)), .val (.ref b1), .val (.ref b6), .val (.int (1 : Int32))] [])) (fun _ k => XS.istore X7.here hx rfl (hb hby at_154) rfl (l' := #[.val (.int p1), .val (.int p2), .val (.int p3), .val (.int p4), .val (.int p5), .val (.int p6), .val (.int (Int32.ofNat N)), .val (.int (Int32.ofNat P)), .val (.int (Int32.ofNat SZ)), .val (.ref b1), .val (.ref b6), .val (.int (1 : Int32))]) rfl k) ?_
              exact hT (by unfold own_any; omega)
            ·
              have hc131_23n : ¬ (W2 = P) := fun q => hc131_23 ((own_eqn (a := W2) (b := P) (by omega) (by omega)).mpr q)
              refine own_back (S' := T7.setTop (mkF m 134 #[.val (.int p1), .val (.int p2), .val (.int p3), .val (.int p4), .val (.int p5), .val (.int p6), .val (.int (Int32.ofNat N)), .val (.int (Int32.ofNat P)), .val (.int (Int32.ofNat SZ)), .val (.ref b1), .val (.ref b6), .unset] [])) (fun _ k => XS.icmpNo X7.here hx rfl (hb hby at_131) rfl (feq hc131_23).1 k) ?_
              refine own_back (S' := T7.setTop (mkF m 136 #[.val (.int p1), .val (.int p2), .val (.int p3), .val (.int p4), .val (.int p5), .val (.int p6), .val (.int (Int32.ofNat N)), .val (.int (Int32.ofNat P)), .val (.int (Int32.ofNat SZ)), .val (.ref b1), .val (.ref b6), .unset] [(.int (Int32.ofNat SZ))])) (fun _ k => XS.iload X7.here hx rfl (hb hby at_134) rfl k) ?_
              refine own_back (S' := T7.setTop (mkF m 137 #[.val (.int p1), .val (.int p2), .val (.int p3), .val (.int p4), .val (.int p5), .val (.int p6), .val (.int (Int32.ofNat N)), .val (.int (Int32.ofNat P)), .val (.int (Int32.ofNat SZ)), .val (.ref b1), .val (.ref b6), .unset] [(.int (3 : Int32)), (.int (Int32.ofNat SZ))])) (fun _ k => XS.iconst X7.here hx rfl (hb hby at_136)  k) ?_
              by_cases hc137_24 : (3 : Int32) < (Int32.ofNat SZ)
              ·
                have hc137_24n : 3 < SZ := (own_ltn (a := 3) (by omega) (by omega)).mp hc137_24
                refine own_back (S' := T7.setTop (mkF m 140 #[.val (.int p1), .val (.int p2), .val (.int p3), .val (.int p4), .val (.int p5), .val (.int p6), .val (.int (Int32.ofNat N)), .val (.int (Int32.ofNat P)), .val (.int (Int32.ofNat SZ)), .val (.ref b1), .val (.ref b6), .unset] [])) (fun _ k => XS.icmpNo X7.here hx rfl (hb hby at_137) rfl (tlt hc137_24).2.2.2 k) ?_
                refine own_back (S' := T7.setTop (mkF m 142 #[.val (.int p1), .val (.int p2), .val (.int p3), .val (.int p4), .val (.int p5), .val (.int p6), .val (.int (Int32.ofNat N)), .val (.int (Int32.ofNat P)), .val (.int (Int32.ofNat SZ)), .val (.ref b1), .val (.ref b6), .unset] [(.ref b1)])) (fun _ k => XS.aload X7.here hx rfl (hb hby at_140) rfl rfl k) ?_
                refine own_back (S' := T7.setTop (mkF m 143 #[.val (.int p1), .val (.int p2), .val (.int p3), .val (.int p4), .val (.int p5), .val (.int p6), .val (.int (Int32.ofNat N)), .val (.int (Int32.ofNat P)), .val (.int (Int32.ofNat SZ)), .val (.ref b1), .val (.ref b6), .unset] [(.int (3 : Int32)), (.ref b1)])) (fun _ k => XS.iconst X7.here hx rfl (hb hby at_142)  k) ?_
                refine own_back (S' := T7.setTop (mkF m 144 #[.val (.int p1), .val (.int p2), .val (.int p3), .val (.int p4), .val (.int p5), .val (.int p6), .val (.int (Int32.ofNat N)), .val (.int (Int32.ofNat P)), .val (.int (Int32.ofNat SZ)), .val (.ref b1), .val (.ref b6), .unset] [(.int (Int32.ofNat W3))])) (own_ldI X7 hx hZ e7 A_b1_7 (k := 3) (w := (Int32.ofNat W3)) (by decide) rfl (by decide) rfl (g := (mkF m 143 #[.val (.int p1), .val (.int p2), .val (.int p3), .val (.int p4), .val (.int p5), .val (.int p6), .val (.int (Int32.ofNat N)), .val (.int (Int32.ofNat P)), .val (.int (Int32.ofNat SZ)), .val (.ref b1), .val (.ref b6), .unset] [(.int (3 : Int32)), (.ref b1)])) rfl rfl (hb hby at_143)) ?_
                refine own_back (S' := T7.setTop (mkF m 146 #[.val (.int p1), .val (.int p2), .val (.int p3), .val (.int p4), .val (.int p5), .val (.int p6), .val (.int (Int32.ofNat N)), .val (.int (Int32.ofNat P)), .val (.int (Int32.ofNat SZ)), .val (.ref b1), .val (.ref b6), .unset] [(.int (Int32.ofNat P)), (.int (Int32.ofNat W3))])) (fun _ k => XS.iload X7.here hx rfl (hb hby at_144) rfl k) ?_
                by_cases hc146_25 : (Int32.ofNat W3) = (Int32.ofNat P)
                ·
                  have hc146_25n : W3 = P := (own_eqn (a := W3) (b := P) (by omega) (by omega)).mp hc146_25
                  refine own_back (S' := T7.setTop (mkF m 149 #[.val (.int p1), .val (.int p2), .val (.int p3), .val (.int p4), .val (.int p5), .val (.int p6), .val (.int (Int32.ofNat N)), .val (.int (Int32.ofNat P)), .val (.int (Int32.ofNat SZ)), .val (.ref b1), .val (.ref b6), .unset] [])) (fun _ k => XS.icmpNo X7.here hx rfl (hb hby at_146) rfl (teq hc146_25).2 k) ?_
                  refine own_back (S' := T7.setTop (mkF m 150 #[.val (.int p1), .val (.int p2), .val (.int p3), .val (.int p4), .val (.int p5), .val (.int p6), .val (.int (Int32.ofNat N)), .val (.int (Int32.ofNat P)), .val (.int (Int32.ofNat SZ)), .val (.ref b1), .val (.ref b6), .unset] [(.int (1 : Int32))])) (fun _ k => XS.iconst X7.here hx rfl (hb hby at_149)  k) ?_
                  refine own_back (S' := T7.setTop (mkF m 154 #[.val (.int p1), .val (.int p2), .val (.int p3), .val (.int p4), .val (.int p5), .val (.int p6), .val (.int (Int32.ofNat N)), .val (.int (Int32.ofNat P)), .val (.int (Int32.ofNat SZ)), .val (.ref b1), .val (.ref b6), .unset] [(.int (1 : Int32))])) (fun _ k => XS.goto X7.here hx rfl (pc0 := 150) (pc' := 154) rfl (hb hby at_150) (by decide) (by decide) k) ?_
                  refine own_back (S' := T7.setTop (mkF m 156 #[.val (.int p1), .val (.int p2), .val (.int p3), .val (.int p4), .val (.int p5), .val (.int p6), .val (.int (Int32.ofNat N)), .val (.int (Int32.ofNat P)), .val (.int (Int32.ofNat SZ)), .val (.ref b1), .val (.ref b6), .val (.int (1 : Int32))] [])) (fun _ k => XS.istore X7.here hx rfl (hb hby at_154) rfl (l' := #[.val (.int p1), .val (.int p2), .val (.int p3), .val (.int p4), .val (.int p5), .val (.int p6), .val (.int (Int32.ofNat N)), .val (.int (Int32.ofNat P)), .val (.int (Int32.ofNat SZ)), .val (.ref b1), .val (.ref b6), .val (.int (1 : Int32))]) rfl k) ?_
                  exact hT (by unfold own_any; omega)
                ·
                  have hc146_25n : ¬ (W3 = P) := fun q => hc146_25 ((own_eqn (a := W3) (b := P) (by omega) (by omega)).mpr q)
                  refine own_back (S' := T7.setTop (mkF m 153 #[.val (.int p1), .val (.int p2), .val (.int p3), .val (.int p4), .val (.int p5), .val (.int p6), .val (.int (Int32.ofNat N)), .val (.int (Int32.ofNat P)), .val (.int (Int32.ofNat SZ)), .val (.ref b1), .val (.ref b6), .unset] [])) (fun _ k => XS.icmpYes X7.here hx rfl (pc0 := 146) (pc' := 153) rfl (hb hby at_146) rfl (feq hc146_25).2 (by decide) (by decide) k) ?_
                  refine own_back (S' := T7.setTop (mkF m 154 #[.val (.int p1), .val (.int p2), .val (.int p3), .val (.int p4), .val (.int p5), .val (.int p6), .val (.int (Int32.ofNat N)), .val (.int (Int32.ofNat P)), .val (.int (Int32.ofNat SZ)), .val (.ref b1), .val (.ref b6), .unset] [(.int (0 : Int32))])) (fun _ k => XS.iconst X7.here hx rfl (hb hby at_153)  k) ?_
                  refine own_back (S' := T7.setTop (mkF m 156 #[.val (.int p1), .val (.int p2), .val (.int p3), .val (.int p4), .val (.int p5), .val (.int p6), .val (.int (Int32.ofNat N)), .val (.int (Int32.ofNat P)), .val (.int (Int32.ofNat SZ)), .val (.ref b1), .val (.ref b6), .val (.int (0 : Int32))] [])) (fun _ k => XS.istore X7.here hx rfl (hb hby at_154) rfl (l' := #[.val (.int p1), .val (.int p2), .val (.int p3), .val (.int p4), .val (.int p5), .val (.int p6), .val (.int (Int32.ofNat N)), .val (.int (Int32.ofNat P)), .val (.int (Int32.ofNat SZ)), .val (.ref b1), .val (.ref b6), .val (.int (0 : Int32))]) rfl k) ?_
                  exact hF (by unfold own_any; omega)
              ·
                have hc137_24n : ¬ (3 < SZ) := fun q => hc137_24 ((own_ltn (a := 3) (by omega) (by omega)).mpr q)
                refine own_back (S' := T7.setTop (mkF m 153 #[.val (.int p1), .val (.int p2), .val (.int p3), .val (.int p4), .val (.int p5), .val (.int p6), .val (.int (Int32.ofNat N)), .val (.int (Int32.ofNat P)), .val (.int (Int32.ofNat SZ)), .val (.ref b1), .val (.ref b6), .unset] [])) (fun _ k => XS.icmpYes X7.here hx rfl (pc0 := 137) (pc' := 153) rfl (hb hby at_137) rfl (flt hc137_24).2.2.2 (by decide) (by decide) k) ?_
                refine own_back (S' := T7.setTop (mkF m 154 #[.val (.int p1), .val (.int p2), .val (.int p3), .val (.int p4), .val (.int p5), .val (.int p6), .val (.int (Int32.ofNat N)), .val (.int (Int32.ofNat P)), .val (.int (Int32.ofNat SZ)), .val (.ref b1), .val (.ref b6), .unset] [(.int (0 : Int32))])) (fun _ k => XS.iconst X7.here hx rfl (hb hby at_153)  k) ?_
                refine own_back (S' := T7.setTop (mkF m 156 #[.val (.int p1), .val (.int p2), .val (.int p3), .val (.int p4), .val (.int p5), .val (.int p6), .val (.int (Int32.ofNat N)), .val (.int (Int32.ofNat P)), .val (.int (Int32.ofNat SZ)), .val (.ref b1), .val (.ref b6), .val (.int (0 : Int32))] [])) (fun _ k => XS.istore X7.here hx rfl (hb hby at_154) rfl (l' := #[.val (.int p1), .val (.int p2), .val (.int p3), .val (.int p4), .val (.int p5), .val (.int p6), .val (.int (Int32.ofNat N)), .val (.int (Int32.ofNat P)), .val (.int (Int32.ofNat SZ)), .val (.ref b1), .val (.ref b6), .val (.int (0 : Int32))]) rfl k) ?_
                exact hF (by unfold own_any; omega)
          ·
            have hc122_22n : ¬ (2 < SZ) := fun q => hc122_22 ((own_ltn (a := 2) (by omega) (by omega)).mpr q)
            refine own_back (S' := T7.setTop (mkF m 134 #[.val (.int p1), .val (.int p2), .val (.int p3), .val (.int p4), .val (.int p5), .val (.int p6), .val (.int (Int32.ofNat N)), .val (.int (Int32.ofNat P)), .val (.int (Int32.ofNat SZ)), .val (.ref b1), .val (.ref b6), .unset] [])) (fun _ k => XS.icmpYes X7.here hx rfl (pc0 := 122) (pc' := 134) rfl (hb hby at_122) rfl (flt hc122_22).2.2.2 (by decide) (by decide) k) ?_
            refine own_back (S' := T7.setTop (mkF m 136 #[.val (.int p1), .val (.int p2), .val (.int p3), .val (.int p4), .val (.int p5), .val (.int p6), .val (.int (Int32.ofNat N)), .val (.int (Int32.ofNat P)), .val (.int (Int32.ofNat SZ)), .val (.ref b1), .val (.ref b6), .unset] [(.int (Int32.ofNat SZ))])) (fun _ k => XS.iload X7.here hx rfl (hb hby at_134) rfl k) ?_
            refine own_back (S' := T7.setTop (mkF m 137 #[.val (.int p1), .val (.int p2), .val (.int p3), .val (.int p4), .val (.int p5), .val (.int p6), .val (.int (Int32.ofNat N)), .val (.int (Int32.ofNat P)), .val (.int (Int32.ofNat SZ)), .val (.ref b1), .val (.ref b6), .unset] [(.int (3 : Int32)), (.int (Int32.ofNat SZ))])) (fun _ k => XS.iconst X7.here hx rfl (hb hby at_136)  k) ?_
            by_cases hc137_26 : (3 : Int32) < (Int32.ofNat SZ)
            ·
              have hc137_26n : 3 < SZ := (own_ltn (a := 3) (by omega) (by omega)).mp hc137_26
              refine own_back (S' := T7.setTop (mkF m 140 #[.val (.int p1), .val (.int p2), .val (.int p3), .val (.int p4), .val (.int p5), .val (.int p6), .val (.int (Int32.ofNat N)), .val (.int (Int32.ofNat P)), .val (.int (Int32.ofNat SZ)), .val (.ref b1), .val (.ref b6), .unset] [])) (fun _ k => XS.icmpNo X7.here hx rfl (hb hby at_137) rfl (tlt hc137_26).2.2.2 k) ?_
              refine own_back (S' := T7.setTop (mkF m 142 #[.val (.int p1), .val (.int p2), .val (.int p3), .val (.int p4), .val (.int p5), .val (.int p6), .val (.int (Int32.ofNat N)), .val (.int (Int32.ofNat P)), .val (.int (Int32.ofNat SZ)), .val (.ref b1), .val (.ref b6), .unset] [(.ref b1)])) (fun _ k => XS.aload X7.here hx rfl (hb hby at_140) rfl rfl k) ?_
              refine own_back (S' := T7.setTop (mkF m 143 #[.val (.int p1), .val (.int p2), .val (.int p3), .val (.int p4), .val (.int p5), .val (.int p6), .val (.int (Int32.ofNat N)), .val (.int (Int32.ofNat P)), .val (.int (Int32.ofNat SZ)), .val (.ref b1), .val (.ref b6), .unset] [(.int (3 : Int32)), (.ref b1)])) (fun _ k => XS.iconst X7.here hx rfl (hb hby at_142)  k) ?_
              refine own_back (S' := T7.setTop (mkF m 144 #[.val (.int p1), .val (.int p2), .val (.int p3), .val (.int p4), .val (.int p5), .val (.int p6), .val (.int (Int32.ofNat N)), .val (.int (Int32.ofNat P)), .val (.int (Int32.ofNat SZ)), .val (.ref b1), .val (.ref b6), .unset] [(.int (Int32.ofNat W3))])) (own_ldI X7 hx hZ e7 A_b1_7 (k := 3) (w := (Int32.ofNat W3)) (by decide) rfl (by decide) rfl (g := (mkF m 143 #[.val (.int p1), .val (.int p2), .val (.int p3), .val (.int p4), .val (.int p5), .val (.int p6), .val (.int (Int32.ofNat N)), .val (.int (Int32.ofNat P)), .val (.int (Int32.ofNat SZ)), .val (.ref b1), .val (.ref b6), .unset] [(.int (3 : Int32)), (.ref b1)])) rfl rfl (hb hby at_143)) ?_
              refine own_back (S' := T7.setTop (mkF m 146 #[.val (.int p1), .val (.int p2), .val (.int p3), .val (.int p4), .val (.int p5), .val (.int p6), .val (.int (Int32.ofNat N)), .val (.int (Int32.ofNat P)), .val (.int (Int32.ofNat SZ)), .val (.ref b1), .val (.ref b6), .unset] [(.int (Int32.ofNat P)), (.int (Int32.ofNat W3))])) (fun _ k => XS.iload X7.here hx rfl (hb hby at_144) rfl k) ?_
              by_cases hc146_27 : (Int32.ofNat W3) = (Int32.ofNat P)
              ·
                have hc146_27n : W3 = P := (own_eqn (a := W3) (b := P) (by omega) (by omega)).mp hc146_27
                refine own_back (S' := T7.setTop (mkF m 149 #[.val (.int p1), .val (.int p2), .val (.int p3), .val (.int p4), .val (.int p5), .val (.int p6), .val (.int (Int32.ofNat N)), .val (.int (Int32.ofNat P)), .val (.int (Int32.ofNat SZ)), .val (.ref b1), .val (.ref b6), .unset] [])) (fun _ k => XS.icmpNo X7.here hx rfl (hb hby at_146) rfl (teq hc146_27).2 k) ?_
                refine own_back (S' := T7.setTop (mkF m 150 #[.val (.int p1), .val (.int p2), .val (.int p3), .val (.int p4), .val (.int p5), .val (.int p6), .val (.int (Int32.ofNat N)), .val (.int (Int32.ofNat P)), .val (.int (Int32.ofNat SZ)), .val (.ref b1), .val (.ref b6), .unset] [(.int (1 : Int32))])) (fun _ k => XS.iconst X7.here hx rfl (hb hby at_149)  k) ?_
                refine own_back (S' := T7.setTop (mkF m 154 #[.val (.int p1), .val (.int p2), .val (.int p3), .val (.int p4), .val (.int p5), .val (.int p6), .val (.int (Int32.ofNat N)), .val (.int (Int32.ofNat P)), .val (.int (Int32.ofNat SZ)), .val (.ref b1), .val (.ref b6), .unset] [(.int (1 : Int32))])) (fun _ k => XS.goto X7.here hx rfl (pc0 := 150) (pc' := 154) rfl (hb hby at_150) (by decide) (by decide) k) ?_
                refine own_back (S' := T7.setTop (mkF m 156 #[.val (.int p1), .val (.int p2), .val (.int p3), .val (.int p4), .val (.int p5), .val (.int p6), .val (.int (Int32.ofNat N)), .val (.int (Int32.ofNat P)), .val (.int (Int32.ofNat SZ)), .val (.ref b1), .val (.ref b6), .val (.int (1 : Int32))] [])) (fun _ k => XS.istore X7.here hx rfl (hb hby at_154) rfl (l' := #[.val (.int p1), .val (.int p2), .val (.int p3), .val (.int p4), .val (.int p5), .val (.int p6), .val (.int (Int32.ofNat N)), .val (.int (Int32.ofNat P)), .val (.int (Int32.ofNat SZ)), .val (.ref b1), .val (.ref b6), .val (.int (1 : Int32))]) rfl k) ?_
                exact hT (by unfold own_any; omega)
              ·
                have hc146_27n : ¬ (W3 = P) := fun q => hc146_27 ((own_eqn (a := W3) (b := P) (by omega) (by omega)).mpr q)
                refine own_back (S' := T7.setTop (mkF m 153 #[.val (.int p1), .val (.int p2), .val (.int p3), .val (.int p4), .val (.int p5), .val (.int p6), .val (.int (Int32.ofNat N)), .val (.int (Int32.ofNat P)), .val (.int (Int32.ofNat SZ)), .val (.ref b1), .val (.ref b6), .unset] [])) (fun _ k => XS.icmpYes X7.here hx rfl (pc0 := 146) (pc' := 153) rfl (hb hby at_146) rfl (feq hc146_27).2 (by decide) (by decide) k) ?_
                refine own_back (S' := T7.setTop (mkF m 154 #[.val (.int p1), .val (.int p2), .val (.int p3), .val (.int p4), .val (.int p5), .val (.int p6), .val (.int (Int32.ofNat N)), .val (.int (Int32.ofNat P)), .val (.int (Int32.ofNat SZ)), .val (.ref b1), .val (.ref b6), .unset] [(.int (0 : Int32))])) (fun _ k => XS.iconst X7.here hx rfl (hb hby at_153)  k) ?_
                refine own_back (S' := T7.setTop (mkF m 156 #[.val (.int p1), .val (.int p2), .val (.int p3), .val (.int p4), .val (.int p5), .val (.int p6), .val (.int (Int32.ofNat N)), .val (.int (Int32.ofNat P)), .val (.int (Int32.ofNat SZ)), .val (.ref b1), .val (.ref b6), .val (.int (0 : Int32))] [])) (fun _ k => XS.istore X7.here hx rfl (hb hby at_154) rfl (l' := #[.val (.int p1), .val (.int p2), .val (.int p3), .val (.int p4), .val (.int p5), .val (.int p6), .val (.int (Int32.ofNat N)), .val (.int (Int32.ofNat P)), .val (.int (Int32.ofNat SZ)), .val (.ref b1), .val (.ref b6), .val (.int (0 : Int32))]) rfl k) ?_
                exact hF (by unfold own_any; omega)
            ·
              have hc137_26n : ¬ (3 < SZ) := fun q => hc137_26 ((own_ltn (a := 3) (by omega) (by omega)).mpr q)
              refine own_back (S' := T7.setTop (mkF m 153 #[.val (.int p1), .val (.int p2), .val (.int p3), .val (.int p4), .val (.int p5), .val (.int p6), .val (.int (Int32.ofNat N)), .val (.int (Int32.ofNat P)), .val (.int (Int32.ofNat SZ)), .val (.ref b1), .val (.ref b6), .unset] [])) (fun _ k => XS.icmpYes X7.here hx rfl (pc0 := 137) (pc' := 153) rfl (hb hby at_137) rfl (flt hc137_26).2.2.2 (by decide) (by decide) k) ?_
              refine own_back (S' := T7.setTop (mkF m 154 #[.val (.int p1), .val (.int p2), .val (.int p3), .val (.int p4), .val (.int p5), .val (.int p6), .val (.int (Int32.ofNat N)), .val (.int (Int32.ofNat P)), .val (.int (Int32.ofNat SZ)), .val (.ref b1), .val (.ref b6), .unset] [(.int (0 : Int32))])) (fun _ k => XS.iconst X7.here hx rfl (hb hby at_153)  k) ?_
              refine own_back (S' := T7.setTop (mkF m 156 #[.val (.int p1), .val (.int p2), .val (.int p3), .val (.int p4), .val (.int p5), .val (.int p6), .val (.int (Int32.ofNat N)), .val (.int (Int32.ofNat P)), .val (.int (Int32.ofNat SZ)), .val (.ref b1), .val (.ref b6), .val (.int (0 : Int32))] [])) (fun _ k => XS.istore X7.here hx rfl (hb hby at_154) rfl (l' := #[.val (.int p1), .val (.int p2), .val (.int p3), .val (.int p4), .val (.int p5), .val (.int p6), .val (.int (Int32.ofNat N)), .val (.int (Int32.ofNat P)), .val (.int (Int32.ofNat SZ)), .val (.ref b1), .val (.ref b6), .val (.int (0 : Int32))]) rfl k) ?_
              exact hF (by unfold own_any; omega)
    ·
      have hc92_12n : ¬ (0 < SZ) := fun q => hc92_12 ((own_ltn (a := 0) (by omega) (by omega)).mpr q)
      refine own_back (S' := T7.setTop (mkF m 104 #[.val (.int p1), .val (.int p2), .val (.int p3), .val (.int p4), .val (.int p5), .val (.int p6), .val (.int (Int32.ofNat N)), .val (.int (Int32.ofNat P)), .val (.int (Int32.ofNat SZ)), .val (.ref b1), .val (.ref b6), .unset] [])) (fun _ k => XS.ifYes X7.here hx rfl (pc0 := 92) (pc' := 104) rfl (hb hby at_92) rfl ((if0 _ _).trans (flt hc92_12).2.2.2) (by decide) (by decide) k) ?_
      refine own_back (S' := T7.setTop (mkF m 106 #[.val (.int p1), .val (.int p2), .val (.int p3), .val (.int p4), .val (.int p5), .val (.int p6), .val (.int (Int32.ofNat N)), .val (.int (Int32.ofNat P)), .val (.int (Int32.ofNat SZ)), .val (.ref b1), .val (.ref b6), .unset] [(.int (Int32.ofNat SZ))])) (fun _ k => XS.iload X7.here hx rfl (hb hby at_104) rfl k) ?_
      refine own_back (S' := T7.setTop (mkF m 107 #[.val (.int p1), .val (.int p2), .val (.int p3), .val (.int p4), .val (.int p5), .val (.int p6), .val (.int (Int32.ofNat N)), .val (.int (Int32.ofNat P)), .val (.int (Int32.ofNat SZ)), .val (.ref b1), .val (.ref b6), .unset] [(.int (1 : Int32)), (.int (Int32.ofNat SZ))])) (fun _ k => XS.iconst X7.here hx rfl (hb hby at_106)  k) ?_
      by_cases hc107_28 : (1 : Int32) < (Int32.ofNat SZ)
      ·
        have hc107_28n : 1 < SZ := (own_ltn (a := 1) (by omega) (by omega)).mp hc107_28
        refine own_back (S' := T7.setTop (mkF m 110 #[.val (.int p1), .val (.int p2), .val (.int p3), .val (.int p4), .val (.int p5), .val (.int p6), .val (.int (Int32.ofNat N)), .val (.int (Int32.ofNat P)), .val (.int (Int32.ofNat SZ)), .val (.ref b1), .val (.ref b6), .unset] [])) (fun _ k => XS.icmpNo X7.here hx rfl (hb hby at_107) rfl (tlt hc107_28).2.2.2 k) ?_
        refine own_back (S' := T7.setTop (mkF m 112 #[.val (.int p1), .val (.int p2), .val (.int p3), .val (.int p4), .val (.int p5), .val (.int p6), .val (.int (Int32.ofNat N)), .val (.int (Int32.ofNat P)), .val (.int (Int32.ofNat SZ)), .val (.ref b1), .val (.ref b6), .unset] [(.ref b1)])) (fun _ k => XS.aload X7.here hx rfl (hb hby at_110) rfl rfl k) ?_
        refine own_back (S' := T7.setTop (mkF m 113 #[.val (.int p1), .val (.int p2), .val (.int p3), .val (.int p4), .val (.int p5), .val (.int p6), .val (.int (Int32.ofNat N)), .val (.int (Int32.ofNat P)), .val (.int (Int32.ofNat SZ)), .val (.ref b1), .val (.ref b6), .unset] [(.int (1 : Int32)), (.ref b1)])) (fun _ k => XS.iconst X7.here hx rfl (hb hby at_112)  k) ?_
        refine own_back (S' := T7.setTop (mkF m 114 #[.val (.int p1), .val (.int p2), .val (.int p3), .val (.int p4), .val (.int p5), .val (.int p6), .val (.int (Int32.ofNat N)), .val (.int (Int32.ofNat P)), .val (.int (Int32.ofNat SZ)), .val (.ref b1), .val (.ref b6), .unset] [(.int (Int32.ofNat W1))])) (own_ldI X7 hx hZ e7 A_b1_7 (k := 1) (w := (Int32.ofNat W1)) (by decide) rfl (by decide) rfl (g := (mkF m 113 #[.val (.int p1), .val (.int p2), .val (.int p3), .val (.int p4), .val (.int p5), .val (.int p6), .val (.int (Int32.ofNat N)), .val (.int (Int32.ofNat P)), .val (.int (Int32.ofNat SZ)), .val (.ref b1), .val (.ref b6), .unset] [(.int (1 : Int32)), (.ref b1)])) rfl rfl (hb hby at_113)) ?_
        refine own_back (S' := T7.setTop (mkF m 116 #[.val (.int p1), .val (.int p2), .val (.int p3), .val (.int p4), .val (.int p5), .val (.int p6), .val (.int (Int32.ofNat N)), .val (.int (Int32.ofNat P)), .val (.int (Int32.ofNat SZ)), .val (.ref b1), .val (.ref b6), .unset] [(.int (Int32.ofNat P)), (.int (Int32.ofNat W1))])) (fun _ k => XS.iload X7.here hx rfl (hb hby at_114) rfl k) ?_
        by_cases hc116_29 : (Int32.ofNat W1) = (Int32.ofNat P)
        ·
          have hc116_29n : W1 = P := (own_eqn (a := W1) (b := P) (by omega) (by omega)).mp hc116_29
          refine own_back (S' := T7.setTop (mkF m 149 #[.val (.int p1), .val (.int p2), .val (.int p3), .val (.int p4), .val (.int p5), .val (.int p6), .val (.int (Int32.ofNat N)), .val (.int (Int32.ofNat P)), .val (.int (Int32.ofNat SZ)), .val (.ref b1), .val (.ref b6), .unset] [])) (fun _ k => XS.icmpYes X7.here hx rfl (pc0 := 116) (pc' := 149) rfl (hb hby at_116) rfl (teq hc116_29).1 (by decide) (by decide) k) ?_
          refine own_back (S' := T7.setTop (mkF m 150 #[.val (.int p1), .val (.int p2), .val (.int p3), .val (.int p4), .val (.int p5), .val (.int p6), .val (.int (Int32.ofNat N)), .val (.int (Int32.ofNat P)), .val (.int (Int32.ofNat SZ)), .val (.ref b1), .val (.ref b6), .unset] [(.int (1 : Int32))])) (fun _ k => XS.iconst X7.here hx rfl (hb hby at_149)  k) ?_
          refine own_back (S' := T7.setTop (mkF m 154 #[.val (.int p1), .val (.int p2), .val (.int p3), .val (.int p4), .val (.int p5), .val (.int p6), .val (.int (Int32.ofNat N)), .val (.int (Int32.ofNat P)), .val (.int (Int32.ofNat SZ)), .val (.ref b1), .val (.ref b6), .unset] [(.int (1 : Int32))])) (fun _ k => XS.goto X7.here hx rfl (pc0 := 150) (pc' := 154) rfl (hb hby at_150) (by decide) (by decide) k) ?_
          refine own_back (S' := T7.setTop (mkF m 156 #[.val (.int p1), .val (.int p2), .val (.int p3), .val (.int p4), .val (.int p5), .val (.int p6), .val (.int (Int32.ofNat N)), .val (.int (Int32.ofNat P)), .val (.int (Int32.ofNat SZ)), .val (.ref b1), .val (.ref b6), .val (.int (1 : Int32))] [])) (fun _ k => XS.istore X7.here hx rfl (hb hby at_154) rfl (l' := #[.val (.int p1), .val (.int p2), .val (.int p3), .val (.int p4), .val (.int p5), .val (.int p6), .val (.int (Int32.ofNat N)), .val (.int (Int32.ofNat P)), .val (.int (Int32.ofNat SZ)), .val (.ref b1), .val (.ref b6), .val (.int (1 : Int32))]) rfl k) ?_
          exact hT (by unfold own_any; omega)
        ·
          have hc116_29n : ¬ (W1 = P) := fun q => hc116_29 ((own_eqn (a := W1) (b := P) (by omega) (by omega)).mpr q)
          refine own_back (S' := T7.setTop (mkF m 119 #[.val (.int p1), .val (.int p2), .val (.int p3), .val (.int p4), .val (.int p5), .val (.int p6), .val (.int (Int32.ofNat N)), .val (.int (Int32.ofNat P)), .val (.int (Int32.ofNat SZ)), .val (.ref b1), .val (.ref b6), .unset] [])) (fun _ k => XS.icmpNo X7.here hx rfl (hb hby at_116) rfl (feq hc116_29).1 k) ?_
          refine own_back (S' := T7.setTop (mkF m 121 #[.val (.int p1), .val (.int p2), .val (.int p3), .val (.int p4), .val (.int p5), .val (.int p6), .val (.int (Int32.ofNat N)), .val (.int (Int32.ofNat P)), .val (.int (Int32.ofNat SZ)), .val (.ref b1), .val (.ref b6), .unset] [(.int (Int32.ofNat SZ))])) (fun _ k => XS.iload X7.here hx rfl (hb hby at_119) rfl k) ?_
          refine own_back (S' := T7.setTop (mkF m 122 #[.val (.int p1), .val (.int p2), .val (.int p3), .val (.int p4), .val (.int p5), .val (.int p6), .val (.int (Int32.ofNat N)), .val (.int (Int32.ofNat P)), .val (.int (Int32.ofNat SZ)), .val (.ref b1), .val (.ref b6), .unset] [(.int (2 : Int32)), (.int (Int32.ofNat SZ))])) (fun _ k => XS.iconst X7.here hx rfl (hb hby at_121)  k) ?_
          by_cases hc122_30 : (2 : Int32) < (Int32.ofNat SZ)
          ·
            have hc122_30n : 2 < SZ := (own_ltn (a := 2) (by omega) (by omega)).mp hc122_30
            refine own_back (S' := T7.setTop (mkF m 125 #[.val (.int p1), .val (.int p2), .val (.int p3), .val (.int p4), .val (.int p5), .val (.int p6), .val (.int (Int32.ofNat N)), .val (.int (Int32.ofNat P)), .val (.int (Int32.ofNat SZ)), .val (.ref b1), .val (.ref b6), .unset] [])) (fun _ k => XS.icmpNo X7.here hx rfl (hb hby at_122) rfl (tlt hc122_30).2.2.2 k) ?_
            refine own_back (S' := T7.setTop (mkF m 127 #[.val (.int p1), .val (.int p2), .val (.int p3), .val (.int p4), .val (.int p5), .val (.int p6), .val (.int (Int32.ofNat N)), .val (.int (Int32.ofNat P)), .val (.int (Int32.ofNat SZ)), .val (.ref b1), .val (.ref b6), .unset] [(.ref b1)])) (fun _ k => XS.aload X7.here hx rfl (hb hby at_125) rfl rfl k) ?_
            refine own_back (S' := T7.setTop (mkF m 128 #[.val (.int p1), .val (.int p2), .val (.int p3), .val (.int p4), .val (.int p5), .val (.int p6), .val (.int (Int32.ofNat N)), .val (.int (Int32.ofNat P)), .val (.int (Int32.ofNat SZ)), .val (.ref b1), .val (.ref b6), .unset] [(.int (2 : Int32)), (.ref b1)])) (fun _ k => XS.iconst X7.here hx rfl (hb hby at_127)  k) ?_
            refine own_back (S' := T7.setTop (mkF m 129 #[.val (.int p1), .val (.int p2), .val (.int p3), .val (.int p4), .val (.int p5), .val (.int p6), .val (.int (Int32.ofNat N)), .val (.int (Int32.ofNat P)), .val (.int (Int32.ofNat SZ)), .val (.ref b1), .val (.ref b6), .unset] [(.int (Int32.ofNat W2))])) (own_ldI X7 hx hZ e7 A_b1_7 (k := 2) (w := (Int32.ofNat W2)) (by decide) rfl (by decide) rfl (g := (mkF m 128 #[.val (.int p1), .val (.int p2), .val (.int p3), .val (.int p4), .val (.int p5), .val (.int p6), .val (.int (Int32.ofNat N)), .val (.int (Int32.ofNat P)), .val (.int (Int32.ofNat SZ)), .val (.ref b1), .val (.ref b6), .unset] [(.int (2 : Int32)), (.ref b1)])) rfl rfl (hb hby at_128)) ?_
            refine own_back (S' := T7.setTop (mkF m 131 #[.val (.int p1), .val (.int p2), .val (.int p3), .val (.int p4), .val (.int p5), .val (.int p6), .val (.int (Int32.ofNat N)), .val (.int (Int32.ofNat P)), .val (.int (Int32.ofNat SZ)), .val (.ref b1), .val (.ref b6), .unset] [(.int (Int32.ofNat P)), (.int (Int32.ofNat W2))])) (fun _ k => XS.iload X7.here hx rfl (hb hby at_129) rfl k) ?_
            by_cases hc131_31 : (Int32.ofNat W2) = (Int32.ofNat P)
            ·
              have hc131_31n : W2 = P := (own_eqn (a := W2) (b := P) (by omega) (by omega)).mp hc131_31
              refine own_back (S' := T7.setTop (mkF m 149 #[.val (.int p1), .val (.int p2), .val (.int p3), .val (.int p4), .val (.int p5), .val (.int p6), .val (.int (Int32.ofNat N)), .val (.int (Int32.ofNat P)), .val (.int (Int32.ofNat SZ)), .val (.ref b1), .val (.ref b6), .unset] [])) (fun _ k => XS.icmpYes X7.here hx rfl (pc0 := 131) (pc' := 149) rfl (hb hby at_131) rfl (teq hc131_31).1 (by decide) (by decide) k) ?_
              refine own_back (S' := T7.setTop (mkF m 150 #[.val (.int p1), .val (.int p2), .val (.int p3), .val (.int p4), .val (.int p5), .val (.int p6), .val (.int (Int32.ofNat N)), .val (.int (Int32.ofNat P)), .val (.int (Int32.ofNat SZ)), .val (.ref b1), .val (.ref b6), .unset] [(.int (1 : Int32))])) (fun _ k => XS.iconst X7.here hx rfl (hb hby at_149)  k) ?_
              refine own_back (S' := T7.setTop (mkF m 154 #[.val (.int p1), .val (.int p2), .val (.int p3), .val (.int p4), .val (.int p5), .val (.int p6), .val (.int (Int32.ofNat N)), .val (.int (Int32.ofNat P)), .val (.int (Int32.ofNat SZ)), .val (.ref b1), .val (.ref b6), .unset] [(.int (1 : Int32))])) (fun _ k => XS.goto X7.here hx rfl (pc0 := 150) (pc' := 154) rfl (hb hby at_150) (by decide) (by decide) k) ?_
              refine own_back (S' := T7.setTop (mkF m 156 #[.val (.int p1), .val (.int p2), .val (.int p3), .val (.int p4), .val (.int p5), .val (.int p6), .val (.int (Int32.ofNat N)), .val (.int (Int32.ofNat P)), .val (.int (Int32.ofNat SZ)), .val (.ref b1), .val (.ref b6), .val (.int (1 : Int32))] [])) (fun _ k => XS.istore X7.here hx rfl (hb hby at_154) rfl (l' := #[.val (.int p1), .val (.int p2), .val (.int p3), .val (.int p4), .val (.int p5), .val (.int p6), .val (.int (Int32.ofNat N)), .val (.int (Int32.ofNat P)), .val (.int (Int32.ofNat SZ)), .val (.ref b1), .val (.ref b6), .val (.int (1 : Int32))]) rfl k) ?_
              exact hT (by unfold own_any; omega)
            ·
              have hc131_31n : ¬ (W2 = P) := fun q => hc131_31 ((own_eqn (a := W2) (b := P) (by omega) (by omega)).mpr q)
              refine own_back (S' := T7.setTop (mkF m 134 #[.val (.int p1), .val (.int p2), .val (.int p3), .val (.int p4), .val (.int p5), .val (.int p6), .val (.int (Int32.ofNat N)), .val (.int (Int32.ofNat P)), .val (.int (Int32.ofNat SZ)), .val (.ref b1), .val (.ref b6), .unset] [])) (fun _ k => XS.icmpNo X7.here hx rfl (hb hby at_131) rfl (feq hc131_31).1 k) ?_
              refine own_back (S' := T7.setTop (mkF m 136 #[.val (.int p1), .val (.int p2), .val (.int p3), .val (.int p4), .val (.int p5), .val (.int p6), .val (.int (Int32.ofNat N)), .val (.int (Int32.ofNat P)), .val (.int (Int32.ofNat SZ)), .val (.ref b1), .val (.ref b6), .unset] [(.int (Int32.ofNat SZ))])) (fun _ k => XS.iload X7.here hx rfl (hb hby at_134) rfl k) ?_
              refine own_back (S' := T7.setTop (mkF m 137 #[.val (.int p1), .val (.int p2), .val (.int p3), .val (.int p4), .val (.int p5), .val (.int p6), .val (.int (Int32.ofNat N)), .val (.int (Int32.ofNat P)), .val (.int (Int32.ofNat SZ)), .val (.ref b1), .val (.ref b6), .unset] [(.int (3 : Int32)), (.int (Int32.ofNat SZ))])) (fun _ k => XS.iconst X7.here hx rfl (hb hby at_136)  k) ?_
              by_cases hc137_32 : (3 : Int32) < (Int32.ofNat SZ)
              ·
                have hc137_32n : 3 < SZ := (own_ltn (a := 3) (by omega) (by omega)).mp hc137_32
                refine own_back (S' := T7.setTop (mkF m 140 #[.val (.int p1), .val (.int p2), .val (.int p3), .val (.int p4), .val (.int p5), .val (.int p6), .val (.int (Int32.ofNat N)), .val (.int (Int32.ofNat P)), .val (.int (Int32.ofNat SZ)), .val (.ref b1), .val (.ref b6), .unset] [])) (fun _ k => XS.icmpNo X7.here hx rfl (hb hby at_137) rfl (tlt hc137_32).2.2.2 k) ?_
                refine own_back (S' := T7.setTop (mkF m 142 #[.val (.int p1), .val (.int p2), .val (.int p3), .val (.int p4), .val (.int p5), .val (.int p6), .val (.int (Int32.ofNat N)), .val (.int (Int32.ofNat P)), .val (.int (Int32.ofNat SZ)), .val (.ref b1), .val (.ref b6), .unset] [(.ref b1)])) (fun _ k => XS.aload X7.here hx rfl (hb hby at_140) rfl rfl k) ?_
                refine own_back (S' := T7.setTop (mkF m 143 #[.val (.int p1), .val (.int p2), .val (.int p3), .val (.int p4), .val (.int p5), .val (.int p6), .val (.int (Int32.ofNat N)), .val (.int (Int32.ofNat P)), .val (.int (Int32.ofNat SZ)), .val (.ref b1), .val (.ref b6), .unset] [(.int (3 : Int32)), (.ref b1)])) (fun _ k => XS.iconst X7.here hx rfl (hb hby at_142)  k) ?_
                refine own_back (S' := T7.setTop (mkF m 144 #[.val (.int p1), .val (.int p2), .val (.int p3), .val (.int p4), .val (.int p5), .val (.int p6), .val (.int (Int32.ofNat N)), .val (.int (Int32.ofNat P)), .val (.int (Int32.ofNat SZ)), .val (.ref b1), .val (.ref b6), .unset] [(.int (Int32.ofNat W3))])) (own_ldI X7 hx hZ e7 A_b1_7 (k := 3) (w := (Int32.ofNat W3)) (by decide) rfl (by decide) rfl (g := (mkF m 143 #[.val (.int p1), .val (.int p2), .val (.int p3), .val (.int p4), .val (.int p5), .val (.int p6), .val (.int (Int32.ofNat N)), .val (.int (Int32.ofNat P)), .val (.int (Int32.ofNat SZ)), .val (.ref b1), .val (.ref b6), .unset] [(.int (3 : Int32)), (.ref b1)])) rfl rfl (hb hby at_143)) ?_
                refine own_back (S' := T7.setTop (mkF m 146 #[.val (.int p1), .val (.int p2), .val (.int p3), .val (.int p4), .val (.int p5), .val (.int p6), .val (.int (Int32.ofNat N)), .val (.int (Int32.ofNat P)), .val (.int (Int32.ofNat SZ)), .val (.ref b1), .val (.ref b6), .unset] [(.int (Int32.ofNat P)), (.int (Int32.ofNat W3))])) (fun _ k => XS.iload X7.here hx rfl (hb hby at_144) rfl k) ?_
                by_cases hc146_33 : (Int32.ofNat W3) = (Int32.ofNat P)
                ·
                  have hc146_33n : W3 = P := (own_eqn (a := W3) (b := P) (by omega) (by omega)).mp hc146_33
                  refine own_back (S' := T7.setTop (mkF m 149 #[.val (.int p1), .val (.int p2), .val (.int p3), .val (.int p4), .val (.int p5), .val (.int p6), .val (.int (Int32.ofNat N)), .val (.int (Int32.ofNat P)), .val (.int (Int32.ofNat SZ)), .val (.ref b1), .val (.ref b6), .unset] [])) (fun _ k => XS.icmpNo X7.here hx rfl (hb hby at_146) rfl (teq hc146_33).2 k) ?_
                  refine own_back (S' := T7.setTop (mkF m 150 #[.val (.int p1), .val (.int p2), .val (.int p3), .val (.int p4), .val (.int p5), .val (.int p6), .val (.int (Int32.ofNat N)), .val (.int (Int32.ofNat P)), .val (.int (Int32.ofNat SZ)), .val (.ref b1), .val (.ref b6), .unset] [(.int (1 : Int32))])) (fun _ k => XS.iconst X7.here hx rfl (hb hby at_149)  k) ?_
                  refine own_back (S' := T7.setTop (mkF m 154 #[.val (.int p1), .val (.int p2), .val (.int p3), .val (.int p4), .val (.int p5), .val (.int p6), .val (.int (Int32.ofNat N)), .val (.int (Int32.ofNat P)), .val (.int (Int32.ofNat SZ)), .val (.ref b1), .val (.ref b6), .unset] [(.int (1 : Int32))])) (fun _ k => XS.goto X7.here hx rfl (pc0 := 150) (pc' := 154) rfl (hb hby at_150) (by decide) (by decide) k) ?_
                  refine own_back (S' := T7.setTop (mkF m 156 #[.val (.int p1), .val (.int p2), .val (.int p3), .val (.int p4), .val (.int p5), .val (.int p6), .val (.int (Int32.ofNat N)), .val (.int (Int32.ofNat P)), .val (.int (Int32.ofNat SZ)), .val (.ref b1), .val (.ref b6), .val (.int (1 : Int32))] [])) (fun _ k => XS.istore X7.here hx rfl (hb hby at_154) rfl (l' := #[.val (.int p1), .val (.int p2), .val (.int p3), .val (.int p4), .val (.int p5), .val (.int p6), .val (.int (Int32.ofNat N)), .val (.int (Int32.ofNat P)), .val (.int (Int32.ofNat SZ)), .val (.ref b1), .val (.ref b6), .val (.int (1 : Int32))]) rfl k) ?_
                  exact hT (by unfold own_any; omega)
                ·
                  have hc146_33n : ¬ (W3 = P) := fun q => hc146_33 ((own_eqn (a := W3) (b := P) (by omega) (by omega)).mpr q)
                  refine own_back (S' := T7.setTop (mkF m 153 #[.val (.int p1), .val (.int p2), .val (.int p3), .val (.int p4), .val (.int p5), .val (.int p6), .val (.int (Int32.ofNat N)), .val (.int (Int32.ofNat P)), .val (.int (Int32.ofNat SZ)), .val (.ref b1), .val (.ref b6), .unset] [])) (fun _ k => XS.icmpYes X7.here hx rfl (pc0 := 146) (pc' := 153) rfl (hb hby at_146) rfl (feq hc146_33).2 (by decide) (by decide) k) ?_
                  refine own_back (S' := T7.setTop (mkF m 154 #[.val (.int p1), .val (.int p2), .val (.int p3), .val (.int p4), .val (.int p5), .val (.int p6), .val (.int (Int32.ofNat N)), .val (.int (Int32.ofNat P)), .val (.int (Int32.ofNat SZ)), .val (.ref b1), .val (.ref b6), .unset] [(.int (0 : Int32))])) (fun _ k => XS.iconst X7.here hx rfl (hb hby at_153)  k) ?_
                  refine own_back (S' := T7.setTop (mkF m 156 #[.val (.int p1), .val (.int p2), .val (.int p3), .val (.int p4), .val (.int p5), .val (.int p6), .val (.int (Int32.ofNat N)), .val (.int (Int32.ofNat P)), .val (.int (Int32.ofNat SZ)), .val (.ref b1), .val (.ref b6), .val (.int (0 : Int32))] [])) (fun _ k => XS.istore X7.here hx rfl (hb hby at_154) rfl (l' := #[.val (.int p1), .val (.int p2), .val (.int p3), .val (.int p4), .val (.int p5), .val (.int p6), .val (.int (Int32.ofNat N)), .val (.int (Int32.ofNat P)), .val (.int (Int32.ofNat SZ)), .val (.ref b1), .val (.ref b6), .val (.int (0 : Int32))]) rfl k) ?_
                  exact hF (by unfold own_any; omega)
              ·
                have hc137_32n : ¬ (3 < SZ) := fun q => hc137_32 ((own_ltn (a := 3) (by omega) (by omega)).mpr q)
                refine own_back (S' := T7.setTop (mkF m 153 #[.val (.int p1), .val (.int p2), .val (.int p3), .val (.int p4), .val (.int p5), .val (.int p6), .val (.int (Int32.ofNat N)), .val (.int (Int32.ofNat P)), .val (.int (Int32.ofNat SZ)), .val (.ref b1), .val (.ref b6), .unset] [])) (fun _ k => XS.icmpYes X7.here hx rfl (pc0 := 137) (pc' := 153) rfl (hb hby at_137) rfl (flt hc137_32).2.2.2 (by decide) (by decide) k) ?_
                refine own_back (S' := T7.setTop (mkF m 154 #[.val (.int p1), .val (.int p2), .val (.int p3), .val (.int p4), .val (.int p5), .val (.int p6), .val (.int (Int32.ofNat N)), .val (.int (Int32.ofNat P)), .val (.int (Int32.ofNat SZ)), .val (.ref b1), .val (.ref b6), .unset] [(.int (0 : Int32))])) (fun _ k => XS.iconst X7.here hx rfl (hb hby at_153)  k) ?_
                refine own_back (S' := T7.setTop (mkF m 156 #[.val (.int p1), .val (.int p2), .val (.int p3), .val (.int p4), .val (.int p5), .val (.int p6), .val (.int (Int32.ofNat N)), .val (.int (Int32.ofNat P)), .val (.int (Int32.ofNat SZ)), .val (.ref b1), .val (.ref b6), .val (.int (0 : Int32))] [])) (fun _ k => XS.istore X7.here hx rfl (hb hby at_154) rfl (l' := #[.val (.int p1), .val (.int p2), .val (.int p3), .val (.int p4), .val (.int p5), .val (.int p6), .val (.int (Int32.ofNat N)), .val (.int (Int32.ofNat P)), .val (.int (Int32.ofNat SZ)), .val (.ref b1), .val (.ref b6), .val (.int (0 : Int32))]) rfl k) ?_
                exact hF (by unfold own_any; omega)
          ·
            have hc122_30n : ¬ (2 < SZ) := fun q => hc122_30 ((own_ltn (a := 2) (by omega) (by omega)).mpr q)
            refine own_back (S' := T7.setTop (mkF m 134 #[.val (.int p1), .val (.int p2), .val (.int p3), .val (.int p4), .val (.int p5), .val (.int p6), .val (.int (Int32.ofNat N)), .val (.int (Int32.ofNat P)), .val (.int (Int32.ofNat SZ)), .val (.ref b1), .val (.ref b6), .unset] [])) (fun _ k => XS.icmpYes X7.here hx rfl (pc0 := 122) (pc' := 134) rfl (hb hby at_122) rfl (flt hc122_30).2.2.2 (by decide) (by decide) k) ?_
            refine own_back (S' := T7.setTop (mkF m 136 #[.val (.int p1), .val (.int p2), .val (.int p3), .val (.int p4), .val (.int p5), .val (.int p6), .val (.int (Int32.ofNat N)), .val (.int (Int32.ofNat P)), .val (.int (Int32.ofNat SZ)), .val (.ref b1), .val (.ref b6), .unset] [(.int (Int32.ofNat SZ))])) (fun _ k => XS.iload X7.here hx rfl (hb hby at_134) rfl k) ?_
            refine own_back (S' := T7.setTop (mkF m 137 #[.val (.int p1), .val (.int p2), .val (.int p3), .val (.int p4), .val (.int p5), .val (.int p6), .val (.int (Int32.ofNat N)), .val (.int (Int32.ofNat P)), .val (.int (Int32.ofNat SZ)), .val (.ref b1), .val (.ref b6), .unset] [(.int (3 : Int32)), (.int (Int32.ofNat SZ))])) (fun _ k => XS.iconst X7.here hx rfl (hb hby at_136)  k) ?_
            by_cases hc137_34 : (3 : Int32) < (Int32.ofNat SZ)
            ·
              have hc137_34n : 3 < SZ := (own_ltn (a := 3) (by omega) (by omega)).mp hc137_34
              refine own_back (S' := T7.setTop (mkF m 140 #[.val (.int p1), .val (.int p2), .val (.int p3), .val (.int p4), .val (.int p5), .val (.int p6), .val (.int (Int32.ofNat N)), .val (.int (Int32.ofNat P)), .val (.int (Int32.ofNat SZ)), .val (.ref b1), .val (.ref b6), .unset] [])) (fun _ k => XS.icmpNo X7.here hx rfl (hb hby at_137) rfl (tlt hc137_34).2.2.2 k) ?_
              refine own_back (S' := T7.setTop (mkF m 142 #[.val (.int p1), .val (.int p2), .val (.int p3), .val (.int p4), .val (.int p5), .val (.int p6), .val (.int (Int32.ofNat N)), .val (.int (Int32.ofNat P)), .val (.int (Int32.ofNat SZ)), .val (.ref b1), .val (.ref b6), .unset] [(.ref b1)])) (fun _ k => XS.aload X7.here hx rfl (hb hby at_140) rfl rfl k) ?_
              refine own_back (S' := T7.setTop (mkF m 143 #[.val (.int p1), .val (.int p2), .val (.int p3), .val (.int p4), .val (.int p5), .val (.int p6), .val (.int (Int32.ofNat N)), .val (.int (Int32.ofNat P)), .val (.int (Int32.ofNat SZ)), .val (.ref b1), .val (.ref b6), .unset] [(.int (3 : Int32)), (.ref b1)])) (fun _ k => XS.iconst X7.here hx rfl (hb hby at_142)  k) ?_
              refine own_back (S' := T7.setTop (mkF m 144 #[.val (.int p1), .val (.int p2), .val (.int p3), .val (.int p4), .val (.int p5), .val (.int p6), .val (.int (Int32.ofNat N)), .val (.int (Int32.ofNat P)), .val (.int (Int32.ofNat SZ)), .val (.ref b1), .val (.ref b6), .unset] [(.int (Int32.ofNat W3))])) (own_ldI X7 hx hZ e7 A_b1_7 (k := 3) (w := (Int32.ofNat W3)) (by decide) rfl (by decide) rfl (g := (mkF m 143 #[.val (.int p1), .val (.int p2), .val (.int p3), .val (.int p4), .val (.int p5), .val (.int p6), .val (.int (Int32.ofNat N)), .val (.int (Int32.ofNat P)), .val (.int (Int32.ofNat SZ)), .val (.ref b1), .val (.ref b6), .unset] [(.int (3 : Int32)), (.ref b1)])) rfl rfl (hb hby at_143)) ?_
              refine own_back (S' := T7.setTop (mkF m 146 #[.val (.int p1), .val (.int p2), .val (.int p3), .val (.int p4), .val (.int p5), .val (.int p6), .val (.int (Int32.ofNat N)), .val (.int (Int32.ofNat P)), .val (.int (Int32.ofNat SZ)), .val (.ref b1), .val (.ref b6), .unset] [(.int (Int32.ofNat P)), (.int (Int32.ofNat W3))])) (fun _ k => XS.iload X7.here hx rfl (hb hby at_144) rfl k) ?_
              by_cases hc146_35 : (Int32.ofNat W3) = (Int32.ofNat P)
              ·
                have hc146_35n : W3 = P := (own_eqn (a := W3) (b := P) (by omega) (by omega)).mp hc146_35
                refine own_back (S' := T7.setTop (mkF m 149 #[.val (.int p1), .val (.int p2), .val (.int p3), .val (.int p4), .val (.int p5), .val (.int p6), .val (.int (Int32.ofNat N)), .val (.int (Int32.ofNat P)), .val (.int (Int32.ofNat SZ)), .val (.ref b1), .val (.ref b6), .unset] [])) (fun _ k => XS.icmpNo X7.here hx rfl (hb hby at_146) rfl (teq hc146_35).2 k) ?_
                refine own_back (S' := T7.setTop (mkF m 150 #[.val (.int p1), .val (.int p2), .val (.int p3), .val (.int p4), .val (.int p5), .val (.int p6), .val (.int (Int32.ofNat N)), .val (.int (Int32.ofNat P)), .val (.int (Int32.ofNat SZ)), .val (.ref b1), .val (.ref b6), .unset] [(.int (1 : Int32))])) (fun _ k => XS.iconst X7.here hx rfl (hb hby at_149)  k) ?_
                refine own_back (S' := T7.setTop (mkF m 154 #[.val (.int p1), .val (.int p2), .val (.int p3), .val (.int p4), .val (.int p5), .val (.int p6), .val (.int (Int32.ofNat N)), .val (.int (Int32.ofNat P)), .val (.int (Int32.ofNat SZ)), .val (.ref b1), .val (.ref b6), .unset] [(.int (1 : Int32))])) (fun _ k => XS.goto X7.here hx rfl (pc0 := 150) (pc' := 154) rfl (hb hby at_150) (by decide) (by decide) k) ?_
                refine own_back (S' := T7.setTop (mkF m 156 #[.val (.int p1), .val (.int p2), .val (.int p3), .val (.int p4), .val (.int p5), .val (.int p6), .val (.int (Int32.ofNat N)), .val (.int (Int32.ofNat P)), .val (.int (Int32.ofNat SZ)), .val (.ref b1), .val (.ref b6), .val (.int (1 : Int32))] [])) (fun _ k => XS.istore X7.here hx rfl (hb hby at_154) rfl (l' := #[.val (.int p1), .val (.int p2), .val (.int p3), .val (.int p4), .val (.int p5), .val (.int p6), .val (.int (Int32.ofNat N)), .val (.int (Int32.ofNat P)), .val (.int (Int32.ofNat SZ)), .val (.ref b1), .val (.ref b6), .val (.int (1 : Int32))]) rfl k) ?_
                exact hT (by unfold own_any; omega)
              ·
                have hc146_35n : ¬ (W3 = P) := fun q => hc146_35 ((own_eqn (a := W3) (b := P) (by omega) (by omega)).mpr q)
                refine own_back (S' := T7.setTop (mkF m 153 #[.val (.int p1), .val (.int p2), .val (.int p3), .val (.int p4), .val (.int p5), .val (.int p6), .val (.int (Int32.ofNat N)), .val (.int (Int32.ofNat P)), .val (.int (Int32.ofNat SZ)), .val (.ref b1), .val (.ref b6), .unset] [])) (fun _ k => XS.icmpYes X7.here hx rfl (pc0 := 146) (pc' := 153) rfl (hb hby at_146) rfl (feq hc146_35).2 (by decide) (by decide) k) ?_
                refine own_back (S' := T7.setTop (mkF m 154 #[.val (.int p1), .val (.int p2), .val (.int p3), .val (.int p4), .val (.int p5), .val (.int p6), .val (.int (Int32.ofNat N)), .val (.int (Int32.ofNat P)), .val (.int (Int32.ofNat SZ)), .val (.ref b1), .val (.ref b6), .unset] [(.int (0 : Int32))])) (fun _ k => XS.iconst X7.here hx rfl (hb hby at_153)  k) ?_
                refine own_back (S' := T7.setTop (mkF m 156 #[.val (.int p1), .val (.int p2), .val (.int p3), .val (.int p4), .val (.int p5), .val (.int p6), .val (.int (Int32.ofNat N)), .val (.int (Int32.ofNat P)), .val (.int (Int32.ofNat SZ)), .val (.ref b1), .val (.ref b6), .val (.int (0 : Int32))] [])) (fun _ k => XS.istore X7.here hx rfl (hb hby at_154) rfl (l' := #[.val (.int p1), .val (.int p2), .val (.int p3), .val (.int p4), .val (.int p5), .val (.int p6), .val (.int (Int32.ofNat N)), .val (.int (Int32.ofNat P)), .val (.int (Int32.ofNat SZ)), .val (.ref b1), .val (.ref b6), .val (.int (0 : Int32))]) rfl k) ?_
                exact hF (by unfold own_any; omega)
            ·
              have hc137_34n : ¬ (3 < SZ) := fun q => hc137_34 ((own_ltn (a := 3) (by omega) (by omega)).mpr q)
              refine own_back (S' := T7.setTop (mkF m 153 #[.val (.int p1), .val (.int p2), .val (.int p3), .val (.int p4), .val (.int p5), .val (.int p6), .val (.int (Int32.ofNat N)), .val (.int (Int32.ofNat P)), .val (.int (Int32.ofNat SZ)), .val (.ref b1), .val (.ref b6), .unset] [])) (fun _ k => XS.icmpYes X7.here hx rfl (pc0 := 137) (pc' := 153) rfl (hb hby at_137) rfl (flt hc137_34).2.2.2 (by decide) (by decide) k) ?_
              refine own_back (S' := T7.setTop (mkF m 154 #[.val (.int p1), .val (.int p2), .val (.int p3), .val (.int p4), .val (.int p5), .val (.int p6), .val (.int (Int32.ofNat N)), .val (.int (Int32.ofNat P)), .val (.int (Int32.ofNat SZ)), .val (.ref b1), .val (.ref b6), .unset] [(.int (0 : Int32))])) (fun _ k => XS.iconst X7.here hx rfl (hb hby at_153)  k) ?_
              refine own_back (S' := T7.setTop (mkF m 156 #[.val (.int p1), .val (.int p2), .val (.int p3), .val (.int p4), .val (.int p5), .val (.int p6), .val (.int (Int32.ofNat N)), .val (.int (Int32.ofNat P)), .val (.int (Int32.ofNat SZ)), .val (.ref b1), .val (.ref b6), .val (.int (0 : Int32))] [])) (fun _ k => XS.istore X7.here hx rfl (hb hby at_154) rfl (l' := #[.val (.int p1), .val (.int p2), .val (.int p3), .val (.int p4), .val (.int p5), .val (.int p6), .val (.int (Int32.ofNat N)), .val (.int (Int32.ofNat P)), .val (.int (Int32.ofNat SZ)), .val (.ref b1), .val (.ref b6), .val (.int (0 : Int32))]) rfl k) ?_
              exact hF (by unfold own_any; omega)
      ·
        have hc107_28n : ¬ (1 < SZ) := fun q => hc107_28 ((own_ltn (a := 1) (by omega) (by omega)).mpr q)
        refine own_back (S' := T7.setTop (mkF m 119 #[.val (.int p1), .val (.int p2), .val (.int p3), .val (.int p4), .val (.int p5), .val (.int p6), .val (.int (Int32.ofNat N)), .val (.int (Int32.ofNat P)), .val (.int (Int32.ofNat SZ)), .val (.ref b1), .val (.ref b6), .unset] [])) (fun _ k => XS.icmpYes X7.here hx rfl (pc0 := 107) (pc' := 119) rfl (hb hby at_107) rfl (flt hc107_28).2.2.2 (by decide) (by decide) k) ?_
        refine own_back (S' := T7.setTop (mkF m 121 #[.val (.int p1), .val (.int p2), .val (.int p3), .val (.int p4), .val (.int p5), .val (.int p6), .val (.int (Int32.ofNat N)), .val (.int (Int32.ofNat P)), .val (.int (Int32.ofNat SZ)), .val (.ref b1), .val (.ref b6), .unset] [(.int (Int32.ofNat SZ))])) (fun _ k => XS.iload X7.here hx rfl (hb hby at_119) rfl k) ?_
        refine own_back (S' := T7.setTop (mkF m 122 #[.val (.int p1), .val (.int p2), .val (.int p3), .val (.int p4), .val (.int p5), .val (.int p6), .val (.int (Int32.ofNat N)), .val (.int (Int32.ofNat P)), .val (.int (Int32.ofNat SZ)), .val (.ref b1), .val (.ref b6), .unset] [(.int (2 : Int32)), (.int (Int32.ofNat SZ))])) (fun _ k => XS.iconst X7.here hx rfl (hb hby at_121)  k) ?_
        by_cases hc122_36 : (2 : Int32) < (Int32.ofNat SZ)
        ·
          have hc122_36n : 2 < SZ := (own_ltn (a := 2) (by omega) (by omega)).mp hc122_36
          refine own_back (S' := T7.setTop (mkF m 125 #[.val (.int p1), .val (.int p2), .val (.int p3), .val (.int p4), .val (.int p5), .val (.int p6), .val (.int (Int32.ofNat N)), .val (.int (Int32.ofNat P)), .val (.int (Int32.ofNat SZ)), .val (.ref b1), .val (.ref b6), .unset] [])) (fun _ k => XS.icmpNo X7.here hx rfl (hb hby at_122) rfl (tlt hc122_36).2.2.2 k) ?_
          refine own_back (S' := T7.setTop (mkF m 127 #[.val (.int p1), .val (.int p2), .val (.int p3), .val (.int p4), .val (.int p5), .val (.int p6), .val (.int (Int32.ofNat N)), .val (.int (Int32.ofNat P)), .val (.int (Int32.ofNat SZ)), .val (.ref b1), .val (.ref b6), .unset] [(.ref b1)])) (fun _ k => XS.aload X7.here hx rfl (hb hby at_125) rfl rfl k) ?_
          refine own_back (S' := T7.setTop (mkF m 128 #[.val (.int p1), .val (.int p2), .val (.int p3), .val (.int p4), .val (.int p5), .val (.int p6), .val (.int (Int32.ofNat N)), .val (.int (Int32.ofNat P)), .val (.int (Int32.ofNat SZ)), .val (.ref b1), .val (.ref b6), .unset] [(.int (2 : Int32)), (.ref b1)])) (fun _ k => XS.iconst X7.here hx rfl (hb hby at_127)  k) ?_
          refine own_back (S' := T7.setTop (mkF m 129 #[.val (.int p1), .val (.int p2), .val (.int p3), .val (.int p4), .val (.int p5), .val (.int p6), .val (.int (Int32.ofNat N)), .val (.int (Int32.ofNat P)), .val (.int (Int32.ofNat SZ)), .val (.ref b1), .val (.ref b6), .unset] [(.int (Int32.ofNat W2))])) (own_ldI X7 hx hZ e7 A_b1_7 (k := 2) (w := (Int32.ofNat W2)) (by decide) rfl (by decide) rfl (g := (mkF m 128 #[.val (.int p1), .val (.int p2), .val (.int p3), .val (.int p4), .val (.int p5), .val (.int p6), .val (.int (Int32.ofNat N)), .val (.int (Int32.ofNat P)), .val (.int (Int32.ofNat SZ)), .val (.ref b1), .val (.ref b6), .unset] [(.int (2 : Int32)), (.ref b1)])) rfl rfl (hb hby at_128)) ?_
          refine own_back (S' := T7.setTop (mkF m 131 #[.val (.int p1), .val (.int p2), .val (.int p3), .val (.int p4), .val (.int p5), .val (.int p6), .val (.int (Int32.ofNat N)), .val (.int (Int32.ofNat P)), .val (.int (Int32.ofNat SZ)), .val (.ref b1), .val (.ref b6), .unset] [(.int (Int32.ofNat P)), (.int (Int32.ofNat W2))])) (fun _ k => XS.iload X7.here hx rfl (hb hby at_129) rfl k) ?_
          by_cases hc131_37 : (Int32.ofNat W2) = (Int32.ofNat P)
          ·
            have hc131_37n : W2 = P := (own_eqn (a := W2) (b := P) (by omega) (by omega)).mp hc131_37
            refine own_back (S' := T7.setTop (mkF m 149 #[.val (.int p1), .val (.int p2), .val (.int p3), .val (.int p4), .val (.int p5), .val (.int p6), .val (.int (Int32.ofNat N)), .val (.int (Int32.ofNat P)), .val (.int (Int32.ofNat SZ)), .val (.ref b1), .val (.ref b6), .unset] [])) (fun _ k => XS.icmpYes X7.here hx rfl (pc0 := 131) (pc' := 149) rfl (hb hby at_131) rfl (teq hc131_37).1 (by decide) (by decide) k) ?_
            refine own_back (S' := T7.setTop (mkF m 150 #[.val (.int p1), .val (.int p2), .val (.int p3), .val (.int p4), .val (.int p5), .val (.int p6), .val (.int (Int32.ofNat N)), .val (.int (Int32.ofNat P)), .val (.int (Int32.ofNat SZ)), .val (.ref b1), .val (.ref b6), .unset] [(.int (1 : Int32))])) (fun _ k => XS.iconst X7.here hx rfl (hb hby at_149)  k) ?_
            refine own_back (S' := T7.setTop (mkF m 154 #[.val (.int p1), .val (.int p2), .val (.int p3), .val (.int p4), .val (.int p5), .val (.int p6), .val (.int (Int32.ofNat N)), .val (.int (Int32.ofNat P)), .val (.int (Int32.ofNat SZ)), .val (.ref b1), .val (.ref b6), .unset] [(.int (1 : Int32))])) (fun _ k => XS.goto X7.here hx rfl (pc0 := 150) (pc' := 154) rfl (hb hby at_150) (by decide) (by decide) k) ?_
            refine own_back (S' := T7.setTop (mkF m 156 #[.val (.int p1), .val (.int p2), .val (.int p3), .val (.int p4), .val (.int p5), .val (.int p6), .val (.int (Int32.ofNat N)), .val (.int (Int32.ofNat P)), .val (.int (Int32.ofNat SZ)), .val (.ref b1), .val (.ref b6), .val (.int (1 : Int32))] [])) (fun _ k => XS.istore X7.here hx rfl (hb hby at_154) rfl (l' := #[.val (.int p1), .val (.int p2), .val (.int p3), .val (.int p4), .val (.int p5), .val (.int p6), .val (.int (Int32.ofNat N)), .val (.int (Int32.ofNat P)), .val (.int (Int32.ofNat SZ)), .val (.ref b1), .val (.ref b6), .val (.int (1 : Int32))]) rfl k) ?_
            exact hT (by unfold own_any; omega)
          ·
            have hc131_37n : ¬ (W2 = P) := fun q => hc131_37 ((own_eqn (a := W2) (b := P) (by omega) (by omega)).mpr q)
            refine own_back (S' := T7.setTop (mkF m 134 #[.val (.int p1), .val (.int p2), .val (.int p3), .val (.int p4), .val (.int p5), .val (.int p6), .val (.int (Int32.ofNat N)), .val (.int (Int32.ofNat P)), .val (.int (Int32.ofNat SZ)), .val (.ref b1), .val (.ref b6), .unset] [])) (fun _ k => XS.icmpNo X7.here hx rfl (hb hby at_131) rfl (feq hc131_37).1 k) ?_
            refine own_back (S' := T7.setTop (mkF m 136 #[.val (.int p1), .val (.int p2), .val (.int p3), .val (.int p4), .val (.int p5), .val (.int p6), .val (.int (Int32.ofNat N)), .val (.int (Int32.ofNat P)), .val (.int (Int32.ofNat SZ)), .val (.ref b1), .val (.ref b6), .unset] [(.int (Int32.ofNat SZ))])) (fun _ k => XS.iload X7.here hx rfl (hb hby at_134) rfl k) ?_
            refine own_back (S' := T7.setTop (mkF m 137 #[.val (.int p1), .val (.int p2), .val (.int p3), .val (.int p4), .val (.int p5), .val (.int p6), .val (.int (Int32.ofNat N)), .val (.int (Int32.ofNat P)), .val (.int (Int32.ofNat SZ)), .val (.ref b1), .val (.ref b6), .unset] [(.int (3 : Int32)), (.int (Int32.ofNat SZ))])) (fun _ k => XS.iconst X7.here hx rfl (hb hby at_136)  k) ?_
            by_cases hc137_38 : (3 : Int32) < (Int32.ofNat SZ)
            ·
              have hc137_38n : 3 < SZ := (own_ltn (a := 3) (by omega) (by omega)).mp hc137_38
              refine own_back (S' := T7.setTop (mkF m 140 #[.val (.int p1), .val (.int p2), .val (.int p3), .val (.int p4), .val (.int p5), .val (.int p6), .val (.int (Int32.ofNat N)), .val (.int (Int32.ofNat P)), .val (.int (Int32.ofNat SZ)), .val (.ref b1), .val (.ref b6), .unset] [])) (fun _ k => XS.icmpNo X7.here hx rfl (hb hby at_137) rfl (tlt hc137_38).2.2.2 k) ?_
              refine own_back (S' := T7.setTop (mkF m 142 #[.val (.int p1), .val (.int p2), .val (.int p3), .val (.int p4), .val (.int p5), .val (.int p6), .val (.int (Int32.ofNat N)), .val (.int (Int32.ofNat P)), .val (.int (Int32.ofNat SZ)), .val (.ref b1), .val (.ref b6), .unset] [(.ref b1)])) (fun _ k => XS.aload X7.here hx rfl (hb hby at_140) rfl rfl k) ?_
              refine own_back (S' := T7.setTop (mkF m 143 #[.val (.int p1), .val (.int p2), .val (.int p3), .val (.int p4), .val (.int p5), .val (.int p6), .val (.int (Int32.ofNat N)), .val (.int (Int32.ofNat P)), .val (.int (Int32.ofNat SZ)), .val (.ref b1), .val (.ref b6), .unset] [(.int (3 : Int32)), (.ref b1)])) (fun _ k => XS.iconst X7.here hx rfl (hb hby at_142)  k) ?_
              refine own_back (S' := T7.setTop (mkF m 144 #[.val (.int p1), .val (.int p2), .val (.int p3), .val (.int p4), .val (.int p5), .val (.int p6), .val (.int (Int32.ofNat N)), .val (.int (Int32.ofNat P)), .val (.int (Int32.ofNat SZ)), .val (.ref b1), .val (.ref b6), .unset] [(.int (Int32.ofNat W3))])) (own_ldI X7 hx hZ e7 A_b1_7 (k := 3) (w := (Int32.ofNat W3)) (by decide) rfl (by decide) rfl (g := (mkF m 143 #[.val (.int p1), .val (.int p2), .val (.int p3), .val (.int p4), .val (.int p5), .val (.int p6), .val (.int (Int32.ofNat N)), .val (.int (Int32.ofNat P)), .val (.int (Int32.ofNat SZ)), .val (.ref b1), .val (.ref b6), .unset] [(.int (3 : Int32)), (.ref b1)])) rfl rfl (hb hby at_143)) ?_
              refine own_back (S' := T7.setTop (mkF m 146 #[.val (.int p1), .val (.int p2), .val (.int p3), .val (.int p4), .val (.int p5), .val (.int p6), .val (.int (Int32.ofNat N)), .val (.int (Int32.ofNat P)), .val (.int (Int32.ofNat SZ)), .val (.ref b1), .val (.ref b6), .unset] [(.int (Int32.ofNat P)), (.int (Int32.ofNat W3))])) (fun _ k => XS.iload X7.here hx rfl (hb hby at_144) rfl k) ?_
              by_cases hc146_39 : (Int32.ofNat W3) = (Int32.ofNat P)
              ·
                have hc146_39n : W3 = P := (own_eqn (a := W3) (b := P) (by omega) (by omega)).mp hc146_39
                refine own_back (S' := T7.setTop (mkF m 149 #[.val (.int p1), .val (.int p2), .val (.int p3), .val (.int p4), .val (.int p5), .val (.int p6), .val (.int (Int32.ofNat N)), .val (.int (Int32.ofNat P)), .val (.int (Int32.ofNat SZ)), .val (.ref b1), .val (.ref b6), .unset] [])) (fun _ k => XS.icmpNo X7.here hx rfl (hb hby at_146) rfl (teq hc146_39).2 k) ?_
                refine own_back (S' := T7.setTop (mkF m 150 #[.val (.int p1), .val (.int p2), .val (.int p3), .val (.int p4), .val (.int p5), .val (.int p6), .val (.int (Int32.ofNat N)), .val (.int (Int32.ofNat P)), .val (.int (Int32.ofNat SZ)), .val (.ref b1), .val (.ref b6), .unset] [(.int (1 : Int32))])) (fun _ k => XS.iconst X7.here hx rfl (hb hby at_149)  k) ?_
                refine own_back (S' := T7.setTop (mkF m 154 #[.val (.int p1), .val (.int p2), .val (.int p3), .val (.int p4), .val (.int p5), .val (.int p6), .val (.int (Int32.ofNat N)), .val (.int (Int32.ofNat P)), .val (.int (Int32.ofNat SZ)), .val (.ref b1), .val (.ref b6), .unset] [(.int (1 : Int32))])) (fun _ k => XS.goto X7.here hx rfl (pc0 := 150) (pc' := 154) rfl (hb hby at_150) (by decide) (by decide) k) ?_
                refine own_back (S' := T7.setTop (mkF m 156 #[.val (.int p1), .val (.int p2), .val (.int p3), .val (.int p4), .val (.int p5), .val (.int p6), .val (.int (Int32.ofNat N)), .val (.int (Int32.ofNat P)), .val (.int (Int32.ofNat SZ)), .val (.ref b1), .val (.ref b6), .val (.int (1 : Int32))] [])) (fun _ k => XS.istore X7.here hx rfl (hb hby at_154) rfl (l' := #[.val (.int p1), .val (.int p2), .val (.int p3), .val (.int p4), .val (.int p5), .val (.int p6), .val (.int (Int32.ofNat N)), .val (.int (Int32.ofNat P)), .val (.int (Int32.ofNat SZ)), .val (.ref b1), .val (.ref b6), .val (.int (1 : Int32))]) rfl k) ?_
                exact hT (by unfold own_any; omega)
              ·
                have hc146_39n : ¬ (W3 = P) := fun q => hc146_39 ((own_eqn (a := W3) (b := P) (by omega) (by omega)).mpr q)
                refine own_back (S' := T7.setTop (mkF m 153 #[.val (.int p1), .val (.int p2), .val (.int p3), .val (.int p4), .val (.int p5), .val (.int p6), .val (.int (Int32.ofNat N)), .val (.int (Int32.ofNat P)), .val (.int (Int32.ofNat SZ)), .val (.ref b1), .val (.ref b6), .unset] [])) (fun _ k => XS.icmpYes X7.here hx rfl (pc0 := 146) (pc' := 153) rfl (hb hby at_146) rfl (feq hc146_39).2 (by decide) (by decide) k) ?_
                refine own_back (S' := T7.setTop (mkF m 154 #[.val (.int p1), .val (.int p2), .val (.int p3), .val (.int p4), .val (.int p5), .val (.int p6), .val (.int (Int32.ofNat N)), .val (.int (Int32.ofNat P)), .val (.int (Int32.ofNat SZ)), .val (.ref b1), .val (.ref b6), .unset] [(.int (0 : Int32))])) (fun _ k => XS.iconst X7.here hx rfl (hb hby at_153)  k) ?_
                refine own_back (S' := T7.setTop (mkF m 156 #[.val (.int p1), .val (.int p2), .val (.int p3), .val (.int p4), .val (.int p5), .val (.int p6), .val (.int (Int32.ofNat N)), .val (.int (Int32.ofNat P)), .val (.int (Int32.ofNat SZ)), .val (.ref b1), .val (.ref b6), .val (.int (0 : Int32))] [])) (fun _ k => XS.istore X7.here hx rfl (hb hby at_154) rfl (l' := #[.val (.int p1), .val (.int p2), .val (.int p3), .val (.int p4), .val (.int p5), .val (.int p6), .val (.int (Int32.ofNat N)), .val (.int (Int32.ofNat P)), .val (.int (Int32.ofNat SZ)), .val (.ref b1), .val (.ref b6), .val (.int (0 : Int32))]) rfl k) ?_
                exact hF (by unfold own_any; omega)
            ·
              have hc137_38n : ¬ (3 < SZ) := fun q => hc137_38 ((own_ltn (a := 3) (by omega) (by omega)).mpr q)
              refine own_back (S' := T7.setTop (mkF m 153 #[.val (.int p1), .val (.int p2), .val (.int p3), .val (.int p4), .val (.int p5), .val (.int p6), .val (.int (Int32.ofNat N)), .val (.int (Int32.ofNat P)), .val (.int (Int32.ofNat SZ)), .val (.ref b1), .val (.ref b6), .unset] [])) (fun _ k => XS.icmpYes X7.here hx rfl (pc0 := 137) (pc' := 153) rfl (hb hby at_137) rfl (flt hc137_38).2.2.2 (by decide) (by decide) k) ?_
              refine own_back (S' := T7.setTop (mkF m 154 #[.val (.int p1), .val (.int p2), .val (.int p3), .val (.int p4), .val (.int p5), .val (.int p6), .val (.int (Int32.ofNat N)), .val (.int (Int32.ofNat P)), .val (.int (Int32.ofNat SZ)), .val (.ref b1), .val (.ref b6), .unset] [(.int (0 : Int32))])) (fun _ k => XS.iconst X7.here hx rfl (hb hby at_153)  k) ?_
              refine own_back (S' := T7.setTop (mkF m 156 #[.val (.int p1), .val (.int p2), .val (.int p3), .val (.int p4), .val (.int p5), .val (.int p6), .val (.int (Int32.ofNat N)), .val (.int (Int32.ofNat P)), .val (.int (Int32.ofNat SZ)), .val (.ref b1), .val (.ref b6), .val (.int (0 : Int32))] [])) (fun _ k => XS.istore X7.here hx rfl (hb hby at_154) rfl (l' := #[.val (.int p1), .val (.int p2), .val (.int p3), .val (.int p4), .val (.int p5), .val (.int p6), .val (.int (Int32.ofNat N)), .val (.int (Int32.ofNat P)), .val (.int (Int32.ofNat SZ)), .val (.ref b1), .val (.ref b6), .val (.int (0 : Int32))]) rfl k) ?_
              exact hF (by unfold own_any; omega)
        ·
          have hc122_36n : ¬ (2 < SZ) := fun q => hc122_36 ((own_ltn (a := 2) (by omega) (by omega)).mpr q)
          refine own_back (S' := T7.setTop (mkF m 134 #[.val (.int p1), .val (.int p2), .val (.int p3), .val (.int p4), .val (.int p5), .val (.int p6), .val (.int (Int32.ofNat N)), .val (.int (Int32.ofNat P)), .val (.int (Int32.ofNat SZ)), .val (.ref b1), .val (.ref b6), .unset] [])) (fun _ k => XS.icmpYes X7.here hx rfl (pc0 := 122) (pc' := 134) rfl (hb hby at_122) rfl (flt hc122_36).2.2.2 (by decide) (by decide) k) ?_
          refine own_back (S' := T7.setTop (mkF m 136 #[.val (.int p1), .val (.int p2), .val (.int p3), .val (.int p4), .val (.int p5), .val (.int p6), .val (.int (Int32.ofNat N)), .val (.int (Int32.ofNat P)), .val (.int (Int32.ofNat SZ)), .val (.ref b1), .val (.ref b6), .unset] [(.int (Int32.ofNat SZ))])) (fun _ k => XS.iload X7.here hx rfl (hb hby at_134) rfl k) ?_
          refine own_back (S' := T7.setTop (mkF m 137 #[.val (.int p1), .val (.int p2), .val (.int p3), .val (.int p4), .val (.int p5), .val (.int p6), .val (.int (Int32.ofNat N)), .val (.int (Int32.ofNat P)), .val (.int (Int32.ofNat SZ)), .val (.ref b1), .val (.ref b6), .unset] [(.int (3 : Int32)), (.int (Int32.ofNat SZ))])) (fun _ k => XS.iconst X7.here hx rfl (hb hby at_136)  k) ?_
          by_cases hc137_40 : (3 : Int32) < (Int32.ofNat SZ)
          ·
            have hc137_40n : 3 < SZ := (own_ltn (a := 3) (by omega) (by omega)).mp hc137_40
            refine own_back (S' := T7.setTop (mkF m 140 #[.val (.int p1), .val (.int p2), .val (.int p3), .val (.int p4), .val (.int p5), .val (.int p6), .val (.int (Int32.ofNat N)), .val (.int (Int32.ofNat P)), .val (.int (Int32.ofNat SZ)), .val (.ref b1), .val (.ref b6), .unset] [])) (fun _ k => XS.icmpNo X7.here hx rfl (hb hby at_137) rfl (tlt hc137_40).2.2.2 k) ?_
            refine own_back (S' := T7.setTop (mkF m 142 #[.val (.int p1), .val (.int p2), .val (.int p3), .val (.int p4), .val (.int p5), .val (.int p6), .val (.int (Int32.ofNat N)), .val (.int (Int32.ofNat P)), .val (.int (Int32.ofNat SZ)), .val (.ref b1), .val (.ref b6), .unset] [(.ref b1)])) (fun _ k => XS.aload X7.here hx rfl (hb hby at_140) rfl rfl k) ?_
            refine own_back (S' := T7.setTop (mkF m 143 #[.val (.int p1), .val (.int p2), .val (.int p3), .val (.int p4), .val (.int p5), .val (.int p6), .val (.int (Int32.ofNat N)), .val (.int (Int32.ofNat P)), .val (.int (Int32.ofNat SZ)), .val (.ref b1), .val (.ref b6), .unset] [(.int (3 : Int32)), (.ref b1)])) (fun _ k => XS.iconst X7.here hx rfl (hb hby at_142)  k) ?_
            refine own_back (S' := T7.setTop (mkF m 144 #[.val (.int p1), .val (.int p2), .val (.int p3), .val (.int p4), .val (.int p5), .val (.int p6), .val (.int (Int32.ofNat N)), .val (.int (Int32.ofNat P)), .val (.int (Int32.ofNat SZ)), .val (.ref b1), .val (.ref b6), .unset] [(.int (Int32.ofNat W3))])) (own_ldI X7 hx hZ e7 A_b1_7 (k := 3) (w := (Int32.ofNat W3)) (by decide) rfl (by decide) rfl (g := (mkF m 143 #[.val (.int p1), .val (.int p2), .val (.int p3), .val (.int p4), .val (.int p5), .val (.int p6), .val (.int (Int32.ofNat N)), .val (.int (Int32.ofNat P)), .val (.int (Int32.ofNat SZ)), .val (.ref b1), .val (.ref b6), .unset] [(.int (3 : Int32)), (.ref b1)])) rfl rfl (hb hby at_143)) ?_
            refine own_back (S' := T7.setTop (mkF m 146 #[.val (.int p1), .val (.int p2), .val (.int p3), .val (.int p4), .val (.int p5), .val (.int p6), .val (.int (Int32.ofNat N)), .val (.int (Int32.ofNat P)), .val (.int (Int32.ofNat SZ)), .val (.ref b1), .val (.ref b6), .unset] [(.int (Int32.ofNat P)), (.int (Int32.ofNat W3))])) (fun _ k => XS.iload X7.here hx rfl (hb hby at_144) rfl k) ?_
            by_cases hc146_41 : (Int32.ofNat W3) = (Int32.ofNat P)
            ·
              have hc146_41n : W3 = P := (own_eqn (a := W3) (b := P) (by omega) (by omega)).mp hc146_41
              refine own_back (S' := T7.setTop (mkF m 149 #[.val (.int p1), .val (.int p2), .val (.int p3), .val (.int p4), .val (.int p5), .val (.int p6), .val (.int (Int32.ofNat N)), .val (.int (Int32.ofNat P)), .val (.int (Int32.ofNat SZ)), .val (.ref b1), .val (.ref b6), .unset] [])) (fun _ k => XS.icmpNo X7.here hx rfl (hb hby at_146) rfl (teq hc146_41).2 k) ?_
              refine own_back (S' := T7.setTop (mkF m 150 #[.val (.int p1), .val (.int p2), .val (.int p3), .val (.int p4), .val (.int p5), .val (.int p6), .val (.int (Int32.ofNat N)), .val (.int (Int32.ofNat P)), .val (.int (Int32.ofNat SZ)), .val (.ref b1), .val (.ref b6), .unset] [(.int (1 : Int32))])) (fun _ k => XS.iconst X7.here hx rfl (hb hby at_149)  k) ?_
              refine own_back (S' := T7.setTop (mkF m 154 #[.val (.int p1), .val (.int p2), .val (.int p3), .val (.int p4), .val (.int p5), .val (.int p6), .val (.int (Int32.ofNat N)), .val (.int (Int32.ofNat P)), .val (.int (Int32.ofNat SZ)), .val (.ref b1), .val (.ref b6), .unset] [(.int (1 : Int32))])) (fun _ k => XS.goto X7.here hx rfl (pc0 := 150) (pc' := 154) rfl (hb hby at_150) (by decide) (by decide) k) ?_
              refine own_back (S' := T7.setTop (mkF m 156 #[.val (.int p1), .val (.int p2), .val (.int p3), .val (.int p4), .val (.int p5), .val (.int p6), .val (.int (Int32.ofNat N)), .val (.int (Int32.ofNat P)), .val (.int (Int32.ofNat SZ)), .val (.ref b1), .val (.ref b6), .val (.int (1 : Int32))] [])) (fun _ k => XS.istore X7.here hx rfl (hb hby at_154) rfl (l' := #[.val (.int p1), .val (.int p2), .val (.int p3), .val (.int p4), .val (.int p5), .val (.int p6), .val (.int (Int32.ofNat N)), .val (.int (Int32.ofNat P)), .val (.int (Int32.ofNat SZ)), .val (.ref b1), .val (.ref b6), .val (.int (1 : Int32))]) rfl k) ?_
              exact hT (by unfold own_any; omega)
            ·
              have hc146_41n : ¬ (W3 = P) := fun q => hc146_41 ((own_eqn (a := W3) (b := P) (by omega) (by omega)).mpr q)
              refine own_back (S' := T7.setTop (mkF m 153 #[.val (.int p1), .val (.int p2), .val (.int p3), .val (.int p4), .val (.int p5), .val (.int p6), .val (.int (Int32.ofNat N)), .val (.int (Int32.ofNat P)), .val (.int (Int32.ofNat SZ)), .val (.ref b1), .val (.ref b6), .unset] [])) (fun _ k => XS.icmpYes X7.here hx rfl (pc0 := 146) (pc' := 153) rfl (hb hby at_146) rfl (feq hc146_41).2 (by decide) (by decide) k) ?_
              refine own_back (S' := T7.setTop (mkF m 154 #[.val (.int p1), .val (.int p2), .val (.int p3), .val (.int p4), .val (.int p5), .val (.int p6), .val (.int (Int32.ofNat N)), .val (.int (Int32.ofNat P)), .val (.int (Int32.ofNat SZ)), .val (.ref b1), .val (.ref b6), .unset] [(.int (0 : Int32))])) (fun _ k => XS.iconst X7.here hx rfl (hb hby at_153)  k) ?_
              refine own_back (S' := T7.setTop (mkF m 156 #[.val (.int p1), .val (.int p2), .val (.int p3), .val (.int p4), .val (.int p5), .val (.int p6), .val (.int (Int32.ofNat N)), .val (.int (Int32.ofNat P)), .val (.int (Int32.ofNat SZ)), .val (.ref b1), .val (.ref b6), .val (.int (0 : Int32))] [])) (fun _ k => XS.istore X7.here hx rfl (hb hby at_154) rfl (l' := #[.val (.int p1), .val (.int p2), .val (.int p3), .val (.int p4), .val (.int p5), .val (.int p6), .val (.int (Int32.ofNat N)), .val (.int (Int32.ofNat P)), .val (.int (Int32.ofNat SZ)), .val (.ref b1), .val (.ref b6), .val (.int (0 : Int32))]) rfl k) ?_
              exact hF (by unfold own_any; omega)
          ·
            have hc137_40n : ¬ (3 < SZ) := fun q => hc137_40 ((own_ltn (a := 3) (by omega) (by omega)).mpr q)
            refine own_back (S' := T7.setTop (mkF m 153 #[.val (.int p1), .val (.int p2), .val (.int p3), .val (.int p4), .val (.int p5), .val (.int p6), .val (.int (Int32.ofNat N)), .val (.int (Int32.ofNat P)), .val (.int (Int32.ofNat SZ)), .val (.ref b1), .val (.ref b6), .unset] [])) (fun _ k => XS.icmpYes X7.here hx rfl (pc0 := 137) (pc' := 153) rfl (hb hby at_137) rfl (flt hc137_40).2.2.2 (by decide) (by decide) k) ?_
            refine own_back (S' := T7.setTop (mkF m 154 #[.val (.int p1), .val (.int p2), .val (.int p3), .val (.int p4), .val (.int p5), .val (.int p6), .val (.int (Int32.ofNat N)), .val (.int (Int32.ofNat P)), .val (.int (Int32.ofNat SZ)), .val (.ref b1), .val (.ref b6), .unset] [(.int (0 : Int32))])) (fun _ k => XS.iconst X7.here hx rfl (hb hby at_153)  k) ?_
            refine own_back (S' := T7.setTop (mkF m 156 #[.val (.int p1), .val (.int p2), .val (.int p3), .val (.int p4), .val (.int p5), .val (.int p6), .val (.int (Int32.ofNat N)), .val (.int (Int32.ofNat P)), .val (.int (Int32.ofNat SZ)), .val (.ref b1), .val (.ref b6), .val (.int (0 : Int32))] [])) (fun _ k => XS.istore X7.here hx rfl (hb hby at_154) rfl (l' := #[.val (.int p1), .val (.int p2), .val (.int p3), .val (.int p4), .val (.int p5), .val (.int p6), .val (.int (Int32.ofNat N)), .val (.int (Int32.ofNat P)), .val (.int (Int32.ofNat SZ)), .val (.ref b1), .val (.ref b6), .val (.int (0 : Int32))]) rfl k) ?_
            exact hF (by unfold own_any; omega)
set_option maxRecDepth 65536 in
set_option maxHeartbeats 40000000 in
theorem comes_1 {Post : Tables → Env → Array Value → State → Outcome → State → Prop} (hpost : ∀ tb e args s v u, (limb_1_1.after args s (.returned v) u = true ∧ limb_1_2.after args s (.returned v) u = true ∧ True) → FrameEnd s (.returned v) u (Jvm.fieldLocs frame_1_writes args s ++ Jvm.arrayLocs frame_1_arrays args s ++ Jvm.staticLocs frame_1_statics s) 24 128 → Post tb e args s (.returned v) u) :
    ArmFor flags0 classFile x code maxLocals ret World_1 tables_1 room_1 Calls_1 rest_1 Pre_1 Post := by
  intro l hfl _ _ p e ha hc hk s m args below hf hA hF happ hP
  obtain ⟨hcalls, hrest, hpre⟩ := hP
  obtain ⟨-, -, -, hnamed, -, -, -, hat⟩ := (Spec.applies_iff hf).mp happ
  obtain ⟨hg, hn⟩ := and_e (Cond.before_iff.mp (show (Jvm.Cond.and given_1 narrow_1).before args s = true from hpre))
  obtain ⟨g1, g2⟩ := and_e hg
  obtain ⟨g3, g4⟩ := and_e g2
  obtain ⟨g5, g6⟩ := and_e g4
  obtain ⟨g7, g8⟩ := and_e g6
  obtain ⟨g9, g10⟩ := and_e g8
  obtain ⟨g11, g12⟩ := and_e g10
  obtain ⟨w0, w1, w2, w3, w4, w5, rfl⟩ : ∃ w0 w1 w2 w3 w4 w5 : Value, args = #[w0, w1, w2, w3, w4, w5] := by
    have hs : args.size = 6 := by simpa [Cond.value, given_1] using g1
    obtain ⟨L⟩ := args
    match L, hs with
    | [w0, w1, w2, w3, w4, w5], _ => exact ⟨w0, w1, w2, w3, w4, w5, rfl⟩
  have hw := fun d (hd : d ∈ tables_1) => atoms_spec (ws := Jvm.Cond.code x code maxLocals ret :: tables_1) hat d (List.mem_cons_of_mem _ hd)
  have hfit : Fit s := fun {y c} hc i hi => by
    obtain ⟨ha, rfl⟩ := Array.getElem?_eq_some_iff.mp hc
    have q := List.all_eq_true.mp ((Array.all_eq_true_iff_forall_mem.mp hF) _ (Array.getElem_mem ha)) i (List.mem_range.mpr hi)
    simpa [Array.getElem?_eq_getElem hi] using q
  obtain ⟨i0, ei0⟩ := is_v g3
  obtain rfl : w0 = (.int i0) := Option.some.inj ei0
  obtain ⟨i1, ei1⟩ := is_v g5
  obtain rfl : w1 = (.int i1) := Option.some.inj ei1
  obtain ⟨i2, ei2⟩ := is_v g7
  obtain rfl : w2 = (.int i2) := Option.some.inj ei2
  obtain ⟨i3, ei3⟩ := is_v g9
  obtain rfl : w3 = (.int i3) := Option.some.inj ei3
  obtain ⟨i4, ei4⟩ := is_v g11
  obtain rfl : w4 = (.int i4) := Option.some.inj ei4
  obtain ⟨i5, ei5⟩ := is_v g12
  obtain rfl : w5 = (.int i5) := Option.some.inj ei5
  obtain ⟨n, o, h1, h2, h3, _, L, rfl, ⟨rfl, N⟩, hq⟩ := rm0 l s _ hw tables_1 i0 i1 i2 i3 i4 i5 s.heap s.heap.size (Nat.le_refl _) p e ha hc hk s m _ below hf ((Spec.applies_iff_loose hf).mp happ).1 ⟨rfl, State.Warmed39.refl s, rfl⟩ trivial
  refine ⟨n, _, h1, h2, h3, hpost _ _ _ _ _ _ ⟨Cond.after_iff.mpr rfl, Cond.after_iff.mpr (eq_i res_at (Term.int_eval (1)) rfl), trivial⟩ ⟨hq.1, hq.2.1, (hq.2.2.sift fun y hy => Or.inr (N y hy)).mono (by decide) (by decide)⟩⟩
theorem main_1_1 : Claimed_1_1 := comes_1 fun _ _ _ _ _ _ h hF => ⟨h.1, hF⟩
theorem main_1_2 : Claimed_1_2 := comes_1 fun _ _ _ _ _ _ h hF => ⟨h.2.1, hF⟩
end Jvm.Pilot.@@N@@
namespace Jvm.Pilot.@@N@@
open Jvm Jvm.ClassFile Sem Op Lib Jvm.Free Jvm.Stand Jvm.Pilot.@@N@@.Jvm.D
/-! MADE BY PROGRAM (witnessworld.py) out of the Statement's table words and the real class files: 12 classes; the members and pool entries that the words name. The judged class is class 1, her method 1. -/
namespace start1
open Jvm.ClassFile
def u (s : String) : CpInfo := .utf8 (stringToUtf16 s)
/-- a pool by its gaps: so many unusable entries, then the entry; so many at the end -/
def gap : Nat → List CpInfo → List CpInfo
  | 0, r => r
  | n + 1, r => .unusable :: gap n r
def poolList (es : List (Nat × CpInfo)) (last : Nat) : List CpInfo := es.foldr (fun e r => gap e.1 (e.2 :: r)) (gap last [])
def pool (es : List (Nat × CpInfo)) (last : Nat) : Array CpInfo := ⟨poolList es last⟩
def fileOf (pool : Array CpInfo) (this : Nat) (attrs : Array Attribute := #[]) (ms : Array MethodInfo := #[]) (fl : Nat := 33) (sup : Nat := 0) (ifs : Array Nat := #[]) (fds : Array FieldInfo := #[]) : ClassFile where
  minorVersion := 0
  majorVersion := 65
  constantPool := pool
  accessFlags := fl
  thisClass := this
  superClass := sup
  interfaces := ifs
  fields := fds
  methods := ms
  attributes := attrs
def plain (name : String) (sup : Option ClassId) : Class where
  name := name
  kind := .ordinary
  loader := none
  accessFlags := 33
  super := sup
  interfaces := #[]
  cf := none
  fields := #[]
  methods := #[]
  instanceTypes := #[]
  staticTypes := #[]
  resolved := #[]
  callSites := []
  init := .initialized
  statics := none
  mirror := none

def pool0 : Array CpInfo := pool [(5, u "<init>"), (0, u "()V"), (1, .class_ 10), (1, u "java/lang/Object")] 113

def k0c0 : Code := { maxStack := 0, maxLocals := 1, code := object_method_1_code, exceptionTable := #[], attributes := #[] }
def k0m0 : Method := { name := "<init>", desc := "()V", sig := { parameters := [], returnType := none }, accessFlags := 1, code := some k0c0 }
/-- java/lang/Object -/
def k0 : Class := { plain "java/lang/Object" none with
  accessFlags := 33
  interfaces := #[]
  cf := some (fileOf pool0 8 #[] #[{ accessFlags := 1, nameIndex := 5, descriptorIndex := 6, attributes := #[] }] 33 0 #[] #[])
  fields := #[]
  methods := #[k0m0]
  instanceTypes := #[]
  staticTypes := #[]
  resolved := Array.replicate 124 none
  statics := none }

def pool1 : Array CpInfo := pool [(2, .class_ 4), (1, u "java/lang/Object"), (0, u "<init>"), (0, u "()V"), (0, .integer 2147483647), (0, .class_ 9), (0, u "com/example/plankeeper/plankeeper/inputs/ParticipantRanges"), (0, .methodref 8 11), (0, .nameAndType 5 12), (0, u "([III)V"), (0, .methodref 8 14), (0, .nameAndType 15 16), (0, u "holds"), (0, u "(I)Z"), (0, .class_ 18), (0, u "com/example/plankeeper/plankeeper/inputs/ParticipantRangesHoldsPinLaw"), (2, u "law"), (0, u "(IIIIII)Z")] 5

def k1m0 : Method := { name := "<init>", desc := "()V", sig := { parameters := [], returnType := none }, accessFlags := 1, code := none }
def k1c1 : Code := { maxStack := 5, maxLocals := 12, code := code, exceptionTable := #[], attributes := #[] }
def k1m1 : Method := { name := "law", desc := "(IIIIII)Z", sig := { parameters := [.int, .int, .int, .int, .int, .int], returnType := some .boolean }, accessFlags := 9, code := some k1c1 }
/-- com/example/plankeeper/plankeeper/inputs/ParticipantRangesHoldsPinLaw -/
def k1 : Class := { plain "com/example/plankeeper/plankeeper/inputs/ParticipantRangesHoldsPinLaw" (some 0) with
  accessFlags := 49
  interfaces := #[]
  cf := some (fileOf pool1 17 #[] #[{ accessFlags := 1, nameIndex := 5, descriptorIndex := 6, attributes := #[] }, { accessFlags := 9, nameIndex := 21, descriptorIndex := 22, attributes := #[] }] 49 2 #[] #[])
  fields := #[]
  methods := #[k1m0, k1m1]
  instanceTypes := #[]
  staticTypes := #[]
  resolved := Array.replicate 28 none
  statics := none }

def pool2 : Array CpInfo := pool [(1, .methodref 2 3), (0, .class_ 4), (0, .nameAndType 5 6), (0, u "java/lang/Object"), (0, u "<init>"), (0, u "()V"), (0, .fieldref 8 9), (0, .class_ 10), (0, .nameAndType 11 12), (0, u "com/example/plankeeper/plankeeper/inputs/ParticipantRanges"), (0, u "firsts"), (0, u "[I"), (0, .fieldref 8 14), (0, .nameAndType 15 12), (0, u "order"), (0, .methodref 17 18), (0, .class_ 19), (0, .nameAndType 20 21), (0, u "java/util/Arrays"), (0, u "copyOf"), (0, u "([II)[I"), (46, u "([III)V"), (7, u "holds"), (0, u "(I)Z")] 34

def k2c0 : Code := { maxStack := 6, maxLocals := 6, code := prog_38_method_1_code, exceptionTable := #[], attributes := #[] }
def k2m0 : Method := { name := "<init>", desc := "([III)V", sig := { parameters := [(.array .int), .int, .int], returnType := none }, accessFlags := 0, code := some k2c0 }
def k2c1 : Code := { maxStack := 4, maxLocals := 2, code := prog_38_method_4_code, exceptionTable := #[], attributes := #[] }
def k2m1 : Method := { name := "holds", desc := "(I)Z", sig := { parameters := [.int], returnType := some .boolean }, accessFlags := 0, code := some k2c1 }
/-- com/example/plankeeper/plankeeper/inputs/ParticipantRanges -/
def k2 : Class := { plain "com/example/plankeeper/plankeeper/inputs/ParticipantRanges" (some 0) with
  accessFlags := 32
  interfaces := #[]
  cf := some (fileOf pool2 8 #[] #[{ accessFlags := 0, nameIndex := 5, descriptorIndex := 68, attributes := #[] }, { accessFlags := 0, nameIndex := 76, descriptorIndex := 77, attributes := #[] }] 32 2 #[] #[{ accessFlags := 18, nameIndex := 15, descriptorIndex := 12, attributes := #[] }, { accessFlags := 18, nameIndex := 11, descriptorIndex := 12, attributes := #[] }])
  fields := #[{ name := "order", type := (.array .int), accessFlags := 18, slot := 0, constantValue := 0 }, { name := "firsts", type := (.array .int), accessFlags := 18, slot := 1, constantValue := 0 }]
  methods := #[k2m0, k2m1]
  instanceTypes := #[(.array .int), (.array .int)]
  staticTypes := #[]
  resolved := Array.replicate 112 none
  statics := none }

def pool3 : Array CpInfo := pool [(2, .class_ 4), (1, u "java/lang/Object"), (0, u "<init>"), (0, u "()V"), (7, .class_ 16), (1, u "java/util/Arrays"), (57, .class_ 76), (1, u "java/util/Arrays$NaturalOrder"), (36, .class_ 115), (1, u "java/util/Arrays$LegacyMergeSort"), (1, u "Z"), (32, .methodref 151 152), (0, .class_ 153), (0, .nameAndType 154 155), (0, u "java/lang/System"), (0, u "arraycopy"), (0, u "(Ljava/lang/Object;ILjava/lang/Object;II)V"), (146, u "copyOf"), (1, .methodref 305 306), (0, .class_ 307), (0, .nameAndType 308 309), (0, u "java/lang/Math"), (0, u "min"), (0, u "(II)I"), (65, .class_ 376), (0, u "java/util/Arrays$ArrayList"), (68, u "$assertionsDisabled"), (269, u "MIN_ARRAY_SORT_GRAN"), (0, u "I"), (2, u "INSERTIONSORT_THRESHOLD"), (151, u "([II)[I"), (103, .class_ 976), (0, u "java/util/Arrays$ArrayItr")] 52

def k3m0 : Method := { name := "<init>", desc := "()V", sig := { parameters := [], returnType := none }, accessFlags := 2, code := none }
def k3c1 : Code := { maxStack := 6, maxLocals := 3, code := jdk_65_method_123_code, exceptionTable := #[], attributes := #[] }
def k3m1 : Method := { name := "copyOf", desc := "([II)[I", sig := { parameters := [(.array .int), .int], returnType := some (.array .int) }, accessFlags := 9, code := some k3c1 }
/-- java/util/Arrays -/
def k3 : Class := { plain "java/util/Arrays" (some 0) with
  accessFlags := 49
  interfaces := #[]
  cf := some (fileOf pool3 14 #[.nestMembers #[975, 375, 113, 74]] #[{ accessFlags := 2, nameIndex := 5, descriptorIndex := 6, attributes := #[] }, { accessFlags := 9, nameIndex := 302, descriptorIndex := 871, attributes := #[] }] 49 2 #[] #[{ accessFlags := 26, nameIndex := 715, descriptorIndex := 716, attributes := #[] }, { accessFlags := 26, nameIndex := 719, descriptorIndex := 716, attributes := #[] }, { accessFlags := 4120, nameIndex := 445, descriptorIndex := 117, attributes := #[] }])
  fields := #[{ name := "MIN_ARRAY_SORT_GRAN", type := .int, accessFlags := 26, slot := 0, constantValue := 0 }, { name := "INSERTIONSORT_THRESHOLD", type := .int, accessFlags := 26, slot := 1, constantValue := 0 }, { name := "$assertionsDisabled", type := .boolean, accessFlags := 4120, slot := 2, constantValue := 0 }]
  methods := #[k3m0, k3m1]
  instanceTypes := #[]
  staticTypes := #[.int, .int, .boolean]
  resolved := Array.replicate 1029 none
  statics := none }

def pool4 : Array CpInfo := pool [(1, .class_ 2), (0, u "java/lang/Math"), (1, .class_ 6), (1, u "java/lang/Object"), (0, u "<init>"), (0, u "()V"), (89, .class_ 100), (1, u "java/lang/Math$RandomNumberGeneratorHolder"), (71, u "negativeZeroFloatBits"), (0, u "J"), (2, u "negativeZeroDoubleBits"), (24, u "min"), (43, u "$assertionsDisabled"), (0, u "Z"), (88, u "(II)I"), (2, u "twoToTheDoubleScaleDown"), (0, u "D"), (4, u "twoToTheDoubleScaleUp"), (9, u "E"), (3, u "PI"), (2, u "TAU"), (2, u "DEGREES_TO_RADIANS"), (0, u "RADIANS_TO_DEGREES")] 94

def k4m0 : Method := { name := "<init>", desc := "()V", sig := { parameters := [], returnType := none }, accessFlags := 2, code := none }
def k4c1 : Code := { maxStack := 2, maxLocals := 2, code := jdk_29_method_69_code, exceptionTable := #[], attributes := #[] }
def k4m1 : Method := { name := "min", desc := "(II)I", sig := { parameters := [.int, .int], returnType := some .int }, accessFlags := 9, code := some k4c1 }
/-- java/lang/Math -/
def k4 : Class := { plain "java/lang/Math" (some 0) with
  accessFlags := 49
  interfaces := #[]
  cf := some (fileOf pool4 1 #[.nestMembers #[98]] #[{ accessFlags := 2, nameIndex := 7, descriptorIndex := 8, attributes := #[] }, { accessFlags := 9, nameIndex := 201, descriptorIndex := 335, attributes := #[] }] 49 4 #[] #[{ accessFlags := 25, nameIndex := 354, descriptorIndex := 339, attributes := #[] }, { accessFlags := 25, nameIndex := 358, descriptorIndex := 339, attributes := #[] }, { accessFlags := 25, nameIndex := 361, descriptorIndex := 339, attributes := #[] }, { accessFlags := 26, nameIndex := 364, descriptorIndex := 339, attributes := #[] }, { accessFlags := 26, nameIndex := 365, descriptorIndex := 339, attributes := #[] }, { accessFlags := 26, nameIndex := 172, descriptorIndex := 173, attributes := #[] }, { accessFlags := 26, nameIndex := 176, descriptorIndex := 173, attributes := #[] }, { accessFlags := 8, nameIndex := 344, descriptorIndex := 339, attributes := #[] }, { accessFlags := 8, nameIndex := 338, descriptorIndex := 339, attributes := #[] }, { accessFlags := 4120, nameIndex := 245, descriptorIndex := 246, attributes := #[] }])
  fields := #[{ name := "E", type := .double, accessFlags := 25, slot := 0, constantValue := 0 }, { name := "PI", type := .double, accessFlags := 25, slot := 1, constantValue := 0 }, { name := "TAU", type := .double, accessFlags := 25, slot := 2, constantValue := 0 }, { name := "DEGREES_TO_RADIANS", type := .double, accessFlags := 26, slot := 3, constantValue := 0 }, { name := "RADIANS_TO_DEGREES", type := .double, accessFlags := 26, slot := 4, constantValue := 0 }, { name := "negativeZeroFloatBits", type := .long, accessFlags := 26, slot := 5, constantValue := 0 }, { name := "negativeZeroDoubleBits", type := .long, accessFlags := 26, slot := 6, constantValue := 0 }, { name := "twoToTheDoubleScaleUp", type := .double, accessFlags := 8, slot := 7, constantValue := 0 }, { name := "twoToTheDoubleScaleDown", type := .double, accessFlags := 8, slot := 8, constantValue := 0 }, { name := "$assertionsDisabled", type := .boolean, accessFlags := 4120, slot := 9, constantValue := 0 }]
  methods := #[k4m0, k4m1]
  instanceTypes := #[]
  staticTypes := #[.double, .double, .double, .double, .double, .long, .long, .double, .double, .boolean]
  resolved := Array.replicate 460 none
  statics := none }

def pool5 : Array CpInfo := pool [(2, .class_ 4), (1, u "java/lang/Object"), (0, u "<init>"), (0, u "()V"), (1, .class_ 10), (1, u "java/lang/System"), (0, u "allowSecurityManager"), (0, u "I"), (16, u "cons"), (0, u "Ljava/io/Console;"), (77, .class_ 110), (1, u "java/lang/System$CallersHolder"), (43, u "initialErrStream"), (0, u "Ljava/io/PrintStream;"), (19, u "security"), (0, u "Ljava/lang/SecurityManager;"), (31, .class_ 209), (0, u "java/lang/System$1"), (7, u "props"), (0, u "Ljava/util/Properties;"), (2, u "lineSeparator"), (0, u "Ljava/lang/String;"), (96, .class_ 321), (1, u "java/lang/System$LoggerFinder"), (5, .class_ 328), (0, u "java/lang/System$Logger"), (67, u "err"), (2, u "out"), (91, u "notSupportedJnuEncoding"), (15, u "in"), (17, u "initialIn"), (0, u "Ljava/io/InputStream;"), (35, u "bootLayer"), (0, u "Ljava/lang/ModuleLayer;"), (99, .class_ 664), (0, u "java/lang/System$2"), (9, u "NEVER"), (2, u "MAYBE"), (49, u "arraycopy"), (0, u "(Ljava/lang/Object;ILjava/lang/Object;II)V"), (72, .class_ 802), (0, u "java/lang/System$Logger$Level")] 31

def k5m0 : Method := { name := "<init>", desc := "()V", sig := { parameters := [], returnType := none }, accessFlags := 2, code := none }
def k5m1 : Method := { name := "arraycopy", desc := "(Ljava/lang/Object;ILjava/lang/Object;II)V", sig := { parameters := [(.object "java/lang/Object"), .int, (.object "java/lang/Object"), .int, .int], returnType := none }, accessFlags := 265, code := none }
/-- java/lang/System -/
def k5 : Class := { plain "java/lang/System" (some 0) with
  accessFlags := 49
  interfaces := #[]
  cf := some (fileOf pool5 8 #[.nestMembers #[319, 327, 801, 108, 663, 208]] #[{ accessFlags := 2, nameIndex := 5, descriptorIndex := 6, attributes := #[] }, { accessFlags := 265, nameIndex := 727, descriptorIndex := 728, attributes := #[] }] 49 2 #[] #[{ accessFlags := 25, nameIndex := 507, descriptorIndex := 526, attributes := #[] }, { accessFlags := 25, nameIndex := 399, descriptorIndex := 155, attributes := #[] }, { accessFlags := 25, nameIndex := 396, descriptorIndex := 155, attributes := #[] }, { accessFlags := 10, nameIndex := 525, descriptorIndex := 526, attributes := #[] }, { accessFlags := 26, nameIndex := 674, descriptorIndex := 12, attributes := #[] }, { accessFlags := 26, nameIndex := 677, descriptorIndex := 12, attributes := #[] }, { accessFlags := 10, nameIndex := 11, descriptorIndex := 12, attributes := #[] }, { accessFlags := 74, nameIndex := 175, descriptorIndex := 176, attributes := #[] }, { accessFlags := 10, nameIndex := 491, descriptorIndex := 222, attributes := #[] }, { accessFlags := 74, nameIndex := 29, descriptorIndex := 30, attributes := #[] }, { accessFlags := 74, nameIndex := 154, descriptorIndex := 155, attributes := #[] }, { accessFlags := 10, nameIndex := 217, descriptorIndex := 218, attributes := #[] }, { accessFlags := 10, nameIndex := 221, descriptorIndex := 222, attributes := #[] }, { accessFlags := 8, nameIndex := 562, descriptorIndex := 563, attributes := #[] }])
  fields := #[{ name := "in", type := (.object "java/io/InputStream"), accessFlags := 25, slot := 0, constantValue := 0 }, { name := "out", type := (.object "java/io/PrintStream"), accessFlags := 25, slot := 1, constantValue := 0 }, { name := "err", type := (.object "java/io/PrintStream"), accessFlags := 25, slot := 2, constantValue := 0 }, { name := "initialIn", type := (.object "java/io/InputStream"), accessFlags := 10, slot := 3, constantValue := 0 }, { name := "NEVER", type := .int, accessFlags := 26, slot := 4, constantValue := 0 }, { name := "MAYBE", type := .int, accessFlags := 26, slot := 5, constantValue := 0 }, { name := "allowSecurityManager", type := .int, accessFlags := 10, slot := 6, constantValue := 0 }, { name := "security", type := (.object "java/lang/SecurityManager"), accessFlags := 74, slot := 7, constantValue := 0 }, { name := "notSupportedJnuEncoding", type := (.object "java/lang/String"), accessFlags := 10, slot := 8, constantValue := 0 }, { name := "cons", type := (.object "java/io/Console"), accessFlags := 74, slot := 9, constantValue := 0 }, { name := "initialErrStream", type := (.object "java/io/PrintStream"), accessFlags := 74, slot := 10, constantValue := 0 }, { name := "props", type := (.object "java/util/Properties"), accessFlags := 10, slot := 11, constantValue := 0 }, { name := "lineSeparator", type := (.object "java/lang/String"), accessFlags := 10, slot := 12, constantValue := 0 }, { name := "bootLayer", type := (.object "java/lang/ModuleLayer"), accessFlags := 8, slot := 13, constantValue := 0 }]
  methods := #[k5m0, k5m1]
  instanceTypes := #[]
  staticTypes := #[(.object "java/io/InputStream"), (.object "java/io/PrintStream"), (.object "java/io/PrintStream"), (.object "java/io/InputStream"), .int, .int, .int, (.object "java/lang/SecurityManager"), (.object "java/lang/String"), (.object "java/io/Console"), (.object "java/io/PrintStream"), (.object "java/util/Properties"), (.object "java/lang/String"), (.object "java/lang/ModuleLayer")]
  resolved := Array.replicate 834 none
  statics := none }

def pool6 : Array CpInfo := pool [(1, u "java/lang/Cloneable"), (0, .class_ 1), (0, u "java/lang/Object"), (0, .class_ 3)] 3

/-- java/lang/Cloneable -/
def k6 : Class := { plain "java/lang/Cloneable" (some 0) with
  accessFlags := 1537
  interfaces := #[]
  cf := some (fileOf pool6 2 #[] #[] 1537 4 #[] #[])
  fields := #[]
  methods := #[]
  instanceTypes := #[]
  staticTypes := #[]
  resolved := Array.replicate 8 none
  statics := none }

def pool7 : Array CpInfo := pool [(1, u "java/io/Serializable"), (0, .class_ 1), (0, u "java/lang/Object"), (0, .class_ 3)] 3

/-- java/io/Serializable -/
def k7 : Class := { plain "java/io/Serializable" (some 0) with
  accessFlags := 1537
  interfaces := #[]
  cf := some (fileOf pool7 2 #[] #[] 1537 4 #[] #[])
  fields := #[]
  methods := #[]
  instanceTypes := #[]
  staticTypes := #[]
  resolved := Array.replicate 8 none
  statics := none }

/-- the primitive byte -/
def k8 : Class := { plain "byte" none with kind := .primitive 'B', accessFlags := 0x411 }
/-- [B -/
def k9 : Class := { plain "[B" (some 0) with kind := .array 8 .byte, interfaces := #[6, 7], accessFlags := 1041 }

/-- the primitive int -/
def k10 : Class := { plain "int" none with kind := .primitive 'I', accessFlags := 0x411 }
/-- [I -/
def k11 : Class := { plain "[I" (some 0) with kind := .array 10 .int, interfaces := #[6, 7], accessFlags := 1041 }

def heap : Heap := #[]
def classes : Array Class := #[k0, k1, k2, k3, k4, k5, k6, k7, k8, k9, k10, k11]
def interned : List (Array UInt16 × Addr) := []
def slotsUsed : Nat := 0
def theMethod : MethodId := ⟨1, 1⟩
def args0 : Array Value := #[.int 5, .int 7, .int 8, .int 0, .int 3, .int 6]
def aboutOver (below : List Frame) : State where
  vm := { classes := classes, interned := interned.toArray }
  heap := heap
  slotsUsed := slotsUsed
  threads := #[{ frames := .invoking theMethod args0 :: below }]
def below0 : List Frame := [.native { method := ⟨0, 0⟩, args := #[] }]
def about1 : State := aboutOver below0
def p0 : Program := .bare "" "" ""
def e0 : Env := launch0.env 0 0 0
theorem w_frames : about1.frames = Frame.invoking theMethod args0 :: below0 := rfl
set_option maxRecDepth 65536 in
theorem w_args : argsFit about1.vm theMethod args0 = true := by decide +kernel
set_option maxRecDepth 65536 in
theorem w_heap : heapFits about1 = true := by decide +kernel
set_option maxRecDepth 65536 in
theorem w_runnable : about1.curStatus? = some .runnable := by decide +kernel
set_option maxRecDepth 65536 in
theorem w_alone : about1.alone = true := by decide +kernel
set_option maxRecDepth 65536 in
theorem w_named : about1.methodNamed? x = some theMethod := by decide +kernel
set_option maxRecDepth 65536 in
theorem w_hears : about1.hears theMethod below0 = true := by decide +kernel
set_option maxRecDepth 65536 in
theorem w_ripe : about1.ripe theMethod args0 below0 = true := by decide +kernel
theorem w_running : about1.status = .running := rfl
set_option maxRecDepth 65536 in
theorem w_room : about1.hasRoom e0.platform room_1 = true :=
  launch0.hasRoom_least _ room_1 (by decide +kernel) (by decide +kernel) (by decide +kernel) (by decide +kernel) (by decide +kernel) (by decide +kernel)
theorem allAtoms_all (ts : List Jvm.Cond) (a : Array Jvm.Value) (st : Jvm.State) : (allAtoms ts).before a st = ts.all (fun c => c.before a st) := by
  induction ts with
  | nil => rfl
  | cons c t ih =>
    show (Jvm.Cond.and c (allAtoms t)).before a st = _
    rw [Jvm.Cond.before_and, ih, List.all_cons]
def words1 : List Jvm.Cond := Jvm.Cond.code x code maxLocals ret :: tables_1
/-- a 'code' word, met by the world's own term for the bytes: nothing is compared byte by byte -/
theorem code_word {y : MethodName} {bytes : ByteArray} {mx : Nat} {rt : Option FieldType} {a : Array Value} {s : State} {m : MethodId} {meth : Method} {c : Code} (h1 : s.methodNamed? y = some m) (h2 : s.vm.method? m = some meth) (h3 : meth.code = some c) (h4 : c.code = bytes)
    (h5 : (c.maxLocals == mx && c.exceptionTable.isEmpty && decide (c.maxStack ≤ mostOperands) && decide (meth.sig.returnType = rt) && !meth.locks && decide (parseMethodDescriptor y.desc = some meth.sig)) = true) : (Jvm.Cond.code y bytes mx rt).before a s = true := by
  simp only [Bool.and_eq_true, beq_iff_eq, Bool.not_eq_true', decide_eq_true_eq] at h5
  obtain ⟨⟨⟨⟨⟨g1, g2⟩, g3⟩, g4⟩, g5⟩, g6⟩ := h5
  simp [Cond.before, Cond.holds, Cond.value, h1, h2, h3, h4, g1, g2, g3, g4, g5, g6]
def isCode : Jvm.Cond → Bool
  | .code _ _ _ _ => true
  | _ => false
theorem all_split {L : List Jvm.Cond} {P : Jvm.Cond → Bool} (h1 : L.all (fun c => isCode c || P c) = true) (h2 : ∀ c ∈ L.filter isCode, P c = true) : L.all P = true := by
  refine List.all_eq_true.mpr fun c hc => ?_
  have h := List.all_eq_true.mp h1 c hc
  rcases Bool.eq_false_or_eq_true (isCode c) with hi | hi
  · exact h2 c (List.mem_filter.mpr ⟨hc, hi⟩)
  · simpa [hi] using h
set_option maxRecDepth 65536 in
theorem w_c0 : (Jvm.Cond.code x code maxLocals ret).before args0 about1 = true := code_word (m := ⟨1, 1⟩) (meth := k1m1) (c := k1c1) (by decide +kernel) rfl rfl rfl (by decide +kernel)
set_option maxRecDepth 65536 in
theorem w_c1 : (Jvm.Cond.code ({ cls := "com/example/plankeeper/plankeeper/inputs/ParticipantRanges", name := "<init>", desc := "([III)V" } : Jvm.MethodName) prog_38_method_1_code (6 : Nat) (Option.none : Option Jvm.ClassFile.FieldType)).before args0 about1 = true := code_word (m := ⟨2, 0⟩) (meth := k2m0) (c := k2c0) (by decide +kernel) rfl rfl rfl (by decide +kernel)
set_option maxRecDepth 65536 in
theorem w_c2 : (Jvm.Cond.code ({ cls := "java/lang/Object", name := "<init>", desc := "()V" } : Jvm.MethodName) object_method_1_code (1 : Nat) (Option.none : Option Jvm.ClassFile.FieldType)).before args0 about1 = true := code_word (m := ⟨0, 0⟩) (meth := k0m0) (c := k0c0) (by decide +kernel) rfl rfl rfl (by decide +kernel)
set_option maxRecDepth 65536 in
theorem w_c3 : (Jvm.Cond.code ({ cls := "java/util/Arrays", name := "copyOf", desc := "([II)[I" } : Jvm.MethodName) jdk_65_method_123_code (3 : Nat) (Option.some (Jvm.ClassFile.FieldType.array Jvm.ClassFile.FieldType.int))).before args0 about1 = true := code_word (m := ⟨3, 1⟩) (meth := k3m1) (c := k3c1) (by decide +kernel) rfl rfl rfl (by decide +kernel)
set_option maxRecDepth 65536 in
theorem w_c4 : (Jvm.Cond.code ({ cls := "java/lang/Math", name := "min", desc := "(II)I" } : Jvm.MethodName) jdk_29_method_69_code (2 : Nat) (Option.some Jvm.ClassFile.FieldType.int)).before args0 about1 = true := code_word (m := ⟨4, 1⟩) (meth := k4m1) (c := k4c1) (by decide +kernel) rfl rfl rfl (by decide +kernel)
set_option maxRecDepth 65536 in
theorem w_c5 : (Jvm.Cond.code ({ cls := "com/example/plankeeper/plankeeper/inputs/ParticipantRanges", name := "holds", desc := "(I)Z" } : Jvm.MethodName) prog_38_method_4_code (2 : Nat) (Option.some Jvm.ClassFile.FieldType.boolean)).before args0 about1 = true := code_word (m := ⟨2, 1⟩) (meth := k2m1) (c := k2c1) (by decide +kernel) rfl rfl rfl (by decide +kernel)
def codes1 : List Jvm.Cond := [Jvm.Cond.code x code maxLocals ret, Jvm.Cond.code ({ cls := "com/example/plankeeper/plankeeper/inputs/ParticipantRanges", name := "<init>", desc := "([III)V" } : Jvm.MethodName) prog_38_method_1_code (6 : Nat) (Option.none : Option Jvm.ClassFile.FieldType), Jvm.Cond.code ({ cls := "java/lang/Object", name := "<init>", desc := "()V" } : Jvm.MethodName) object_method_1_code (1 : Nat) (Option.none : Option Jvm.ClassFile.FieldType), Jvm.Cond.code ({ cls := "java/util/Arrays", name := "copyOf", desc := "([II)[I" } : Jvm.MethodName) jdk_65_method_123_code (3 : Nat) (Option.some (Jvm.ClassFile.FieldType.array Jvm.ClassFile.FieldType.int)), Jvm.Cond.code ({ cls := "java/lang/Math", name := "min", desc := "(II)I" } : Jvm.MethodName) jdk_29_method_69_code (2 : Nat) (Option.some Jvm.ClassFile.FieldType.int), Jvm.Cond.code ({ cls := "com/example/plankeeper/plankeeper/inputs/ParticipantRanges", name := "holds", desc := "(I)Z" } : Jvm.MethodName) prog_38_method_4_code (2 : Nat) (Option.some Jvm.ClassFile.FieldType.boolean)]
set_option maxRecDepth 65536 in
theorem codes_eq : words1.filter isCode = codes1 := rfl
theorem w_codes : ∀ c ∈ words1.filter isCode, c.before args0 about1 = true := by
  rw [codes_eq]
  intro c hc
  simp only [codes1, List.mem_cons, List.not_mem_nil, or_false] at hc
  rcases hc with rfl | rfl | rfl | rfl | rfl | rfl
  · exact w_c0
  · exact w_c1
  · exact w_c2
  · exact w_c3
  · exact w_c4
  · exact w_c5
set_option maxRecDepth 65536 in
theorem w_t1 : (words1.take 24).all (fun c => isCode c || c.before args0 about1) = true := by decide +kernel
set_option maxRecDepth 65536 in
theorem w_t2 : (words1.drop 24).all (fun c => isCode c || c.before args0 about1) = true := by decide +kernel
theorem w_tables : (allAtoms (Jvm.Cond.code x code maxLocals ret :: tables_1)).before args0 about1 = true := by
  rw [allAtoms_all]
  show words1.all (fun c => c.before args0 about1) = true
  refine all_split ?_ w_codes
  rw [← List.take_append_drop 24 words1, List.all_append, w_t1, w_t2]
  rfl
set_option maxRecDepth 65536 in
theorem w_case : (Jvm.Cond.and given_1 narrow_1).before args0 about1 = true := by decide +kernel
theorem w_applies : (headSpec (Jvm.Cond.code x code maxLocals ret :: tables_1) room_1).applies x e0.platform about1 = true :=
  (Spec.applies_iff w_frames).mpr ⟨w_running, w_runnable, w_alone, w_named, w_hears, w_ripe, w_room, w_tables⟩
theorem atStart : AtStart classFile x code maxLocals ret World_1 tables_1 room_1 Calls_1 rest_1 Pre_1 launch0 p0 e0 about1 theMethod args0 below0 :=
  ⟨lists_1, trivial, launch0.admits_env _ _ _, launch0.least_env, fairChoices_fair.cas, fairChoices_fair.clock, w_frames, w_args, w_heap, w_applies, trivial, trivial, w_case⟩
end start1
theorem witness_1 : WitnessClaimed_1 := ⟨start1.p0, start1.e0, start1.about1, start1.theMethod, start1.args0, start1.below0, start1.atStart⟩
end Jvm.Pilot.@@N@@
