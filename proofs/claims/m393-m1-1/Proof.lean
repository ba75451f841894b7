import JvmDerived
import JvmDerived.Pilot.@@N@@Statement
import JvmDerived.Pilot.@@N@@Code
set_option linter.unusedVariables false
set_option linter.unusedSimpArgs false
namespace Jvm.RoadKit
open Sem ClassFile Op Lib Jvm.Stand Jvm.Free Jvm.LawKit
section New
variable {p : Program} {l : Launch} {e : Env} {R : Room} {s : State} {m : MethodId} {args : Array Value} {below : List Frame} {meth : Method} {c : Code} {T : State} {locs : List Loc} {cells slots : Nat}
theorem retI (X : Stand p l e R s m args below meth c T locs cells slots) (hx : p.tables.exec = Jvm.exec) {pc : Nat} {Ls : Array Slot} {z : Int32} {rest : List Value} (hret : meth.sig.returnType = some .int) (hd : decode c.code pc = .ok (.ireturn, 1)) {fs : List Frame}
    (hl : ∀ (f : JFrame) (acts : List Action), f.method = m → f.locked = none → f.entered = [] → (doReturn e (T.setTop f) acts (some (.int z))).1 = T.setFrames fs) : Steps p.tables e below (T.setTop (mkF m pc Ls (.int z :: rest))) (T.setFrames fs) := by
  have hm' : T.vm.method? m = some meth := X.method'
  have hn : narrow .int (.int z) = .int z := rfl
  show Steps p.tables e below (T.setTop { method := m, pc := pc, locals := Ls, stack := _ :: rest, locked := none }) _
  jvm_step X.here [X.here.top, hx, hd, hm', hret, hn]
  first | (intro acts; rw [hl _ acts rfl rfl rfl]) | rw [hl _ _ rfl rfl rfl]
  exact Steps.refl _
end New
end Jvm.RoadKit
namespace Jvm.Pilot.@@N@@
open Jvm Jvm.ClassFile Sem Op Lib Jvm.Free Jvm.Stand Jvm.LawKit Jvm.RoadKit Bundle Jvm.Pilot.@@N@@.Jvm.D
/-- what a walk owes from the state S on -/
def own_G (p : Program) (e : Env) (below : List Frame) (R : State → Outcome → Prop) (S : State) : Prop := ∃ t o, Steps p.tables e below S t ∧ R t o
theorem own_back {p : Program} {e : Env} {below : List Frame} {R : State → Outcome → Prop} {S S' : State} (k : ∀ t, Steps p.tables e below S' t → Steps p.tables e below S t) (h : own_G p e below R S') : own_G p e below R S := by
  obtain ⟨t, o, h1, h2⟩ := h
  exact ⟨t, o, k t h1, h2⟩
theorem own_open {p : Program} {e : Env} {below : List Frame} {R : State → Outcome → Prop} {S S' : State} (k : ∀ t, Steps p.tables e below S' t → Steps p.tables e below S t) (h : own_G p e below R S') : ∃ t o, Steps p.tables e below S t ∧ R t o := own_back k h
theorem own_done {p : Program} {e : Env} {below : List Frame} {R : State → Outcome → Prop} {S : State} (h : ∃ t o, Steps p.tables e below S t ∧ R t o) : own_G p e below R S := h
/-- an array of ints or chars at a: n places, place i holds f i -/
def own_I (Z : State) (h : Heap) (a : Addr) (ty : FieldType) (n : Nat) (f : Nat → Int32) : Prop := n < 2147483648 ∧ ∃ c : Cell, Arr Z h a c ty ∧ c.slots.size = n ∧ ∀ i, i < n → c.slots[i]? = some (.int (f i))
section OwnI
variable {Z : State} {h h' : Heap} {a b : Addr} {ty : FieldType} {n : Nat} {f : Nat → Int32} {sl : Nat} {v : Value} {ws : List Addr}
theorem own_I.lt (F : own_I Z h a ty n f) : a < h.size := by obtain ⟨-, c, A, -⟩ := F; exact A.lt
theorem own_I.ext (F : own_I Z h a ty n f) (E : Ext h h') : own_I Z h' a ty n f := by obtain ⟨q, c, A, r⟩ := F; exact ⟨q, c, A.ext E, r⟩
theorem own_I.other (F : own_I Z h b ty n f) (W : Wr h h' a sl v) (q : b ≠ a) : own_I Z h' b ty n f := by obtain ⟨q', c, A, r⟩ := F; exact ⟨q', c, A.other W q, r⟩
theorem own_I.keep (F : own_I Z h a ty n f) (K : Keep h h' ws) (q : a ∉ ws) : own_I Z h' a ty n f := by obtain ⟨q', c, A, r⟩ := F; exact ⟨q', c, ⟨K.2.1 a c A.1 q, A.2⟩, r⟩
theorem own_I.new {k : ClassId} {z : Int32} (A : Arr Z h a (newA k ty z) ty) (hd : defaultValue ty = .int 0) (q : ¬ z < 0) (e : z.toNatClampNeg = n) : own_I Z h a ty n (fun _ => 0) := by
  subst e
  exact ⟨(back32 q).2, _, A, sz_new _ _ _, fun i hi => by rw [← hd]; simp [newA, hi]⟩
theorem own_I.set {x : Int32} (F : own_I Z h a ty n f) (W : Wr h h' a sl (.int x)) (q : sl < n) : own_I Z h' a ty n (fun i => if i = sl then x else f i) := by
  obtain ⟨q', c, A, S, H⟩ := F
  refine ⟨q', _, A.same W, by rw [sz_set]; exact S, fun i hi => ?_⟩
  by_cases u : i = sl
  · subst u
    simp [Cell.setSlot, S, hi]
  · have e := H i hi
    simp only [Cell.setSlot, if_neg u]
    rw [Array.getElem?_setIfInBounds_ne (Ne.symm u)]
    exact e
theorem own_I.cong {g : Nat → Int32} (F : own_I Z h a ty n f) (q : ∀ i, i < n → f i = g i) : own_I Z h a ty n g := by
  obtain ⟨q', c, A, S, H⟩ := F
  exact ⟨q', c, A, S, fun i hi => by rw [← q i hi]; exact H i hi⟩
end OwnI
section OwnS
variable {p : Program} {l : Launch} {e : Env} {R : Room} {s : State} {m : MethodId} {args : Array Value} {below : List Frame} {meth : Method} {c : Code} {T : State} {locs : List Loc} {cells slots : Nat} {Z : State} {a0 : Array Value} {h : Heap}
theorem own_newI (X : Stand p l e R s m args below meth c T locs cells slots) (hx : p.tables.exec = Jvm.exec) (hZ : Z.Warmed39 s.vm) (w : (Cond.arrayClass .int).before a0 Z = true) (eT : T.heap = h) {g : JFrame} (hg : g.method = m) (hd : decode c.code g.pc = .ok (.newarray .int, 2)) {n : Int32} {rest : List Value} (hs : g.stack = .int n :: rest)
    (hn : ¬ n < 0) {k : Nat} (hk : n.toNatClampNeg = k) {cap : Nat} (hcap : k ≤ cap) (hb : cap * 8 ≤ 536870912) (hc : cells + 1 ≤ R.cells) (hl : slots + cap ≤ R.slots) :
    ∃ T' h', Stand p l e R s m args below meth c T' locs (cells + 1) (slots + cap) ∧ T'.heap = h' ∧ Ext h h' ∧ own_I Z h' h.size .int k (fun _ => 0) ∧
      ∀ target, Steps p.tables e below (T'.setTop { g with pc := g.pc + 2, stack := .ref h.size :: rest }) target → Steps p.tables e below (T.setTop g) target := by
  obtain ⟨T', h', cA, X', e', E, A, st⟩ := newP X hx hZ (aty := .int) w eT hg hd hs hn (cap := cap) (by omega) hb hc hl
  exact ⟨T', h', X', e', E, own_I.new A rfl hn hk, st⟩
theorem own_newC (X : Stand p l e R s m args below meth c T locs cells slots) (hx : p.tables.exec = Jvm.exec) (hZ : Z.Warmed39 s.vm) (w : (Cond.arrayClass .char).before a0 Z = true) (eT : T.heap = h) {g : JFrame} (hg : g.method = m) (hd : decode c.code g.pc = .ok (.newarray .char, 2)) {n : Int32} {rest : List Value} (hs : g.stack = .int n :: rest)
    (hn : ¬ n < 0) {k : Nat} (hk : n.toNatClampNeg = k) {cap : Nat} (hcap : k ≤ cap) (hb : cap * 8 ≤ 536870912) (hc : cells + 1 ≤ R.cells) (hl : slots + cap ≤ R.slots) :
    ∃ T' h', Stand p l e R s m args below meth c T' locs (cells + 1) (slots + cap) ∧ T'.heap = h' ∧ Ext h h' ∧ own_I Z h' h.size .char k (fun _ => 0) ∧
      ∀ target, Steps p.tables e below (T'.setTop { g with pc := g.pc + 2, stack := .ref h.size :: rest }) target → Steps p.tables e below (T.setTop g) target := by
  obtain ⟨T', h', cA, X', e', E, A, st⟩ := newP X hx hZ (aty := .char) w eT hg hd hs hn (cap := cap) (by omega) hb hc hl
  exact ⟨T', h', X', e', E, own_I.new A rfl hn hk, st⟩
theorem own_stI (X : Stand p l e R s m args below meth c T locs cells slots) (hx : p.tables.exec = Jvm.exec) (hZ : Z.Warmed39 s.vm) (eT : T.heap = h) {a : Addr} {n : Nat} {f : Nat → Int32} (A : own_I Z h a .int n f) {j x : Int32} {k : Nat} (h0 : ¬ j < 0) (hk : j.toNatClampNeg = k) (hkn : k < n) {g : JFrame} (hg : g.method = m) {rest : List Value} (hs : g.stack = .int x :: .int j :: .ref a :: rest) (hd : decode c.code g.pc = .ok (.iastore, 1)) :
    ∃ T' h', Stand p l e R s m args below meth c T' (locs ++ [⟨a, k⟩]) cells slots ∧ T'.heap = h' ∧ Wr h h' a k (.int x) ∧ own_I Z h' a .int n (fun i => if i = k then x else f i) ∧ ∀ target, Steps p.tables e below (T'.setTop { g with pc := g.pc + 1, stack := rest }) target → Steps p.tables e below (T.setTop g) target := by
  have A' := A
  obtain ⟨q', c, A, S, H⟩ := A
  subst hk
  obtain ⟨T', h', X', e', W, st⟩ := stI X hx hZ eT A (j := j) (x := x) (fun q => q.elim h0 (fun q => by omega)) hg hs hd
  exact ⟨T', h', X', e', W, A'.set W hkn, st⟩
theorem own_stC (X : Stand p l e R s m args below meth c T locs cells slots) (hx : p.tables.exec = Jvm.exec) (hZ : Z.Warmed39 s.vm) (eT : T.heap = h) {a : Addr} {n : Nat} {f : Nat → Int32} (A : own_I Z h a .char n f) {j x : Int32} {k : Nat} (h0 : ¬ j < 0) (hk : j.toNatClampNeg = k) (hkn : k < n) {g : JFrame} (hg : g.method = m) {rest : List Value} (hs : g.stack = .int x :: .int j :: .ref a :: rest) (hd : decode c.code g.pc = .ok (.castore, 1)) :
    ∃ T' h', Stand p l e R s m args below meth c T' (locs ++ [⟨a, k⟩]) cells slots ∧ T'.heap = h' ∧ Wr h h' a k (.int (nar .char x)) ∧ own_I Z h' a .char n (fun i => if i = k then nar .char x else f i) ∧ ∀ target, Steps p.tables e below (T'.setTop { g with pc := g.pc + 1, stack := rest }) target → Steps p.tables e below (T.setTop g) target := by
  have A' := A
  obtain ⟨q', c, A, S, H⟩ := A
  subst hk
  obtain ⟨T', h', X', e', W, st⟩ := stC X hx hZ eT A (j := j) (x := x) (fun q => q.elim h0 (fun q => by omega)) hg hs hd
  exact ⟨T', h', X', e', W, A'.set W hkn, st⟩
theorem own_ldI (X : Stand p l e R s m args below meth c T locs cells slots) (hx : p.tables.exec = Jvm.exec) (hZ : Z.Warmed39 s.vm) (eT : T.heap = h) {a : Addr} {n : Nat} {f : Nat → Int32} (A : own_I Z h a .int n f) {j w : Int32} {k : Nat} (h0 : ¬ j < 0) (hk : j.toNatClampNeg = k) (hkn : k < n) (hw : f k = w) {g : JFrame} (hg : g.method = m) {rest : List Value} (hs : g.stack = .int j :: .ref a :: rest) (hd : decode c.code g.pc = .ok (.iaload, 1)) :
    ∀ target, Steps p.tables e below (T.setTop { g with pc := g.pc + 1, stack := .int w :: rest }) target → Steps p.tables e below (T.setTop g) target := by
  obtain ⟨q', c, A, S, H⟩ := A
  subst hk
  exact fun t k => X.iaload hx (j := j) (v := .int w) (by rw [eT]; exact A.1) (State.isArrayOf_alike hZ.alike A.2.1) A.2.2 (fun q => q.elim h0 (fun q => by omega)) (by rw [H _ hkn, hw]) hg hs hd t k
theorem own_ldC (X : Stand p l e R s m args below meth c T locs cells slots) (hx : p.tables.exec = Jvm.exec) (hZ : Z.Warmed39 s.vm) (eT : T.heap = h) {a : Addr} {n : Nat} {f : Nat → Int32} (A : own_I Z h a .char n f) {j w : Int32} {k : Nat} (h0 : ¬ j < 0) (hk : j.toNatClampNeg = k) (hkn : k < n) (hw : f k = w) {g : JFrame} (hg : g.method = m) {rest : List Value} (hs : g.stack = .int j :: .ref a :: rest) (hd : decode c.code g.pc = .ok (.caload, 1)) :
    ∀ target, Steps p.tables e below (T.setTop { g with pc := g.pc + 1, stack := .int w :: rest }) target → Steps p.tables e below (T.setTop g) target := by
  obtain ⟨q', c, A, S, H⟩ := A
  subst hk
  exact fun t k => X.caload hx (j := j) (v := .int w) (by rw [eT]; exact A.1) (State.isArrayOf_alike hZ.alike A.2.1) A.2.2 (fun q => q.elim h0 (fun q => by omega)) (by rw [H _ hkn, hw]) hg hs hd t k
end OwnS
def own_draw (p : Int32) : Int32 := if (p &&& (3 : Int32)) = (0 : Int32) then nar .char (13 : Int32) else if (p &&& (3 : Int32)) = (1 : Int32) then nar .char (10 : Int32) else nar .char (((p.toUInt32 >>> ((2 : Int32) &&& 31).toUInt32).toInt32).toUInt32.toUInt16.toUInt32.toInt32)
def own_lnB (x y : Bool) (ln ac : Int32) : Int32 := bif x then ln + 1 else bif y then (if ac = 0 then ln + 1 else ln) else ln
def own_clB (x y : Bool) (cl ac : Int32) : Int32 := bif x then 1 else bif y then (if ac = 0 then 1 else cl) else cl + 1
def own_acB (x : Bool) : Int32 := bif x then 1 else 0
def own_ln (p ln ac : Int32) : Int32 := own_lnB (decide (p = 13)) (decide (p = 10)) ln ac
def own_cl (p cl ac : Int32) : Int32 := own_clB (decide (p = 13)) (decide (p = 10)) cl ac
def own_ac (p : Int32) : Int32 := own_acB (decide (p = 13))
def own_tmB (x y : Bool) : Int32 := bif x then 1 else bif y then 1 else 0
def own_tm (p : Int32) : Int32 := own_tmB (decide (p = 13)) (decide (p = 10))
def own_eB (px x y : Bool) : Int32 := bif x then 1 else bif y then (bif px then 0 else 1) else 0
def own_e0 (n c : Int32) : Int32 := if 0 < n then own_eB false (decide (c = 13)) (decide (c = 10)) else 0
def own_e (i n p c : Int32) : Int32 := if i < n then own_eB (decide (p = 13)) (decide (c = 13)) (decide (c = 10)) else 0
def own_line (n c0 c1 c2 c3 : Int32) : Int32 := ((((1 : Int32) + own_e0 n c0) + own_e 1 n c0 c1) + own_e 2 n c1 c2) + own_e 3 n c2 c3
def own_l1 (c0 : Int32) : Int32 := if own_tm c0 = 0 then -1 else 0
def own_l2 (c0 c1 : Int32) : Int32 := if own_tm c1 = 0 then own_l1 c0 else 1
def own_l3 (c0 c1 c2 : Int32) : Int32 := if own_tm c2 = 0 then own_l2 c0 c1 else 2
def own_l4 (c0 c1 c2 c3 : Int32) : Int32 := if own_tm c3 = 0 then own_l3 c0 c1 c2 else 3
def own_f (c0 c1 c2 c3 : Int32) (i : Nat) : Int32 := if i = 3 then c3 else if i = 2 then c2 else if i = 1 then c1 else if i = 0 then c0 else 0
theorem own_line1 (c0 c1 c2 c3 : Int32) : own_ln c0 1 0 = own_line 1 c0 c1 c2 c3 := by
  simp only [own_ln, own_line, own_e0, own_e]
  generalize decide (c0 = 13) = x0; generalize decide (c0 = 10) = y0; generalize decide (c1 = 13) = x1; generalize decide (c1 = 10) = y1; generalize decide (c2 = 13) = x2; generalize decide (c2 = 10) = y2; generalize decide (c3 = 13) = x3; generalize decide (c3 = 10) = y3
  revert x0 y0 x1 y1 x2 y2 x3 y3; decide +kernel
theorem own_line2 (c0 c1 c2 c3 : Int32) : own_ln c1 (own_ln c0 1 0) (own_ac c0) = own_line 2 c0 c1 c2 c3 := by
  simp only [own_ln, own_line, own_e0, own_e, own_ac]
  generalize decide (c0 = 13) = x0; generalize decide (c0 = 10) = y0; generalize decide (c1 = 13) = x1; generalize decide (c1 = 10) = y1; generalize decide (c2 = 13) = x2; generalize decide (c2 = 10) = y2; generalize decide (c3 = 13) = x3; generalize decide (c3 = 10) = y3
  revert x0 y0 x1 y1 x2 y2 x3 y3; decide +kernel
theorem own_line3 (c0 c1 c2 c3 : Int32) : own_ln c2 (own_ln c1 (own_ln c0 1 0) (own_ac c0)) (own_ac c1) = own_line 3 c0 c1 c2 c3 := by
  simp only [own_ln, own_line, own_e0, own_e, own_ac]
  generalize decide (c0 = 13) = x0; generalize decide (c0 = 10) = y0; generalize decide (c1 = 13) = x1; generalize decide (c1 = 10) = y1; generalize decide (c2 = 13) = x2; generalize decide (c2 = 10) = y2; generalize decide (c3 = 13) = x3; generalize decide (c3 = 10) = y3
  revert x0 y0 x1 y1 x2 y2 x3 y3; decide +kernel
theorem own_line4 (c0 c1 c2 c3 : Int32) : own_ln c3 (own_ln c2 (own_ln c1 (own_ln c0 1 0) (own_ac c0)) (own_ac c1)) (own_ac c2) = own_line 4 c0 c1 c2 c3 := by
  simp only [own_ln, own_line, own_e0, own_e, own_ac]
  generalize decide (c0 = 13) = x0; generalize decide (c0 = 10) = y0; generalize decide (c1 = 13) = x1; generalize decide (c1 = 10) = y1; generalize decide (c2 = 13) = x2; generalize decide (c2 = 10) = y2; generalize decide (c3 = 13) = x3; generalize decide (c3 = 10) = y3
  revert x0 y0 x1 y1 x2 y2 x3 y3; decide +kernel
theorem own_two (p : Int32) : ¬ (decide (p = 13) = true ∧ decide (p = 10) = true) := by
  intro h
  have h1 := of_decide_eq_true h.1
  have h2 := of_decide_eq_true h.2
  rw [h1] at h2
  exact absurd h2 (by decide)
theorem own_colB1 : ∀ (x0 y0 : Bool), (own_clB x0 y0 (1 : Int32) (0 : Int32)) = (1 : Int32) - (if own_tmB x0 y0 = (0 : Int32) then (-1 : Int32) else (0 : Int32)) := by decide +kernel
theorem own_col1 (c0 : Int32) : own_cl c0 1 0 = (1 : Int32) - own_l1 c0 := own_colB1 (decide (c0 = 13)) (decide (c0 = 10))
theorem own_colB2 : ∀ (x0 y0 x1 y1 : Bool), (own_clB x1 y1 (own_clB x0 y0 (1 : Int32) (0 : Int32)) (own_acB x0)) = (2 : Int32) - (if own_tmB x1 y1 = (0 : Int32) then (if own_tmB x0 y0 = (0 : Int32) then (-1 : Int32) else (0 : Int32)) else (1 : Int32)) := by decide +kernel
theorem own_col2 (c0 c1 : Int32) : own_cl c1 (own_cl c0 1 0) (own_ac c0) = (2 : Int32) - own_l2 c0 c1 := own_colB2 (decide (c0 = 13)) (decide (c0 = 10)) (decide (c1 = 13)) (decide (c1 = 10))
theorem own_colB3 : ∀ (x0 y0 x1 y1 x2 y2 : Bool), (own_clB x2 y2 (own_clB x1 y1 (own_clB x0 y0 (1 : Int32) (0 : Int32)) (own_acB x0)) (own_acB x1)) = (3 : Int32) - (if own_tmB x2 y2 = (0 : Int32) then (if own_tmB x1 y1 = (0 : Int32) then (if own_tmB x0 y0 = (0 : Int32) then (-1 : Int32) else (0 : Int32)) else (1 : Int32)) else (2 : Int32)) := by decide +kernel
theorem own_col3 (c0 c1 c2 : Int32) : own_cl c2 (own_cl c1 (own_cl c0 1 0) (own_ac c0)) (own_ac c1) = (3 : Int32) - own_l3 c0 c1 c2 := own_colB3 (decide (c0 = 13)) (decide (c0 = 10)) (decide (c1 = 13)) (decide (c1 = 10)) (decide (c2 = 13)) (decide (c2 = 10))
theorem own_colB4 : ∀ (x0 y0 x1 y1 x2 y2 x3 y3 : Bool), (own_clB x3 y3 (own_clB x2 y2 (own_clB x1 y1 (own_clB x0 y0 (1 : Int32) (0 : Int32)) (own_acB x0)) (own_acB x1)) (own_acB x2)) = (4 : Int32) - (if own_tmB x3 y3 = (0 : Int32) then (if own_tmB x2 y2 = (0 : Int32) then (if own_tmB x1 y1 = (0 : Int32) then (if own_tmB x0 y0 = (0 : Int32) then (-1 : Int32) else (0 : Int32)) else (1 : Int32)) else (2 : Int32)) else (3 : Int32)) := by decide +kernel
theorem own_col4 (c0 c1 c2 c3 : Int32) : own_cl c3 (own_cl c2 (own_cl c1 (own_cl c0 1 0) (own_ac c0)) (own_ac c1)) (own_ac c2) = (4 : Int32) - own_l4 c0 c1 c2 c3 := own_colB4 (decide (c0 = 13)) (decide (c0 = 10)) (decide (c1 = 13)) (decide (c1 = 10)) (decide (c2 = 13)) (decide (c2 = 10)) (decide (c3 = 13)) (decide (c3 = 10))
theorem d1_0 : decode method_2_code 0 = .ok (.iload_n 0, 1) := by decide +kernel
theorem d1_1 : decode method_2_code 1 = .ok (.iconst 3, 1) := by decide +kernel
theorem d1_2 : decode method_2_code 2 = .ok (.iand, 1) := by decide +kernel
theorem d1_3 : decode method_2_code 3 = .ok (.istore_n 1, 1) := by decide +kernel
theorem d1_4 : decode method_2_code 4 = .ok (.iload_n 1, 1) := by decide +kernel
theorem d1_5 : decode method_2_code 5 = .ok (.ifCond .ne 6, 3) := by decide +kernel
theorem d1_8 : decode method_2_code 8 = .ok (.bipush 13, 2) := by decide +kernel
theorem d1_10 : decode method_2_code 10 = .ok (.ireturn, 1) := by decide +kernel
theorem d1_11 : decode method_2_code 11 = .ok (.iload_n 1, 1) := by decide +kernel
theorem d1_12 : decode method_2_code 12 = .ok (.iconst 1, 1) := by decide +kernel
theorem d1_13 : decode method_2_code 13 = .ok (.if_icmp .ne 6, 3) := by decide +kernel
theorem d1_16 : decode method_2_code 16 = .ok (.bipush 10, 2) := by decide +kernel
theorem d1_18 : decode method_2_code 18 = .ok (.ireturn, 1) := by decide +kernel
theorem d1_19 : decode method_2_code 19 = .ok (.iload_n 0, 1) := by decide +kernel
theorem d1_20 : decode method_2_code 20 = .ok (.iconst 2, 1) := by decide +kernel
theorem d1_21 : decode method_2_code 21 = .ok (.iushr, 1) := by decide +kernel
theorem d1_22 : decode method_2_code 22 = .ok (.i2c, 1) := by decide +kernel
theorem d1_23 : decode method_2_code 23 = .ok (.ireturn, 1) := by decide +kernel
theorem pn_com_example_bindery_bindery_XmlPositionPassPinLaw : plainName "com/example/bindery/bindery/XmlPositionPassPinLaw" = true := by first | (simp [plainName, overriddenIn]; done) | decide +kernel
theorem ef_1 (m : MethodId) (x0 : Int32) : entryFrame m #[(.int x0)] 2 = mkF m 0 #[.val (.int x0), .unset] [] := by first | (simp [entryFrame, mkF, argsToLocals, Value.category]; done) | rfl
def Q1 (Z : State) (p1 : Int32) (h0 : Heap) (n0 : Nat) (v : Option Value) (h : Heap) (L : List Loc) : Prop := v = some (.int (own_draw p1)) ∧ Fr n0 L ∧ h = h0
set_option maxRecDepth 65536 in
set_option maxHeartbeats 40000000 in
theorem rm1 (l : Launch) (Z : State) (a0 : Array Value) (hw : ∀ d ∈ tables_1, d.before a0 Z = true) (ws : List Jvm.Cond) (p1 : Int32) (h0 : Heap) (n0 : Nat) (Z0 : n0 ≤ h0.size) :
    MetFree l (⟨"com/example/bindery/bindery/XmlPositionPassPinLaw", "draw", "(I)C"⟩ : MethodName) (head1 (Jvm.Cond.code (⟨"com/example/bindery/bindery/XmlPositionPassPinLaw", "draw", "(I)C"⟩ : MethodName) method_2_code 2 (some .char) :: ws) ({ frames := 0, cells := 0, slots := 0, locals := 0 } : Room)) (fun a U => a = #[(.int p1)] ∧ Z.Warmed39 U.vm ∧ U.heap = h0) (fun _ _ _ _ _ => True) (fun _ U o U' => ∃ v L, o = .returned v ∧ Q1 Z p1 h0 n0 v U'.heap L ∧ FrameEnd U o U' L ({ frames := 0, cells := 0, slots := 0, locals := 0 } : Room).cells ({ frames := 0, cells := 0, slots := 0, locals := 0 } : Room).slots) := by
  refine MetFree.of_bodySF (plainFor_of_name pn_com_example_bindery_bindery_XmlPositionPassPinLaw) hisR ?_
  intro p e s m args below meth c s₁ Bd hml0 hP hK
  obtain ⟨rfl, hZ, hh⟩ := hP
  have hx := Bd.exec
  have hby := Bd.bytes
  have hml : c.maxLocals = 2 := hml0
  have hown : s.vm.findClass "com/example/bindery/bindery/XmlPositionPassPinLaw" = some m.cls := findClass_of_methodNamed Bd.named
  have hnm := (name_of_methodNamed Bd.named Bd.method).1
  have X0 : Stand p l e ({ frames := 0, cells := 0, slots := 0, locals := 0 } : Room) s m #[(.int p1)] below meth c s₁ [] 0 0 := Stand.of_body Bd
  have e0 : s₁.heap = h0 := by rw [← hh, Bd.state]; rfl
  have N0 := Fr.nil n0
  refine own_open (S' := s₁.setTop (mkF m 0 #[.val (.int p1), .unset] [])) (fun t k => castTop (ef_1 m p1) k) ?_
  refine own_back (S' := s₁.setTop (mkF m 1 #[.val (.int p1), .unset] [(.int p1)])) (fun _ k => XS.iloadN X0.here hx rfl (hb hby d1_0) rfl k) ?_
  refine own_back (S' := s₁.setTop (mkF m 2 #[.val (.int p1), .unset] [(.int (3 : Int32)), (.int p1)])) (fun _ k => XS.iconst X0.here hx rfl (hb hby d1_1)  k) ?_
  refine own_back (S' := s₁.setTop (mkF m 3 #[.val (.int p1), .unset] [(.int (p1 &&& (3 : Int32)))])) (fun _ k => XS.iand X0.here hx rfl (hb hby d1_2) rfl k) ?_
  refine own_back (S' := s₁.setTop (mkF m 4 #[.val (.int p1), .val (.int (p1 &&& (3 : Int32)))] [])) (fun _ k => XS.istoreN X0.here hx rfl (hb hby d1_3) rfl (l' := #[.val (.int p1), .val (.int (p1 &&& (3 : Int32)))]) rfl k) ?_
  refine own_back (S' := s₁.setTop (mkF m 5 #[.val (.int p1), .val (.int (p1 &&& (3 : Int32)))] [(.int (p1 &&& (3 : Int32)))])) (fun _ k => XS.iloadN X0.here hx rfl (hb hby d1_4) rfl k) ?_
  by_cases hc5_1 : (p1 &&& (3 : Int32)) = (0 : Int32)
  ·
    refine own_back (S' := s₁.setTop (mkF m 8 #[.val (.int p1), .val (.int (p1 &&& (3 : Int32)))] [])) (fun _ k => XS.ifNo X0.here hx rfl (hb hby d1_5) rfl ((if0 _ _).trans (teq hc5_1).2) k) ?_
    refine own_back (S' := s₁.setTop (mkF m 10 #[.val (.int p1), .val (.int (p1 &&& (3 : Int32)))] [(.int (13 : Int32))])) (fun _ k => XS.bipush X0.here hx rfl (hb hby d1_8)  k) ?_
    obtain ⟨fs, hr, hrun, hended, hW, hsame⟩ := X0.leave (v := some (.int (nar .char (13 : Int32)))) (fun h => by rw [Bd.returns] at h; cases h)
    refine own_done ⟨_, _, retN X0 hx (t := .char) Bd.returns (by simp) (hb hby d1_10) hr, hrun, hended, _, _, rfl, ?_, ⟨_, rfl⟩, hW, hsame.mono (by decide) (by decide)⟩
    show Q1 Z p1 h0 n0 _ s₁.heap _
    rw [e0]
    exact ⟨by unfold own_draw; rw [if_pos hc5_1], N0, rfl⟩
  ·
    refine own_back (S' := s₁.setTop (mkF m 11 #[.val (.int p1), .val (.int (p1 &&& (3 : Int32)))] [])) (fun _ k => XS.ifYes X0.here hx rfl (pc0 := 5) (pc' := 11) rfl (hb hby d1_5) rfl ((if0 _ _).trans (feq hc5_1).2) (by decide) (by decide) k) ?_
    refine own_back (S' := s₁.setTop (mkF m 12 #[.val (.int p1), .val (.int (p1 &&& (3 : Int32)))] [(.int (p1 &&& (3 : Int32)))])) (fun _ k => XS.iloadN X0.here hx rfl (hb hby d1_11) rfl k) ?_
    refine own_back (S' := s₁.setTop (mkF m 13 #[.val (.int p1), .val (.int (p1 &&& (3 : Int32)))] [(.int (1 : Int32)), (.int (p1 &&& (3 : Int32)))])) (fun _ k => XS.iconst X0.here hx rfl (hb hby d1_12)  k) ?_
    by_cases hc13_3 : (p1 &&& (3 : Int32)) = (1 : Int32)
    ·
      refine own_back (S' := s₁.setTop (mkF m 16 #[.val (.int p1), .val (.int (p1 &&& (3 : Int32)))] [])) (fun _ k => XS.icmpNo X0.here hx rfl (hb hby d1_13) rfl (teq hc13_3).2 k) ?_
      refine own_back (S' := s₁.setTop (mkF m 18 #[.val (.int p1), .val (.int (p1 &&& (3 : Int32)))] [(.int (10 : Int32))])) (fun _ k => XS.bipush X0.here hx rfl (hb hby d1_16)  k) ?_
      obtain ⟨fs, hr, hrun, hended, hW, hsame⟩ := X0.leave (v := some (.int (nar .char (10 : Int32)))) (fun h => by rw [Bd.returns] at h; cases h)
      refine own_done ⟨_, _, retN X0 hx (t := .char) Bd.returns (by simp) (hb hby d1_18) hr, hrun, hended, _, _, rfl, ?_, ⟨_, rfl⟩, hW, hsame.mono (by decide) (by decide)⟩
      show Q1 Z p1 h0 n0 _ s₁.heap _
      rw [e0]
      exact ⟨by unfold own_draw; rw [if_neg hc5_1, if_pos hc13_3], N0, rfl⟩
    ·
      refine own_back (S' := s₁.setTop (mkF m 19 #[.val (.int p1), .val (.int (p1 &&& (3 : Int32)))] [])) (fun _ k => XS.icmpYes X0.here hx rfl (pc0 := 13) (pc' := 19) rfl (hb hby d1_13) rfl (feq hc13_3).2 (by decide) (by decide) k) ?_
      refine own_back (S' := s₁.setTop (mkF m 20 #[.val (.int p1), .val (.int (p1 &&& (3 : Int32)))] [(.int p1)])) (fun _ k => XS.iloadN X0.here hx rfl (hb hby d1_19) rfl k) ?_
      refine own_back (S' := s₁.setTop (mkF m 21 #[.val (.int p1), .val (.int (p1 &&& (3 : Int32)))] [(.int (2 : Int32)), (.int p1)])) (fun _ k => XS.iconst X0.here hx rfl (hb hby d1_20)  k) ?_
      refine own_back (S' := s₁.setTop (mkF m 22 #[.val (.int p1), .val (.int (p1 &&& (3 : Int32)))] [(.int ((p1.toUInt32 >>> ((2 : Int32) &&& 31).toUInt32).toInt32))])) (fun _ k => XS.iushr X0.here hx rfl (hb hby d1_21) rfl k) ?_
      refine own_back (S' := s₁.setTop (mkF m 23 #[.val (.int p1), .val (.int (p1 &&& (3 : Int32)))] [(.int (((p1.toUInt32 >>> ((2 : Int32) &&& 31).toUInt32).toInt32).toUInt32.toUInt16.toUInt32.toInt32))])) (fun _ k => XS.i2c X0.here hx rfl (hb hby d1_22) rfl k) ?_
      obtain ⟨fs, hr, hrun, hended, hW, hsame⟩ := X0.leave (v := some (.int (nar .char (((p1.toUInt32 >>> ((2 : Int32) &&& 31).toUInt32).toInt32).toUInt32.toUInt16.toUInt32.toInt32)))) (fun h => by rw [Bd.returns] at h; cases h)
      refine own_done ⟨_, _, retN X0 hx (t := .char) Bd.returns (by simp) (hb hby d1_23) hr, hrun, hended, _, _, rfl, ?_, ⟨_, rfl⟩, hW, hsame.mono (by decide) (by decide)⟩
      show Q1 Z p1 h0 n0 _ s₁.heap _
      rw [e0]
      exact ⟨by unfold own_draw; rw [if_neg hc5_1, if_neg hc13_3], N0, rfl⟩
theorem d10_0 : decode method_3_code 0 = .ok (.iload_n 0, 1) := by decide +kernel
theorem d10_1 : decode method_3_code 1 = .ok (.bipush 13, 2) := by decide +kernel
theorem d10_3 : decode method_3_code 3 = .ok (.if_icmp .eq 9, 3) := by decide +kernel
theorem d10_6 : decode method_3_code 6 = .ok (.iload_n 0, 1) := by decide +kernel
theorem d10_7 : decode method_3_code 7 = .ok (.bipush 10, 2) := by decide +kernel
theorem d10_9 : decode method_3_code 9 = .ok (.if_icmp .ne 7, 3) := by decide +kernel
theorem d10_12 : decode method_3_code 12 = .ok (.iconst 1, 1) := by decide +kernel
theorem d10_13 : decode method_3_code 13 = .ok (.goto 4, 3) := by decide +kernel
theorem d10_16 : decode method_3_code 16 = .ok (.iconst 0, 1) := by decide +kernel
theorem d10_17 : decode method_3_code 17 = .ok (.ireturn, 1) := by decide +kernel
theorem ef_10 (m : MethodId) (x0 : Int32) : entryFrame m #[(.int x0)] 1 = mkF m 0 #[.val (.int x0)] [] := by first | (simp [entryFrame, mkF, argsToLocals, Value.category]; done) | rfl
def Q10 (Z : State) (p1 : Int32) (h0 : Heap) (n0 : Nat) (v : Option Value) (h : Heap) (L : List Loc) : Prop := v = some (.int (own_tm p1)) ∧ Fr n0 L ∧ h = h0
set_option maxRecDepth 65536 in
set_option maxHeartbeats 40000000 in
theorem rm10 (l : Launch) (Z : State) (a0 : Array Value) (hw : ∀ d ∈ tables_1, d.before a0 Z = true) (ws : List Jvm.Cond) (p1 : Int32) (h0 : Heap) (n0 : Nat) (Z0 : n0 ≤ h0.size) :
    MetFree l (⟨"com/example/bindery/bindery/XmlPositionPassPinLaw", "term", "(C)Z"⟩ : MethodName) (head1 (Jvm.Cond.code (⟨"com/example/bindery/bindery/XmlPositionPassPinLaw", "term", "(C)Z"⟩ : MethodName) method_3_code 1 (some .boolean) :: ws) ({ frames := 0, cells := 0, slots := 0, locals := 0 } : Room)) (fun a U => a = #[(.int p1)] ∧ Z.Warmed39 U.vm ∧ U.heap = h0) (fun _ _ _ _ _ => True) (fun _ U o U' => ∃ v L, o = .returned v ∧ Q10 Z p1 h0 n0 v U'.heap L ∧ FrameEnd U o U' L ({ frames := 0, cells := 0, slots := 0, locals := 0 } : Room).cells ({ frames := 0, cells := 0, slots := 0, locals := 0 } : Room).slots) := by
  refine MetFree.of_bodySF (plainFor_of_name pn_com_example_bindery_bindery_XmlPositionPassPinLaw) hisR ?_
  intro p e s m args below meth c s₁ Bd hml0 hP hK
  obtain ⟨rfl, hZ, hh⟩ := hP
  have hx := Bd.exec
  have hby := Bd.bytes
  have hml : c.maxLocals = 1 := hml0
  have hown : s.vm.findClass "com/example/bindery/bindery/XmlPositionPassPinLaw" = some m.cls := findClass_of_methodNamed Bd.named
  have hnm := (name_of_methodNamed Bd.named Bd.method).1
  have X0 : Stand p l e ({ frames := 0, cells := 0, slots := 0, locals := 0 } : Room) s m #[(.int p1)] below meth c s₁ [] 0 0 := Stand.of_body Bd
  have e0 : s₁.heap = h0 := by rw [← hh, Bd.state]; rfl
  have N0 := Fr.nil n0
  refine own_open (S' := s₁.setTop (mkF m 0 #[.val (.int p1)] [])) (fun t k => castTop (ef_10 m p1) k) ?_
  refine own_back (S' := s₁.setTop (mkF m 1 #[.val (.int p1)] [(.int p1)])) (fun _ k => XS.iloadN X0.here hx rfl (hb hby d10_0) rfl k) ?_
  refine own_back (S' := s₁.setTop (mkF m 3 #[.val (.int p1)] [(.int (13 : Int32)), (.int p1)])) (fun _ k => XS.bipush X0.here hx rfl (hb hby d10_1)  k) ?_
  by_cases hc3_1 : p1 = (13 : Int32)
  ·
    refine own_back (S' := s₁.setTop (mkF m 12 #[.val (.int p1)] [])) (fun _ k => XS.icmpYes X0.here hx rfl (pc0 := 3) (pc' := 12) rfl (hb hby d10_3) rfl (teq hc3_1).1 (by decide) (by decide) k) ?_
    refine own_back (S' := s₁.setTop (mkF m 13 #[.val (.int p1)] [(.int (1 : Int32))])) (fun _ k => XS.iconst X0.here hx rfl (hb hby d10_12)  k) ?_
    refine own_back (S' := s₁.setTop (mkF m 17 #[.val (.int p1)] [(.int (1 : Int32))])) (fun _ k => XS.goto X0.here hx rfl (pc0 := 13) (pc' := 17) rfl (hb hby d10_13) (by decide) (by decide) k) ?_
    obtain ⟨fs, hr, hrun, hended, hW, hsame⟩ := X0.leave (v := some (.int (1 : Int32))) (fun h => by rw [Bd.returns] at h; cases h)
    refine own_done ⟨_, _, retN X0 hx (t := .boolean) Bd.returns (by simp) (hb hby d10_17) hr, hrun, hended, _, _, rfl, ?_, ⟨_, rfl⟩, hW, hsame.mono (by decide) (by decide)⟩
    show Q10 Z p1 h0 n0 _ s₁.heap _
    rw [e0]
    exact ⟨by unfold own_tm; simp only [decide_eq_true hc3_1] <;> rfl, N0, rfl⟩
  ·
    refine own_back (S' := s₁.setTop (mkF m 6 #[.val (.int p1)] [])) (fun _ k => XS.icmpNo X0.here hx rfl (hb hby d10_3) rfl (feq hc3_1).1 k) ?_
    refine own_back (S' := s₁.setTop (mkF m 7 #[.val (.int p1)] [(.int p1)])) (fun _ k => XS.iloadN X0.here hx rfl (hb hby d10_6) rfl k) ?_
    refine own_back (S' := s₁.setTop (mkF m 9 #[.val (.int p1)] [(.int (10 : Int32)), (.int p1)])) (fun _ k => XS.bipush X0.here hx rfl (hb hby d10_7)  k) ?_
    by_cases hc9_3 : p1 = (10 : Int32)
    ·
      refine own_back (S' := s₁.setTop (mkF m 12 #[.val (.int p1)] [])) (fun _ k => XS.icmpNo X0.here hx rfl (hb hby d10_9) rfl (teq hc9_3).2 k) ?_
      refine own_back (S' := s₁.setTop (mkF m 13 #[.val (.int p1)] [(.int (1 : Int32))])) (fun _ k => XS.iconst X0.here hx rfl (hb hby d10_12)  k) ?_
      refine own_back (S' := s₁.setTop (mkF m 17 #[.val (.int p1)] [(.int (1 : Int32))])) (fun _ k => XS.goto X0.here hx rfl (pc0 := 13) (pc' := 17) rfl (hb hby d10_13) (by decide) (by decide) k) ?_
      obtain ⟨fs, hr, hrun, hended, hW, hsame⟩ := X0.leave (v := some (.int (1 : Int32))) (fun h => by rw [Bd.returns] at h; cases h)
      refine own_done ⟨_, _, retN X0 hx (t := .boolean) Bd.returns (by simp) (hb hby d10_17) hr, hrun, hended, _, _, rfl, ?_, ⟨_, rfl⟩, hW, hsame.mono (by decide) (by decide)⟩
      show Q10 Z p1 h0 n0 _ s₁.heap _
      rw [e0]
      exact ⟨by unfold own_tm; simp only [decide_eq_false hc3_1, decide_eq_true hc9_3] <;> rfl, N0, rfl⟩
    ·
      refine own_back (S' := s₁.setTop (mkF m 16 #[.val (.int p1)] [])) (fun _ k => XS.icmpYes X0.here hx rfl (pc0 := 9) (pc' := 16) rfl (hb hby d10_9) rfl (feq hc9_3).2 (by decide) (by decide) k) ?_
      refine own_back (S' := s₁.setTop (mkF m 17 #[.val (.int p1)] [(.int (0 : Int32))])) (fun _ k => XS.iconst X0.here hx rfl (hb hby d10_16)  k) ?_
      obtain ⟨fs, hr, hrun, hended, hW, hsame⟩ := X0.leave (v := some (.int (0 : Int32))) (fun h => by rw [Bd.returns] at h; cases h)
      refine own_done ⟨_, _, retN X0 hx (t := .boolean) Bd.returns (by simp) (hb hby d10_17) hr, hrun, hended, _, _, rfl, ?_, ⟨_, rfl⟩, hW, hsame.mono (by decide) (by decide)⟩
      show Q10 Z p1 h0 n0 _ s₁.heap _
      rw [e0]
      exact ⟨by unfold own_tm; simp only [decide_eq_false hc3_1, decide_eq_false hc9_3] <;> rfl, N0, rfl⟩
theorem d7_0 : decode method_4_code 0 = .ok (.iload_n 1, 1) := by decide +kernel
theorem d7_1 : decode method_4_code 1 = .ok (.iload_n 2, 1) := by decide +kernel
theorem d7_2 : decode method_4_code 2 = .ok (.if_icmp .lt 5, 3) := by decide +kernel
theorem d7_5 : decode method_4_code 5 = .ok (.iconst 0, 1) := by decide +kernel
theorem d7_6 : decode method_4_code 6 = .ok (.ireturn, 1) := by decide +kernel
theorem d7_7 : decode method_4_code 7 = .ok (.aload_n 0, 1) := by decide +kernel
theorem d7_8 : decode method_4_code 8 = .ok (.iload_n 1, 1) := by decide +kernel
theorem d7_9 : decode method_4_code 9 = .ok (.caload, 1) := by decide +kernel
theorem d7_10 : decode method_4_code 10 = .ok (.bipush 13, 2) := by decide +kernel
theorem d7_12 : decode method_4_code 12 = .ok (.if_icmp .ne 5, 3) := by decide +kernel
theorem d7_15 : decode method_4_code 15 = .ok (.iconst 1, 1) := by decide +kernel
theorem d7_16 : decode method_4_code 16 = .ok (.ireturn, 1) := by decide +kernel
theorem d7_17 : decode method_4_code 17 = .ok (.aload_n 0, 1) := by decide +kernel
theorem d7_18 : decode method_4_code 18 = .ok (.iload_n 1, 1) := by decide +kernel
theorem d7_19 : decode method_4_code 19 = .ok (.caload, 1) := by decide +kernel
theorem d7_20 : decode method_4_code 20 = .ok (.bipush 10, 2) := by decide +kernel
theorem d7_22 : decode method_4_code 22 = .ok (.if_icmp .ne 21, 3) := by decide +kernel
theorem d7_25 : decode method_4_code 25 = .ok (.iload_n 1, 1) := by decide +kernel
theorem d7_26 : decode method_4_code 26 = .ok (.ifCond .le 15, 3) := by decide +kernel
theorem d7_41 : decode method_4_code 41 = .ok (.iconst 1, 1) := by decide +kernel
theorem d7_42 : decode method_4_code 42 = .ok (.ireturn, 1) := by decide +kernel
theorem d7_43 : decode method_4_code 43 = .ok (.iconst 0, 1) := by decide +kernel
theorem d7_44 : decode method_4_code 44 = .ok (.ireturn, 1) := by decide +kernel
theorem ef_7 (m : MethodId) (x0 : Addr) (x1 : Int32) (x2 : Int32) : entryFrame m #[(.ref x0), (.int x1), (.int x2)] 3 = mkF m 0 #[.val (.ref x0), .val (.int x1), .val (.int x2)] [] := by first | (simp [entryFrame, mkF, argsToLocals, Value.category]; done) | rfl
def Q7_0 (Z : State) (a1 : Addr) (p3 : Int32) (c0 : Int32) (c1 : Int32) (c2 : Int32) (c3 : Int32) (h0 : Heap) (n0 : Nat) (v : Option Value) (h : Heap) (L : List Loc) : Prop := v = some (.int (own_e0 p3 c0)) ∧ Fr n0 L ∧ h = h0
set_option maxRecDepth 65536 in
set_option maxHeartbeats 40000000 in
theorem rm7_0 (l : Launch) (Z : State) (a0 : Array Value) (hw : ∀ d ∈ tables_1, d.before a0 Z = true) (ws : List Jvm.Cond) (a1 : Addr) (p3 : Int32) (c0 : Int32) (c1 : Int32) (c2 : Int32) (c3 : Int32) (h0 : Heap) (n0 : Nat) (Z0 : n0 ≤ h0.size) (PA : own_I Z h0 a1 .char 4 (own_f c0 c1 c2 c3)) :
    MetFree l (⟨"com/example/bindery/bindery/XmlPositionPassPinLaw", "ends", "([CII)I"⟩ : MethodName) (head1 (Jvm.Cond.code (⟨"com/example/bindery/bindery/XmlPositionPassPinLaw", "ends", "([CII)I"⟩ : MethodName) method_4_code 3 (some .int) :: ws) ({ frames := 0, cells := 0, slots := 0, locals := 0 } : Room)) (fun a U => a = #[(.ref a1), (.int (0 : Int32)), (.int p3)] ∧ Z.Warmed39 U.vm ∧ U.heap = h0) (fun _ _ _ _ _ => True) (fun _ U o U' => ∃ v L, o = .returned v ∧ Q7_0 Z a1 p3 c0 c1 c2 c3 h0 n0 v U'.heap L ∧ FrameEnd U o U' L ({ frames := 0, cells := 0, slots := 0, locals := 0 } : Room).cells ({ frames := 0, cells := 0, slots := 0, locals := 0 } : Room).slots) := by
  refine MetFree.of_bodySF (plainFor_of_name pn_com_example_bindery_bindery_XmlPositionPassPinLaw) hisR ?_
  intro p e s m args below meth c s₁ Bd hml0 hP hK
  obtain ⟨rfl, hZ, hh⟩ := hP
  have hx := Bd.exec
  have hby := Bd.bytes
  have hml : c.maxLocals = 3 := hml0
  have hown : s.vm.findClass "com/example/bindery/bindery/XmlPositionPassPinLaw" = some m.cls := findClass_of_methodNamed Bd.named
  have hnm := (name_of_methodNamed Bd.named Bd.method).1
  have X0 : Stand p l e ({ frames := 0, cells := 0, slots := 0, locals := 0 } : Room) s m #[(.ref a1), (.int (0 : Int32)), (.int p3)] below meth c s₁ [] 0 0 := Stand.of_body Bd
  have e0 : s₁.heap = h0 := by rw [← hh, Bd.state]; rfl
  have N0 := Fr.nil n0
  refine own_open (S' := s₁.setTop (mkF m 0 #[.val (.ref a1), .val (.int (0 : Int32)), .val (.int p3)] [])) (fun t k => castTop (ef_7 m a1 (0 : Int32) p3) k) ?_
  refine own_back (S' := s₁.setTop (mkF m 1 #[.val (.ref a1), .val (.int (0 : Int32)), .val (.int p3)] [(.int (0 : Int32))])) (fun _ k => XS.iloadN X0.here hx rfl (hb hby d7_0) rfl k) ?_
  refine own_back (S' := s₁.setTop (mkF m 2 #[.val (.ref a1), .val (.int (0 : Int32)), .val (.int p3)] [(.int p3), (.int (0 : Int32))])) (fun _ k => XS.iloadN X0.here hx rfl (hb hby d7_1) rfl k) ?_
  by_cases hc2_1 : (0 : Int32) < p3
  ·
    refine own_back (S' := s₁.setTop (mkF m 7 #[.val (.ref a1), .val (.int (0 : Int32)), .val (.int p3)] [])) (fun _ k => XS.icmpYes X0.here hx rfl (pc0 := 2) (pc' := 7) rfl (hb hby d7_2) rfl (tlt hc2_1).1 (by decide) (by decide) k) ?_
    refine own_back (S' := s₁.setTop (mkF m 8 #[.val (.ref a1), .val (.int (0 : Int32)), .val (.int p3)] [(.ref a1)])) (fun _ k => XS.aloadN X0.here hx rfl (hb hby d7_7) rfl rfl k) ?_
    refine own_back (S' := s₁.setTop (mkF m 9 #[.val (.ref a1), .val (.int (0 : Int32)), .val (.int p3)] [(.int (0 : Int32)), (.ref a1)])) (fun _ k => XS.iloadN X0.here hx rfl (hb hby d7_8) rfl k) ?_
    refine own_back (S' := s₁.setTop (mkF m 10 #[.val (.ref a1), .val (.int (0 : Int32)), .val (.int p3)] [(.int c0)])) (own_ldC X0 hx hZ e0 PA (k := 0) (w := c0) (by decide) rfl (by decide) rfl (g := (mkF m 9 #[.val (.ref a1), .val (.int (0 : Int32)), .val (.int p3)] [(.int (0 : Int32)), (.ref a1)])) rfl rfl (hb hby d7_9)) ?_
    refine own_back (S' := s₁.setTop (mkF m 12 #[.val (.ref a1), .val (.int (0 : Int32)), .val (.int p3)] [(.int (13 : Int32)), (.int c0)])) (fun _ k => XS.bipush X0.here hx rfl (hb hby d7_10)  k) ?_
    by_cases hc12_2 : c0 = (13 : Int32)
    ·
      refine own_back (S' := s₁.setTop (mkF m 15 #[.val (.ref a1), .val (.int (0 : Int32)), .val (.int p3)] [])) (fun _ k => XS.icmpNo X0.here hx rfl (hb hby d7_12) rfl (teq hc12_2).2 k) ?_
      refine own_back (S' := s₁.setTop (mkF m 16 #[.val (.ref a1), .val (.int (0 : Int32)), .val (.int p3)] [(.int (1 : Int32))])) (fun _ k => XS.iconst X0.here hx rfl (hb hby d7_15)  k) ?_
      obtain ⟨fs, hr, hrun, hended, hW, hsame⟩ := X0.leave (v := some (.int (1 : Int32))) (fun h => by rw [Bd.returns] at h; cases h)
      refine own_done ⟨_, _, retI X0 hx Bd.returns (hb hby d7_16) hr, hrun, hended, _, _, rfl, ?_, ⟨_, rfl⟩, hW, hsame.mono (by decide) (by decide)⟩
      show Q7_0 Z a1 p3 c0 c1 c2 c3 h0 n0 _ s₁.heap _
      rw [e0]
      exact ⟨by unfold own_e0; simp only [if_pos hc2_1, decide_eq_true hc12_2] <;> rfl, N0, rfl⟩
    ·
      refine own_back (S' := s₁.setTop (mkF m 17 #[.val (.ref a1), .val (.int (0 : Int32)), .val (.int p3)] [])) (fun _ k => XS.icmpYes X0.here hx rfl (pc0 := 12) (pc' := 17) rfl (hb hby d7_12) rfl (feq hc12_2).2 (by decide) (by decide) k) ?_
      refine own_back (S' := s₁.setTop (mkF m 18 #[.val (.ref a1), .val (.int (0 : Int32)), .val (.int p3)] [(.ref a1)])) (fun _ k => XS.aloadN X0.here hx rfl (hb hby d7_17) rfl rfl k) ?_
      refine own_back (S' := s₁.setTop (mkF m 19 #[.val (.ref a1), .val (.int (0 : Int32)), .val (.int p3)] [(.int (0 : Int32)), (.ref a1)])) (fun _ k => XS.iloadN X0.here hx rfl (hb hby d7_18) rfl k) ?_
      refine own_back (S' := s₁.setTop (mkF m 20 #[.val (.ref a1), .val (.int (0 : Int32)), .val (.int p3)] [(.int c0)])) (own_ldC X0 hx hZ e0 PA (k := 0) (w := c0) (by decide) rfl (by decide) rfl (g := (mkF m 19 #[.val (.ref a1), .val (.int (0 : Int32)), .val (.int p3)] [(.int (0 : Int32)), (.ref a1)])) rfl rfl (hb hby d7_19)) ?_
      refine own_back (S' := s₁.setTop (mkF m 22 #[.val (.ref a1), .val (.int (0 : Int32)), .val (.int p3)] [(.int (10 : Int32)), (.int c0)])) (fun _ k => XS.bipush X0.here hx rfl (hb hby d7_20)  k) ?_
      by_cases hc22_4 : c0 = (10 : Int32)
      ·
        refine own_back (S' := s₁.setTop (mkF m 25 #[.val (.ref a1), .val (.int (0 : Int32)), .val (.int p3)] [])) (fun _ k => XS.icmpNo X0.here hx rfl (hb hby d7_22) rfl (teq hc22_4).2 k) ?_
        refine own_back (S' := s₁.setTop (mkF m 26 #[.val (.ref a1), .val (.int (0 : Int32)), .val (.int p3)] [(.int (0 : Int32))])) (fun _ k => XS.iloadN X0.here hx rfl (hb hby d7_25) rfl k) ?_
        refine own_back (S' := s₁.setTop (mkF m 41 #[.val (.ref a1), .val (.int (0 : Int32)), .val (.int p3)] [])) (fun _ k => XS.ifYes X0.here hx rfl (pc0 := 26) (pc' := 41) rfl (hb hby d7_26) rfl ((if0 _ _).trans (flt ((by decide) : ¬ ((0 : Int32) < (0 : Int32)))).2.2.2) (by decide) (by decide) k) ?_
        refine own_back (S' := s₁.setTop (mkF m 42 #[.val (.ref a1), .val (.int (0 : Int32)), .val (.int p3)] [(.int (1 : Int32))])) (fun _ k => XS.iconst X0.here hx rfl (hb hby d7_41)  k) ?_
        obtain ⟨fs, hr, hrun, hended, hW, hsame⟩ := X0.leave (v := some (.int (1 : Int32))) (fun h => by rw [Bd.returns] at h; cases h)
        refine own_done ⟨_, _, retI X0 hx Bd.returns (hb hby d7_42) hr, hrun, hended, _, _, rfl, ?_, ⟨_, rfl⟩, hW, hsame.mono (by decide) (by decide)⟩
        show Q7_0 Z a1 p3 c0 c1 c2 c3 h0 n0 _ s₁.heap _
        rw [e0]
        exact ⟨by unfold own_e0; simp only [if_pos hc2_1, decide_eq_false hc12_2, decide_eq_true hc22_4] <;> rfl, N0, rfl⟩
      ·
        refine own_back (S' := s₁.setTop (mkF m 43 #[.val (.ref a1), .val (.int (0 : Int32)), .val (.int p3)] [])) (fun _ k => XS.icmpYes X0.here hx rfl (pc0 := 22) (pc' := 43) rfl (hb hby d7_22) rfl (feq hc22_4).2 (by decide) (by decide) k) ?_
        refine own_back (S' := s₁.setTop (mkF m 44 #[.val (.ref a1), .val (.int (0 : Int32)), .val (.int p3)] [(.int (0 : Int32))])) (fun _ k => XS.iconst X0.here hx rfl (hb hby d7_43)  k) ?_
        obtain ⟨fs, hr, hrun, hended, hW, hsame⟩ := X0.leave (v := some (.int (0 : Int32))) (fun h => by rw [Bd.returns] at h; cases h)
        refine own_done ⟨_, _, retI X0 hx Bd.returns (hb hby d7_44) hr, hrun, hended, _, _, rfl, ?_, ⟨_, rfl⟩, hW, hsame.mono (by decide) (by decide)⟩
        show Q7_0 Z a1 p3 c0 c1 c2 c3 h0 n0 _ s₁.heap _
        rw [e0]
        exact ⟨by unfold own_e0; simp only [if_pos hc2_1, decide_eq_false hc12_2, decide_eq_false hc22_4] <;> rfl, N0, rfl⟩
  ·
    refine own_back (S' := s₁.setTop (mkF m 5 #[.val (.ref a1), .val (.int (0 : Int32)), .val (.int p3)] [])) (fun _ k => XS.icmpNo X0.here hx rfl (hb hby d7_2) rfl (flt hc2_1).1 k) ?_
    refine own_back (S' := s₁.setTop (mkF m 6 #[.val (.ref a1), .val (.int (0 : Int32)), .val (.int p3)] [(.int (0 : Int32))])) (fun _ k => XS.iconst X0.here hx rfl (hb hby d7_5)  k) ?_
    obtain ⟨fs, hr, hrun, hended, hW, hsame⟩ := X0.leave (v := some (.int (0 : Int32))) (fun h => by rw [Bd.returns] at h; cases h)
    refine own_done ⟨_, _, retI X0 hx Bd.returns (hb hby d7_6) hr, hrun, hended, _, _, rfl, ?_, ⟨_, rfl⟩, hW, hsame.mono (by decide) (by decide)⟩
    show Q7_0 Z a1 p3 c0 c1 c2 c3 h0 n0 _ s₁.heap _
    rw [e0]
    exact ⟨by unfold own_e0; simp only [if_neg hc2_1] <;> rfl, N0, rfl⟩
theorem d7_29 : decode method_4_code 29 = .ok (.aload_n 0, 1) := by decide +kernel
theorem d7_30 : decode method_4_code 30 = .ok (.iload_n 1, 1) := by decide +kernel
theorem d7_31 : decode method_4_code 31 = .ok (.iconst 1, 1) := by decide +kernel
theorem d7_32 : decode method_4_code 32 = .ok (.isub, 1) := by decide +kernel
theorem d7_33 : decode method_4_code 33 = .ok (.caload, 1) := by decide +kernel
theorem d7_34 : decode method_4_code 34 = .ok (.bipush 13, 2) := by decide +kernel
theorem d7_36 : decode method_4_code 36 = .ok (.if_icmp .ne 5, 3) := by decide +kernel
theorem d7_39 : decode method_4_code 39 = .ok (.iconst 0, 1) := by decide +kernel
theorem d7_40 : decode method_4_code 40 = .ok (.ireturn, 1) := by decide +kernel
def Q7_1 (Z : State) (a1 : Addr) (p3 : Int32) (c0 : Int32) (c1 : Int32) (c2 : Int32) (c3 : Int32) (h0 : Heap) (n0 : Nat) (v : Option Value) (h : Heap) (L : List Loc) : Prop := v = some (.int (own_e 1 p3 c0 c1)) ∧ Fr n0 L ∧ h = h0
set_option maxRecDepth 65536 in
set_option maxHeartbeats 40000000 in
theorem rm7_1 (l : Launch) (Z : State) (a0 : Array Value) (hw : ∀ d ∈ tables_1, d.before a0 Z = true) (ws : List Jvm.Cond) (a1 : Addr) (p3 : Int32) (c0 : Int32) (c1 : Int32) (c2 : Int32) (c3 : Int32) (h0 : Heap) (n0 : Nat) (Z0 : n0 ≤ h0.size) (PA : own_I Z h0 a1 .char 4 (own_f c0 c1 c2 c3)) :
    MetFree l (⟨"com/example/bindery/bindery/XmlPositionPassPinLaw", "ends", "([CII)I"⟩ : MethodName) (head1 (Jvm.Cond.code (⟨"com/example/bindery/bindery/XmlPositionPassPinLaw", "ends", "([CII)I"⟩ : MethodName) method_4_code 3 (some .int) :: ws) ({ frames := 0, cells := 0, slots := 0, locals := 0 } : Room)) (fun a U => a = #[(.ref a1), (.int (1 : Int32)), (.int p3)] ∧ Z.Warmed39 U.vm ∧ U.heap = h0) (fun _ _ _ _ _ => True) (fun _ U o U' => ∃ v L, o = .returned v ∧ Q7_1 Z a1 p3 c0 c1 c2 c3 h0 n0 v U'.heap L ∧ FrameEnd U o U' L ({ frames := 0, cells := 0, slots := 0, locals := 0 } : Room).cells ({ frames := 0, cells := 0, slots := 0, locals := 0 } : Room).slots) := by
  refine MetFree.of_bodySF (plainFor_of_name pn_com_example_bindery_bindery_XmlPositionPassPinLaw) hisR ?_
  intro p e s m args below meth c s₁ Bd hml0 hP hK
  obtain ⟨rfl, hZ, hh⟩ := hP
  have hx := Bd.exec
  have hby := Bd.bytes
  have hml : c.maxLocals = 3 := hml0
  have hown : s.vm.findClass "com/example/bindery/bindery/XmlPositionPassPinLaw" = some m.cls := findClass_of_methodNamed Bd.named
  have hnm := (name_of_methodNamed Bd.named Bd.method).1
  have X0 : Stand p l e ({ frames := 0, cells := 0, slots := 0, locals := 0 } : Room) s m #[(.ref a1), (.int (1 : Int32)), (.int p3)] below meth c s₁ [] 0 0 := Stand.of_body Bd
  have e0 : s₁.heap = h0 := by rw [← hh, Bd.state]; rfl
  have N0 := Fr.nil n0
  refine own_open (S' := s₁.setTop (mkF m 0 #[.val (.ref a1), .val (.int (1 : Int32)), .val (.int p3)] [])) (fun t k => castTop (ef_7 m a1 (1 : Int32) p3) k) ?_
  refine own_back (S' := s₁.setTop (mkF m 1 #[.val (.ref a1), .val (.int (1 : Int32)), .val (.int p3)] [(.int (1 : Int32))])) (fun _ k => XS.iloadN X0.here hx rfl (hb hby d7_0) rfl k) ?_
  refine own_back (S' := s₁.setTop (mkF m 2 #[.val (.ref a1), .val (.int (1 : Int32)), .val (.int p3)] [(.int p3), (.int (1 : Int32))])) (fun _ k => XS.iloadN X0.here hx rfl (hb hby d7_1) rfl k) ?_
  by_cases hc2_1 : (1 : Int32) < p3
  ·
    refine own_back (S' := s₁.setTop (mkF m 7 #[.val (.ref a1), .val (.int (1 : Int32)), .val (.int p3)] [])) (fun _ k => XS.icmpYes X0.here hx rfl (pc0 := 2) (pc' := 7) rfl (hb hby d7_2) rfl (tlt hc2_1).1 (by decide) (by decide) k) ?_
    refine own_back (S' := s₁.setTop (mkF m 8 #[.val (.ref a1), .val (.int (1 : Int32)), .val (.int p3)] [(.ref a1)])) (fun _ k => XS.aloadN X0.here hx rfl (hb hby d7_7) rfl rfl k) ?_
    refine own_back (S' := s₁.setTop (mkF m 9 #[.val (.ref a1), .val (.int (1 : Int32)), .val (.int p3)] [(.int (1 : Int32)), (.ref a1)])) (fun _ k => XS.iloadN X0.here hx rfl (hb hby d7_8) rfl k) ?_
    refine own_back (S' := s₁.setTop (mkF m 10 #[.val (.ref a1), .val (.int (1 : Int32)), .val (.int p3)] [(.int c1)])) (own_ldC X0 hx hZ e0 PA (k := 1) (w := c1) (by decide) rfl (by decide) rfl (g := (mkF m 9 #[.val (.ref a1), .val (.int (1 : Int32)), .val (.int p3)] [(.int (1 : Int32)), (.ref a1)])) rfl rfl (hb hby d7_9)) ?_
    refine own_back (S' := s₁.setTop (mkF m 12 #[.val (.ref a1), .val (.int (1 : Int32)), .val (.int p3)] [(.int (13 : Int32)), (.int c1)])) (fun _ k => XS.bipush X0.here hx rfl (hb hby d7_10)  k) ?_
    by_cases hc12_2 : c1 = (13 : Int32)
    ·
      refine own_back (S' := s₁.setTop (mkF m 15 #[.val (.ref a1), .val (.int (1 : Int32)), .val (.int p3)] [])) (fun _ k => XS.icmpNo X0.here hx rfl (hb hby d7_12) rfl (teq hc12_2).2 k) ?_
      refine own_back (S' := s₁.setTop (mkF m 16 #[.val (.ref a1), .val (.int (1 : Int32)), .val (.int p3)] [(.int (1 : Int32))])) (fun _ k => XS.iconst X0.here hx rfl (hb hby d7_15)  k) ?_
      obtain ⟨fs, hr, hrun, hended, hW, hsame⟩ := X0.leave (v := some (.int (1 : Int32))) (fun h => by rw [Bd.returns] at h; cases h)
      refine own_done ⟨_, _, retI X0 hx Bd.returns (hb hby d7_16) hr, hrun, hended, _, _, rfl, ?_, ⟨_, rfl⟩, hW, hsame.mono (by decide) (by decide)⟩
      show Q7_1 Z a1 p3 c0 c1 c2 c3 h0 n0 _ s₁.heap _
      rw [e0]
      exact ⟨by unfold own_e; simp only [if_pos hc2_1, decide_eq_true hc12_2] <;> rfl, N0, rfl⟩
    ·
      refine own_back (S' := s₁.setTop (mkF m 17 #[.val (.ref a1), .val (.int (1 : Int32)), .val (.int p3)] [])) (fun _ k => XS.icmpYes X0.here hx rfl (pc0 := 12) (pc' := 17) rfl (hb hby d7_12) rfl (feq hc12_2).2 (by decide) (by decide) k) ?_
      refine own_back (S' := s₁.setTop (mkF m 18 #[.val (.ref a1), .val (.int (1 : Int32)), .val (.int p3)] [(.ref a1)])) (fun _ k => XS.aloadN X0.here hx rfl (hb hby d7_17) rfl rfl k) ?_
      refine own_back (S' := s₁.setTop (mkF m 19 #[.val (.ref a1), .val (.int (1 : Int32)), .val (.int p3)] [(.int (1 : Int32)), (.ref a1)])) (fun _ k => XS.iloadN X0.here hx rfl (hb hby d7_18) rfl k) ?_
      refine own_back (S' := s₁.setTop (mkF m 20 #[.val (.ref a1), .val (.int (1 : Int32)), .val (.int p3)] [(.int c1)])) (own_ldC X0 hx hZ e0 PA (k := 1) (w := c1) (by decide) rfl (by decide) rfl (g := (mkF m 19 #[.val (.ref a1), .val (.int (1 : Int32)), .val (.int p3)] [(.int (1 : Int32)), (.ref a1)])) rfl rfl (hb hby d7_19)) ?_
      refine own_back (S' := s₁.setTop (mkF m 22 #[.val (.ref a1), .val (.int (1 : Int32)), .val (.int p3)] [(.int (10 : Int32)), (.int c1)])) (fun _ k => XS.bipush X0.here hx rfl (hb hby d7_20)  k) ?_
      by_cases hc22_4 : c1 = (10 : Int32)
      ·
        refine own_back (S' := s₁.setTop (mkF m 25 #[.val (.ref a1), .val (.int (1 : Int32)), .val (.int p3)] [])) (fun _ k => XS.icmpNo X0.here hx rfl (hb hby d7_22) rfl (teq hc22_4).2 k) ?_
        refine own_back (S' := s₁.setTop (mkF m 26 #[.val (.ref a1), .val (.int (1 : Int32)), .val (.int p3)] [(.int (1 : Int32))])) (fun _ k => XS.iloadN X0.here hx rfl (hb hby d7_25) rfl k) ?_
        refine own_back (S' := s₁.setTop (mkF m 29 #[.val (.ref a1), .val (.int (1 : Int32)), .val (.int p3)] [])) (fun _ k => XS.ifNo X0.here hx rfl (hb hby d7_26) rfl ((if0 _ _).trans (tlt ((by decide) : (0 : Int32) < (1 : Int32))).2.2.2) k) ?_
        refine own_back (S' := s₁.setTop (mkF m 30 #[.val (.ref a1), .val (.int (1 : Int32)), .val (.int p3)] [(.ref a1)])) (fun _ k => XS.aloadN X0.here hx rfl (hb hby d7_29) rfl rfl k) ?_
        refine own_back (S' := s₁.setTop (mkF m 31 #[.val (.ref a1), .val (.int (1 : Int32)), .val (.int p3)] [(.int (1 : Int32)), (.ref a1)])) (fun _ k => XS.iloadN X0.here hx rfl (hb hby d7_30) rfl k) ?_
        refine own_back (S' := s₁.setTop (mkF m 32 #[.val (.ref a1), .val (.int (1 : Int32)), .val (.int p3)] [(.int (1 : Int32)), (.int (1 : Int32)), (.ref a1)])) (fun _ k => XS.iconst X0.here hx rfl (hb hby d7_31)  k) ?_
        refine own_back (S' := s₁.setTop (mkF m 33 #[.val (.ref a1), .val (.int (1 : Int32)), .val (.int p3)] [(.int ((1 : Int32) - (1 : Int32))), (.ref a1)])) (fun _ k => XS.isub X0.here hx rfl (hb hby d7_32) rfl k) ?_
        refine own_back (S' := s₁.setTop (mkF m 34 #[.val (.ref a1), .val (.int (1 : Int32)), .val (.int p3)] [(.int c0)])) (own_ldC X0 hx hZ e0 PA (k := 0) (w := c0) (by decide) rfl (by decide) rfl (g := (mkF m 33 #[.val (.ref a1), .val (.int (1 : Int32)), .val (.int p3)] [(.int ((1 : Int32) - (1 : Int32))), (.ref a1)])) rfl rfl (hb hby d7_33)) ?_
        refine own_back (S' := s₁.setTop (mkF m 36 #[.val (.ref a1), .val (.int (1 : Int32)), .val (.int p3)] [(.int (13 : Int32)), (.int c0)])) (fun _ k => XS.bipush X0.here hx rfl (hb hby d7_34)  k) ?_
        by_cases hc36_5 : c0 = (13 : Int32)
        ·
          refine own_back (S' := s₁.setTop (mkF m 39 #[.val (.ref a1), .val (.int (1 : Int32)), .val (.int p3)] [])) (fun _ k => XS.icmpNo X0.here hx rfl (hb hby d7_36) rfl (teq hc36_5).2 k) ?_
          refine own_back (S' := s₁.setTop (mkF m 40 #[.val (.ref a1), .val (.int (1 : Int32)), .val (.int p3)] [(.int (0 : Int32))])) (fun _ k => XS.iconst X0.here hx rfl (hb hby d7_39)  k) ?_
          obtain ⟨fs, hr, hrun, hended, hW, hsame⟩ := X0.leave (v := some (.int (0 : Int32))) (fun h => by rw [Bd.returns] at h; cases h)
          refine own_done ⟨_, _, retI X0 hx Bd.returns (hb hby d7_40) hr, hrun, hended, _, _, rfl, ?_, ⟨_, rfl⟩, hW, hsame.mono (by decide) (by decide)⟩
          show Q7_1 Z a1 p3 c0 c1 c2 c3 h0 n0 _ s₁.heap _
          rw [e0]
          exact ⟨by unfold own_e; simp only [if_pos hc2_1, decide_eq_false hc12_2, decide_eq_true hc22_4, decide_eq_true hc36_5] <;> rfl, N0, rfl⟩
        ·
          refine own_back (S' := s₁.setTop (mkF m 41 #[.val (.ref a1), .val (.int (1 : Int32)), .val (.int p3)] [])) (fun _ k => XS.icmpYes X0.here hx rfl (pc0 := 36) (pc' := 41) rfl (hb hby d7_36) rfl (feq hc36_5).2 (by decide) (by decide) k) ?_
          refine own_back (S' := s₁.setTop (mkF m 42 #[.val (.ref a1), .val (.int (1 : Int32)), .val (.int p3)] [(.int (1 : Int32))])) (fun _ k => XS.iconst X0.here hx rfl (hb hby d7_41)  k) ?_
          obtain ⟨fs, hr, hrun, hended, hW, hsame⟩ := X0.leave (v := some (.int (1 : Int32))) (fun h => by rw [Bd.returns] at h; cases h)
          refine own_done ⟨_, _, retI X0 hx Bd.returns (hb hby d7_42) hr, hrun, hended, _, _, rfl, ?_, ⟨_, rfl⟩, hW, hsame.mono (by decide) (by decide)⟩
          show Q7_1 Z a1 p3 c0 c1 c2 c3 h0 n0 _ s₁.heap _
          rw [e0]
          exact ⟨by unfold own_e; simp only [if_pos hc2_1, decide_eq_false hc12_2, decide_eq_true hc22_4, decide_eq_false hc36_5] <;> rfl, N0, rfl⟩
      ·
        refine own_back (S' := s₁.setTop (mkF m 43 #[.val (.ref a1), .val (.int (1 : Int32)), .val (.int p3)] [])) (fun _ k => XS.icmpYes X0.here hx rfl (pc0 := 22) (pc' := 43) rfl (hb hby d7_22) rfl (feq hc22_4).2 (by decide) (by decide) k) ?_
        refine own_back (S' := s₁.setTop (mkF m 44 #[.val (.ref a1), .val (.int (1 : Int32)), .val (.int p3)] [(.int (0 : Int32))])) (fun _ k => XS.iconst X0.here hx rfl (hb hby d7_43)  k) ?_
        obtain ⟨fs, hr, hrun, hended, hW, hsame⟩ := X0.leave (v := some (.int (0 : Int32))) (fun h => by rw [Bd.returns] at h; cases h)
        refine own_done ⟨_, _, retI X0 hx Bd.returns (hb hby d7_44) hr, hrun, hended, _, _, rfl, ?_, ⟨_, rfl⟩, hW, hsame.mono (by decide) (by decide)⟩
        show Q7_1 Z a1 p3 c0 c1 c2 c3 h0 n0 _ s₁.heap _
        rw [e0]
        exact ⟨by unfold own_e; simp only [if_pos hc2_1, decide_eq_false hc12_2, decide_eq_false hc22_4] <;> rfl, N0, rfl⟩
  ·
    refine own_back (S' := s₁.setTop (mkF m 5 #[.val (.ref a1), .val (.int (1 : Int32)), .val (.int p3)] [])) (fun _ k => XS.icmpNo X0.here hx rfl (hb hby d7_2) rfl (flt hc2_1).1 k) ?_
    refine own_back (S' := s₁.setTop (mkF m 6 #[.val (.ref a1), .val (.int (1 : Int32)), .val (.int p3)] [(.int (0 : Int32))])) (fun _ k => XS.iconst X0.here hx rfl (hb hby d7_5)  k) ?_
    obtain ⟨fs, hr, hrun, hended, hW, hsame⟩ := X0.leave (v := some (.int (0 : Int32))) (fun h => by rw [Bd.returns] at h; cases h)
    refine own_done ⟨_, _, retI X0 hx Bd.returns (hb hby d7_6) hr, hrun, hended, _, _, rfl, ?_, ⟨_, rfl⟩, hW, hsame.mono (by decide) (by decide)⟩
    show Q7_1 Z a1 p3 c0 c1 c2 c3 h0 n0 _ s₁.heap _
    rw [e0]
    exact ⟨by unfold own_e; simp only [if_neg hc2_1] <;> rfl, N0, rfl⟩
def Q7_2 (Z : State) (a1 : Addr) (p3 : Int32) (c0 : Int32) (c1 : Int32) (c2 : Int32) (c3 : Int32) (h0 : Heap) (n0 : Nat) (v : Option Value) (h : Heap) (L : List Loc) : Prop := v = some (.int (own_e 2 p3 c1 c2)) ∧ Fr n0 L ∧ h = h0
set_option maxRecDepth 65536 in
set_option maxHeartbeats 40000000 in
theorem rm7_2 (l : Launch) (Z : State) (a0 : Array Value) (hw : ∀ d ∈ tables_1, d.before a0 Z = true) (ws : List Jvm.Cond) (a1 : Addr) (p3 : Int32) (c0 : Int32) (c1 : Int32) (c2 : Int32) (c3 : Int32) (h0 : Heap) (n0 : Nat) (Z0 : n0 ≤ h0.size) (PA : own_I Z h0 a1 .char 4 (own_f c0 c1 c2 c3)) :
    MetFree l (⟨"com/example/bindery/bindery/XmlPositionPassPinLaw", "ends", "([CII)I"⟩ : MethodName) (head1 (Jvm.Cond.code (⟨"com/example/bindery/bindery/XmlPositionPassPinLaw", "ends", "([CII)I"⟩ : MethodName) method_4_code 3 (some .int) :: ws) ({ frames := 0, cells := 0, slots := 0, locals := 0 } : Room)) (fun a U => a = #[(.ref a1), (.int (2 : Int32)), (.int p3)] ∧ Z.Warmed39 U.vm ∧ U.heap = h0) (fun _ _ _ _ _ => True) (fun _ U o U' => ∃ v L, o = .returned v ∧ Q7_2 Z a1 p3 c0 c1 c2 c3 h0 n0 v U'.heap L ∧ FrameEnd U o U' L ({ frames := 0, cells := 0, slots := 0, locals := 0 } : Room).cells ({ frames := 0, cells := 0, slots := 0, locals := 0 } : Room).slots) := by
  refine MetFree.of_bodySF (plainFor_of_name pn_com_example_bindery_bindery_XmlPositionPassPinLaw) hisR ?_
  intro p e s m args below meth c s₁ Bd hml0 hP hK
  obtain ⟨rfl, hZ, hh⟩ := hP
  have hx := Bd.exec
  have hby := Bd.bytes
  have hml : c.maxLocals = 3 := hml0
  have hown : s.vm.findClass "com/example/bindery/bindery/XmlPositionPassPinLaw" = some m.cls := findClass_of_methodNamed Bd.named
  have hnm := (name_of_methodNamed Bd.named Bd.method).1
  have X0 : Stand p l e ({ frames := 0, cells := 0, slots := 0, locals := 0 } : Room) s m #[(.ref a1), (.int (2 : Int32)), (.int p3)] below meth c s₁ [] 0 0 := Stand.of_body Bd
  have e0 : s₁.heap = h0 := by rw [← hh, Bd.state]; rfl
  have N0 := Fr.nil n0
  refine own_open (S' := s₁.setTop (mkF m 0 #[.val (.ref a1), .val (.int (2 : Int32)), .val (.int p3)] [])) (fun t k => castTop (ef_7 m a1 (2 : Int32) p3) k) ?_
  refine own_back (S' := s₁.setTop (mkF m 1 #[.val (.ref a1), .val (.int (2 : Int32)), .val (.int p3)] [(.int (2 : Int32))])) (fun _ k => XS.iloadN X0.here hx rfl (hb hby d7_0) rfl k) ?_
  refine own_back (S' := s₁.setTop (mkF m 2 #[.val (.ref a1), .val (.int (2 : Int32)), .val (.int p3)] [(.int p3), (.int (2 : Int32))])) (fun _ k => XS.iloadN X0.here hx rfl (hb hby d7_1) rfl k) ?_
  by_cases hc2_1 : (2 : Int32) < p3
  ·
    refine own_back (S' := s₁.setTop (mkF m 7 #[.val (.ref a1), .val (.int (2 : Int32)), .val (.int p3)] [])) (fun _ k => XS.icmpYes X0.here hx rfl (pc0 := 2) (pc' := 7) rfl (hb hby d7_2) rfl (tlt hc2_1).1 (by decide) (by decide) k) ?_
    refine own_back (S' := s₁.setTop (mkF m 8 #[.val (.ref a1), .val (.int (2 : Int32)), .val (.int p3)] [(.ref a1)])) (fun _ k => XS.aloadN X0.here hx rfl (hb hby d7_7) rfl rfl k) ?_
    refine own_back (S' := s₁.setTop (mkF m 9 #[.val (.ref a1), .val (.int (2 : Int32)), .val (.int p3)] [(.int (2 : Int32)), (.ref a1)])) (fun _ k => XS.iloadN X0.here hx rfl (hb hby d7_8) rfl k) ?_
    refine own_back (S' := s₁.setTop (mkF m 10 #[.val (.ref a1), .val (.int (2 : Int32)), .val (.int p3)] [(.int c2)])) (own_ldC X0 hx hZ e0 PA (k := 2) (w := c2) (by decide) rfl (by decide) rfl (g := (mkF m 9 #[.val (.ref a1), .val (.int (2 : Int32)), .val (.int p3)] [(.int (2 : Int32)), (.ref a1)])) rfl rfl (hb hby d7_9)) ?_
    refine own_back (S' := s₁.setTop (mkF m 12 #[.val (.ref a1), .val (.int (2 : Int32)), .val (.int p3)] [(.int (13 : Int32)), (.int c2)])) (fun _ k => XS.bipush X0.here hx rfl (hb hby d7_10)  k) ?_
    by_cases hc12_2 : c2 = (13 : Int32)
    ·
      refine own_back (S' := s₁.setTop (mkF m 15 #[.val (.ref a1), .val (.int (2 : Int32)), .val (.int p3)] [])) (fun _ k => XS.icmpNo X0.here hx rfl (hb hby d7_12) rfl (teq hc12_2).2 k) ?_
      refine own_back (S' := s₁.setTop (mkF m 16 #[.val (.ref a1), .val (.int (2 : Int32)), .val (.int p3)] [(.int (1 : Int32))])) (fun _ k => XS.iconst X0.here hx rfl (hb hby d7_15)  k) ?_
      obtain ⟨fs, hr, hrun, hended, hW, hsame⟩ := X0.leave (v := some (.int (1 : Int32))) (fun h => by rw [Bd.returns] at h; cases h)
      refine own_done ⟨_, _, retI X0 hx Bd.returns (hb hby d7_16) hr, hrun, hended, _, _, rfl, ?_, ⟨_, rfl⟩, hW, hsame.mono (by decide) (by decide)⟩
      show Q7_2 Z a1 p3 c0 c1 c2 c3 h0 n0 _ s₁.heap _
      rw [e0]
      exact ⟨by unfold own_e; simp only [if_pos hc2_1, decide_eq_true hc12_2] <;> rfl, N0, rfl⟩
    ·
      refine own_back (S' := s₁.setTop (mkF m 17 #[.val (.ref a1), .val (.int (2 : Int32)), .val (.int p3)] [])) (fun _ k => XS.icmpYes X0.here hx rfl (pc0 := 12) (pc' := 17) rfl (hb hby d7_12) rfl (feq hc12_2).2 (by decide) (by decide) k) ?_
      refine own_back (S' := s₁.setTop (mkF m 18 #[.val (.ref a1), .val (.int (2 : Int32)), .val (.int p3)] [(.ref a1)])) (fun _ k => XS.aloadN X0.here hx rfl (hb hby d7_17) rfl rfl k) ?_
      refine own_back (S' := s₁.setTop (mkF m 19 #[.val (.ref a1), .val (.int (2 : Int32)), .val (.int p3)] [(.int (2 : Int32)), (.ref a1)])) (fun _ k => XS.iloadN X0.here hx rfl (hb hby d7_18) rfl k) ?_
      refine own_back (S' := s₁.setTop (mkF m 20 #[.val (.ref a1), .val (.int (2 : Int32)), .val (.int p3)] [(.int c2)])) (own_ldC X0 hx hZ e0 PA (k := 2) (w := c2) (by decide) rfl (by decide) rfl (g := (mkF m 19 #[.val (.ref a1), .val (.int (2 : Int32)), .val (.int p3)] [(.int (2 : Int32)), (.ref a1)])) rfl rfl (hb hby d7_19)) ?_
      refine own_back (S' := s₁.setTop (mkF m 22 #[.val (.ref a1), .val (.int (2 : Int32)), .val (.int p3)] [(.int (10 : Int32)), (.int c2)])) (fun _ k => XS.bipush X0.here hx rfl (hb hby d7_20)  k) ?_
      by_cases hc22_4 : c2 = (10 : Int32)
      ·
        refine own_back (S' := s₁.setTop (mkF m 25 #[.val (.ref a1), .val (.int (2 : Int32)), .val (.int p3)] [])) (fun _ k => XS.icmpNo X0.here hx rfl (hb hby d7_22) rfl (teq hc22_4).2 k) ?_
        refine own_back (S' := s₁.setTop (mkF m 26 #[.val (.ref a1), .val (.int (2 : Int32)), .val (.int p3)] [(.int (2 : Int32))])) (fun _ k => XS.iloadN X0.here hx rfl (hb hby d7_25) rfl k) ?_
        refine own_back (S' := s₁.setTop (mkF m 29 #[.val (.ref a1), .val (.int (2 : Int32)), .val (.int p3)] [])) (fun _ k => XS.ifNo X0.here hx rfl (hb hby d7_26) rfl ((if0 _ _).trans (tlt ((by decide) : (0 : Int32) < (2 : Int32))).2.2.2) k) ?_
        refine own_back (S' := s₁.setTop (mkF m 30 #[.val (.ref a1), .val (.int (2 : Int32)), .val (.int p3)] [(.ref a1)])) (fun _ k => XS.aloadN X0.here hx rfl (hb hby d7_29) rfl rfl k) ?_
        refine own_back (S' := s₁.setTop (mkF m 31 #[.val (.ref a1), .val (.int (2 : Int32)), .val (.int p3)] [(.int (2 : Int32)), (.ref a1)])) (fun _ k => XS.iloadN X0.here hx rfl (hb hby d7_30) rfl k) ?_
        refine own_back (S' := s₁.setTop (mkF m 32 #[.val (.ref a1), .val (.int (2 : Int32)), .val (.int p3)] [(.int (1 : Int32)), (.int (2 : Int32)), (.ref a1)])) (fun _ k => XS.iconst X0.here hx rfl (hb hby d7_31)  k) ?_
        refine own_back (S' := s₁.setTop (mkF m 33 #[.val (.ref a1), .val (.int (2 : Int32)), .val (.int p3)] [(.int ((2 : Int32) - (1 : Int32))), (.ref a1)])) (fun _ k => XS.isub X0.here hx rfl (hb hby d7_32) rfl k) ?_
        refine own_back (S' := s₁.setTop (mkF m 34 #[.val (.ref a1), .val (.int (2 : Int32)), .val (.int p3)] [(.int c1)])) (own_ldC X0 hx hZ e0 PA (k := 1) (w := c1) (by decide) rfl (by decide) rfl (g := (mkF m 33 #[.val (.ref a1), .val (.int (2 : Int32)), .val (.int p3)] [(.int ((2 : Int32) - (1 : Int32))), (.ref a1)])) rfl rfl (hb hby d7_33)) ?_
        refine own_back (S' := s₁.setTop (mkF m 36 #[.val (.ref a1), .val (.int (2 : Int32)), .val (.int p3)] [(.int (13 : Int32)), (.int c1)])) (fun _ k => XS.bipush X0.here hx rfl (hb hby d7_34)  k) ?_
        by_cases hc36_5 : c1 = (13 : Int32)
        ·
          refine own_back (S' := s₁.setTop (mkF m 39 #[.val (.ref a1), .val (.int (2 : Int32)), .val (.int p3)] [])) (fun _ k => XS.icmpNo X0.here hx rfl (hb hby d7_36) rfl (teq hc36_5).2 k) ?_
          refine own_back (S' := s₁.setTop (mkF m 40 #[.val (.ref a1), .val (.int (2 : Int32)), .val (.int p3)] [(.int (0 : Int32))])) (fun _ k => XS.iconst X0.here hx rfl (hb hby d7_39)  k) ?_
          obtain ⟨fs, hr, hrun, hended, hW, hsame⟩ := X0.leave (v := some (.int (0 : Int32))) (fun h => by rw [Bd.returns] at h; cases h)
          refine own_done ⟨_, _, retI X0 hx Bd.returns (hb hby d7_40) hr, hrun, hended, _, _, rfl, ?_, ⟨_, rfl⟩, hW, hsame.mono (by decide) (by decide)⟩
          show Q7_2 Z a1 p3 c0 c1 c2 c3 h0 n0 _ s₁.heap _
          rw [e0]
          exact ⟨by unfold own_e; simp only [if_pos hc2_1, decide_eq_false hc12_2, decide_eq_true hc22_4, decide_eq_true hc36_5] <;> rfl, N0, rfl⟩
        ·
          refine own_back (S' := s₁.setTop (mkF m 41 #[.val (.ref a1), .val (.int (2 : Int32)), .val (.int p3)] [])) (fun _ k => XS.icmpYes X0.here hx rfl (pc0 := 36) (pc' := 41) rfl (hb hby d7_36) rfl (feq hc36_5).2 (by decide) (by decide) k) ?_
          refine own_back (S' := s₁.setTop (mkF m 42 #[.val (.ref a1), .val (.int (2 : Int32)), .val (.int p3)] [(.int (1 : Int32))])) (fun _ k => XS.iconst X0.here hx rfl (hb hby d7_41)  k) ?_
          obtain ⟨fs, hr, hrun, hended, hW, hsame⟩ := X0.leave (v := some (.int (1 : Int32))) (fun h => by rw [Bd.returns] at h; cases h)
          refine own_done ⟨_, _, retI X0 hx Bd.returns (hb hby d7_42) hr, hrun, hended, _, _, rfl, ?_, ⟨_, rfl⟩, hW, hsame.mono (by decide) (by decide)⟩
          show Q7_2 Z a1 p3 c0 c1 c2 c3 h0 n0 _ s₁.heap _
          rw [e0]
          exact ⟨by unfold own_e; simp only [if_pos hc2_1, decide_eq_false hc12_2, decide_eq_true hc22_4, decide_eq_false hc36_5] <;> rfl, N0, rfl⟩
      ·
        refine own_back (S' := s₁.setTop (mkF m 43 #[.val (.ref a1), .val (.int (2 : Int32)), .val (.int p3)] [])) (fun _ k => XS.icmpYes X0.here hx rfl (pc0 := 22) (pc' := 43) rfl (hb hby d7_22) rfl (feq hc22_4).2 (by decide) (by decide) k) ?_
        refine own_back (S' := s₁.setTop (mkF m 44 #[.val (.ref a1), .val (.int (2 : Int32)), .val (.int p3)] [(.int (0 : Int32))])) (fun _ k => XS.iconst X0.here hx rfl (hb hby d7_43)  k) ?_
        obtain ⟨fs, hr, hrun, hended, hW, hsame⟩ := X0.leave (v := some (.int (0 : Int32))) (fun h => by rw [Bd.returns] at h; cases h)
        refine own_done ⟨_, _, retI X0 hx Bd.returns (hb hby d7_44) hr, hrun, hended, _, _, rfl, ?_, ⟨_, rfl⟩, hW, hsame.mono (by decide) (by decide)⟩
        show Q7_2 Z a1 p3 c0 c1 c2 c3 h0 n0 _ s₁.heap _
        rw [e0]
        exact ⟨by unfold own_e; simp only [if_pos hc2_1, decide_eq_false hc12_2, decide_eq_false hc22_4] <;> rfl, N0, rfl⟩
  ·
    refine own_back (S' := s₁.setTop (mkF m 5 #[.val (.ref a1), .val (.int (2 : Int32)), .val (.int p3)] [])) (fun _ k => XS.icmpNo X0.here hx rfl (hb hby d7_2) rfl (flt hc2_1).1 k) ?_
    refine own_back (S' := s₁.setTop (mkF m 6 #[.val (.ref a1), .val (.int (2 : Int32)), .val (.int p3)] [(.int (0 : Int32))])) (fun _ k => XS.iconst X0.here hx rfl (hb hby d7_5)  k) ?_
    obtain ⟨fs, hr, hrun, hended, hW, hsame⟩ := X0.leave (v := some (.int (0 : Int32))) (fun h => by rw [Bd.returns] at h; cases h)
    refine own_done ⟨_, _, retI X0 hx Bd.returns (hb hby d7_6) hr, hrun, hended, _, _, rfl, ?_, ⟨_, rfl⟩, hW, hsame.mono (by decide) (by decide)⟩
    show Q7_2 Z a1 p3 c0 c1 c2 c3 h0 n0 _ s₁.heap _
    rw [e0]
    exact ⟨by unfold own_e; simp only [if_neg hc2_1] <;> rfl, N0, rfl⟩
def Q7_3 (Z : State) (a1 : Addr) (p3 : Int32) (c0 : Int32) (c1 : Int32) (c2 : Int32) (c3 : Int32) (h0 : Heap) (n0 : Nat) (v : Option Value) (h : Heap) (L : List Loc) : Prop := v = some (.int (own_e 3 p3 c2 c3)) ∧ Fr n0 L ∧ h = h0
set_option maxRecDepth 65536 in
set_option maxHeartbeats 40000000 in
theorem rm7_3 (l : Launch) (Z : State) (a0 : Array Value) (hw : ∀ d ∈ tables_1, d.before a0 Z = true) (ws : List Jvm.Cond) (a1 : Addr) (p3 : Int32) (c0 : Int32) (c1 : Int32) (c2 : Int32) (c3 : Int32) (h0 : Heap) (n0 : Nat) (Z0 : n0 ≤ h0.size) (PA : own_I Z h0 a1 .char 4 (own_f c0 c1 c2 c3)) :
    MetFree l (⟨"com/example/bindery/bindery/XmlPositionPassPinLaw", "ends", "([CII)I"⟩ : MethodName) (head1 (Jvm.Cond.code (⟨"com/example/bindery/bindery/XmlPositionPassPinLaw", "ends", "([CII)I"⟩ : MethodName) method_4_code 3 (some .int) :: ws) ({ frames := 0, cells := 0, slots := 0, locals := 0 } : Room)) (fun a U => a = #[(.ref a1), (.int (3 : Int32)), (.int p3)] ∧ Z.Warmed39 U.vm ∧ U.heap = h0) (fun _ _ _ _ _ => True) (fun _ U o U' => ∃ v L, o = .returned v ∧ Q7_3 Z a1 p3 c0 c1 c2 c3 h0 n0 v U'.heap L ∧ FrameEnd U o U' L ({ frames := 0, cells := 0, slots := 0, locals := 0 } : Room).cells ({ frames := 0, cells := 0, slots := 0, locals := 0 } : Room).slots) := by
  refine MetFree.of_bodySF (plainFor_of_name pn_com_example_bindery_bindery_XmlPositionPassPinLaw) hisR ?_
  intro p e s m args below meth c s₁ Bd hml0 hP hK
  obtain ⟨rfl, hZ, hh⟩ := hP
  have hx := Bd.exec
  have hby := Bd.bytes
  have hml : c.maxLocals = 3 := hml0
  have hown : s.vm.findClass "com/example/bindery/bindery/XmlPositionPassPinLaw" = some m.cls := findClass_of_methodNamed Bd.named
  have hnm := (name_of_methodNamed Bd.named Bd.method).1
  have X0 : Stand p l e ({ frames := 0, cells := 0, slots := 0, locals := 0 } : Room) s m #[(.ref a1), (.int (3 : Int32)), (.int p3)] below meth c s₁ [] 0 0 := Stand.of_body Bd
  have e0 : s₁.heap = h0 := by rw [← hh, Bd.state]; rfl
  have N0 := Fr.nil n0
  refine own_open (S' := s₁.setTop (mkF m 0 #[.val (.ref a1), .val (.int (3 : Int32)), .val (.int p3)] [])) (fun t k => castTop (ef_7 m a1 (3 : Int32) p3) k) ?_
  refine own_back (S' := s₁.setTop (mkF m 1 #[.val (.ref a1), .val (.int (3 : Int32)), .val (.int p3)] [(.int (3 : Int32))])) (fun _ k => XS.iloadN X0.here hx rfl (hb hby d7_0) rfl k) ?_
  refine own_back (S' := s₁.setTop (mkF m 2 #[.val (.ref a1), .val (.int (3 : Int32)), .val (.int p3)] [(.int p3), (.int (3 : Int32))])) (fun _ k => XS.iloadN X0.here hx rfl (hb hby d7_1) rfl k) ?_
  by_cases hc2_1 : (3 : Int32) < p3
  ·
    refine own_back (S' := s₁.setTop (mkF m 7 #[.val (.ref a1), .val (.int (3 : Int32)), .val (.int p3)] [])) (fun _ k => XS.icmpYes X0.here hx rfl (pc0 := 2) (pc' := 7) rfl (hb hby d7_2) rfl (tlt hc2_1).1 (by decide) (by decide) k) ?_
    refine own_back (S' := s₁.setTop (mkF m 8 #[.val (.ref a1), .val (.int (3 : Int32)), .val (.int p3)] [(.ref a1)])) (fun _ k => XS.aloadN X0.here hx rfl (hb hby d7_7) rfl rfl k) ?_
    refine own_back (S' := s₁.setTop (mkF m 9 #[.val (.ref a1), .val (.int (3 : Int32)), .val (.int p3)] [(.int (3 : Int32)), (.ref a1)])) (fun _ k => XS.iloadN X0.here hx rfl (hb hby d7_8) rfl k) ?_
    refine own_back (S' := s₁.setTop (mkF m 10 #[.val (.ref a1), .val (.int (3 : Int32)), .val (.int p3)] [(.int c3)])) (own_ldC X0 hx hZ e0 PA (k := 3) (w := c3) (by decide) rfl (by decide) rfl (g := (mkF m 9 #[.val (.ref a1), .val (.int (3 : Int32)), .val (.int p3)] [(.int (3 : Int32)), (.ref a1)])) rfl rfl (hb hby d7_9)) ?_
    refine own_back (S' := s₁.setTop (mkF m 12 #[.val (.ref a1), .val (.int (3 : Int32)), .val (.int p3)] [(.int (13 : Int32)), (.int c3)])) (fun _ k => XS.bipush X0.here hx rfl (hb hby d7_10)  k) ?_
    by_cases hc12_2 : c3 = (13 : Int32)
    ·
      refine own_back (S' := s₁.setTop (mkF m 15 #[.val (.ref a1), .val (.int (3 : Int32)), .val (.int p3)] [])) (fun _ k => XS.icmpNo X0.here hx rfl (hb hby d7_12) rfl (teq hc12_2).2 k) ?_
      refine own_back (S' := s₁.setTop (mkF m 16 #[.val (.ref a1), .val (.int (3 : Int32)), .val (.int p3)] [(.int (1 : Int32))])) (fun _ k => XS.iconst X0.here hx rfl (hb hby d7_15)  k) ?_
      obtain ⟨fs, hr, hrun, hended, hW, hsame⟩ := X0.leave (v := some (.int (1 : Int32))) (fun h => by rw [Bd.returns] at h; cases h)
      refine own_done ⟨_, _, retI X0 hx Bd.returns (hb hby d7_16) hr, hrun, hended, _, _, rfl, ?_, ⟨_, rfl⟩, hW, hsame.mono (by decide) (by decide)⟩
      show Q7_3 Z a1 p3 c0 c1 c2 c3 h0 n0 _ s₁.heap _
      rw [e0]
      exact ⟨by unfold own_e; simp only [if_pos hc2_1, decide_eq_true hc12_2] <;> rfl, N0, rfl⟩
    ·
      refine own_back (S' := s₁.setTop (mkF m 17 #[.val (.ref a1), .val (.int (3 : Int32)), .val (.int p3)] [])) (fun _ k => XS.icmpYes X0.here hx rfl (pc0 := 12) (pc' := 17) rfl (hb hby d7_12) rfl (feq hc12_2).2 (by decide) (by decide) k) ?_
      refine own_back (S' := s₁.setTop (mkF m 18 #[.val (.ref a1), .val (.int (3 : Int32)), .val (.int p3)] [(.ref a1)])) (fun _ k => XS.aloadN X0.here hx rfl (hb hby d7_17) rfl rfl k) ?_
      refine own_back (S' := s₁.setTop (mkF m 19 #[.val (.ref a1), .val (.int (3 : Int32)), .val (.int p3)] [(.int (3 : Int32)), (.ref a1)])) (fun _ k => XS.iloadN X0.here hx rfl (hb hby d7_18) rfl k) ?_
      refine own_back (S' := s₁.setTop (mkF m 20 #[.val (.ref a1), .val (.int (3 : Int32)), .val (.int p3)] [(.int c3)])) (own_ldC X0 hx hZ e0 PA (k := 3) (w := c3) (by decide) rfl (by decide) rfl (g := (mkF m 19 #[.val (.ref a1), .val (.int (3 : Int32)), .val (.int p3)] [(.int (3 : Int32)), (.ref a1)])) rfl rfl (hb hby d7_19)) ?_
      refine own_back (S' := s₁.setTop (mkF m 22 #[.val (.ref a1), .val (.int (3 : Int32)), .val (.int p3)] [(.int (10 : Int32)), (.int c3)])) (fun _ k => XS.bipush X0.here hx rfl (hb hby d7_20)  k) ?_
      by_cases hc22_4 : c3 = (10 : Int32)
      ·
        refine own_back (S' := s₁.setTop (mkF m 25 #[.val (.ref a1), .val (.int (3 : Int32)), .val (.int p3)] [])) (fun _ k => XS.icmpNo X0.here hx rfl (hb hby d7_22) rfl (teq hc22_4).2 k) ?_
        refine own_back (S' := s₁.setTop (mkF m 26 #[.val (.ref a1), .val (.int (3 : Int32)), .val (.int p3)] [(.int (3 : Int32))])) (fun _ k => XS.iloadN X0.here hx rfl (hb hby d7_25) rfl k) ?_
        refine own_back (S' := s₁.setTop (mkF m 29 #[.val (.ref a1), .val (.int (3 : Int32)), .val (.int p3)] [])) (fun _ k => XS.ifNo X0.here hx rfl (hb hby d7_26) rfl ((if0 _ _).trans (tlt ((by decide) : (0 : Int32) < (3 : Int32))).2.2.2) k) ?_
        refine own_back (S' := s₁.setTop (mkF m 30 #[.val (.ref a1), .val (.int (3 : Int32)), .val (.int p3)] [(.ref a1)])) (fun _ k => XS.aloadN X0.here hx rfl (hb hby d7_29) rfl rfl k) ?_
        refine own_back (S' := s₁.setTop (mkF m 31 #[.val (.ref a1), .val (.int (3 : Int32)), .val (.int p3)] [(.int (3 : Int32)), (.ref a1)])) (fun _ k => XS.iloadN X0.here hx rfl (hb hby d7_30) rfl k) ?_
        refine own_back (S' := s₁.setTop (mkF m 32 #[.val (.ref a1), .val (.int (3 : Int32)), .val (.int p3)] [(.int (1 : Int32)), (.int (3 : Int32)), (.ref a1)])) (fun _ k => XS.iconst X0.here hx rfl (hb hby d7_31)  k) ?_
        refine own_back (S' := s₁.setTop (mkF m 33 #[.val (.ref a1), .val (.int (3 : Int32)), .val (.int p3)] [(.int ((3 : Int32) - (1 : Int32))), (.ref a1)])) (fun _ k => XS.isub X0.here hx rfl (hb hby d7_32) rfl k) ?_
        refine own_back (S' := s₁.setTop (mkF m 34 #[.val (.ref a1), .val (.int (3 : Int32)), .val (.int p3)] [(.int c2)])) (own_ldC X0 hx hZ e0 PA (k := 2) (w := c2) (by decide) rfl (by decide) rfl (g := (mkF m 33 #[.val (.ref a1), .val (.int (3 : Int32)), .val (.int p3)] [(.int ((3 : Int32) - (1 : Int32))), (.ref a1)])) rfl rfl (hb hby d7_33)) ?_
        refine own_back (S' := s₁.setTop (mkF m 36 #[.val (.ref a1), .val (.int (3 : Int32)), .val (.int p3)] [(.int (13 : Int32)), (.int c2)])) (fun _ k => XS.bipush X0.here hx rfl (hb hby d7_34)  k) ?_
        by_cases hc36_5 : c2 = (13 : Int32)
        ·
          refine own_back (S' := s₁.setTop (mkF m 39 #[.val (.ref a1), .val (.int (3 : Int32)), .val (.int p3)] [])) (fun _ k => XS.icmpNo X0.here hx rfl (hb hby d7_36) rfl (teq hc36_5).2 k) ?_
          refine own_back (S' := s₁.setTop (mkF m 40 #[.val (.ref a1), .val (.int (3 : Int32)), .val (.int p3)] [(.int (0 : Int32))])) (fun _ k => XS.iconst X0.here hx rfl (hb hby d7_39)  k) ?_
          obtain ⟨fs, hr, hrun, hended, hW, hsame⟩ := X0.leave (v := some (.int (0 : Int32))) (fun h => by rw [Bd.returns] at h; cases h)
          refine own_done ⟨_, _, retI X0 hx Bd.returns (hb hby d7_40) hr, hrun, hended, _, _, rfl, ?_, ⟨_, rfl⟩, hW, hsame.mono (by decide) (by decide)⟩
          show Q7_3 Z a1 p3 c0 c1 c2 c3 h0 n0 _ s₁.heap _
          rw [e0]
          exact ⟨by unfold own_e; simp only [if_pos hc2_1, decide_eq_false hc12_2, decide_eq_true hc22_4, decide_eq_true hc36_5] <;> rfl, N0, rfl⟩
        ·
          refine own_back (S' := s₁.setTop (mkF m 41 #[.val (.ref a1), .val (.int (3 : Int32)), .val (.int p3)] [])) (fun _ k => XS.icmpYes X0.here hx rfl (pc0 := 36) (pc' := 41) rfl (hb hby d7_36) rfl (feq hc36_5).2 (by decide) (by decide) k) ?_
          refine own_back (S' := s₁.setTop (mkF m 42 #[.val (.ref a1), .val (.int (3 : Int32)), .val (.int p3)] [(.int (1 : Int32))])) (fun _ k => XS.iconst X0.here hx rfl (hb hby d7_41)  k) ?_
          obtain ⟨fs, hr, hrun, hended, hW, hsame⟩ := X0.leave (v := some (.int (1 : Int32))) (fun h => by rw [Bd.returns] at h; cases h)
          refine own_done ⟨_, _, retI X0 hx Bd.returns (hb hby d7_42) hr, hrun, hended, _, _, rfl, ?_, ⟨_, rfl⟩, hW, hsame.mono (by decide) (by decide)⟩
          show Q7_3 Z a1 p3 c0 c1 c2 c3 h0 n0 _ s₁.heap _
          rw [e0]
          exact ⟨by unfold own_e; simp only [if_pos hc2_1, decide_eq_false hc12_2, decide_eq_true hc22_4, decide_eq_false hc36_5] <;> rfl, N0, rfl⟩
      ·
        refine own_back (S' := s₁.setTop (mkF m 43 #[.val (.ref a1), .val (.int (3 : Int32)), .val (.int p3)] [])) (fun _ k => XS.icmpYes X0.here hx rfl (pc0 := 22) (pc' := 43) rfl (hb hby d7_22) rfl (feq hc22_4).2 (by decide) (by decide) k) ?_
        refine own_back (S' := s₁.setTop (mkF m 44 #[.val (.ref a1), .val (.int (3 : Int32)), .val (.int p3)] [(.int (0 : Int32))])) (fun _ k => XS.iconst X0.here hx rfl (hb hby d7_43)  k) ?_
        obtain ⟨fs, hr, hrun, hended, hW, hsame⟩ := X0.leave (v := some (.int (0 : Int32))) (fun h => by rw [Bd.returns] at h; cases h)
        refine own_done ⟨_, _, retI X0 hx Bd.returns (hb hby d7_44) hr, hrun, hended, _, _, rfl, ?_, ⟨_, rfl⟩, hW, hsame.mono (by decide) (by decide)⟩
        show Q7_3 Z a1 p3 c0 c1 c2 c3 h0 n0 _ s₁.heap _
        rw [e0]
        exact ⟨by unfold own_e; simp only [if_pos hc2_1, decide_eq_false hc12_2, decide_eq_false hc22_4] <;> rfl, N0, rfl⟩
  ·
    refine own_back (S' := s₁.setTop (mkF m 5 #[.val (.ref a1), .val (.int (3 : Int32)), .val (.int p3)] [])) (fun _ k => XS.icmpNo X0.here hx rfl (hb hby d7_2) rfl (flt hc2_1).1 k) ?_
    refine own_back (S' := s₁.setTop (mkF m 6 #[.val (.ref a1), .val (.int (3 : Int32)), .val (.int p3)] [(.int (0 : Int32))])) (fun _ k => XS.iconst X0.here hx rfl (hb hby d7_5)  k) ?_
    obtain ⟨fs, hr, hrun, hended, hW, hsame⟩ := X0.leave (v := some (.int (0 : Int32))) (fun h => by rw [Bd.returns] at h; cases h)
    refine own_done ⟨_, _, retI X0 hx Bd.returns (hb hby d7_6) hr, hrun, hended, _, _, rfl, ?_, ⟨_, rfl⟩, hW, hsame.mono (by decide) (by decide)⟩
    show Q7_3 Z a1 p3 c0 c1 c2 c3 h0 n0 _ s₁.heap _
    rw [e0]
    exact ⟨by unfold own_e; simp only [if_neg hc2_1] <;> rfl, N0, rfl⟩
theorem pd_0 : parseMethodDescriptor "([CII)I" = some ⟨[(.array .char), .int, .int], some .int⟩ := by decide +kernel
theorem d6_0 : decode method_5_code 0 = .ok (.iconst 1, 1) := by decide +kernel
theorem d6_1 : decode method_5_code 1 = .ok (.aload_n 0, 1) := by decide +kernel
theorem d6_2 : decode method_5_code 2 = .ok (.iconst 0, 1) := by decide +kernel
theorem d6_3 : decode method_5_code 3 = .ok (.iload_n 1, 1) := by decide +kernel
theorem d6_4 : decode method_5_code 4 = .ok (.invokestatic 7, 3) := by decide +kernel
theorem d6_7 : decode method_5_code 7 = .ok (.iadd, 1) := by decide +kernel
theorem d6_8 : decode method_5_code 8 = .ok (.aload_n 0, 1) := by decide +kernel
theorem d6_9 : decode method_5_code 9 = .ok (.iconst 1, 1) := by decide +kernel
theorem d6_10 : decode method_5_code 10 = .ok (.iload_n 1, 1) := by decide +kernel
theorem d6_11 : decode method_5_code 11 = .ok (.invokestatic 7, 3) := by decide +kernel
theorem d6_14 : decode method_5_code 14 = .ok (.iadd, 1) := by decide +kernel
theorem d6_15 : decode method_5_code 15 = .ok (.aload_n 0, 1) := by decide +kernel
theorem d6_16 : decode method_5_code 16 = .ok (.iconst 2, 1) := by decide +kernel
theorem d6_17 : decode method_5_code 17 = .ok (.iload_n 1, 1) := by decide +kernel
theorem d6_18 : decode method_5_code 18 = .ok (.invokestatic 7, 3) := by decide +kernel
theorem d6_21 : decode method_5_code 21 = .ok (.iadd, 1) := by decide +kernel
theorem d6_22 : decode method_5_code 22 = .ok (.aload_n 0, 1) := by decide +kernel
theorem d6_23 : decode method_5_code 23 = .ok (.iconst 3, 1) := by decide +kernel
theorem d6_24 : decode method_5_code 24 = .ok (.iload_n 1, 1) := by decide +kernel
theorem d6_25 : decode method_5_code 25 = .ok (.invokestatic 7, 3) := by decide +kernel
theorem d6_28 : decode method_5_code 28 = .ok (.iadd, 1) := by decide +kernel
theorem d6_29 : decode method_5_code 29 = .ok (.ireturn, 1) := by decide +kernel
theorem ef_6 (m : MethodId) (x0 : Addr) (x1 : Int32) : entryFrame m #[(.ref x0), (.int x1)] 2 = mkF m 0 #[.val (.ref x0), .val (.int x1)] [] := by first | (simp [entryFrame, mkF, argsToLocals, Value.category]; done) | rfl
def Q6 (Z : State) (a1 : Addr) (p2 : Int32) (c0 : Int32) (c1 : Int32) (c2 : Int32) (c3 : Int32) (h0 : Heap) (n0 : Nat) (v : Option Value) (h : Heap) (L : List Loc) : Prop := v = some (.int (own_line p2 c0 c1 c2 c3)) ∧ Fr n0 L ∧ h = h0
set_option maxRecDepth 65536 in
set_option maxHeartbeats 40000000 in
theorem rm6 (l : Launch) (Z : State) (a0 : Array Value) (hw : ∀ d ∈ tables_1, d.before a0 Z = true) (ws : List Jvm.Cond) (a1 : Addr) (p2 : Int32) (c0 : Int32) (c1 : Int32) (c2 : Int32) (c3 : Int32) (h0 : Heap) (n0 : Nat) (Z0 : n0 ≤ h0.size) (PA : own_I Z h0 a1 .char 4 (own_f c0 c1 c2 c3)) :
    MetFree l (⟨"com/example/bindery/bindery/XmlPositionPassPinLaw", "line", "([CI)I"⟩ : MethodName) (head1 (Jvm.Cond.code (⟨"com/example/bindery/bindery/XmlPositionPassPinLaw", "line", "([CI)I"⟩ : MethodName) method_5_code 2 (some .int) :: ws) ({ frames := 1, cells := 0, slots := 0, locals := 15 } : Room)) (fun a U => a = #[(.ref a1), (.int p2)] ∧ Z.Warmed39 U.vm ∧ U.heap = h0) (fun _ _ _ _ _ => True) (fun _ U o U' => ∃ v L, o = .returned v ∧ Q6 Z a1 p2 c0 c1 c2 c3 h0 n0 v U'.heap L ∧ FrameEnd U o U' L ({ frames := 1, cells := 0, slots := 0, locals := 15 } : Room).cells ({ frames := 1, cells := 0, slots := 0, locals := 15 } : Room).slots) := by
  refine MetFree.of_bodySF (plainFor_of_name pn_com_example_bindery_bindery_XmlPositionPassPinLaw) hisR ?_
  intro p e s m args below meth c s₁ Bd hml0 hP hK
  obtain ⟨rfl, hZ, hh⟩ := hP
  have hx := Bd.exec
  have hby := Bd.bytes
  have hml : c.maxLocals = 2 := hml0
  have hown : s.vm.findClass "com/example/bindery/bindery/XmlPositionPassPinLaw" = some m.cls := findClass_of_methodNamed Bd.named
  have hnm := (name_of_methodNamed Bd.named Bd.method).1
  have X0 : Stand p l e ({ frames := 1, cells := 0, slots := 0, locals := 15 } : Room) s m #[(.ref a1), (.int p2)] below meth c s₁ [] 0 0 := Stand.of_body Bd
  have e0 : s₁.heap = h0 := by rw [← hh, Bd.state]; rfl
  have N0 := Fr.nil n0
  refine own_open (S' := s₁.setTop (mkF m 0 #[.val (.ref a1), .val (.int p2)] [])) (fun t k => castTop (ef_6 m a1 p2) k) ?_
  refine own_back (S' := s₁.setTop (mkF m 1 #[.val (.ref a1), .val (.int p2)] [(.int (1 : Int32))])) (fun _ k => XS.iconst X0.here hx rfl (hb hby d6_0)  k) ?_
  refine own_back (S' := s₁.setTop (mkF m 2 #[.val (.ref a1), .val (.int p2)] [(.ref a1), (.int (1 : Int32))])) (fun _ k => XS.aloadN X0.here hx rfl (hb hby d6_1) rfl rfl k) ?_
  refine own_back (S' := s₁.setTop (mkF m 3 #[.val (.ref a1), .val (.int p2)] [(.int (0 : Int32)), (.ref a1), (.int (1 : Int32))])) (fun _ k => XS.iconst X0.here hx rfl (hb hby d6_2)  k) ?_
  refine own_back (S' := s₁.setTop (mkF m 4 #[.val (.ref a1), .val (.int p2)] [(.int p2), (.int (0 : Int32)), (.ref a1), (.int (1 : Int32))])) (fun _ k => XS.iloadN X0.here hx rfl (hb hby d6_3) rfl k) ?_
  obtain ⟨_, _, ⟨T1, L1, k1, n1⟩, -, X1, ⟨Lc1, hQ1, l1, y1, z1⟩, st1⟩ := Jvm.LawKit.callS X0 hx (y := (⟨"com/example/bindery/bindery/XmlPositionPassPinLaw", "ends", "([CII)I"⟩ : MethodName)) hown (mvT hZ (hw _ (List.mem_of_getElem? (i := 33) rfl))) (mvT hZ (hw _ (List.mem_of_getElem? (i := 34) rfl))) (mvT hZ (hw _ (List.mem_of_getElem? (i := 3) rfl))) (mvT hZ (hw _ (List.mem_of_getElem? (i := 35) rfl))) (by decide) (backOf (W := 1) (rm7_0 l Z a0 hw [] a1 p2 c0 c1 c2 c3 h0 n0 Z0 PA) hZ (hw _ (List.mem_of_getElem? (i := 35) rfl)) (hw _ (List.mem_of_getElem? (i := 3) rfl)) (by decide) (by decide)) (g := (mkF m 4 #[.val (.ref a1), .val (.int p2)] [(.int p2), (.int (0 : Int32)), (.ref a1), (.int (1 : Int32))])) rfl (by rw [hml]; rfl) (argsL := [(.ref a1), (.int (0 : Int32)), (.int p2)]) (rest := [(.int (1 : Int32))]) (lenOf pd_0 rfl) rfl (by show 2 * 0 + _ ≤ _; exact Nat.le_of_eq rfl) (hb hby d6_4) (fun _ _ => ⟨rfl, e0, (by decide : 0 + 0 ≤ _), (by decide : 0 + 0 ≤ _)⟩)
  dsimp only [Pt.U, Pt.locs, Pt.cells, Pt.slots] at X1 l1 y1 z1 st1 hQ1
  subst l1 y1 z1
  obtain ⟨rfl, N1q, e1⟩ := hQ1
  have N1 := Fr.app N0 N1q
  refine own_back (S' := T1.setTop (mkF m 7 #[.val (.ref a1), .val (.int p2)] [(.int (own_e0 p2 c0)), (.int (1 : Int32))])) (st1) ?_
  refine own_back (S' := T1.setTop (mkF m 8 #[.val (.ref a1), .val (.int p2)] [(.int ((1 : Int32) + (own_e0 p2 c0)))])) (fun _ k => XS.iadd X1.here hx rfl (hb hby d6_7) rfl k) ?_
  refine own_back (S' := T1.setTop (mkF m 9 #[.val (.ref a1), .val (.int p2)] [(.ref a1), (.int ((1 : Int32) + (own_e0 p2 c0)))])) (fun _ k => XS.aloadN X1.here hx rfl (hb hby d6_8) rfl rfl k) ?_
  refine own_back (S' := T1.setTop (mkF m 10 #[.val (.ref a1), .val (.int p2)] [(.int (1 : Int32)), (.ref a1), (.int ((1 : Int32) + (own_e0 p2 c0)))])) (fun _ k => XS.iconst X1.here hx rfl (hb hby d6_9)  k) ?_
  refine own_back (S' := T1.setTop (mkF m 11 #[.val (.ref a1), .val (.int p2)] [(.int p2), (.int (1 : Int32)), (.ref a1), (.int ((1 : Int32) + (own_e0 p2 c0)))])) (fun _ k => XS.iloadN X1.here hx rfl (hb hby d6_10) rfl k) ?_
  obtain ⟨_, _, ⟨T2, L2, k2, n2⟩, -, X2, ⟨Lc2, hQ2, l2, y2, z2⟩, st2⟩ := Jvm.LawKit.callS X1 hx (y := (⟨"com/example/bindery/bindery/XmlPositionPassPinLaw", "ends", "([CII)I"⟩ : MethodName)) hown (mvT hZ (hw _ (List.mem_of_getElem? (i := 33) rfl))) (mvT hZ (hw _ (List.mem_of_getElem? (i := 34) rfl))) (mvT hZ (hw _ (List.mem_of_getElem? (i := 3) rfl))) (mvT hZ (hw _ (List.mem_of_getElem? (i := 35) rfl))) (by decide) (backOf (W := 1) (rm7_1 l Z a0 hw [] a1 p2 c0 c1 c2 c3 h0 n0 Z0 PA) hZ (hw _ (List.mem_of_getElem? (i := 35) rfl)) (hw _ (List.mem_of_getElem? (i := 3) rfl)) (by decide) (by decide)) (g := (mkF m 11 #[.val (.ref a1), .val (.int p2)] [(.int p2), (.int (1 : Int32)), (.ref a1), (.int ((1 : Int32) + (own_e0 p2 c0)))])) rfl (by rw [hml]; rfl) (argsL := [(.ref a1), (.int (1 : Int32)), (.int p2)]) (rest := [(.int ((1 : Int32) + (own_e0 p2 c0)))]) (lenOf pd_0 rfl) rfl (by show 2 * 0 + _ ≤ _; exact Nat.le_of_eq rfl) (hb hby d6_11) (fun _ _ => ⟨rfl, e1, (by decide : 0 + 0 ≤ _), (by decide : 0 + 0 ≤ _)⟩)
  dsimp only [Pt.U, Pt.locs, Pt.cells, Pt.slots] at X2 l2 y2 z2 st2 hQ2
  subst l2 y2 z2
  obtain ⟨rfl, N2q, e2⟩ := hQ2
  have N2 := Fr.app N1 N2q
  refine own_back (S' := T2.setTop (mkF m 14 #[.val (.ref a1), .val (.int p2)] [(.int (own_e 1 p2 c0 c1)), (.int ((1 : Int32) + (own_e0 p2 c0)))])) (st2) ?_
  refine own_back (S' := T2.setTop (mkF m 15 #[.val (.ref a1), .val (.int p2)] [(.int (((1 : Int32) + (own_e0 p2 c0)) + (own_e 1 p2 c0 c1)))])) (fun _ k => XS.iadd X2.here hx rfl (hb hby d6_14) rfl k) ?_
  refine own_back (S' := T2.setTop (mkF m 16 #[.val (.ref a1), .val (.int p2)] [(.ref a1), (.int (((1 : Int32) + (own_e0 p2 c0)) + (own_e 1 p2 c0 c1)))])) (fun _ k => XS.aloadN X2.here hx rfl (hb hby d6_15) rfl rfl k) ?_
  refine own_back (S' := T2.setTop (mkF m 17 #[.val (.ref a1), .val (.int p2)] [(.int (2 : Int32)), (.ref a1), (.int (((1 : Int32) + (own_e0 p2 c0)) + (own_e 1 p2 c0 c1)))])) (fun _ k => XS.iconst X2.here hx rfl (hb hby d6_16)  k) ?_
  refine own_back (S' := T2.setTop (mkF m 18 #[.val (.ref a1), .val (.int p2)] [(.int p2), (.int (2 : Int32)), (.ref a1), (.int (((1 : Int32) + (own_e0 p2 c0)) + (own_e 1 p2 c0 c1)))])) (fun _ k => XS.iloadN X2.here hx rfl (hb hby d6_17) rfl k) ?_
  obtain ⟨_, _, ⟨T3, L3, k3, n3⟩, -, X3, ⟨Lc3, hQ3, l3, y3, z3⟩, st3⟩ := Jvm.LawKit.callS X2 hx (y := (⟨"com/example/bindery/bindery/XmlPositionPassPinLaw", "ends", "([CII)I"⟩ : MethodName)) hown (mvT hZ (hw _ (List.mem_of_getElem? (i := 33) rfl))) (mvT hZ (hw _ (List.mem_of_getElem? (i := 34) rfl))) (mvT hZ (hw _ (List.mem_of_getElem? (i := 3) rfl))) (mvT hZ (hw _ (List.mem_of_getElem? (i := 35) rfl))) (by decide) (backOf (W := 1) (rm7_2 l Z a0 hw [] a1 p2 c0 c1 c2 c3 h0 n0 Z0 PA) hZ (hw _ (List.mem_of_getElem? (i := 35) rfl)) (hw _ (List.mem_of_getElem? (i := 3) rfl)) (by decide) (by decide)) (g := (mkF m 18 #[.val (.ref a1), .val (.int p2)] [(.int p2), (.int (2 : Int32)), (.ref a1), (.int (((1 : Int32) + (own_e0 p2 c0)) + (own_e 1 p2 c0 c1)))])) rfl (by rw [hml]; rfl) (argsL := [(.ref a1), (.int (2 : Int32)), (.int p2)]) (rest := [(.int (((1 : Int32) + (own_e0 p2 c0)) + (own_e 1 p2 c0 c1)))]) (lenOf pd_0 rfl) rfl (by show 2 * 0 + _ ≤ _; exact Nat.le_of_eq rfl) (hb hby d6_18) (fun _ _ => ⟨rfl, e2, (by decide : 0 + 0 ≤ _), (by decide : 0 + 0 ≤ _)⟩)
  dsimp only [Pt.U, Pt.locs, Pt.cells, Pt.slots] at X3 l3 y3 z3 st3 hQ3
  subst l3 y3 z3
  obtain ⟨rfl, N3q, e3⟩ := hQ3
  have N3 := Fr.app N2 N3q
  refine own_back (S' := T3.setTop (mkF m 21 #[.val (.ref a1), .val (.int p2)] [(.int (own_e 2 p2 c1 c2)), (.int (((1 : Int32) + (own_e0 p2 c0)) + (own_e 1 p2 c0 c1)))])) (st3) ?_
  refine own_back (S' := T3.setTop (mkF m 22 #[.val (.ref a1), .val (.int p2)] [(.int ((((1 : Int32) + (own_e0 p2 c0)) + (own_e 1 p2 c0 c1)) + (own_e 2 p2 c1 c2)))])) (fun _ k => XS.iadd X3.here hx rfl (hb hby d6_21) rfl k) ?_
  refine own_back (S' := T3.setTop (mkF m 23 #[.val (.ref a1), .val (.int p2)] [(.ref a1), (.int ((((1 : Int32) + (own_e0 p2 c0)) + (own_e 1 p2 c0 c1)) + (own_e 2 p2 c1 c2)))])) (fun _ k => XS.aloadN X3.here hx rfl (hb hby d6_22) rfl rfl k) ?_
  refine own_back (S' := T3.setTop (mkF m 24 #[.val (.ref a1), .val (.int p2)] [(.int (3 : Int32)), (.ref a1), (.int ((((1 : Int32) + (own_e0 p2 c0)) + (own_e 1 p2 c0 c1)) + (own_e 2 p2 c1 c2)))])) (fun _ k => XS.iconst X3.here hx rfl (hb hby d6_23)  k) ?_
  refine own_back (S' := T3.setTop (mkF m 25 #[.val (.ref a1), .val (.int p2)] [(.int p2), (.int (3 : Int32)), (.ref a1), (.int ((((1 : Int32) + (own_e0 p2 c0)) + (own_e 1 p2 c0 c1)) + (own_e 2 p2 c1 c2)))])) (fun _ k => XS.iloadN X3.here hx rfl (hb hby d6_24) rfl k) ?_
  obtain ⟨_, _, ⟨T4, L4, k4, n4⟩, -, X4, ⟨Lc4, hQ4, l4, y4, z4⟩, st4⟩ := Jvm.LawKit.callS X3 hx (y := (⟨"com/example/bindery/bindery/XmlPositionPassPinLaw", "ends", "([CII)I"⟩ : MethodName)) hown (mvT hZ (hw _ (List.mem_of_getElem? (i := 33) rfl))) (mvT hZ (hw _ (List.mem_of_getElem? (i := 34) rfl))) (mvT hZ (hw _ (List.mem_of_getElem? (i := 3) rfl))) (mvT hZ (hw _ (List.mem_of_getElem? (i := 35) rfl))) (by decide) (backOf (W := 1) (rm7_3 l Z a0 hw [] a1 p2 c0 c1 c2 c3 h0 n0 Z0 PA) hZ (hw _ (List.mem_of_getElem? (i := 35) rfl)) (hw _ (List.mem_of_getElem? (i := 3) rfl)) (by decide) (by decide)) (g := (mkF m 25 #[.val (.ref a1), .val (.int p2)] [(.int p2), (.int (3 : Int32)), (.ref a1), (.int ((((1 : Int32) + (own_e0 p2 c0)) + (own_e 1 p2 c0 c1)) + (own_e 2 p2 c1 c2)))])) rfl (by rw [hml]; rfl) (argsL := [(.ref a1), (.int (3 : Int32)), (.int p2)]) (rest := [(.int ((((1 : Int32) + (own_e0 p2 c0)) + (own_e 1 p2 c0 c1)) + (own_e 2 p2 c1 c2)))]) (lenOf pd_0 rfl) rfl (by show 2 * 0 + _ ≤ _; exact Nat.le_of_eq rfl) (hb hby d6_25) (fun _ _ => ⟨rfl, e3, (by decide : 0 + 0 ≤ _), (by decide : 0 + 0 ≤ _)⟩)
  dsimp only [Pt.U, Pt.locs, Pt.cells, Pt.slots] at X4 l4 y4 z4 st4 hQ4
  subst l4 y4 z4
  obtain ⟨rfl, N4q, e4⟩ := hQ4
  have N4 := Fr.app N3 N4q
  refine own_back (S' := T4.setTop (mkF m 28 #[.val (.ref a1), .val (.int p2)] [(.int (own_e 3 p2 c2 c3)), (.int ((((1 : Int32) + (own_e0 p2 c0)) + (own_e 1 p2 c0 c1)) + (own_e 2 p2 c1 c2)))])) (st4) ?_
  refine own_back (S' := T4.setTop (mkF m 29 #[.val (.ref a1), .val (.int p2)] [(.int (((((1 : Int32) + (own_e0 p2 c0)) + (own_e 1 p2 c0 c1)) + (own_e 2 p2 c1 c2)) + (own_e 3 p2 c2 c3)))])) (fun _ k => XS.iadd X4.here hx rfl (hb hby d6_28) rfl k) ?_
  obtain ⟨fs, hr, hrun, hended, hW, hsame⟩ := X4.leave (v := some (.int (((((1 : Int32) + (own_e0 p2 c0)) + (own_e 1 p2 c0 c1)) + (own_e 2 p2 c1 c2)) + (own_e 3 p2 c2 c3)))) (fun h => by rw [Bd.returns] at h; cases h)
  refine own_done ⟨_, _, retI X4 hx Bd.returns (hb hby d6_29) hr, hrun, hended, _, _, rfl, ?_, ⟨_, rfl⟩, hW, hsame.mono (by decide) (by decide)⟩
  show Q6 Z a1 p2 c0 c1 c2 c3 h0 n0 _ T4.heap _
  rw [e4]
  exact ⟨rfl, N4, rfl⟩
theorem pd_1 : parseMethodDescriptor "(C)Z" = some ⟨[.char], some .boolean⟩ := by decide +kernel
theorem d9_0 : decode method_6_code 0 = .ok (.iconst (-1), 1) := by decide +kernel
theorem d9_1 : decode method_6_code 1 = .ok (.istore_n 2, 1) := by decide +kernel
theorem d9_2 : decode method_6_code 2 = .ok (.iload_n 1, 1) := by decide +kernel
theorem d9_3 : decode method_6_code 3 = .ok (.ifCond .le 14, 3) := by decide +kernel
theorem d9_6 : decode method_6_code 6 = .ok (.aload_n 0, 1) := by decide +kernel
theorem d9_7 : decode method_6_code 7 = .ok (.iconst 0, 1) := by decide +kernel
theorem d9_8 : decode method_6_code 8 = .ok (.caload, 1) := by decide +kernel
theorem d9_9 : decode method_6_code 9 = .ok (.invokestatic 13, 3) := by decide +kernel
theorem d9_12 : decode method_6_code 12 = .ok (.ifCond .eq 5, 3) := by decide +kernel
theorem d9_15 : decode method_6_code 15 = .ok (.iconst 0, 1) := by decide +kernel
theorem d9_16 : decode method_6_code 16 = .ok (.istore_n 2, 1) := by decide +kernel
theorem d9_17 : decode method_6_code 17 = .ok (.iload_n 1, 1) := by decide +kernel
theorem d9_18 : decode method_6_code 18 = .ok (.iconst 1, 1) := by decide +kernel
theorem d9_19 : decode method_6_code 19 = .ok (.if_icmp .le 14, 3) := by decide +kernel
theorem d9_33 : decode method_6_code 33 = .ok (.iload_n 1, 1) := by decide +kernel
theorem d9_34 : decode method_6_code 34 = .ok (.iconst 2, 1) := by decide +kernel
theorem d9_35 : decode method_6_code 35 = .ok (.if_icmp .le 14, 3) := by decide +kernel
theorem d9_49 : decode method_6_code 49 = .ok (.iload_n 1, 1) := by decide +kernel
theorem d9_50 : decode method_6_code 50 = .ok (.iconst 3, 1) := by decide +kernel
theorem d9_51 : decode method_6_code 51 = .ok (.if_icmp .le 14, 3) := by decide +kernel
theorem d9_65 : decode method_6_code 65 = .ok (.iload_n 1, 1) := by decide +kernel
theorem d9_66 : decode method_6_code 66 = .ok (.iload_n 2, 1) := by decide +kernel
theorem d9_67 : decode method_6_code 67 = .ok (.isub, 1) := by decide +kernel
theorem d9_68 : decode method_6_code 68 = .ok (.ireturn, 1) := by decide +kernel
theorem ef_9 (m : MethodId) (x0 : Addr) (x1 : Int32) : entryFrame m #[(.ref x0), (.int x1)] 3 = mkF m 0 #[.val (.ref x0), .val (.int x1), .unset] [] := by first | (simp [entryFrame, mkF, argsToLocals, Value.category]; done) | rfl
def Q9_1 (Z : State) (a1 : Addr) (c0 : Int32) (c1 : Int32) (c2 : Int32) (c3 : Int32) (h0 : Heap) (n0 : Nat) (v : Option Value) (h : Heap) (L : List Loc) : Prop := v = some (.int ((1 : Int32) - own_l1 c0)) ∧ Fr n0 L ∧ h = h0
set_option maxRecDepth 65536 in
set_option maxHeartbeats 40000000 in
theorem rm9_1 (l : Launch) (Z : State) (a0 : Array Value) (hw : ∀ d ∈ tables_1, d.before a0 Z = true) (ws : List Jvm.Cond) (a1 : Addr) (c0 : Int32) (c1 : Int32) (c2 : Int32) (c3 : Int32) (h0 : Heap) (n0 : Nat) (Z0 : n0 ≤ h0.size) (PA : own_I Z h0 a1 .char 4 (own_f c0 c1 c2 c3)) :
    MetFree l (⟨"com/example/bindery/bindery/XmlPositionPassPinLaw", "col", "([CI)I"⟩ : MethodName) (head1 (Jvm.Cond.code (⟨"com/example/bindery/bindery/XmlPositionPassPinLaw", "col", "([CI)I"⟩ : MethodName) method_6_code 3 (some .int) :: ws) ({ frames := 1, cells := 0, slots := 0, locals := 12 } : Room)) (fun a U => a = #[(.ref a1), (.int (1 : Int32))] ∧ Z.Warmed39 U.vm ∧ U.heap = h0) (fun _ _ _ _ _ => True) (fun _ U o U' => ∃ v L, o = .returned v ∧ Q9_1 Z a1 c0 c1 c2 c3 h0 n0 v U'.heap L ∧ FrameEnd U o U' L ({ frames := 1, cells := 0, slots := 0, locals := 12 } : Room).cells ({ frames := 1, cells := 0, slots := 0, locals := 12 } : Room).slots) := by
  refine MetFree.of_bodySF (plainFor_of_name pn_com_example_bindery_bindery_XmlPositionPassPinLaw) hisR ?_
  intro p e s m args below meth c s₁ Bd hml0 hP hK
  obtain ⟨rfl, hZ, hh⟩ := hP
  have hx := Bd.exec
  have hby := Bd.bytes
  have hml : c.maxLocals = 3 := hml0
  have hown : s.vm.findClass "com/example/bindery/bindery/XmlPositionPassPinLaw" = some m.cls := findClass_of_methodNamed Bd.named
  have hnm := (name_of_methodNamed Bd.named Bd.method).1
  have X0 : Stand p l e ({ frames := 1, cells := 0, slots := 0, locals := 12 } : Room) s m #[(.ref a1), (.int (1 : Int32))] below meth c s₁ [] 0 0 := Stand.of_body Bd
  have e0 : s₁.heap = h0 := by rw [← hh, Bd.state]; rfl
  have N0 := Fr.nil n0
  refine own_open (S' := s₁.setTop (mkF m 0 #[.val (.ref a1), .val (.int (1 : Int32)), .unset] [])) (fun t k => castTop (ef_9 m a1 (1 : Int32)) k) ?_
  refine own_back (S' := s₁.setTop (mkF m 1 #[.val (.ref a1), .val (.int (1 : Int32)), .unset] [(.int (-1 : Int32))])) (fun _ k => XS.iconst X0.here hx rfl (hb hby d9_0)  k) ?_
  refine own_back (S' := s₁.setTop (mkF m 2 #[.val (.ref a1), .val (.int (1 : Int32)), .val (.int (-1 : Int32))] [])) (fun _ k => XS.istoreN X0.here hx rfl (hb hby d9_1) rfl (l' := #[.val (.ref a1), .val (.int (1 : Int32)), .val (.int (-1 : Int32))]) rfl k) ?_
  refine own_back (S' := s₁.setTop (mkF m 3 #[.val (.ref a1), .val (.int (1 : Int32)), .val (.int (-1 : Int32))] [(.int (1 : Int32))])) (fun _ k => XS.iloadN X0.here hx rfl (hb hby d9_2) rfl k) ?_
  refine own_back (S' := s₁.setTop (mkF m 6 #[.val (.ref a1), .val (.int (1 : Int32)), .val (.int (-1 : Int32))] [])) (fun _ k => XS.ifNo X0.here hx rfl (hb hby d9_3) rfl ((if0 _ _).trans (tlt ((by decide) : (0 : Int32) < (1 : Int32))).2.2.2) k) ?_
  refine own_back (S' := s₁.setTop (mkF m 7 #[.val (.ref a1), .val (.int (1 : Int32)), .val (.int (-1 : Int32))] [(.ref a1)])) (fun _ k => XS.aloadN X0.here hx rfl (hb hby d9_6) rfl rfl k) ?_
  refine own_back (S' := s₁.setTop (mkF m 8 #[.val (.ref a1), .val (.int (1 : Int32)), .val (.int (-1 : Int32))] [(.int (0 : Int32)), (.ref a1)])) (fun _ k => XS.iconst X0.here hx rfl (hb hby d9_7)  k) ?_
  refine own_back (S' := s₁.setTop (mkF m 9 #[.val (.ref a1), .val (.int (1 : Int32)), .val (.int (-1 : Int32))] [(.int c0)])) (own_ldC X0 hx hZ e0 PA (k := 0) (w := c0) (by decide) rfl (by decide) rfl (g := (mkF m 8 #[.val (.ref a1), .val (.int (1 : Int32)), .val (.int (-1 : Int32))] [(.int (0 : Int32)), (.ref a1)])) rfl rfl (hb hby d9_8)) ?_
  obtain ⟨_, _, ⟨T1, L1, k1, n1⟩, -, X1, ⟨Lc1, hQ1, l1, y1, z1⟩, st1⟩ := Jvm.LawKit.callS X0 hx (y := (⟨"com/example/bindery/bindery/XmlPositionPassPinLaw", "term", "(C)Z"⟩ : MethodName)) hown (mvT hZ (hw _ (List.mem_of_getElem? (i := 44) rfl))) (mvT hZ (hw _ (List.mem_of_getElem? (i := 45) rfl))) (mvT hZ (hw _ (List.mem_of_getElem? (i := 3) rfl))) (mvT hZ (hw _ (List.mem_of_getElem? (i := 46) rfl))) (by decide) (backOf (W := 0) (rm10 l Z a0 hw [] c0 h0 n0 Z0 ) hZ (hw _ (List.mem_of_getElem? (i := 46) rfl)) (hw _ (List.mem_of_getElem? (i := 3) rfl)) (by decide) (by decide)) (g := (mkF m 9 #[.val (.ref a1), .val (.int (1 : Int32)), .val (.int (-1 : Int32))] [(.int c0)])) rfl (by rw [hml]; rfl) (argsL := [(.int c0)]) (rest := []) (lenOf pd_1 rfl) rfl (by show 2 * 0 + _ ≤ _; exact Nat.le_of_eq rfl) (hb hby d9_9) (fun _ _ => ⟨rfl, e0, (by decide : 0 + 0 ≤ _), (by decide : 0 + 0 ≤ _)⟩)
  dsimp only [Pt.U, Pt.locs, Pt.cells, Pt.slots] at X1 l1 y1 z1 st1 hQ1
  subst l1 y1 z1
  obtain ⟨rfl, N1q, e1⟩ := hQ1
  have N1 := Fr.app N0 N1q
  refine own_back (S' := T1.setTop (mkF m 12 #[.val (.ref a1), .val (.int (1 : Int32)), .val (.int (-1 : Int32))] [(.int (own_tm c0))])) (st1) ?_
  by_cases hc12_2 : (own_tm c0) = (0 : Int32)
  ·
    refine own_back (S' := T1.setTop (mkF m 17 #[.val (.ref a1), .val (.int (1 : Int32)), .val (.int (-1 : Int32))] [])) (fun _ k => XS.ifYes X1.here hx rfl (pc0 := 12) (pc' := 17) rfl (hb hby d9_12) rfl ((if0 _ _).trans (teq hc12_2).1) (by decide) (by decide) k) ?_
    refine own_back (S' := T1.setTop (mkF m 18 #[.val (.ref a1), .val (.int (1 : Int32)), .val (.int (-1 : Int32))] [(.int (1 : Int32))])) (fun _ k => XS.iloadN X1.here hx rfl (hb hby d9_17) rfl k) ?_
    refine own_back (S' := T1.setTop (mkF m 19 #[.val (.ref a1), .val (.int (1 : Int32)), .val (.int (-1 : Int32))] [(.int (1 : Int32)), (.int (1 : Int32))])) (fun _ k => XS.iconst X1.here hx rfl (hb hby d9_18)  k) ?_
    refine own_back (S' := T1.setTop (mkF m 33 #[.val (.ref a1), .val (.int (1 : Int32)), .val (.int (-1 : Int32))] [])) (fun _ k => XS.icmpYes X1.here hx rfl (pc0 := 19) (pc' := 33) rfl (hb hby d9_19) rfl (flt ((by decide) : ¬ ((1 : Int32) < (1 : Int32)))).2.2.2 (by decide) (by decide) k) ?_
    refine own_back (S' := T1.setTop (mkF m 34 #[.val (.ref a1), .val (.int (1 : Int32)), .val (.int (-1 : Int32))] [(.int (1 : Int32))])) (fun _ k => XS.iloadN X1.here hx rfl (hb hby d9_33) rfl k) ?_
    refine own_back (S' := T1.setTop (mkF m 35 #[.val (.ref a1), .val (.int (1 : Int32)), .val (.int (-1 : Int32))] [(.int (2 : Int32)), (.int (1 : Int32))])) (fun _ k => XS.iconst X1.here hx rfl (hb hby d9_34)  k) ?_
    refine own_back (S' := T1.setTop (mkF m 49 #[.val (.ref a1), .val (.int (1 : Int32)), .val (.int (-1 : Int32))] [])) (fun _ k => XS.icmpYes X1.here hx rfl (pc0 := 35) (pc' := 49) rfl (hb hby d9_35) rfl (flt ((by decide) : ¬ ((2 : Int32) < (1 : Int32)))).2.2.2 (by decide) (by decide) k) ?_
    refine own_back (S' := T1.setTop (mkF m 50 #[.val (.ref a1), .val (.int (1 : Int32)), .val (.int (-1 : Int32))] [(.int (1 : Int32))])) (fun _ k => XS.iloadN X1.here hx rfl (hb hby d9_49) rfl k) ?_
    refine own_back (S' := T1.setTop (mkF m 51 #[.val (.ref a1), .val (.int (1 : Int32)), .val (.int (-1 : Int32))] [(.int (3 : Int32)), (.int (1 : Int32))])) (fun _ k => XS.iconst X1.here hx rfl (hb hby d9_50)  k) ?_
    refine own_back (S' := T1.setTop (mkF m 65 #[.val (.ref a1), .val (.int (1 : Int32)), .val (.int (-1 : Int32))] [])) (fun _ k => XS.icmpYes X1.here hx rfl (pc0 := 51) (pc' := 65) rfl (hb hby d9_51) rfl (flt ((by decide) : ¬ ((3 : Int32) < (1 : Int32)))).2.2.2 (by decide) (by decide) k) ?_
    refine own_back (S' := T1.setTop (mkF m 66 #[.val (.ref a1), .val (.int (1 : Int32)), .val (.int (-1 : Int32))] [(.int (1 : Int32))])) (fun _ k => XS.iloadN X1.here hx rfl (hb hby d9_65) rfl k) ?_
    refine own_back (S' := T1.setTop (mkF m 67 #[.val (.ref a1), .val (.int (1 : Int32)), .val (.int (-1 : Int32))] [(.int (-1 : Int32)), (.int (1 : Int32))])) (fun _ k => XS.iloadN X1.here hx rfl (hb hby d9_66) rfl k) ?_
    refine own_back (S' := T1.setTop (mkF m 68 #[.val (.ref a1), .val (.int (1 : Int32)), .val (.int (-1 : Int32))] [(.int ((1 : Int32) - (-1 : Int32)))])) (fun _ k => XS.isub X1.here hx rfl (hb hby d9_67) rfl k) ?_
    obtain ⟨fs, hr, hrun, hended, hW, hsame⟩ := X1.leave (v := some (.int ((1 : Int32) - (-1 : Int32)))) (fun h => by rw [Bd.returns] at h; cases h)
    refine own_done ⟨_, _, retI X1 hx Bd.returns (hb hby d9_68) hr, hrun, hended, _, _, rfl, ?_, ⟨_, rfl⟩, hW, hsame.mono (by decide) (by decide)⟩
    show Q9_1 Z a1 c0 c1 c2 c3 h0 n0 _ T1.heap _
    rw [e1]
    exact ⟨by simp only [own_l1, hc12_2, if_true, if_false], N1, rfl⟩
  ·
    refine own_back (S' := T1.setTop (mkF m 15 #[.val (.ref a1), .val (.int (1 : Int32)), .val (.int (-1 : Int32))] [])) (fun _ k => XS.ifNo X1.here hx rfl (hb hby d9_12) rfl ((if0 _ _).trans (feq hc12_2).1) k) ?_
    refine own_back (S' := T1.setTop (mkF m 16 #[.val (.ref a1), .val (.int (1 : Int32)), .val (.int (-1 : Int32))] [(.int (0 : Int32))])) (fun _ k => XS.iconst X1.here hx rfl (hb hby d9_15)  k) ?_
    refine own_back (S' := T1.setTop (mkF m 17 #[.val (.ref a1), .val (.int (1 : Int32)), .val (.int (0 : Int32))] [])) (fun _ k => XS.istoreN X1.here hx rfl (hb hby d9_16) rfl (l' := #[.val (.ref a1), .val (.int (1 : Int32)), .val (.int (0 : Int32))]) rfl k) ?_
    refine own_back (S' := T1.setTop (mkF m 18 #[.val (.ref a1), .val (.int (1 : Int32)), .val (.int (0 : Int32))] [(.int (1 : Int32))])) (fun _ k => XS.iloadN X1.here hx rfl (hb hby d9_17) rfl k) ?_
    refine own_back (S' := T1.setTop (mkF m 19 #[.val (.ref a1), .val (.int (1 : Int32)), .val (.int (0 : Int32))] [(.int (1 : Int32)), (.int (1 : Int32))])) (fun _ k => XS.iconst X1.here hx rfl (hb hby d9_18)  k) ?_
    refine own_back (S' := T1.setTop (mkF m 33 #[.val (.ref a1), .val (.int (1 : Int32)), .val (.int (0 : Int32))] [])) (fun _ k => XS.icmpYes X1.here hx rfl (pc0 := 19) (pc' := 33) rfl (hb hby d9_19) rfl (flt ((by decide) : ¬ ((1 : Int32) < (1 : Int32)))).2.2.2 (by decide) (by decide) k) ?_
    refine own_back (S' := T1.setTop (mkF m 34 #[.val (.ref a1), .val (.int (1 : Int32)), .val (.int (0 : Int32))] [(.int (1 : Int32))])) (fun _ k => XS.iloadN X1.here hx rfl (hb hby d9_33) rfl k) ?_
    refine own_back (S' := T1.setTop (mkF m 35 #[.val (.ref a1), .val (.int (1 : Int32)), .val (.int (0 : Int32))] [(.int (2 : Int32)), (.int (1 : Int32))])) (fun _ k => XS.iconst X1.here hx rfl (hb hby d9_34)  k) ?_
    refine own_back (S' := T1.setTop (mkF m 49 #[.val (.ref a1), .val (.int (1 : Int32)), .val (.int (0 : Int32))] [])) (fun _ k => XS.icmpYes X1.here hx rfl (pc0 := 35) (pc' := 49) rfl (hb hby d9_35) rfl (flt ((by decide) : ¬ ((2 : Int32) < (1 : Int32)))).2.2.2 (by decide) (by decide) k) ?_
    refine own_back (S' := T1.setTop (mkF m 50 #[.val (.ref a1), .val (.int (1 : Int32)), .val (.int (0 : Int32))] [(.int (1 : Int32))])) (fun _ k => XS.iloadN X1.here hx rfl (hb hby d9_49) rfl k) ?_
    refine own_back (S' := T1.setTop (mkF m 51 #[.val (.ref a1), .val (.int (1 : Int32)), .val (.int (0 : Int32))] [(.int (3 : Int32)), (.int (1 : Int32))])) (fun _ k => XS.iconst X1.here hx rfl (hb hby d9_50)  k) ?_
    refine own_back (S' := T1.setTop (mkF m 65 #[.val (.ref a1), .val (.int (1 : Int32)), .val (.int (0 : Int32))] [])) (fun _ k => XS.icmpYes X1.here hx rfl (pc0 := 51) (pc' := 65) rfl (hb hby d9_51) rfl (flt ((by decide) : ¬ ((3 : Int32) < (1 : Int32)))).2.2.2 (by decide) (by decide) k) ?_
    refine own_back (S' := T1.setTop (mkF m 66 #[.val (.ref a1), .val (.int (1 : Int32)), .val (.int (0 : Int32))] [(.int (1 : Int32))])) (fun _ k => XS.iloadN X1.here hx rfl (hb hby d9_65) rfl k) ?_
    refine own_back (S' := T1.setTop (mkF m 67 #[.val (.ref a1), .val (.int (1 : Int32)), .val (.int (0 : Int32))] [(.int (0 : Int32)), (.int (1 : Int32))])) (fun _ k => XS.iloadN X1.here hx rfl (hb hby d9_66) rfl k) ?_
    refine own_back (S' := T1.setTop (mkF m 68 #[.val (.ref a1), .val (.int (1 : Int32)), .val (.int (0 : Int32))] [(.int ((1 : Int32) - (0 : Int32)))])) (fun _ k => XS.isub X1.here hx rfl (hb hby d9_67) rfl k) ?_
    obtain ⟨fs, hr, hrun, hended, hW, hsame⟩ := X1.leave (v := some (.int ((1 : Int32) - (0 : Int32)))) (fun h => by rw [Bd.returns] at h; cases h)
    refine own_done ⟨_, _, retI X1 hx Bd.returns (hb hby d9_68) hr, hrun, hended, _, _, rfl, ?_, ⟨_, rfl⟩, hW, hsame.mono (by decide) (by decide)⟩
    show Q9_1 Z a1 c0 c1 c2 c3 h0 n0 _ T1.heap _
    rw [e1]
    exact ⟨by simp only [own_l1, hc12_2, if_true, if_false], N1, rfl⟩
theorem d9_22 : decode method_6_code 22 = .ok (.aload_n 0, 1) := by decide +kernel
theorem d9_23 : decode method_6_code 23 = .ok (.iconst 1, 1) := by decide +kernel
theorem d9_24 : decode method_6_code 24 = .ok (.caload, 1) := by decide +kernel
theorem d9_25 : decode method_6_code 25 = .ok (.invokestatic 13, 3) := by decide +kernel
theorem d9_28 : decode method_6_code 28 = .ok (.ifCond .eq 5, 3) := by decide +kernel
theorem d9_31 : decode method_6_code 31 = .ok (.iconst 1, 1) := by decide +kernel
theorem d9_32 : decode method_6_code 32 = .ok (.istore_n 2, 1) := by decide +kernel
def Q9_2 (Z : State) (a1 : Addr) (c0 : Int32) (c1 : Int32) (c2 : Int32) (c3 : Int32) (h0 : Heap) (n0 : Nat) (v : Option Value) (h : Heap) (L : List Loc) : Prop := v = some (.int ((2 : Int32) - own_l2 c0 c1)) ∧ Fr n0 L ∧ h = h0
set_option maxRecDepth 65536 in
set_option maxHeartbeats 40000000 in
theorem rm9_2 (l : Launch) (Z : State) (a0 : Array Value) (hw : ∀ d ∈ tables_1, d.before a0 Z = true) (ws : List Jvm.Cond) (a1 : Addr) (c0 : Int32) (c1 : Int32) (c2 : Int32) (c3 : Int32) (h0 : Heap) (n0 : Nat) (Z0 : n0 ≤ h0.size) (PA : own_I Z h0 a1 .char 4 (own_f c0 c1 c2 c3)) :
    MetFree l (⟨"com/example/bindery/bindery/XmlPositionPassPinLaw", "col", "([CI)I"⟩ : MethodName) (head1 (Jvm.Cond.code (⟨"com/example/bindery/bindery/XmlPositionPassPinLaw", "col", "([CI)I"⟩ : MethodName) method_6_code 3 (some .int) :: ws) ({ frames := 1, cells := 0, slots := 0, locals := 12 } : Room)) (fun a U => a = #[(.ref a1), (.int (2 : Int32))] ∧ Z.Warmed39 U.vm ∧ U.heap = h0) (fun _ _ _ _ _ => True) (fun _ U o U' => ∃ v L, o = .returned v ∧ Q9_2 Z a1 c0 c1 c2 c3 h0 n0 v U'.heap L ∧ FrameEnd U o U' L ({ frames := 1, cells := 0, slots := 0, locals := 12 } : Room).cells ({ frames := 1, cells := 0, slots := 0, locals := 12 } : Room).slots) := by
  refine MetFree.of_bodySF (plainFor_of_name pn_com_example_bindery_bindery_XmlPositionPassPinLaw) hisR ?_
  intro p e s m args below meth c s₁ Bd hml0 hP hK
  obtain ⟨rfl, hZ, hh⟩ := hP
  have hx := Bd.exec
  have hby := Bd.bytes
  have hml : c.maxLocals = 3 := hml0
  have hown : s.vm.findClass "com/example/bindery/bindery/XmlPositionPassPinLaw" = some m.cls := findClass_of_methodNamed Bd.named
  have hnm := (name_of_methodNamed Bd.named Bd.method).1
  have X0 : Stand p l e ({ frames := 1, cells := 0, slots := 0, locals := 12 } : Room) s m #[(.ref a1), (.int (2 : Int32))] below meth c s₁ [] 0 0 := Stand.of_body Bd
  have e0 : s₁.heap = h0 := by rw [← hh, Bd.state]; rfl
  have N0 := Fr.nil n0
  refine own_open (S' := s₁.setTop (mkF m 0 #[.val (.ref a1), .val (.int (2 : Int32)), .unset] [])) (fun t k => castTop (ef_9 m a1 (2 : Int32)) k) ?_
  refine own_back (S' := s₁.setTop (mkF m 1 #[.val (.ref a1), .val (.int (2 : Int32)), .unset] [(.int (-1 : Int32))])) (fun _ k => XS.iconst X0.here hx rfl (hb hby d9_0)  k) ?_
  refine own_back (S' := s₁.setTop (mkF m 2 #[.val (.ref a1), .val (.int (2 : Int32)), .val (.int (-1 : Int32))] [])) (fun _ k => XS.istoreN X0.here hx rfl (hb hby d9_1) rfl (l' := #[.val (.ref a1), .val (.int (2 : Int32)), .val (.int (-1 : Int32))]) rfl k) ?_
  refine own_back (S' := s₁.setTop (mkF m 3 #[.val (.ref a1), .val (.int (2 : Int32)), .val (.int (-1 : Int32))] [(.int (2 : Int32))])) (fun _ k => XS.iloadN X0.here hx rfl (hb hby d9_2) rfl k) ?_
  refine own_back (S' := s₁.setTop (mkF m 6 #[.val (.ref a1), .val (.int (2 : Int32)), .val (.int (-1 : Int32))] [])) (fun _ k => XS.ifNo X0.here hx rfl (hb hby d9_3) rfl ((if0 _ _).trans (tlt ((by decide) : (0 : Int32) < (2 : Int32))).2.2.2) k) ?_
  refine own_back (S' := s₁.setTop (mkF m 7 #[.val (.ref a1), .val (.int (2 : Int32)), .val (.int (-1 : Int32))] [(.ref a1)])) (fun _ k => XS.aloadN X0.here hx rfl (hb hby d9_6) rfl rfl k) ?_
  refine own_back (S' := s₁.setTop (mkF m 8 #[.val (.ref a1), .val (.int (2 : Int32)), .val (.int (-1 : Int32))] [(.int (0 : Int32)), (.ref a1)])) (fun _ k => XS.iconst X0.here hx rfl (hb hby d9_7)  k) ?_
  refine own_back (S' := s₁.setTop (mkF m 9 #[.val (.ref a1), .val (.int (2 : Int32)), .val (.int (-1 : Int32))] [(.int c0)])) (own_ldC X0 hx hZ e0 PA (k := 0) (w := c0) (by decide) rfl (by decide) rfl (g := (mkF m 8 #[.val (.ref a1), .val (.int (2 : Int32)), .val (.int (-1 : Int32))] [(.int (0 : Int32)), (.ref a1)])) rfl rfl (hb hby d9_8)) ?_
  obtain ⟨_, _, ⟨T1, L1, k1, n1⟩, -, X1, ⟨Lc1, hQ1, l1, y1, z1⟩, st1⟩ := Jvm.LawKit.callS X0 hx (y := (⟨"com/example/bindery/bindery/XmlPositionPassPinLaw", "term", "(C)Z"⟩ : MethodName)) hown (mvT hZ (hw _ (List.mem_of_getElem? (i := 44) rfl))) (mvT hZ (hw _ (List.mem_of_getElem? (i := 45) rfl))) (mvT hZ (hw _ (List.mem_of_getElem? (i := 3) rfl))) (mvT hZ (hw _ (List.mem_of_getElem? (i := 46) rfl))) (by decide) (backOf (W := 0) (rm10 l Z a0 hw [] c0 h0 n0 Z0 ) hZ (hw _ (List.mem_of_getElem? (i := 46) rfl)) (hw _ (List.mem_of_getElem? (i := 3) rfl)) (by decide) (by decide)) (g := (mkF m 9 #[.val (.ref a1), .val (.int (2 : Int32)), .val (.int (-1 : Int32))] [(.int c0)])) rfl (by rw [hml]; rfl) (argsL := [(.int c0)]) (rest := []) (lenOf pd_1 rfl) rfl (by show 2 * 0 + _ ≤ _; exact Nat.le_of_eq rfl) (hb hby d9_9) (fun _ _ => ⟨rfl, e0, (by decide : 0 + 0 ≤ _), (by decide : 0 + 0 ≤ _)⟩)
  dsimp only [Pt.U, Pt.locs, Pt.cells, Pt.slots] at X1 l1 y1 z1 st1 hQ1
  subst l1 y1 z1
  obtain ⟨rfl, N1q, e1⟩ := hQ1
  have N1 := Fr.app N0 N1q
  refine own_back (S' := T1.setTop (mkF m 12 #[.val (.ref a1), .val (.int (2 : Int32)), .val (.int (-1 : Int32))] [(.int (own_tm c0))])) (st1) ?_
  by_cases hc12_2 : (own_tm c0) = (0 : Int32)
  ·
    refine own_back (S' := T1.setTop (mkF m 17 #[.val (.ref a1), .val (.int (2 : Int32)), .val (.int (-1 : Int32))] [])) (fun _ k => XS.ifYes X1.here hx rfl (pc0 := 12) (pc' := 17) rfl (hb hby d9_12) rfl ((if0 _ _).trans (teq hc12_2).1) (by decide) (by decide) k) ?_
    refine own_back (S' := T1.setTop (mkF m 18 #[.val (.ref a1), .val (.int (2 : Int32)), .val (.int (-1 : Int32))] [(.int (2 : Int32))])) (fun _ k => XS.iloadN X1.here hx rfl (hb hby d9_17) rfl k) ?_
    refine own_back (S' := T1.setTop (mkF m 19 #[.val (.ref a1), .val (.int (2 : Int32)), .val (.int (-1 : Int32))] [(.int (1 : Int32)), (.int (2 : Int32))])) (fun _ k => XS.iconst X1.here hx rfl (hb hby d9_18)  k) ?_
    refine own_back (S' := T1.setTop (mkF m 22 #[.val (.ref a1), .val (.int (2 : Int32)), .val (.int (-1 : Int32))] [])) (fun _ k => XS.icmpNo X1.here hx rfl (hb hby d9_19) rfl (tlt ((by decide) : (1 : Int32) < (2 : Int32))).2.2.2 k) ?_
    refine own_back (S' := T1.setTop (mkF m 23 #[.val (.ref a1), .val (.int (2 : Int32)), .val (.int (-1 : Int32))] [(.ref a1)])) (fun _ k => XS.aloadN X1.here hx rfl (hb hby d9_22) rfl rfl k) ?_
    refine own_back (S' := T1.setTop (mkF m 24 #[.val (.ref a1), .val (.int (2 : Int32)), .val (.int (-1 : Int32))] [(.int (1 : Int32)), (.ref a1)])) (fun _ k => XS.iconst X1.here hx rfl (hb hby d9_23)  k) ?_
    refine own_back (S' := T1.setTop (mkF m 25 #[.val (.ref a1), .val (.int (2 : Int32)), .val (.int (-1 : Int32))] [(.int c1)])) (own_ldC X1 hx hZ e1 PA (k := 1) (w := c1) (by decide) rfl (by decide) rfl (g := (mkF m 24 #[.val (.ref a1), .val (.int (2 : Int32)), .val (.int (-1 : Int32))] [(.int (1 : Int32)), (.ref a1)])) rfl rfl (hb hby d9_24)) ?_
    obtain ⟨_, _, ⟨T3, L3, k3, n3⟩, -, X3, ⟨Lc3, hQ3, l3, y3, z3⟩, st3⟩ := Jvm.LawKit.callS X1 hx (y := (⟨"com/example/bindery/bindery/XmlPositionPassPinLaw", "term", "(C)Z"⟩ : MethodName)) hown (mvT hZ (hw _ (List.mem_of_getElem? (i := 44) rfl))) (mvT hZ (hw _ (List.mem_of_getElem? (i := 45) rfl))) (mvT hZ (hw _ (List.mem_of_getElem? (i := 3) rfl))) (mvT hZ (hw _ (List.mem_of_getElem? (i := 46) rfl))) (by decide) (backOf (W := 0) (rm10 l Z a0 hw [] c1 h0 n0 Z0 ) hZ (hw _ (List.mem_of_getElem? (i := 46) rfl)) (hw _ (List.mem_of_getElem? (i := 3) rfl)) (by decide) (by decide)) (g := (mkF m 25 #[.val (.ref a1), .val (.int (2 : Int32)), .val (.int (-1 : Int32))] [(.int c1)])) rfl (by rw [hml]; rfl) (argsL := [(.int c1)]) (rest := []) (lenOf pd_1 rfl) rfl (by show 2 * 0 + _ ≤ _; exact Nat.le_of_eq rfl) (hb hby d9_25) (fun _ _ => ⟨rfl, e1, (by decide : 0 + 0 ≤ _), (by decide : 0 + 0 ≤ _)⟩)
    dsimp only [Pt.U, Pt.locs, Pt.cells, Pt.slots] at X3 l3 y3 z3 st3 hQ3
    subst l3 y3 z3
    obtain ⟨rfl, N3q, e3⟩ := hQ3
    have N3 := Fr.app N1 N3q
    refine own_back (S' := T3.setTop (mkF m 28 #[.val (.ref a1), .val (.int (2 : Int32)), .val (.int (-1 : Int32))] [(.int (own_tm c1))])) (st3) ?_
    by_cases hc28_4 : (own_tm c1) = (0 : Int32)
    ·
      refine own_back (S' := T3.setTop (mkF m 33 #[.val (.ref a1), .val (.int (2 : Int32)), .val (.int (-1 : Int32))] [])) (fun _ k => XS.ifYes X3.here hx rfl (pc0 := 28) (pc' := 33) rfl (hb hby d9_28) rfl ((if0 _ _).trans (teq hc28_4).1) (by decide) (by decide) k) ?_
      refine own_back (S' := T3.setTop (mkF m 34 #[.val (.ref a1), .val (.int (2 : Int32)), .val (.int (-1 : Int32))] [(.int (2 : Int32))])) (fun _ k => XS.iloadN X3.here hx rfl (hb hby d9_33) rfl k) ?_
      refine own_back (S' := T3.setTop (mkF m 35 #[.val (.ref a1), .val (.int (2 : Int32)), .val (.int (-1 : Int32))] [(.int (2 : Int32)), (.int (2 : Int32))])) (fun _ k => XS.iconst X3.here hx rfl (hb hby d9_34)  k) ?_
      refine own_back (S' := T3.setTop (mkF m 49 #[.val (.ref a1), .val (.int (2 : Int32)), .val (.int (-1 : Int32))] [])) (fun _ k => XS.icmpYes X3.here hx rfl (pc0 := 35) (pc' := 49) rfl (hb hby d9_35) rfl (flt ((by decide) : ¬ ((2 : Int32) < (2 : Int32)))).2.2.2 (by decide) (by decide) k) ?_
      refine own_back (S' := T3.setTop (mkF m 50 #[.val (.ref a1), .val (.int (2 : Int32)), .val (.int (-1 : Int32))] [(.int (2 : Int32))])) (fun _ k => XS.iloadN X3.here hx rfl (hb hby d9_49) rfl k) ?_
      refine own_back (S' := T3.setTop (mkF m 51 #[.val (.ref a1), .val (.int (2 : Int32)), .val (.int (-1 : Int32))] [(.int (3 : Int32)), (.int (2 : Int32))])) (fun _ k => XS.iconst X3.here hx rfl (hb hby d9_50)  k) ?_
      refine own_back (S' := T3.setTop (mkF m 65 #[.val (.ref a1), .val (.int (2 : Int32)), .val (.int (-1 : Int32))] [])) (fun _ k => XS.icmpYes X3.here hx rfl (pc0 := 51) (pc' := 65) rfl (hb hby d9_51) rfl (flt ((by decide) : ¬ ((3 : Int32) < (2 : Int32)))).2.2.2 (by decide) (by decide) k) ?_
      refine own_back (S' := T3.setTop (mkF m 66 #[.val (.ref a1), .val (.int (2 : Int32)), .val (.int (-1 : Int32))] [(.int (2 : Int32))])) (fun _ k => XS.iloadN X3.here hx rfl (hb hby d9_65) rfl k) ?_
      refine own_back (S' := T3.setTop (mkF m 67 #[.val (.ref a1), .val (.int (2 : Int32)), .val (.int (-1 : Int32))] [(.int (-1 : Int32)), (.int (2 : Int32))])) (fun _ k => XS.iloadN X3.here hx rfl (hb hby d9_66) rfl k) ?_
      refine own_back (S' := T3.setTop (mkF m 68 #[.val (.ref a1), .val (.int (2 : Int32)), .val (.int (-1 : Int32))] [(.int ((2 : Int32) - (-1 : Int32)))])) (fun _ k => XS.isub X3.here hx rfl (hb hby d9_67) rfl k) ?_
      obtain ⟨fs, hr, hrun, hended, hW, hsame⟩ := X3.leave (v := some (.int ((2 : Int32) - (-1 : Int32)))) (fun h => by rw [Bd.returns] at h; cases h)
      refine own_done ⟨_, _, retI X3 hx Bd.returns (hb hby d9_68) hr, hrun, hended, _, _, rfl, ?_, ⟨_, rfl⟩, hW, hsame.mono (by decide) (by decide)⟩
      show Q9_2 Z a1 c0 c1 c2 c3 h0 n0 _ T3.heap _
      rw [e3]
      exact ⟨by simp only [own_l1, own_l2, hc12_2, hc28_4, if_true, if_false], N3, rfl⟩
    ·
      refine own_back (S' := T3.setTop (mkF m 31 #[.val (.ref a1), .val (.int (2 : Int32)), .val (.int (-1 : Int32))] [])) (fun _ k => XS.ifNo X3.here hx rfl (hb hby d9_28) rfl ((if0 _ _).trans (feq hc28_4).1) k) ?_
      refine own_back (S' := T3.setTop (mkF m 32 #[.val (.ref a1), .val (.int (2 : Int32)), .val (.int (-1 : Int32))] [(.int (1 : Int32))])) (fun _ k => XS.iconst X3.here hx rfl (hb hby d9_31)  k) ?_
      refine own_back (S' := T3.setTop (mkF m 33 #[.val (.ref a1), .val (.int (2 : Int32)), .val (.int (1 : Int32))] [])) (fun _ k => XS.istoreN X3.here hx rfl (hb hby d9_32) rfl (l' := #[.val (.ref a1), .val (.int (2 : Int32)), .val (.int (1 : Int32))]) rfl k) ?_
      refine own_back (S' := T3.setTop (mkF m 34 #[.val (.ref a1), .val (.int (2 : Int32)), .val (.int (1 : Int32))] [(.int (2 : Int32))])) (fun _ k => XS.iloadN X3.here hx rfl (hb hby d9_33) rfl k) ?_
      refine own_back (S' := T3.setTop (mkF m 35 #[.val (.ref a1), .val (.int (2 : Int32)), .val (.int (1 : Int32))] [(.int (2 : Int32)), (.int (2 : Int32))])) (fun _ k => XS.iconst X3.here hx rfl (hb hby d9_34)  k) ?_
      refine own_back (S' := T3.setTop (mkF m 49 #[.val (.ref a1), .val (.int (2 : Int32)), .val (.int (1 : Int32))] [])) (fun _ k => XS.icmpYes X3.here hx rfl (pc0 := 35) (pc' := 49) rfl (hb hby d9_35) rfl (flt ((by decide) : ¬ ((2 : Int32) < (2 : Int32)))).2.2.2 (by decide) (by decide) k) ?_
      refine own_back (S' := T3.setTop (mkF m 50 #[.val (.ref a1), .val (.int (2 : Int32)), .val (.int (1 : Int32))] [(.int (2 : Int32))])) (fun _ k => XS.iloadN X3.here hx rfl (hb hby d9_49) rfl k) ?_
      refine own_back (S' := T3.setTop (mkF m 51 #[.val (.ref a1), .val (.int (2 : Int32)), .val (.int (1 : Int32))] [(.int (3 : Int32)), (.int (2 : Int32))])) (fun _ k => XS.iconst X3.here hx rfl (hb hby d9_50)  k) ?_
      refine own_back (S' := T3.setTop (mkF m 65 #[.val (.ref a1), .val (.int (2 : Int32)), .val (.int (1 : Int32))] [])) (fun _ k => XS.icmpYes X3.here hx rfl (pc0 := 51) (pc' := 65) rfl (hb hby d9_51) rfl (flt ((by decide) : ¬ ((3 : Int32) < (2 : Int32)))).2.2.2 (by decide) (by decide) k) ?_
      refine own_back (S' := T3.setTop (mkF m 66 #[.val (.ref a1), .val (.int (2 : Int32)), .val (.int (1 : Int32))] [(.int (2 : Int32))])) (fun _ k => XS.iloadN X3.here hx rfl (hb hby d9_65) rfl k) ?_
      refine own_back (S' := T3.setTop (mkF m 67 #[.val (.ref a1), .val (.int (2 : Int32)), .val (.int (1 : Int32))] [(.int (1 : Int32)), (.int (2 : Int32))])) (fun _ k => XS.iloadN X3.here hx rfl (hb hby d9_66) rfl k) ?_
      refine own_back (S' := T3.setTop (mkF m 68 #[.val (.ref a1), .val (.int (2 : Int32)), .val (.int (1 : Int32))] [(.int ((2 : Int32) - (1 : Int32)))])) (fun _ k => XS.isub X3.here hx rfl (hb hby d9_67) rfl k) ?_
      obtain ⟨fs, hr, hrun, hended, hW, hsame⟩ := X3.leave (v := some (.int ((2 : Int32) - (1 : Int32)))) (fun h => by rw [Bd.returns] at h; cases h)
      refine own_done ⟨_, _, retI X3 hx Bd.returns (hb hby d9_68) hr, hrun, hended, _, _, rfl, ?_, ⟨_, rfl⟩, hW, hsame.mono (by decide) (by decide)⟩
      show Q9_2 Z a1 c0 c1 c2 c3 h0 n0 _ T3.heap _
      rw [e3]
      exact ⟨by simp only [own_l1, own_l2, hc12_2, hc28_4, if_true, if_false], N3, rfl⟩
  ·
    refine own_back (S' := T1.setTop (mkF m 15 #[.val (.ref a1), .val (.int (2 : Int32)), .val (.int (-1 : Int32))] [])) (fun _ k => XS.ifNo X1.here hx rfl (hb hby d9_12) rfl ((if0 _ _).trans (feq hc12_2).1) k) ?_
    refine own_back (S' := T1.setTop (mkF m 16 #[.val (.ref a1), .val (.int (2 : Int32)), .val (.int (-1 : Int32))] [(.int (0 : Int32))])) (fun _ k => XS.iconst X1.here hx rfl (hb hby d9_15)  k) ?_
    refine own_back (S' := T1.setTop (mkF m 17 #[.val (.ref a1), .val (.int (2 : Int32)), .val (.int (0 : Int32))] [])) (fun _ k => XS.istoreN X1.here hx rfl (hb hby d9_16) rfl (l' := #[.val (.ref a1), .val (.int (2 : Int32)), .val (.int (0 : Int32))]) rfl k) ?_
    refine own_back (S' := T1.setTop (mkF m 18 #[.val (.ref a1), .val (.int (2 : Int32)), .val (.int (0 : Int32))] [(.int (2 : Int32))])) (fun _ k => XS.iloadN X1.here hx rfl (hb hby d9_17) rfl k) ?_
    refine own_back (S' := T1.setTop (mkF m 19 #[.val (.ref a1), .val (.int (2 : Int32)), .val (.int (0 : Int32))] [(.int (1 : Int32)), (.int (2 : Int32))])) (fun _ k => XS.iconst X1.here hx rfl (hb hby d9_18)  k) ?_
    refine own_back (S' := T1.setTop (mkF m 22 #[.val (.ref a1), .val (.int (2 : Int32)), .val (.int (0 : Int32))] [])) (fun _ k => XS.icmpNo X1.here hx rfl (hb hby d9_19) rfl (tlt ((by decide) : (1 : Int32) < (2 : Int32))).2.2.2 k) ?_
    refine own_back (S' := T1.setTop (mkF m 23 #[.val (.ref a1), .val (.int (2 : Int32)), .val (.int (0 : Int32))] [(.ref a1)])) (fun _ k => XS.aloadN X1.here hx rfl (hb hby d9_22) rfl rfl k) ?_
    refine own_back (S' := T1.setTop (mkF m 24 #[.val (.ref a1), .val (.int (2 : Int32)), .val (.int (0 : Int32))] [(.int (1 : Int32)), (.ref a1)])) (fun _ k => XS.iconst X1.here hx rfl (hb hby d9_23)  k) ?_
    refine own_back (S' := T1.setTop (mkF m 25 #[.val (.ref a1), .val (.int (2 : Int32)), .val (.int (0 : Int32))] [(.int c1)])) (own_ldC X1 hx hZ e1 PA (k := 1) (w := c1) (by decide) rfl (by decide) rfl (g := (mkF m 24 #[.val (.ref a1), .val (.int (2 : Int32)), .val (.int (0 : Int32))] [(.int (1 : Int32)), (.ref a1)])) rfl rfl (hb hby d9_24)) ?_
    obtain ⟨_, _, ⟨T7, L7, k7, n7⟩, -, X7, ⟨Lc7, hQ7, l7, y7, z7⟩, st7⟩ := Jvm.LawKit.callS X1 hx (y := (⟨"com/example/bindery/bindery/XmlPositionPassPinLaw", "term", "(C)Z"⟩ : MethodName)) hown (mvT hZ (hw _ (List.mem_of_getElem? (i := 44) rfl))) (mvT hZ (hw _ (List.mem_of_getElem? (i := 45) rfl))) (mvT hZ (hw _ (List.mem_of_getElem? (i := 3) rfl))) (mvT hZ (hw _ (List.mem_of_getElem? (i := 46) rfl))) (by decide) (backOf (W := 0) (rm10 l Z a0 hw [] c1 h0 n0 Z0 ) hZ (hw _ (List.mem_of_getElem? (i := 46) rfl)) (hw _ (List.mem_of_getElem? (i := 3) rfl)) (by decide) (by decide)) (g := (mkF m 25 #[.val (.ref a1), .val (.int (2 : Int32)), .val (.int (0 : Int32))] [(.int c1)])) rfl (by rw [hml]; rfl) (argsL := [(.int c1)]) (rest := []) (lenOf pd_1 rfl) rfl (by show 2 * 0 + _ ≤ _; exact Nat.le_of_eq rfl) (hb hby d9_25) (fun _ _ => ⟨rfl, e1, (by decide : 0 + 0 ≤ _), (by decide : 0 + 0 ≤ _)⟩)
    dsimp only [Pt.U, Pt.locs, Pt.cells, Pt.slots] at X7 l7 y7 z7 st7 hQ7
    subst l7 y7 z7
    obtain ⟨rfl, N7q, e7⟩ := hQ7
    have N7 := Fr.app N1 N7q
    refine own_back (S' := T7.setTop (mkF m 28 #[.val (.ref a1), .val (.int (2 : Int32)), .val (.int (0 : Int32))] [(.int (own_tm c1))])) (st7) ?_
    by_cases hc28_8 : (own_tm c1) = (0 : Int32)
    ·
      refine own_back (S' := T7.setTop (mkF m 33 #[.val (.ref a1), .val (.int (2 : Int32)), .val (.int (0 : Int32))] [])) (fun _ k => XS.ifYes X7.here hx rfl (pc0 := 28) (pc' := 33) rfl (hb hby d9_28) rfl ((if0 _ _).trans (teq hc28_8).1) (by decide) (by decide) k) ?_
      refine own_back (S' := T7.setTop (mkF m 34 #[.val (.ref a1), .val (.int (2 : Int32)), .val (.int (0 : Int32))] [(.int (2 : Int32))])) (fun _ k => XS.iloadN X7.here hx rfl (hb hby d9_33) rfl k) ?_
      refine own_back (S' := T7.setTop (mkF m 35 #[.val (.ref a1), .val (.int (2 : Int32)), .val (.int (0 : Int32))] [(.int (2 : Int32)), (.int (2 : Int32))])) (fun _ k => XS.iconst X7.here hx rfl (hb hby d9_34)  k) ?_
      refine own_back (S' := T7.setTop (mkF m 49 #[.val (.ref a1), .val (.int (2 : Int32)), .val (.int (0 : Int32))] [])) (fun _ k => XS.icmpYes X7.here hx rfl (pc0 := 35) (pc' := 49) rfl (hb hby d9_35) rfl (flt ((by decide) : ¬ ((2 : Int32) < (2 : Int32)))).2.2.2 (by decide) (by decide) k) ?_
      refine own_back (S' := T7.setTop (mkF m 50 #[.val (.ref a1), .val (.int (2 : Int32)), .val (.int (0 : Int32))] [(.int (2 : Int32))])) (fun _ k => XS.iloadN X7.here hx rfl (hb hby d9_49) rfl k) ?_
      refine own_back (S' := T7.setTop (mkF m 51 #[.val (.ref a1), .val (.int (2 : Int32)), .val (.int (0 : Int32))] [(.int (3 : Int32)), (.int (2 : Int32))])) (fun _ k => XS.iconst X7.here hx rfl (hb hby d9_50)  k) ?_
      refine own_back (S' := T7.setTop (mkF m 65 #[.val (.ref a1), .val (.int (2 : Int32)), .val (.int (0 : Int32))] [])) (fun _ k => XS.icmpYes X7.here hx rfl (pc0 := 51) (pc' := 65) rfl (hb hby d9_51) rfl (flt ((by decide) : ¬ ((3 : Int32) < (2 : Int32)))).2.2.2 (by decide) (by decide) k) ?_
      refine own_back (S' := T7.setTop (mkF m 66 #[.val (.ref a1), .val (.int (2 : Int32)), .val (.int (0 : Int32))] [(.int (2 : Int32))])) (fun _ k => XS.iloadN X7.here hx rfl (hb hby d9_65) rfl k) ?_
      refine own_back (S' := T7.setTop (mkF m 67 #[.val (.ref a1), .val (.int (2 : Int32)), .val (.int (0 : Int32))] [(.int (0 : Int32)), (.int (2 : Int32))])) (fun _ k => XS.iloadN X7.here hx rfl (hb hby d9_66) rfl k) ?_
      refine own_back (S' := T7.setTop (mkF m 68 #[.val (.ref a1), .val (.int (2 : Int32)), .val (.int (0 : Int32))] [(.int ((2 : Int32) - (0 : Int32)))])) (fun _ k => XS.isub X7.here hx rfl (hb hby d9_67) rfl k) ?_
      obtain ⟨fs, hr, hrun, hended, hW, hsame⟩ := X7.leave (v := some (.int ((2 : Int32) - (0 : Int32)))) (fun h => by rw [Bd.returns] at h; cases h)
      refine own_done ⟨_, _, retI X7 hx Bd.returns (hb hby d9_68) hr, hrun, hended, _, _, rfl, ?_, ⟨_, rfl⟩, hW, hsame.mono (by decide) (by decide)⟩
      show Q9_2 Z a1 c0 c1 c2 c3 h0 n0 _ T7.heap _
      rw [e7]
      exact ⟨by simp only [own_l1, own_l2, hc12_2, hc28_8, if_true, if_false], N7, rfl⟩
    ·
      refine own_back (S' := T7.setTop (mkF m 31 #[.val (.ref a1), .val (.int (2 : Int32)), .val (.int (0 : Int32))] [])) (fun _ k => XS.ifNo X7.here hx rfl (hb hby d9_28) rfl ((if0 _ _).trans (feq hc28_8).1) k) ?_
      refine own_back (S' := T7.setTop (mkF m 32 #[.val (.ref a1), .val (.int (2 : Int32)), .val (.int (0 : Int32))] [(.int (1 : Int32))])) (fun _ k => XS.iconst X7.here hx rfl (hb hby d9_31)  k) ?_
      refine own_back (S' := T7.setTop (mkF m 33 #[.val (.ref a1), .val (.int (2 : Int32)), .val (.int (1 : Int32))] [])) (fun _ k => XS.istoreN X7.here hx rfl (hb hby d9_32) rfl (l' := #[.val (.ref a1), .val (.int (2 : Int32)), .val (.int (1 : Int32))]) rfl k) ?_
      refine own_back (S' := T7.setTop (mkF m 34 #[.val (.ref a1), .val (.int (2 : Int32)), .val (.int (1 : Int32))] [(.int (2 : Int32))])) (fun _ k => XS.iloadN X7.here hx rfl (hb hby d9_33) rfl k) ?_
      refine own_back (S' := T7.setTop (mkF m 35 #[.val (.ref a1), .val (.int (2 : Int32)), .val (.int (1 : Int32))] [(.int (2 : Int32)), (.int (2 : Int32))])) (fun _ k => XS.iconst X7.here hx rfl (hb hby d9_34)  k) ?_
      refine own_back (S' := T7.setTop (mkF m 49 #[.val (.ref a1), .val (.int (2 : Int32)), .val (.int (1 : Int32))] [])) (fun _ k => XS.icmpYes X7.here hx rfl (pc0 := 35) (pc' := 49) rfl (hb hby d9_35) rfl (flt ((by decide) : ¬ ((2 : Int32) < (2 : Int32)))).2.2.2 (by decide) (by decide) k) ?_
      refine own_back (S' := T7.setTop (mkF m 50 #[.val (.ref a1), .val (.int (2 : Int32)), .val (.int (1 : Int32))] [(.int (2 : Int32))])) (fun _ k => XS.iloadN X7.here hx rfl (hb hby d9_49) rfl k) ?_
      refine own_back (S' := T7.setTop (mkF m 51 #[.val (.ref a1), .val (.int (2 : Int32)), .val (.int (1 : Int32))] [(.int (3 : Int32)), (.int (2 : Int32))])) (fun _ k => XS.iconst X7.here hx rfl (hb hby d9_50)  k) ?_
      refine own_back (S' := T7.setTop (mkF m 65 #[.val (.ref a1), .val (.int (2 : Int32)), .val (.int (1 : Int32))] [])) (fun _ k => XS.icmpYes X7.here hx rfl (pc0 := 51) (pc' := 65) rfl (hb hby d9_51) rfl (flt ((by decide) : ¬ ((3 : Int32) < (2 : Int32)))).2.2.2 (by decide) (by decide) k) ?_
      refine own_back (S' := T7.setTop (mkF m 66 #[.val (.ref a1), .val (.int (2 : Int32)), .val (.int (1 : Int32))] [(.int (2 : Int32))])) (fun _ k => XS.iloadN X7.here hx rfl (hb hby d9_65) rfl k) ?_
      refine own_back (S' := T7.setTop (mkF m 67 #[.val (.ref a1), .val (.int (2 : Int32)), .val (.int (1 : Int32))] [(.int (1 : Int32)), (.int (2 : Int32))])) (fun _ k => XS.iloadN X7.here hx rfl (hb hby d9_66) rfl k) ?_
      refine own_back (S' := T7.setTop (mkF m 68 #[.val (.ref a1), .val (.int (2 : Int32)), .val (.int (1 : Int32))] [(.int ((2 : Int32) - (1 : Int32)))])) (fun _ k => XS.isub X7.here hx rfl (hb hby d9_67) rfl k) ?_
      obtain ⟨fs, hr, hrun, hended, hW, hsame⟩ := X7.leave (v := some (.int ((2 : Int32) - (1 : Int32)))) (fun h => by rw [Bd.returns] at h; cases h)
      refine own_done ⟨_, _, retI X7 hx Bd.returns (hb hby d9_68) hr, hrun, hended, _, _, rfl, ?_, ⟨_, rfl⟩, hW, hsame.mono (by decide) (by decide)⟩
      show Q9_2 Z a1 c0 c1 c2 c3 h0 n0 _ T7.heap _
      rw [e7]
      exact ⟨by simp only [own_l1, own_l2, hc12_2, hc28_8, if_true, if_false], N7, rfl⟩
theorem d9_38 : decode method_6_code 38 = .ok (.aload_n 0, 1) := by decide +kernel
theorem d9_39 : decode method_6_code 39 = .ok (.iconst 2, 1) := by decide +kernel
theorem d9_40 : decode method_6_code 40 = .ok (.caload, 1) := by decide +kernel
theorem d9_41 : decode method_6_code 41 = .ok (.invokestatic 13, 3) := by decide +kernel
theorem d9_44 : decode method_6_code 44 = .ok (.ifCond .eq 5, 3) := by decide +kernel
theorem d9_47 : decode method_6_code 47 = .ok (.iconst 2, 1) := by decide +kernel
theorem d9_48 : decode method_6_code 48 = .ok (.istore_n 2, 1) := by decide +kernel
def Q9_3 (Z : State) (a1 : Addr) (c0 : Int32) (c1 : Int32) (c2 : Int32) (c3 : Int32) (h0 : Heap) (n0 : Nat) (v : Option Value) (h : Heap) (L : List Loc) : Prop := v = some (.int ((3 : Int32) - own_l3 c0 c1 c2)) ∧ Fr n0 L ∧ h = h0
set_option maxRecDepth 65536 in
set_option maxHeartbeats 40000000 in
theorem rm9_3 (l : Launch) (Z : State) (a0 : Array Value) (hw : ∀ d ∈ tables_1, d.before a0 Z = true) (ws : List Jvm.Cond) (a1 : Addr) (c0 : Int32) (c1 : Int32) (c2 : Int32) (c3 : Int32) (h0 : Heap) (n0 : Nat) (Z0 : n0 ≤ h0.size) (PA : own_I Z h0 a1 .char 4 (own_f c0 c1 c2 c3)) :
    MetFree l (⟨"com/example/bindery/bindery/XmlPositionPassPinLaw", "col", "([CI)I"⟩ : MethodName) (head1 (Jvm.Cond.code (⟨"com/example/bindery/bindery/XmlPositionPassPinLaw", "col", "([CI)I"⟩ : MethodName) method_6_code 3 (some .int) :: ws) ({ frames := 1, cells := 0, slots := 0, locals := 12 } : Room)) (fun a U => a = #[(.ref a1), (.int (3 : Int32))] ∧ Z.Warmed39 U.vm ∧ U.heap = h0) (fun _ _ _ _ _ => True) (fun _ U o U' => ∃ v L, o = .returned v ∧ Q9_3 Z a1 c0 c1 c2 c3 h0 n0 v U'.heap L ∧ FrameEnd U o U' L ({ frames := 1, cells := 0, slots := 0, locals := 12 } : Room).cells ({ frames := 1, cells := 0, slots := 0, locals := 12 } : Room).slots) := by
  refine MetFree.of_bodySF (plainFor_of_name pn_com_example_bindery_bindery_XmlPositionPassPinLaw) hisR ?_
  intro p e s m args below meth c s₁ Bd hml0 hP hK
  obtain ⟨rfl, hZ, hh⟩ := hP
  have hx := Bd.exec
  have hby := Bd.bytes
  have hml : c.maxLocals = 3 := hml0
  have hown : s.vm.findClass "com/example/bindery/bindery/XmlPositionPassPinLaw" = some m.cls := findClass_of_methodNamed Bd.named
  have hnm := (name_of_methodNamed Bd.named Bd.method).1
  have X0 : Stand p l e ({ frames := 1, cells := 0, slots := 0, locals := 12 } : Room) s m #[(.ref a1), (.int (3 : Int32))] below meth c s₁ [] 0 0 := Stand.of_body Bd
  have e0 : s₁.heap = h0 := by rw [← hh, Bd.state]; rfl
  have N0 := Fr.nil n0
  refine own_open (S' := s₁.setTop (mkF m 0 #[.val (.ref a1), .val (.int (3 : Int32)), .unset] [])) (fun t k => castTop (ef_9 m a1 (3 : Int32)) k) ?_
  refine own_back (S' := s₁.setTop (mkF m 1 #[.val (.ref a1), .val (.int (3 : Int32)), .unset] [(.int (-1 : Int32))])) (fun _ k => XS.iconst X0.here hx rfl (hb hby d9_0)  k) ?_
  refine own_back (S' := s₁.setTop (mkF m 2 #[.val (.ref a1), .val (.int (3 : Int32)), .val (.int (-1 : Int32))] [])) (fun _ k => XS.istoreN X0.here hx rfl (hb hby d9_1) rfl (l' := #[.val (.ref a1), .val (.int (3 : Int32)), .val (.int (-1 : Int32))]) rfl k) ?_
  refine own_back (S' := s₁.setTop (mkF m 3 #[.val (.ref a1), .val (.int (3 : Int32)), .val (.int (-1 : Int32))] [(.int (3 : Int32))])) (fun _ k => XS.iloadN X0.here hx rfl (hb hby d9_2) rfl k) ?_
  refine own_back (S' := s₁.setTop (mkF m 6 #[.val (.ref a1), .val (.int (3 : Int32)), .val (.int (-1 : Int32))] [])) (fun _ k => XS.ifNo X0.here hx rfl (hb hby d9_3) rfl ((if0 _ _).trans (tlt ((by decide) : (0 : Int32) < (3 : Int32))).2.2.2) k) ?_
  refine own_back (S' := s₁.setTop (mkF m 7 #[.val (.ref a1), .val (.int (3 : Int32)), .val (.int (-1 : Int32))] [(.ref a1)])) (fun _ k => XS.aloadN X0.here hx rfl (hb hby d9_6) rfl rfl k) ?_
  refine own_back (S' := s₁.setTop (mkF m 8 #[.val (.ref a1), .val (.int (3 : Int32)), .val (.int (-1 : Int32))] [(.int (0 : Int32)), (.ref a1)])) (fun _ k => XS.iconst X0.here hx rfl (hb hby d9_7)  k) ?_
  refine own_back (S' := s₁.setTop (mkF m 9 #[.val (.ref a1), .val (.int (3 : Int32)), .val (.int (-1 : Int32))] [(.int c0)])) (own_ldC X0 hx hZ e0 PA (k := 0) (w := c0) (by decide) rfl (by decide) rfl (g := (mkF m 8 #[.val (.ref a1), .val (.int (3 : Int32)), .val (.int (-1 : Int32))] [(.int (0 : Int32)), (.ref a1)])) rfl rfl (hb hby d9_8)) ?_
  obtain ⟨_, _, ⟨T1, L1, k1, n1⟩, -, X1, ⟨Lc1, hQ1, l1, y1, z1⟩, st1⟩ := Jvm.LawKit.callS X0 hx (y := (⟨"com/example/bindery/bindery/XmlPositionPassPinLaw", "term", "(C)Z"⟩ : MethodName)) hown (mvT hZ (hw _ (List.mem_of_getElem? (i := 44) rfl))) (mvT hZ (hw _ (List.mem_of_getElem? (i := 45) rfl))) (mvT hZ (hw _ (List.mem_of_getElem? (i := 3) rfl))) (mvT hZ (hw _ (List.mem_of_getElem? (i := 46) rfl))) (by decide) (backOf (W := 0) (rm10 l Z a0 hw [] c0 h0 n0 Z0 ) hZ (hw _ (List.mem_of_getElem? (i := 46) rfl)) (hw _ (List.mem_of_getElem? (i := 3) rfl)) (by decide) (by decide)) (g := (mkF m 9 #[.val (.ref a1), .val (.int (3 : Int32)), .val (.int (-1 : Int32))] [(.int c0)])) rfl (by rw [hml]; rfl) (argsL := [(.int c0)]) (rest := []) (lenOf pd_1 rfl) rfl (by show 2 * 0 + _ ≤ _; exact Nat.le_of_eq rfl) (hb hby d9_9) (fun _ _ => ⟨rfl, e0, (by decide : 0 + 0 ≤ _), (by decide : 0 + 0 ≤ _)⟩)
  dsimp only [Pt.U, Pt.locs, Pt.cells, Pt.slots] at X1 l1 y1 z1 st1 hQ1
  subst l1 y1 z1
  obtain ⟨rfl, N1q, e1⟩ := hQ1
  have N1 := Fr.app N0 N1q
  refine own_back (S' := T1.setTop (mkF m 12 #[.val (.ref a1), .val (.int (3 : Int32)), .val (.int (-1 : Int32))] [(.int (own_tm c0))])) (st1) ?_
  by_cases hc12_2 : (own_tm c0) = (0 : Int32)
  ·
    refine own_back (S' := T1.setTop (mkF m 17 #[.val (.ref a1), .val (.int (3 : Int32)), .val (.int (-1 : Int32))] [])) (fun _ k => XS.ifYes X1.here hx rfl (pc0 := 12) (pc' := 17) rfl (hb hby d9_12) rfl ((if0 _ _).trans (teq hc12_2).1) (by decide) (by decide) k) ?_
    refine own_back (S' := T1.setTop (mkF m 18 #[.val (.ref a1), .val (.int (3 : Int32)), .val (.int (-1 : Int32))] [(.int (3 : Int32))])) (fun _ k => XS.iloadN X1.here hx rfl (hb hby d9_17) rfl k) ?_
    refine own_back (S' := T1.setTop (mkF m 19 #[.val (.ref a1), .val (.int (3 : Int32)), .val (.int (-1 : Int32))] [(.int (1 : Int32)), (.int (3 : Int32))])) (fun _ k => XS.iconst X1.here hx rfl (hb hby d9_18)  k) ?_
    refine own_back (S' := T1.setTop (mkF m 22 #[.val (.ref a1), .val (.int (3 : Int32)), .val (.int (-1 : Int32))] [])) (fun _ k => XS.icmpNo X1.here hx rfl (hb hby d9_19) rfl (tlt ((by decide) : (1 : Int32) < (3 : Int32))).2.2.2 k) ?_
    refine own_back (S' := T1.setTop (mkF m 23 #[.val (.ref a1), .val (.int (3 : Int32)), .val (.int (-1 : Int32))] [(.ref a1)])) (fun _ k => XS.aloadN X1.here hx rfl (hb hby d9_22) rfl rfl k) ?_
    refine own_back (S' := T1.setTop (mkF m 24 #[.val (.ref a1), .val (.int (3 : Int32)), .val (.int (-1 : Int32))] [(.int (1 : Int32)), (.ref a1)])) (fun _ k => XS.iconst X1.here hx rfl (hb hby d9_23)  k) ?_
    refine own_back (S' := T1.setTop (mkF m 25 #[.val (.ref a1), .val (.int (3 : Int32)), .val (.int (-1 : Int32))] [(.int c1)])) (own_ldC X1 hx hZ e1 PA (k := 1) (w := c1) (by decide) rfl (by decide) rfl (g := (mkF m 24 #[.val (.ref a1), .val (.int (3 : Int32)), .val (.int (-1 : Int32))] [(.int (1 : Int32)), (.ref a1)])) rfl rfl (hb hby d9_24)) ?_
    obtain ⟨_, _, ⟨T3, L3, k3, n3⟩, -, X3, ⟨Lc3, hQ3, l3, y3, z3⟩, st3⟩ := Jvm.LawKit.callS X1 hx (y := (⟨"com/example/bindery/bindery/XmlPositionPassPinLaw", "term", "(C)Z"⟩ : MethodName)) hown (mvT hZ (hw _ (List.mem_of_getElem? (i := 44) rfl))) (mvT hZ (hw _ (List.mem_of_getElem? (i := 45) rfl))) (mvT hZ (hw _ (List.mem_of_getElem? (i := 3) rfl))) (mvT hZ (hw _ (List.mem_of_getElem? (i := 46) rfl))) (by decide) (backOf (W := 0) (rm10 l Z a0 hw [] c1 h0 n0 Z0 ) hZ (hw _ (List.mem_of_getElem? (i := 46) rfl)) (hw _ (List.mem_of_getElem? (i := 3) rfl)) (by decide) (by decide)) (g := (mkF m 25 #[.val (.ref a1), .val (.int (3 : Int32)), .val (.int (-1 : Int32))] [(.int c1)])) rfl (by rw [hml]; rfl) (argsL := [(.int c1)]) (rest := []) (lenOf pd_1 rfl) rfl (by show 2 * 0 + _ ≤ _; exact Nat.le_of_eq rfl) (hb hby d9_25) (fun _ _ => ⟨rfl, e1, (by decide : 0 + 0 ≤ _), (by decide : 0 + 0 ≤ _)⟩)
    dsimp only [Pt.U, Pt.locs, Pt.cells, Pt.slots] at X3 l3 y3 z3 st3 hQ3
    subst l3 y3 z3
    obtain ⟨rfl, N3q, e3⟩ := hQ3
    have N3 := Fr.app N1 N3q
    refine own_back (S' := T3.setTop (mkF m 28 #[.val (.ref a1), .val (.int (3 : Int32)), .val (.int (-1 : Int32))] [(.int (own_tm c1))])) (st3) ?_
    by_cases hc28_4 : (own_tm c1) = (0 : Int32)
    ·
      refine own_back (S' := T3.setTop (mkF m 33 #[.val (.ref a1), .val (.int (3 : Int32)), .val (.int (-1 : Int32))] [])) (fun _ k => XS.ifYes X3.here hx rfl (pc0 := 28) (pc' := 33) rfl (hb hby d9_28) rfl ((if0 _ _).trans (teq hc28_4).1) (by decide) (by decide) k) ?_
      refine own_back (S' := T3.setTop (mkF m 34 #[.val (.ref a1), .val (.int (3 : Int32)), .val (.int (-1 : Int32))] [(.int (3 : Int32))])) (fun _ k => XS.iloadN X3.here hx rfl (hb hby d9_33) rfl k) ?_
      refine own_back (S' := T3.setTop (mkF m 35 #[.val (.ref a1), .val (.int (3 : Int32)), .val (.int (-1 : Int32))] [(.int (2 : Int32)), (.int (3 : Int32))])) (fun _ k => XS.iconst X3.here hx rfl (hb hby d9_34)  k) ?_
      refine own_back (S' := T3.setTop (mkF m 38 #[.val (.ref a1), .val (.int (3 : Int32)), .val (.int (-1 : Int32))] [])) (fun _ k => XS.icmpNo X3.here hx rfl (hb hby d9_35) rfl (tlt ((by decide) : (2 : Int32) < (3 : Int32))).2.2.2 k) ?_
      refine own_back (S' := T3.setTop (mkF m 39 #[.val (.ref a1), .val (.int (3 : Int32)), .val (.int (-1 : Int32))] [(.ref a1)])) (fun _ k => XS.aloadN X3.here hx rfl (hb hby d9_38) rfl rfl k) ?_
      refine own_back (S' := T3.setTop (mkF m 40 #[.val (.ref a1), .val (.int (3 : Int32)), .val (.int (-1 : Int32))] [(.int (2 : Int32)), (.ref a1)])) (fun _ k => XS.iconst X3.here hx rfl (hb hby d9_39)  k) ?_
      refine own_back (S' := T3.setTop (mkF m 41 #[.val (.ref a1), .val (.int (3 : Int32)), .val (.int (-1 : Int32))] [(.int c2)])) (own_ldC X3 hx hZ e3 PA (k := 2) (w := c2) (by decide) rfl (by decide) rfl (g := (mkF m 40 #[.val (.ref a1), .val (.int (3 : Int32)), .val (.int (-1 : Int32))] [(.int (2 : Int32)), (.ref a1)])) rfl rfl (hb hby d9_40)) ?_
      obtain ⟨_, _, ⟨T5, L5, k5, n5⟩, -, X5, ⟨Lc5, hQ5, l5, y5, z5⟩, st5⟩ := Jvm.LawKit.callS X3 hx (y := (⟨"com/example/bindery/bindery/XmlPositionPassPinLaw", "term", "(C)Z"⟩ : MethodName)) hown (mvT hZ (hw _ (List.mem_of_getElem? (i := 44) rfl))) (mvT hZ (hw _ (List.mem_of_getElem? (i := 45) rfl))) (mvT hZ (hw _ (List.mem_of_getElem? (i := 3) rfl))) (mvT hZ (hw _ (List.mem_of_getElem? (i := 46) rfl))) (by decide) (backOf (W := 0) (rm10 l Z a0 hw [] c2 h0 n0 Z0 ) hZ (hw _ (List.mem_of_getElem? (i := 46) rfl)) (hw _ (List.mem_of_getElem? (i := 3) rfl)) (by decide) (by decide)) (g := (mkF m 41 #[.val (.ref a1), .val (.int (3 : Int32)), .val (.int (-1 : Int32))] [(.int c2)])) rfl (by rw [hml]; rfl) (argsL := [(.int c2)]) (rest := []) (lenOf pd_1 rfl) rfl (by show 2 * 0 + _ ≤ _; exact Nat.le_of_eq rfl) (hb hby d9_41) (fun _ _ => ⟨rfl, e3, (by decide : 0 + 0 ≤ _), (by decide : 0 + 0 ≤ _)⟩)
      dsimp only [Pt.U, Pt.locs, Pt.cells, Pt.slots] at X5 l5 y5 z5 st5 hQ5
      subst l5 y5 z5
      obtain ⟨rfl, N5q, e5⟩ := hQ5
      have N5 := Fr.app N3 N5q
      refine own_back (S' := T5.setTop (mkF m 44 #[.val (.ref a1), .val (.int (3 : Int32)), .val (.int (-1 : Int32))] [(.int (own_tm c2))])) (st5) ?_
      by_cases hc44_6 : (own_tm c2) = (0 : Int32)
      ·
        refine own_back (S' := T5.setTop (mkF m 49 #[.val (.ref a1), .val (.int (3 : Int32)), .val (.int (-1 : Int32))] [])) (fun _ k => XS.ifYes X5.here hx rfl (pc0 := 44) (pc' := 49) rfl (hb hby d9_44) rfl ((if0 _ _).trans (teq hc44_6).1) (by decide) (by decide) k) ?_
        refine own_back (S' := T5.setTop (mkF m 50 #[.val (.ref a1), .val (.int (3 : Int32)), .val (.int (-1 : Int32))] [(.int (3 : Int32))])) (fun _ k => XS.iloadN X5.here hx rfl (hb hby d9_49) rfl k) ?_
        refine own_back (S' := T5.setTop (mkF m 51 #[.val (.ref a1), .val (.int (3 : Int32)), .val (.int (-1 : Int32))] [(.int (3 : Int32)), (.int (3 : Int32))])) (fun _ k => XS.iconst X5.here hx rfl (hb hby d9_50)  k) ?_
        refine own_back (S' := T5.setTop (mkF m 65 #[.val (.ref a1), .val (.int (3 : Int32)), .val (.int (-1 : Int32))] [])) (fun _ k => XS.icmpYes X5.here hx rfl (pc0 := 51) (pc' := 65) rfl (hb hby d9_51) rfl (flt ((by decide) : ¬ ((3 : Int32) < (3 : Int32)))).2.2.2 (by decide) (by decide) k) ?_
        refine own_back (S' := T5.setTop (mkF m 66 #[.val (.ref a1), .val (.int (3 : Int32)), .val (.int (-1 : Int32))] [(.int (3 : Int32))])) (fun _ k => XS.iloadN X5.here hx rfl (hb hby d9_65) rfl k) ?_
        refine own_back (S' := T5.setTop (mkF m 67 #[.val (.ref a1), .val (.int (3 : Int32)), .val (.int (-1 : Int32))] [(.int (-1 : Int32)), (.int (3 : Int32))])) (fun _ k => XS.iloadN X5.here hx rfl (hb hby d9_66) rfl k) ?_
        refine own_back (S' := T5.setTop (mkF m 68 #[.val (.ref a1), .val (.int (3 : Int32)), .val (.int (-1 : Int32))] [(.int ((3 : Int32) - (-1 : Int32)))])) (fun _ k => XS.isub X5.here hx rfl (hb hby d9_67) rfl k) ?_
        obtain ⟨fs, hr, hrun, hended, hW, hsame⟩ := X5.leave (v := some (.int ((3 : Int32) - (-1 : Int32)))) (fun h => by rw [Bd.returns] at h; cases h)
        refine own_done ⟨_, _, retI X5 hx Bd.returns (hb hby d9_68) hr, hrun, hended, _, _, rfl, ?_, ⟨_, rfl⟩, hW, hsame.mono (by decide) (by decide)⟩
        show Q9_3 Z a1 c0 c1 c2 c3 h0 n0 _ T5.heap _
        rw [e5]
        exact ⟨by simp only [own_l1, own_l2, own_l3, hc12_2, hc28_4, hc44_6, if_true, if_false], N5, rfl⟩
      ·
        refine own_back (S' := T5.setTop (mkF m 47 #[.val (.ref a1), .val (.int (3 : Int32)), .val (.int (-1 : Int32))] [])) (fun _ k => XS.ifNo X5.here hx rfl (hb hby d9_44) rfl ((if0 _ _).trans (feq hc44_6).1) k) ?_
        refine own_back (S' := T5.setTop (mkF m 48 #[.val (.ref a1), .val (.int (3 : Int32)), .val (.int (-1 : Int32))] [(.int (2 : Int32))])) (fun _ k => XS.iconst X5.here hx rfl (hb hby d9_47)  k) ?_
        refine own_back (S' := T5.setTop (mkF m 49 #[.val (.ref a1), .val (.int (3 : Int32)), .val (.int (2 : Int32))] [])) (fun _ k => XS.istoreN X5.here hx rfl (hb hby d9_48) rfl (l' := #[.val (.ref a1), .val (.int (3 : Int32)), .val (.int (2 : Int32))]) rfl k) ?_
        refine own_back (S' := T5.setTop (mkF m 50 #[.val (.ref a1), .val (.int (3 : Int32)), .val (.int (2 : Int32))] [(.int (3 : Int32))])) (fun _ k => XS.iloadN X5.here hx rfl (hb hby d9_49) rfl k) ?_
        refine own_back (S' := T5.setTop (mkF m 51 #[.val (.ref a1), .val (.int (3 : Int32)), .val (.int (2 : Int32))] [(.int (3 : Int32)), (.int (3 : Int32))])) (fun _ k => XS.iconst X5.here hx rfl (hb hby d9_50)  k) ?_
        refine own_back (S' := T5.setTop (mkF m 65 #[.val (.ref a1), .val (.int (3 : Int32)), .val (.int (2 : Int32))] [])) (fun _ k => XS.icmpYes X5.here hx rfl (pc0 := 51) (pc' := 65) rfl (hb hby d9_51) rfl (flt ((by decide) : ¬ ((3 : Int32) < (3 : Int32)))).2.2.2 (by decide) (by decide) k) ?_
        refine own_back (S' := T5.setTop (mkF m 66 #[.val (.ref a1), .val (.int (3 : Int32)), .val (.int (2 : Int32))] [(.int (3 : Int32))])) (fun _ k => XS.iloadN X5.here hx rfl (hb hby d9_65) rfl k) ?_
        refine own_back (S' := T5.setTop (mkF m 67 #[.val (.ref a1), .val (.int (3 : Int32)), .val (.int (2 : Int32))] [(.int (2 : Int32)), (.int (3 : Int32))])) (fun _ k => XS.iloadN X5.here hx rfl (hb hby d9_66) rfl k) ?_
        refine own_back (S' := T5.setTop (mkF m 68 #[.val (.ref a1), .val (.int (3 : Int32)), .val (.int (2 : Int32))] [(.int ((3 : Int32) - (2 : Int32)))])) (fun _ k => XS.isub X5.here hx rfl (hb hby d9_67) rfl k) ?_
        obtain ⟨fs, hr, hrun, hended, hW, hsame⟩ := X5.leave (v := some (.int ((3 : Int32) - (2 : Int32)))) (fun h => by rw [Bd.returns] at h; cases h)
        refine own_done ⟨_, _, retI X5 hx Bd.returns (hb hby d9_68) hr, hrun, hended, _, _, rfl, ?_, ⟨_, rfl⟩, hW, hsame.mono (by decide) (by decide)⟩
        show Q9_3 Z a1 c0 c1 c2 c3 h0 n0 _ T5.heap _
        rw [e5]
        exact ⟨by simp only [own_l1, own_l2, own_l3, hc12_2, hc28_4, hc44_6, if_true, if_false], N5, rfl⟩
    ·
      refine own_back (S' := T3.setTop (mkF m 31 #[.val (.ref a1), .val (.int (3 : Int32)), .val (.int (-1 : Int32))] [])) (fun _ k => XS.ifNo X3.here hx rfl (hb hby d9_28) rfl ((if0 _ _).trans (feq hc28_4).1) k) ?_
      refine own_back (S' := T3.setTop (mkF m 32 #[.val (.ref a1), .val (.int (3 : Int32)), .val (.int (-1 : Int32))] [(.int (1 : Int32))])) (fun _ k => XS.iconst X3.here hx rfl (hb hby d9_31)  k) ?_
      refine own_back (S' := T3.setTop (mkF m 33 #[.val (.ref a1), .val (.int (3 : Int32)), .val (.int (1 : Int32))] [])) (fun _ k => XS.istoreN X3.here hx rfl (hb hby d9_32) rfl (l' := #[.val (.ref a1), .val (.int (3 : Int32)), .val (.int (1 : Int32))]) rfl k) ?_
      refine own_back (S' := T3.setTop (mkF m 34 #[.val (.ref a1), .val (.int (3 : Int32)), .val (.int (1 : Int32))] [(.int (3 : Int32))])) (fun _ k => XS.iloadN X3.here hx rfl (hb hby d9_33) rfl k) ?_
      refine own_back (S' := T3.setTop (mkF m 35 #[.val (.ref a1), .val (.int (3 : Int32)), .val (.int (1 : Int32))] [(.int (2 : Int32)), (.int (3 : Int32))])) (fun _ k => XS.iconst X3.here hx rfl (hb hby d9_34)  k) ?_
      refine own_back (S' := T3.setTop (mkF m 38 #[.val (.ref a1), .val (.int (3 : Int32)), .val (.int (1 : Int32))] [])) (fun _ k => XS.icmpNo X3.here hx rfl (hb hby d9_35) rfl (tlt ((by decide) : (2 : Int32) < (3 : Int32))).2.2.2 k) ?_
      refine own_back (S' := T3.setTop (mkF m 39 #[.val (.ref a1), .val (.int (3 : Int32)), .val (.int (1 : Int32))] [(.ref a1)])) (fun _ k => XS.aloadN X3.here hx rfl (hb hby d9_38) rfl rfl k) ?_
      refine own_back (S' := T3.setTop (mkF m 40 #[.val (.ref a1), .val (.int (3 : Int32)), .val (.int (1 : Int32))] [(.int (2 : Int32)), (.ref a1)])) (fun _ k => XS.iconst X3.here hx rfl (hb hby d9_39)  k) ?_
      refine own_back (S' := T3.setTop (mkF m 41 #[.val (.ref a1), .val (.int (3 : Int32)), .val (.int (1 : Int32))] [(.int c2)])) (own_ldC X3 hx hZ e3 PA (k := 2) (w := c2) (by decide) rfl (by decide) rfl (g := (mkF m 40 #[.val (.ref a1), .val (.int (3 : Int32)), .val (.int (1 : Int32))] [(.int (2 : Int32)), (.ref a1)])) rfl rfl (hb hby d9_40)) ?_
      obtain ⟨_, _, ⟨T9, L9, k9, n9⟩, -, X9, ⟨Lc9, hQ9, l9, y9, z9⟩, st9⟩ := Jvm.LawKit.callS X3 hx (y := (⟨"com/example/bindery/bindery/XmlPositionPassPinLaw", "term", "(C)Z"⟩ : MethodName)) hown (mvT hZ (hw _ (List.mem_of_getElem? (i := 44) rfl))) (mvT hZ (hw _ (List.mem_of_getElem? (i := 45) rfl))) (mvT hZ (hw _ (List.mem_of_getElem? (i := 3) rfl))) (mvT hZ (hw _ (List.mem_of_getElem? (i := 46) rfl))) (by decide) (backOf (W := 0) (rm10 l Z a0 hw [] c2 h0 n0 Z0 ) hZ (hw _ (List.mem_of_getElem? (i := 46) rfl)) (hw _ (List.mem_of_getElem? (i := 3) rfl)) (by decide) (by decide)) (g := (mkF m 41 #[.val (.ref a1), .val (.int (3 : Int32)), .val (.int (1 : Int32))] [(.int c2)])) rfl (by rw [hml]; rfl) (argsL := [(.int c2)]) (rest := []) (lenOf pd_1 rfl) rfl (by show 2 * 0 + _ ≤ _; exact Nat.le_of_eq rfl) (hb hby d9_41) (fun _ _ => ⟨rfl, e3, (by decide : 0 + 0 ≤ _), (by decide : 0 + 0 ≤ _)⟩)
      dsimp only [Pt.U, Pt.locs, Pt.cells, Pt.slots] at X9 l9 y9 z9 st9 hQ9
      subst l9 y9 z9
      obtain ⟨rfl, N9q, e9⟩ := hQ9
      have N9 := Fr.app N3 N9q
      refine own_back (S' := T9.setTop (mkF m 44 #[.val (.ref a1), .val (.int (3 : Int32)), .val (.int (1 : Int32))] [(.int (own_tm c2))])) (st9) ?_
      by_cases hc44_10 : (own_tm c2) = (0 : Int32)
      ·
        refine own_back (S' := T9.setTop (mkF m 49 #[.val (.ref a1), .val (.int (3 : Int32)), .val (.int (1 : Int32))] [])) (fun _ k => XS.ifYes X9.here hx rfl (pc0 := 44) (pc' := 49) rfl (hb hby d9_44) rfl ((if0 _ _).trans (teq hc44_10).1) (by decide) (by decide) k) ?_
        refine own_back (S' := T9.setTop (mkF m 50 #[.val (.ref a1), .val (.int (3 : Int32)), .val (.int (1 : Int32))] [(.int (3 : Int32))])) (fun _ k => XS.iloadN X9.here hx rfl (hb hby d9_49) rfl k) ?_
        refine own_back (S' := T9.setTop (mkF m 51 #[.val (.ref a1), .val (.int (3 : Int32)), .val (.int (1 : Int32))] [(.int (3 : Int32)), (.int (3 : Int32))])) (fun _ k => XS.iconst X9.here hx rfl (hb hby d9_50)  k) ?_
        refine own_back (S' := T9.setTop (mkF m 65 #[.val (.ref a1), .val (.int (3 : Int32)), .val (.int (1 : Int32))] [])) (fun _ k => XS.icmpYes X9.here hx rfl (pc0 := 51) (pc' := 65) rfl (hb hby d9_51) rfl (flt ((by decide) : ¬ ((3 : Int32) < (3 : Int32)))).2.2.2 (by decide) (by decide) k) ?_
        refine own_back (S' := T9.setTop (mkF m 66 #[.val (.ref a1), .val (.int (3 : Int32)), .val (.int (1 : Int32))] [(.int (3 : Int32))])) (fun _ k => XS.iloadN X9.here hx rfl (hb hby d9_65) rfl k) ?_
        refine own_back (S' := T9.setTop (mkF m 67 #[.val (.ref a1), .val (.int (3 : Int32)), .val (.int (1 : Int32))] [(.int (1 : Int32)), (.int (3 : Int32))])) (fun _ k => XS.iloadN X9.here hx rfl (hb hby d9_66) rfl k) ?_
        refine own_back (S' := T9.setTop (mkF m 68 #[.val (.ref a1), .val (.int (3 : Int32)), .val (.int (1 : Int32))] [(.int ((3 : Int32) - (1 : Int32)))])) (fun _ k => XS.isub X9.here hx rfl (hb hby d9_67) rfl k) ?_
        obtain ⟨fs, hr, hrun, hended, hW, hsame⟩ := X9.leave (v := some (.int ((3 : Int32) - (1 : Int32)))) (fun h => by rw [Bd.returns] at h; cases h)
        refine own_done ⟨_, _, retI X9 hx Bd.returns (hb hby d9_68) hr, hrun, hended, _, _, rfl, ?_, ⟨_, rfl⟩, hW, hsame.mono (by decide) (by decide)⟩
        show Q9_3 Z a1 c0 c1 c2 c3 h0 n0 _ T9.heap _
        rw [e9]
        exact ⟨by simp only [own_l1, own_l2, own_l3, hc12_2, hc28_4, hc44_10, if_true, if_false], N9, rfl⟩
      ·
        refine own_back (S' := T9.setTop (mkF m 47 #[.val (.ref a1), .val (.int (3 : Int32)), .val (.int (1 : Int32))] [])) (fun _ k => XS.ifNo X9.here hx rfl (hb hby d9_44) rfl ((if0 _ _).trans (feq hc44_10).1) k) ?_
        refine own_back (S' := T9.setTop (mkF m 48 #[.val (.ref a1), .val (.int (3 : Int32)), .val (.int (1 : Int32))] [(.int (2 : Int32))])) (fun _ k => XS.iconst X9.here hx rfl (hb hby d9_47)  k) ?_
        refine own_back (S' := T9.setTop (mkF m 49 #[.val (.ref a1), .val (.int (3 : Int32)), .val (.int (2 : Int32))] [])) (fun _ k => XS.istoreN X9.here hx rfl (hb hby d9_48) rfl (l' := #[.val (.ref a1), .val (.int (3 : Int32)), .val (.int (2 : Int32))]) rfl k) ?_
        refine own_back (S' := T9.setTop (mkF m 50 #[.val (.ref a1), .val (.int (3 : Int32)), .val (.int (2 : Int32))] [(.int (3 : Int32))])) (fun _ k => XS.iloadN X9.here hx rfl (hb hby d9_49) rfl k) ?_
        refine own_back (S' := T9.setTop (mkF m 51 #[.val (.ref a1), .val (.int (3 : Int32)), .val (.int (2 : Int32))] [(.int (3 : Int32)), (.int (3 : Int32))])) (fun _ k => XS.iconst X9.here hx rfl (hb hby d9_50)  k) ?_
        refine own_back (S' := T9.setTop (mkF m 65 #[.val (.ref a1), .val (.int (3 : Int32)), .val (.int (2 : Int32))] [])) (fun _ k => XS.icmpYes X9.here hx rfl (pc0 := 51) (pc' := 65) rfl (hb hby d9_51) rfl (flt ((by decide) : ¬ ((3 : Int32) < (3 : Int32)))).2.2.2 (by decide) (by decide) k) ?_
        refine own_back (S' := T9.setTop (mkF m 66 #[.val (.ref a1), .val (.int (3 : Int32)), .val (.int (2 : Int32))] [(.int (3 : Int32))])) (fun _ k => XS.iloadN X9.here hx rfl (hb hby d9_65) rfl k) ?_
        refine own_back (S' := T9.setTop (mkF m 67 #[.val (.ref a1), .val (.int (3 : Int32)), .val (.int (2 : Int32))] [(.int (2 : Int32)), (.int (3 : Int32))])) (fun _ k => XS.iloadN X9.here hx rfl (hb hby d9_66) rfl k) ?_
        refine own_back (S' := T9.setTop (mkF m 68 #[.val (.ref a1), .val (.int (3 : Int32)), .val (.int (2 : Int32))] [(.int ((3 : Int32) - (2 : Int32)))])) (fun _ k => XS.isub X9.here hx rfl (hb hby d9_67) rfl k) ?_
        obtain ⟨fs, hr, hrun, hended, hW, hsame⟩ := X9.leave (v := some (.int ((3 : Int32) - (2 : Int32)))) (fun h => by rw [Bd.returns] at h; cases h)
        refine own_done ⟨_, _, retI X9 hx Bd.returns (hb hby d9_68) hr, hrun, hended, _, _, rfl, ?_, ⟨_, rfl⟩, hW, hsame.mono (by decide) (by decide)⟩
        show Q9_3 Z a1 c0 c1 c2 c3 h0 n0 _ T9.heap _
        rw [e9]
        exact ⟨by simp only [own_l1, own_l2, own_l3, hc12_2, hc28_4, hc44_10, if_true, if_false], N9, rfl⟩
  ·
    refine own_back (S' := T1.setTop (mkF m 15 #[.val (.ref a1), .val (.int (3 : Int32)), .val (.int (-1 : Int32))] [])) (fun _ k => XS.ifNo X1.here hx rfl (hb hby d9_12) rfl ((if0 _ _).trans (feq hc12_2).1) k) ?_
    refine own_back (S' := T1.setTop (mkF m 16 #[.val (.ref a1), .val (.int (3 : Int32)), .val (.int (-1 : Int32))] [(.int (0 : Int32))])) (fun _ k => XS.iconst X1.here hx rfl (hb hby d9_15)  k) ?_
    refine own_back (S' := T1.setTop (mkF m 17 #[.val (.ref a1), .val (.int (3 : Int32)), .val (.int (0 : Int32))] [])) (fun _ k => XS.istoreN X1.here hx rfl (hb hby d9_16) rfl (l' := #[.val (.ref a1), .val (.int (3 : Int32)), .val (.int (0 : Int32))]) rfl k) ?_
    refine own_back (S' := T1.setTop (mkF m 18 #[.val (.ref a1), .val (.int (3 : Int32)), .val (.int (0 : Int32))] [(.int (3 : Int32))])) (fun _ k => XS.iloadN X1.here hx rfl (hb hby d9_17) rfl k) ?_
    refine own_back (S' := T1.setTop (mkF m 19 #[.val (.ref a1), .val (.int (3 : Int32)), .val (.int (0 : Int32))] [(.int (1 : Int32)), (.int (3 : Int32))])) (fun _ k => XS.iconst X1.here hx rfl (hb hby d9_18)  k) ?_
    refine own_back (S' := T1.setTop (mkF m 22 #[.val (.ref a1), .val (.int (3 : Int32)), .val (.int (0 : Int32))] [])) (fun _ k => XS.icmpNo X1.here hx rfl (hb hby d9_19) rfl (tlt ((by decide) : (1 : Int32) < (3 : Int32))).2.2.2 k) ?_
    refine own_back (S' := T1.setTop (mkF m 23 #[.val (.ref a1), .val (.int (3 : Int32)), .val (.int (0 : Int32))] [(.ref a1)])) (fun _ k => XS.aloadN X1.here hx rfl (hb hby d9_22) rfl rfl k) ?_
    refine own_back (S' := T1.setTop (mkF m 24 #[.val (.ref a1), .val (.int (3 : Int32)), .val (.int (0 : Int32))] [(.int (1 : Int32)), (.ref a1)])) (fun _ k => XS.iconst X1.here hx rfl (hb hby d9_23)  k) ?_
    refine own_back (S' := T1.setTop (mkF m 25 #[.val (.ref a1), .val (.int (3 : Int32)), .val (.int (0 : Int32))] [(.int c1)])) (own_ldC X1 hx hZ e1 PA (k := 1) (w := c1) (by decide) rfl (by decide) rfl (g := (mkF m 24 #[.val (.ref a1), .val (.int (3 : Int32)), .val (.int (0 : Int32))] [(.int (1 : Int32)), (.ref a1)])) rfl rfl (hb hby d9_24)) ?_
    obtain ⟨_, _, ⟨T13, L13, k13, n13⟩, -, X13, ⟨Lc13, hQ13, l13, y13, z13⟩, st13⟩ := Jvm.LawKit.callS X1 hx (y := (⟨"com/example/bindery/bindery/XmlPositionPassPinLaw", "term", "(C)Z"⟩ : MethodName)) hown (mvT hZ (hw _ (List.mem_of_getElem? (i := 44) rfl))) (mvT hZ (hw _ (List.mem_of_getElem? (i := 45) rfl))) (mvT hZ (hw _ (List.mem_of_getElem? (i := 3) rfl))) (mvT hZ (hw _ (List.mem_of_getElem? (i := 46) rfl))) (by decide) (backOf (W := 0) (rm10 l Z a0 hw [] c1 h0 n0 Z0 ) hZ (hw _ (List.mem_of_getElem? (i := 46) rfl)) (hw _ (List.mem_of_getElem? (i := 3) rfl)) (by decide) (by decide)) (g := (mkF m 25 #[.val (.ref a1), .val (.int (3 : Int32)), .val (.int (0 : Int32))] [(.int c1)])) rfl (by rw [hml]; rfl) (argsL := [(.int c1)]) (rest := []) (lenOf pd_1 rfl) rfl (by show 2 * 0 + _ ≤ _; exact Nat.le_of_eq rfl) (hb hby d9_25) (fun _ _ => ⟨rfl, e1, (by decide : 0 + 0 ≤ _), (by decide : 0 + 0 ≤ _)⟩)
    dsimp only [Pt.U, Pt.locs, Pt.cells, Pt.slots] at X13 l13 y13 z13 st13 hQ13
    subst l13 y13 z13
    obtain ⟨rfl, N13q, e13⟩ := hQ13
    have N13 := Fr.app N1 N13q
    refine own_back (S' := T13.setTop (mkF m 28 #[.val (.ref a1), .val (.int (3 : Int32)), .val (.int (0 : Int32))] [(.int (own_tm c1))])) (st13) ?_
    by_cases hc28_14 : (own_tm c1) = (0 : Int32)
    ·
      refine own_back (S' := T13.setTop (mkF m 33 #[.val (.ref a1), .val (.int (3 : Int32)), .val (.int (0 : Int32))] [])) (fun _ k => XS.ifYes X13.here hx rfl (pc0 := 28) (pc' := 33) rfl (hb hby d9_28) rfl ((if0 _ _).trans (teq hc28_14).1) (by decide) (by decide) k) ?_
      refine own_back (S' := T13.setTop (mkF m 34 #[.val (.ref a1), .val (.int (3 : Int32)), .val (.int (0 : Int32))] [(.int (3 : Int32))])) (fun _ k => XS.iloadN X13.here hx rfl (hb hby d9_33) rfl k) ?_
      refine own_back (S' := T13.setTop (mkF m 35 #[.val (.ref a1), .val (.int (3 : Int32)), .val (.int (0 : Int32))] [(.int (2 : Int32)), (.int (3 : Int32))])) (fun _ k => XS.iconst X13.here hx rfl (hb hby d9_34)  k) ?_
      refine own_back (S' := T13.setTop (mkF m 38 #[.val (.ref a1), .val (.int (3 : Int32)), .val (.int (0 : Int32))] [])) (fun _ k => XS.icmpNo X13.here hx rfl (hb hby d9_35) rfl (tlt ((by decide) : (2 : Int32) < (3 : Int32))).2.2.2 k) ?_
      refine own_back (S' := T13.setTop (mkF m 39 #[.val (.ref a1), .val (.int (3 : Int32)), .val (.int (0 : Int32))] [(.ref a1)])) (fun _ k => XS.aloadN X13.here hx rfl (hb hby d9_38) rfl rfl k) ?_
      refine own_back (S' := T13.setTop (mkF m 40 #[.val (.ref a1), .val (.int (3 : Int32)), .val (.int (0 : Int32))] [(.int (2 : Int32)), (.ref a1)])) (fun _ k => XS.iconst X13.here hx rfl (hb hby d9_39)  k) ?_
      refine own_back (S' := T13.setTop (mkF m 41 #[.val (.ref a1), .val (.int (3 : Int32)), .val (.int (0 : Int32))] [(.int c2)])) (own_ldC X13 hx hZ e13 PA (k := 2) (w := c2) (by decide) rfl (by decide) rfl (g := (mkF m 40 #[.val (.ref a1), .val (.int (3 : Int32)), .val (.int (0 : Int32))] [(.int (2 : Int32)), (.ref a1)])) rfl rfl (hb hby d9_40)) ?_
      obtain ⟨_, _, ⟨T15, L15, k15, n15⟩, -, X15, ⟨Lc15, hQ15, l15, y15, z15⟩, st15⟩ := Jvm.LawKit.callS X13 hx (y := (⟨"com/example/bindery/bindery/XmlPositionPassPinLaw", "term", "(C)Z"⟩ : MethodName)) hown (mvT hZ (hw _ (List.mem_of_getElem? (i := 44) rfl))) (mvT hZ (hw _ (List.mem_of_getElem? (i := 45) rfl))) (mvT hZ (hw _ (List.mem_of_getElem? (i := 3) rfl))) (mvT hZ (hw _ (List.mem_of_getElem? (i := 46) rfl))) (by decide) (backOf (W := 0) (rm10 l Z a0 hw [] c2 h0 n0 Z0 ) hZ (hw _ (List.mem_of_getElem? (i := 46) rfl)) (hw _ (List.mem_of_getElem? (i := 3) rfl)) (by decide) (by decide)) (g := (mkF m 41 #[.val (.ref a1), .val (.int (3 : Int32)), .val (.int (0 : Int32))] [(.int c2)])) rfl (by rw [hml]; rfl) (argsL := [(.int c2)]) (rest := []) (lenOf pd_1 rfl) rfl (by show 2 * 0 + _ ≤ _; exact Nat.le_of_eq rfl) (hb hby d9_41) (fun _ _ => ⟨rfl, e13, (by decide : 0 + 0 ≤ _), (by decide : 0 + 0 ≤ _)⟩)
      dsimp only [Pt.U, Pt.locs, Pt.cells, Pt.slots] at X15 l15 y15 z15 st15 hQ15
      subst l15 y15 z15
      obtain ⟨rfl, N15q, e15⟩ := hQ15
      have N15 := Fr.app N13 N15q
      refine own_back (S' := T15.setTop (mkF m 44 #[.val (.ref a1), .val (.int (3 : Int32)), .val (.int (0 : Int32))] [(.int (own_tm c2))])) (st15) ?_
      by_cases hc44_16 : (own_tm c2) = (0 : Int32)
      ·
        refine own_back (S' := T15.setTop (mkF m 49 #[.val (.ref a1), .val (.int (3 : Int32)), .val (.int (0 : Int32))] [])) (fun _ k => XS.ifYes X15.here hx rfl (pc0 := 44) (pc' := 49) rfl (hb hby d9_44) rfl ((if0 _ _).trans (teq hc44_16).1) (by decide) (by decide) k) ?_
        refine own_back (S' := T15.setTop (mkF m 50 #[.val (.ref a1), .val (.int (3 : Int32)), .val (.int (0 : Int32))] [(.int (3 : Int32))])) (fun _ k => XS.iloadN X15.here hx rfl (hb hby d9_49) rfl k) ?_
        refine own_back (S' := T15.setTop (mkF m 51 #[.val (.ref a1), .val (.int (3 : Int32)), .val (.int (0 : Int32))] [(.int (3 : Int32)), (.int (3 : Int32))])) (fun _ k => XS.iconst X15.here hx rfl (hb hby d9_50)  k) ?_
        refine own_back (S' := T15.setTop (mkF m 65 #[.val (.ref a1), .val (.int (3 : Int32)), .val (.int (0 : Int32))] [])) (fun _ k => XS.icmpYes X15.here hx rfl (pc0 := 51) (pc' := 65) rfl (hb hby d9_51) rfl (flt ((by decide) : ¬ ((3 : Int32) < (3 : Int32)))).2.2.2 (by decide) (by decide) k) ?_
        refine own_back (S' := T15.setTop (mkF m 66 #[.val (.ref a1), .val (.int (3 : Int32)), .val (.int (0 : Int32))] [(.int (3 : Int32))])) (fun _ k => XS.iloadN X15.here hx rfl (hb hby d9_65) rfl k) ?_
        refine own_back (S' := T15.setTop (mkF m 67 #[.val (.ref a1), .val (.int (3 : Int32)), .val (.int (0 : Int32))] [(.int (0 : Int32)), (.int (3 : Int32))])) (fun _ k => XS.iloadN X15.here hx rfl (hb hby d9_66) rfl k) ?_
        refine own_back (S' := T15.setTop (mkF m 68 #[.val (.ref a1), .val (.int (3 : Int32)), .val (.int (0 : Int32))] [(.int ((3 : Int32) - (0 : Int32)))])) (fun _ k => XS.isub X15.here hx rfl (hb hby d9_67) rfl k) ?_
        obtain ⟨fs, hr, hrun, hended, hW, hsame⟩ := X15.leave (v := some (.int ((3 : Int32) - (0 : Int32)))) (fun h => by rw [Bd.returns] at h; cases h)
        refine own_done ⟨_, _, retI X15 hx Bd.returns (hb hby d9_68) hr, hrun, hended, _, _, rfl, ?_, ⟨_, rfl⟩, hW, hsame.mono (by decide) (by decide)⟩
        show Q9_3 Z a1 c0 c1 c2 c3 h0 n0 _ T15.heap _
        rw [e15]
        exact ⟨by simp only [own_l1, own_l2, own_l3, hc12_2, hc28_14, hc44_16, if_true, if_false], N15, rfl⟩
      ·
        refine own_back (S' := T15.setTop (mkF m 47 #[.val (.ref a1), .val (.int (3 : Int32)), .val (.int (0 : Int32))] [])) (fun _ k => XS.ifNo X15.here hx rfl (hb hby d9_44) rfl ((if0 _ _).trans (feq hc44_16).1) k) ?_
        refine own_back (S' := T15.setTop (mkF m 48 #[.val (.ref a1), .val (.int (3 : Int32)), .val (.int (0 : Int32))] [(.int (2 : Int32))])) (fun _ k => XS.iconst X15.here hx rfl (hb hby d9_47)  k) ?_
        refine own_back (S' := T15.setTop (mkF m 49 #[.val (.ref a1), .val (.int (3 : Int32)), .val (.int (2 : Int32))] [])) (fun _ k => XS.istoreN X15.here hx rfl (hb hby d9_48) rfl (l' := #[.val (.ref a1), .val (.int (3 : Int32)), .val (.int (2 : Int32))]) rfl k) ?_
        refine own_back (S' := T15.setTop (mkF m 50 #[.val (.ref a1), .val (.int (3 : Int32)), .val (.int (2 : Int32))] [(.int (3 : Int32))])) (fun _ k => XS.iloadN X15.here hx rfl (hb hby d9_49) rfl k) ?_
        refine own_back (S' := T15.setTop (mkF m 51 #[.val (.ref a1), .val (.int (3 : Int32)), .val (.int (2 : Int32))] [(.int (3 : Int32)), (.int (3 : Int32))])) (fun _ k => XS.iconst X15.here hx rfl (hb hby d9_50)  k) ?_
        refine own_back (S' := T15.setTop (mkF m 65 #[.val (.ref a1), .val (.int (3 : Int32)), .val (.int (2 : Int32))] [])) (fun _ k => XS.icmpYes X15.here hx rfl (pc0 := 51) (pc' := 65) rfl (hb hby d9_51) rfl (flt ((by decide) : ¬ ((3 : Int32) < (3 : Int32)))).2.2.2 (by decide) (by decide) k) ?_
        refine own_back (S' := T15.setTop (mkF m 66 #[.val (.ref a1), .val (.int (3 : Int32)), .val (.int (2 : Int32))] [(.int (3 : Int32))])) (fun _ k => XS.iloadN X15.here hx rfl (hb hby d9_65) rfl k) ?_
        refine own_back (S' := T15.setTop (mkF m 67 #[.val (.ref a1), .val (.int (3 : Int32)), .val (.int (2 : Int32))] [(.int (2 : Int32)), (.int (3 : Int32))])) (fun _ k => XS.iloadN X15.here hx rfl (hb hby d9_66) rfl k) ?_
        refine own_back (S' := T15.setTop (mkF m 68 #[.val (.ref a1), .val (.int (3 : Int32)), .val (.int (2 : Int32))] [(.int ((3 : Int32) - (2 : Int32)))])) (fun _ k => XS.isub X15.here hx rfl (hb hby d9_67) rfl k) ?_
        obtain ⟨fs, hr, hrun, hended, hW, hsame⟩ := X15.leave (v := some (.int ((3 : Int32) - (2 : Int32)))) (fun h => by rw [Bd.returns] at h; cases h)
        refine own_done ⟨_, _, retI X15 hx Bd.returns (hb hby d9_68) hr, hrun, hended, _, _, rfl, ?_, ⟨_, rfl⟩, hW, hsame.mono (by decide) (by decide)⟩
        show Q9_3 Z a1 c0 c1 c2 c3 h0 n0 _ T15.heap _
        rw [e15]
        exact ⟨by simp only [own_l1, own_l2, own_l3, hc12_2, hc28_14, hc44_16, if_true, if_false], N15, rfl⟩
    ·
      refine own_back (S' := T13.setTop (mkF m 31 #[.val (.ref a1), .val (.int (3 : Int32)), .val (.int (0 : Int32))] [])) (fun _ k => XS.ifNo X13.here hx rfl (hb hby d9_28) rfl ((if0 _ _).trans (feq hc28_14).1) k) ?_
      refine own_back (S' := T13.setTop (mkF m 32 #[.val (.ref a1), .val (.int (3 : Int32)), .val (.int (0 : Int32))] [(.int (1 : Int32))])) (fun _ k => XS.iconst X13.here hx rfl (hb hby d9_31)  k) ?_
      refine own_back (S' := T13.setTop (mkF m 33 #[.val (.ref a1), .val (.int (3 : Int32)), .val (.int (1 : Int32))] [])) (fun _ k => XS.istoreN X13.here hx rfl (hb hby d9_32) rfl (l' := #[.val (.ref a1), .val (.int (3 : Int32)), .val (.int (1 : Int32))]) rfl k) ?_
      refine own_back (S' := T13.setTop (mkF m 34 #[.val (.ref a1), .val (.int (3 : Int32)), .val (.int (1 : Int32))] [(.int (3 : Int32))])) (fun _ k => XS.iloadN X13.here hx rfl (hb hby d9_33) rfl k) ?_
      refine own_back (S' := T13.setTop (mkF m 35 #[.val (.ref a1), .val (.int (3 : Int32)), .val (.int (1 : Int32))] [(.int (2 : Int32)), (.int (3 : Int32))])) (fun _ k => XS.iconst X13.here hx rfl (hb hby d9_34)  k) ?_
      refine own_back (S' := T13.setTop (mkF m 38 #[.val (.ref a1), .val (.int (3 : Int32)), .val (.int (1 : Int32))] [])) (fun _ k => XS.icmpNo X13.here hx rfl (hb hby d9_35) rfl (tlt ((by decide) : (2 : Int32) < (3 : Int32))).2.2.2 k) ?_
      refine own_back (S' := T13.setTop (mkF m 39 #[.val (.ref a1), .val (.int (3 : Int32)), .val (.int (1 : Int32))] [(.ref a1)])) (fun _ k => XS.aloadN X13.here hx rfl (hb hby d9_38) rfl rfl k) ?_
      refine own_back (S' := T13.setTop (mkF m 40 #[.val (.ref a1), .val (.int (3 : Int32)), .val (.int (1 : Int32))] [(.int (2 : Int32)), (.ref a1)])) (fun _ k => XS.iconst X13.here hx rfl (hb hby d9_39)  k) ?_
      refine own_back (S' := T13.setTop (mkF m 41 #[.val (.ref a1), .val (.int (3 : Int32)), .val (.int (1 : Int32))] [(.int c2)])) (own_ldC X13 hx hZ e13 PA (k := 2) (w := c2) (by decide) rfl (by decide) rfl (g := (mkF m 40 #[.val (.ref a1), .val (.int (3 : Int32)), .val (.int (1 : Int32))] [(.int (2 : Int32)), (.ref a1)])) rfl rfl (hb hby d9_40)) ?_
      obtain ⟨_, _, ⟨T19, L19, k19, n19⟩, -, X19, ⟨Lc19, hQ19, l19, y19, z19⟩, st19⟩ := Jvm.LawKit.callS X13 hx (y := (⟨"com/example/bindery/bindery/XmlPositionPassPinLaw", "term", "(C)Z"⟩ : MethodName)) hown (mvT hZ (hw _ (List.mem_of_getElem? (i := 44) rfl))) (mvT hZ (hw _ (List.mem_of_getElem? (i := 45) rfl))) (mvT hZ (hw _ (List.mem_of_getElem? (i := 3) rfl))) (mvT hZ (hw _ (List.mem_of_getElem? (i := 46) rfl))) (by decide) (backOf (W := 0) (rm10 l Z a0 hw [] c2 h0 n0 Z0 ) hZ (hw _ (List.mem_of_getElem? (i := 46) rfl)) (hw _ (List.mem_of_getElem? (i := 3) rfl)) (by decide) (by decide)) (g := (mkF m 41 #[.val (.ref a1), .val (.int (3 : Int32)), .val (.int (1 : Int32))] [(.int c2)])) rfl (by rw [hml]; rfl) (argsL := [(.int c2)]) (rest := []) (lenOf pd_1 rfl) rfl (by show 2 * 0 + _ ≤ _; exact Nat.le_of_eq rfl) (hb hby d9_41) (fun _ _ => ⟨rfl, e13, (by decide : 0 + 0 ≤ _), (by decide : 0 + 0 ≤ _)⟩)
      dsimp only [Pt.U, Pt.locs, Pt.cells, Pt.slots] at X19 l19 y19 z19 st19 hQ19
      subst l19 y19 z19
      obtain ⟨rfl, N19q, e19⟩ := hQ19
      have N19 := Fr.app N13 N19q
      refine own_back (S' := T19.setTop (mkF m 44 #[.val (.ref a1), .val (.int (3 : Int32)), .val (.int (1 : Int32))] [(.int (own_tm c2))])) (st19) ?_
      by_cases hc44_20 : (own_tm c2) = (0 : Int32)
      ·
        refine own_back (S' := T19.setTop (mkF m 49 #[.val (.ref a1), .val (.int (3 : Int32)), .val (.int (1 : Int32))] [])) (fun _ k => XS.ifYes X19.here hx rfl (pc0 := 44) (pc' := 49) rfl (hb hby d9_44) rfl ((if0 _ _).trans (teq hc44_20).1) (by decide) (by decide) k) ?_
        refine own_back (S' := T19.setTop (mkF m 50 #[.val (.ref a1), .val (.int (3 : Int32)), .val (.int (1 : Int32))] [(.int (3 : Int32))])) (fun _ k => XS.iloadN X19.here hx rfl (hb hby d9_49) rfl k) ?_
        refine own_back (S' := T19.setTop (mkF m 51 #[.val (.ref a1), .val (.int (3 : Int32)), .val (.int (1 : Int32))] [(.int (3 : Int32)), (.int (3 : Int32))])) (fun _ k => XS.iconst X19.here hx rfl (hb hby d9_50)  k) ?_
        refine own_back (S' := T19.setTop (mkF m 65 #[.val (.ref a1), .val (.int (3 : Int32)), .val (.int (1 : Int32))] [])) (fun _ k => XS.icmpYes X19.here hx rfl (pc0 := 51) (pc' := 65) rfl (hb hby d9_51) rfl (flt ((by decide) : ¬ ((3 : Int32) < (3 : Int32)))).2.2.2 (by decide) (by decide) k) ?_
        refine own_back (S' := T19.setTop (mkF m 66 #[.val (.ref a1), .val (.int (3 : Int32)), .val (.int (1 : Int32))] [(.int (3 : Int32))])) (fun _ k => XS.iloadN X19.here hx rfl (hb hby d9_65) rfl k) ?_
        refine own_back (S' := T19.setTop (mkF m 67 #[.val (.ref a1), .val (.int (3 : Int32)), .val (.int (1 : Int32))] [(.int (1 : Int32)), (.int (3 : Int32))])) (fun _ k => XS.iloadN X19.here hx rfl (hb hby d9_66) rfl k) ?_
        refine own_back (S' := T19.setTop (mkF m 68 #[.val (.ref a1), .val (.int (3 : Int32)), .val (.int (1 : Int32))] [(.int ((3 : Int32) - (1 : Int32)))])) (fun _ k => XS.isub X19.here hx rfl (hb hby d9_67) rfl k) ?_
        obtain ⟨fs, hr, hrun, hended, hW, hsame⟩ := X19.leave (v := some (.int ((3 : Int32) - (1 : Int32)))) (fun h => by rw [Bd.returns] at h; cases h)
        refine own_done ⟨_, _, retI X19 hx Bd.returns (hb hby d9_68) hr, hrun, hended, _, _, rfl, ?_, ⟨_, rfl⟩, hW, hsame.mono (by decide) (by decide)⟩
        show Q9_3 Z a1 c0 c1 c2 c3 h0 n0 _ T19.heap _
        rw [e19]
        exact ⟨by simp only [own_l1, own_l2, own_l3, hc12_2, hc28_14, hc44_20, if_true, if_false], N19, rfl⟩
      ·
        refine own_back (S' := T19.setTop (mkF m 47 #[.val (.ref a1), .val (.int (3 : Int32)), .val (.int (1 : Int32))] [])) (fun _ k => XS.ifNo X19.here hx rfl (hb hby d9_44) rfl ((if0 _ _).trans (feq hc44_20).1) k) ?_
        refine own_back (S' := T19.setTop (mkF m 48 #[.val (.ref a1), .val (.int (3 : Int32)), .val (.int (1 : Int32))] [(.int (2 : Int32))])) (fun _ k => XS.iconst X19.here hx rfl (hb hby d9_47)  k) ?_
        refine own_back (S' := T19.setTop (mkF m 49 #[.val (.ref a1), .val (.int (3 : Int32)), .val (.int (2 : Int32))] [])) (fun _ k => XS.istoreN X19.here hx rfl (hb hby d9_48) rfl (l' := #[.val (.ref a1), .val (.int (3 : Int32)), .val (.int (2 : Int32))]) rfl k) ?_
        refine own_back (S' := T19.setTop (mkF m 50 #[.val (.ref a1), .val (.int (3 : Int32)), .val (.int (2 : Int32))] [(.int (3 : Int32))])) (fun _ k => XS.iloadN X19.here hx rfl (hb hby d9_49) rfl k) ?_
        refine own_back (S' := T19.setTop (mkF m 51 #[.val (.ref a1), .val (.int (3 : Int32)), .val (.int (2 : Int32))] [(.int (3 : Int32)), (.int (3 : Int32))])) (fun _ k => XS.iconst X19.here hx rfl (hb hby d9_50)  k) ?_
        refine own_back (S' := T19.setTop (mkF m 65 #[.val (.ref a1), .val (.int (3 : Int32)), .val (.int (2 : Int32))] [])) (fun _ k => XS.icmpYes X19.here hx rfl (pc0 := 51) (pc' := 65) rfl (hb hby d9_51) rfl (flt ((by decide) : ¬ ((3 : Int32) < (3 : Int32)))).2.2.2 (by decide) (by decide) k) ?_
        refine own_back (S' := T19.setTop (mkF m 66 #[.val (.ref a1), .val (.int (3 : Int32)), .val (.int (2 : Int32))] [(.int (3 : Int32))])) (fun _ k => XS.iloadN X19.here hx rfl (hb hby d9_65) rfl k) ?_
        refine own_back (S' := T19.setTop (mkF m 67 #[.val (.ref a1), .val (.int (3 : Int32)), .val (.int (2 : Int32))] [(.int (2 : Int32)), (.int (3 : Int32))])) (fun _ k => XS.iloadN X19.here hx rfl (hb hby d9_66) rfl k) ?_
        refine own_back (S' := T19.setTop (mkF m 68 #[.val (.ref a1), .val (.int (3 : Int32)), .val (.int (2 : Int32))] [(.int ((3 : Int32) - (2 : Int32)))])) (fun _ k => XS.isub X19.here hx rfl (hb hby d9_67) rfl k) ?_
        obtain ⟨fs, hr, hrun, hended, hW, hsame⟩ := X19.leave (v := some (.int ((3 : Int32) - (2 : Int32)))) (fun h => by rw [Bd.returns] at h; cases h)
        refine own_done ⟨_, _, retI X19 hx Bd.returns (hb hby d9_68) hr, hrun, hended, _, _, rfl, ?_, ⟨_, rfl⟩, hW, hsame.mono (by decide) (by decide)⟩
        show Q9_3 Z a1 c0 c1 c2 c3 h0 n0 _ T19.heap _
        rw [e19]
        exact ⟨by simp only [own_l1, own_l2, own_l3, hc12_2, hc28_14, hc44_20, if_true, if_false], N19, rfl⟩
theorem d9_54 : decode method_6_code 54 = .ok (.aload_n 0, 1) := by decide +kernel
theorem d9_55 : decode method_6_code 55 = .ok (.iconst 3, 1) := by decide +kernel
theorem d9_56 : decode method_6_code 56 = .ok (.caload, 1) := by decide +kernel
theorem d9_57 : decode method_6_code 57 = .ok (.invokestatic 13, 3) := by decide +kernel
theorem d9_60 : decode method_6_code 60 = .ok (.ifCond .eq 5, 3) := by decide +kernel
theorem d9_63 : decode method_6_code 63 = .ok (.iconst 3, 1) := by decide +kernel
theorem d9_64 : decode method_6_code 64 = .ok (.istore_n 2, 1) := by decide +kernel
def Q9_4 (Z : State) (a1 : Addr) (c0 : Int32) (c1 : Int32) (c2 : Int32) (c3 : Int32) (h0 : Heap) (n0 : Nat) (v : Option Value) (h : Heap) (L : List Loc) : Prop := v = some (.int ((4 : Int32) - own_l4 c0 c1 c2 c3)) ∧ Fr n0 L ∧ h = h0
set_option maxRecDepth 65536 in
set_option maxHeartbeats 40000000 in
theorem rm9_4 (l : Launch) (Z : State) (a0 : Array Value) (hw : ∀ d ∈ tables_1, d.before a0 Z = true) (ws : List Jvm.Cond) (a1 : Addr) (c0 : Int32) (c1 : Int32) (c2 : Int32) (c3 : Int32) (h0 : Heap) (n0 : Nat) (Z0 : n0 ≤ h0.size) (PA : own_I Z h0 a1 .char 4 (own_f c0 c1 c2 c3)) :
    MetFree l (⟨"com/example/bindery/bindery/XmlPositionPassPinLaw", "col", "([CI)I"⟩ : MethodName) (head1 (Jvm.Cond.code (⟨"com/example/bindery/bindery/XmlPositionPassPinLaw", "col", "([CI)I"⟩ : MethodName) method_6_code 3 (some .int) :: ws) ({ frames := 1, cells := 0, slots := 0, locals := 12 } : Room)) (fun a U => a = #[(.ref a1), (.int (4 : Int32))] ∧ Z.Warmed39 U.vm ∧ U.heap = h0) (fun _ _ _ _ _ => True) (fun _ U o U' => ∃ v L, o = .returned v ∧ Q9_4 Z a1 c0 c1 c2 c3 h0 n0 v U'.heap L ∧ FrameEnd U o U' L ({ frames := 1, cells := 0, slots := 0, locals := 12 } : Room).cells ({ frames := 1, cells := 0, slots := 0, locals := 12 } : Room).slots) := by
  refine MetFree.of_bodySF (plainFor_of_name pn_com_example_bindery_bindery_XmlPositionPassPinLaw) hisR ?_
  intro p e s m args below meth c s₁ Bd hml0 hP hK
  obtain ⟨rfl, hZ, hh⟩ := hP
  have hx := Bd.exec
  have hby := Bd.bytes
  have hml : c.maxLocals = 3 := hml0
  have hown : s.vm.findClass "com/example/bindery/bindery/XmlPositionPassPinLaw" = some m.cls := findClass_of_methodNamed Bd.named
  have hnm := (name_of_methodNamed Bd.named Bd.method).1
  have X0 : Stand p l e ({ frames := 1, cells := 0, slots := 0, locals := 12 } : Room) s m #[(.ref a1), (.int (4 : Int32))] below meth c s₁ [] 0 0 := Stand.of_body Bd
  have e0 : s₁.heap = h0 := by rw [← hh, Bd.state]; rfl
  have N0 := Fr.nil n0
  refine own_open (S' := s₁.setTop (mkF m 0 #[.val (.ref a1), .val (.int (4 : Int32)), .unset] [])) (fun t k => castTop (ef_9 m a1 (4 : Int32)) k) ?_
  refine own_back (S' := s₁.setTop (mkF m 1 #[.val (.ref a1), .val (.int (4 : Int32)), .unset] [(.int (-1 : Int32))])) (fun _ k => XS.iconst X0.here hx rfl (hb hby d9_0)  k) ?_
  refine own_back (S' := s₁.setTop (mkF m 2 #[.val (.ref a1), .val (.int (4 : Int32)), .val (.int (-1 : Int32))] [])) (fun _ k => XS.istoreN X0.here hx rfl (hb hby d9_1) rfl (l' := #[.val (.ref a1), .val (.int (4 : Int32)), .val (.int (-1 : Int32))]) rfl k) ?_
  refine own_back (S' := s₁.setTop (mkF m 3 #[.val (.ref a1), .val (.int (4 : Int32)), .val (.int (-1 : Int32))] [(.int (4 : Int32))])) (fun _ k => XS.iloadN X0.here hx rfl (hb hby d9_2) rfl k) ?_
  refine own_back (S' := s₁.setTop (mkF m 6 #[.val (.ref a1), .val (.int (4 : Int32)), .val (.int (-1 : Int32))] [])) (fun _ k => XS.ifNo X0.here hx rfl (hb hby d9_3) rfl ((if0 _ _).trans (tlt ((by decide) : (0 : Int32) < (4 : Int32))).2.2.2) k) ?_
  refine own_back (S' := s₁.setTop (mkF m 7 #[.val (.ref a1), .val (.int (4 : Int32)), .val (.int (-1 : Int32))] [(.ref a1)])) (fun _ k => XS.aloadN X0.here hx rfl (hb hby d9_6) rfl rfl k) ?_
  refine own_back (S' := s₁.setTop (mkF m 8 #[.val (.ref a1), .val (.int (4 : Int32)), .val (.int (-1 : Int32))] [(.int (0 : Int32)), (.ref a1)])) (fun _ k => XS.iconst X0.here hx rfl (hb hby d9_7)  k) ?_
  refine own_back (S' := s₁.setTop (mkF m 9 #[.val (.ref a1), .val (.int (4 : Int32)), .val (.int (-1 : Int32))] [(.int c0)])) (own_ldC X0 hx hZ e0 PA (k := 0) (w := c0) (by decide) rfl (by decide) rfl (g := (mkF m 8 #[.val (.ref a1), .val (.int (4 : Int32)), .val (.int (-1 : Int32))] [(.int (0 : Int32)), (.ref a1)])) rfl rfl (hb hby d9_8)) ?_
  obtain ⟨_, _, ⟨T1, L1, k1, n1⟩, -, X1, ⟨Lc1, hQ1, l1, y1, z1⟩, st1⟩ := Jvm.LawKit.callS X0 hx (y := (⟨"com/example/bindery/bindery/XmlPositionPassPinLaw", "term", "(C)Z"⟩ : MethodName)) hown (mvT hZ (hw _ (List.mem_of_getElem? (i := 44) rfl))) (mvT hZ (hw _ (List.mem_of_getElem? (i := 45) rfl))) (mvT hZ (hw _ (List.mem_of_getElem? (i := 3) rfl))) (mvT hZ (hw _ (List.mem_of_getElem? (i := 46) rfl))) (by decide) (backOf (W := 0) (rm10 l Z a0 hw [] c0 h0 n0 Z0 ) hZ (hw _ (List.mem_of_getElem? (i := 46) rfl)) (hw _ (List.mem_of_getElem? (i := 3) rfl)) (by decide) (by decide)) (g := (mkF m 9 #[.val (.ref a1), .val (.int (4 : Int32)), .val (.int (-1 : Int32))] [(.int c0)])) rfl (by rw [hml]; rfl) (argsL := [(.int c0)]) (rest := []) (lenOf pd_1 rfl) rfl (by show 2 * 0 + _ ≤ _; exact Nat.le_of_eq rfl) (hb hby d9_9) (fun _ _ => ⟨rfl, e0, (by decide : 0 + 0 ≤ _), (by decide : 0 + 0 ≤ _)⟩)
  dsimp only [Pt.U, Pt.locs, Pt.cells, Pt.slots] at X1 l1 y1 z1 st1 hQ1
  subst l1 y1 z1
  obtain ⟨rfl, N1q, e1⟩ := hQ1
  have N1 := Fr.app N0 N1q
  refine own_back (S' := T1.setTop (mkF m 12 #[.val (.ref a1), .val (.int (4 : Int32)), .val (.int (-1 : Int32))] [(.int (own_tm c0))])) (st1) ?_
  by_cases hc12_2 : (own_tm c0) = (0 : Int32)
  ·
    refine own_back (S' := T1.setTop (mkF m 17 #[.val (.ref a1), .val (.int (4 : Int32)), .val (.int (-1 : Int32))] [])) (fun _ k => XS.ifYes X1.here hx rfl (pc0 := 12) (pc' := 17) rfl (hb hby d9_12) rfl ((if0 _ _).trans (teq hc12_2).1) (by decide) (by decide) k) ?_
    refine own_back (S' := T1.setTop (mkF m 18 #[.val (.ref a1), .val (.int (4 : Int32)), .val (.int (-1 : Int32))] [(.int (4 : Int32))])) (fun _ k => XS.iloadN X1.here hx rfl (hb hby d9_17) rfl k) ?_
    refine own_back (S' := T1.setTop (mkF m 19 #[.val (.ref a1), .val (.int (4 : Int32)), .val (.int (-1 : Int32))] [(.int (1 : Int32)), (.int (4 : Int32))])) (fun _ k => XS.iconst X1.here hx rfl (hb hby d9_18)  k) ?_
    refine own_back (S' := T1.setTop (mkF m 22 #[.val (.ref a1), .val (.int (4 : Int32)), .val (.int (-1 : Int32))] [])) (fun _ k => XS.icmpNo X1.here hx rfl (hb hby d9_19) rfl (tlt ((by decide) : (1 : Int32) < (4 : Int32))).2.2.2 k) ?_
    refine own_back (S' := T1.setTop (mkF m 23 #[.val (.ref a1), .val (.int (4 : Int32)), .val (.int (-1 : Int32))] [(.ref a1)])) (fun _ k => XS.aloadN X1.here hx rfl (hb hby d9_22) rfl rfl k) ?_
    refine own_back (S' := T1.setTop (mkF m 24 #[.val (.ref a1), .val (.int (4 : Int32)), .val (.int (-1 : Int32))] [(.int (1 : Int32)), (.ref a1)])) (fun _ k => XS.iconst X1.here hx rfl (hb hby d9_23)  k) ?_
    refine own_back (S' := T1.setTop (mkF m 25 #[.val (.ref a1), .val (.int (4 : Int32)), .val (.int (-1 : Int32))] [(.int c1)])) (own_ldC X1 hx hZ e1 PA (k := 1) (w := c1) (by decide) rfl (by decide) rfl (g := (mkF m 24 #[.val (.ref a1), .val (.int (4 : Int32)), .val (.int (-1 : Int32))] [(.int (1 : Int32)), (.ref a1)])) rfl rfl (hb hby d9_24)) ?_
    obtain ⟨_, _, ⟨T3, L3, k3, n3⟩, -, X3, ⟨Lc3, hQ3, l3, y3, z3⟩, st3⟩ := Jvm.LawKit.callS X1 hx (y := (⟨"com/example/bindery/bindery/XmlPositionPassPinLaw", "term", "(C)Z"⟩ : MethodName)) hown (mvT hZ (hw _ (List.mem_of_getElem? (i := 44) rfl))) (mvT hZ (hw _ (List.mem_of_getElem? (i := 45) rfl))) (mvT hZ (hw _ (List.mem_of_getElem? (i := 3) rfl))) (mvT hZ (hw _ (List.mem_of_getElem? (i := 46) rfl))) (by decide) (backOf (W := 0) (rm10 l Z a0 hw [] c1 h0 n0 Z0 ) hZ (hw _ (List.mem_of_getElem? (i := 46) rfl)) (hw _ (List.mem_of_getElem? (i := 3) rfl)) (by decide) (by decide)) (g := (mkF m 25 #[.val (.ref a1), .val (.int (4 : Int32)), .val (.int (-1 : Int32))] [(.int c1)])) rfl (by rw [hml]; rfl) (argsL := [(.int c1)]) (rest := []) (lenOf pd_1 rfl) rfl (by show 2 * 0 + _ ≤ _; exact Nat.le_of_eq rfl) (hb hby d9_25) (fun _ _ => ⟨rfl, e1, (by decide : 0 + 0 ≤ _), (by decide : 0 + 0 ≤ _)⟩)
    dsimp only [Pt.U, Pt.locs, Pt.cells, Pt.slots] at X3 l3 y3 z3 st3 hQ3
    subst l3 y3 z3
    obtain ⟨rfl, N3q, e3⟩ := hQ3
    have N3 := Fr.app N1 N3q
    refine own_back (S' := T3.setTop (mkF m 28 #[.val (.ref a1), .val (.int (4 : Int32)), .val (.int (-1 : Int32))] [(.int (own_tm c1))])) (st3) ?_
    by_cases hc28_4 : (own_tm c1) = (0 : Int32)
    ·
      refine own_back (S' := T3.setTop (mkF m 33 #[.val (.ref a1), .val (.int (4 : Int32)), .val (.int (-1 : Int32))] [])) (fun _ k => XS.ifYes X3.here hx rfl (pc0 := 28) (pc' := 33) rfl (hb hby d9_28) rfl ((if0 _ _).trans (teq hc28_4).1) (by decide) (by decide) k) ?_
      refine own_back (S' := T3.setTop (mkF m 34 #[.val (.ref a1), .val (.int (4 : Int32)), .val (.int (-1 : Int32))] [(.int (4 : Int32))])) (fun _ k => XS.iloadN X3.here hx rfl (hb hby d9_33) rfl k) ?_
      refine own_back (S' := T3.setTop (mkF m 35 #[.val (.ref a1), .val (.int (4 : Int32)), .val (.int (-1 : Int32))] [(.int (2 : Int32)), (.int (4 : Int32))])) (fun _ k => XS.iconst X3.here hx rfl (hb hby d9_34)  k) ?_
      refine own_back (S' := T3.setTop (mkF m 38 #[.val (.ref a1), .val (.int (4 : Int32)), .val (.int (-1 : Int32))] [])) (fun _ k => XS.icmpNo X3.here hx rfl (hb hby d9_35) rfl (tlt ((by decide) : (2 : Int32) < (4 : Int32))).2.2.2 k) ?_
      refine own_back (S' := T3.setTop (mkF m 39 #[.val (.ref a1), .val (.int (4 : Int32)), .val (.int (-1 : Int32))] [(.ref a1)])) (fun _ k => XS.aloadN X3.here hx rfl (hb hby d9_38) rfl rfl k) ?_
      refine own_back (S' := T3.setTop (mkF m 40 #[.val (.ref a1), .val (.int (4 : Int32)), .val (.int (-1 : Int32))] [(.int (2 : Int32)), (.ref a1)])) (fun _ k => XS.iconst X3.here hx rfl (hb hby d9_39)  k) ?_
      refine own_back (S' := T3.setTop (mkF m 41 #[.val (.ref a1), .val (.int (4 : Int32)), .val (.int (-1 : Int32))] [(.int c2)])) (own_ldC X3 hx hZ e3 PA (k := 2) (w := c2) (by decide) rfl (by decide) rfl (g := (mkF m 40 #[.val (.ref a1), .val (.int (4 : Int32)), .val (.int (-1 : Int32))] [(.int (2 : Int32)), (.ref a1)])) rfl rfl (hb hby d9_40)) ?_
      obtain ⟨_, _, ⟨T5, L5, k5, n5⟩, -, X5, ⟨Lc5, hQ5, l5, y5, z5⟩, st5⟩ := Jvm.LawKit.callS X3 hx (y := (⟨"com/example/bindery/bindery/XmlPositionPassPinLaw", "term", "(C)Z"⟩ : MethodName)) hown (mvT hZ (hw _ (List.mem_of_getElem? (i := 44) rfl))) (mvT hZ (hw _ (List.mem_of_getElem? (i := 45) rfl))) (mvT hZ (hw _ (List.mem_of_getElem? (i := 3) rfl))) (mvT hZ (hw _ (List.mem_of_getElem? (i := 46) rfl))) (by decide) (backOf (W := 0) (rm10 l Z a0 hw [] c2 h0 n0 Z0 ) hZ (hw _ (List.mem_of_getElem? (i := 46) rfl)) (hw _ (List.mem_of_getElem? (i := 3) rfl)) (by decide) (by decide)) (g := (mkF m 41 #[.val (.ref a1), .val (.int (4 : Int32)), .val (.int (-1 : Int32))] [(.int c2)])) rfl (by rw [hml]; rfl) (argsL := [(.int c2)]) (rest := []) (lenOf pd_1 rfl) rfl (by show 2 * 0 + _ ≤ _; exact Nat.le_of_eq rfl) (hb hby d9_41) (fun _ _ => ⟨rfl, e3, (by decide : 0 + 0 ≤ _), (by decide : 0 + 0 ≤ _)⟩)
      dsimp only [Pt.U, Pt.locs, Pt.cells, Pt.slots] at X5 l5 y5 z5 st5 hQ5
      subst l5 y5 z5
      obtain ⟨rfl, N5q, e5⟩ := hQ5
      have N5 := Fr.app N3 N5q
      refine own_back (S' := T5.setTop (mkF m 44 #[.val (.ref a1), .val (.int (4 : Int32)), .val (.int (-1 : Int32))] [(.int (own_tm c2))])) (st5) ?_
      by_cases hc44_6 : (own_tm c2) = (0 : Int32)
      ·
        refine own_back (S' := T5.setTop (mkF m 49 #[.val (.ref a1), .val (.int (4 : Int32)), .val (.int (-1 : Int32))] [])) (fun _ k => XS.ifYes X5.here hx rfl (pc0 := 44) (pc' := 49) rfl (hb hby d9_44) rfl ((if0 _ _).trans (teq hc44_6).1) (by decide) (by decide) k) ?_
        refine own_back (S' := T5.setTop (mkF m 50 #[.val (.ref a1), .val (.int (4 : Int32)), .val (.int (-1 : Int32))] [(.int (4 : Int32))])) (fun _ k => XS.iloadN X5.here hx rfl (hb hby d9_49) rfl k) ?_
        refine own_back (S' := T5.setTop (mkF m 51 #[.val (.ref a1), .val (.int (4 : Int32)), .val (.int (-1 : Int32))] [(.int (3 : Int32)), (.int (4 : Int32))])) (fun _ k => XS.iconst X5.here hx rfl (hb hby d9_50)  k) ?_
        refine own_back (S' := T5.setTop (mkF m 54 #[.val (.ref a1), .val (.int (4 : Int32)), .val (.int (-1 : Int32))] [])) (fun _ k => XS.icmpNo X5.here hx rfl (hb hby d9_51) rfl (tlt ((by decide) : (3 : Int32) < (4 : Int32))).2.2.2 k) ?_
        refine own_back (S' := T5.setTop (mkF m 55 #[.val (.ref a1), .val (.int (4 : Int32)), .val (.int (-1 : Int32))] [(.ref a1)])) (fun _ k => XS.aloadN X5.here hx rfl (hb hby d9_54) rfl rfl k) ?_
        refine own_back (S' := T5.setTop (mkF m 56 #[.val (.ref a1), .val (.int (4 : Int32)), .val (.int (-1 : Int32))] [(.int (3 : Int32)), (.ref a1)])) (fun _ k => XS.iconst X5.here hx rfl (hb hby d9_55)  k) ?_
        refine own_back (S' := T5.setTop (mkF m 57 #[.val (.ref a1), .val (.int (4 : Int32)), .val (.int (-1 : Int32))] [(.int c3)])) (own_ldC X5 hx hZ e5 PA (k := 3) (w := c3) (by decide) rfl (by decide) rfl (g := (mkF m 56 #[.val (.ref a1), .val (.int (4 : Int32)), .val (.int (-1 : Int32))] [(.int (3 : Int32)), (.ref a1)])) rfl rfl (hb hby d9_56)) ?_
        obtain ⟨_, _, ⟨T7, L7, k7, n7⟩, -, X7, ⟨Lc7, hQ7, l7, y7, z7⟩, st7⟩ := Jvm.LawKit.callS X5 hx (y := (⟨"com/example/bindery/bindery/XmlPositionPassPinLaw", "term", "(C)Z"⟩ : MethodName)) hown (mvT hZ (hw _ (List.mem_of_getElem? (i := 44) rfl))) (mvT hZ (hw _ (List.mem_of_getElem? (i := 45) rfl))) (mvT hZ (hw _ (List.mem_of_getElem? (i := 3) rfl))) (mvT hZ (hw _ (List.mem_of_getElem? (i := 46) rfl))) (by decide) (backOf (W := 0) (rm10 l Z a0 hw [] c3 h0 n0 Z0 ) hZ (hw _ (List.mem_of_getElem? (i := 46) rfl)) (hw _ (List.mem_of_getElem? (i := 3) rfl)) (by decide) (by decide)) (g := (mkF m 57 #[.val (.ref a1), .val (.int (4 : Int32)), .val (.int (-1 : Int32))] [(.int c3)])) rfl (by rw [hml]; rfl) (argsL := [(.int c3)]) (rest := []) (lenOf pd_1 rfl) rfl (by show 2 * 0 + _ ≤ _; exact Nat.le_of_eq rfl) (hb hby d9_57) (fun _ _ => ⟨rfl, e5, (by decide : 0 + 0 ≤ _), (by decide : 0 + 0 ≤ _)⟩)
        dsimp only [Pt.U, Pt.locs, Pt.cells, Pt.slots] at X7 l7 y7 z7 st7 hQ7
        subst l7 y7 z7
        obtain ⟨rfl, N7q, e7⟩ := hQ7
        have N7 := Fr.app N5 N7q
        refine own_back (S' := T7.setTop (mkF m 60 #[.val (.ref a1), .val (.int (4 : Int32)), .val (.int (-1 : Int32))] [(.int (own_tm c3))])) (st7) ?_
        by_cases hc60_8 : (own_tm c3) = (0 : Int32)
        ·
          refine own_back (S' := T7.setTop (mkF m 65 #[.val (.ref a1), .val (.int (4 : Int32)), .val (.int (-1 : Int32))] [])) (fun _ k => XS.ifYes X7.here hx rfl (pc0 := 60) (pc' := 65) rfl (hb hby d9_60) rfl ((if0 _ _).trans (teq hc60_8).1) (by decide) (by decide) k) ?_
          refine own_back (S' := T7.setTop (mkF m 66 #[.val (.ref a1), .val (.int (4 : Int32)), .val (.int (-1 : Int32))] [(.int (4 : Int32))])) (fun _ k => XS.iloadN X7.here hx rfl (hb hby d9_65) rfl k) ?_
          refine own_back (S' := T7.setTop (mkF m 67 #[.val (.ref a1), .val (.int (4 : Int32)), .val (.int (-1 : Int32))] [(.int (-1 : Int32)), (.int (4 : Int32))])) (fun _ k => XS.iloadN X7.here hx rfl (hb hby d9_66) rfl k) ?_
          refine own_back (S' := T7.setTop (mkF m 68 #[.val (.ref a1), .val (.int (4 : Int32)), .val (.int (-1 : Int32))] [(.int ((4 : Int32) - (-1 : Int32)))])) (fun _ k => XS.isub X7.here hx rfl (hb hby d9_67) rfl k) ?_
          obtain ⟨fs, hr, hrun, hended, hW, hsame⟩ := X7.leave (v := some (.int ((4 : Int32) - (-1 : Int32)))) (fun h => by rw [Bd.returns] at h; cases h)
          refine own_done ⟨_, _, retI X7 hx Bd.returns (hb hby d9_68) hr, hrun, hended, _, _, rfl, ?_, ⟨_, rfl⟩, hW, hsame.mono (by decide) (by decide)⟩
          show Q9_4 Z a1 c0 c1 c2 c3 h0 n0 _ T7.heap _
          rw [e7]
          exact ⟨by simp only [own_l1, own_l2, own_l3, own_l4, hc12_2, hc28_4, hc44_6, hc60_8, if_true, if_false], N7, rfl⟩
        ·
          refine own_back (S' := T7.setTop (mkF m 63 #[.val (.ref a1), .val (.int (4 : Int32)), .val (.int (-1 : Int32))] [])) (fun _ k => XS.ifNo X7.here hx rfl (hb hby d9_60) rfl ((if0 _ _).trans (feq hc60_8).1) k) ?_
          refine own_back (S' := T7.setTop (mkF m 64 #[.val (.ref a1), .val (.int (4 : Int32)), .val (.int (-1 : Int32))] [(.int (3 : Int32))])) (fun _ k => XS.iconst X7.here hx rfl (hb hby d9_63)  k) ?_
          refine own_back (S' := T7.setTop (mkF m 65 #[.val (.ref a1), .val (.int (4 : Int32)), .val (.int (3 : Int32))] [])) (fun _ k => XS.istoreN X7.here hx rfl (hb hby d9_64) rfl (l' := #[.val (.ref a1), .val (.int (4 : Int32)), .val (.int (3 : Int32))]) rfl k) ?_
          refine own_back (S' := T7.setTop (mkF m 66 #[.val (.ref a1), .val (.int (4 : Int32)), .val (.int (3 : Int32))] [(.int (4 : Int32))])) (fun _ k => XS.iloadN X7.here hx rfl (hb hby d9_65) rfl k) ?_
          refine own_back (S' := T7.setTop (mkF m 67 #[.val (.ref a1), .val (.int (4 : Int32)), .val (.int (3 : Int32))] [(.int (3 : Int32)), (.int (4 : Int32))])) (fun _ k => XS.iloadN X7.here hx rfl (hb hby d9_66) rfl k) ?_
          refine own_back (S' := T7.setTop (mkF m 68 #[.val (.ref a1), .val (.int (4 : Int32)), .val (.int (3 : Int32))] [(.int ((4 : Int32) - (3 : Int32)))])) (fun _ k => XS.isub X7.here hx rfl (hb hby d9_67) rfl k) ?_
          obtain ⟨fs, hr, hrun, hended, hW, hsame⟩ := X7.leave (v := some (.int ((4 : Int32) - (3 : Int32)))) (fun h => by rw [Bd.returns] at h; cases h)
          refine own_done ⟨_, _, retI X7 hx Bd.returns (hb hby d9_68) hr, hrun, hended, _, _, rfl, ?_, ⟨_, rfl⟩, hW, hsame.mono (by decide) (by decide)⟩
          show Q9_4 Z a1 c0 c1 c2 c3 h0 n0 _ T7.heap _
          rw [e7]
          exact ⟨by simp only [own_l1, own_l2, own_l3, own_l4, hc12_2, hc28_4, hc44_6, hc60_8, if_true, if_false], N7, rfl⟩
      ·
        refine own_back (S' := T5.setTop (mkF m 47 #[.val (.ref a1), .val (.int (4 : Int32)), .val (.int (-1 : Int32))] [])) (fun _ k => XS.ifNo X5.here hx rfl (hb hby d9_44) rfl ((if0 _ _).trans (feq hc44_6).1) k) ?_
        refine own_back (S' := T5.setTop (mkF m 48 #[.val (.ref a1), .val (.int (4 : Int32)), .val (.int (-1 : Int32))] [(.int (2 : Int32))])) (fun _ k => XS.iconst X5.here hx rfl (hb hby d9_47)  k) ?_
        refine own_back (S' := T5.setTop (mkF m 49 #[.val (.ref a1), .val (.int (4 : Int32)), .val (.int (2 : Int32))] [])) (fun _ k => XS.istoreN X5.here hx rfl (hb hby d9_48) rfl (l' := #[.val (.ref a1), .val (.int (4 : Int32)), .val (.int (2 : Int32))]) rfl k) ?_
        refine own_back (S' := T5.setTop (mkF m 50 #[.val (.ref a1), .val (.int (4 : Int32)), .val (.int (2 : Int32))] [(.int (4 : Int32))])) (fun _ k => XS.iloadN X5.here hx rfl (hb hby d9_49) rfl k) ?_
        refine own_back (S' := T5.setTop (mkF m 51 #[.val (.ref a1), .val (.int (4 : Int32)), .val (.int (2 : Int32))] [(.int (3 : Int32)), (.int (4 : Int32))])) (fun _ k => XS.iconst X5.here hx rfl (hb hby d9_50)  k) ?_
        refine own_back (S' := T5.setTop (mkF m 54 #[.val (.ref a1), .val (.int (4 : Int32)), .val (.int (2 : Int32))] [])) (fun _ k => XS.icmpNo X5.here hx rfl (hb hby d9_51) rfl (tlt ((by decide) : (3 : Int32) < (4 : Int32))).2.2.2 k) ?_
        refine own_back (S' := T5.setTop (mkF m 55 #[.val (.ref a1), .val (.int (4 : Int32)), .val (.int (2 : Int32))] [(.ref a1)])) (fun _ k => XS.aloadN X5.here hx rfl (hb hby d9_54) rfl rfl k) ?_
        refine own_back (S' := T5.setTop (mkF m 56 #[.val (.ref a1), .val (.int (4 : Int32)), .val (.int (2 : Int32))] [(.int (3 : Int32)), (.ref a1)])) (fun _ k => XS.iconst X5.here hx rfl (hb hby d9_55)  k) ?_
        refine own_back (S' := T5.setTop (mkF m 57 #[.val (.ref a1), .val (.int (4 : Int32)), .val (.int (2 : Int32))] [(.int c3)])) (own_ldC X5 hx hZ e5 PA (k := 3) (w := c3) (by decide) rfl (by decide) rfl (g := (mkF m 56 #[.val (.ref a1), .val (.int (4 : Int32)), .val (.int (2 : Int32))] [(.int (3 : Int32)), (.ref a1)])) rfl rfl (hb hby d9_56)) ?_
        obtain ⟨_, _, ⟨T11, L11, k11, n11⟩, -, X11, ⟨Lc11, hQ11, l11, y11, z11⟩, st11⟩ := Jvm.LawKit.callS X5 hx (y := (⟨"com/example/bindery/bindery/XmlPositionPassPinLaw", "term", "(C)Z"⟩ : MethodName)) hown (mvT hZ (hw _ (List.mem_of_getElem? (i := 44) rfl))) (mvT hZ (hw _ (List.mem_of_getElem? (i := 45) rfl))) (mvT hZ (hw _ (List.mem_of_getElem? (i := 3) rfl))) (mvT hZ (hw _ (List.mem_of_getElem? (i := 46) rfl))) (by decide) (backOf (W := 0) (rm10 l Z a0 hw [] c3 h0 n0 Z0 ) hZ (hw _ (List.mem_of_getElem? (i := 46) rfl)) (hw _ (List.mem_of_getElem? (i := 3) rfl)) (by decide) (by decide)) (g := (mkF m 57 #[.val (.ref a1), .val (.int (4 : Int32)), .val (.int (2 : Int32))] [(.int c3)])) rfl (by rw [hml]; rfl) (argsL := [(.int c3)]) (rest := []) (lenOf pd_1 rfl) rfl (by show 2 * 0 + _ ≤ _; exact Nat.le_of_eq rfl) (hb hby d9_57) (fun _ _ => ⟨rfl, e5, (by decide : 0 + 0 ≤ _), (by decide : 0 + 0 ≤ _)⟩)
        dsimp only [Pt.U, Pt.locs, Pt.cells, Pt.slots] at X11 l11 y11 z11 st11 hQ11
        subst l11 y11 z11
        obtain ⟨rfl, N11q, e11⟩ := hQ11
        have N11 := Fr.app N5 N11q
        refine own_back (S' := T11.setTop (mkF m 60 #[.val (.ref a1), .val (.int (4 : Int32)), .val (.int (2 : Int32))] [(.int (own_tm c3))])) (st11) ?_
        by_cases hc60_12 : (own_tm c3) = (0 : Int32)
        ·
          refine own_back (S' := T11.setTop (mkF m 65 #[.val (.ref a1), .val (.int (4 : Int32)), .val (.int (2 : Int32))] [])) (fun _ k => XS.ifYes X11.here hx rfl (pc0 := 60) (pc' := 65) rfl (hb hby d9_60) rfl ((if0 _ _).trans (teq hc60_12).1) (by decide) (by decide) k) ?_
          refine own_back (S' := T11.setTop (mkF m 66 #[.val (.ref a1), .val (.int (4 : Int32)), .val (.int (2 : Int32))] [(.int (4 : Int32))])) (fun _ k => XS.iloadN X11.here hx rfl (hb hby d9_65) rfl k) ?_
          refine own_back (S' := T11.setTop (mkF m 67 #[.val (.ref a1), .val (.int (4 : Int32)), .val (.int (2 : Int32))] [(.int (2 : Int32)), (.int (4 : Int32))])) (fun _ k => XS.iloadN X11.here hx rfl (hb hby d9_66) rfl k) ?_
          refine own_back (S' := T11.setTop (mkF m 68 #[.val (.ref a1), .val (.int (4 : Int32)), .val (.int (2 : Int32))] [(.int ((4 : Int32) - (2 : Int32)))])) (fun _ k => XS.isub X11.here hx rfl (hb hby d9_67) rfl k) ?_
          obtain ⟨fs, hr, hrun, hended, hW, hsame⟩ := X11.leave (v := some (.int ((4 : Int32) - (2 : Int32)))) (fun h => by rw [Bd.returns] at h; cases h)
          refine own_done ⟨_, _, retI X11 hx Bd.returns (hb hby d9_68) hr, hrun, hended, _, _, rfl, ?_, ⟨_, rfl⟩, hW, hsame.mono (by decide) (by decide)⟩
          show Q9_4 Z a1 c0 c1 c2 c3 h0 n0 _ T11.heap _
          rw [e11]
          exact ⟨by simp only [own_l1, own_l2, own_l3, own_l4, hc12_2, hc28_4, hc44_6, hc60_12, if_true, if_false], N11, rfl⟩
        ·
          refine own_back (S' := T11.setTop (mkF m 63 #[.val (.ref a1), .val (.int (4 : Int32)), .val (.int (2 : Int32))] [])) (fun _ k => XS.ifNo X11.here hx rfl (hb hby d9_60) rfl ((if0 _ _).trans (feq hc60_12).1) k) ?_
          refine own_back (S' := T11.setTop (mkF m 64 #[.val (.ref a1), .val (.int (4 : Int32)), .val (.int (2 : Int32))] [(.int (3 : Int32))])) (fun _ k => XS.iconst X11.here hx rfl (hb hby d9_63)  k) ?_
          refine own_back (S' := T11.setTop (mkF m 65 #[.val (.ref a1), .val (.int (4 : Int32)), .val (.int (3 : Int32))] [])) (fun _ k => XS.istoreN X11.here hx rfl (hb hby d9_64) rfl (l' := #[.val (.ref a1), .val (.int (4 : Int32)), .val (.int (3 : Int32))]) rfl k) ?_
          refine own_back (S' := T11.setTop (mkF m 66 #[.val (.ref a1), .val (.int (4 : Int32)), .val (.int (3 : Int32))] [(.int (4 : Int32))])) (fun _ k => XS.iloadN X11.here hx rfl (hb hby d9_65) rfl k) ?_
          refine own_back (S' := T11.setTop (mkF m 67 #[.val (.ref a1), .val (.int (4 : Int32)), .val (.int (3 : Int32))] [(.int (3 : Int32)), (.int (4 : Int32))])) (fun _ k => XS.iloadN X11.here hx rfl (hb hby d9_66) rfl k) ?_
          refine own_back (S' := T11.setTop (mkF m 68 #[.val (.ref a1), .val (.int (4 : Int32)), .val (.int (3 : Int32))] [(.int ((4 : Int32) - (3 : Int32)))])) (fun _ k => XS.isub X11.here hx rfl (hb hby d9_67) rfl k) ?_
          obtain ⟨fs, hr, hrun, hended, hW, hsame⟩ := X11.leave (v := some (.int ((4 : Int32) - (3 : Int32)))) (fun h => by rw [Bd.returns] at h; cases h)
          refine own_done ⟨_, _, retI X11 hx Bd.returns (hb hby d9_68) hr, hrun, hended, _, _, rfl, ?_, ⟨_, rfl⟩, hW, hsame.mono (by decide) (by decide)⟩
          show Q9_4 Z a1 c0 c1 c2 c3 h0 n0 _ T11.heap _
          rw [e11]
          exact ⟨by simp only [own_l1, own_l2, own_l3, own_l4, hc12_2, hc28_4, hc44_6, hc60_12, if_true, if_false], N11, rfl⟩
    ·
      refine own_back (S' := T3.setTop (mkF m 31 #[.val (.ref a1), .val (.int (4 : Int32)), .val (.int (-1 : Int32))] [])) (fun _ k => XS.ifNo X3.here hx rfl (hb hby d9_28) rfl ((if0 _ _).trans (feq hc28_4).1) k) ?_
      refine own_back (S' := T3.setTop (mkF m 32 #[.val (.ref a1), .val (.int (4 : Int32)), .val (.int (-1 : Int32))] [(.int (1 : Int32))])) (fun _ k => XS.iconst X3.here hx rfl (hb hby d9_31)  k) ?_
      refine own_back (S' := T3.setTop (mkF m 33 #[.val (.ref a1), .val (.int (4 : Int32)), .val (.int (1 : Int32))] [])) (fun _ k => XS.istoreN X3.here hx rfl (hb hby d9_32) rfl (l' := #[.val (.ref a1), .val (.int (4 : Int32)), .val (.int (1 : Int32))]) rfl k) ?_
      refine own_back (S' := T3.setTop (mkF m 34 #[.val (.ref a1), .val (.int (4 : Int32)), .val (.int (1 : Int32))] [(.int (4 : Int32))])) (fun _ k => XS.iloadN X3.here hx rfl (hb hby d9_33) rfl k) ?_
      refine own_back (S' := T3.setTop (mkF m 35 #[.val (.ref a1), .val (.int (4 : Int32)), .val (.int (1 : Int32))] [(.int (2 : Int32)), (.int (4 : Int32))])) (fun _ k => XS.iconst X3.here hx rfl (hb hby d9_34)  k) ?_
      refine own_back (S' := T3.setTop (mkF m 38 #[.val (.ref a1), .val (.int (4 : Int32)), .val (.int (1 : Int32))] [])) (fun _ k => XS.icmpNo X3.here hx rfl (hb hby d9_35) rfl (tlt ((by decide) : (2 : Int32) < (4 : Int32))).2.2.2 k) ?_
      refine own_back (S' := T3.setTop (mkF m 39 #[.val (.ref a1), .val (.int (4 : Int32)), .val (.int (1 : Int32))] [(.ref a1)])) (fun _ k => XS.aloadN X3.here hx rfl (hb hby d9_38) rfl rfl k) ?_
      refine own_back (S' := T3.setTop (mkF m 40 #[.val (.ref a1), .val (.int (4 : Int32)), .val (.int (1 : Int32))] [(.int (2 : Int32)), (.ref a1)])) (fun _ k => XS.iconst X3.here hx rfl (hb hby d9_39)  k) ?_
      refine own_back (S' := T3.setTop (mkF m 41 #[.val (.ref a1), .val (.int (4 : Int32)), .val (.int (1 : Int32))] [(.int c2)])) (own_ldC X3 hx hZ e3 PA (k := 2) (w := c2) (by decide) rfl (by decide) rfl (g := (mkF m 40 #[.val (.ref a1), .val (.int (4 : Int32)), .val (.int (1 : Int32))] [(.int (2 : Int32)), (.ref a1)])) rfl rfl (hb hby d9_40)) ?_
      obtain ⟨_, _, ⟨T15, L15, k15, n15⟩, -, X15, ⟨Lc15, hQ15, l15, y15, z15⟩, st15⟩ := Jvm.LawKit.callS X3 hx (y := (⟨"com/example/bindery/bindery/XmlPositionPassPinLaw", "term", "(C)Z"⟩ : MethodName)) hown (mvT hZ (hw _ (List.mem_of_getElem? (i := 44) rfl))) (mvT hZ (hw _ (List.mem_of_getElem? (i := 45) rfl))) (mvT hZ (hw _ (List.mem_of_getElem? (i := 3) rfl))) (mvT hZ (hw _ (List.mem_of_getElem? (i := 46) rfl))) (by decide) (backOf (W := 0) (rm10 l Z a0 hw [] c2 h0 n0 Z0 ) hZ (hw _ (List.mem_of_getElem? (i := 46) rfl)) (hw _ (List.mem_of_getElem? (i := 3) rfl)) (by decide) (by decide)) (g := (mkF m 41 #[.val (.ref a1), .val (.int (4 : Int32)), .val (.int (1 : Int32))] [(.int c2)])) rfl (by rw [hml]; rfl) (argsL := [(.int c2)]) (rest := []) (lenOf pd_1 rfl) rfl (by show 2 * 0 + _ ≤ _; exact Nat.le_of_eq rfl) (hb hby d9_41) (fun _ _ => ⟨rfl, e3, (by decide : 0 + 0 ≤ _), (by decide : 0 + 0 ≤ _)⟩)
      dsimp only [Pt.U, Pt.locs, Pt.cells, Pt.slots] at X15 l15 y15 z15 st15 hQ15
      subst l15 y15 z15
      obtain ⟨rfl, N15q, e15⟩ := hQ15
      have N15 := Fr.app N3 N15q
      refine own_back (S' := T15.setTop (mkF m 44 #[.val (.ref a1), .val (.int (4 : Int32)), .val (.int (1 : Int32))] [(.int (own_tm c2))])) (st15) ?_
      by_cases hc44_16 : (own_tm c2) = (0 : Int32)
      ·
        refine own_back (S' := T15.setTop (mkF m 49 #[.val (.ref a1), .val (.int (4 : Int32)), .val (.int (1 : Int32))] [])) (fun _ k => XS.ifYes X15.here hx rfl (pc0 := 44) (pc' := 49) rfl (hb hby d9_44) rfl ((if0 _ _).trans (teq hc44_16).1) (by decide) (by decide) k) ?_
        refine own_back (S' := T15.setTop (mkF m 50 #[.val (.ref a1), .val (.int (4 : Int32)), .val (.int (1 : Int32))] [(.int (4 : Int32))])) (fun _ k => XS.iloadN X15.here hx rfl (hb hby d9_49) rfl k) ?_
        refine own_back (S' := T15.setTop (mkF m 51 #[.val (.ref a1), .val (.int (4 : Int32)), .val (.int (1 : Int32))] [(.int (3 : Int32)), (.int (4 : Int32))])) (fun _ k => XS.iconst X15.here hx rfl (hb hby d9_50)  k) ?_
        refine own_back (S' := T15.setTop (mkF m 54 #[.val (.ref a1), .val (.int (4 : Int32)), .val (.int (1 : Int32))] [])) (fun _ k => XS.icmpNo X15.here hx rfl (hb hby d9_51) rfl (tlt ((by decide) : (3 : Int32) < (4 : Int32))).2.2.2 k) ?_
        refine own_back (S' := T15.setTop (mkF m 55 #[.val (.ref a1), .val (.int (4 : Int32)), .val (.int (1 : Int32))] [(.ref a1)])) (fun _ k => XS.aloadN X15.here hx rfl (hb hby d9_54) rfl rfl k) ?_
        refine own_back (S' := T15.setTop (mkF m 56 #[.val (.ref a1), .val (.int (4 : Int32)), .val (.int (1 : Int32))] [(.int (3 : Int32)), (.ref a1)])) (fun _ k => XS.iconst X15.here hx rfl (hb hby d9_55)  k) ?_
        refine own_back (S' := T15.setTop (mkF m 57 #[.val (.ref a1), .val (.int (4 : Int32)), .val (.int (1 : Int32))] [(.int c3)])) (own_ldC X15 hx hZ e15 PA (k := 3) (w := c3) (by decide) rfl (by decide) rfl (g := (mkF m 56 #[.val (.ref a1), .val (.int (4 : Int32)), .val (.int (1 : Int32))] [(.int (3 : Int32)), (.ref a1)])) rfl rfl (hb hby d9_56)) ?_
        obtain ⟨_, _, ⟨T17, L17, k17, n17⟩, -, X17, ⟨Lc17, hQ17, l17, y17, z17⟩, st17⟩ := Jvm.LawKit.callS X15 hx (y := (⟨"com/example/bindery/bindery/XmlPositionPassPinLaw", "term", "(C)Z"⟩ : MethodName)) hown (mvT hZ (hw _ (List.mem_of_getElem? (i := 44) rfl))) (mvT hZ (hw _ (List.mem_of_getElem? (i := 45) rfl))) (mvT hZ (hw _ (List.mem_of_getElem? (i := 3) rfl))) (mvT hZ (hw _ (List.mem_of_getElem? (i := 46) rfl))) (by decide) (backOf (W := 0) (rm10 l Z a0 hw [] c3 h0 n0 Z0 ) hZ (hw _ (List.mem_of_getElem? (i := 46) rfl)) (hw _ (List.mem_of_getElem? (i := 3) rfl)) (by decide) (by decide)) (g := (mkF m 57 #[.val (.ref a1), .val (.int (4 : Int32)), .val (.int (1 : Int32))] [(.int c3)])) rfl (by rw [hml]; rfl) (argsL := [(.int c3)]) (rest := []) (lenOf pd_1 rfl) rfl (by show 2 * 0 + _ ≤ _; exact Nat.le_of_eq rfl) (hb hby d9_57) (fun _ _ => ⟨rfl, e15, (by decide : 0 + 0 ≤ _), (by decide : 0 + 0 ≤ _)⟩)
        dsimp only [Pt.U, Pt.locs, Pt.cells, Pt.slots] at X17 l17 y17 z17 st17 hQ17
        subst l17 y17 z17
        obtain ⟨rfl, N17q, e17⟩ := hQ17
        have N17 := Fr.app N15 N17q
        refine own_back (S' := T17.setTop (mkF m 60 #[.val (.ref a1), .val (.int (4 : Int32)), .val (.int (1 : Int32))] [(.int (own_tm c3))])) (st17) ?_
        by_cases hc60_18 : (own_tm c3) = (0 : Int32)
        ·
          refine own_back (S' := T17.setTop (mkF m 65 #[.val (.ref a1), .val (.int (4 : Int32)), .val (.int (1 : Int32))] [])) (fun _ k => XS.ifYes X17.here hx rfl (pc0 := 60) (pc' := 65) rfl (hb hby d9_60) rfl ((if0 _ _).trans (teq hc60_18).1) (by decide) (by decide) k) ?_
          refine own_back (S' := T17.setTop (mkF m 66 #[.val (.ref a1), .val (.int (4 : Int32)), .val (.int (1 : Int32))] [(.int (4 : Int32))])) (fun _ k => XS.iloadN X17.here hx rfl (hb hby d9_65) rfl k) ?_
          refine own_back (S' := T17.setTop (mkF m 67 #[.val (.ref a1), .val (.int (4 : Int32)), .val (.int (1 : Int32))] [(.int (1 : Int32)), (.int (4 : Int32))])) (fun _ k => XS.iloadN X17.here hx rfl (hb hby d9_66) rfl k) ?_
          refine own_back (S' := T17.setTop (mkF m 68 #[.val (.ref a1), .val (.int (4 : Int32)), .val (.int (1 : Int32))] [(.int ((4 : Int32) - (1 : Int32)))])) (fun _ k => XS.isub X17.here hx rfl (hb hby d9_67) rfl k) ?_
          obtain ⟨fs, hr, hrun, hended, hW, hsame⟩ := X17.leave (v := some (.int ((4 : Int32) - (1 : Int32)))) (fun h => by rw [Bd.returns] at h; cases h)
          refine own_done ⟨_, _, retI X17 hx Bd.returns (hb hby d9_68) hr, hrun, hended, _, _, rfl, ?_, ⟨_, rfl⟩, hW, hsame.mono (by decide) (by decide)⟩
          show Q9_4 Z a1 c0 c1 c2 c3 h0 n0 _ T17.heap _
          rw [e17]
          exact ⟨by simp only [own_l1, own_l2, own_l3, own_l4, hc12_2, hc28_4, hc44_16, hc60_18, if_true, if_false], N17, rfl⟩
        ·
          refine own_back (S' := T17.setTop (mkF m 63 #[.val (.ref a1), .val (.int (4 : Int32)), .val (.int (1 : Int32))] [])) (fun _ k => XS.ifNo X17.here hx rfl (hb hby d9_60) rfl ((if0 _ _).trans (feq hc60_18).1) k) ?_
          refine own_back (S' := T17.setTop (mkF m 64 #[.val (.ref a1), .val (.int (4 : Int32)), .val (.int (1 : Int32))] [(.int (3 : Int32))])) (fun _ k => XS.iconst X17.here hx rfl (hb hby d9_63)  k) ?_
          refine own_back (S' := T17.setTop (mkF m 65 #[.val (.ref a1), .val (.int (4 : Int32)), .val (.int (3 : Int32))] [])) (fun _ k => XS.istoreN X17.here hx rfl (hb hby d9_64) rfl (l' := #[.val (.ref a1), .val (.int (4 : Int32)), .val (.int (3 : Int32))]) rfl k) ?_
          refine own_back (S' := T17.setTop (mkF m 66 #[.val (.ref a1), .val (.int (4 : Int32)), .val (.int (3 : Int32))] [(.int (4 : Int32))])) (fun _ k => XS.iloadN X17.here hx rfl (hb hby d9_65) rfl k) ?_
          refine own_back (S' := T17.setTop (mkF m 67 #[.val (.ref a1), .val (.int (4 : Int32)), .val (.int (3 : Int32))] [(.int (3 : Int32)), (.int (4 : Int32))])) (fun _ k => XS.iloadN X17.here hx rfl (hb hby d9_66) rfl k) ?_
          refine own_back (S' := T17.setTop (mkF m 68 #[.val (.ref a1), .val (.int (4 : Int32)), .val (.int (3 : Int32))] [(.int ((4 : Int32) - (3 : Int32)))])) (fun _ k => XS.isub X17.here hx rfl (hb hby d9_67) rfl k) ?_
          obtain ⟨fs, hr, hrun, hended, hW, hsame⟩ := X17.leave (v := some (.int ((4 : Int32) - (3 : Int32)))) (fun h => by rw [Bd.returns] at h; cases h)
          refine own_done ⟨_, _, retI X17 hx Bd.returns (hb hby d9_68) hr, hrun, hended, _, _, rfl, ?_, ⟨_, rfl⟩, hW, hsame.mono (by decide) (by decide)⟩
          show Q9_4 Z a1 c0 c1 c2 c3 h0 n0 _ T17.heap _
          rw [e17]
          exact ⟨by simp only [own_l1, own_l2, own_l3, own_l4, hc12_2, hc28_4, hc44_16, hc60_18, if_true, if_false], N17, rfl⟩
      ·
        refine own_back (S' := T15.setTop (mkF m 47 #[.val (.ref a1), .val (.int (4 : Int32)), .val (.int (1 : Int32))] [])) (fun _ k => XS.ifNo X15.here hx rfl (hb hby d9_44) rfl ((if0 _ _).trans (feq hc44_16).1) k) ?_
        refine own_back (S' := T15.setTop (mkF m 48 #[.val (.ref a1), .val (.int (4 : Int32)), .val (.int (1 : Int32))] [(.int (2 : Int32))])) (fun _ k => XS.iconst X15.here hx rfl (hb hby d9_47)  k) ?_
        refine own_back (S' := T15.setTop (mkF m 49 #[.val (.ref a1), .val (.int (4 : Int32)), .val (.int (2 : Int32))] [])) (fun _ k => XS.istoreN X15.here hx rfl (hb hby d9_48) rfl (l' := #[.val (.ref a1), .val (.int (4 : Int32)), .val (.int (2 : Int32))]) rfl k) ?_
        refine own_back (S' := T15.setTop (mkF m 50 #[.val (.ref a1), .val (.int (4 : Int32)), .val (.int (2 : Int32))] [(.int (4 : Int32))])) (fun _ k => XS.iloadN X15.here hx rfl (hb hby d9_49) rfl k) ?_
        refine own_back (S' := T15.setTop (mkF m 51 #[.val (.ref a1), .val (.int (4 : Int32)), .val (.int (2 : Int32))] [(.int (3 : Int32)), (.int (4 : Int32))])) (fun _ k => XS.iconst X15.here hx rfl (hb hby d9_50)  k) ?_
        refine own_back (S' := T15.setTop (mkF m 54 #[.val (.ref a1), .val (.int (4 : Int32)), .val (.int (2 : Int32))] [])) (fun _ k => XS.icmpNo X15.here hx rfl (hb hby d9_51) rfl (tlt ((by decide) : (3 : Int32) < (4 : Int32))).2.2.2 k) ?_
        refine own_back (S' := T15.setTop (mkF m 55 #[.val (.ref a1), .val (.int (4 : Int32)), .val (.int (2 : Int32))] [(.ref a1)])) (fun _ k => XS.aloadN X15.here hx rfl (hb hby d9_54) rfl rfl k) ?_
        refine own_back (S' := T15.setTop (mkF m 56 #[.val (.ref a1), .val (.int (4 : Int32)), .val (.int (2 : Int32))] [(.int (3 : Int32)), (.ref a1)])) (fun _ k => XS.iconst X15.here hx rfl (hb hby d9_55)  k) ?_
        refine own_back (S' := T15.setTop (mkF m 57 #[.val (.ref a1), .val (.int (4 : Int32)), .val (.int (2 : Int32))] [(.int c3)])) (own_ldC X15 hx hZ e15 PA (k := 3) (w := c3) (by decide) rfl (by decide) rfl (g := (mkF m 56 #[.val (.ref a1), .val (.int (4 : Int32)), .val (.int (2 : Int32))] [(.int (3 : Int32)), (.ref a1)])) rfl rfl (hb hby d9_56)) ?_
        obtain ⟨_, _, ⟨T21, L21, k21, n21⟩, -, X21, ⟨Lc21, hQ21, l21, y21, z21⟩, st21⟩ := Jvm.LawKit.callS X15 hx (y := (⟨"com/example/bindery/bindery/XmlPositionPassPinLaw", "term", "(C)Z"⟩ : MethodName)) hown (mvT hZ (hw _ (List.mem_of_getElem? (i := 44) rfl))) (mvT hZ (hw _ (List.mem_of_getElem? (i := 45) rfl))) (mvT hZ (hw _ (List.mem_of_getElem? (i := 3) rfl))) (mvT hZ (hw _ (List.mem_of_getElem? (i := 46) rfl))) (by decide) (backOf (W := 0) (rm10 l Z a0 hw [] c3 h0 n0 Z0 ) hZ (hw _ (List.mem_of_getElem? (i := 46) rfl)) (hw _ (List.mem_of_getElem? (i := 3) rfl)) (by decide) (by decide)) (g := (mkF m 57 #[.val (.ref a1), .val (.int (4 : Int32)), .val (.int (2 : Int32))] [(.int c3)])) rfl (by rw [hml]; rfl) (argsL := [(.int c3)]) (rest := []) (lenOf pd_1 rfl) rfl (by show 2 * 0 + _ ≤ _; exact Nat.le_of_eq rfl) (hb hby d9_57) (fun _ _ => ⟨rfl, e15, (by decide : 0 + 0 ≤ _), (by decide : 0 + 0 ≤ _)⟩)
        dsimp only [Pt.U, Pt.locs, Pt.cells, Pt.slots] at X21 l21 y21 z21 st21 hQ21
        subst l21 y21 z21
        obtain ⟨rfl, N21q, e21⟩ := hQ21
        have N21 := Fr.app N15 N21q
        refine own_back (S' := T21.setTop (mkF m 60 #[.val (.ref a1), .val (.int (4 : Int32)), .val (.int (2 : Int32))] [(.int (own_tm c3))])) (st21) ?_
        by_cases hc60_22 : (own_tm c3) = (0 : Int32)
        ·
          refine own_back (S' := T21.setTop (mkF m 65 #[.val (.ref a1), .val (.int (4 : Int32)), .val (.int (2 : Int32))] [])) (fun _ k => XS.ifYes X21.here hx rfl (pc0 := 60) (pc' := 65) rfl (hb hby d9_60) rfl ((if0 _ _).trans (teq hc60_22).1) (by decide) (by decide) k) ?_
          refine own_back (S' := T21.setTop (mkF m 66 #[.val (.ref a1), .val (.int (4 : Int32)), .val (.int (2 : Int32))] [(.int (4 : Int32))])) (fun _ k => XS.iloadN X21.here hx rfl (hb hby d9_65) rfl k) ?_
          refine own_back (S' := T21.setTop (mkF m 67 #[.val (.ref a1), .val (.int (4 : Int32)), .val (.int (2 : Int32))] [(.int (2 : Int32)), (.int (4 : Int32))])) (fun _ k => XS.iloadN X21.here hx rfl (hb hby d9_66) rfl k) ?_
          refine own_back (S' := T21.setTop (mkF m 68 #[.val (.ref a1), .val (.int (4 : Int32)), .val (.int (2 : Int32))] [(.int ((4 : Int32) - (2 : Int32)))])) (fun _ k => XS.isub X21.here hx rfl (hb hby d9_67) rfl k) ?_
          obtain ⟨fs, hr, hrun, hended, hW, hsame⟩ := X21.leave (v := some (.int ((4 : Int32) - (2 : Int32)))) (fun h => by rw [Bd.returns] at h; cases h)
          refine own_done ⟨_, _, retI X21 hx Bd.returns (hb hby d9_68) hr, hrun, hended, _, _, rfl, ?_, ⟨_, rfl⟩, hW, hsame.mono (by decide) (by decide)⟩
          show Q9_4 Z a1 c0 c1 c2 c3 h0 n0 _ T21.heap _
          rw [e21]
          exact ⟨by simp only [own_l1, own_l2, own_l3, own_l4, hc12_2, hc28_4, hc44_16, hc60_22, if_true, if_false], N21, rfl⟩
        ·
          refine own_back (S' := T21.setTop (mkF m 63 #[.val (.ref a1), .val (.int (4 : Int32)), .val (.int (2 : Int32))] [])) (fun _ k => XS.ifNo X21.here hx rfl (hb hby d9_60) rfl ((if0 _ _).trans (feq hc60_22).1) k) ?_
          refine own_back (S' := T21.setTop (mkF m 64 #[.val (.ref a1), .val (.int (4 : Int32)), .val (.int (2 : Int32))] [(.int (3 : Int32))])) (fun _ k => XS.iconst X21.here hx rfl (hb hby d9_63)  k) ?_
          refine own_back (S' := T21.setTop (mkF m 65 #[.val (.ref a1), .val (.int (4 : Int32)), .val (.int (3 : Int32))] [])) (fun _ k => XS.istoreN X21.here hx rfl (hb hby d9_64) rfl (l' := #[.val (.ref a1), .val (.int (4 : Int32)), .val (.int (3 : Int32))]) rfl k) ?_
          refine own_back (S' := T21.setTop (mkF m 66 #[.val (.ref a1), .val (.int (4 : Int32)), .val (.int (3 : Int32))] [(.int (4 : Int32))])) (fun _ k => XS.iloadN X21.here hx rfl (hb hby d9_65) rfl k) ?_
          refine own_back (S' := T21.setTop (mkF m 67 #[.val (.ref a1), .val (.int (4 : Int32)), .val (.int (3 : Int32))] [(.int (3 : Int32)), (.int (4 : Int32))])) (fun _ k => XS.iloadN X21.here hx rfl (hb hby d9_66) rfl k) ?_
          refine own_back (S' := T21.setTop (mkF m 68 #[.val (.ref a1), .val (.int (4 : Int32)), .val (.int (3 : Int32))] [(.int ((4 : Int32) - (3 : Int32)))])) (fun _ k => XS.isub X21.here hx rfl (hb hby d9_67) rfl k) ?_
          obtain ⟨fs, hr, hrun, hended, hW, hsame⟩ := X21.leave (v := some (.int ((4 : Int32) - (3 : Int32)))) (fun h => by rw [Bd.returns] at h; cases h)
          refine own_done ⟨_, _, retI X21 hx Bd.returns (hb hby d9_68) hr, hrun, hended, _, _, rfl, ?_, ⟨_, rfl⟩, hW, hsame.mono (by decide) (by decide)⟩
          show Q9_4 Z a1 c0 c1 c2 c3 h0 n0 _ T21.heap _
          rw [e21]
          exact ⟨by simp only [own_l1, own_l2, own_l3, own_l4, hc12_2, hc28_4, hc44_16, hc60_22, if_true, if_false], N21, rfl⟩
  ·
    refine own_back (S' := T1.setTop (mkF m 15 #[.val (.ref a1), .val (.int (4 : Int32)), .val (.int (-1 : Int32))] [])) (fun _ k => XS.ifNo X1.here hx rfl (hb hby d9_12) rfl ((if0 _ _).trans (feq hc12_2).1) k) ?_
    refine own_back (S' := T1.setTop (mkF m 16 #[.val (.ref a1), .val (.int (4 : Int32)), .val (.int (-1 : Int32))] [(.int (0 : Int32))])) (fun _ k => XS.iconst X1.here hx rfl (hb hby d9_15)  k) ?_
    refine own_back (S' := T1.setTop (mkF m 17 #[.val (.ref a1), .val (.int (4 : Int32)), .val (.int (0 : Int32))] [])) (fun _ k => XS.istoreN X1.here hx rfl (hb hby d9_16) rfl (l' := #[.val (.ref a1), .val (.int (4 : Int32)), .val (.int (0 : Int32))]) rfl k) ?_
    refine own_back (S' := T1.setTop (mkF m 18 #[.val (.ref a1), .val (.int (4 : Int32)), .val (.int (0 : Int32))] [(.int (4 : Int32))])) (fun _ k => XS.iloadN X1.here hx rfl (hb hby d9_17) rfl k) ?_
    refine own_back (S' := T1.setTop (mkF m 19 #[.val (.ref a1), .val (.int (4 : Int32)), .val (.int (0 : Int32))] [(.int (1 : Int32)), (.int (4 : Int32))])) (fun _ k => XS.iconst X1.here hx rfl (hb hby d9_18)  k) ?_
    refine own_back (S' := T1.setTop (mkF m 22 #[.val (.ref a1), .val (.int (4 : Int32)), .val (.int (0 : Int32))] [])) (fun _ k => XS.icmpNo X1.here hx rfl (hb hby d9_19) rfl (tlt ((by decide) : (1 : Int32) < (4 : Int32))).2.2.2 k) ?_
    refine own_back (S' := T1.setTop (mkF m 23 #[.val (.ref a1), .val (.int (4 : Int32)), .val (.int (0 : Int32))] [(.ref a1)])) (fun _ k => XS.aloadN X1.here hx rfl (hb hby d9_22) rfl rfl k) ?_
    refine own_back (S' := T1.setTop (mkF m 24 #[.val (.ref a1), .val (.int (4 : Int32)), .val (.int (0 : Int32))] [(.int (1 : Int32)), (.ref a1)])) (fun _ k => XS.iconst X1.here hx rfl (hb hby d9_23)  k) ?_
    refine own_back (S' := T1.setTop (mkF m 25 #[.val (.ref a1), .val (.int (4 : Int32)), .val (.int (0 : Int32))] [(.int c1)])) (own_ldC X1 hx hZ e1 PA (k := 1) (w := c1) (by decide) rfl (by decide) rfl (g := (mkF m 24 #[.val (.ref a1), .val (.int (4 : Int32)), .val (.int (0 : Int32))] [(.int (1 : Int32)), (.ref a1)])) rfl rfl (hb hby d9_24)) ?_
    obtain ⟨_, _, ⟨T25, L25, k25, n25⟩, -, X25, ⟨Lc25, hQ25, l25, y25, z25⟩, st25⟩ := Jvm.LawKit.callS X1 hx (y := (⟨"com/example/bindery/bindery/XmlPositionPassPinLaw", "term", "(C)Z"⟩ : MethodName)) hown (mvT hZ (hw _ (List.mem_of_getElem? (i := 44) rfl))) (mvT hZ (hw _ (List.mem_of_getElem? (i := 45) rfl))) (mvT hZ (hw _ (List.mem_of_getElem? (i := 3) rfl))) (mvT hZ (hw _ (List.mem_of_getElem? (i := 46) rfl))) (by decide) (backOf (W := 0) (rm10 l Z a0 hw [] c1 h0 n0 Z0 ) hZ (hw _ (List.mem_of_getElem? (i := 46) rfl)) (hw _ (List.mem_of_getElem? (i := 3) rfl)) (by decide) (by decide)) (g := (mkF m 25 #[.val (.ref a1), .val (.int (4 : Int32)), .val (.int (0 : Int32))] [(.int c1)])) rfl (by rw [hml]; rfl) (argsL := [(.int c1)]) (rest := []) (lenOf pd_1 rfl) rfl (by show 2 * 0 + _ ≤ _; exact Nat.le_of_eq rfl) (hb hby d9_25) (fun _ _ => ⟨rfl, e1, (by decide : 0 + 0 ≤ _), (by decide : 0 + 0 ≤ _)⟩)
    dsimp only [Pt.U, Pt.locs, Pt.cells, Pt.slots] at X25 l25 y25 z25 st25 hQ25
    subst l25 y25 z25
    obtain ⟨rfl, N25q, e25⟩ := hQ25
    have N25 := Fr.app N1 N25q
    refine own_back (S' := T25.setTop (mkF m 28 #[.val (.ref a1), .val (.int (4 : Int32)), .val (.int (0 : Int32))] [(.int (own_tm c1))])) (st25) ?_
    by_cases hc28_26 : (own_tm c1) = (0 : Int32)
    ·
      refine own_back (S' := T25.setTop (mkF m 33 #[.val (.ref a1), .val (.int (4 : Int32)), .val (.int (0 : Int32))] [])) (fun _ k => XS.ifYes X25.here hx rfl (pc0 := 28) (pc' := 33) rfl (hb hby d9_28) rfl ((if0 _ _).trans (teq hc28_26).1) (by decide) (by decide) k) ?_
      refine own_back (S' := T25.setTop (mkF m 34 #[.val (.ref a1), .val (.int (4 : Int32)), .val (.int (0 : Int32))] [(.int (4 : Int32))])) (fun _ k => XS.iloadN X25.here hx rfl (hb hby d9_33) rfl k) ?_
      refine own_back (S' := T25.setTop (mkF m 35 #[.val (.ref a1), .val (.int (4 : Int32)), .val (.int (0 : Int32))] [(.int (2 : Int32)), (.int (4 : Int32))])) (fun _ k => XS.iconst X25.here hx rfl (hb hby d9_34)  k) ?_
      refine own_back (S' := T25.setTop (mkF m 38 #[.val (.ref a1), .val (.int (4 : Int32)), .val (.int (0 : Int32))] [])) (fun _ k => XS.icmpNo X25.here hx rfl (hb hby d9_35) rfl (tlt ((by decide) : (2 : Int32) < (4 : Int32))).2.2.2 k) ?_
      refine own_back (S' := T25.setTop (mkF m 39 #[.val (.ref a1), .val (.int (4 : Int32)), .val (.int (0 : Int32))] [(.ref a1)])) (fun _ k => XS.aloadN X25.here hx rfl (hb hby d9_38) rfl rfl k) ?_
      refine own_back (S' := T25.setTop (mkF m 40 #[.val (.ref a1), .val (.int (4 : Int32)), .val (.int (0 : Int32))] [(.int (2 : Int32)), (.ref a1)])) (fun _ k => XS.iconst X25.here hx rfl (hb hby d9_39)  k) ?_
      refine own_back (S' := T25.setTop (mkF m 41 #[.val (.ref a1), .val (.int (4 : Int32)), .val (.int (0 : Int32))] [(.int c2)])) (own_ldC X25 hx hZ e25 PA (k := 2) (w := c2) (by decide) rfl (by decide) rfl (g := (mkF m 40 #[.val (.ref a1), .val (.int (4 : Int32)), .val (.int (0 : Int32))] [(.int (2 : Int32)), (.ref a1)])) rfl rfl (hb hby d9_40)) ?_
      obtain ⟨_, _, ⟨T27, L27, k27, n27⟩, -, X27, ⟨Lc27, hQ27, l27, y27, z27⟩, st27⟩ := Jvm.LawKit.callS X25 hx (y := (⟨"com/example/bindery/bindery/XmlPositionPassPinLaw", "term", "(C)Z"⟩ : MethodName)) hown (mvT hZ (hw _ (List.mem_of_getElem? (i := 44) rfl))) (mvT hZ (hw _ (List.mem_of_getElem? (i := 45) rfl))) (mvT hZ (hw _ (List.mem_of_getElem? (i := 3) rfl))) (mvT hZ (hw _ (List.mem_of_getElem? (i := 46) rfl))) (by decide) (backOf (W := 0) (rm10 l Z a0 hw [] c2 h0 n0 Z0 ) hZ (hw _ (List.mem_of_getElem? (i := 46) rfl)) (hw _ (List.mem_of_getElem? (i := 3) rfl)) (by decide) (by decide)) (g := (mkF m 41 #[.val (.ref a1), .val (.int (4 : Int32)), .val (.int (0 : Int32))] [(.int c2)])) rfl (by rw [hml]; rfl) (argsL := [(.int c2)]) (rest := []) (lenOf pd_1 rfl) rfl (by show 2 * 0 + _ ≤ _; exact Nat.le_of_eq rfl) (hb hby d9_41) (fun _ _ => ⟨rfl, e25, (by decide : 0 + 0 ≤ _), (by decide : 0 + 0 ≤ _)⟩)
      dsimp only [Pt.U, Pt.locs, Pt.cells, Pt.slots] at X27 l27 y27 z27 st27 hQ27
      subst l27 y27 z27
      obtain ⟨rfl, N27q, e27⟩ := hQ27
      have N27 := Fr.app N25 N27q
      refine own_back (S' := T27.setTop (mkF m 44 #[.val (.ref a1), .val (.int (4 : Int32)), .val (.int (0 : Int32))] [(.int (own_tm c2))])) (st27) ?_
      by_cases hc44_28 : (own_tm c2) = (0 : Int32)
      ·
        refine own_back (S' := T27.setTop (mkF m 49 #[.val (.ref a1), .val (.int (4 : Int32)), .val (.int (0 : Int32))] [])) (fun _ k => XS.ifYes X27.here hx rfl (pc0 := 44) (pc' := 49) rfl (hb hby d9_44) rfl ((if0 _ _).trans (teq hc44_28).1) (by decide) (by decide) k) ?_
        refine own_back (S' := T27.setTop (mkF m 50 #[.val (.ref a1), .val (.int (4 : Int32)), .val (.int (0 : Int32))] [(.int (4 : Int32))])) (fun _ k => XS.iloadN X27.here hx rfl (hb hby d9_49) rfl k) ?_
        refine own_back (S' := T27.setTop (mkF m 51 #[.val (.ref a1), .val (.int (4 : Int32)), .val (.int (0 : Int32))] [(.int (3 : Int32)), (.int (4 : Int32))])) (fun _ k => XS.iconst X27.here hx rfl (hb hby d9_50)  k) ?_
        refine own_back (S' := T27.setTop (mkF m 54 #[.val (.ref a1), .val (.int (4 : Int32)), .val (.int (0 : Int32))] [])) (fun _ k => XS.icmpNo X27.here hx rfl (hb hby d9_51) rfl (tlt ((by decide) : (3 : Int32) < (4 : Int32))).2.2.2 k) ?_
        refine own_back (S' := T27.setTop (mkF m 55 #[.val (.ref a1), .val (.int (4 : Int32)), .val (.int (0 : Int32))] [(.ref a1)])) (fun _ k => XS.aloadN X27.here hx rfl (hb hby d9_54) rfl rfl k) ?_
        refine own_back (S' := T27.setTop (mkF m 56 #[.val (.ref a1), .val (.int (4 : Int32)), .val (.int (0 : Int32))] [(.int (3 : Int32)), (.ref a1)])) (fun _ k => XS.iconst X27.here hx rfl (hb hby d9_55)  k) ?_
        refine own_back (S' := T27.setTop (mkF m 57 #[.val (.ref a1), .val (.int (4 : Int32)), .val (.int (0 : Int32))] [(.int c3)])) (own_ldC X27 hx hZ e27 PA (k := 3) (w := c3) (by decide) rfl (by decide) rfl (g := (mkF m 56 #[.val (.ref a1), .val (.int (4 : Int32)), .val (.int (0 : Int32))] [(.int (3 : Int32)), (.ref a1)])) rfl rfl (hb hby d9_56)) ?_
        obtain ⟨_, _, ⟨T29, L29, k29, n29⟩, -, X29, ⟨Lc29, hQ29, l29, y29, z29⟩, st29⟩ := Jvm.LawKit.callS X27 hx (y := (⟨"com/example/bindery/bindery/XmlPositionPassPinLaw", "term", "(C)Z"⟩ : MethodName)) hown (mvT hZ (hw _ (List.mem_of_getElem? (i := 44) rfl))) (mvT hZ (hw _ (List.mem_of_getElem? (i := 45) rfl))) (mvT hZ (hw _ (List.mem_of_getElem? (i := 3) rfl))) (mvT hZ (hw _ (List.mem_of_getElem? (i := 46) rfl))) (by decide) (backOf (W := 0) (rm10 l Z a0 hw [] c3 h0 n0 Z0 ) hZ (hw _ (List.mem_of_getElem? (i := 46) rfl)) (hw _ (List.mem_of_getElem? (i := 3) rfl)) (by decide) (by decide)) (g := (mkF m 57 #[.val (.ref a1), .val (.int (4 : Int32)), .val (.int (0 : Int32))] [(.int c3)])) rfl (by rw [hml]; rfl) (argsL := [(.int c3)]) (rest := []) (lenOf pd_1 rfl) rfl (by show 2 * 0 + _ ≤ _; exact Nat.le_of_eq rfl) (hb hby d9_57) (fun _ _ => ⟨rfl, e27, (by decide : 0 + 0 ≤ _), (by decide : 0 + 0 ≤ _)⟩)
        dsimp only [Pt.U, Pt.locs, Pt.cells, Pt.slots] at X29 l29 y29 z29 st29 hQ29
        subst l29 y29 z29
        obtain ⟨rfl, N29q, e29⟩ := hQ29
        have N29 := Fr.app N27 N29q
        refine own_back (S' := T29.setTop (mkF m 60 #[.val (.ref a1), .val (.int (4 : Int32)), .val (.int (0 : Int32))] [(.int (own_tm c3))])) (st29) ?_
        by_cases hc60_30 : (own_tm c3) = (0 : Int32)
        ·
          refine own_back (S' := T29.setTop (mkF m 65 #[.val (.ref a1), .val (.int (4 : Int32)), .val (.int (0 : Int32))] [])) (fun _ k => XS.ifYes X29.here hx rfl (pc0 := 60) (pc' := 65) rfl (hb hby d9_60) rfl ((if0 _ _).trans (teq hc60_30).1) (by decide) (by decide) k) ?_
          refine own_back (S' := T29.setTop (mkF m 66 #[.val (.ref a1), .val (.int (4 : Int32)), .val (.int (0 : Int32))] [(.int (4 : Int32))])) (fun _ k => XS.iloadN X29.here hx rfl (hb hby d9_65) rfl k) ?_
          refine own_back (S' := T29.setTop (mkF m 67 #[.val (.ref a1), .val (.int (4 : Int32)), .val (.int (0 : Int32))] [(.int (0 : Int32)), (.int (4 : Int32))])) (fun _ k => XS.iloadN X29.here hx rfl (hb hby d9_66) rfl k) ?_
          refine own_back (S' := T29.setTop (mkF m 68 #[.val (.ref a1), .val (.int (4 : Int32)), .val (.int (0 : Int32))] [(.int ((4 : Int32) - (0 : Int32)))])) (fun _ k => XS.isub X29.here hx rfl (hb hby d9_67) rfl k) ?_
          obtain ⟨fs, hr, hrun, hended, hW, hsame⟩ := X29.leave (v := some (.int ((4 : Int32) - (0 : Int32)))) (fun h => by rw [Bd.returns] at h; cases h)
          refine own_done ⟨_, _, retI X29 hx Bd.returns (hb hby d9_68) hr, hrun, hended, _, _, rfl, ?_, ⟨_, rfl⟩, hW, hsame.mono (by decide) (by decide)⟩
          show Q9_4 Z a1 c0 c1 c2 c3 h0 n0 _ T29.heap _
          rw [e29]
          exact ⟨by simp only [own_l1, own_l2, own_l3, own_l4, hc12_2, hc28_26, hc44_28, hc60_30, if_true, if_false], N29, rfl⟩
        ·
          refine own_back (S' := T29.setTop (mkF m 63 #[.val (.ref a1), .val (.int (4 : Int32)), .val (.int (0 : Int32))] [])) (fun _ k => XS.ifNo X29.here hx rfl (hb hby d9_60) rfl ((if0 _ _).trans (feq hc60_30).1) k) ?_
          refine own_back (S' := T29.setTop (mkF m 64 #[.val (.ref a1), .val (.int (4 : Int32)), .val (.int (0 : Int32))] [(.int (3 : Int32))])) (fun _ k => XS.iconst X29.here hx rfl (hb hby d9_63)  k) ?_
          refine own_back (S' := T29.setTop (mkF m 65 #[.val (.ref a1), .val (.int (4 : Int32)), .val (.int (3 : Int32))] [])) (fun _ k => XS.istoreN X29.here hx rfl (hb hby d9_64) rfl (l' := #[.val (.ref a1), .val (.int (4 : Int32)), .val (.int (3 : Int32))]) rfl k) ?_
          refine own_back (S' := T29.setTop (mkF m 66 #[.val (.ref a1), .val (.int (4 : Int32)), .val (.int (3 : Int32))] [(.int (4 : Int32))])) (fun _ k => XS.iloadN X29.here hx rfl (hb hby d9_65) rfl k) ?_
          refine own_back (S' := T29.setTop (mkF m 67 #[.val (.ref a1), .val (.int (4 : Int32)), .val (.int (3 : Int32))] [(.int (3 : Int32)), (.int (4 : Int32))])) (fun _ k => XS.iloadN X29.here hx rfl (hb hby d9_66) rfl k) ?_
          refine own_back (S' := T29.setTop (mkF m 68 #[.val (.ref a1), .val (.int (4 : Int32)), .val (.int (3 : Int32))] [(.int ((4 : Int32) - (3 : Int32)))])) (fun _ k => XS.isub X29.here hx rfl (hb hby d9_67) rfl k) ?_
          obtain ⟨fs, hr, hrun, hended, hW, hsame⟩ := X29.leave (v := some (.int ((4 : Int32) - (3 : Int32)))) (fun h => by rw [Bd.returns] at h; cases h)
          refine own_done ⟨_, _, retI X29 hx Bd.returns (hb hby d9_68) hr, hrun, hended, _, _, rfl, ?_, ⟨_, rfl⟩, hW, hsame.mono (by decide) (by decide)⟩
          show Q9_4 Z a1 c0 c1 c2 c3 h0 n0 _ T29.heap _
          rw [e29]
          exact ⟨by simp only [own_l1, own_l2, own_l3, own_l4, hc12_2, hc28_26, hc44_28, hc60_30, if_true, if_false], N29, rfl⟩
      ·
        refine own_back (S' := T27.setTop (mkF m 47 #[.val (.ref a1), .val (.int (4 : Int32)), .val (.int (0 : Int32))] [])) (fun _ k => XS.ifNo X27.here hx rfl (hb hby d9_44) rfl ((if0 _ _).trans (feq hc44_28).1) k) ?_
        refine own_back (S' := T27.setTop (mkF m 48 #[.val (.ref a1), .val (.int (4 : Int32)), .val (.int (0 : Int32))] [(.int (2 : Int32))])) (fun _ k => XS.iconst X27.here hx rfl (hb hby d9_47)  k) ?_
        refine own_back (S' := T27.setTop (mkF m 49 #[.val (.ref a1), .val (.int (4 : Int32)), .val (.int (2 : Int32))] [])) (fun _ k => XS.istoreN X27.here hx rfl (hb hby d9_48) rfl (l' := #[.val (.ref a1), .val (.int (4 : Int32)), .val (.int (2 : Int32))]) rfl k) ?_
        refine own_back (S' := T27.setTop (mkF m 50 #[.val (.ref a1), .val (.int (4 : Int32)), .val (.int (2 : Int32))] [(.int (4 : Int32))])) (fun _ k => XS.iloadN X27.here hx rfl (hb hby d9_49) rfl k) ?_
        refine own_back (S' := T27.setTop (mkF m 51 #[.val (.ref a1), .val (.int (4 : Int32)), .val (.int (2 : Int32))] [(.int (3 : Int32)), (.int (4 : Int32))])) (fun _ k => XS.iconst X27.here hx rfl (hb hby d9_50)  k) ?_
        refine own_back (S' := T27.setTop (mkF m 54 #[.val (.ref a1), .val (.int (4 : Int32)), .val (.int (2 : Int32))] [])) (fun _ k => XS.icmpNo X27.here hx rfl (hb hby d9_51) rfl (tlt ((by decide) : (3 : Int32) < (4 : Int32))).2.2.2 k) ?_
        refine own_back (S' := T27.setTop (mkF m 55 #[.val (.ref a1), .val (.int (4 : Int32)), .val (.int (2 : Int32))] [(.ref a1)])) (fun _ k => XS.aloadN X27.here hx rfl (hb hby d9_54) rfl rfl k) ?_
        refine own_back (S' := T27.setTop (mkF m 56 #[.val (.ref a1), .val (.int (4 : Int32)), .val (.int (2 : Int32))] [(.int (3 : Int32)), (.ref a1)])) (fun _ k => XS.iconst X27.here hx rfl (hb hby d9_55)  k) ?_
        refine own_back (S' := T27.setTop (mkF m 57 #[.val (.ref a1), .val (.int (4 : Int32)), .val (.int (2 : Int32))] [(.int c3)])) (own_ldC X27 hx hZ e27 PA (k := 3) (w := c3) (by decide) rfl (by decide) rfl (g := (mkF m 56 #[.val (.ref a1), .val (.int (4 : Int32)), .val (.int (2 : Int32))] [(.int (3 : Int32)), (.ref a1)])) rfl rfl (hb hby d9_56)) ?_
        obtain ⟨_, _, ⟨T33, L33, k33, n33⟩, -, X33, ⟨Lc33, hQ33, l33, y33, z33⟩, st33⟩ := Jvm.LawKit.callS X27 hx (y := (⟨"com/example/bindery/bindery/XmlPositionPassPinLaw", "term", "(C)Z"⟩ : MethodName)) hown (mvT hZ (hw _ (List.mem_of_getElem? (i := 44) rfl))) (mvT hZ (hw _ (List.mem_of_getElem? (i := 45) rfl))) (mvT hZ (hw _ (List.mem_of_getElem? (i := 3) rfl))) (mvT hZ (hw _ (List.mem_of_getElem? (i := 46) rfl))) (by decide) (backOf (W := 0) (rm10 l Z a0 hw [] c3 h0 n0 Z0 ) hZ (hw _ (List.mem_of_getElem? (i := 46) rfl)) (hw _ (List.mem_of_getElem? (i := 3) rfl)) (by decide) (by decide)) (g := (mkF m 57 #[.val (.ref a1), .val (.int (4 : Int32)), .val (.int (2 : Int32))] [(.int c3)])) rfl (by rw [hml]; rfl) (argsL := [(.int c3)]) (rest := []) (lenOf pd_1 rfl) rfl (by show 2 * 0 + _ ≤ _; exact Nat.le_of_eq rfl) (hb hby d9_57) (fun _ _ => ⟨rfl, e27, (by decide : 0 + 0 ≤ _), (by decide : 0 + 0 ≤ _)⟩)
        dsimp only [Pt.U, Pt.locs, Pt.cells, Pt.slots] at X33 l33 y33 z33 st33 hQ33
        subst l33 y33 z33
        obtain ⟨rfl, N33q, e33⟩ := hQ33
        have N33 := Fr.app N27 N33q
        refine own_back (S' := T33.setTop (mkF m 60 #[.val (.ref a1), .val (.int (4 : Int32)), .val (.int (2 : Int32))] [(.int (own_tm c3))])) (st33) ?_
        by_cases hc60_34 : (own_tm c3) = (0 : Int32)
        ·
          refine own_back (S' := T33.setTop (mkF m 65 #[.val (.ref a1), .val (.int (4 : Int32)), .val (.int (2 : Int32))] [])) (fun _ k => XS.ifYes X33.here hx rfl (pc0 := 60) (pc' := 65) rfl (hb hby d9_60) rfl ((if0 _ _).trans (teq hc60_34).1) (by decide) (by decide) k) ?_
          refine own_back (S' := T33.setTop (mkF m 66 #[.val (.ref a1), .val (.int (4 : Int32)), .val (.int (2 : Int32))] [(.int (4 : Int32))])) (fun _ k => XS.iloadN X33.here hx rfl (hb hby d9_65) rfl k) ?_
          refine own_back (S' := T33.setTop (mkF m 67 #[.val (.ref a1), .val (.int (4 : Int32)), .val (.int (2 : Int32))] [(.int (2 : Int32)), (.int (4 : Int32))])) (fun _ k => XS.iloadN X33.here hx rfl (hb hby d9_66) rfl k) ?_
          refine own_back (S' := T33.setTop (mkF m 68 #[.val (.ref a1), .val (.int (4 : Int32)), .val (.int (2 : Int32))] [(.int ((4 : Int32) - (2 : Int32)))])) (fun _ k => XS.isub X33.here hx rfl (hb hby d9_67) rfl k) ?_
          obtain ⟨fs, hr, hrun, hended, hW, hsame⟩ := X33.leave (v := some (.int ((4 : Int32) - (2 : Int32)))) (fun h => by rw [Bd.returns] at h; cases h)
          refine own_done ⟨_, _, retI X33 hx Bd.returns (hb hby d9_68) hr, hrun, hended, _, _, rfl, ?_, ⟨_, rfl⟩, hW, hsame.mono (by decide) (by decide)⟩
          show Q9_4 Z a1 c0 c1 c2 c3 h0 n0 _ T33.heap _
          rw [e33]
          exact ⟨by simp only [own_l1, own_l2, own_l3, own_l4, hc12_2, hc28_26, hc44_28, hc60_34, if_true, if_false], N33, rfl⟩
        ·
          refine own_back (S' := T33.setTop (mkF m 63 #[.val (.ref a1), .val (.int (4 : Int32)), .val (.int (2 : Int32))] [])) (fun _ k => XS.ifNo X33.here hx rfl (hb hby d9_60) rfl ((if0 _ _).trans (feq hc60_34).1) k) ?_
          refine own_back (S' := T33.setTop (mkF m 64 #[.val (.ref a1), .val (.int (4 : Int32)), .val (.int (2 : Int32))] [(.int (3 : Int32))])) (fun _ k => XS.iconst X33.here hx rfl (hb hby d9_63)  k) ?_
          refine own_back (S' := T33.setTop (mkF m 65 #[.val (.ref a1), .val (.int (4 : Int32)), .val (.int (3 : Int32))] [])) (fun _ k => XS.istoreN X33.here hx rfl (hb hby d9_64) rfl (l' := #[.val (.ref a1), .val (.int (4 : Int32)), .val (.int (3 : Int32))]) rfl k) ?_
          refine own_back (S' := T33.setTop (mkF m 66 #[.val (.ref a1), .val (.int (4 : Int32)), .val (.int (3 : Int32))] [(.int (4 : Int32))])) (fun _ k => XS.iloadN X33.here hx rfl (hb hby d9_65) rfl k) ?_
          refine own_back (S' := T33.setTop (mkF m 67 #[.val (.ref a1), .val (.int (4 : Int32)), .val (.int (3 : Int32))] [(.int (3 : Int32)), (.int (4 : Int32))])) (fun _ k => XS.iloadN X33.here hx rfl (hb hby d9_66) rfl k) ?_
          refine own_back (S' := T33.setTop (mkF m 68 #[.val (.ref a1), .val (.int (4 : Int32)), .val (.int (3 : Int32))] [(.int ((4 : Int32) - (3 : Int32)))])) (fun _ k => XS.isub X33.here hx rfl (hb hby d9_67) rfl k) ?_
          obtain ⟨fs, hr, hrun, hended, hW, hsame⟩ := X33.leave (v := some (.int ((4 : Int32) - (3 : Int32)))) (fun h => by rw [Bd.returns] at h; cases h)
          refine own_done ⟨_, _, retI X33 hx Bd.returns (hb hby d9_68) hr, hrun, hended, _, _, rfl, ?_, ⟨_, rfl⟩, hW, hsame.mono (by decide) (by decide)⟩
          show Q9_4 Z a1 c0 c1 c2 c3 h0 n0 _ T33.heap _
          rw [e33]
          exact ⟨by simp only [own_l1, own_l2, own_l3, own_l4, hc12_2, hc28_26, hc44_28, hc60_34, if_true, if_false], N33, rfl⟩
    ·
      refine own_back (S' := T25.setTop (mkF m 31 #[.val (.ref a1), .val (.int (4 : Int32)), .val (.int (0 : Int32))] [])) (fun _ k => XS.ifNo X25.here hx rfl (hb hby d9_28) rfl ((if0 _ _).trans (feq hc28_26).1) k) ?_
      refine own_back (S' := T25.setTop (mkF m 32 #[.val (.ref a1), .val (.int (4 : Int32)), .val (.int (0 : Int32))] [(.int (1 : Int32))])) (fun _ k => XS.iconst X25.here hx rfl (hb hby d9_31)  k) ?_
      refine own_back (S' := T25.setTop (mkF m 33 #[.val (.ref a1), .val (.int (4 : Int32)), .val (.int (1 : Int32))] [])) (fun _ k => XS.istoreN X25.here hx rfl (hb hby d9_32) rfl (l' := #[.val (.ref a1), .val (.int (4 : Int32)), .val (.int (1 : Int32))]) rfl k) ?_
      refine own_back (S' := T25.setTop (mkF m 34 #[.val (.ref a1), .val (.int (4 : Int32)), .val (.int (1 : Int32))] [(.int (4 : Int32))])) (fun _ k => XS.iloadN X25.here hx rfl (hb hby d9_33) rfl k) ?_
      refine own_back (S' := T25.setTop (mkF m 35 #[.val (.ref a1), .val (.int (4 : Int32)), .val (.int (1 : Int32))] [(.int (2 : Int32)), (.int (4 : Int32))])) (fun _ k => XS.iconst X25.here hx rfl (hb hby d9_34)  k) ?_
      refine own_back (S' := T25.setTop (mkF m 38 #[.val (.ref a1), .val (.int (4 : Int32)), .val (.int (1 : Int32))] [])) (fun _ k => XS.icmpNo X25.here hx rfl (hb hby d9_35) rfl (tlt ((by decide) : (2 : Int32) < (4 : Int32))).2.2.2 k) ?_
      refine own_back (S' := T25.setTop (mkF m 39 #[.val (.ref a1), .val (.int (4 : Int32)), .val (.int (1 : Int32))] [(.ref a1)])) (fun _ k => XS.aloadN X25.here hx rfl (hb hby d9_38) rfl rfl k) ?_
      refine own_back (S' := T25.setTop (mkF m 40 #[.val (.ref a1), .val (.int (4 : Int32)), .val (.int (1 : Int32))] [(.int (2 : Int32)), (.ref a1)])) (fun _ k => XS.iconst X25.here hx rfl (hb hby d9_39)  k) ?_
      refine own_back (S' := T25.setTop (mkF m 41 #[.val (.ref a1), .val (.int (4 : Int32)), .val (.int (1 : Int32))] [(.int c2)])) (own_ldC X25 hx hZ e25 PA (k := 2) (w := c2) (by decide) rfl (by decide) rfl (g := (mkF m 40 #[.val (.ref a1), .val (.int (4 : Int32)), .val (.int (1 : Int32))] [(.int (2 : Int32)), (.ref a1)])) rfl rfl (hb hby d9_40)) ?_
      obtain ⟨_, _, ⟨T37, L37, k37, n37⟩, -, X37, ⟨Lc37, hQ37, l37, y37, z37⟩, st37⟩ := Jvm.LawKit.callS X25 hx (y := (⟨"com/example/bindery/bindery/XmlPositionPassPinLaw", "term", "(C)Z"⟩ : MethodName)) hown (mvT hZ (hw _ (List.mem_of_getElem? (i := 44) rfl))) (mvT hZ (hw _ (List.mem_of_getElem? (i := 45) rfl))) (mvT hZ (hw _ (List.mem_of_getElem? (i := 3) rfl))) (mvT hZ (hw _ (List.mem_of_getElem? (i := 46) rfl))) (by decide) (backOf (W := 0) (rm10 l Z a0 hw [] c2 h0 n0 Z0 ) hZ (hw _ (List.mem_of_getElem? (i := 46) rfl)) (hw _ (List.mem_of_getElem? (i := 3) rfl)) (by decide) (by decide)) (g := (mkF m 41 #[.val (.ref a1), .val (.int (4 : Int32)), .val (.int (1 : Int32))] [(.int c2)])) rfl (by rw [hml]; rfl) (argsL := [(.int c2)]) (rest := []) (lenOf pd_1 rfl) rfl (by show 2 * 0 + _ ≤ _; exact Nat.le_of_eq rfl) (hb hby d9_41) (fun _ _ => ⟨rfl, e25, (by decide : 0 + 0 ≤ _), (by decide : 0 + 0 ≤ _)⟩)
      dsimp only [Pt.U, Pt.locs, Pt.cells, Pt.slots] at X37 l37 y37 z37 st37 hQ37
      subst l37 y37 z37
      obtain ⟨rfl, N37q, e37⟩ := hQ37
      have N37 := Fr.app N25 N37q
      refine own_back (S' := T37.setTop (mkF m 44 #[.val (.ref a1), .val (.int (4 : Int32)), .val (.int (1 : Int32))] [(.int (own_tm c2))])) (st37) ?_
      by_cases hc44_38 : (own_tm c2) = (0 : Int32)
      ·
        refine own_back (S' := T37.setTop (mkF m 49 #[.val (.ref a1), .val (.int (4 : Int32)), .val (.int (1 : Int32))] [])) (fun _ k => XS.ifYes X37.here hx rfl (pc0 := 44) (pc' := 49) rfl (hb hby d9_44) rfl ((if0 _ _).trans (teq hc44_38).1) (by decide) (by decide) k) ?_
        refine own_back (S' := T37.setTop (mkF m 50 #[.val (.ref a1), .val (.int (4 : Int32)), .val (.int (1 : Int32))] [(.int (4 : Int32))])) (fun _ k => XS.iloadN X37.here hx rfl (hb hby d9_49) rfl k) ?_
        refine own_back (S' := T37.setTop (mkF m 51 #[.val (.ref a1), .val (.int (4 : Int32)), .val (.int (1 : Int32))] [(.int (3 : Int32)), (.int (4 : Int32))])) (fun _ k => XS.iconst X37.here hx rfl (hb hby d9_50)  k) ?_
        refine own_back (S' := T37.setTop (mkF m 54 #[.val (.ref a1), .val (.int (4 : Int32)), .val (.int (1 : Int32))] [])) (fun _ k => XS.icmpNo X37.here hx rfl (hb hby d9_51) rfl (tlt ((by decide) : (3 : Int32) < (4 : Int32))).2.2.2 k) ?_
        refine own_back (S' := T37.setTop (mkF m 55 #[.val (.ref a1), .val (.int (4 : Int32)), .val (.int (1 : Int32))] [(.ref a1)])) (fun _ k => XS.aloadN X37.here hx rfl (hb hby d9_54) rfl rfl k) ?_
        refine own_back (S' := T37.setTop (mkF m 56 #[.val (.ref a1), .val (.int (4 : Int32)), .val (.int (1 : Int32))] [(.int (3 : Int32)), (.ref a1)])) (fun _ k => XS.iconst X37.here hx rfl (hb hby d9_55)  k) ?_
        refine own_back (S' := T37.setTop (mkF m 57 #[.val (.ref a1), .val (.int (4 : Int32)), .val (.int (1 : Int32))] [(.int c3)])) (own_ldC X37 hx hZ e37 PA (k := 3) (w := c3) (by decide) rfl (by decide) rfl (g := (mkF m 56 #[.val (.ref a1), .val (.int (4 : Int32)), .val (.int (1 : Int32))] [(.int (3 : Int32)), (.ref a1)])) rfl rfl (hb hby d9_56)) ?_
        obtain ⟨_, _, ⟨T39, L39, k39, n39⟩, -, X39, ⟨Lc39, hQ39, l39, y39, z39⟩, st39⟩ := Jvm.LawKit.callS X37 hx (y := (⟨"com/example/bindery/bindery/XmlPositionPassPinLaw", "term", "(C)Z"⟩ : MethodName)) hown (mvT hZ (hw _ (List.mem_of_getElem? (i := 44) rfl))) (mvT hZ (hw _ (List.mem_of_getElem? (i := 45) rfl))) (mvT hZ (hw _ (List.mem_of_getElem? (i := 3) rfl))) (mvT hZ (hw _ (List.mem_of_getElem? (i := 46) rfl))) (by decide) (backOf (W := 0) (rm10 l Z a0 hw [] c3 h0 n0 Z0 ) hZ (hw _ (List.mem_of_getElem? (i := 46) rfl)) (hw _ (List.mem_of_getElem? (i := 3) rfl)) (by decide) (by decide)) (g := (mkF m 57 #[.val (.ref a1), .val (.int (4 : Int32)), .val (.int (1 : Int32))] [(.int c3)])) rfl (by rw [hml]; rfl) (argsL := [(.int c3)]) (rest := []) (lenOf pd_1 rfl) rfl (by show 2 * 0 + _ ≤ _; exact Nat.le_of_eq rfl) (hb hby d9_57) (fun _ _ => ⟨rfl, e37, (by decide : 0 + 0 ≤ _), (by decide : 0 + 0 ≤ _)⟩)
        dsimp only [Pt.U, Pt.locs, Pt.cells, Pt.slots] at X39 l39 y39 z39 st39 hQ39
        subst l39 y39 z39
        obtain ⟨rfl, N39q, e39⟩ := hQ39
        have N39 := Fr.app N37 N39q
        refine own_back (S' := T39.setTop (mkF m 60 #[.val (.ref a1), .val (.int (4 : Int32)), .val (.int (1 : Int32))] [(.int (own_tm c3))])) (st39) ?_
        by_cases hc60_40 : (own_tm c3) = (0 : Int32)
        ·
          refine own_back (S' := T39.setTop (mkF m 65 #[.val (.ref a1), .val (.int (4 : Int32)), .val (.int (1 : Int32))] [])) (fun _ k => XS.ifYes X39.here hx rfl (pc0 := 60) (pc' := 65) rfl (hb hby d9_60) rfl ((if0 _ _).trans (teq hc60_40).1) (by decide) (by decide) k) ?_
          refine own_back (S' := T39.setTop (mkF m 66 #[.val (.ref a1), .val (.int (4 : Int32)), .val (.int (1 : Int32))] [(.int (4 : Int32))])) (fun _ k => XS.iloadN X39.here hx rfl (hb hby d9_65) rfl k) ?_
          refine own_back (S' := T39.setTop (mkF m 67 #[.val (.ref a1), .val (.int (4 : Int32)), .val (.int (1 : Int32))] [(.int (1 : Int32)), (.int (4 : Int32))])) (fun _ k => XS.iloadN X39.here hx rfl (hb hby d9_66) rfl k) ?_
          refine own_back (S' := T39.setTop (mkF m 68 #[.val (.ref a1), .val (.int (4 : Int32)), .val (.int (1 : Int32))] [(.int ((4 : Int32) - (1 : Int32)))])) (fun _ k => XS.isub X39.here hx rfl (hb hby d9_67) rfl k) ?_
          obtain ⟨fs, hr, hrun, hended, hW, hsame⟩ := X39.leave (v := some (.int ((4 : Int32) - (1 : Int32)))) (fun h => by rw [Bd.returns] at h; cases h)
          refine own_done ⟨_, _, retI X39 hx Bd.returns (hb hby d9_68) hr, hrun, hended, _, _, rfl, ?_, ⟨_, rfl⟩, hW, hsame.mono (by decide) (by decide)⟩
          show Q9_4 Z a1 c0 c1 c2 c3 h0 n0 _ T39.heap _
          rw [e39]
          exact ⟨by simp only [own_l1, own_l2, own_l3, own_l4, hc12_2, hc28_26, hc44_38, hc60_40, if_true, if_false], N39, rfl⟩
        ·
          refine own_back (S' := T39.setTop (mkF m 63 #[.val (.ref a1), .val (.int (4 : Int32)), .val (.int (1 : Int32))] [])) (fun _ k => XS.ifNo X39.here hx rfl (hb hby d9_60) rfl ((if0 _ _).trans (feq hc60_40).1) k) ?_
          refine own_back (S' := T39.setTop (mkF m 64 #[.val (.ref a1), .val (.int (4 : Int32)), .val (.int (1 : Int32))] [(.int (3 : Int32))])) (fun _ k => XS.iconst X39.here hx rfl (hb hby d9_63)  k) ?_
          refine own_back (S' := T39.setTop (mkF m 65 #[.val (.ref a1), .val (.int (4 : Int32)), .val (.int (3 : Int32))] [])) (fun _ k => XS.istoreN X39.here hx rfl (hb hby d9_64) rfl (l' := #[.val (.ref a1), .val (.int (4 : Int32)), .val (.int (3 : Int32))]) rfl k) ?_
          refine own_back (S' := T39.setTop (mkF m 66 #[.val (.ref a1), .val (.int (4 : Int32)), .val (.int (3 : Int32))] [(.int (4 : Int32))])) (fun _ k => XS.iloadN X39.here hx rfl (hb hby d9_65) rfl k) ?_
          refine own_back (S' := T39.setTop (mkF m 67 #[.val (.ref a1), .val (.int (4 : Int32)), .val (.int (3 : Int32))] [(.int (3 : Int32)), (.int (4 : Int32))])) (fun _ k => XS.iloadN X39.here hx rfl (hb hby d9_66) rfl k) ?_
          refine own_back (S' := T39.setTop (mkF m 68 #[.val (.ref a1), .val (.int (4 : Int32)), .val (.int (3 : Int32))] [(.int ((4 : Int32) - (3 : Int32)))])) (fun _ k => XS.isub X39.here hx rfl (hb hby d9_67) rfl k) ?_
          obtain ⟨fs, hr, hrun, hended, hW, hsame⟩ := X39.leave (v := some (.int ((4 : Int32) - (3 : Int32)))) (fun h => by rw [Bd.returns] at h; cases h)
          refine own_done ⟨_, _, retI X39 hx Bd.returns (hb hby d9_68) hr, hrun, hended, _, _, rfl, ?_, ⟨_, rfl⟩, hW, hsame.mono (by decide) (by decide)⟩
          show Q9_4 Z a1 c0 c1 c2 c3 h0 n0 _ T39.heap _
          rw [e39]
          exact ⟨by simp only [own_l1, own_l2, own_l3, own_l4, hc12_2, hc28_26, hc44_38, hc60_40, if_true, if_false], N39, rfl⟩
      ·
        refine own_back (S' := T37.setTop (mkF m 47 #[.val (.ref a1), .val (.int (4 : Int32)), .val (.int (1 : Int32))] [])) (fun _ k => XS.ifNo X37.here hx rfl (hb hby d9_44) rfl ((if0 _ _).trans (feq hc44_38).1) k) ?_
        refine own_back (S' := T37.setTop (mkF m 48 #[.val (.ref a1), .val (.int (4 : Int32)), .val (.int (1 : Int32))] [(.int (2 : Int32))])) (fun _ k => XS.iconst X37.here hx rfl (hb hby d9_47)  k) ?_
        refine own_back (S' := T37.setTop (mkF m 49 #[.val (.ref a1), .val (.int (4 : Int32)), .val (.int (2 : Int32))] [])) (fun _ k => XS.istoreN X37.here hx rfl (hb hby d9_48) rfl (l' := #[.val (.ref a1), .val (.int (4 : Int32)), .val (.int (2 : Int32))]) rfl k) ?_
        refine own_back (S' := T37.setTop (mkF m 50 #[.val (.ref a1), .val (.int (4 : Int32)), .val (.int (2 : Int32))] [(.int (4 : Int32))])) (fun _ k => XS.iloadN X37.here hx rfl (hb hby d9_49) rfl k) ?_
        refine own_back (S' := T37.setTop (mkF m 51 #[.val (.ref a1), .val (.int (4 : Int32)), .val (.int (2 : Int32))] [(.int (3 : Int32)), (.int (4 : Int32))])) (fun _ k => XS.iconst X37.here hx rfl (hb hby d9_50)  k) ?_
        refine own_back (S' := T37.setTop (mkF m 54 #[.val (.ref a1), .val (.int (4 : Int32)), .val (.int (2 : Int32))] [])) (fun _ k => XS.icmpNo X37.here hx rfl (hb hby d9_51) rfl (tlt ((by decide) : (3 : Int32) < (4 : Int32))).2.2.2 k) ?_
        refine own_back (S' := T37.setTop (mkF m 55 #[.val (.ref a1), .val (.int (4 : Int32)), .val (.int (2 : Int32))] [(.ref a1)])) (fun _ k => XS.aloadN X37.here hx rfl (hb hby d9_54) rfl rfl k) ?_
        refine own_back (S' := T37.setTop (mkF m 56 #[.val (.ref a1), .val (.int (4 : Int32)), .val (.int (2 : Int32))] [(.int (3 : Int32)), (.ref a1)])) (fun _ k => XS.iconst X37.here hx rfl (hb hby d9_55)  k) ?_
        refine own_back (S' := T37.setTop (mkF m 57 #[.val (.ref a1), .val (.int (4 : Int32)), .val (.int (2 : Int32))] [(.int c3)])) (own_ldC X37 hx hZ e37 PA (k := 3) (w := c3) (by decide) rfl (by decide) rfl (g := (mkF m 56 #[.val (.ref a1), .val (.int (4 : Int32)), .val (.int (2 : Int32))] [(.int (3 : Int32)), (.ref a1)])) rfl rfl (hb hby d9_56)) ?_
        obtain ⟨_, _, ⟨T43, L43, k43, n43⟩, -, X43, ⟨Lc43, hQ43, l43, y43, z43⟩, st43⟩ := Jvm.LawKit.callS X37 hx (y := (⟨"com/example/bindery/bindery/XmlPositionPassPinLaw", "term", "(C)Z"⟩ : MethodName)) hown (mvT hZ (hw _ (List.mem_of_getElem? (i := 44) rfl))) (mvT hZ (hw _ (List.mem_of_getElem? (i := 45) rfl))) (mvT hZ (hw _ (List.mem_of_getElem? (i := 3) rfl))) (mvT hZ (hw _ (List.mem_of_getElem? (i := 46) rfl))) (by decide) (backOf (W := 0) (rm10 l Z a0 hw [] c3 h0 n0 Z0 ) hZ (hw _ (List.mem_of_getElem? (i := 46) rfl)) (hw _ (List.mem_of_getElem? (i := 3) rfl)) (by decide) (by decide)) (g := (mkF m 57 #[.val (.ref a1), .val (.int (4 : Int32)), .val (.int (2 : Int32))] [(.int c3)])) rfl (by rw [hml]; rfl) (argsL := [(.int c3)]) (rest := []) (lenOf pd_1 rfl) rfl (by show 2 * 0 + _ ≤ _; exact Nat.le_of_eq rfl) (hb hby d9_57) (fun _ _ => ⟨rfl, e37, (by decide : 0 + 0 ≤ _), (by decide : 0 + 0 ≤ _)⟩)
        dsimp only [Pt.U, Pt.locs, Pt.cells, Pt.slots] at X43 l43 y43 z43 st43 hQ43
        subst l43 y43 z43
        obtain ⟨rfl, N43q, e43⟩ := hQ43
        have N43 := Fr.app N37 N43q
        refine own_back (S' := T43.setTop (mkF m 60 #[.val (.ref a1), .val (.int (4 : Int32)), .val (.int (2 : Int32))] [(.int (own_tm c3))])) (st43) ?_
        by_cases hc60_44 : (own_tm c3) = (0 : Int32)
        ·
          refine own_back (S' := T43.setTop (mkF m 65 #[.val (.ref a1), .val (.int (4 : Int32)), .val (.int (2 : Int32))] [])) (fun _ k => XS.ifYes X43.here hx rfl (pc0 := 60) (pc' := 65) rfl (hb hby d9_60) rfl ((if0 _ _).trans (teq hc60_44).1) (by decide) (by decide) k) ?_
          refine own_back (S' := T43.setTop (mkF m 66 #[.val (.ref a1), .val (.int (4 : Int32)), .val (.int (2 : Int32))] [(.int (4 : Int32))])) (fun _ k => XS.iloadN X43.here hx rfl (hb hby d9_65) rfl k) ?_
          refine own_back (S' := T43.setTop (mkF m 67 #[.val (.ref a1), .val (.int (4 : Int32)), .val (.int (2 : Int32))] [(.int (2 : Int32)), (.int (4 : Int32))])) (fun _ k => XS.iloadN X43.here hx rfl (hb hby d9_66) rfl k) ?_
          refine own_back (S' := T43.setTop (mkF m 68 #[.val (.ref a1), .val (.int (4 : Int32)), .val (.int (2 : Int32))] [(.int ((4 : Int32) - (2 : Int32)))])) (fun _ k => XS.isub X43.here hx rfl (hb hby d9_67) rfl k) ?_
          obtain ⟨fs, hr, hrun, hended, hW, hsame⟩ := X43.leave (v := some (.int ((4 : Int32) - (2 : Int32)))) (fun h => by rw [Bd.returns] at h; cases h)
          refine own_done ⟨_, _, retI X43 hx Bd.returns (hb hby d9_68) hr, hrun, hended, _, _, rfl, ?_, ⟨_, rfl⟩, hW, hsame.mono (by decide) (by decide)⟩
          show Q9_4 Z a1 c0 c1 c2 c3 h0 n0 _ T43.heap _
          rw [e43]
          exact ⟨by simp only [own_l1, own_l2, own_l3, own_l4, hc12_2, hc28_26, hc44_38, hc60_44, if_true, if_false], N43, rfl⟩
        ·
          refine own_back (S' := T43.setTop (mkF m 63 #[.val (.ref a1), .val (.int (4 : Int32)), .val (.int (2 : Int32))] [])) (fun _ k => XS.ifNo X43.here hx rfl (hb hby d9_60) rfl ((if0 _ _).trans (feq hc60_44).1) k) ?_
          refine own_back (S' := T43.setTop (mkF m 64 #[.val (.ref a1), .val (.int (4 : Int32)), .val (.int (2 : Int32))] [(.int (3 : Int32))])) (fun _ k => XS.iconst X43.here hx rfl (hb hby d9_63)  k) ?_
          refine own_back (S' := T43.setTop (mkF m 65 #[.val (.ref a1), .val (.int (4 : Int32)), .val (.int (3 : Int32))] [])) (fun _ k => XS.istoreN X43.here hx rfl (hb hby d9_64) rfl (l' := #[.val (.ref a1), .val (.int (4 : Int32)), .val (.int (3 : Int32))]) rfl k) ?_
          refine own_back (S' := T43.setTop (mkF m 66 #[.val (.ref a1), .val (.int (4 : Int32)), .val (.int (3 : Int32))] [(.int (4 : Int32))])) (fun _ k => XS.iloadN X43.here hx rfl (hb hby d9_65) rfl k) ?_
          refine own_back (S' := T43.setTop (mkF m 67 #[.val (.ref a1), .val (.int (4 : Int32)), .val (.int (3 : Int32))] [(.int (3 : Int32)), (.int (4 : Int32))])) (fun _ k => XS.iloadN X43.here hx rfl (hb hby d9_66) rfl k) ?_
          refine own_back (S' := T43.setTop (mkF m 68 #[.val (.ref a1), .val (.int (4 : Int32)), .val (.int (3 : Int32))] [(.int ((4 : Int32) - (3 : Int32)))])) (fun _ k => XS.isub X43.here hx rfl (hb hby d9_67) rfl k) ?_
          obtain ⟨fs, hr, hrun, hended, hW, hsame⟩ := X43.leave (v := some (.int ((4 : Int32) - (3 : Int32)))) (fun h => by rw [Bd.returns] at h; cases h)
          refine own_done ⟨_, _, retI X43 hx Bd.returns (hb hby d9_68) hr, hrun, hended, _, _, rfl, ?_, ⟨_, rfl⟩, hW, hsame.mono (by decide) (by decide)⟩
          show Q9_4 Z a1 c0 c1 c2 c3 h0 n0 _ T43.heap _
          rw [e43]
          exact ⟨by simp only [own_l1, own_l2, own_l3, own_l4, hc12_2, hc28_26, hc44_38, hc60_44, if_true, if_false], N43, rfl⟩
theorem d2_0 : decode prog_75_method_1_code 0 = .ok (.aload_n 0, 1) := by decide +kernel
theorem d2_1 : decode prog_75_method_1_code 1 = .ok (.invokespecial 1, 3) := by decide +kernel
theorem d2_4 : decode prog_75_method_1_code 4 = .ok (.aload_n 0, 1) := by decide +kernel
theorem d2_5 : decode prog_75_method_1_code 5 = .ok (.iconst 1, 1) := by decide +kernel
theorem d2_6 : decode prog_75_method_1_code 6 = .ok (.putfield 7, 3) := by decide +kernel
theorem d2_9 : decode prog_75_method_1_code 9 = .ok (.aload_n 0, 1) := by decide +kernel
theorem d2_10 : decode prog_75_method_1_code 10 = .ok (.iconst 1, 1) := by decide +kernel
theorem d2_11 : decode prog_75_method_1_code 11 = .ok (.putfield 13, 3) := by decide +kernel
theorem d2_14 : decode prog_75_method_1_code 14 = .ok (.return_, 1) := by decide +kernel
theorem pn_com_example_bindery_bindery_XmlPosition : plainName "com/example/bindery/bindery/XmlPosition" = true := by first | (simp [plainName, overriddenIn]; done) | decide +kernel
theorem ef_2 (m : MethodId) (x0 : Addr) : entryFrame m #[(.ref x0)] 1 = mkF m 0 #[.val (.ref x0)] [] := by first | (simp [entryFrame, mkF, argsToLocals, Value.category]; done) | rfl
def Q2 (Z : State) (a1 : Addr) (h0 : Heap) (n0 : Nat) (v : Option Value) (h : Heap) (L : List Loc) : Prop := v = none ∧ Fr n0 L ∧ Keep h0 h [a1] ∧ Exa Z h a1 "com/example/bindery/bindery/XmlPosition" ∧ Fld Z h a1 "com/example/bindery/bindery/XmlPosition" "line" "I" (.int (1 : Int32)) ∧ Fld Z h a1 "com/example/bindery/bindery/XmlPosition" "column" "I" (.int (1 : Int32)) ∧ Fld Z h a1 "com/example/bindery/bindery/XmlPosition" "afterCr" "Z" (.int (0 : Int32))
set_option maxRecDepth 65536 in
set_option maxHeartbeats 40000000 in
theorem rm2 (l : Launch) (Z : State) (a0 : Array Value) (hw : ∀ d ∈ tables_1, d.before a0 Z = true) (ws : List Jvm.Cond) (a1 : Addr) (h0 : Heap) (n0 : Nat) (Z0 : n0 ≤ h0.size) (E1 : Exa Z h0 a1 "com/example/bindery/bindery/XmlPosition") (g1 : n0 ≤ a1) (F_line : Fld Z h0 a1 "com/example/bindery/bindery/XmlPosition" "line" "I" (.int (0 : Int32))) (F_column : Fld Z h0 a1 "com/example/bindery/bindery/XmlPosition" "column" "I" (.int (0 : Int32))) (F_afterCr : Fld Z h0 a1 "com/example/bindery/bindery/XmlPosition" "afterCr" "Z" (.int (0 : Int32))) :
    MetFree l (⟨"com/example/bindery/bindery/XmlPosition", "<init>", "()V"⟩ : MethodName) (head1 (Jvm.Cond.code (⟨"com/example/bindery/bindery/XmlPosition", "<init>", "()V"⟩ : MethodName) prog_75_method_1_code 1 none :: ws) ({ frames := 1, cells := 0, slots := 0, locals := 12 } : Room)) (fun a U => a = #[(.ref a1)] ∧ Z.Warmed39 U.vm ∧ U.heap = h0) (fun _ _ _ _ _ => True) (fun _ U o U' => ∃ v L, o = .returned v ∧ Q2 Z a1 h0 n0 v U'.heap L ∧ FrameEnd U o U' L ({ frames := 1, cells := 0, slots := 0, locals := 12 } : Room).cells ({ frames := 1, cells := 0, slots := 0, locals := 12 } : Room).slots) := by
  refine MetFree.of_bodySF (plainFor_of_name pn_com_example_bindery_bindery_XmlPosition) hisR ?_
  intro p e s m args below meth c s₁ Bd hml0 hP hK
  obtain ⟨rfl, hZ, hh⟩ := hP
  have hx := Bd.exec
  have hby := Bd.bytes
  have hml : c.maxLocals = 1 := hml0
  have hown : s.vm.findClass "com/example/bindery/bindery/XmlPosition" = some m.cls := findClass_of_methodNamed Bd.named
  have hnm := (name_of_methodNamed Bd.named Bd.method).1
  have X0 : Stand p l e ({ frames := 1, cells := 0, slots := 0, locals := 12 } : Room) s m #[(.ref a1)] below meth c s₁ [] 0 0 := Stand.of_body Bd
  have e0 : s₁.heap = h0 := by rw [← hh, Bd.state]; rfl
  have N0 := Fr.nil n0
  refine own_open (S' := s₁.setTop (mkF m 0 #[.val (.ref a1)] [])) (fun t k => castTop (ef_2 m a1) k) ?_
  refine own_back (S' := s₁.setTop (mkF m 1 #[.val (.ref a1)] [(.ref a1)])) (fun _ k => XS.aloadN X0.here hx rfl (hb hby d2_0) rfl rfl k) ?_
  obtain ⟨T1, X1, e1, st1⟩ := initO X0 hx hZ hown (hw _ (List.mem_of_getElem? (i := 11) rfl)) (hw _ (List.mem_of_getElem? (i := 12) rfl)) (hw _ (List.mem_of_getElem? (i := 13) rfl)) e0 (g := (mkF m 1 #[.val (.ref a1)] [(.ref a1)])) rfl (by rw [hml]; rfl) rfl (hb hby d2_1) (by decide) (W := 0) (by show 2 * 0 + _ ≤ _; exact Nat.le_of_eq rfl) (by decide)
  refine own_back (S' := T1.setTop (mkF m 4 #[.val (.ref a1)] [])) (st1) ?_
  refine own_back (S' := T1.setTop (mkF m 5 #[.val (.ref a1)] [(.ref a1)])) (fun _ k => XS.aloadN X1.here hx rfl (hb hby d2_4) rfl rfl k) ?_
  refine own_back (S' := T1.setTop (mkF m 6 #[.val (.ref a1)] [(.int (1 : Int32)), (.ref a1)])) (fun _ k => XS.iconst X1.here hx rfl (hb hby d2_5)  k) ?_
  obtain ⟨T2, h2, X2, e2, W2, st2⟩ := putF X1 hx hZ hown (host := "") (Or.inl (hw _ (List.mem_of_getElem? (i := 14) rfl))) Via.refl e1 F_line E1 (Or.inl (hw _ (List.mem_of_getElem? (i := 15) rfl))) (hw _ (List.mem_of_getElem? (i := 6) rfl)) (ty := .int) (by decide) rfl rfl (g := (mkF m 6 #[.val (.ref a1)] [(.int (1 : Int32)), (.ref a1)])) rfl rfl (hb hby d2_6)
  have N2 := Fr.snoc X2 N0 g1
  have Z2 : n0 ≤ h2.size := Nat.le_trans Z0 (Nat.le_of_eq W2.size.symm)
  have E_a1_2 := E1.wr W2
  have F_a1_column_2 := F_column.other W2 (Or.inr (slot_ne (Or.inl (hw _ (List.mem_of_getElem? (i := 17) rfl))) (Or.inl (hw _ (List.mem_of_getElem? (i := 15) rfl))) (by decide) (t := .int) (t' := .int) (by decide) (by decide)))
  have F_a1_afterCr_2 := F_afterCr.other W2 (Or.inr (slot_ne (Or.inl (hw _ (List.mem_of_getElem? (i := 24) rfl))) (Or.inl (hw _ (List.mem_of_getElem? (i := 15) rfl))) (by decide) (t := .boolean) (t' := .int) (by decide) (by decide)))
  have F_a1_line_2 := F_line.same W2
  have K2 : Keep h0 h2 [a1] := (Keep.refl h0 [a1]).wr W2 (Or.inl (List.mem_of_getElem? (i := 0) rfl))
  refine own_back (S' := T2.setTop (mkF m 9 #[.val (.ref a1)] [])) (st2) ?_
  refine own_back (S' := T2.setTop (mkF m 10 #[.val (.ref a1)] [(.ref a1)])) (fun _ k => XS.aloadN X2.here hx rfl (hb hby d2_9) rfl rfl k) ?_
  refine own_back (S' := T2.setTop (mkF m 11 #[.val (.ref a1)] [(.int (1 : Int32)), (.ref a1)])) (fun _ k => XS.iconst X2.here hx rfl (hb hby d2_10)  k) ?_
  obtain ⟨T3, h3, X3, e3, W3, st3⟩ := putF X2 hx hZ hown (host := "") (Or.inl (hw _ (List.mem_of_getElem? (i := 16) rfl))) Via.refl e2 F_a1_column_2 E_a1_2 (Or.inl (hw _ (List.mem_of_getElem? (i := 17) rfl))) (hw _ (List.mem_of_getElem? (i := 6) rfl)) (ty := .int) (by decide) rfl rfl (g := (mkF m 11 #[.val (.ref a1)] [(.int (1 : Int32)), (.ref a1)])) rfl rfl (hb hby d2_11)
  have N3 := Fr.snoc X3 N2 g1
  have Z3 : n0 ≤ h3.size := Nat.le_trans Z2 (Nat.le_of_eq W3.size.symm)
  have E_a1_3 := E_a1_2.wr W3
  have F_a1_line_3 := F_a1_line_2.other W3 (Or.inr (slot_ne (Or.inl (hw _ (List.mem_of_getElem? (i := 15) rfl))) (Or.inl (hw _ (List.mem_of_getElem? (i := 17) rfl))) (by decide) (t := .int) (t' := .int) (by decide) (by decide)))
  have F_a1_afterCr_3 := F_a1_afterCr_2.other W3 (Or.inr (slot_ne (Or.inl (hw _ (List.mem_of_getElem? (i := 24) rfl))) (Or.inl (hw _ (List.mem_of_getElem? (i := 17) rfl))) (by decide) (t := .boolean) (t' := .int) (by decide) (by decide)))
  have F_a1_column_3 := F_a1_column_2.same W3
  have K3 : Keep h0 h3 [a1] := K2.wr W3 (Or.inl (List.mem_of_getElem? (i := 0) rfl))
  refine own_back (S' := T3.setTop (mkF m 14 #[.val (.ref a1)] [])) (st3) ?_
  obtain ⟨fs, hr, hrun, hended, hW, hsame⟩ := X3.leave (v := none) (fun _ => rfl)
  refine own_done ⟨_, _, X3.returnOut hx Bd.returns (hb hby d2_14) hr, hrun, hended, _, _, rfl, ?_, ⟨_, rfl⟩, hW, hsame.mono (by decide) (by decide)⟩
  show Q2 Z a1 h0 n0 _ T3.heap _
  rw [e3]
  exact ⟨rfl, N3, K3, E_a1_3, F_a1_line_3, F_a1_column_3, F_a1_afterCr_3⟩
theorem d4_0 : decode prog_75_method_2_code 0 = .ok (.iload_n 1, 1) := by decide +kernel
theorem d4_1 : decode prog_75_method_2_code 1 = .ok (.bipush 13, 2) := by decide +kernel
theorem d4_3 : decode prog_75_method_2_code 3 = .ok (.if_icmp .eq 16, 3) := by decide +kernel
theorem d4_6 : decode prog_75_method_2_code 6 = .ok (.iload_n 1, 1) := by decide +kernel
theorem d4_7 : decode prog_75_method_2_code 7 = .ok (.bipush 10, 2) := by decide +kernel
theorem d4_9 : decode prog_75_method_2_code 9 = .ok (.if_icmp .ne 28, 3) := by decide +kernel
theorem d4_12 : decode prog_75_method_2_code 12 = .ok (.aload_n 0, 1) := by decide +kernel
theorem d4_13 : decode prog_75_method_2_code 13 = .ok (.getfield 16, 3) := by decide +kernel
theorem d4_16 : decode prog_75_method_2_code 16 = .ok (.ifCond .ne 21, 3) := by decide +kernel
theorem d4_19 : decode prog_75_method_2_code 19 = .ok (.aload_n 0, 1) := by decide +kernel
theorem d4_20 : decode prog_75_method_2_code 20 = .ok (.dup, 1) := by decide +kernel
theorem d4_21 : decode prog_75_method_2_code 21 = .ok (.getfield 7, 3) := by decide +kernel
theorem d4_24 : decode prog_75_method_2_code 24 = .ok (.iconst 1, 1) := by decide +kernel
theorem d4_25 : decode prog_75_method_2_code 25 = .ok (.iadd, 1) := by decide +kernel
theorem d4_26 : decode prog_75_method_2_code 26 = .ok (.putfield 7, 3) := by decide +kernel
theorem d4_29 : decode prog_75_method_2_code 29 = .ok (.aload_n 0, 1) := by decide +kernel
theorem d4_30 : decode prog_75_method_2_code 30 = .ok (.iconst 1, 1) := by decide +kernel
theorem d4_31 : decode prog_75_method_2_code 31 = .ok (.putfield 13, 3) := by decide +kernel
theorem d4_34 : decode prog_75_method_2_code 34 = .ok (.goto 19, 3) := by decide +kernel
theorem d4_37 : decode prog_75_method_2_code 37 = .ok (.iload_n 1, 1) := by decide +kernel
theorem d4_38 : decode prog_75_method_2_code 38 = .ok (.bipush 10, 2) := by decide +kernel
theorem d4_40 : decode prog_75_method_2_code 40 = .ok (.if_icmp .eq 13, 3) := by decide +kernel
theorem d4_43 : decode prog_75_method_2_code 43 = .ok (.aload_n 0, 1) := by decide +kernel
theorem d4_44 : decode prog_75_method_2_code 44 = .ok (.dup, 1) := by decide +kernel
theorem d4_45 : decode prog_75_method_2_code 45 = .ok (.getfield 13, 3) := by decide +kernel
theorem d4_48 : decode prog_75_method_2_code 48 = .ok (.iconst 1, 1) := by decide +kernel
theorem d4_49 : decode prog_75_method_2_code 49 = .ok (.iadd, 1) := by decide +kernel
theorem d4_50 : decode prog_75_method_2_code 50 = .ok (.putfield 13, 3) := by decide +kernel
theorem d4_53 : decode prog_75_method_2_code 53 = .ok (.aload_n 0, 1) := by decide +kernel
theorem d4_54 : decode prog_75_method_2_code 54 = .ok (.iload_n 1, 1) := by decide +kernel
theorem d4_55 : decode prog_75_method_2_code 55 = .ok (.bipush 13, 2) := by decide +kernel
theorem d4_57 : decode prog_75_method_2_code 57 = .ok (.if_icmp .ne 7, 3) := by decide +kernel
theorem d4_60 : decode prog_75_method_2_code 60 = .ok (.iconst 1, 1) := by decide +kernel
theorem d4_61 : decode prog_75_method_2_code 61 = .ok (.goto 4, 3) := by decide +kernel
theorem d4_64 : decode prog_75_method_2_code 64 = .ok (.iconst 0, 1) := by decide +kernel
theorem d4_65 : decode prog_75_method_2_code 65 = .ok (.putfield 16, 3) := by decide +kernel
theorem d4_68 : decode prog_75_method_2_code 68 = .ok (.return_, 1) := by decide +kernel
theorem ef_4 (m : MethodId) (x0 : Addr) (x1 : Int32) : entryFrame m #[(.ref x0), (.int x1)] 2 = mkF m 0 #[.val (.ref x0), .val (.int x1)] [] := by first | (simp [entryFrame, mkF, argsToLocals, Value.category]; done) | rfl
def Q4 (Z : State) (a1 : Addr) (p2 : Int32) (ln : Int32) (cl : Int32) (ac : Int32) (h0 : Heap) (n0 : Nat) (v : Option Value) (h : Heap) (L : List Loc) : Prop := v = none ∧ Fr n0 L ∧ Keep h0 h [a1] ∧ Exa Z h a1 "com/example/bindery/bindery/XmlPosition" ∧ Fld Z h a1 "com/example/bindery/bindery/XmlPosition" "line" "I" (.int (own_ln p2 ln ac)) ∧ Fld Z h a1 "com/example/bindery/bindery/XmlPosition" "column" "I" (.int (own_cl p2 cl ac)) ∧ Fld Z h a1 "com/example/bindery/bindery/XmlPosition" "afterCr" "Z" (.int (own_ac p2))
set_option maxRecDepth 65536 in
set_option maxHeartbeats 40000000 in
theorem rm4 (l : Launch) (Z : State) (a0 : Array Value) (hw : ∀ d ∈ tables_1, d.before a0 Z = true) (ws : List Jvm.Cond) (a1 : Addr) (p2 : Int32) (ln : Int32) (cl : Int32) (ac : Int32) (h0 : Heap) (n0 : Nat) (Z0 : n0 ≤ h0.size) (E1 : Exa Z h0 a1 "com/example/bindery/bindery/XmlPosition") (g1 : n0 ≤ a1) (F_line : Fld Z h0 a1 "com/example/bindery/bindery/XmlPosition" "line" "I" (.int ln)) (F_column : Fld Z h0 a1 "com/example/bindery/bindery/XmlPosition" "column" "I" (.int cl)) (F_afterCr : Fld Z h0 a1 "com/example/bindery/bindery/XmlPosition" "afterCr" "Z" (.int ac)) :
    MetFree l (⟨"com/example/bindery/bindery/XmlPosition", "pass", "(C)V"⟩ : MethodName) (head1 (Jvm.Cond.code (⟨"com/example/bindery/bindery/XmlPosition", "pass", "(C)V"⟩ : MethodName) prog_75_method_2_code 2 none :: ws) ({ frames := 0, cells := 0, slots := 0, locals := 0 } : Room)) (fun a U => a = #[(.ref a1), (.int p2)] ∧ Z.Warmed39 U.vm ∧ U.heap = h0) (fun _ _ _ _ _ => True) (fun _ U o U' => ∃ v L, o = .returned v ∧ Q4 Z a1 p2 ln cl ac h0 n0 v U'.heap L ∧ FrameEnd U o U' L ({ frames := 0, cells := 0, slots := 0, locals := 0 } : Room).cells ({ frames := 0, cells := 0, slots := 0, locals := 0 } : Room).slots) := by
  refine MetFree.of_bodySF (plainFor_of_name pn_com_example_bindery_bindery_XmlPosition) hisR ?_
  intro p e s m args below meth c s₁ Bd hml0 hP hK
  obtain ⟨rfl, hZ, hh⟩ := hP
  have hx := Bd.exec
  have hby := Bd.bytes
  have hml : c.maxLocals = 2 := hml0
  have hown : s.vm.findClass "com/example/bindery/bindery/XmlPosition" = some m.cls := findClass_of_methodNamed Bd.named
  have hnm := (name_of_methodNamed Bd.named Bd.method).1
  have X0 : Stand p l e ({ frames := 0, cells := 0, slots := 0, locals := 0 } : Room) s m #[(.ref a1), (.int p2)] below meth c s₁ [] 0 0 := Stand.of_body Bd
  have e0 : s₁.heap = h0 := by rw [← hh, Bd.state]; rfl
  have N0 := Fr.nil n0
  refine own_open (S' := s₁.setTop (mkF m 0 #[.val (.ref a1), .val (.int p2)] [])) (fun t k => castTop (ef_4 m a1 p2) k) ?_
  refine own_back (S' := s₁.setTop (mkF m 1 #[.val (.ref a1), .val (.int p2)] [(.int p2)])) (fun _ k => XS.iloadN X0.here hx rfl (hb hby d4_0) rfl k) ?_
  refine own_back (S' := s₁.setTop (mkF m 3 #[.val (.ref a1), .val (.int p2)] [(.int (13 : Int32)), (.int p2)])) (fun _ k => XS.bipush X0.here hx rfl (hb hby d4_1)  k) ?_
  by_cases hc3_1 : p2 = (13 : Int32)
  ·
    refine own_back (S' := s₁.setTop (mkF m 19 #[.val (.ref a1), .val (.int p2)] [])) (fun _ k => XS.icmpYes X0.here hx rfl (pc0 := 3) (pc' := 19) rfl (hb hby d4_3) rfl (teq hc3_1).1 (by decide) (by decide) k) ?_
    refine own_back (S' := s₁.setTop (mkF m 20 #[.val (.ref a1), .val (.int p2)] [(.ref a1)])) (fun _ k => XS.aloadN X0.here hx rfl (hb hby d4_19) rfl rfl k) ?_
    refine own_back (S' := s₁.setTop (mkF m 21 #[.val (.ref a1), .val (.int p2)] [(.ref a1), (.ref a1)])) (fun _ k => XS.dup X0.here hx rfl (hb hby d4_20) rfl rfl k) ?_
    obtain ⟨T2, X2, e2, st2⟩ := getF X0 hx hZ hown (host := "") (Or.inl (hw _ (List.mem_of_getElem? (i := 14) rfl))) Via.refl e0 F_line (g := (mkF m 21 #[.val (.ref a1), .val (.int p2)] [(.ref a1), (.ref a1)])) rfl rfl (hb hby d4_21)
    refine own_back (S' := T2.setTop (mkF m 24 #[.val (.ref a1), .val (.int p2)] [(.int ln), (.ref a1)])) (st2) ?_
    refine own_back (S' := T2.setTop (mkF m 25 #[.val (.ref a1), .val (.int p2)] [(.int (1 : Int32)), (.int ln), (.ref a1)])) (fun _ k => XS.iconst X2.here hx rfl (hb hby d4_24)  k) ?_
    refine own_back (S' := T2.setTop (mkF m 26 #[.val (.ref a1), .val (.int p2)] [(.int (ln + (1 : Int32))), (.ref a1)])) (fun _ k => XS.iadd X2.here hx rfl (hb hby d4_25) rfl k) ?_
    obtain ⟨T3, h3, X3, e3, W3, st3⟩ := putF X2 hx hZ hown (host := "") (Or.inl (hw _ (List.mem_of_getElem? (i := 14) rfl))) Via.refl e2 F_line E1 (Or.inl (hw _ (List.mem_of_getElem? (i := 15) rfl))) (hw _ (List.mem_of_getElem? (i := 6) rfl)) (ty := .int) (by decide) rfl rfl (g := (mkF m 26 #[.val (.ref a1), .val (.int p2)] [(.int (ln + (1 : Int32))), (.ref a1)])) rfl rfl (hb hby d4_26)
    have N3 := Fr.snoc X3 N0 g1
    have Z3 : n0 ≤ h3.size := Nat.le_trans Z0 (Nat.le_of_eq W3.size.symm)
    have E_a1_3 := E1.wr W3
    have F_a1_column_3 := F_column.other W3 (Or.inr (slot_ne (Or.inl (hw _ (List.mem_of_getElem? (i := 17) rfl))) (Or.inl (hw _ (List.mem_of_getElem? (i := 15) rfl))) (by decide) (t := .int) (t' := .int) (by decide) (by decide)))
    have F_a1_afterCr_3 := F_afterCr.other W3 (Or.inr (slot_ne (Or.inl (hw _ (List.mem_of_getElem? (i := 24) rfl))) (Or.inl (hw _ (List.mem_of_getElem? (i := 15) rfl))) (by decide) (t := .boolean) (t' := .int) (by decide) (by decide)))
    have F_a1_line_3 := F_line.same W3
    have K3 : Keep h0 h3 [a1] := (Keep.refl h0 [a1]).wr W3 (Or.inl (List.mem_of_getElem? (i := 0) rfl))
    refine own_back (S' := T3.setTop (mkF m 29 #[.val (.ref a1), .val (.int p2)] [])) (st3) ?_
    refine own_back (S' := T3.setTop (mkF m 30 #[.val (.ref a1), .val (.int p2)] [(.ref a1)])) (fun _ k => XS.aloadN X3.here hx rfl (hb hby d4_29) rfl rfl k) ?_
    refine own_back (S' := T3.setTop (mkF m 31 #[.val (.ref a1), .val (.int p2)] [(.int (1 : Int32)), (.ref a1)])) (fun _ k => XS.iconst X3.here hx rfl (hb hby d4_30)  k) ?_
    obtain ⟨T4, h4, X4, e4, W4, st4⟩ := putF X3 hx hZ hown (host := "") (Or.inl (hw _ (List.mem_of_getElem? (i := 16) rfl))) Via.refl e3 F_a1_column_3 E_a1_3 (Or.inl (hw _ (List.mem_of_getElem? (i := 17) rfl))) (hw _ (List.mem_of_getElem? (i := 6) rfl)) (ty := .int) (by decide) rfl rfl (g := (mkF m 31 #[.val (.ref a1), .val (.int p2)] [(.int (1 : Int32)), (.ref a1)])) rfl rfl (hb hby d4_31)
    have N4 := Fr.snoc X4 N3 g1
    have Z4 : n0 ≤ h4.size := Nat.le_trans Z3 (Nat.le_of_eq W4.size.symm)
    have E_a1_4 := E_a1_3.wr W4
    have F_a1_line_4 := F_a1_line_3.other W4 (Or.inr (slot_ne (Or.inl (hw _ (List.mem_of_getElem? (i := 15) rfl))) (Or.inl (hw _ (List.mem_of_getElem? (i := 17) rfl))) (by decide) (t := .int) (t' := .int) (by decide) (by decide)))
    have F_a1_afterCr_4 := F_a1_afterCr_3.other W4 (Or.inr (slot_ne (Or.inl (hw _ (List.mem_of_getElem? (i := 24) rfl))) (Or.inl (hw _ (List.mem_of_getElem? (i := 17) rfl))) (by decide) (t := .boolean) (t' := .int) (by decide) (by decide)))
    have F_a1_column_4 := F_a1_column_3.same W4
    have K4 : Keep h0 h4 [a1] := K3.wr W4 (Or.inl (List.mem_of_getElem? (i := 0) rfl))
    refine own_back (S' := T4.setTop (mkF m 34 #[.val (.ref a1), .val (.int p2)] [])) (st4) ?_
    refine own_back (S' := T4.setTop (mkF m 53 #[.val (.ref a1), .val (.int p2)] [])) (fun _ k => XS.goto X4.here hx rfl (pc0 := 34) (pc' := 53) rfl (hb hby d4_34) (by decide) (by decide) k) ?_
    refine own_back (S' := T4.setTop (mkF m 54 #[.val (.ref a1), .val (.int p2)] [(.ref a1)])) (fun _ k => XS.aloadN X4.here hx rfl (hb hby d4_53) rfl rfl k) ?_
    refine own_back (S' := T4.setTop (mkF m 55 #[.val (.ref a1), .val (.int p2)] [(.int p2), (.ref a1)])) (fun _ k => XS.iloadN X4.here hx rfl (hb hby d4_54) rfl k) ?_
    refine own_back (S' := T4.setTop (mkF m 57 #[.val (.ref a1), .val (.int p2)] [(.int (13 : Int32)), (.int p2), (.ref a1)])) (fun _ k => XS.bipush X4.here hx rfl (hb hby d4_55)  k) ?_
    refine own_back (S' := T4.setTop (mkF m 60 #[.val (.ref a1), .val (.int p2)] [(.ref a1)])) (fun _ k => XS.icmpNo X4.here hx rfl (hb hby d4_57) rfl (teq (hc3_1 : p2 = (13 : Int32))).2 k) ?_
    refine own_back (S' := T4.setTop (mkF m 61 #[.val (.ref a1), .val (.int p2)] [(.int (1 : Int32)), (.ref a1)])) (fun _ k => XS.iconst X4.here hx rfl (hb hby d4_60)  k) ?_
    refine own_back (S' := T4.setTop (mkF m 65 #[.val (.ref a1), .val (.int p2)] [(.int (1 : Int32)), (.ref a1)])) (fun _ k => XS.goto X4.here hx rfl (pc0 := 61) (pc' := 65) rfl (hb hby d4_61) (by decide) (by decide) k) ?_
    obtain ⟨T5, h5, X5, e5, W5, st5⟩ := putFN X4 hx hZ hown (hw _ (List.mem_of_getElem? (i := 23) rfl)) Via.refl e4 F_a1_afterCr_4 E_a1_4 (Or.inl (hw _ (List.mem_of_getElem? (i := 24) rfl))) (hw _ (List.mem_of_getElem? (i := 6) rfl)) (ty := .boolean) (v' := .int (1 : Int32)) (by decide) rfl (by decide) (g := (mkF m 65 #[.val (.ref a1), .val (.int p2)] [(.int (1 : Int32)), (.ref a1)])) rfl rfl (hb hby d4_65)
    have N5 := Fr.snoc X5 N4 g1
    have Z5 : n0 ≤ h5.size := Nat.le_trans Z4 (Nat.le_of_eq W5.size.symm)
    have E_a1_5 := E_a1_4.wr W5
    have F_a1_line_5 := F_a1_line_4.other W5 (Or.inr (slot_ne (Or.inl (hw _ (List.mem_of_getElem? (i := 15) rfl))) (Or.inl (hw _ (List.mem_of_getElem? (i := 24) rfl))) (by decide) (t := .int) (t' := .boolean) (by decide) (by decide)))
    have F_a1_column_5 := F_a1_column_4.other W5 (Or.inr (slot_ne (Or.inl (hw _ (List.mem_of_getElem? (i := 17) rfl))) (Or.inl (hw _ (List.mem_of_getElem? (i := 24) rfl))) (by decide) (t := .int) (t' := .boolean) (by decide) (by decide)))
    have F_a1_afterCr_5 := F_a1_afterCr_4.same W5
    have K5 : Keep h0 h5 [a1] := K4.wr W5 (Or.inl (List.mem_of_getElem? (i := 0) rfl))
    refine own_back (S' := T5.setTop (mkF m 68 #[.val (.ref a1), .val (.int p2)] [])) (st5) ?_
    obtain ⟨fs, hr, hrun, hended, hW, hsame⟩ := X5.leave (v := none) (fun _ => rfl)
    refine own_done ⟨_, _, X5.returnOut hx Bd.returns (hb hby d4_68) hr, hrun, hended, _, _, rfl, ?_, ⟨_, rfl⟩, hW, hsame.mono (by decide) (by decide)⟩
    show Q4 Z a1 p2 ln cl ac h0 n0 _ T5.heap _
    rw [e5]
    exact ⟨rfl, N5, K5, E_a1_5, (by unfold own_ln own_lnB; simp only [decide_eq_true hc3_1, cond_true, cond_false]; exact F_a1_line_5), (by unfold own_cl own_clB; simp only [decide_eq_true hc3_1, cond_true, cond_false]; exact F_a1_column_5), (by unfold own_ac own_acB; simp only [decide_eq_true hc3_1, cond_true, cond_false]; exact F_a1_afterCr_5)⟩
  ·
    refine own_back (S' := s₁.setTop (mkF m 6 #[.val (.ref a1), .val (.int p2)] [])) (fun _ k => XS.icmpNo X0.here hx rfl (hb hby d4_3) rfl (feq hc3_1).1 k) ?_
    refine own_back (S' := s₁.setTop (mkF m 7 #[.val (.ref a1), .val (.int p2)] [(.int p2)])) (fun _ k => XS.iloadN X0.here hx rfl (hb hby d4_6) rfl k) ?_
    refine own_back (S' := s₁.setTop (mkF m 9 #[.val (.ref a1), .val (.int p2)] [(.int (10 : Int32)), (.int p2)])) (fun _ k => XS.bipush X0.here hx rfl (hb hby d4_7)  k) ?_
    by_cases hc9_7 : p2 = (10 : Int32)
    ·
      refine own_back (S' := s₁.setTop (mkF m 12 #[.val (.ref a1), .val (.int p2)] [])) (fun _ k => XS.icmpNo X0.here hx rfl (hb hby d4_9) rfl (teq hc9_7).2 k) ?_
      refine own_back (S' := s₁.setTop (mkF m 13 #[.val (.ref a1), .val (.int p2)] [(.ref a1)])) (fun _ k => XS.aloadN X0.here hx rfl (hb hby d4_12) rfl rfl k) ?_
      obtain ⟨T8, X8, e8, st8⟩ := getF X0 hx hZ hown (host := "") (Or.inl (hw _ (List.mem_of_getElem? (i := 23) rfl))) Via.refl e0 F_afterCr (g := (mkF m 13 #[.val (.ref a1), .val (.int p2)] [(.ref a1)])) rfl rfl (hb hby d4_13)
      refine own_back (S' := T8.setTop (mkF m 16 #[.val (.ref a1), .val (.int p2)] [(.int ac)])) (st8) ?_
      by_cases hc16_9 : ac = (0 : Int32)
      ·
        refine own_back (S' := T8.setTop (mkF m 19 #[.val (.ref a1), .val (.int p2)] [])) (fun _ k => XS.ifNo X8.here hx rfl (hb hby d4_16) rfl ((if0 _ _).trans (teq hc16_9).2) k) ?_
        refine own_back (S' := T8.setTop (mkF m 20 #[.val (.ref a1), .val (.int p2)] [(.ref a1)])) (fun _ k => XS.aloadN X8.here hx rfl (hb hby d4_19) rfl rfl k) ?_
        refine own_back (S' := T8.setTop (mkF m 21 #[.val (.ref a1), .val (.int p2)] [(.ref a1), (.ref a1)])) (fun _ k => XS.dup X8.here hx rfl (hb hby d4_20) rfl rfl k) ?_
        obtain ⟨T10, X10, e10, st10⟩ := getF X8 hx hZ hown (host := "") (Or.inl (hw _ (List.mem_of_getElem? (i := 14) rfl))) Via.refl e8 F_line (g := (mkF m 21 #[.val (.ref a1), .val (.int p2)] [(.ref a1), (.ref a1)])) rfl rfl (hb hby d4_21)
        refine own_back (S' := T10.setTop (mkF m 24 #[.val (.ref a1), .val (.int p2)] [(.int ln), (.ref a1)])) (st10) ?_
        refine own_back (S' := T10.setTop (mkF m 25 #[.val (.ref a1), .val (.int p2)] [(.int (1 : Int32)), (.int ln), (.ref a1)])) (fun _ k => XS.iconst X10.here hx rfl (hb hby d4_24)  k) ?_
        refine own_back (S' := T10.setTop (mkF m 26 #[.val (.ref a1), .val (.int p2)] [(.int (ln + (1 : Int32))), (.ref a1)])) (fun _ k => XS.iadd X10.here hx rfl (hb hby d4_25) rfl k) ?_
        obtain ⟨T11, h11, X11, e11, W11, st11⟩ := putF X10 hx hZ hown (host := "") (Or.inl (hw _ (List.mem_of_getElem? (i := 14) rfl))) Via.refl e10 F_line E1 (Or.inl (hw _ (List.mem_of_getElem? (i := 15) rfl))) (hw _ (List.mem_of_getElem? (i := 6) rfl)) (ty := .int) (by decide) rfl rfl (g := (mkF m 26 #[.val (.ref a1), .val (.int p2)] [(.int (ln + (1 : Int32))), (.ref a1)])) rfl rfl (hb hby d4_26)
        have N11 := Fr.snoc X11 N0 g1
        have Z11 : n0 ≤ h11.size := Nat.le_trans Z0 (Nat.le_of_eq W11.size.symm)
        have E_a1_11 := E1.wr W11
        have F_a1_column_11 := F_column.other W11 (Or.inr (slot_ne (Or.inl (hw _ (List.mem_of_getElem? (i := 17) rfl))) (Or.inl (hw _ (List.mem_of_getElem? (i := 15) rfl))) (by decide) (t := .int) (t' := .int) (by decide) (by decide)))
        have F_a1_afterCr_11 := F_afterCr.other W11 (Or.inr (slot_ne (Or.inl (hw _ (List.mem_of_getElem? (i := 24) rfl))) (Or.inl (hw _ (List.mem_of_getElem? (i := 15) rfl))) (by decide) (t := .boolean) (t' := .int) (by decide) (by decide)))
        have F_a1_line_11 := F_line.same W11
        have K11 : Keep h0 h11 [a1] := (Keep.refl h0 [a1]).wr W11 (Or.inl (List.mem_of_getElem? (i := 0) rfl))
        refine own_back (S' := T11.setTop (mkF m 29 #[.val (.ref a1), .val (.int p2)] [])) (st11) ?_
        refine own_back (S' := T11.setTop (mkF m 30 #[.val (.ref a1), .val (.int p2)] [(.ref a1)])) (fun _ k => XS.aloadN X11.here hx rfl (hb hby d4_29) rfl rfl k) ?_
        refine own_back (S' := T11.setTop (mkF m 31 #[.val (.ref a1), .val (.int p2)] [(.int (1 : Int32)), (.ref a1)])) (fun _ k => XS.iconst X11.here hx rfl (hb hby d4_30)  k) ?_
        obtain ⟨T12, h12, X12, e12, W12, st12⟩ := putF X11 hx hZ hown (host := "") (Or.inl (hw _ (List.mem_of_getElem? (i := 16) rfl))) Via.refl e11 F_a1_column_11 E_a1_11 (Or.inl (hw _ (List.mem_of_getElem? (i := 17) rfl))) (hw _ (List.mem_of_getElem? (i := 6) rfl)) (ty := .int) (by decide) rfl rfl (g := (mkF m 31 #[.val (.ref a1), .val (.int p2)] [(.int (1 : Int32)), (.ref a1)])) rfl rfl (hb hby d4_31)
        have N12 := Fr.snoc X12 N11 g1
        have Z12 : n0 ≤ h12.size := Nat.le_trans Z11 (Nat.le_of_eq W12.size.symm)
        have E_a1_12 := E_a1_11.wr W12
        have F_a1_line_12 := F_a1_line_11.other W12 (Or.inr (slot_ne (Or.inl (hw _ (List.mem_of_getElem? (i := 15) rfl))) (Or.inl (hw _ (List.mem_of_getElem? (i := 17) rfl))) (by decide) (t := .int) (t' := .int) (by decide) (by decide)))
        have F_a1_afterCr_12 := F_a1_afterCr_11.other W12 (Or.inr (slot_ne (Or.inl (hw _ (List.mem_of_getElem? (i := 24) rfl))) (Or.inl (hw _ (List.mem_of_getElem? (i := 17) rfl))) (by decide) (t := .boolean) (t' := .int) (by decide) (by decide)))
        have F_a1_column_12 := F_a1_column_11.same W12
        have K12 : Keep h0 h12 [a1] := K11.wr W12 (Or.inl (List.mem_of_getElem? (i := 0) rfl))
        refine own_back (S' := T12.setTop (mkF m 34 #[.val (.ref a1), .val (.int p2)] [])) (st12) ?_
        refine own_back (S' := T12.setTop (mkF m 53 #[.val (.ref a1), .val (.int p2)] [])) (fun _ k => XS.goto X12.here hx rfl (pc0 := 34) (pc' := 53) rfl (hb hby d4_34) (by decide) (by decide) k) ?_
        refine own_back (S' := T12.setTop (mkF m 54 #[.val (.ref a1), .val (.int p2)] [(.ref a1)])) (fun _ k => XS.aloadN X12.here hx rfl (hb hby d4_53) rfl rfl k) ?_
        refine own_back (S' := T12.setTop (mkF m 55 #[.val (.ref a1), .val (.int p2)] [(.int p2), (.ref a1)])) (fun _ k => XS.iloadN X12.here hx rfl (hb hby d4_54) rfl k) ?_
        refine own_back (S' := T12.setTop (mkF m 57 #[.val (.ref a1), .val (.int p2)] [(.int (13 : Int32)), (.int p2), (.ref a1)])) (fun _ k => XS.bipush X12.here hx rfl (hb hby d4_55)  k) ?_
        refine own_back (S' := T12.setTop (mkF m 64 #[.val (.ref a1), .val (.int p2)] [(.ref a1)])) (fun _ k => XS.icmpYes X12.here hx rfl (pc0 := 57) (pc' := 64) rfl (hb hby d4_57) rfl (feq (hc3_1 : ¬ (p2 = (13 : Int32)))).2 (by decide) (by decide) k) ?_
        refine own_back (S' := T12.setTop (mkF m 65 #[.val (.ref a1), .val (.int p2)] [(.int (0 : Int32)), (.ref a1)])) (fun _ k => XS.iconst X12.here hx rfl (hb hby d4_64)  k) ?_
        obtain ⟨T13, h13, X13, e13, W13, st13⟩ := putFN X12 hx hZ hown (hw _ (List.mem_of_getElem? (i := 23) rfl)) Via.refl e12 F_a1_afterCr_12 E_a1_12 (Or.inl (hw _ (List.mem_of_getElem? (i := 24) rfl))) (hw _ (List.mem_of_getElem? (i := 6) rfl)) (ty := .boolean) (v' := .int (0 : Int32)) (by decide) rfl (by decide) (g := (mkF m 65 #[.val (.ref a1), .val (.int p2)] [(.int (0 : Int32)), (.ref a1)])) rfl rfl (hb hby d4_65)
        have N13 := Fr.snoc X13 N12 g1
        have Z13 : n0 ≤ h13.size := Nat.le_trans Z12 (Nat.le_of_eq W13.size.symm)
        have E_a1_13 := E_a1_12.wr W13
        have F_a1_line_13 := F_a1_line_12.other W13 (Or.inr (slot_ne (Or.inl (hw _ (List.mem_of_getElem? (i := 15) rfl))) (Or.inl (hw _ (List.mem_of_getElem? (i := 24) rfl))) (by decide) (t := .int) (t' := .boolean) (by decide) (by decide)))
        have F_a1_column_13 := F_a1_column_12.other W13 (Or.inr (slot_ne (Or.inl (hw _ (List.mem_of_getElem? (i := 17) rfl))) (Or.inl (hw _ (List.mem_of_getElem? (i := 24) rfl))) (by decide) (t := .int) (t' := .boolean) (by decide) (by decide)))
        have F_a1_afterCr_13 := F_a1_afterCr_12.same W13
        have K13 : Keep h0 h13 [a1] := K12.wr W13 (Or.inl (List.mem_of_getElem? (i := 0) rfl))
        refine own_back (S' := T13.setTop (mkF m 68 #[.val (.ref a1), .val (.int p2)] [])) (st13) ?_
        obtain ⟨fs, hr, hrun, hended, hW, hsame⟩ := X13.leave (v := none) (fun _ => rfl)
        refine own_done ⟨_, _, X13.returnOut hx Bd.returns (hb hby d4_68) hr, hrun, hended, _, _, rfl, ?_, ⟨_, rfl⟩, hW, hsame.mono (by decide) (by decide)⟩
        show Q4 Z a1 p2 ln cl ac h0 n0 _ T13.heap _
        rw [e13]
        exact ⟨rfl, N13, K13, E_a1_13, (by unfold own_ln own_lnB; simp only [decide_eq_false hc3_1, decide_eq_true hc9_7, cond_true, cond_false, if_pos hc16_9]; exact F_a1_line_13), (by unfold own_cl own_clB; simp only [decide_eq_false hc3_1, decide_eq_true hc9_7, cond_true, cond_false, if_pos hc16_9]; exact F_a1_column_13), (by unfold own_ac own_acB; simp only [decide_eq_false hc3_1, cond_true, cond_false]; exact F_a1_afterCr_13)⟩
      ·
        refine own_back (S' := T8.setTop (mkF m 37 #[.val (.ref a1), .val (.int p2)] [])) (fun _ k => XS.ifYes X8.here hx rfl (pc0 := 16) (pc' := 37) rfl (hb hby d4_16) rfl ((if0 _ _).trans (feq hc16_9).2) (by decide) (by decide) k) ?_
        refine own_back (S' := T8.setTop (mkF m 38 #[.val (.ref a1), .val (.int p2)] [(.int p2)])) (fun _ k => XS.iloadN X8.here hx rfl (hb hby d4_37) rfl k) ?_
        refine own_back (S' := T8.setTop (mkF m 40 #[.val (.ref a1), .val (.int p2)] [(.int (10 : Int32)), (.int p2)])) (fun _ k => XS.bipush X8.here hx rfl (hb hby d4_38)  k) ?_
        refine own_back (S' := T8.setTop (mkF m 53 #[.val (.ref a1), .val (.int p2)] [])) (fun _ k => XS.icmpYes X8.here hx rfl (pc0 := 40) (pc' := 53) rfl (hb hby d4_40) rfl (teq (hc9_7 : p2 = (10 : Int32))).1 (by decide) (by decide) k) ?_
        refine own_back (S' := T8.setTop (mkF m 54 #[.val (.ref a1), .val (.int p2)] [(.ref a1)])) (fun _ k => XS.aloadN X8.here hx rfl (hb hby d4_53) rfl rfl k) ?_
        refine own_back (S' := T8.setTop (mkF m 55 #[.val (.ref a1), .val (.int p2)] [(.int p2), (.ref a1)])) (fun _ k => XS.iloadN X8.here hx rfl (hb hby d4_54) rfl k) ?_
        refine own_back (S' := T8.setTop (mkF m 57 #[.val (.ref a1), .val (.int p2)] [(.int (13 : Int32)), (.int p2), (.ref a1)])) (fun _ k => XS.bipush X8.here hx rfl (hb hby d4_55)  k) ?_
        refine own_back (S' := T8.setTop (mkF m 64 #[.val (.ref a1), .val (.int p2)] [(.ref a1)])) (fun _ k => XS.icmpYes X8.here hx rfl (pc0 := 57) (pc' := 64) rfl (hb hby d4_57) rfl (feq (hc3_1 : ¬ (p2 = (13 : Int32)))).2 (by decide) (by decide) k) ?_
        refine own_back (S' := T8.setTop (mkF m 65 #[.val (.ref a1), .val (.int p2)] [(.int (0 : Int32)), (.ref a1)])) (fun _ k => XS.iconst X8.here hx rfl (hb hby d4_64)  k) ?_
        obtain ⟨T15, h15, X15, e15, W15, st15⟩ := putFN X8 hx hZ hown (hw _ (List.mem_of_getElem? (i := 23) rfl)) Via.refl e8 F_afterCr E1 (Or.inl (hw _ (List.mem_of_getElem? (i := 24) rfl))) (hw _ (List.mem_of_getElem? (i := 6) rfl)) (ty := .boolean) (v' := .int (0 : Int32)) (by decide) rfl (by decide) (g := (mkF m 65 #[.val (.ref a1), .val (.int p2)] [(.int (0 : Int32)), (.ref a1)])) rfl rfl (hb hby d4_65)
        have N15 := Fr.snoc X15 N0 g1
        have Z15 : n0 ≤ h15.size := Nat.le_trans Z0 (Nat.le_of_eq W15.size.symm)
        have E_a1_15 := E1.wr W15
        have F_a1_line_15 := F_line.other W15 (Or.inr (slot_ne (Or.inl (hw _ (List.mem_of_getElem? (i := 15) rfl))) (Or.inl (hw _ (List.mem_of_getElem? (i := 24) rfl))) (by decide) (t := .int) (t' := .boolean) (by decide) (by decide)))
        have F_a1_column_15 := F_column.other W15 (Or.inr (slot_ne (Or.inl (hw _ (List.mem_of_getElem? (i := 17) rfl))) (Or.inl (hw _ (List.mem_of_getElem? (i := 24) rfl))) (by decide) (t := .int) (t' := .boolean) (by decide) (by decide)))
        have F_a1_afterCr_15 := F_afterCr.same W15
        have K15 : Keep h0 h15 [a1] := (Keep.refl h0 [a1]).wr W15 (Or.inl (List.mem_of_getElem? (i := 0) rfl))
        refine own_back (S' := T15.setTop (mkF m 68 #[.val (.ref a1), .val (.int p2)] [])) (st15) ?_
        obtain ⟨fs, hr, hrun, hended, hW, hsame⟩ := X15.leave (v := none) (fun _ => rfl)
        refine own_done ⟨_, _, X15.returnOut hx Bd.returns (hb hby d4_68) hr, hrun, hended, _, _, rfl, ?_, ⟨_, rfl⟩, hW, hsame.mono (by decide) (by decide)⟩
        show Q4 Z a1 p2 ln cl ac h0 n0 _ T15.heap _
        rw [e15]
        exact ⟨rfl, N15, K15, E_a1_15, (by unfold own_ln own_lnB; simp only [decide_eq_false hc3_1, decide_eq_true hc9_7, cond_true, cond_false, if_neg hc16_9]; exact F_a1_line_15), (by unfold own_cl own_clB; simp only [decide_eq_false hc3_1, decide_eq_true hc9_7, cond_true, cond_false, if_neg hc16_9]; exact F_a1_column_15), (by unfold own_ac own_acB; simp only [decide_eq_false hc3_1, cond_true, cond_false]; exact F_a1_afterCr_15)⟩
    ·
      refine own_back (S' := s₁.setTop (mkF m 37 #[.val (.ref a1), .val (.int p2)] [])) (fun _ k => XS.icmpYes X0.here hx rfl (pc0 := 9) (pc' := 37) rfl (hb hby d4_9) rfl (feq hc9_7).2 (by decide) (by decide) k) ?_
      refine own_back (S' := s₁.setTop (mkF m 38 #[.val (.ref a1), .val (.int p2)] [(.int p2)])) (fun _ k => XS.iloadN X0.here hx rfl (hb hby d4_37) rfl k) ?_
      refine own_back (S' := s₁.setTop (mkF m 40 #[.val (.ref a1), .val (.int p2)] [(.int (10 : Int32)), (.int p2)])) (fun _ k => XS.bipush X0.here hx rfl (hb hby d4_38)  k) ?_
      refine own_back (S' := s₁.setTop (mkF m 43 #[.val (.ref a1), .val (.int p2)] [])) (fun _ k => XS.icmpNo X0.here hx rfl (hb hby d4_40) rfl (feq (hc9_7 : ¬ (p2 = (10 : Int32)))).1 k) ?_
      refine own_back (S' := s₁.setTop (mkF m 44 #[.val (.ref a1), .val (.int p2)] [(.ref a1)])) (fun _ k => XS.aloadN X0.here hx rfl (hb hby d4_43) rfl rfl k) ?_
      refine own_back (S' := s₁.setTop (mkF m 45 #[.val (.ref a1), .val (.int p2)] [(.ref a1), (.ref a1)])) (fun _ k => XS.dup X0.here hx rfl (hb hby d4_44) rfl rfl k) ?_
      obtain ⟨T17, X17, e17, st17⟩ := getF X0 hx hZ hown (host := "") (Or.inl (hw _ (List.mem_of_getElem? (i := 16) rfl))) Via.refl e0 F_column (g := (mkF m 45 #[.val (.ref a1), .val (.int p2)] [(.ref a1), (.ref a1)])) rfl rfl (hb hby d4_45)
      refine own_back (S' := T17.setTop (mkF m 48 #[.val (.ref a1), .val (.int p2)] [(.int cl), (.ref a1)])) (st17) ?_
      refine own_back (S' := T17.setTop (mkF m 49 #[.val (.ref a1), .val (.int p2)] [(.int (1 : Int32)), (.int cl), (.ref a1)])) (fun _ k => XS.iconst X17.here hx rfl (hb hby d4_48)  k) ?_
      refine own_back (S' := T17.setTop (mkF m 50 #[.val (.ref a1), .val (.int p2)] [(.int (cl + (1 : Int32))), (.ref a1)])) (fun _ k => XS.iadd X17.here hx rfl (hb hby d4_49) rfl k) ?_
      obtain ⟨T18, h18, X18, e18, W18, st18⟩ := putF X17 hx hZ hown (host := "") (Or.inl (hw _ (List.mem_of_getElem? (i := 16) rfl))) Via.refl e17 F_column E1 (Or.inl (hw _ (List.mem_of_getElem? (i := 17) rfl))) (hw _ (List.mem_of_getElem? (i := 6) rfl)) (ty := .int) (by decide) rfl rfl (g := (mkF m 50 #[.val (.ref a1), .val (.int p2)] [(.int (cl + (1 : Int32))), (.ref a1)])) rfl rfl (hb hby d4_50)
      have N18 := Fr.snoc X18 N0 g1
      have Z18 : n0 ≤ h18.size := Nat.le_trans Z0 (Nat.le_of_eq W18.size.symm)
      have E_a1_18 := E1.wr W18
      have F_a1_line_18 := F_line.other W18 (Or.inr (slot_ne (Or.inl (hw _ (List.mem_of_getElem? (i := 15) rfl))) (Or.inl (hw _ (List.mem_of_getElem? (i := 17) rfl))) (by decide) (t := .int) (t' := .int) (by decide) (by decide)))
      have F_a1_afterCr_18 := F_afterCr.other W18 (Or.inr (slot_ne (Or.inl (hw _ (List.mem_of_getElem? (i := 24) rfl))) (Or.inl (hw _ (List.mem_of_getElem? (i := 17) rfl))) (by decide) (t := .boolean) (t' := .int) (by decide) (by decide)))
      have F_a1_column_18 := F_column.same W18
      have K18 : Keep h0 h18 [a1] := (Keep.refl h0 [a1]).wr W18 (Or.inl (List.mem_of_getElem? (i := 0) rfl))
      refine own_back (S' := T18.setTop (mkF m 53 #[.val (.ref a1), .val (.int p2)] [])) (st18) ?_
      refine own_back (S' := T18.setTop (mkF m 54 #[.val (.ref a1), .val (.int p2)] [(.ref a1)])) (fun _ k => XS.aloadN X18.here hx rfl (hb hby d4_53) rfl rfl k) ?_
      refine own_back (S' := T18.setTop (mkF m 55 #[.val (.ref a1), .val (.int p2)] [(.int p2), (.ref a1)])) (fun _ k => XS.iloadN X18.here hx rfl (hb hby d4_54) rfl k) ?_
      refine own_back (S' := T18.setTop (mkF m 57 #[.val (.ref a1), .val (.int p2)] [(.int (13 : Int32)), (.int p2), (.ref a1)])) (fun _ k => XS.bipush X18.here hx rfl (hb hby d4_55)  k) ?_
      refine own_back (S' := T18.setTop (mkF m 64 #[.val (.ref a1), .val (.int p2)] [(.ref a1)])) (fun _ k => XS.icmpYes X18.here hx rfl (pc0 := 57) (pc' := 64) rfl (hb hby d4_57) rfl (feq (hc3_1 : ¬ (p2 = (13 : Int32)))).2 (by decide) (by decide) k) ?_
      refine own_back (S' := T18.setTop (mkF m 65 #[.val (.ref a1), .val (.int p2)] [(.int (0 : Int32)), (.ref a1)])) (fun _ k => XS.iconst X18.here hx rfl (hb hby d4_64)  k) ?_
      obtain ⟨T19, h19, X19, e19, W19, st19⟩ := putFN X18 hx hZ hown (hw _ (List.mem_of_getElem? (i := 23) rfl)) Via.refl e18 F_a1_afterCr_18 E_a1_18 (Or.inl (hw _ (List.mem_of_getElem? (i := 24) rfl))) (hw _ (List.mem_of_getElem? (i := 6) rfl)) (ty := .boolean) (v' := .int (0 : Int32)) (by decide) rfl (by decide) (g := (mkF m 65 #[.val (.ref a1), .val (.int p2)] [(.int (0 : Int32)), (.ref a1)])) rfl rfl (hb hby d4_65)
      have N19 := Fr.snoc X19 N18 g1
      have Z19 : n0 ≤ h19.size := Nat.le_trans Z18 (Nat.le_of_eq W19.size.symm)
      have E_a1_19 := E_a1_18.wr W19
      have F_a1_line_19 := F_a1_line_18.other W19 (Or.inr (slot_ne (Or.inl (hw _ (List.mem_of_getElem? (i := 15) rfl))) (Or.inl (hw _ (List.mem_of_getElem? (i := 24) rfl))) (by decide) (t := .int) (t' := .boolean) (by decide) (by decide)))
      have F_a1_column_19 := F_a1_column_18.other W19 (Or.inr (slot_ne (Or.inl (hw _ (List.mem_of_getElem? (i := 17) rfl))) (Or.inl (hw _ (List.mem_of_getElem? (i := 24) rfl))) (by decide) (t := .int) (t' := .boolean) (by decide) (by decide)))
      have F_a1_afterCr_19 := F_a1_afterCr_18.same W19
      have K19 : Keep h0 h19 [a1] := K18.wr W19 (Or.inl (List.mem_of_getElem? (i := 0) rfl))
      refine own_back (S' := T19.setTop (mkF m 68 #[.val (.ref a1), .val (.int p2)] [])) (st19) ?_
      obtain ⟨fs, hr, hrun, hended, hW, hsame⟩ := X19.leave (v := none) (fun _ => rfl)
      refine own_done ⟨_, _, X19.returnOut hx Bd.returns (hb hby d4_68) hr, hrun, hended, _, _, rfl, ?_, ⟨_, rfl⟩, hW, hsame.mono (by decide) (by decide)⟩
      show Q4 Z a1 p2 ln cl ac h0 n0 _ T19.heap _
      rw [e19]
      exact ⟨rfl, N19, K19, E_a1_19, (by unfold own_ln own_lnB; simp only [decide_eq_false hc3_1, decide_eq_false hc9_7, cond_true, cond_false]; exact F_a1_line_19), (by unfold own_cl own_clB; simp only [decide_eq_false hc3_1, decide_eq_false hc9_7, cond_true, cond_false]; exact F_a1_column_19), (by unfold own_ac own_acB; simp only [decide_eq_false hc3_1, cond_true, cond_false]; exact F_a1_afterCr_19)⟩
theorem d5_0 : decode prog_75_method_3_code 0 = .ok (.aload_n 0, 1) := by decide +kernel
theorem d5_1 : decode prog_75_method_3_code 1 = .ok (.getfield 7, 3) := by decide +kernel
theorem d5_4 : decode prog_75_method_3_code 4 = .ok (.ireturn, 1) := by decide +kernel
theorem ef_5 (m : MethodId) (x0 : Addr) : entryFrame m #[(.ref x0)] 1 = mkF m 0 #[.val (.ref x0)] [] := by first | (simp [entryFrame, mkF, argsToLocals, Value.category]; done) | rfl
def Q5 (Z : State) (a1 : Addr) (ln : Int32) (h0 : Heap) (n0 : Nat) (v : Option Value) (h : Heap) (L : List Loc) : Prop := v = some (.int ln) ∧ Fr n0 L ∧ h = h0
set_option maxRecDepth 65536 in
set_option maxHeartbeats 40000000 in
theorem rm5 (l : Launch) (Z : State) (a0 : Array Value) (hw : ∀ d ∈ tables_1, d.before a0 Z = true) (ws : List Jvm.Cond) (a1 : Addr) (ln : Int32) (h0 : Heap) (n0 : Nat) (Z0 : n0 ≤ h0.size) (F_line : Fld Z h0 a1 "com/example/bindery/bindery/XmlPosition" "line" "I" (.int ln)) :
    MetFree l (⟨"com/example/bindery/bindery/XmlPosition", "line", "()I"⟩ : MethodName) (head1 (Jvm.Cond.code (⟨"com/example/bindery/bindery/XmlPosition", "line", "()I"⟩ : MethodName) prog_75_method_3_code 1 (some .int) :: ws) ({ frames := 0, cells := 0, slots := 0, locals := 0 } : Room)) (fun a U => a = #[(.ref a1)] ∧ Z.Warmed39 U.vm ∧ U.heap = h0) (fun _ _ _ _ _ => True) (fun _ U o U' => ∃ v L, o = .returned v ∧ Q5 Z a1 ln h0 n0 v U'.heap L ∧ FrameEnd U o U' L ({ frames := 0, cells := 0, slots := 0, locals := 0 } : Room).cells ({ frames := 0, cells := 0, slots := 0, locals := 0 } : Room).slots) := by
  refine MetFree.of_bodySF (plainFor_of_name pn_com_example_bindery_bindery_XmlPosition) hisR ?_
  intro p e s m args below meth c s₁ Bd hml0 hP hK
  obtain ⟨rfl, hZ, hh⟩ := hP
  have hx := Bd.exec
  have hby := Bd.bytes
  have hml : c.maxLocals = 1 := hml0
  have hown : s.vm.findClass "com/example/bindery/bindery/XmlPosition" = some m.cls := findClass_of_methodNamed Bd.named
  have hnm := (name_of_methodNamed Bd.named Bd.method).1
  have X0 : Stand p l e ({ frames := 0, cells := 0, slots := 0, locals := 0 } : Room) s m #[(.ref a1)] below meth c s₁ [] 0 0 := Stand.of_body Bd
  have e0 : s₁.heap = h0 := by rw [← hh, Bd.state]; rfl
  have N0 := Fr.nil n0
  refine own_open (S' := s₁.setTop (mkF m 0 #[.val (.ref a1)] [])) (fun t k => castTop (ef_5 m a1) k) ?_
  refine own_back (S' := s₁.setTop (mkF m 1 #[.val (.ref a1)] [(.ref a1)])) (fun _ k => XS.aloadN X0.here hx rfl (hb hby d5_0) rfl rfl k) ?_
  obtain ⟨T1, X1, e1, st1⟩ := getF X0 hx hZ hown (host := "") (Or.inl (hw _ (List.mem_of_getElem? (i := 14) rfl))) Via.refl e0 F_line (g := (mkF m 1 #[.val (.ref a1)] [(.ref a1)])) rfl rfl (hb hby d5_1)
  refine own_back (S' := T1.setTop (mkF m 4 #[.val (.ref a1)] [(.int ln)])) (st1) ?_
  obtain ⟨fs, hr, hrun, hended, hW, hsame⟩ := X1.leave (v := some (.int ln)) (fun h => by rw [Bd.returns] at h; cases h)
  refine own_done ⟨_, _, retI X1 hx Bd.returns (hb hby d5_4) hr, hrun, hended, _, _, rfl, ?_, ⟨_, rfl⟩, hW, hsame.mono (by decide) (by decide)⟩
  show Q5 Z a1 ln h0 n0 _ T1.heap _
  rw [e1]
  exact ⟨rfl, N0, rfl⟩
theorem d8_0 : decode prog_75_method_4_code 0 = .ok (.aload_n 0, 1) := by decide +kernel
theorem d8_1 : decode prog_75_method_4_code 1 = .ok (.getfield 13, 3) := by decide +kernel
theorem d8_4 : decode prog_75_method_4_code 4 = .ok (.ireturn, 1) := by decide +kernel
theorem ef_8 (m : MethodId) (x0 : Addr) : entryFrame m #[(.ref x0)] 1 = mkF m 0 #[.val (.ref x0)] [] := by first | (simp [entryFrame, mkF, argsToLocals, Value.category]; done) | rfl
def Q8 (Z : State) (a1 : Addr) (cl : Int32) (h0 : Heap) (n0 : Nat) (v : Option Value) (h : Heap) (L : List Loc) : Prop := v = some (.int cl) ∧ Fr n0 L ∧ h = h0
set_option maxRecDepth 65536 in
set_option maxHeartbeats 40000000 in
theorem rm8 (l : Launch) (Z : State) (a0 : Array Value) (hw : ∀ d ∈ tables_1, d.before a0 Z = true) (ws : List Jvm.Cond) (a1 : Addr) (cl : Int32) (h0 : Heap) (n0 : Nat) (Z0 : n0 ≤ h0.size) (F_column : Fld Z h0 a1 "com/example/bindery/bindery/XmlPosition" "column" "I" (.int cl)) :
    MetFree l (⟨"com/example/bindery/bindery/XmlPosition", "column", "()I"⟩ : MethodName) (head1 (Jvm.Cond.code (⟨"com/example/bindery/bindery/XmlPosition", "column", "()I"⟩ : MethodName) prog_75_method_4_code 1 (some .int) :: ws) ({ frames := 0, cells := 0, slots := 0, locals := 0 } : Room)) (fun a U => a = #[(.ref a1)] ∧ Z.Warmed39 U.vm ∧ U.heap = h0) (fun _ _ _ _ _ => True) (fun _ U o U' => ∃ v L, o = .returned v ∧ Q8 Z a1 cl h0 n0 v U'.heap L ∧ FrameEnd U o U' L ({ frames := 0, cells := 0, slots := 0, locals := 0 } : Room).cells ({ frames := 0, cells := 0, slots := 0, locals := 0 } : Room).slots) := by
  refine MetFree.of_bodySF (plainFor_of_name pn_com_example_bindery_bindery_XmlPosition) hisR ?_
  intro p e s m args below meth c s₁ Bd hml0 hP hK
  obtain ⟨rfl, hZ, hh⟩ := hP
  have hx := Bd.exec
  have hby := Bd.bytes
  have hml : c.maxLocals = 1 := hml0
  have hown : s.vm.findClass "com/example/bindery/bindery/XmlPosition" = some m.cls := findClass_of_methodNamed Bd.named
  have hnm := (name_of_methodNamed Bd.named Bd.method).1
  have X0 : Stand p l e ({ frames := 0, cells := 0, slots := 0, locals := 0 } : Room) s m #[(.ref a1)] below meth c s₁ [] 0 0 := Stand.of_body Bd
  have e0 : s₁.heap = h0 := by rw [← hh, Bd.state]; rfl
  have N0 := Fr.nil n0
  refine own_open (S' := s₁.setTop (mkF m 0 #[.val (.ref a1)] [])) (fun t k => castTop (ef_8 m a1) k) ?_
  refine own_back (S' := s₁.setTop (mkF m 1 #[.val (.ref a1)] [(.ref a1)])) (fun _ k => XS.aloadN X0.here hx rfl (hb hby d8_0) rfl rfl k) ?_
  obtain ⟨T1, X1, e1, st1⟩ := getF X0 hx hZ hown (host := "") (Or.inl (hw _ (List.mem_of_getElem? (i := 16) rfl))) Via.refl e0 F_column (g := (mkF m 1 #[.val (.ref a1)] [(.ref a1)])) rfl rfl (hb hby d8_1)
  refine own_back (S' := T1.setTop (mkF m 4 #[.val (.ref a1)] [(.int cl)])) (st1) ?_
  obtain ⟨fs, hr, hrun, hended, hW, hsame⟩ := X1.leave (v := some (.int cl)) (fun h => by rw [Bd.returns] at h; cases h)
  refine own_done ⟨_, _, retI X1 hx Bd.returns (hb hby d8_4) hr, hrun, hended, _, _, rfl, ?_, ⟨_, rfl⟩, hW, hsame.mono (by decide) (by decide)⟩
  show Q8 Z a1 cl h0 n0 _ T1.heap _
  rw [e1]
  exact ⟨rfl, N0, rfl⟩
theorem pd_2 : parseMethodDescriptor "(I)C" = some ⟨[.int], some .char⟩ := by decide +kernel
theorem pd_3 : parseMethodDescriptor "()V" = some ⟨[], none⟩ := by decide +kernel
theorem pd_4 : parseMethodDescriptor "(C)V" = some ⟨[.char], none⟩ := by decide +kernel
theorem pd_5 : parseMethodDescriptor "()I" = some ⟨[], some .int⟩ := by decide +kernel
theorem pd_6 : parseMethodDescriptor "([CI)I" = some ⟨[(.array .char), .int], some .int⟩ := by decide +kernel
theorem ef_0 (m : MethodId) (x0 : Int32) (x1 : Int32) (x2 : Int32) (x3 : Int32) : entryFrame m #[(.int x0), (.int x1), (.int x2), (.int x3)] maxLocals = mkF m 0 #[.val (.int x0), .val (.int x1), .val (.int x2), .val (.int x3), .unset, .unset, .unset, .unset, .unset, .unset] [] := by first | (simp [entryFrame, mkF, argsToLocals, Value.category, maxLocals]; done) | rfl
def Q0 (Z : State) (p1 : Int32) (p2 : Int32) (p3 : Int32) (p4 : Int32) (h0 : Heap) (n0 : Nat) (v : Option Value) (h : Heap) (L : List Loc) : Prop := v = some (.int (1 : Int32)) ∧ Fr n0 L
set_option maxRecDepth 65536 in
set_option maxHeartbeats 40000000 in
theorem rm0 (l : Launch) (Z : State) (a0 : Array Value) (hw : ∀ d ∈ tables_1, d.before a0 Z = true) (ws : List Jvm.Cond) (p1 : Int32) (p2 : Int32) (p3 : Int32) (p4 : Int32) (h0 : Heap) (n0 : Nat) (Z0 : n0 ≤ h0.size) :
    MetFree l x (head1 (Jvm.Cond.code x code maxLocals ret :: ws) room_1) (fun a U => a = #[(.int p1), (.int p2), (.int p3), (.int p4)] ∧ Z.Warmed39 U.vm ∧ U.heap = h0) (fun _ _ _ _ _ => True) (fun _ U o U' => ∃ v L, o = .returned v ∧ Q0 Z p1 p2 p3 p4 h0 n0 v U'.heap L ∧ FrameEnd U o U' L room_1.cells room_1.slots) := by
  refine MetFree.of_bodySF (plainFor_of_name pn_com_example_bindery_bindery_XmlPositionPassPinLaw) hisR ?_
  intro p e s m args below meth c s₁ Bd hml0 hP hK
  obtain ⟨rfl, hZ, hh⟩ := hP
  have hx := Bd.exec
  have hby := Bd.bytes
  have hml : c.maxLocals = 10 := hml0
  have hown : s.vm.findClass "com/example/bindery/bindery/XmlPositionPassPinLaw" = some m.cls := findClass_of_methodNamed Bd.named
  have hnm := (name_of_methodNamed Bd.named Bd.method).1
  have X0 : Stand p l e room_1 s m #[(.int p1), (.int p2), (.int p3), (.int p4)] below meth c s₁ [] 0 0 := Stand.of_body Bd
  have e0 : s₁.heap = h0 := by rw [← hh, Bd.state]; rfl
  have N0 := Fr.nil n0
  refine own_open (S' := s₁.setTop (mkF m 0 #[.val (.int p1), .val (.int p2), .val (.int p3), .val (.int p4), .unset, .unset, .unset, .unset, .unset, .unset] [])) (fun t k => castTop (ef_0 m p1 p2 p3 p4) k) ?_
  refine own_back (S' := s₁.setTop (mkF m 1 #[.val (.int p1), .val (.int p2), .val (.int p3), .val (.int p4), .unset, .unset, .unset, .unset, .unset, .unset] [(.int (4 : Int32))])) (fun _ k => XS.iconst X0.here hx rfl (hb hby at_0)  k) ?_
  obtain ⟨T1, h1, X1, e1, E1, A1, st1⟩ := own_newC X0 hx hZ (hw _ (List.mem_of_getElem? (i := 0) rfl)) e0 (g := (mkF m 1 #[.val (.int p1), .val (.int p2), .val (.int p3), .val (.int p4), .unset, .unset, .unset, .unset, .unset, .unset] [(.int (4 : Int32))])) rfl (hb hby at_1) rfl (by decide) (k := 4) rfl (cap := 4) (by decide) (by decide) (by decide) (by decide)
  obtain ⟨b1, g1⟩ : ∃ z, z = h0.size := ⟨_, rfl⟩
  rw [← g1] at A1 st1
  have g_b1 : n0 ≤ b1 := Nat.le_trans Z0 (Nat.le_of_eq g1.symm)
  have Z1 : n0 ≤ h1.size := Nat.le_trans Z0 E1.1
  refine own_back (S' := T1.setTop (mkF m 3 #[.val (.int p1), .val (.int p2), .val (.int p3), .val (.int p4), .unset, .unset, .unset, .unset, .unset, .unset] [(.ref b1)])) (st1) ?_
  refine own_back (S' := T1.setTop (mkF m 5 #[.val (.int p1), .val (.int p2), .val (.int p3), .val (.int p4), .val (.ref b1), .unset, .unset, .unset, .unset, .unset] [])) (fun _ k => XS.astore X1.here hx rfl (hb hby at_3) rfl rfl (l' := #[.val (.int p1), .val (.int p2), .val (.int p3), .val (.int p4), .val (.ref b1), .unset, .unset, .unset, .unset, .unset]) rfl k) ?_
  refine own_back (S' := T1.setTop (mkF m 7 #[.val (.int p1), .val (.int p2), .val (.int p3), .val (.int p4), .val (.ref b1), .unset, .unset, .unset, .unset, .unset] [(.ref b1)])) (fun _ k => XS.aload X1.here hx rfl (hb hby at_5) rfl rfl k) ?_
  refine own_back (S' := T1.setTop (mkF m 8 #[.val (.int p1), .val (.int p2), .val (.int p3), .val (.int p4), .val (.ref b1), .unset, .unset, .unset, .unset, .unset] [(.int (0 : Int32)), (.ref b1)])) (fun _ k => XS.iconst X1.here hx rfl (hb hby at_7)  k) ?_
  refine own_back (S' := T1.setTop (mkF m 9 #[.val (.int p1), .val (.int p2), .val (.int p3), .val (.int p4), .val (.ref b1), .unset, .unset, .unset, .unset, .unset] [(.int p1), (.int (0 : Int32)), (.ref b1)])) (fun _ k => XS.iloadN X1.here hx rfl (hb hby at_8) rfl k) ?_
  obtain ⟨_, _, ⟨T2, L2, k2, n2⟩, -, X2, ⟨Lc2, hQ2, l2, y2, z2⟩, st2⟩ := Jvm.LawKit.callS X1 hx (y := (⟨"com/example/bindery/bindery/XmlPositionPassPinLaw", "draw", "(I)C"⟩ : MethodName)) hown (mvT hZ (hw _ (List.mem_of_getElem? (i := 1) rfl))) (mvT hZ (hw _ (List.mem_of_getElem? (i := 2) rfl))) (mvT hZ (hw _ (List.mem_of_getElem? (i := 3) rfl))) (mvT hZ (hw _ (List.mem_of_getElem? (i := 4) rfl))) (by decide) (backOf (W := 2) (rm1 l Z a0 hw [] p1 h1 n0 Z1 ) hZ (hw _ (List.mem_of_getElem? (i := 4) rfl)) (hw _ (List.mem_of_getElem? (i := 3) rfl)) (by decide) (by decide)) (g := (mkF m 9 #[.val (.int p1), .val (.int p2), .val (.int p3), .val (.int p4), .val (.ref b1), .unset, .unset, .unset, .unset, .unset] [(.int p1), (.int (0 : Int32)), (.ref b1)])) rfl (by rw [hml]; rfl) (argsL := [(.int p1)]) (rest := [(.int (0 : Int32)), (.ref b1)]) (lenOf pd_2 rfl) rfl (by show 2 * 0 + _ ≤ _; exact Nat.le_of_eq rfl) (hb hby at_9) (fun _ _ => ⟨rfl, e1, (by decide : 1 + 0 ≤ _), (by decide : 4 + 0 ≤ _)⟩)
  dsimp only [Pt.U, Pt.locs, Pt.cells, Pt.slots] at X2 l2 y2 z2 st2 hQ2
  rw [l2, (y2 : k2 = 1), (z2 : n2 = 4)] at X2
  obtain ⟨rfl, N2q, e2⟩ := hQ2
  have N2 := Fr.app N0 N2q
  refine own_back (S' := T2.setTop (mkF m 12 #[.val (.int p1), .val (.int p2), .val (.int p3), .val (.int p4), .val (.ref b1), .unset, .unset, .unset, .unset, .unset] [(.int (own_draw p1)), (.int (0 : Int32)), (.ref b1)])) (st2) ?_
  obtain ⟨T3, h3, X3, e3, W3, A3, st3⟩ := own_stC X2 hx hZ e2 A1 (k := 0) (by decide) rfl (by decide) (g := (mkF m 12 #[.val (.int p1), .val (.int p2), .val (.int p3), .val (.int p4), .val (.ref b1), .unset, .unset, .unset, .unset, .unset] [(.int (own_draw p1)), (.int (0 : Int32)), (.ref b1)])) rfl rfl (hb hby at_12)
  have N3 := Fr.snoc X3 N2 g_b1
  have Z3 : n0 ≤ h3.size := Nat.le_trans Z1 (Nat.le_of_eq W3.size.symm)
  refine own_back (S' := T3.setTop (mkF m 13 #[.val (.int p1), .val (.int p2), .val (.int p3), .val (.int p4), .val (.ref b1), .unset, .unset, .unset, .unset, .unset] [])) (st3) ?_
  refine own_back (S' := T3.setTop (mkF m 15 #[.val (.int p1), .val (.int p2), .val (.int p3), .val (.int p4), .val (.ref b1), .unset, .unset, .unset, .unset, .unset] [(.ref b1)])) (fun _ k => XS.aload X3.here hx rfl (hb hby at_13) rfl rfl k) ?_
  refine own_back (S' := T3.setTop (mkF m 16 #[.val (.int p1), .val (.int p2), .val (.int p3), .val (.int p4), .val (.ref b1), .unset, .unset, .unset, .unset, .unset] [(.int (1 : Int32)), (.ref b1)])) (fun _ k => XS.iconst X3.here hx rfl (hb hby at_15)  k) ?_
  refine own_back (S' := T3.setTop (mkF m 17 #[.val (.int p1), .val (.int p2), .val (.int p3), .val (.int p4), .val (.ref b1), .unset, .unset, .unset, .unset, .unset] [(.int p2), (.int (1 : Int32)), (.ref b1)])) (fun _ k => XS.iloadN X3.here hx rfl (hb hby at_16) rfl k) ?_
  obtain ⟨_, _, ⟨T4, L4, k4, n4⟩, -, X4, ⟨Lc4, hQ4, l4, y4, z4⟩, st4⟩ := Jvm.LawKit.callS X3 hx (y := (⟨"com/example/bindery/bindery/XmlPositionPassPinLaw", "draw", "(I)C"⟩ : MethodName)) hown (mvT hZ (hw _ (List.mem_of_getElem? (i := 1) rfl))) (mvT hZ (hw _ (List.mem_of_getElem? (i := 2) rfl))) (mvT hZ (hw _ (List.mem_of_getElem? (i := 3) rfl))) (mvT hZ (hw _ (List.mem_of_getElem? (i := 4) rfl))) (by decide) (backOf (W := 2) (rm1 l Z a0 hw [] p2 h3 n0 Z3 ) hZ (hw _ (List.mem_of_getElem? (i := 4) rfl)) (hw _ (List.mem_of_getElem? (i := 3) rfl)) (by decide) (by decide)) (g := (mkF m 17 #[.val (.int p1), .val (.int p2), .val (.int p3), .val (.int p4), .val (.ref b1), .unset, .unset, .unset, .unset, .unset] [(.int p2), (.int (1 : Int32)), (.ref b1)])) rfl (by rw [hml]; rfl) (argsL := [(.int p2)]) (rest := [(.int (1 : Int32)), (.ref b1)]) (lenOf pd_2 rfl) rfl (by show 2 * 0 + _ ≤ _; exact Nat.le_of_eq rfl) (hb hby at_17) (fun _ _ => ⟨rfl, e3, (by decide : 1 + 0 ≤ _), (by decide : 4 + 0 ≤ _)⟩)
  dsimp only [Pt.U, Pt.locs, Pt.cells, Pt.slots] at X4 l4 y4 z4 st4 hQ4
  rw [l4, (y4 : k4 = 1), (z4 : n4 = 4)] at X4
  obtain ⟨rfl, N4q, e4⟩ := hQ4
  have N4 := Fr.app N3 N4q
  refine own_back (S' := T4.setTop (mkF m 20 #[.val (.int p1), .val (.int p2), .val (.int p3), .val (.int p4), .val (.ref b1), .unset, .unset, .unset, .unset, .unset] [(.int (own_draw p2)), (.int (1 : Int32)), (.ref b1)])) (st4) ?_
  obtain ⟨T5, h5, X5, e5, W5, A5, st5⟩ := own_stC X4 hx hZ e4 A3 (k := 1) (by decide) rfl (by decide) (g := (mkF m 20 #[.val (.int p1), .val (.int p2), .val (.int p3), .val (.int p4), .val (.ref b1), .unset, .unset, .unset, .unset, .unset] [(.int (own_draw p2)), (.int (1 : Int32)), (.ref b1)])) rfl rfl (hb hby at_20)
  have N5 := Fr.snoc X5 N4 g_b1
  have Z5 : n0 ≤ h5.size := Nat.le_trans Z3 (Nat.le_of_eq W5.size.symm)
  refine own_back (S' := T5.setTop (mkF m 21 #[.val (.int p1), .val (.int p2), .val (.int p3), .val (.int p4), .val (.ref b1), .unset, .unset, .unset, .unset, .unset] [])) (st5) ?_
  refine own_back (S' := T5.setTop (mkF m 23 #[.val (.int p1), .val (.int p2), .val (.int p3), .val (.int p4), .val (.ref b1), .unset, .unset, .unset, .unset, .unset] [(.ref b1)])) (fun _ k => XS.aload X5.here hx rfl (hb hby at_21) rfl rfl k) ?_
  refine own_back (S' := T5.setTop (mkF m 24 #[.val (.int p1), .val (.int p2), .val (.int p3), .val (.int p4), .val (.ref b1), .unset, .unset, .unset, .unset, .unset] [(.int (2 : Int32)), (.ref b1)])) (fun _ k => XS.iconst X5.here hx rfl (hb hby at_23)  k) ?_
  refine own_back (S' := T5.setTop (mkF m 25 #[.val (.int p1), .val (.int p2), .val (.int p3), .val (.int p4), .val (.ref b1), .unset, .unset, .unset, .unset, .unset] [(.int p3), (.int (2 : Int32)), (.ref b1)])) (fun _ k => XS.iloadN X5.here hx rfl (hb hby at_24) rfl k) ?_
  obtain ⟨_, _, ⟨T6, L6, k6, n6⟩, -, X6, ⟨Lc6, hQ6, l6, y6, z6⟩, st6⟩ := Jvm.LawKit.callS X5 hx (y := (⟨"com/example/bindery/bindery/XmlPositionPassPinLaw", "draw", "(I)C"⟩ : MethodName)) hown (mvT hZ (hw _ (List.mem_of_getElem? (i := 1) rfl))) (mvT hZ (hw _ (List.mem_of_getElem? (i := 2) rfl))) (mvT hZ (hw _ (List.mem_of_getElem? (i := 3) rfl))) (mvT hZ (hw _ (List.mem_of_getElem? (i := 4) rfl))) (by decide) (backOf (W := 2) (rm1 l Z a0 hw [] p3 h5 n0 Z5 ) hZ (hw _ (List.mem_of_getElem? (i := 4) rfl)) (hw _ (List.mem_of_getElem? (i := 3) rfl)) (by decide) (by decide)) (g := (mkF m 25 #[.val (.int p1), .val (.int p2), .val (.int p3), .val (.int p4), .val (.ref b1), .unset, .unset, .unset, .unset, .unset] [(.int p3), (.int (2 : Int32)), (.ref b1)])) rfl (by rw [hml]; rfl) (argsL := [(.int p3)]) (rest := [(.int (2 : Int32)), (.ref b1)]) (lenOf pd_2 rfl) rfl (by show 2 * 0 + _ ≤ _; exact Nat.le_of_eq rfl) (hb hby at_25) (fun _ _ => ⟨rfl, e5, (by decide : 1 + 0 ≤ _), (by decide : 4 + 0 ≤ _)⟩)
  dsimp only [Pt.U, Pt.locs, Pt.cells, Pt.slots] at X6 l6 y6 z6 st6 hQ6
  rw [l6, (y6 : k6 = 1), (z6 : n6 = 4)] at X6
  obtain ⟨rfl, N6q, e6⟩ := hQ6
  have N6 := Fr.app N5 N6q
  refine own_back (S' := T6.setTop (mkF m 28 #[.val (.int p1), .val (.int p2), .val (.int p3), .val (.int p4), .val (.ref b1), .unset, .unset, .unset, .unset, .unset] [(.int (own_draw p3)), (.int (2 : Int32)), (.ref b1)])) (st6) ?_
  obtain ⟨T7, h7, X7, e7, W7, A7, st7⟩ := own_stC X6 hx hZ e6 A5 (k := 2) (by decide) rfl (by decide) (g := (mkF m 28 #[.val (.int p1), .val (.int p2), .val (.int p3), .val (.int p4), .val (.ref b1), .unset, .unset, .unset, .unset, .unset] [(.int (own_draw p3)), (.int (2 : Int32)), (.ref b1)])) rfl rfl (hb hby at_28)
  have N7 := Fr.snoc X7 N6 g_b1
  have Z7 : n0 ≤ h7.size := Nat.le_trans Z5 (Nat.le_of_eq W7.size.symm)
  refine own_back (S' := T7.setTop (mkF m 29 #[.val (.int p1), .val (.int p2), .val (.int p3), .val (.int p4), .val (.ref b1), .unset, .unset, .unset, .unset, .unset] [])) (st7) ?_
  refine own_back (S' := T7.setTop (mkF m 31 #[.val (.int p1), .val (.int p2), .val (.int p3), .val (.int p4), .val (.ref b1), .unset, .unset, .unset, .unset, .unset] [(.ref b1)])) (fun _ k => XS.aload X7.here hx rfl (hb hby at_29) rfl rfl k) ?_
  refine own_back (S' := T7.setTop (mkF m 32 #[.val (.int p1), .val (.int p2), .val (.int p3), .val (.int p4), .val (.ref b1), .unset, .unset, .unset, .unset, .unset] [(.int (3 : Int32)), (.ref b1)])) (fun _ k => XS.iconst X7.here hx rfl (hb hby at_31)  k) ?_
  refine own_back (S' := T7.setTop (mkF m 33 #[.val (.int p1), .val (.int p2), .val (.int p3), .val (.int p4), .val (.ref b1), .unset, .unset, .unset, .unset, .unset] [(.int p4), (.int (3 : Int32)), (.ref b1)])) (fun _ k => XS.iloadN X7.here hx rfl (hb hby at_32) rfl k) ?_
  obtain ⟨_, _, ⟨T8, L8, k8, n8⟩, -, X8, ⟨Lc8, hQ8, l8, y8, z8⟩, st8⟩ := Jvm.LawKit.callS X7 hx (y := (⟨"com/example/bindery/bindery/XmlPositionPassPinLaw", "draw", "(I)C"⟩ : MethodName)) hown (mvT hZ (hw _ (List.mem_of_getElem? (i := 1) rfl))) (mvT hZ (hw _ (List.mem_of_getElem? (i := 2) rfl))) (mvT hZ (hw _ (List.mem_of_getElem? (i := 3) rfl))) (mvT hZ (hw _ (List.mem_of_getElem? (i := 4) rfl))) (by decide) (backOf (W := 2) (rm1 l Z a0 hw [] p4 h7 n0 Z7 ) hZ (hw _ (List.mem_of_getElem? (i := 4) rfl)) (hw _ (List.mem_of_getElem? (i := 3) rfl)) (by decide) (by decide)) (g := (mkF m 33 #[.val (.int p1), .val (.int p2), .val (.int p3), .val (.int p4), .val (.ref b1), .unset, .unset, .unset, .unset, .unset] [(.int p4), (.int (3 : Int32)), (.ref b1)])) rfl (by rw [hml]; rfl) (argsL := [(.int p4)]) (rest := [(.int (3 : Int32)), (.ref b1)]) (lenOf pd_2 rfl) rfl (by show 2 * 0 + _ ≤ _; exact Nat.le_of_eq rfl) (hb hby at_33) (fun _ _ => ⟨rfl, e7, (by decide : 1 + 0 ≤ _), (by decide : 4 + 0 ≤ _)⟩)
  dsimp only [Pt.U, Pt.locs, Pt.cells, Pt.slots] at X8 l8 y8 z8 st8 hQ8
  rw [l8, (y8 : k8 = 1), (z8 : n8 = 4)] at X8
  obtain ⟨rfl, N8q, e8⟩ := hQ8
  have N8 := Fr.app N7 N8q
  refine own_back (S' := T8.setTop (mkF m 36 #[.val (.int p1), .val (.int p2), .val (.int p3), .val (.int p4), .val (.ref b1), .unset, .unset, .unset, .unset, .unset] [(.int (own_draw p4)), (.int (3 : Int32)), (.ref b1)])) (st8) ?_
  obtain ⟨T9, h9, X9, e9, W9, A9, st9⟩ := own_stC X8 hx hZ e8 A7 (k := 3) (by decide) rfl (by decide) (g := (mkF m 36 #[.val (.int p1), .val (.int p2), .val (.int p3), .val (.int p4), .val (.ref b1), .unset, .unset, .unset, .unset, .unset] [(.int (own_draw p4)), (.int (3 : Int32)), (.ref b1)])) rfl rfl (hb hby at_36)
  have N9 := Fr.snoc X9 N8 g_b1
  have Z9 : n0 ≤ h9.size := Nat.le_trans Z7 (Nat.le_of_eq W9.size.symm)
  refine own_back (S' := T9.setTop (mkF m 37 #[.val (.int p1), .val (.int p2), .val (.int p3), .val (.int p4), .val (.ref b1), .unset, .unset, .unset, .unset, .unset] [])) (st9) ?_
  obtain ⟨c0, hcc0⟩ : ∃ c, c = (nar .char (own_draw p1)) := ⟨_, rfl⟩
  obtain ⟨c1, hcc1⟩ : ∃ c, c = (nar .char (own_draw p2)) := ⟨_, rfl⟩
  obtain ⟨c2, hcc2⟩ : ∃ c, c = (nar .char (own_draw p3)) := ⟨_, rfl⟩
  obtain ⟨c3, hcc3⟩ : ∃ c, c = (nar .char (own_draw p4)) := ⟨_, rfl⟩
  have AF : own_I Z h9 b1 .char 4 (own_f c0 c1 c2 c3) := A9.cong (fun i hi => by rw [hcc0, hcc1, hcc2, hcc3]; rfl)
  obtain ⟨T10, h10, X10, e10, E10, A10, D10, -, st10⟩ := newO X9 hx hZ hown (hw _ (List.mem_of_getElem? (i := 5) rfl)) (hw _ (List.mem_of_getElem? (i := 6) rfl)) (hw _ (List.mem_of_getElem? (i := 7) rfl)) e9 (g := (mkF m 37 #[.val (.int p1), .val (.int p2), .val (.int p3), .val (.int p4), .val (.ref b1), .unset, .unset, .unset, .unset, .unset] [])) rfl (hb hby at_37) (by decide) (by decide)
  obtain ⟨b10, g10⟩ : ∃ z, z = h9.size := ⟨_, rfl⟩
  rw [← g10] at A10 D10 st10
  have g_b10 : n0 ≤ b10 := Nat.le_trans Z9 (Nat.le_of_eq g10.symm)
  have ne_b1_b10 : b1 ≠ b10 := Nat.ne_of_lt (Nat.lt_of_lt_of_le AF.lt (Nat.le_of_eq g10.symm))
  have Z10 : n0 ≤ h10.size := Nat.le_trans Z9 E10.1
  have A_b1_10 := AF.ext E10
  have F_b10_line_10 : Fld Z h10 b10 "com/example/bindery/bindery/XmlPosition" "line" "I" (.int (0 : Int32)) := D10 (Or.inl (hw _ (List.mem_of_getElem? (i := 15) rfl))) (ty := .int) (by decide)
  have F_b10_column_10 : Fld Z h10 b10 "com/example/bindery/bindery/XmlPosition" "column" "I" (.int (0 : Int32)) := D10 (Or.inl (hw _ (List.mem_of_getElem? (i := 17) rfl))) (ty := .int) (by decide)
  have F_b10_afterCr_10 : Fld Z h10 b10 "com/example/bindery/bindery/XmlPosition" "afterCr" "Z" (.int (0 : Int32)) := D10 (Or.inl (hw _ (List.mem_of_getElem? (i := 24) rfl))) (ty := .boolean) (by decide)
  refine own_back (S' := T10.setTop (mkF m 40 #[.val (.int p1), .val (.int p2), .val (.int p3), .val (.int p4), .val (.ref b1), .unset, .unset, .unset, .unset, .unset] [(.ref b10)])) (st10) ?_
  refine own_back (S' := T10.setTop (mkF m 41 #[.val (.int p1), .val (.int p2), .val (.int p3), .val (.int p4), .val (.ref b1), .unset, .unset, .unset, .unset, .unset] [(.ref b10), (.ref b10)])) (fun _ k => XS.dup X10.here hx rfl (hb hby at_40) rfl rfl k) ?_
  obtain ⟨_, _, ⟨T11, L11, k11, n11⟩, -, X11, ⟨Lc11, hQ11, l11, y11, z11⟩, st11⟩ := X10.specialBack hx (y := (⟨"com/example/bindery/bindery/XmlPosition", "<init>", "()V"⟩ : MethodName)) rfl hown (mvT hZ (hw _ (List.mem_of_getElem? (i := 8) rfl))) (mvT hZ (hw _ (List.mem_of_getElem? (i := 9) rfl))) (mvT hZ (hw _ (List.mem_of_getElem? (i := 10) rfl))) (by decide) (backOf (W := 1) (rm2 l Z a0 hw [] b10 h10 n0 Z10 A10 g_b10 F_b10_line_10 F_b10_column_10 F_b10_afterCr_10) hZ (hw _ (List.mem_of_getElem? (i := 10) rfl)) (hw _ (List.mem_of_getElem? (i := 7) rfl)) (by decide) (by decide)) (g := (mkF m 41 #[.val (.int p1), .val (.int p2), .val (.int p3), .val (.int p4), .val (.ref b1), .unset, .unset, .unset, .unset, .unset] [(.ref b10), (.ref b10)])) rfl (by rw [hml]; rfl) (Steps.refl _) (a := b10) (argsL := []) (rest := [(.ref b10)]) (lenOf pd_3 rfl) rfl (by show 2 * 0 + _ ≤ _; exact Nat.le_of_eq rfl) (hb hby at_41) (fun _ _ => ⟨rfl, e10, (by decide : 2 + 0 ≤ _), (by decide : 7 + 0 ≤ _)⟩)
  dsimp only [Pt.U, Pt.locs, Pt.cells, Pt.slots] at X11 l11 y11 z11 st11 hQ11
  rw [l11, (y11 : k11 = 2), (z11 : n11 = 7)] at X11
  generalize e11 : T11.heap = h11 at hQ11
  obtain ⟨rfl, N11q, K11, Ex11, Fxline_11, Fxcolumn_11, FxafterCr_11⟩ := hQ11
  have N11 := Fr.app N9 N11q
  refine own_back (S' := T11.setTop (mkF m 44 #[.val (.int p1), .val (.int p2), .val (.int p3), .val (.int p4), .val (.ref b1), .unset, .unset, .unset, .unset, .unset] [(.ref b10)])) (fun _ k => st11.trans k) ?_
  have Z11 : n0 ≤ h11.size := Nat.le_trans Z10 K11.1
  have A_b1_11 := A_b1_10.keep K11 (ninS ne_b1_b10 nin0)
  refine own_back (S' := T11.setTop (mkF m 46 #[.val (.int p1), .val (.int p2), .val (.int p3), .val (.int p4), .val (.ref b1), .val (.ref b10), .unset, .unset, .unset, .unset] [])) (fun _ k => XS.astore X11.here hx rfl (hb hby at_44) rfl rfl (l' := #[.val (.int p1), .val (.int p2), .val (.int p3), .val (.int p4), .val (.ref b1), .val (.ref b10), .unset, .unset, .unset, .unset]) rfl k) ?_
  refine own_back (S' := T11.setTop (mkF m 48 #[.val (.int p1), .val (.int p2), .val (.int p3), .val (.int p4), .val (.ref b1), .val (.ref b10), .unset, .unset, .unset, .unset] [(.ref b10)])) (fun _ k => XS.aload X11.here hx rfl (hb hby at_46) rfl rfl k) ?_
  refine own_back (S' := T11.setTop (mkF m 50 #[.val (.int p1), .val (.int p2), .val (.int p3), .val (.int p4), .val (.ref b1), .val (.ref b10), .unset, .unset, .unset, .unset] [(.ref b1), (.ref b10)])) (fun _ k => XS.aload X11.here hx rfl (hb hby at_48) rfl rfl k) ?_
  refine own_back (S' := T11.setTop (mkF m 51 #[.val (.int p1), .val (.int p2), .val (.int p3), .val (.int p4), .val (.ref b1), .val (.ref b10), .unset, .unset, .unset, .unset] [(.int (0 : Int32)), (.ref b1), (.ref b10)])) (fun _ k => XS.iconst X11.here hx rfl (hb hby at_50)  k) ?_
  refine own_back (S' := T11.setTop (mkF m 52 #[.val (.int p1), .val (.int p2), .val (.int p3), .val (.int p4), .val (.ref b1), .val (.ref b10), .unset, .unset, .unset, .unset] [(.int c0), (.ref b10)])) (own_ldC X11 hx hZ e11 A_b1_11 (k := 0) (w := c0) (by decide) rfl (by decide) rfl (g := (mkF m 51 #[.val (.int p1), .val (.int p2), .val (.int p3), .val (.int p4), .val (.ref b1), .val (.ref b10), .unset, .unset, .unset, .unset] [(.int (0 : Int32)), (.ref b1), (.ref b10)])) rfl rfl (hb hby at_51)) ?_
  obtain ⟨cq12, kq12, q12a, q12b, q12c⟩ := isOf hZ e11 Ex11
  obtain ⟨_, _, ⟨T12, L12, k12, n12⟩, -, X12, ⟨Lc12, hQ12, l12, y12, z12⟩, st12⟩ := X11.virtualBack hx (y := (⟨"com/example/bindery/bindery/XmlPosition", "pass", "(C)V"⟩ : MethodName)) (z := (⟨"com/example/bindery/bindery/XmlPosition", "pass", "(C)V"⟩ : MethodName)) hown (mvT hZ (hw _ (List.mem_of_getElem? (i := 18) rfl))) (mvT hZ (hw _ (List.mem_of_getElem? (i := 19) rfl))) (notFace_of_selects (args := #[]) (mvT hZ (hw _ (List.mem_of_getElem? (i := 21) rfl)))) (mvT hZ (hw _ (List.mem_of_getElem? (i := 21) rfl))) (mvT hZ (hw _ (List.mem_of_getElem? (i := 20) rfl))) (by decide) (backOf (W := 0) (rm4 l Z a0 hw [] b10 c0 (1 : Int32) (1 : Int32) (0 : Int32) h11 n0 Z11 Ex11 g_b10 Fxline_11 Fxcolumn_11 FxafterCr_11) hZ (hw _ (List.mem_of_getElem? (i := 22) rfl)) (hw _ (List.mem_of_getElem? (i := 7) rfl)) (by decide) (by decide)) q12a q12c (g := (mkF m 52 #[.val (.int p1), .val (.int p2), .val (.int p3), .val (.int p4), .val (.ref b1), .val (.ref b10), .unset, .unset, .unset, .unset] [(.int c0), (.ref b10)])) rfl (by rw [hml]; rfl) (Steps.refl _) (argsL := [(.int c0)]) (rest := []) (lenOf pd_4 rfl) rfl (by show 2 * 0 + _ ≤ _; exact Nat.le_of_eq rfl) (hb hby at_52) (fun _ _ => ⟨rfl, e11, (by decide : 2 + 0 ≤ _), (by decide : 7 + 0 ≤ _)⟩)
  dsimp only [Pt.U, Pt.locs, Pt.cells, Pt.slots] at X12 l12 y12 z12 st12 hQ12
  rw [l12, (y12 : k12 = 2), (z12 : n12 = 7)] at X12
  generalize e12 : T12.heap = h12 at hQ12
  obtain ⟨rfl, N12q, K12, Ex12, Fxline_12, Fxcolumn_12, FxafterCr_12⟩ := hQ12
  have N12 := Fr.app N11 N12q
  refine own_back (S' := T12.setTop (mkF m 55 #[.val (.int p1), .val (.int p2), .val (.int p3), .val (.int p4), .val (.ref b1), .val (.ref b10), .unset, .unset, .unset, .unset] [])) (fun _ k => st12.trans k) ?_
  obtain ⟨ln1, hln1⟩ : ∃ z, z = (own_ln c0 (1 : Int32) (0 : Int32)) := ⟨_, rfl⟩
  rw [← hln1] at Fxline_12
  obtain ⟨cl1, hcl1⟩ : ∃ z, z = (own_cl c0 (1 : Int32) (0 : Int32)) := ⟨_, rfl⟩
  rw [← hcl1] at Fxcolumn_12
  obtain ⟨ac1, hac1⟩ : ∃ z, z = (own_ac c0) := ⟨_, rfl⟩
  rw [← hac1] at FxafterCr_12
  have Z12 : n0 ≤ h12.size := Nat.le_trans Z11 K12.1
  have A_b1_12 := A_b1_11.keep K12 (ninS ne_b1_b10 nin0)
  refine own_back (S' := T12.setTop (mkF m 57 #[.val (.int p1), .val (.int p2), .val (.int p3), .val (.int p4), .val (.ref b1), .val (.ref b10), .unset, .unset, .unset, .unset] [(.ref b10)])) (fun _ k => XS.aload X12.here hx rfl (hb hby at_55) rfl rfl k) ?_
  obtain ⟨cq13, kq13, q13a, q13b, q13c⟩ := isOf hZ e12 Ex12
  obtain ⟨_, _, ⟨T13, L13, k13, n13⟩, -, X13, ⟨Lc13, hQ13, l13, y13, z13⟩, st13⟩ := X12.virtualBack hx (y := (⟨"com/example/bindery/bindery/XmlPosition", "line", "()I"⟩ : MethodName)) (z := (⟨"com/example/bindery/bindery/XmlPosition", "line", "()I"⟩ : MethodName)) hown (mvT hZ (hw _ (List.mem_of_getElem? (i := 25) rfl))) (mvT hZ (hw _ (List.mem_of_getElem? (i := 26) rfl))) (notFace_of_selects (args := #[]) (mvT hZ (hw _ (List.mem_of_getElem? (i := 28) rfl)))) (mvT hZ (hw _ (List.mem_of_getElem? (i := 28) rfl))) (mvT hZ (hw _ (List.mem_of_getElem? (i := 27) rfl))) (by decide) (backOf (W := 0) (rm5 l Z a0 hw [] b10 ln1 h12 n0 Z12 Fxline_12) hZ (hw _ (List.mem_of_getElem? (i := 29) rfl)) (hw _ (List.mem_of_getElem? (i := 7) rfl)) (by decide) (by decide)) q13a q13c (g := (mkF m 57 #[.val (.int p1), .val (.int p2), .val (.int p3), .val (.int p4), .val (.ref b1), .val (.ref b10), .unset, .unset, .unset, .unset] [(.ref b10)])) rfl (by rw [hml]; rfl) (Steps.refl _) (argsL := []) (rest := []) (lenOf pd_5 rfl) rfl (by show 2 * 0 + _ ≤ _; exact Nat.le_of_eq rfl) (hb hby at_57) (fun _ _ => ⟨rfl, e12, (by decide : 2 + 0 ≤ _), (by decide : 7 + 0 ≤ _)⟩)
  dsimp only [Pt.U, Pt.locs, Pt.cells, Pt.slots] at X13 l13 y13 z13 st13 hQ13
  rw [l13, (y13 : k13 = 2), (z13 : n13 = 7)] at X13
  obtain ⟨rfl, N13q, e13⟩ := hQ13
  have N13 := Fr.app N12 N13q
  refine own_back (S' := T13.setTop (mkF m 60 #[.val (.int p1), .val (.int p2), .val (.int p3), .val (.int p4), .val (.ref b1), .val (.ref b10), .unset, .unset, .unset, .unset] [(.int ln1)])) (fun _ k => st13.trans k) ?_
  refine own_back (S' := T13.setTop (mkF m 62 #[.val (.int p1), .val (.int p2), .val (.int p3), .val (.int p4), .val (.ref b1), .val (.ref b10), .unset, .unset, .unset, .unset] [(.ref b1), (.int ln1)])) (fun _ k => XS.aload X13.here hx rfl (hb hby at_60) rfl rfl k) ?_
  refine own_back (S' := T13.setTop (mkF m 63 #[.val (.int p1), .val (.int p2), .val (.int p3), .val (.int p4), .val (.ref b1), .val (.ref b10), .unset, .unset, .unset, .unset] [(.int (1 : Int32)), (.ref b1), (.int ln1)])) (fun _ k => XS.iconst X13.here hx rfl (hb hby at_62)  k) ?_
  obtain ⟨_, _, ⟨T14, L14, k14, n14⟩, -, X14, ⟨Lc14, hQ14, l14, y14, z14⟩, st14⟩ := Jvm.LawKit.callS X13 hx (y := (⟨"com/example/bindery/bindery/XmlPositionPassPinLaw", "line", "([CI)I"⟩ : MethodName)) hown (mvT hZ (hw _ (List.mem_of_getElem? (i := 30) rfl))) (mvT hZ (hw _ (List.mem_of_getElem? (i := 31) rfl))) (mvT hZ (hw _ (List.mem_of_getElem? (i := 3) rfl))) (mvT hZ (hw _ (List.mem_of_getElem? (i := 32) rfl))) (by decide) (backOf (W := 1) (rm6 l Z a0 hw [] b1 (1 : Int32) c0 c1 c2 c3 h12 n0 Z12 A_b1_12) hZ (hw _ (List.mem_of_getElem? (i := 32) rfl)) (hw _ (List.mem_of_getElem? (i := 3) rfl)) (by decide) (by decide)) (g := (mkF m 63 #[.val (.int p1), .val (.int p2), .val (.int p3), .val (.int p4), .val (.ref b1), .val (.ref b10), .unset, .unset, .unset, .unset] [(.int (1 : Int32)), (.ref b1), (.int ln1)])) rfl (by rw [hml]; rfl) (argsL := [(.ref b1), (.int (1 : Int32))]) (rest := [(.int ln1)]) (lenOf pd_6 rfl) rfl (by show 2 * 0 + _ ≤ _; exact Nat.le_of_eq rfl) (hb hby at_63) (fun _ _ => ⟨rfl, e13, (by decide : 2 + 0 ≤ _), (by decide : 7 + 0 ≤ _)⟩)
  dsimp only [Pt.U, Pt.locs, Pt.cells, Pt.slots] at X14 l14 y14 z14 st14 hQ14
  rw [l14, (y14 : k14 = 2), (z14 : n14 = 7)] at X14
  obtain ⟨rfl, N14q, e14⟩ := hQ14
  have N14 := Fr.app N13 N14q
  refine own_back (S' := T14.setTop (mkF m 66 #[.val (.int p1), .val (.int p2), .val (.int p3), .val (.int p4), .val (.ref b1), .val (.ref b10), .unset, .unset, .unset, .unset] [(.int (own_line (1 : Int32) c0 c1 c2 c3)), (.int ln1)])) (st14) ?_
  refine own_back (S' := T14.setTop (mkF m 69 #[.val (.int p1), .val (.int p2), .val (.int p3), .val (.int p4), .val (.ref b1), .val (.ref b10), .unset, .unset, .unset, .unset] [])) (fun _ k => XS.icmpNo X14.here hx rfl (hb hby at_66) rfl (teq (by rw [hln1]; exact own_line1 c0 c1 c2 c3 : ln1 = (own_line (1 : Int32) c0 c1 c2 c3))).2 k) ?_
  refine own_back (S' := T14.setTop (mkF m 71 #[.val (.int p1), .val (.int p2), .val (.int p3), .val (.int p4), .val (.ref b1), .val (.ref b10), .unset, .unset, .unset, .unset] [(.ref b10)])) (fun _ k => XS.aload X14.here hx rfl (hb hby at_69) rfl rfl k) ?_
  obtain ⟨cq15, kq15, q15a, q15b, q15c⟩ := isOf hZ e14 Ex12
  obtain ⟨_, _, ⟨T15, L15, k15, n15⟩, -, X15, ⟨Lc15, hQ15, l15, y15, z15⟩, st15⟩ := X14.virtualBack hx (y := (⟨"com/example/bindery/bindery/XmlPosition", "column", "()I"⟩ : MethodName)) (z := (⟨"com/example/bindery/bindery/XmlPosition", "column", "()I"⟩ : MethodName)) hown (mvT hZ (hw _ (List.mem_of_getElem? (i := 36) rfl))) (mvT hZ (hw _ (List.mem_of_getElem? (i := 37) rfl))) (notFace_of_selects (args := #[]) (mvT hZ (hw _ (List.mem_of_getElem? (i := 39) rfl)))) (mvT hZ (hw _ (List.mem_of_getElem? (i := 39) rfl))) (mvT hZ (hw _ (List.mem_of_getElem? (i := 38) rfl))) (by decide) (backOf (W := 0) (rm8 l Z a0 hw [] b10 cl1 h12 n0 Z12 Fxcolumn_12) hZ (hw _ (List.mem_of_getElem? (i := 40) rfl)) (hw _ (List.mem_of_getElem? (i := 7) rfl)) (by decide) (by decide)) q15a q15c (g := (mkF m 71 #[.val (.int p1), .val (.int p2), .val (.int p3), .val (.int p4), .val (.ref b1), .val (.ref b10), .unset, .unset, .unset, .unset] [(.ref b10)])) rfl (by rw [hml]; rfl) (Steps.refl _) (argsL := []) (rest := []) (lenOf pd_5 rfl) rfl (by show 2 * 0 + _ ≤ _; exact Nat.le_of_eq rfl) (hb hby at_71) (fun _ _ => ⟨rfl, e14, (by decide : 2 + 0 ≤ _), (by decide : 7 + 0 ≤ _)⟩)
  dsimp only [Pt.U, Pt.locs, Pt.cells, Pt.slots] at X15 l15 y15 z15 st15 hQ15
  rw [l15, (y15 : k15 = 2), (z15 : n15 = 7)] at X15
  obtain ⟨rfl, N15q, e15⟩ := hQ15
  have N15 := Fr.app N14 N15q
  refine own_back (S' := T15.setTop (mkF m 74 #[.val (.int p1), .val (.int p2), .val (.int p3), .val (.int p4), .val (.ref b1), .val (.ref b10), .unset, .unset, .unset, .unset] [(.int cl1)])) (fun _ k => st15.trans k) ?_
  refine own_back (S' := T15.setTop (mkF m 76 #[.val (.int p1), .val (.int p2), .val (.int p3), .val (.int p4), .val (.ref b1), .val (.ref b10), .unset, .unset, .unset, .unset] [(.ref b1), (.int cl1)])) (fun _ k => XS.aload X15.here hx rfl (hb hby at_74) rfl rfl k) ?_
  refine own_back (S' := T15.setTop (mkF m 77 #[.val (.int p1), .val (.int p2), .val (.int p3), .val (.int p4), .val (.ref b1), .val (.ref b10), .unset, .unset, .unset, .unset] [(.int (1 : Int32)), (.ref b1), (.int cl1)])) (fun _ k => XS.iconst X15.here hx rfl (hb hby at_76)  k) ?_
  obtain ⟨_, _, ⟨T16, L16, k16, n16⟩, -, X16, ⟨Lc16, hQ16, l16, y16, z16⟩, st16⟩ := Jvm.LawKit.callS X15 hx (y := (⟨"com/example/bindery/bindery/XmlPositionPassPinLaw", "col", "([CI)I"⟩ : MethodName)) hown (mvT hZ (hw _ (List.mem_of_getElem? (i := 41) rfl))) (mvT hZ (hw _ (List.mem_of_getElem? (i := 42) rfl))) (mvT hZ (hw _ (List.mem_of_getElem? (i := 3) rfl))) (mvT hZ (hw _ (List.mem_of_getElem? (i := 43) rfl))) (by decide) (backOf (W := 1) (rm9_1 l Z a0 hw [] b1 c0 c1 c2 c3 h12 n0 Z12 A_b1_12) hZ (hw _ (List.mem_of_getElem? (i := 43) rfl)) (hw _ (List.mem_of_getElem? (i := 3) rfl)) (by decide) (by decide)) (g := (mkF m 77 #[.val (.int p1), .val (.int p2), .val (.int p3), .val (.int p4), .val (.ref b1), .val (.ref b10), .unset, .unset, .unset, .unset] [(.int (1 : Int32)), (.ref b1), (.int cl1)])) rfl (by rw [hml]; rfl) (argsL := [(.ref b1), (.int (1 : Int32))]) (rest := [(.int cl1)]) (lenOf pd_6 rfl) rfl (by show 2 * 0 + _ ≤ _; exact Nat.le_of_eq rfl) (hb hby at_77) (fun _ _ => ⟨rfl, e15, (by decide : 2 + 0 ≤ _), (by decide : 7 + 0 ≤ _)⟩)
  dsimp only [Pt.U, Pt.locs, Pt.cells, Pt.slots] at X16 l16 y16 z16 st16 hQ16
  rw [l16, (y16 : k16 = 2), (z16 : n16 = 7)] at X16
  obtain ⟨rfl, N16q, e16⟩ := hQ16
  have N16 := Fr.app N15 N16q
  refine own_back (S' := T16.setTop (mkF m 80 #[.val (.int p1), .val (.int p2), .val (.int p3), .val (.int p4), .val (.ref b1), .val (.ref b10), .unset, .unset, .unset, .unset] [(.int ((1 : Int32) - own_l1 c0)), (.int cl1)])) (st16) ?_
  refine own_back (S' := T16.setTop (mkF m 83 #[.val (.int p1), .val (.int p2), .val (.int p3), .val (.int p4), .val (.ref b1), .val (.ref b10), .unset, .unset, .unset, .unset] [])) (fun _ k => XS.icmpNo X16.here hx rfl (hb hby at_80) rfl (teq (by rw [hcl1]; exact own_col1 c0 : cl1 = ((1 : Int32) - own_l1 c0))).2 k) ?_
  refine own_back (S' := T16.setTop (mkF m 84 #[.val (.int p1), .val (.int p2), .val (.int p3), .val (.int p4), .val (.ref b1), .val (.ref b10), .unset, .unset, .unset, .unset] [(.int (1 : Int32))])) (fun _ k => XS.iconst X16.here hx rfl (hb hby at_83)  k) ?_
  refine own_back (S' := T16.setTop (mkF m 88 #[.val (.int p1), .val (.int p2), .val (.int p3), .val (.int p4), .val (.ref b1), .val (.ref b10), .unset, .unset, .unset, .unset] [(.int (1 : Int32))])) (fun _ k => XS.goto X16.here hx rfl (pc0 := 84) (pc' := 88) rfl (hb hby at_84) (by decide) (by decide) k) ?_
  refine own_back (S' := T16.setTop (mkF m 90 #[.val (.int p1), .val (.int p2), .val (.int p3), .val (.int p4), .val (.ref b1), .val (.ref b10), .val (.int (1 : Int32)), .unset, .unset, .unset] [])) (fun _ k => XS.istore X16.here hx rfl (hb hby at_88) rfl (l' := #[.val (.int p1), .val (.int p2), .val (.int p3), .val (.int p4), .val (.ref b1), .val (.ref b10), .val (.int (1 : Int32)), .unset, .unset, .unset]) rfl k) ?_
  refine own_back (S' := T16.setTop (mkF m 92 #[.val (.int p1), .val (.int p2), .val (.int p3), .val (.int p4), .val (.ref b1), .val (.ref b10), .val (.int (1 : Int32)), .unset, .unset, .unset] [(.ref b10)])) (fun _ k => XS.aload X16.here hx rfl (hb hby at_90) rfl rfl k) ?_
  refine own_back (S' := T16.setTop (mkF m 94 #[.val (.int p1), .val (.int p2), .val (.int p3), .val (.int p4), .val (.ref b1), .val (.ref b10), .val (.int (1 : Int32)), .unset, .unset, .unset] [(.ref b1), (.ref b10)])) (fun _ k => XS.aload X16.here hx rfl (hb hby at_92) rfl rfl k) ?_
  refine own_back (S' := T16.setTop (mkF m 95 #[.val (.int p1), .val (.int p2), .val (.int p3), .val (.int p4), .val (.ref b1), .val (.ref b10), .val (.int (1 : Int32)), .unset, .unset, .unset] [(.int (1 : Int32)), (.ref b1), (.ref b10)])) (fun _ k => XS.iconst X16.here hx rfl (hb hby at_94)  k) ?_
  refine own_back (S' := T16.setTop (mkF m 96 #[.val (.int p1), .val (.int p2), .val (.int p3), .val (.int p4), .val (.ref b1), .val (.ref b10), .val (.int (1 : Int32)), .unset, .unset, .unset] [(.int c1), (.ref b10)])) (own_ldC X16 hx hZ e16 A_b1_12 (k := 1) (w := c1) (by decide) rfl (by decide) rfl (g := (mkF m 95 #[.val (.int p1), .val (.int p2), .val (.int p3), .val (.int p4), .val (.ref b1), .val (.ref b10), .val (.int (1 : Int32)), .unset, .unset, .unset] [(.int (1 : Int32)), (.ref b1), (.ref b10)])) rfl rfl (hb hby at_95)) ?_
  obtain ⟨cq17, kq17, q17a, q17b, q17c⟩ := isOf hZ e16 Ex12
  obtain ⟨_, _, ⟨T17, L17, k17, n17⟩, -, X17, ⟨Lc17, hQ17, l17, y17, z17⟩, st17⟩ := X16.virtualBack hx (y := (⟨"com/example/bindery/bindery/XmlPosition", "pass", "(C)V"⟩ : MethodName)) (z := (⟨"com/example/bindery/bindery/XmlPosition", "pass", "(C)V"⟩ : MethodName)) hown (mvT hZ (hw _ (List.mem_of_getElem? (i := 18) rfl))) (mvT hZ (hw _ (List.mem_of_getElem? (i := 19) rfl))) (notFace_of_selects (args := #[]) (mvT hZ (hw _ (List.mem_of_getElem? (i := 21) rfl)))) (mvT hZ (hw _ (List.mem_of_getElem? (i := 21) rfl))) (mvT hZ (hw _ (List.mem_of_getElem? (i := 20) rfl))) (by decide) (backOf (W := 0) (rm4 l Z a0 hw [] b10 c1 ln1 cl1 ac1 h12 n0 Z12 Ex12 g_b10 Fxline_12 Fxcolumn_12 FxafterCr_12) hZ (hw _ (List.mem_of_getElem? (i := 22) rfl)) (hw _ (List.mem_of_getElem? (i := 7) rfl)) (by decide) (by decide)) q17a q17c (g := (mkF m 96 #[.val (.int p1), .val (.int p2), .val (.int p3), .val (.int p4), .val (.ref b1), .val (.ref b10), .val (.int (1 : Int32)), .unset, .unset, .unset] [(.int c1), (.ref b10)])) rfl (by rw [hml]; rfl) (Steps.refl _) (argsL := [(.int c1)]) (rest := []) (lenOf pd_4 rfl) rfl (by show 2 * 0 + _ ≤ _; exact Nat.le_of_eq rfl) (hb hby at_96) (fun _ _ => ⟨rfl, e16, (by decide : 2 + 0 ≤ _), (by decide : 7 + 0 ≤ _)⟩)
  dsimp only [Pt.U, Pt.locs, Pt.cells, Pt.slots] at X17 l17 y17 z17 st17 hQ17
  rw [l17, (y17 : k17 = 2), (z17 : n17 = 7)] at X17
  generalize e17 : T17.heap = h17 at hQ17
  obtain ⟨rfl, N17q, K17, Ex17, Fxline_17, Fxcolumn_17, FxafterCr_17⟩ := hQ17
  have N17 := Fr.app N16 N17q
  refine own_back (S' := T17.setTop (mkF m 99 #[.val (.int p1), .val (.int p2), .val (.int p3), .val (.int p4), .val (.ref b1), .val (.ref b10), .val (.int (1 : Int32)), .unset, .unset, .unset] [])) (fun _ k => st17.trans k) ?_
  obtain ⟨ln2, hln2⟩ : ∃ z, z = (own_ln c1 ln1 ac1) := ⟨_, rfl⟩
  rw [← hln2] at Fxline_17
  obtain ⟨cl2, hcl2⟩ : ∃ z, z = (own_cl c1 cl1 ac1) := ⟨_, rfl⟩
  rw [← hcl2] at Fxcolumn_17
  obtain ⟨ac2, hac2⟩ : ∃ z, z = (own_ac c1) := ⟨_, rfl⟩
  rw [← hac2] at FxafterCr_17
  have Z17 : n0 ≤ h17.size := Nat.le_trans Z12 K17.1
  have A_b1_17 := A_b1_12.keep K17 (ninS ne_b1_b10 nin0)
  refine own_back (S' := T17.setTop (mkF m 101 #[.val (.int p1), .val (.int p2), .val (.int p3), .val (.int p4), .val (.ref b1), .val (.ref b10), .val (.int (1 : Int32)), .unset, .unset, .unset] [(.ref b10)])) (fun _ k => XS.aload X17.here hx rfl (hb hby at_99) rfl rfl k) ?_
  obtain ⟨cq18, kq18, q18a, q18b, q18c⟩ := isOf hZ e17 Ex17
  obtain ⟨_, _, ⟨T18, L18, k18, n18⟩, -, X18, ⟨Lc18, hQ18, l18, y18, z18⟩, st18⟩ := X17.virtualBack hx (y := (⟨"com/example/bindery/bindery/XmlPosition", "line", "()I"⟩ : MethodName)) (z := (⟨"com/example/bindery/bindery/XmlPosition", "line", "()I"⟩ : MethodName)) hown (mvT hZ (hw _ (List.mem_of_getElem? (i := 25) rfl))) (mvT hZ (hw _ (List.mem_of_getElem? (i := 26) rfl))) (notFace_of_selects (args := #[]) (mvT hZ (hw _ (List.mem_of_getElem? (i := 28) rfl)))) (mvT hZ (hw _ (List.mem_of_getElem? (i := 28) rfl))) (mvT hZ (hw _ (List.mem_of_getElem? (i := 27) rfl))) (by decide) (backOf (W := 0) (rm5 l Z a0 hw [] b10 ln2 h17 n0 Z17 Fxline_17) hZ (hw _ (List.mem_of_getElem? (i := 29) rfl)) (hw _ (List.mem_of_getElem? (i := 7) rfl)) (by decide) (by decide)) q18a q18c (g := (mkF m 101 #[.val (.int p1), .val (.int p2), .val (.int p3), .val (.int p4), .val (.ref b1), .val (.ref b10), .val (.int (1 : Int32)), .unset, .unset, .unset] [(.ref b10)])) rfl (by rw [hml]; rfl) (Steps.refl _) (argsL := []) (rest := []) (lenOf pd_5 rfl) rfl (by show 2 * 0 + _ ≤ _; exact Nat.le_of_eq rfl) (hb hby at_101) (fun _ _ => ⟨rfl, e17, (by decide : 2 + 0 ≤ _), (by decide : 7 + 0 ≤ _)⟩)
  dsimp only [Pt.U, Pt.locs, Pt.cells, Pt.slots] at X18 l18 y18 z18 st18 hQ18
  rw [l18, (y18 : k18 = 2), (z18 : n18 = 7)] at X18
  obtain ⟨rfl, N18q, e18⟩ := hQ18
  have N18 := Fr.app N17 N18q
  refine own_back (S' := T18.setTop (mkF m 104 #[.val (.int p1), .val (.int p2), .val (.int p3), .val (.int p4), .val (.ref b1), .val (.ref b10), .val (.int (1 : Int32)), .unset, .unset, .unset] [(.int ln2)])) (fun _ k => st18.trans k) ?_
  refine own_back (S' := T18.setTop (mkF m 106 #[.val (.int p1), .val (.int p2), .val (.int p3), .val (.int p4), .val (.ref b1), .val (.ref b10), .val (.int (1 : Int32)), .unset, .unset, .unset] [(.ref b1), (.int ln2)])) (fun _ k => XS.aload X18.here hx rfl (hb hby at_104) rfl rfl k) ?_
  refine own_back (S' := T18.setTop (mkF m 107 #[.val (.int p1), .val (.int p2), .val (.int p3), .val (.int p4), .val (.ref b1), .val (.ref b10), .val (.int (1 : Int32)), .unset, .unset, .unset] [(.int (2 : Int32)), (.ref b1), (.int ln2)])) (fun _ k => XS.iconst X18.here hx rfl (hb hby at_106)  k) ?_
  obtain ⟨_, _, ⟨T19, L19, k19, n19⟩, -, X19, ⟨Lc19, hQ19, l19, y19, z19⟩, st19⟩ := Jvm.LawKit.callS X18 hx (y := (⟨"com/example/bindery/bindery/XmlPositionPassPinLaw", "line", "([CI)I"⟩ : MethodName)) hown (mvT hZ (hw _ (List.mem_of_getElem? (i := 30) rfl))) (mvT hZ (hw _ (List.mem_of_getElem? (i := 31) rfl))) (mvT hZ (hw _ (List.mem_of_getElem? (i := 3) rfl))) (mvT hZ (hw _ (List.mem_of_getElem? (i := 32) rfl))) (by decide) (backOf (W := 1) (rm6 l Z a0 hw [] b1 (2 : Int32) c0 c1 c2 c3 h17 n0 Z17 A_b1_17) hZ (hw _ (List.mem_of_getElem? (i := 32) rfl)) (hw _ (List.mem_of_getElem? (i := 3) rfl)) (by decide) (by decide)) (g := (mkF m 107 #[.val (.int p1), .val (.int p2), .val (.int p3), .val (.int p4), .val (.ref b1), .val (.ref b10), .val (.int (1 : Int32)), .unset, .unset, .unset] [(.int (2 : Int32)), (.ref b1), (.int ln2)])) rfl (by rw [hml]; rfl) (argsL := [(.ref b1), (.int (2 : Int32))]) (rest := [(.int ln2)]) (lenOf pd_6 rfl) rfl (by show 2 * 0 + _ ≤ _; exact Nat.le_of_eq rfl) (hb hby at_107) (fun _ _ => ⟨rfl, e18, (by decide : 2 + 0 ≤ _), (by decide : 7 + 0 ≤ _)⟩)
  dsimp only [Pt.U, Pt.locs, Pt.cells, Pt.slots] at X19 l19 y19 z19 st19 hQ19
  rw [l19, (y19 : k19 = 2), (z19 : n19 = 7)] at X19
  obtain ⟨rfl, N19q, e19⟩ := hQ19
  have N19 := Fr.app N18 N19q
  refine own_back (S' := T19.setTop (mkF m 110 #[.val (.int p1), .val (.int p2), .val (.int p3), .val (.int p4), .val (.ref b1), .val (.ref b10), .val (.int (1 : Int32)), .unset, .unset, .unset] [(.int (own_line (2 : Int32) c0 c1 c2 c3)), (.int ln2)])) (st19) ?_
  refine own_back (S' := T19.setTop (mkF m 113 #[.val (.int p1), .val (.int p2), .val (.int p3), .val (.int p4), .val (.ref b1), .val (.ref b10), .val (.int (1 : Int32)), .unset, .unset, .unset] [])) (fun _ k => XS.icmpNo X19.here hx rfl (hb hby at_110) rfl (teq (by rw [hln2, hln1, hac1]; exact own_line2 c0 c1 c2 c3 : ln2 = (own_line (2 : Int32) c0 c1 c2 c3))).2 k) ?_
  refine own_back (S' := T19.setTop (mkF m 115 #[.val (.int p1), .val (.int p2), .val (.int p3), .val (.int p4), .val (.ref b1), .val (.ref b10), .val (.int (1 : Int32)), .unset, .unset, .unset] [(.ref b10)])) (fun _ k => XS.aload X19.here hx rfl (hb hby at_113) rfl rfl k) ?_
  obtain ⟨cq20, kq20, q20a, q20b, q20c⟩ := isOf hZ e19 Ex17
  obtain ⟨_, _, ⟨T20, L20, k20, n20⟩, -, X20, ⟨Lc20, hQ20, l20, y20, z20⟩, st20⟩ := X19.virtualBack hx (y := (⟨"com/example/bindery/bindery/XmlPosition", "column", "()I"⟩ : MethodName)) (z := (⟨"com/example/bindery/bindery/XmlPosition", "column", "()I"⟩ : MethodName)) hown (mvT hZ (hw _ (List.mem_of_getElem? (i := 36) rfl))) (mvT hZ (hw _ (List.mem_of_getElem? (i := 37) rfl))) (notFace_of_selects (args := #[]) (mvT hZ (hw _ (List.mem_of_getElem? (i := 39) rfl)))) (mvT hZ (hw _ (List.mem_of_getElem? (i := 39) rfl))) (mvT hZ (hw _ (List.mem_of_getElem? (i := 38) rfl))) (by decide) (backOf (W := 0) (rm8 l Z a0 hw [] b10 cl2 h17 n0 Z17 Fxcolumn_17) hZ (hw _ (List.mem_of_getElem? (i := 40) rfl)) (hw _ (List.mem_of_getElem? (i := 7) rfl)) (by decide) (by decide)) q20a q20c (g := (mkF m 115 #[.val (.int p1), .val (.int p2), .val (.int p3), .val (.int p4), .val (.ref b1), .val (.ref b10), .val (.int (1 : Int32)), .unset, .unset, .unset] [(.ref b10)])) rfl (by rw [hml]; rfl) (Steps.refl _) (argsL := []) (rest := []) (lenOf pd_5 rfl) rfl (by show 2 * 0 + _ ≤ _; exact Nat.le_of_eq rfl) (hb hby at_115) (fun _ _ => ⟨rfl, e19, (by decide : 2 + 0 ≤ _), (by decide : 7 + 0 ≤ _)⟩)
  dsimp only [Pt.U, Pt.locs, Pt.cells, Pt.slots] at X20 l20 y20 z20 st20 hQ20
  rw [l20, (y20 : k20 = 2), (z20 : n20 = 7)] at X20
  obtain ⟨rfl, N20q, e20⟩ := hQ20
  have N20 := Fr.app N19 N20q
  refine own_back (S' := T20.setTop (mkF m 118 #[.val (.int p1), .val (.int p2), .val (.int p3), .val (.int p4), .val (.ref b1), .val (.ref b10), .val (.int (1 : Int32)), .unset, .unset, .unset] [(.int cl2)])) (fun _ k => st20.trans k) ?_
  refine own_back (S' := T20.setTop (mkF m 120 #[.val (.int p1), .val (.int p2), .val (.int p3), .val (.int p4), .val (.ref b1), .val (.ref b10), .val (.int (1 : Int32)), .unset, .unset, .unset] [(.ref b1), (.int cl2)])) (fun _ k => XS.aload X20.here hx rfl (hb hby at_118) rfl rfl k) ?_
  refine own_back (S' := T20.setTop (mkF m 121 #[.val (.int p1), .val (.int p2), .val (.int p3), .val (.int p4), .val (.ref b1), .val (.ref b10), .val (.int (1 : Int32)), .unset, .unset, .unset] [(.int (2 : Int32)), (.ref b1), (.int cl2)])) (fun _ k => XS.iconst X20.here hx rfl (hb hby at_120)  k) ?_
  obtain ⟨_, _, ⟨T21, L21, k21, n21⟩, -, X21, ⟨Lc21, hQ21, l21, y21, z21⟩, st21⟩ := Jvm.LawKit.callS X20 hx (y := (⟨"com/example/bindery/bindery/XmlPositionPassPinLaw", "col", "([CI)I"⟩ : MethodName)) hown (mvT hZ (hw _ (List.mem_of_getElem? (i := 41) rfl))) (mvT hZ (hw _ (List.mem_of_getElem? (i := 42) rfl))) (mvT hZ (hw _ (List.mem_of_getElem? (i := 3) rfl))) (mvT hZ (hw _ (List.mem_of_getElem? (i := 43) rfl))) (by decide) (backOf (W := 1) (rm9_2 l Z a0 hw [] b1 c0 c1 c2 c3 h17 n0 Z17 A_b1_17) hZ (hw _ (List.mem_of_getElem? (i := 43) rfl)) (hw _ (List.mem_of_getElem? (i := 3) rfl)) (by decide) (by decide)) (g := (mkF m 121 #[.val (.int p1), .val (.int p2), .val (.int p3), .val (.int p4), .val (.ref b1), .val (.ref b10), .val (.int (1 : Int32)), .unset, .unset, .unset] [(.int (2 : Int32)), (.ref b1), (.int cl2)])) rfl (by rw [hml]; rfl) (argsL := [(.ref b1), (.int (2 : Int32))]) (rest := [(.int cl2)]) (lenOf pd_6 rfl) rfl (by show 2 * 0 + _ ≤ _; exact Nat.le_of_eq rfl) (hb hby at_121) (fun _ _ => ⟨rfl, e20, (by decide : 2 + 0 ≤ _), (by decide : 7 + 0 ≤ _)⟩)
  dsimp only [Pt.U, Pt.locs, Pt.cells, Pt.slots] at X21 l21 y21 z21 st21 hQ21
  rw [l21, (y21 : k21 = 2), (z21 : n21 = 7)] at X21
  obtain ⟨rfl, N21q, e21⟩ := hQ21
  have N21 := Fr.app N20 N21q
  refine own_back (S' := T21.setTop (mkF m 124 #[.val (.int p1), .val (.int p2), .val (.int p3), .val (.int p4), .val (.ref b1), .val (.ref b10), .val (.int (1 : Int32)), .unset, .unset, .unset] [(.int ((2 : Int32) - own_l2 c0 c1)), (.int cl2)])) (st21) ?_
  refine own_back (S' := T21.setTop (mkF m 127 #[.val (.int p1), .val (.int p2), .val (.int p3), .val (.int p4), .val (.ref b1), .val (.ref b10), .val (.int (1 : Int32)), .unset, .unset, .unset] [])) (fun _ k => XS.icmpNo X21.here hx rfl (hb hby at_124) rfl (teq (by rw [hcl2, hcl1, hac1]; exact own_col2 c0 c1 : cl2 = ((2 : Int32) - own_l2 c0 c1))).2 k) ?_
  refine own_back (S' := T21.setTop (mkF m 128 #[.val (.int p1), .val (.int p2), .val (.int p3), .val (.int p4), .val (.ref b1), .val (.ref b10), .val (.int (1 : Int32)), .unset, .unset, .unset] [(.int (1 : Int32))])) (fun _ k => XS.iconst X21.here hx rfl (hb hby at_127)  k) ?_
  refine own_back (S' := T21.setTop (mkF m 132 #[.val (.int p1), .val (.int p2), .val (.int p3), .val (.int p4), .val (.ref b1), .val (.ref b10), .val (.int (1 : Int32)), .unset, .unset, .unset] [(.int (1 : Int32))])) (fun _ k => XS.goto X21.here hx rfl (pc0 := 128) (pc' := 132) rfl (hb hby at_128) (by decide) (by decide) k) ?_
  refine own_back (S' := T21.setTop (mkF m 134 #[.val (.int p1), .val (.int p2), .val (.int p3), .val (.int p4), .val (.ref b1), .val (.ref b10), .val (.int (1 : Int32)), .val (.int (1 : Int32)), .unset, .unset] [])) (fun _ k => XS.istore X21.here hx rfl (hb hby at_132) rfl (l' := #[.val (.int p1), .val (.int p2), .val (.int p3), .val (.int p4), .val (.ref b1), .val (.ref b10), .val (.int (1 : Int32)), .val (.int (1 : Int32)), .unset, .unset]) rfl k) ?_
  refine own_back (S' := T21.setTop (mkF m 136 #[.val (.int p1), .val (.int p2), .val (.int p3), .val (.int p4), .val (.ref b1), .val (.ref b10), .val (.int (1 : Int32)), .val (.int (1 : Int32)), .unset, .unset] [(.ref b10)])) (fun _ k => XS.aload X21.here hx rfl (hb hby at_134) rfl rfl k) ?_
  refine own_back (S' := T21.setTop (mkF m 138 #[.val (.int p1), .val (.int p2), .val (.int p3), .val (.int p4), .val (.ref b1), .val (.ref b10), .val (.int (1 : Int32)), .val (.int (1 : Int32)), .unset, .unset] [(.ref b1), (.ref b10)])) (fun _ k => XS.aload X21.here hx rfl (hb hby at_136) rfl rfl k) ?_
  refine own_back (S' := T21.setTop (mkF m 139 #[.val (.int p1), .val (.int p2), .val (.int p3), .val (.int p4), .val (.ref b1), .val (.ref b10), .val (.int (1 : Int32)), .val (.int (1 : Int32)), .unset, .unset] [(.int (2 : Int32)), (.ref b1), (.ref b10)])) (fun _ k => XS.iconst X21.here hx rfl (hb hby at_138)  k) ?_
  refine own_back (S' := T21.setTop (mkF m 140 #[.val (.int p1), .val (.int p2), .val (.int p3), .val (.int p4), .val (.ref b1), .val (.ref b10), .val (.int (1 : Int32)), .val (.int (1 : Int32)), .unset, .unset] [(.int c2), (.ref b10)])) (own_ldC X21 hx hZ e21 A_b1_17 (k := 2) (w := c2) (by decide) rfl (by decide) rfl (g := (mkF m 139 #[.val (.int p1), .val (.int p2), .val (.int p3), .val (.int p4), .val (.ref b1), .val (.ref b10), .val (.int (1 : Int32)), .val (.int (1 : Int32)), .unset, .unset] [(.int (2 : Int32)), (.ref b1), (.ref b10)])) rfl rfl (hb hby at_139)) ?_
  obtain ⟨cq22, kq22, q22a, q22b, q22c⟩ := isOf hZ e21 Ex17
  obtain ⟨_, _, ⟨T22, L22, k22, n22⟩, -, X22, ⟨Lc22, hQ22, l22, y22, z22⟩, st22⟩ := X21.virtualBack hx (y := (⟨"com/example/bindery/bindery/XmlPosition", "pass", "(C)V"⟩ : MethodName)) (z := (⟨"com/example/bindery/bindery/XmlPosition", "pass", "(C)V"⟩ : MethodName)) hown (mvT hZ (hw _ (List.mem_of_getElem? (i := 18) rfl))) (mvT hZ (hw _ (List.mem_of_getElem? (i := 19) rfl))) (notFace_of_selects (args := #[]) (mvT hZ (hw _ (List.mem_of_getElem? (i := 21) rfl)))) (mvT hZ (hw _ (List.mem_of_getElem? (i := 21) rfl))) (mvT hZ (hw _ (List.mem_of_getElem? (i := 20) rfl))) (by decide) (backOf (W := 0) (rm4 l Z a0 hw [] b10 c2 ln2 cl2 ac2 h17 n0 Z17 Ex17 g_b10 Fxline_17 Fxcolumn_17 FxafterCr_17) hZ (hw _ (List.mem_of_getElem? (i := 22) rfl)) (hw _ (List.mem_of_getElem? (i := 7) rfl)) (by decide) (by decide)) q22a q22c (g := (mkF m 140 #[.val (.int p1), .val (.int p2), .val (.int p3), .val (.int p4), .val (.ref b1), .val (.ref b10), .val (.int (1 : Int32)), .val (.int (1 : Int32)), .unset, .unset] [(.int c2), (.ref b10)])) rfl (by rw [hml]; rfl) (Steps.refl _) (argsL := [(.int c2)]) (rest := []) (lenOf pd_4 rfl) rfl (by show 2 * 0 + _ ≤ _; exact Nat.le_of_eq rfl) (hb hby at_140) (fun _ _ => ⟨rfl, e21, (by decide : 2 + 0 ≤ _), (by decide : 7 + 0 ≤ _)⟩)
  dsimp only [Pt.U, Pt.locs, Pt.cells, Pt.slots] at X22 l22 y22 z22 st22 hQ22
  rw [l22, (y22 : k22 = 2), (z22 : n22 = 7)] at X22
  generalize e22 : T22.heap = h22 at hQ22
  obtain ⟨rfl, N22q, K22, Ex22, Fxline_22, Fxcolumn_22, FxafterCr_22⟩ := hQ22
  have N22 := Fr.app N21 N22q
  refine own_back (S' := T22.setTop (mkF m 143 #[.val (.int p1), .val (.int p2), .val (.int p3), .val (.int p4), .val (.ref b1), .val (.ref b10), .val (.int (1 : Int32)), .val (.int (1 : Int32)), .unset, .unset] [])) (fun _ k => st22.trans k) ?_
  obtain ⟨ln3, hln3⟩ : ∃ z, z = (own_ln c2 ln2 ac2) := ⟨_, rfl⟩
  rw [← hln3] at Fxline_22
  obtain ⟨cl3, hcl3⟩ : ∃ z, z = (own_cl c2 cl2 ac2) := ⟨_, rfl⟩
  rw [← hcl3] at Fxcolumn_22
  obtain ⟨ac3, hac3⟩ : ∃ z, z = (own_ac c2) := ⟨_, rfl⟩
  rw [← hac3] at FxafterCr_22
  have Z22 : n0 ≤ h22.size := Nat.le_trans Z17 K22.1
  have A_b1_22 := A_b1_17.keep K22 (ninS ne_b1_b10 nin0)
  refine own_back (S' := T22.setTop (mkF m 145 #[.val (.int p1), .val (.int p2), .val (.int p3), .val (.int p4), .val (.ref b1), .val (.ref b10), .val (.int (1 : Int32)), .val (.int (1 : Int32)), .unset, .unset] [(.ref b10)])) (fun _ k => XS.aload X22.here hx rfl (hb hby at_143) rfl rfl k) ?_
  obtain ⟨cq23, kq23, q23a, q23b, q23c⟩ := isOf hZ e22 Ex22
  obtain ⟨_, _, ⟨T23, L23, k23, n23⟩, -, X23, ⟨Lc23, hQ23, l23, y23, z23⟩, st23⟩ := X22.virtualBack hx (y := (⟨"com/example/bindery/bindery/XmlPosition", "line", "()I"⟩ : MethodName)) (z := (⟨"com/example/bindery/bindery/XmlPosition", "line", "()I"⟩ : MethodName)) hown (mvT hZ (hw _ (List.mem_of_getElem? (i := 25) rfl))) (mvT hZ (hw _ (List.mem_of_getElem? (i := 26) rfl))) (notFace_of_selects (args := #[]) (mvT hZ (hw _ (List.mem_of_getElem? (i := 28) rfl)))) (mvT hZ (hw _ (List.mem_of_getElem? (i := 28) rfl))) (mvT hZ (hw _ (List.mem_of_getElem? (i := 27) rfl))) (by decide) (backOf (W := 0) (rm5 l Z a0 hw [] b10 ln3 h22 n0 Z22 Fxline_22) hZ (hw _ (List.mem_of_getElem? (i := 29) rfl)) (hw _ (List.mem_of_getElem? (i := 7) rfl)) (by decide) (by decide)) q23a q23c (g := (mkF m 145 #[.val (.int p1), .val (.int p2), .val (.int p3), .val (.int p4), .val (.ref b1), .val (.ref b10), .val (.int (1 : Int32)), .val (.int (1 : Int32)), .unset, .unset] [(.ref b10)])) rfl (by rw [hml]; rfl) (Steps.refl _) (argsL := []) (rest := []) (lenOf pd_5 rfl) rfl (by show 2 * 0 + _ ≤ _; exact Nat.le_of_eq rfl) (hb hby at_145) (fun _ _ => ⟨rfl, e22, (by decide : 2 + 0 ≤ _), (by decide : 7 + 0 ≤ _)⟩)
  dsimp only [Pt.U, Pt.locs, Pt.cells, Pt.slots] at X23 l23 y23 z23 st23 hQ23
  rw [l23, (y23 : k23 = 2), (z23 : n23 = 7)] at X23
  obtain ⟨rfl, N23q, e23⟩ := hQ23
  have N23 := Fr.app N22 N23q
  refine own_back (S' := T23.setTop (mkF m 148 #[.val (.int p1), .val (.int p2), .val (.int p3), .val (.int p4), .val (.ref b1), .val (.ref b10), .val (.int (1 : Int32)), .val (.int (1 : Int32)), .unset, .unset] [(.int ln3)])) (fun _ k => st23.trans k) ?_
  refine own_back (S' := T23.setTop (mkF m 150 #[.val (.int p1), .val (.int p2), .val (.int p3), .val (.int p4), .val (.ref b1), .val (.ref b10), .val (.int (1 : Int32)), .val (.int (1 : Int32)), .unset, .unset] [(.ref b1), (.int ln3)])) (fun _ k => XS.aload X23.here hx rfl (hb hby at_148) rfl rfl k) ?_
  refine own_back (S' := T23.setTop (mkF m 151 #[.val (.int p1), .val (.int p2), .val (.int p3), .val (.int p4), .val (.ref b1), .val (.ref b10), .val (.int (1 : Int32)), .val (.int (1 : Int32)), .unset, .unset] [(.int (3 : Int32)), (.ref b1), (.int ln3)])) (fun _ k => XS.iconst X23.here hx rfl (hb hby at_150)  k) ?_
  obtain ⟨_, _, ⟨T24, L24, k24, n24⟩, -, X24, ⟨Lc24, hQ24, l24, y24, z24⟩, st24⟩ := Jvm.LawKit.callS X23 hx (y := (⟨"com/example/bindery/bindery/XmlPositionPassPinLaw", "line", "([CI)I"⟩ : MethodName)) hown (mvT hZ (hw _ (List.mem_of_getElem? (i := 30) rfl))) (mvT hZ (hw _ (List.mem_of_getElem? (i := 31) rfl))) (mvT hZ (hw _ (List.mem_of_getElem? (i := 3) rfl))) (mvT hZ (hw _ (List.mem_of_getElem? (i := 32) rfl))) (by decide) (backOf (W := 1) (rm6 l Z a0 hw [] b1 (3 : Int32) c0 c1 c2 c3 h22 n0 Z22 A_b1_22) hZ (hw _ (List.mem_of_getElem? (i := 32) rfl)) (hw _ (List.mem_of_getElem? (i := 3) rfl)) (by decide) (by decide)) (g := (mkF m 151 #[.val (.int p1), .val (.int p2), .val (.int p3), .val (.int p4), .val (.ref b1), .val (.ref b10), .val (.int (1 : Int32)), .val (.int (1 : Int32)), .unset, .unset] [(.int (3 : Int32)), (.ref b1), (.int ln3)])) rfl (by rw [hml]; rfl) (argsL := [(.ref b1), (.int (3 : Int32))]) (rest := [(.int ln3)]) (lenOf pd_6 rfl) rfl (by show 2 * 0 + _ ≤ _; exact Nat.le_of_eq rfl) (hb hby at_151) (fun _ _ => ⟨rfl, e23, (by decide : 2 + 0 ≤ _), (by decide : 7 + 0 ≤ _)⟩)
  dsimp only [Pt.U, Pt.locs, Pt.cells, Pt.slots] at X24 l24 y24 z24 st24 hQ24
  rw [l24, (y24 : k24 = 2), (z24 : n24 = 7)] at X24
  obtain ⟨rfl, N24q, e24⟩ := hQ24
  have N24 := Fr.app N23 N24q
  refine own_back (S' := T24.setTop (mkF m 154 #[.val (.int p1), .val (.int p2), .val (.int p3), .val (.int p4), .val (.ref b1), .val (.ref b10), .val (.int (1 : Int32)), .val (.int (1 : Int32)), .unset, .unset] [(.int (own_line (3 : Int32) c0 c1 c2 c3)), (.int ln3)])) (st24) ?_
  refine own_back (S' := T24.setTop (mkF m 157 #[.val (.int p1), .val (.int p2), .val (.int p3), .val (.int p4), .val (.ref b1), .val (.ref b10), .val (.int (1 : Int32)), .val (.int (1 : Int32)), .unset, .unset] [])) (fun _ k => XS.icmpNo X24.here hx rfl (hb hby at_154) rfl (teq (by rw [hln3, hln2, hac2, hln1, hac1]; exact own_line3 c0 c1 c2 c3 : ln3 = (own_line (3 : Int32) c0 c1 c2 c3))).2 k) ?_
  refine own_back (S' := T24.setTop (mkF m 159 #[.val (.int p1), .val (.int p2), .val (.int p3), .val (.int p4), .val (.ref b1), .val (.ref b10), .val (.int (1 : Int32)), .val (.int (1 : Int32)), .unset, .unset] [(.ref b10)])) (fun _ k => XS.aload X24.here hx rfl (hb hby at_157) rfl rfl k) ?_
  obtain ⟨cq25, kq25, q25a, q25b, q25c⟩ := isOf hZ e24 Ex22
  obtain ⟨_, _, ⟨T25, L25, k25, n25⟩, -, X25, ⟨Lc25, hQ25, l25, y25, z25⟩, st25⟩ := X24.virtualBack hx (y := (⟨"com/example/bindery/bindery/XmlPosition", "column", "()I"⟩ : MethodName)) (z := (⟨"com/example/bindery/bindery/XmlPosition", "column", "()I"⟩ : MethodName)) hown (mvT hZ (hw _ (List.mem_of_getElem? (i := 36) rfl))) (mvT hZ (hw _ (List.mem_of_getElem? (i := 37) rfl))) (notFace_of_selects (args := #[]) (mvT hZ (hw _ (List.mem_of_getElem? (i := 39) rfl)))) (mvT hZ (hw _ (List.mem_of_getElem? (i := 39) rfl))) (mvT hZ (hw _ (List.mem_of_getElem? (i := 38) rfl))) (by decide) (backOf (W := 0) (rm8 l Z a0 hw [] b10 cl3 h22 n0 Z22 Fxcolumn_22) hZ (hw _ (List.mem_of_getElem? (i := 40) rfl)) (hw _ (List.mem_of_getElem? (i := 7) rfl)) (by decide) (by decide)) q25a q25c (g := (mkF m 159 #[.val (.int p1), .val (.int p2), .val (.int p3), .val (.int p4), .val (.ref b1), .val (.ref b10), .val (.int (1 : Int32)), .val (.int (1 : Int32)), .unset, .unset] [(.ref b10)])) rfl (by rw [hml]; rfl) (Steps.refl _) (argsL := []) (rest := []) (lenOf pd_5 rfl) rfl (by show 2 * 0 + _ ≤ _; exact Nat.le_of_eq rfl) (hb hby at_159) (fun _ _ => ⟨rfl, e24, (by decide : 2 + 0 ≤ _), (by decide : 7 + 0 ≤ _)⟩)
  dsimp only [Pt.U, Pt.locs, Pt.cells, Pt.slots] at X25 l25 y25 z25 st25 hQ25
  rw [l25, (y25 : k25 = 2), (z25 : n25 = 7)] at X25
  obtain ⟨rfl, N25q, e25⟩ := hQ25
  have N25 := Fr.app N24 N25q
  refine own_back (S' := T25.setTop (mkF m 162 #[.val (.int p1), .val (.int p2), .val (.int p3), .val (.int p4), .val (.ref b1), .val (.ref b10), .val (.int (1 : Int32)), .val (.int (1 : Int32)), .unset, .unset] [(.int cl3)])) (fun _ k => st25.trans k) ?_
  refine own_back (S' := T25.setTop (mkF m 164 #[.val (.int p1), .val (.int p2), .val (.int p3), .val (.int p4), .val (.ref b1), .val (.ref b10), .val (.int (1 : Int32)), .val (.int (1 : Int32)), .unset, .unset] [(.ref b1), (.int cl3)])) (fun _ k => XS.aload X25.here hx rfl (hb hby at_162) rfl rfl k) ?_
  refine own_back (S' := T25.setTop (mkF m 165 #[.val (.int p1), .val (.int p2), .val (.int p3), .val (.int p4), .val (.ref b1), .val (.ref b10), .val (.int (1 : Int32)), .val (.int (1 : Int32)), .unset, .unset] [(.int (3 : Int32)), (.ref b1), (.int cl3)])) (fun _ k => XS.iconst X25.here hx rfl (hb hby at_164)  k) ?_
  obtain ⟨_, _, ⟨T26, L26, k26, n26⟩, -, X26, ⟨Lc26, hQ26, l26, y26, z26⟩, st26⟩ := Jvm.LawKit.callS X25 hx (y := (⟨"com/example/bindery/bindery/XmlPositionPassPinLaw", "col", "([CI)I"⟩ : MethodName)) hown (mvT hZ (hw _ (List.mem_of_getElem? (i := 41) rfl))) (mvT hZ (hw _ (List.mem_of_getElem? (i := 42) rfl))) (mvT hZ (hw _ (List.mem_of_getElem? (i := 3) rfl))) (mvT hZ (hw _ (List.mem_of_getElem? (i := 43) rfl))) (by decide) (backOf (W := 1) (rm9_3 l Z a0 hw [] b1 c0 c1 c2 c3 h22 n0 Z22 A_b1_22) hZ (hw _ (List.mem_of_getElem? (i := 43) rfl)) (hw _ (List.mem_of_getElem? (i := 3) rfl)) (by decide) (by decide)) (g := (mkF m 165 #[.val (.int p1), .val (.int p2), .val (.int p3), .val (.int p4), .val (.ref b1), .val (.ref b10), .val (.int (1 : Int32)), .val (.int (1 : Int32)), .unset, .unset] [(.int (3 : Int32)), (.ref b1), (.int cl3)])) rfl (by rw [hml]; rfl) (argsL := [(.ref b1), (.int (3 : Int32))]) (rest := [(.int cl3)]) (lenOf pd_6 rfl) rfl (by show 2 * 0 + _ ≤ _; exact Nat.le_of_eq rfl) (hb hby at_165) (fun _ _ => ⟨rfl, e25, (by decide : 2 + 0 ≤ _), (by decide : 7 + 0 ≤ _)⟩)
  dsimp only [Pt.U, Pt.locs, Pt.cells, Pt.slots] at X26 l26 y26 z26 st26 hQ26
  rw [l26, (y26 : k26 = 2), (z26 : n26 = 7)] at X26
  obtain ⟨rfl, N26q, e26⟩ := hQ26
  have N26 := Fr.app N25 N26q
  refine own_back (S' := T26.setTop (mkF m 168 #[.val (.int p1), .val (.int p2), .val (.int p3), .val (.int p4), .val (.ref b1), .val (.ref b10), .val (.int (1 : Int32)), .val (.int (1 : Int32)), .unset, .unset] [(.int ((3 : Int32) - own_l3 c0 c1 c2)), (.int cl3)])) (st26) ?_
  refine own_back (S' := T26.setTop (mkF m 171 #[.val (.int p1), .val (.int p2), .val (.int p3), .val (.int p4), .val (.ref b1), .val (.ref b10), .val (.int (1 : Int32)), .val (.int (1 : Int32)), .unset, .unset] [])) (fun _ k => XS.icmpNo X26.here hx rfl (hb hby at_168) rfl (teq (by rw [hcl3, hcl2, hac2, hcl1, hac1]; exact own_col3 c0 c1 c2 : cl3 = ((3 : Int32) - own_l3 c0 c1 c2))).2 k) ?_
  refine own_back (S' := T26.setTop (mkF m 172 #[.val (.int p1), .val (.int p2), .val (.int p3), .val (.int p4), .val (.ref b1), .val (.ref b10), .val (.int (1 : Int32)), .val (.int (1 : Int32)), .unset, .unset] [(.int (1 : Int32))])) (fun _ k => XS.iconst X26.here hx rfl (hb hby at_171)  k) ?_
  refine own_back (S' := T26.setTop (mkF m 176 #[.val (.int p1), .val (.int p2), .val (.int p3), .val (.int p4), .val (.ref b1), .val (.ref b10), .val (.int (1 : Int32)), .val (.int (1 : Int32)), .unset, .unset] [(.int (1 : Int32))])) (fun _ k => XS.goto X26.here hx rfl (pc0 := 172) (pc' := 176) rfl (hb hby at_172) (by decide) (by decide) k) ?_
  refine own_back (S' := T26.setTop (mkF m 178 #[.val (.int p1), .val (.int p2), .val (.int p3), .val (.int p4), .val (.ref b1), .val (.ref b10), .val (.int (1 : Int32)), .val (.int (1 : Int32)), .val (.int (1 : Int32)), .unset] [])) (fun _ k => XS.istore X26.here hx rfl (hb hby at_176) rfl (l' := #[.val (.int p1), .val (.int p2), .val (.int p3), .val (.int p4), .val (.ref b1), .val (.ref b10), .val (.int (1 : Int32)), .val (.int (1 : Int32)), .val (.int (1 : Int32)), .unset]) rfl k) ?_
  refine own_back (S' := T26.setTop (mkF m 180 #[.val (.int p1), .val (.int p2), .val (.int p3), .val (.int p4), .val (.ref b1), .val (.ref b10), .val (.int (1 : Int32)), .val (.int (1 : Int32)), .val (.int (1 : Int32)), .unset] [(.ref b10)])) (fun _ k => XS.aload X26.here hx rfl (hb hby at_178) rfl rfl k) ?_
  refine own_back (S' := T26.setTop (mkF m 182 #[.val (.int p1), .val (.int p2), .val (.int p3), .val (.int p4), .val (.ref b1), .val (.ref b10), .val (.int (1 : Int32)), .val (.int (1 : Int32)), .val (.int (1 : Int32)), .unset] [(.ref b1), (.ref b10)])) (fun _ k => XS.aload X26.here hx rfl (hb hby at_180) rfl rfl k) ?_
  refine own_back (S' := T26.setTop (mkF m 183 #[.val (.int p1), .val (.int p2), .val (.int p3), .val (.int p4), .val (.ref b1), .val (.ref b10), .val (.int (1 : Int32)), .val (.int (1 : Int32)), .val (.int (1 : Int32)), .unset] [(.int (3 : Int32)), (.ref b1), (.ref b10)])) (fun _ k => XS.iconst X26.here hx rfl (hb hby at_182)  k) ?_
  refine own_back (S' := T26.setTop (mkF m 184 #[.val (.int p1), .val (.int p2), .val (.int p3), .val (.int p4), .val (.ref b1), .val (.ref b10), .val (.int (1 : Int32)), .val (.int (1 : Int32)), .val (.int (1 : Int32)), .unset] [(.int c3), (.ref b10)])) (own_ldC X26 hx hZ e26 A_b1_22 (k := 3) (w := c3) (by decide) rfl (by decide) rfl (g := (mkF m 183 #[.val (.int p1), .val (.int p2), .val (.int p3), .val (.int p4), .val (.ref b1), .val (.ref b10), .val (.int (1 : Int32)), .val (.int (1 : Int32)), .val (.int (1 : Int32)), .unset] [(.int (3 : Int32)), (.ref b1), (.ref b10)])) rfl rfl (hb hby at_183)) ?_
  obtain ⟨cq27, kq27, q27a, q27b, q27c⟩ := isOf hZ e26 Ex22
  obtain ⟨_, _, ⟨T27, L27, k27, n27⟩, -, X27, ⟨Lc27, hQ27, l27, y27, z27⟩, st27⟩ := X26.virtualBack hx (y := (⟨"com/example/bindery/bindery/XmlPosition", "pass", "(C)V"⟩ : MethodName)) (z := (⟨"com/example/bindery/bindery/XmlPosition", "pass", "(C)V"⟩ : MethodName)) hown (mvT hZ (hw _ (List.mem_of_getElem? (i := 18) rfl))) (mvT hZ (hw _ (List.mem_of_getElem? (i := 19) rfl))) (notFace_of_selects (args := #[]) (mvT hZ (hw _ (List.mem_of_getElem? (i := 21) rfl)))) (mvT hZ (hw _ (List.mem_of_getElem? (i := 21) rfl))) (mvT hZ (hw _ (List.mem_of_getElem? (i := 20) rfl))) (by decide) (backOf (W := 0) (rm4 l Z a0 hw [] b10 c3 ln3 cl3 ac3 h22 n0 Z22 Ex22 g_b10 Fxline_22 Fxcolumn_22 FxafterCr_22) hZ (hw _ (List.mem_of_getElem? (i := 22) rfl)) (hw _ (List.mem_of_getElem? (i := 7) rfl)) (by decide) (by decide)) q27a q27c (g := (mkF m 184 #[.val (.int p1), .val (.int p2), .val (.int p3), .val (.int p4), .val (.ref b1), .val (.ref b10), .val (.int (1 : Int32)), .val (.int (1 : Int32)), .val (.int (1 : Int32)), .unset] [(.int c3), (.ref b10)])) rfl (by rw [hml]; rfl) (Steps.refl _) (argsL := [(.int c3)]) (rest := []) (lenOf pd_4 rfl) rfl (by show 2 * 0 + _ ≤ _; exact Nat.le_of_eq rfl) (hb hby at_184) (fun _ _ => ⟨rfl, e26, (by decide : 2 + 0 ≤ _), (by decide : 7 + 0 ≤ _)⟩)
  dsimp only [Pt.U, Pt.locs, Pt.cells, Pt.slots] at X27 l27 y27 z27 st27 hQ27
  rw [l27, (y27 : k27 = 2), (z27 : n27 = 7)] at X27
  generalize e27 : T27.heap = h27 at hQ27
  obtain ⟨rfl, N27q, K27, Ex27, Fxline_27, Fxcolumn_27, FxafterCr_27⟩ := hQ27
  have N27 := Fr.app N26 N27q
  refine own_back (S' := T27.setTop (mkF m 187 #[.val (.int p1), .val (.int p2), .val (.int p3), .val (.int p4), .val (.ref b1), .val (.ref b10), .val (.int (1 : Int32)), .val (.int (1 : Int32)), .val (.int (1 : Int32)), .unset] [])) (fun _ k => st27.trans k) ?_
  obtain ⟨ln4, hln4⟩ : ∃ z, z = (own_ln c3 ln3 ac3) := ⟨_, rfl⟩
  rw [← hln4] at Fxline_27
  obtain ⟨cl4, hcl4⟩ : ∃ z, z = (own_cl c3 cl3 ac3) := ⟨_, rfl⟩
  rw [← hcl4] at Fxcolumn_27
  obtain ⟨ac4, hac4⟩ : ∃ z, z = (own_ac c3) := ⟨_, rfl⟩
  rw [← hac4] at FxafterCr_27
  have Z27 : n0 ≤ h27.size := Nat.le_trans Z22 K27.1
  have A_b1_27 := A_b1_22.keep K27 (ninS ne_b1_b10 nin0)
  refine own_back (S' := T27.setTop (mkF m 189 #[.val (.int p1), .val (.int p2), .val (.int p3), .val (.int p4), .val (.ref b1), .val (.ref b10), .val (.int (1 : Int32)), .val (.int (1 : Int32)), .val (.int (1 : Int32)), .unset] [(.ref b10)])) (fun _ k => XS.aload X27.here hx rfl (hb hby at_187) rfl rfl k) ?_
  obtain ⟨cq28, kq28, q28a, q28b, q28c⟩ := isOf hZ e27 Ex27
  obtain ⟨_, _, ⟨T28, L28, k28, n28⟩, -, X28, ⟨Lc28, hQ28, l28, y28, z28⟩, st28⟩ := X27.virtualBack hx (y := (⟨"com/example/bindery/bindery/XmlPosition", "line", "()I"⟩ : MethodName)) (z := (⟨"com/example/bindery/bindery/XmlPosition", "line", "()I"⟩ : MethodName)) hown (mvT hZ (hw _ (List.mem_of_getElem? (i := 25) rfl))) (mvT hZ (hw _ (List.mem_of_getElem? (i := 26) rfl))) (notFace_of_selects (args := #[]) (mvT hZ (hw _ (List.mem_of_getElem? (i := 28) rfl)))) (mvT hZ (hw _ (List.mem_of_getElem? (i := 28) rfl))) (mvT hZ (hw _ (List.mem_of_getElem? (i := 27) rfl))) (by decide) (backOf (W := 0) (rm5 l Z a0 hw [] b10 ln4 h27 n0 Z27 Fxline_27) hZ (hw _ (List.mem_of_getElem? (i := 29) rfl)) (hw _ (List.mem_of_getElem? (i := 7) rfl)) (by decide) (by decide)) q28a q28c (g := (mkF m 189 #[.val (.int p1), .val (.int p2), .val (.int p3), .val (.int p4), .val (.ref b1), .val (.ref b10), .val (.int (1 : Int32)), .val (.int (1 : Int32)), .val (.int (1 : Int32)), .unset] [(.ref b10)])) rfl (by rw [hml]; rfl) (Steps.refl _) (argsL := []) (rest := []) (lenOf pd_5 rfl) rfl (by show 2 * 0 + _ ≤ _; exact Nat.le_of_eq rfl) (hb hby at_189) (fun _ _ => ⟨rfl, e27, (by decide : 2 + 0 ≤ _), (by decide : 7 + 0 ≤ _)⟩)
  dsimp only [Pt.U, Pt.locs, Pt.cells, Pt.slots] at X28 l28 y28 z28 st28 hQ28
  rw [l28, (y28 : k28 = 2), (z28 : n28 = 7)] at X28
  obtain ⟨rfl, N28q, e28⟩ := hQ28
  have N28 := Fr.app N27 N28q
  refine own_back (S' := T28.setTop (mkF m 192 #[.val (.int p1), .val (.int p2), .val (.int p3), .val (.int p4), .val (.ref b1), .val (.ref b10), .val (.int (1 : Int32)), .val (.int (1 : Int32)), .val (.int (1 : Int32)), .unset] [(.int ln4)])) (fun _ k => st28.trans k) ?_
  refine own_back (S' := T28.setTop (mkF m 194 #[.val (.int p1), .val (.int p2), .val (.int p3), .val (.int p4), .val (.ref b1), .val (.ref b10), .val (.int (1 : Int32)), .val (.int (1 : Int32)), .val (.int (1 : Int32)), .unset] [(.ref b1), (.int ln4)])) (fun _ k => XS.aload X28.here hx rfl (hb hby at_192) rfl rfl k) ?_
  refine own_back (S' := T28.setTop (mkF m 195 #[.val (.int p1), .val (.int p2), .val (.int p3), .val (.int p4), .val (.ref b1), .val (.ref b10), .val (.int (1 : Int32)), .val (.int (1 : Int32)), .val (.int (1 : Int32)), .unset] [(.int (4 : Int32)), (.ref b1), (.int ln4)])) (fun _ k => XS.iconst X28.here hx rfl (hb hby at_194)  k) ?_
  obtain ⟨_, _, ⟨T29, L29, k29, n29⟩, -, X29, ⟨Lc29, hQ29, l29, y29, z29⟩, st29⟩ := Jvm.LawKit.callS X28 hx (y := (⟨"com/example/bindery/bindery/XmlPositionPassPinLaw", "line", "([CI)I"⟩ : MethodName)) hown (mvT hZ (hw _ (List.mem_of_getElem? (i := 30) rfl))) (mvT hZ (hw _ (List.mem_of_getElem? (i := 31) rfl))) (mvT hZ (hw _ (List.mem_of_getElem? (i := 3) rfl))) (mvT hZ (hw _ (List.mem_of_getElem? (i := 32) rfl))) (by decide) (backOf (W := 1) (rm6 l Z a0 hw [] b1 (4 : Int32) c0 c1 c2 c3 h27 n0 Z27 A_b1_27) hZ (hw _ (List.mem_of_getElem? (i := 32) rfl)) (hw _ (List.mem_of_getElem? (i := 3) rfl)) (by decide) (by decide)) (g := (mkF m 195 #[.val (.int p1), .val (.int p2), .val (.int p3), .val (.int p4), .val (.ref b1), .val (.ref b10), .val (.int (1 : Int32)), .val (.int (1 : Int32)), .val (.int (1 : Int32)), .unset] [(.int (4 : Int32)), (.ref b1), (.int ln4)])) rfl (by rw [hml]; rfl) (argsL := [(.ref b1), (.int (4 : Int32))]) (rest := [(.int ln4)]) (lenOf pd_6 rfl) rfl (by show 2 * 0 + _ ≤ _; exact Nat.le_of_eq rfl) (hb hby at_195) (fun _ _ => ⟨rfl, e28, (by decide : 2 + 0 ≤ _), (by decide : 7 + 0 ≤ _)⟩)
  dsimp only [Pt.U, Pt.locs, Pt.cells, Pt.slots] at X29 l29 y29 z29 st29 hQ29
  rw [l29, (y29 : k29 = 2), (z29 : n29 = 7)] at X29
  obtain ⟨rfl, N29q, e29⟩ := hQ29
  have N29 := Fr.app N28 N29q
  refine own_back (S' := T29.setTop (mkF m 198 #[.val (.int p1), .val (.int p2), .val (.int p3), .val (.int p4), .val (.ref b1), .val (.ref b10), .val (.int (1 : Int32)), .val (.int (1 : Int32)), .val (.int (1 : Int32)), .unset] [(.int (own_line (4 : Int32) c0 c1 c2 c3)), (.int ln4)])) (st29) ?_
  refine own_back (S' := T29.setTop (mkF m 201 #[.val (.int p1), .val (.int p2), .val (.int p3), .val (.int p4), .val (.ref b1), .val (.ref b10), .val (.int (1 : Int32)), .val (.int (1 : Int32)), .val (.int (1 : Int32)), .unset] [])) (fun _ k => XS.icmpNo X29.here hx rfl (hb hby at_198) rfl (teq (by rw [hln4, hln3, hac3, hln2, hac2, hln1, hac1]; exact own_line4 c0 c1 c2 c3 : ln4 = (own_line (4 : Int32) c0 c1 c2 c3))).2 k) ?_
  refine own_back (S' := T29.setTop (mkF m 203 #[.val (.int p1), .val (.int p2), .val (.int p3), .val (.int p4), .val (.ref b1), .val (.ref b10), .val (.int (1 : Int32)), .val (.int (1 : Int32)), .val (.int (1 : Int32)), .unset] [(.ref b10)])) (fun _ k => XS.aload X29.here hx rfl (hb hby at_201) rfl rfl k) ?_
  obtain ⟨cq30, kq30, q30a, q30b, q30c⟩ := isOf hZ e29 Ex27
  obtain ⟨_, _, ⟨T30, L30, k30, n30⟩, -, X30, ⟨Lc30, hQ30, l30, y30, z30⟩, st30⟩ := X29.virtualBack hx (y := (⟨"com/example/bindery/bindery/XmlPosition", "column", "()I"⟩ : MethodName)) (z := (⟨"com/example/bindery/bindery/XmlPosition", "column", "()I"⟩ : MethodName)) hown (mvT hZ (hw _ (List.mem_of_getElem? (i := 36) rfl))) (mvT hZ (hw _ (List.mem_of_getElem? (i := 37) rfl))) (notFace_of_selects (args := #[]) (mvT hZ (hw _ (List.mem_of_getElem? (i := 39) rfl)))) (mvT hZ (hw _ (List.mem_of_getElem? (i := 39) rfl))) (mvT hZ (hw _ (List.mem_of_getElem? (i := 38) rfl))) (by decide) (backOf (W := 0) (rm8 l Z a0 hw [] b10 cl4 h27 n0 Z27 Fxcolumn_27) hZ (hw _ (List.mem_of_getElem? (i := 40) rfl)) (hw _ (List.mem_of_getElem? (i := 7) rfl)) (by decide) (by decide)) q30a q30c (g := (mkF m 203 #[.val (.int p1), .val (.int p2), .val (.int p3), .val (.int p4), .val (.ref b1), .val (.ref b10), .val (.int (1 : Int32)), .val (.int (1 : Int32)), .val (.int (1 : Int32)), .unset] [(.ref b10)])) rfl (by rw [hml]; rfl) (Steps.refl _) (argsL := []) (rest := []) (lenOf pd_5 rfl) rfl (by show 2 * 0 + _ ≤ _; exact Nat.le_of_eq rfl) (hb hby at_203) (fun _ _ => ⟨rfl, e29, (by decide : 2 + 0 ≤ _), (by decide : 7 + 0 ≤ _)⟩)
  dsimp only [Pt.U, Pt.locs, Pt.cells, Pt.slots] at X30 l30 y30 z30 st30 hQ30
  rw [l30, (y30 : k30 = 2), (z30 : n30 = 7)] at X30
  obtain ⟨rfl, N30q, e30⟩ := hQ30
  have N30 := Fr.app N29 N30q
  refine own_back (S' := T30.setTop (mkF m 206 #[.val (.int p1), .val (.int p2), .val (.int p3), .val (.int p4), .val (.ref b1), .val (.ref b10), .val (.int (1 : Int32)), .val (.int (1 : Int32)), .val (.int (1 : Int32)), .unset] [(.int cl4)])) (fun _ k => st30.trans k) ?_
  refine own_back (S' := T30.setTop (mkF m 208 #[.val (.int p1), .val (.int p2), .val (.int p3), .val (.int p4), .val (.ref b1), .val (.ref b10), .val (.int (1 : Int32)), .val (.int (1 : Int32)), .val (.int (1 : Int32)), .unset] [(.ref b1), (.int cl4)])) (fun _ k => XS.aload X30.here hx rfl (hb hby at_206) rfl rfl k) ?_
  refine own_back (S' := T30.setTop (mkF m 209 #[.val (.int p1), .val (.int p2), .val (.int p3), .val (.int p4), .val (.ref b1), .val (.ref b10), .val (.int (1 : Int32)), .val (.int (1 : Int32)), .val (.int (1 : Int32)), .unset] [(.int (4 : Int32)), (.ref b1), (.int cl4)])) (fun _ k => XS.iconst X30.here hx rfl (hb hby at_208)  k) ?_
  obtain ⟨_, _, ⟨T31, L31, k31, n31⟩, -, X31, ⟨Lc31, hQ31, l31, y31, z31⟩, st31⟩ := Jvm.LawKit.callS X30 hx (y := (⟨"com/example/bindery/bindery/XmlPositionPassPinLaw", "col", "([CI)I"⟩ : MethodName)) hown (mvT hZ (hw _ (List.mem_of_getElem? (i := 41) rfl))) (mvT hZ (hw _ (List.mem_of_getElem? (i := 42) rfl))) (mvT hZ (hw _ (List.mem_of_getElem? (i := 3) rfl))) (mvT hZ (hw _ (List.mem_of_getElem? (i := 43) rfl))) (by decide) (backOf (W := 1) (rm9_4 l Z a0 hw [] b1 c0 c1 c2 c3 h27 n0 Z27 A_b1_27) hZ (hw _ (List.mem_of_getElem? (i := 43) rfl)) (hw _ (List.mem_of_getElem? (i := 3) rfl)) (by decide) (by decide)) (g := (mkF m 209 #[.val (.int p1), .val (.int p2), .val (.int p3), .val (.int p4), .val (.ref b1), .val (.ref b10), .val (.int (1 : Int32)), .val (.int (1 : Int32)), .val (.int (1 : Int32)), .unset] [(.int (4 : Int32)), (.ref b1), (.int cl4)])) rfl (by rw [hml]; rfl) (argsL := [(.ref b1), (.int (4 : Int32))]) (rest := [(.int cl4)]) (lenOf pd_6 rfl) rfl (by show 2 * 0 + _ ≤ _; exact Nat.le_of_eq rfl) (hb hby at_209) (fun _ _ => ⟨rfl, e30, (by decide : 2 + 0 ≤ _), (by decide : 7 + 0 ≤ _)⟩)
  dsimp only [Pt.U, Pt.locs, Pt.cells, Pt.slots] at X31 l31 y31 z31 st31 hQ31
  rw [l31, (y31 : k31 = 2), (z31 : n31 = 7)] at X31
  obtain ⟨rfl, N31q, e31⟩ := hQ31
  have N31 := Fr.app N30 N31q
  refine own_back (S' := T31.setTop (mkF m 212 #[.val (.int p1), .val (.int p2), .val (.int p3), .val (.int p4), .val (.ref b1), .val (.ref b10), .val (.int (1 : Int32)), .val (.int (1 : Int32)), .val (.int (1 : Int32)), .unset] [(.int ((4 : Int32) - own_l4 c0 c1 c2 c3)), (.int cl4)])) (st31) ?_
  refine own_back (S' := T31.setTop (mkF m 215 #[.val (.int p1), .val (.int p2), .val (.int p3), .val (.int p4), .val (.ref b1), .val (.ref b10), .val (.int (1 : Int32)), .val (.int (1 : Int32)), .val (.int (1 : Int32)), .unset] [])) (fun _ k => XS.icmpNo X31.here hx rfl (hb hby at_212) rfl (teq (by rw [hcl4, hcl3, hac3, hcl2, hac2, hcl1, hac1]; exact own_col4 c0 c1 c2 c3 : cl4 = ((4 : Int32) - own_l4 c0 c1 c2 c3))).2 k) ?_
  refine own_back (S' := T31.setTop (mkF m 216 #[.val (.int p1), .val (.int p2), .val (.int p3), .val (.int p4), .val (.ref b1), .val (.ref b10), .val (.int (1 : Int32)), .val (.int (1 : Int32)), .val (.int (1 : Int32)), .unset] [(.int (1 : Int32))])) (fun _ k => XS.iconst X31.here hx rfl (hb hby at_215)  k) ?_
  refine own_back (S' := T31.setTop (mkF m 220 #[.val (.int p1), .val (.int p2), .val (.int p3), .val (.int p4), .val (.ref b1), .val (.ref b10), .val (.int (1 : Int32)), .val (.int (1 : Int32)), .val (.int (1 : Int32)), .unset] [(.int (1 : Int32))])) (fun _ k => XS.goto X31.here hx rfl (pc0 := 216) (pc' := 220) rfl (hb hby at_216) (by decide) (by decide) k) ?_
  refine own_back (S' := T31.setTop (mkF m 222 #[.val (.int p1), .val (.int p2), .val (.int p3), .val (.int p4), .val (.ref b1), .val (.ref b10), .val (.int (1 : Int32)), .val (.int (1 : Int32)), .val (.int (1 : Int32)), .val (.int (1 : Int32))] [])) (fun _ k => XS.istore X31.here hx rfl (hb hby at_220) rfl (l' := #[.val (.int p1), .val (.int p2), .val (.int p3), .val (.int p4), .val (.ref b1), .val (.ref b10), .val (.int (1 : Int32)), .val (.int (1 : Int32)), .val (.int (1 : Int32)), .val (.int (1 : Int32))]) rfl k) ?_
  refine own_back (S' := T31.setTop (mkF m 224 #[.val (.int p1), .val (.int p2), .val (.int p3), .val (.int p4), .val (.ref b1), .val (.ref b10), .val (.int (1 : Int32)), .val (.int (1 : Int32)), .val (.int (1 : Int32)), .val (.int (1 : Int32))] [(.int (1 : Int32))])) (fun _ k => XS.iload X31.here hx rfl (hb hby at_222) rfl k) ?_
  refine own_back (S' := T31.setTop (mkF m 227 #[.val (.int p1), .val (.int p2), .val (.int p3), .val (.int p4), .val (.ref b1), .val (.ref b10), .val (.int (1 : Int32)), .val (.int (1 : Int32)), .val (.int (1 : Int32)), .val (.int (1 : Int32))] [])) (fun _ k => XS.ifNo X31.here hx rfl (hb hby at_224) rfl ((if0 _ _).trans (feq ((by decide) : ¬ ((1 : Int32) = (0 : Int32)))).1) k) ?_
  refine own_back (S' := T31.setTop (mkF m 229 #[.val (.int p1), .val (.int p2), .val (.int p3), .val (.int p4), .val (.ref b1), .val (.ref b10), .val (.int (1 : Int32)), .val (.int (1 : Int32)), .val (.int (1 : Int32)), .val (.int (1 : Int32))] [(.int (1 : Int32))])) (fun _ k => XS.iload X31.here hx rfl (hb hby at_227) rfl k) ?_
  refine own_back (S' := T31.setTop (mkF m 232 #[.val (.int p1), .val (.int p2), .val (.int p3), .val (.int p4), .val (.ref b1), .val (.ref b10), .val (.int (1 : Int32)), .val (.int (1 : Int32)), .val (.int (1 : Int32)), .val (.int (1 : Int32))] [])) (fun _ k => XS.ifNo X31.here hx rfl (hb hby at_229) rfl ((if0 _ _).trans (feq ((by decide) : ¬ ((1 : Int32) = (0 : Int32)))).1) k) ?_
  refine own_back (S' := T31.setTop (mkF m 234 #[.val (.int p1), .val (.int p2), .val (.int p3), .val (.int p4), .val (.ref b1), .val (.ref b10), .val (.int (1 : Int32)), .val (.int (1 : Int32)), .val (.int (1 : Int32)), .val (.int (1 : Int32))] [(.int (1 : Int32))])) (fun _ k => XS.iload X31.here hx rfl (hb hby at_232) rfl k) ?_
  refine own_back (S' := T31.setTop (mkF m 237 #[.val (.int p1), .val (.int p2), .val (.int p3), .val (.int p4), .val (.ref b1), .val (.ref b10), .val (.int (1 : Int32)), .val (.int (1 : Int32)), .val (.int (1 : Int32)), .val (.int (1 : Int32))] [])) (fun _ k => XS.ifNo X31.here hx rfl (hb hby at_234) rfl ((if0 _ _).trans (feq ((by decide) : ¬ ((1 : Int32) = (0 : Int32)))).1) k) ?_
  refine own_back (S' := T31.setTop (mkF m 239 #[.val (.int p1), .val (.int p2), .val (.int p3), .val (.int p4), .val (.ref b1), .val (.ref b10), .val (.int (1 : Int32)), .val (.int (1 : Int32)), .val (.int (1 : Int32)), .val (.int (1 : Int32))] [(.int (1 : Int32))])) (fun _ k => XS.iload X31.here hx rfl (hb hby at_237) rfl k) ?_
  refine own_back (S' := T31.setTop (mkF m 242 #[.val (.int p1), .val (.int p2), .val (.int p3), .val (.int p4), .val (.ref b1), .val (.ref b10), .val (.int (1 : Int32)), .val (.int (1 : Int32)), .val (.int (1 : Int32)), .val (.int (1 : Int32))] [])) (fun _ k => XS.ifNo X31.here hx rfl (hb hby at_239) rfl ((if0 _ _).trans (feq ((by decide) : ¬ ((1 : Int32) = (0 : Int32)))).1) k) ?_
  refine own_back (S' := T31.setTop (mkF m 243 #[.val (.int p1), .val (.int p2), .val (.int p3), .val (.int p4), .val (.ref b1), .val (.ref b10), .val (.int (1 : Int32)), .val (.int (1 : Int32)), .val (.int (1 : Int32)), .val (.int (1 : Int32))] [(.int (1 : Int32))])) (fun _ k => XS.iconst X31.here hx rfl (hb hby at_242)  k) ?_
  refine own_back (S' := T31.setTop (mkF m 247 #[.val (.int p1), .val (.int p2), .val (.int p3), .val (.int p4), .val (.ref b1), .val (.ref b10), .val (.int (1 : Int32)), .val (.int (1 : Int32)), .val (.int (1 : Int32)), .val (.int (1 : Int32))] [(.int (1 : Int32))])) (fun _ k => XS.goto X31.here hx rfl (pc0 := 243) (pc' := 247) rfl (hb hby at_243) (by decide) (by decide) k) ?_
  obtain ⟨fs, hr, hrun, hended, hW, hsame⟩ := X31.leave (v := some (.int (1 : Int32))) (fun h => by rw [Bd.returns] at h; cases h)
  refine own_done ⟨_, _, retN X31 hx (t := .boolean) Bd.returns (by simp) (hb hby at_247) hr, hrun, hended, _, _, rfl, ?_, ⟨_, rfl⟩, hW, hsame.mono (by decide) (by decide)⟩
  show Q0 Z p1 p2 p3 p4 h0 n0 _ T31.heap _
  rw [e31]
  exact ⟨rfl, N31⟩
set_option maxRecDepth 65536 in
set_option maxHeartbeats 40000000 in
theorem comes_1 {Post : Tables → Env → Array Value → State → Outcome → State → Prop} (hpost : ∀ tb e args s v u, (limb_1_1.after args s (.returned v) u = true ∧ limb_1_2.after args s (.returned v) u = true ∧ True) → FrameEnd s (.returned v) u (Jvm.fieldLocs frame_1_writes args s ++ Jvm.arrayLocs frame_1_arrays args s ++ Jvm.staticLocs frame_1_statics s) 16 128 → Post tb e args s (.returned v) u) :
    ArmFor flags0 classFile x code maxLocals ret World_1 tables_1 room_1 Calls_1 rest_1 Pre_1 Post := by
  intro l hfl _ _ p e ha hc hk s m args below hf hA hF happ hP
  obtain ⟨hcalls, hrest, hpre⟩ := hP
  obtain ⟨-, -, -, hnamed, -, -, -, hat⟩ := (Spec.applies_iff hf).mp happ
  obtain ⟨hg, hn⟩ := and_e (Cond.before_iff.mp (show (Jvm.Cond.and given_1 narrow_1).before args s = true from hpre))
  obtain ⟨g1, g2⟩ := and_e hg
  obtain ⟨g3, g4⟩ := and_e g2
  obtain ⟨g5, g6⟩ := and_e g4
  obtain ⟨g7, g8⟩ := and_e g6
  obtain ⟨w0, w1, w2, w3, rfl⟩ : ∃ w0 w1 w2 w3 : Value, args = #[w0, w1, w2, w3] := by
    have hs : args.size = 4 := by simpa [Cond.value, given_1] using g1
    obtain ⟨L⟩ := args
    match L, hs with
    | [w0, w1, w2, w3], _ => exact ⟨w0, w1, w2, w3, rfl⟩
  have hw := fun d (hd : d ∈ tables_1) => atoms_spec (ws := Jvm.Cond.code x code maxLocals ret :: tables_1) hat d (List.mem_cons_of_mem _ hd)
  have hfit : Fit s := fun {y c} hc i hi => by
    obtain ⟨ha, rfl⟩ := Array.getElem?_eq_some_iff.mp hc
    have q := List.all_eq_true.mp ((Array.all_eq_true_iff_forall_mem.mp hF) _ (Array.getElem_mem ha)) i (List.mem_range.mpr hi)
    simpa [Array.getElem?_eq_getElem hi] using q
  obtain ⟨i0, ei0⟩ := is_v g3
  obtain rfl : w0 = (.int i0) := Option.some.inj ei0
  obtain ⟨i1, ei1⟩ := is_v g5
  obtain rfl : w1 = (.int i1) := Option.some.inj ei1
  obtain ⟨i2, ei2⟩ := is_v g7
  obtain rfl : w2 = (.int i2) := Option.some.inj ei2
  obtain ⟨i3, ei3⟩ := is_v g8
  obtain rfl : w3 = (.int i3) := Option.some.inj ei3
  obtain ⟨n, o, h1, h2, h3, _, L, rfl, ⟨rfl, N⟩, hq⟩ := rm0 l s _ hw tables_1 i0 i1 i2 i3 s.heap s.heap.size (Nat.le_refl _) p e ha hc hk s m _ below hf ((Spec.applies_iff_loose hf).mp happ).1 ⟨rfl, State.Warmed39.refl s, rfl⟩ trivial
  refine ⟨n, _, h1, h2, h3, hpost _ _ _ _ _ _ ⟨Cond.after_iff.mpr rfl, Cond.after_iff.mpr (eq_i res_at (Term.int_eval (1)) rfl), trivial⟩ ⟨hq.1, hq.2.1, (hq.2.2.sift fun y hy => Or.inr (N y hy)).mono (by decide) (by decide)⟩⟩
theorem main_1_1 : Claimed_1_1 := comes_1 fun _ _ _ _ _ _ h hF => ⟨h.1, hF⟩
theorem main_1_2 : Claimed_1_2 := comes_1 fun _ _ _ _ _ _ h hF => ⟨h.2.1, hF⟩
end Jvm.Pilot.@@N@@
namespace Jvm.Pilot.@@N@@
open Jvm Jvm.ClassFile Sem Op Lib Jvm.Free Jvm.Stand Jvm.Pilot.@@N@@.Jvm.D
/-! MADE BY PROGRAM (witnessworld.py) out of the Statement's table words and the real class files: 11 classes; the members and pool entries that the words name. The judged class is class 1, her method 6. -/
namespace start1
open Jvm.ClassFile
def u (s : String) : CpInfo := .utf8 (stringToUtf16 s)
/-- a pool by its gaps: so many unusable entries, then the entry; so many at the end -/
def gap : Nat → List CpInfo → List CpInfo
  | 0, r => r
  | n + 1, r => .unusable :: gap n r
def poolList (es : List (Nat × CpInfo)) (last : Nat) : List CpInfo := es.foldr (fun e r => gap e.1 (e.2 :: r)) (gap last [])
def pool (es : List (Nat × CpInfo)) (last : Nat) : Array CpInfo := ⟨poolList es last⟩
def fileOf (pool : Array CpInfo) (this : Nat) (attrs : Array Attribute := #[]) (ms : Array MethodInfo := #[]) (fl : Nat := 33) (sup : Nat := 0) (ifs : Array Nat := #[]) (fds : Array FieldInfo := #[]) : ClassFile where
  minorVersion := 0
  majorVersion := 65
  constantPool := pool
  accessFlags := fl
  thisClass := this
  superClass := sup
  interfaces := ifs
  fields := fds
  methods := ms
  attributes := attrs
def plain (name : String) (sup : Option ClassId) : Class where
  name := name
  kind := .ordinary
  loader := none
  accessFlags := 33
  super := sup
  interfaces := #[]
  cf := none
  fields := #[]
  methods := #[]
  instanceTypes := #[]
  staticTypes := #[]
  resolved := #[]
  callSites := []
  init := .initialized
  statics := none
  mirror := none

def pool0 : Array CpInfo := pool [(5, u "<init>"), (0, u "()V"), (1, .class_ 10), (1, u "java/lang/Object")] 113

def k0c0 : Code := { maxStack := 0, maxLocals := 1, code := object_method_1_code, exceptionTable := #[], attributes := #[] }
def k0m0 : Method := { name := "<init>", desc := "()V", sig := { parameters := [], returnType := none }, accessFlags := 1, code := some k0c0 }
/-- java/lang/Object -/
def k0 : Class := { plain "java/lang/Object" none with
  accessFlags := 33
  interfaces := #[]
  cf := some (fileOf pool0 8 #[] #[{ accessFlags := 1, nameIndex := 5, descriptorIndex := 6, attributes := #[] }] 33 0 #[] #[])
  fields := #[]
  methods := #[k0m0]
  instanceTypes := #[]
  staticTypes := #[]
  resolved := Array.replicate 124 none
  statics := none }

def pool1 : Array CpInfo := pool [(2, .class_ 4), (0, .nameAndType 5 6), (0, u "java/lang/Object"), (0, u "<init>"), (0, u "()V"), (0, .methodref 8 9), (0, .class_ 10), (0, .nameAndType 11 12), (0, u "com/example/bindery/bindery/XmlPositionPassPinLaw"), (0, u "ends"), (0, u "([CII)I"), (0, .methodref 8 14), (0, .nameAndType 15 16), (0, u "term"), (0, u "(C)Z"), (0, .methodref 8 18), (0, .nameAndType 19 20), (0, u "draw"), (0, u "(I)C"), (0, .class_ 22), (0, u "com/example/bindery/bindery/XmlPosition"), (0, .methodref 21 3), (0, .methodref 21 25), (0, .nameAndType 26 27), (0, u "pass"), (0, u "(C)V"), (0, .methodref 21 29), (0, .nameAndType 30 31), (0, u "line"), (0, u "()I"), (0, .methodref 8 33), (0, .nameAndType 30 34), (0, u "([CI)I"), (0, .methodref 21 36), (0, .nameAndType 37 31), (0, u "column"), (0, .methodref 8 39), (0, .nameAndType 40 34), (0, u "col"), (3, u "law"), (0, u "(IIII)Z")] 4

def k1m0 : Method := { name := "<init>", desc := "()V", sig := { parameters := [], returnType := none }, accessFlags := 2, code := none }
def k1c1 : Code := { maxStack := 2, maxLocals := 2, code := method_2_code, exceptionTable := #[], attributes := #[] }
def k1m1 : Method := { name := "draw", desc := "(I)C", sig := { parameters := [.int], returnType := some .char }, accessFlags := 10, code := some k1c1 }
def k1c2 : Code := { maxStack := 2, maxLocals := 1, code := method_3_code, exceptionTable := #[], attributes := #[] }
def k1m2 : Method := { name := "term", desc := "(C)Z", sig := { parameters := [.char], returnType := some .boolean }, accessFlags := 10, code := some k1c2 }
def k1c3 : Code := { maxStack := 3, maxLocals := 3, code := method_4_code, exceptionTable := #[], attributes := #[] }
def k1m3 : Method := { name := "ends", desc := "([CII)I", sig := { parameters := [(.array .char), .int, .int], returnType := some .int }, accessFlags := 10, code := some k1c3 }
def k1c4 : Code := { maxStack := 4, maxLocals := 2, code := method_5_code, exceptionTable := #[], attributes := #[] }
def k1m4 : Method := { name := "line", desc := "([CI)I", sig := { parameters := [(.array .char), .int], returnType := some .int }, accessFlags := 10, code := some k1c4 }
def k1c5 : Code := { maxStack := 2, maxLocals := 3, code := method_6_code, exceptionTable := #[], attributes := #[] }
def k1m5 : Method := { name := "col", desc := "([CI)I", sig := { parameters := [(.array .char), .int], returnType := some .int }, accessFlags := 10, code := some k1c5 }
def k1c6 : Code := { maxStack := 3, maxLocals := 10, code := code, exceptionTable := #[], attributes := #[] }
def k1m6 : Method := { name := "law", desc := "(IIII)Z", sig := { parameters := [.int, .int, .int, .int], returnType := some .boolean }, accessFlags := 9, code := some k1c6 }
/-- com/example/bindery/bindery/XmlPositionPassPinLaw -/
def k1 : Class := { plain "com/example/bindery/bindery/XmlPositionPassPinLaw" (some 0) with
  accessFlags := 49
  interfaces := #[]
  cf := some (fileOf pool1 8 #[] #[{ accessFlags := 2, nameIndex := 5, descriptorIndex := 6, attributes := #[] }, { accessFlags := 10, nameIndex := 19, descriptorIndex := 20, attributes := #[] }, { accessFlags := 10, nameIndex := 15, descriptorIndex := 16, attributes := #[] }, { accessFlags := 10, nameIndex := 11, descriptorIndex := 12, attributes := #[] }, { accessFlags := 10, nameIndex := 30, descriptorIndex := 34, attributes := #[] }, { accessFlags := 10, nameIndex := 40, descriptorIndex := 34, attributes := #[] }, { accessFlags := 9, nameIndex := 44, descriptorIndex := 45, attributes := #[] }] 49 2 #[] #[])
  fields := #[]
  methods := #[k1m0, k1m1, k1m2, k1m3, k1m4, k1m5, k1m6]
  instanceTypes := #[]
  staticTypes := #[]
  resolved := Array.replicate 50 none
  statics := none }

def pool2 : Array CpInfo := pool [(1, .methodref 2 3), (0, .class_ 4), (0, .nameAndType 5 6), (0, u "java/lang/Object"), (0, u "<init>"), (0, u "()V"), (0, .fieldref 8 9), (0, .class_ 10), (0, .nameAndType 11 12), (0, u "com/example/bindery/bindery/XmlPosition"), (0, u "line"), (0, u "I"), (0, .fieldref 8 14), (0, .nameAndType 15 12), (0, u "column"), (0, .fieldref 8 17), (0, .nameAndType 18 19), (0, u "afterCr"), (0, u "Z"), (6, u "pass"), (0, u "(C)V"), (1, u "()I")] 18

def k2c0 : Code := { maxStack := 2, maxLocals := 1, code := prog_75_method_1_code, exceptionTable := #[], attributes := #[] }
def k2m0 : Method := { name := "<init>", desc := "()V", sig := { parameters := [], returnType := none }, accessFlags := 0, code := some k2c0 }
def k2c1 : Code := { maxStack := 3, maxLocals := 2, code := prog_75_method_2_code, exceptionTable := #[], attributes := #[] }
def k2m1 : Method := { name := "pass", desc := "(C)V", sig := { parameters := [.char], returnType := none }, accessFlags := 0, code := some k2c1 }
def k2c2 : Code := { maxStack := 1, maxLocals := 1, code := prog_75_method_3_code, exceptionTable := #[], attributes := #[] }
def k2m2 : Method := { name := "line", desc := "()I", sig := { parameters := [], returnType := some .int }, accessFlags := 0, code := some k2c2 }
def k2c3 : Code := { maxStack := 1, maxLocals := 1, code := prog_75_method_4_code, exceptionTable := #[], attributes := #[] }
def k2m3 : Method := { name := "column", desc := "()I", sig := { parameters := [], returnType := some .int }, accessFlags := 0, code := some k2c3 }
/-- com/example/bindery/bindery/XmlPosition -/
def k2 : Class := { plain "com/example/bindery/bindery/XmlPosition" (some 0) with
  accessFlags := 48
  interfaces := #[]
  cf := some (fileOf pool2 8 #[] #[{ accessFlags := 0, nameIndex := 5, descriptorIndex := 6, attributes := #[] }, { accessFlags := 0, nameIndex := 26, descriptorIndex := 27, attributes := #[] }, { accessFlags := 0, nameIndex := 11, descriptorIndex := 29, attributes := #[] }, { accessFlags := 0, nameIndex := 15, descriptorIndex := 29, attributes := #[] }] 48 2 #[] #[{ accessFlags := 2, nameIndex := 11, descriptorIndex := 12, attributes := #[] }, { accessFlags := 2, nameIndex := 15, descriptorIndex := 12, attributes := #[] }, { accessFlags := 2, nameIndex := 18, descriptorIndex := 19, attributes := #[] }])
  fields := #[{ name := "line", type := .int, accessFlags := 2, slot := 0, constantValue := 0 }, { name := "column", type := .int, accessFlags := 2, slot := 1, constantValue := 0 }, { name := "afterCr", type := .boolean, accessFlags := 2, slot := 2, constantValue := 0 }]
  methods := #[k2m0, k2m1, k2m2, k2m3]
  instanceTypes := #[.int, .int, .boolean]
  staticTypes := #[]
  resolved := Array.replicate 48 none
  statics := none }

def pool3 : Array CpInfo := pool [(1, u "java/lang/Cloneable"), (0, .class_ 1), (0, u "java/lang/Object"), (0, .class_ 3)] 3

/-- java/lang/Cloneable -/
def k3 : Class := { plain "java/lang/Cloneable" (some 0) with
  accessFlags := 1537
  interfaces := #[]
  cf := some (fileOf pool3 2 #[] #[] 1537 4 #[] #[])
  fields := #[]
  methods := #[]
  instanceTypes := #[]
  staticTypes := #[]
  resolved := Array.replicate 8 none
  statics := none }

def pool4 : Array CpInfo := pool [(1, u "java/io/Serializable"), (0, .class_ 1), (0, u "java/lang/Object"), (0, .class_ 3)] 3

/-- java/io/Serializable -/
def k4 : Class := { plain "java/io/Serializable" (some 0) with
  accessFlags := 1537
  interfaces := #[]
  cf := some (fileOf pool4 2 #[] #[] 1537 4 #[] #[])
  fields := #[]
  methods := #[]
  instanceTypes := #[]
  staticTypes := #[]
  resolved := Array.replicate 8 none
  statics := none }

/-- the primitive byte -/
def k5 : Class := { plain "byte" none with kind := .primitive 'B', accessFlags := 0x411 }
/-- [B -/
def k6 : Class := { plain "[B" (some 0) with kind := .array 5 .byte, interfaces := #[3, 4], accessFlags := 1041 }

/-- the primitive char -/
def k7 : Class := { plain "char" none with kind := .primitive 'C', accessFlags := 0x411 }
/-- [C -/
def k8 : Class := { plain "[C" (some 0) with kind := .array 7 .char, interfaces := #[3, 4], accessFlags := 1041 }

/-- the primitive int -/
def k9 : Class := { plain "int" none with kind := .primitive 'I', accessFlags := 0x411 }
/-- [I -/
def k10 : Class := { plain "[I" (some 0) with kind := .array 9 .int, interfaces := #[3, 4], accessFlags := 1041 }

def heap : Heap := #[]
def classes : Array Class := #[k0, k1, k2, k3, k4, k5, k6, k7, k8, k9, k10]
def interned : List (Array UInt16 × Addr) := []
def slotsUsed : Nat := 0
def theMethod : MethodId := ⟨1, 6⟩
def args0 : Array Value := #[.int 5, .int 7, .int 8, .int 0]
def aboutOver (below : List Frame) : State where
  vm := { classes := classes, interned := interned.toArray }
  heap := heap
  slotsUsed := slotsUsed
  threads := #[{ frames := .invoking theMethod args0 :: below }]
def below0 : List Frame := [.native { method := ⟨0, 0⟩, args := #[] }]
def about1 : State := aboutOver below0
def p0 : Program := .bare "" "" ""
def e0 : Env := launch0.env 0 0 0
theorem w_frames : about1.frames = Frame.invoking theMethod args0 :: below0 := rfl
set_option maxRecDepth 65536 in
theorem w_args : argsFit about1.vm theMethod args0 = true := by decide +kernel
set_option maxRecDepth 65536 in
theorem w_heap : heapFits about1 = true := by decide +kernel
set_option maxRecDepth 65536 in
theorem w_runnable : about1.curStatus? = some .runnable := by decide +kernel
set_option maxRecDepth 65536 in
theorem w_alone : about1.alone = true := by decide +kernel
set_option maxRecDepth 65536 in
theorem w_named : about1.methodNamed? x = some theMethod := by decide +kernel
set_option maxRecDepth 65536 in
theorem w_hears : about1.hears theMethod below0 = true := by decide +kernel
set_option maxRecDepth 65536 in
theorem w_ripe : about1.ripe theMethod args0 below0 = true := by decide +kernel
theorem w_running : about1.status = .running := rfl
set_option maxRecDepth 65536 in
theorem w_room : about1.hasRoom e0.platform room_1 = true :=
  launch0.hasRoom_least _ room_1 (by decide +kernel) (by decide +kernel) (by decide +kernel) (by decide +kernel) (by decide +kernel) (by decide +kernel)
theorem allAtoms_all (ts : List Jvm.Cond) (a : Array Jvm.Value) (st : Jvm.State) : (allAtoms ts).before a st = ts.all (fun c => c.before a st) := by
  induction ts with
  | nil => rfl
  | cons c t ih =>
    show (Jvm.Cond.and c (allAtoms t)).before a st = _
    rw [Jvm.Cond.before_and, ih, List.all_cons]
def words1 : List Jvm.Cond := Jvm.Cond.code x code maxLocals ret :: tables_1
/-- a 'code' word, met by the world's own term for the bytes: nothing is compared byte by byte -/
theorem code_word {y : MethodName} {bytes : ByteArray} {mx : Nat} {rt : Option FieldType} {a : Array Value} {s : State} {m : MethodId} {meth : Method} {c : Code} (h1 : s.methodNamed? y = some m) (h2 : s.vm.method? m = some meth) (h3 : meth.code = some c) (h4 : c.code = bytes)
    (h5 : (c.maxLocals == mx && c.exceptionTable.isEmpty && decide (c.maxStack ≤ mostOperands) && decide (meth.sig.returnType = rt) && !meth.locks && decide (parseMethodDescriptor y.desc = some meth.sig)) = true) : (Jvm.Cond.code y bytes mx rt).before a s = true := by
  simp only [Bool.and_eq_true, beq_iff_eq, Bool.not_eq_true', decide_eq_true_eq] at h5
  obtain ⟨⟨⟨⟨⟨g1, g2⟩, g3⟩, g4⟩, g5⟩, g6⟩ := h5
  simp [Cond.before, Cond.holds, Cond.value, h1, h2, h3, h4, g1, g2, g3, g4, g5, g6]
def isCode : Jvm.Cond → Bool
  | .code _ _ _ _ => true
  | _ => false
theorem all_split {L : List Jvm.Cond} {P : Jvm.Cond → Bool} (h1 : L.all (fun c => isCode c || P c) = true) (h2 : ∀ c ∈ L.filter isCode, P c = true) : L.all P = true := by
  refine List.all_eq_true.mpr fun c hc => ?_
  have h := List.all_eq_true.mp h1 c hc
  rcases Bool.eq_false_or_eq_true (isCode c) with hi | hi
  · exact h2 c (List.mem_filter.mpr ⟨hc, hi⟩)
  · simpa [hi] using h
set_option maxRecDepth 65536 in
theorem w_c0 : (Jvm.Cond.code x code maxLocals ret).before args0 about1 = true := code_word (m := ⟨1, 6⟩) (meth := k1m6) (c := k1c6) (by decide +kernel) rfl rfl rfl (by decide +kernel)
set_option maxRecDepth 65536 in
theorem w_c1 : (Jvm.Cond.code ({ cls := "com/example/bindery/bindery/XmlPositionPassPinLaw", name := "draw", desc := "(I)C" } : Jvm.MethodName) method_2_code (2 : Nat) (Option.some Jvm.ClassFile.FieldType.char)).before args0 about1 = true := code_word (m := ⟨1, 1⟩) (meth := k1m1) (c := k1c1) (by decide +kernel) rfl rfl rfl (by decide +kernel)
set_option maxRecDepth 65536 in
theorem w_c2 : (Jvm.Cond.code ({ cls := "com/example/bindery/bindery/XmlPosition", name := "<init>", desc := "()V" } : Jvm.MethodName) prog_75_method_1_code (1 : Nat) (Option.none : Option Jvm.ClassFile.FieldType)).before args0 about1 = true := code_word (m := ⟨2, 0⟩) (meth := k2m0) (c := k2c0) (by decide +kernel) rfl rfl rfl (by decide +kernel)
set_option maxRecDepth 65536 in
theorem w_c3 : (Jvm.Cond.code ({ cls := "java/lang/Object", name := "<init>", desc := "()V" } : Jvm.MethodName) object_method_1_code (1 : Nat) (Option.none : Option Jvm.ClassFile.FieldType)).before args0 about1 = true := code_word (m := ⟨0, 0⟩) (meth := k0m0) (c := k0c0) (by decide +kernel) rfl rfl rfl (by decide +kernel)
set_option maxRecDepth 65536 in
theorem w_c4 : (Jvm.Cond.code ({ cls := "com/example/bindery/bindery/XmlPosition", name := "pass", desc := "(C)V" } : Jvm.MethodName) prog_75_method_2_code (2 : Nat) (Option.none : Option Jvm.ClassFile.FieldType)).before args0 about1 = true := code_word (m := ⟨2, 1⟩) (meth := k2m1) (c := k2c1) (by decide +kernel) rfl rfl rfl (by decide +kernel)
set_option maxRecDepth 65536 in
theorem w_c5 : (Jvm.Cond.code ({ cls := "com/example/bindery/bindery/XmlPosition", name := "line", desc := "()I" } : Jvm.MethodName) prog_75_method_3_code (1 : Nat) (Option.some Jvm.ClassFile.FieldType.int)).before args0 about1 = true := code_word (m := ⟨2, 2⟩) (meth := k2m2) (c := k2c2) (by decide +kernel) rfl rfl rfl (by decide +kernel)
set_option maxRecDepth 65536 in
theorem w_c6 : (Jvm.Cond.code ({ cls := "com/example/bindery/bindery/XmlPositionPassPinLaw", name := "line", desc := "([CI)I" } : Jvm.MethodName) method_5_code (2 : Nat) (Option.some Jvm.ClassFile.FieldType.int)).before args0 about1 = true := code_word (m := ⟨1, 4⟩) (meth := k1m4) (c := k1c4) (by decide +kernel) rfl rfl rfl (by decide +kernel)
set_option maxRecDepth 65536 in
theorem w_c7 : (Jvm.Cond.code ({ cls := "com/example/bindery/bindery/XmlPositionPassPinLaw", name := "ends", desc := "([CII)I" } : Jvm.MethodName) method_4_code (3 : Nat) (Option.some Jvm.ClassFile.FieldType.int)).before args0 about1 = true := code_word (m := ⟨1, 3⟩) (meth := k1m3) (c := k1c3) (by decide +kernel) rfl rfl rfl (by decide +kernel)
set_option maxRecDepth 65536 in
theorem w_c8 : (Jvm.Cond.code ({ cls := "com/example/bindery/bindery/XmlPosition", name := "column", desc := "()I" } : Jvm.MethodName) prog_75_method_4_code (1 : Nat) (Option.some Jvm.ClassFile.FieldType.int)).before args0 about1 = true := code_word (m := ⟨2, 3⟩) (meth := k2m3) (c := k2c3) (by decide +kernel) rfl rfl rfl (by decide +kernel)
set_option maxRecDepth 65536 in
theorem w_c9 : (Jvm.Cond.code ({ cls := "com/example/bindery/bindery/XmlPositionPassPinLaw", name := "col", desc := "([CI)I" } : Jvm.MethodName) method_6_code (3 : Nat) (Option.some Jvm.ClassFile.FieldType.int)).before args0 about1 = true := code_word (m := ⟨1, 5⟩) (meth := k1m5) (c := k1c5) (by decide +kernel) rfl rfl rfl (by decide +kernel)
set_option maxRecDepth 65536 in
theorem w_c10 : (Jvm.Cond.code ({ cls := "com/example/bindery/bindery/XmlPositionPassPinLaw", name := "term", desc := "(C)Z" } : Jvm.MethodName) method_3_code (1 : Nat) (Option.some Jvm.ClassFile.FieldType.boolean)).before args0 about1 = true := code_word (m := ⟨1, 2⟩) (meth := k1m2) (c := k1c2) (by decide +kernel) rfl rfl rfl (by decide +kernel)
def codes1 : List Jvm.Cond := [Jvm.Cond.code x code maxLocals ret, Jvm.Cond.code ({ cls := "com/example/bindery/bindery/XmlPositionPassPinLaw", name := "draw", desc := "(I)C" } : Jvm.MethodName) method_2_code (2 : Nat) (Option.some Jvm.ClassFile.FieldType.char), Jvm.Cond.code ({ cls := "com/example/bindery/bindery/XmlPosition", name := "<init>", desc := "()V" } : Jvm.MethodName) prog_75_method_1_code (1 : Nat) (Option.none : Option Jvm.ClassFile.FieldType), Jvm.Cond.code ({ cls := "java/lang/Object", name := "<init>", desc := "()V" } : Jvm.MethodName) object_method_1_code (1 : Nat) (Option.none : Option Jvm.ClassFile.FieldType), Jvm.Cond.code ({ cls := "com/example/bindery/bindery/XmlPosition", name := "pass", desc := "(C)V" } : Jvm.MethodName) prog_75_method_2_code (2 : Nat) (Option.none : Option Jvm.ClassFile.FieldType), Jvm.Cond.code ({ cls := "com/example/bindery/bindery/XmlPosition", name := "line", desc := "()I" } : Jvm.MethodName) prog_75_method_3_code (1 : Nat) (Option.some Jvm.ClassFile.FieldType.int), Jvm.Cond.code ({ cls := "com/example/bindery/bindery/XmlPositionPassPinLaw", name := "line", desc := "([CI)I" } : Jvm.MethodName) method_5_code (2 : Nat) (Option.some Jvm.ClassFile.FieldType.int), Jvm.Cond.code ({ cls := "com/example/bindery/bindery/XmlPositionPassPinLaw", name := "ends", desc := "([CII)I" } : Jvm.MethodName) method_4_code (3 : Nat) (Option.some Jvm.ClassFile.FieldType.int), Jvm.Cond.code ({ cls := "com/example/bindery/bindery/XmlPosition", name := "column", desc := "()I" } : Jvm.MethodName) prog_75_method_4_code (1 : Nat) (Option.some Jvm.ClassFile.FieldType.int), Jvm.Cond.code ({ cls := "com/example/bindery/bindery/XmlPositionPassPinLaw", name := "col", desc := "([CI)I" } : Jvm.MethodName) method_6_code (3 : Nat) (Option.some Jvm.ClassFile.FieldType.int), Jvm.Cond.code ({ cls := "com/example/bindery/bindery/XmlPositionPassPinLaw", name := "term", desc := "(C)Z" } : Jvm.MethodName) method_3_code (1 : Nat) (Option.some Jvm.ClassFile.FieldType.boolean)]
set_option maxRecDepth 65536 in
theorem codes_eq : words1.filter isCode = codes1 := rfl
theorem w_codes : ∀ c ∈ words1.filter isCode, c.before args0 about1 = true := by
  rw [codes_eq]
  intro c hc
  simp only [codes1, List.mem_cons, List.not_mem_nil, or_false] at hc
  rcases hc with rfl | rfl | rfl | rfl | rfl | rfl | rfl | rfl | rfl | rfl | rfl
  · exact w_c0
  · exact w_c1
  · exact w_c2
  · exact w_c3
  · exact w_c4
  · exact w_c5
  · exact w_c6
  · exact w_c7
  · exact w_c8
  · exact w_c9
  · exact w_c10
set_option maxRecDepth 65536 in
theorem w_t1 : (words1.take 24).all (fun c => isCode c || c.before args0 about1) = true := by decide +kernel
set_option maxRecDepth 65536 in
theorem w_t2 : (words1.drop 24).all (fun c => isCode c || c.before args0 about1) = true := by decide +kernel
theorem w_tables : (allAtoms (Jvm.Cond.code x code maxLocals ret :: tables_1)).before args0 about1 = true := by
  rw [allAtoms_all]
  show words1.all (fun c => c.before args0 about1) = true
  refine all_split ?_ w_codes
  rw [← List.take_append_drop 24 words1, List.all_append, w_t1, w_t2]
  rfl
set_option maxRecDepth 65536 in
theorem w_case : (Jvm.Cond.and given_1 narrow_1).before args0 about1 = true := by decide +kernel
theorem w_applies : (headSpec (Jvm.Cond.code x code maxLocals ret :: tables_1) room_1).applies x e0.platform about1 = true :=
  (Spec.applies_iff w_frames).mpr ⟨w_running, w_runnable, w_alone, w_named, w_hears, w_ripe, w_room, w_tables⟩
theorem atStart : AtStart classFile x code maxLocals ret World_1 tables_1 room_1 Calls_1 rest_1 Pre_1 launch0 p0 e0 about1 theMethod args0 below0 :=
  ⟨lists_1, trivial, launch0.admits_env _ _ _, launch0.least_env, fairChoices_fair.cas, fairChoices_fair.clock, w_frames, w_args, w_heap, w_applies, trivial, trivial, w_case⟩
end start1
theorem witness_1 : WitnessClaimed_1 := ⟨start1.p0, start1.e0, start1.about1, start1.theMethod, start1.args0, start1.below0, start1.atStart⟩
end Jvm.Pilot.@@N@@
