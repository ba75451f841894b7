import JvmDerived
import JvmDerived.Pilot.@@N@@Statement
import JvmDerived.Pilot.@@N@@Code
set_option linter.unusedVariables false
set_option linter.unusedSimpArgs false
namespace Jvm.RoadKit
open Sem ClassFile Op Lib Jvm.Stand Jvm.Free Jvm.LawKit
section New
variable {p : Program} {l : Launch} {e : Env} {R : Room} {s : State} {m : MethodId} {args : Array Value} {below : List Frame} {meth : Method} {c : Code} {T : State} {locs : List Loc} {cells slots : Nat}
theorem retI (X : Stand p l e R s m args below meth c T locs cells slots) (hx : p.tables.exec = Jvm.exec) {pc : Nat} {Ls : Array Slot} {z : Int32} {rest : List Value} (hret : meth.sig.returnType = some .int) (hd : decode c.code pc = .ok (.ireturn, 1)) {fs : List Frame}
    (hl : ∀ (f : JFrame) (acts : List Action), f.method = m → f.locked = none → f.entered = [] → (doReturn e (T.setTop f) acts (some (.int z))).1 = T.setFrames fs) : Steps p.tables e below (T.setTop (mkF m pc Ls (.int z :: rest))) (T.setFrames fs) := by
  have hm' : T.vm.method? m = some meth := X.method'
  have hn : narrow .int (.int z) = .int z := rfl
  show Steps p.tables e below (T.setTop { method := m, pc := pc, locals := Ls, stack := _ :: rest, locked := none }) _
  jvm_step X.here [X.here.top, hx, hd, hm', hret, hn]
  first | (intro acts; rw [hl _ acts rfl rfl rfl]) | rw [hl _ _ rfl rfl rfl]
  exact Steps.refl _
end New
end Jvm.RoadKit
namespace Jvm.Pilot.@@N@@
open Jvm Jvm.ClassFile Sem Op Lib Jvm.Free Jvm.Stand Jvm.LawKit Jvm.RoadKit Bundle Jvm.Pilot.@@N@@.Jvm.D
/-- what a walk owes from the state S on -/
def own_G (p : Program) (e : Env) (below : List Frame) (R : State → Outcome → Prop) (S : State) : Prop := ∃ t o, Steps p.tables e below S t ∧ R t o
theorem own_back {p : Program} {e : Env} {below : List Frame} {R : State → Outcome → Prop} {S S' : State} (k : ∀ t, Steps p.tables e below S' t → Steps p.tables e below S t) (h : own_G p e below R S') : own_G p e below R S := by
  obtain ⟨t, o, h1, h2⟩ := h
  exact ⟨t, o, k t h1, h2⟩
theorem own_open {p : Program} {e : Env} {below : List Frame} {R : State → Outcome → Prop} {S S' : State} (k : ∀ t, Steps p.tables e below S' t → Steps p.tables e below S t) (h : own_G p e below R S') : ∃ t o, Steps p.tables e below S t ∧ R t o := own_back k h
theorem own_done {p : Program} {e : Env} {below : List Frame} {R : State → Outcome → Prop} {S : State} (h : ∃ t o, Steps p.tables e below S t ∧ R t o) : own_G p e below R S := h
theorem own_ord {args : Array Value} {s : State} {t : Term} {C n d : String} {k : Int32} {a : Addr} (ht : t.eval args s none [] s = some (.ref a)) (h : (Cond.eq (Term.field t C n d) (Term.int k)).value args s none s [] = some true) : s.fieldOf? a C n d = some (.int k) := by
  have e1 : (Term.field t C n d).eval args s none [] s = s.fieldOf? a C n d := fld_at ht
  have e2 : (Term.int k).eval args s none [] s = some (.int k) := Term.int_eval k
  cases hf : s.fieldOf? a C n d with
  | none => rw [hf] at e1; simp [Cond.value, e1, e2] at h
  | some v => rw [hf] at e1; cases v <;> simp [Cond.value, e1, e2] at h ⊢; exact h
theorem own_ne {s : State} {C n d : String} {a b : Addr} {k k' : Int32} (h1 : s.fieldOf? a C n d = some (.int k)) (h2 : s.fieldOf? b C n d = some (.int k')) (hk : k ≠ k') : ¬ (a = b) := fun q => by
  subst q
  exact hk (Value.int.inj (Option.some.inj (h1.symm.trans h2)))
def own_max (x y : Int64) : Int64 := if x < y then y else x
def own_min (x y : Int64) : Int64 := if y < x then y else x
def own_buy (x y : Int64) : Int32 := if x < y then 0 else 1
def own_sell (x y : Int64) : Int32 := if y < x then 0 else 1
theorem own_le (p o : Int64) : ¬ (own_max p o < own_min p o) := by
  unfold own_max own_min
  by_cases h1 : p < o
  · rw [if_pos h1]
    by_cases h2 : o < p
    · rw [if_pos h2]; exact Int64.lt_irrefl
    · rw [if_neg h2]; exact h2
  · rw [if_neg h1]
    by_cases h2 : o < p
    · rw [if_pos h2]; exact h1
    · rw [if_neg h2]; exact Int64.lt_irrefl
theorem own_b1 (p o : Int64) : ¬ (own_buy (own_max p o) (own_min p o) = (0 : Int32)) := by
  unfold own_buy; rw [if_neg (own_le p o)]; decide
theorem own_s1 (p o : Int64) : ¬ (own_sell (own_min p o) (own_max p o) = (0 : Int32)) := by
  unfold own_sell; rw [if_neg (own_le p o)]; decide
theorem own_lt (p o : Int64) (h : ¬ (own_max p o = own_min p o)) : own_min p o < own_max p o := by
  have h1 := own_le p o
  rw [← Int64.toInt_inj] at h
  rw [Int64.lt_iff_toInt_lt] at *
  omega
theorem own_b2 (p o : Int64) (h : ¬ (own_max p o = own_min p o)) : own_buy (own_min p o) (own_max p o) = (0 : Int32) := by
  unfold own_buy; rw [if_pos (own_lt p o h)]
theorem own_s2 (p o : Int64) (h : ¬ (own_max p o = own_min p o)) : own_sell (own_max p o) (own_min p o) = (0 : Int32) := by
  unfold own_sell; rw [if_pos (own_lt p o h)]
theorem d1_0 : decode jdk_29_method_66_code 0 = .ok (.lload_n 0, 1) := by decide +kernel
theorem d1_1 : decode jdk_29_method_66_code 1 = .ok (.lload_n 2, 1) := by decide +kernel
theorem d1_2 : decode jdk_29_method_66_code 2 = .ok (.lcmp, 1) := by decide +kernel
theorem d1_3 : decode jdk_29_method_66_code 3 = .ok (.ifCond .lt 7, 3) := by decide +kernel
theorem d1_6 : decode jdk_29_method_66_code 6 = .ok (.lload_n 0, 1) := by decide +kernel
theorem d1_7 : decode jdk_29_method_66_code 7 = .ok (.goto 4, 3) := by decide +kernel
theorem d1_10 : decode jdk_29_method_66_code 10 = .ok (.lload_n 2, 1) := by decide +kernel
theorem d1_11 : decode jdk_29_method_66_code 11 = .ok (.lreturn, 1) := by decide +kernel
theorem ef_1 (m : MethodId) (x0 : Int64) (x1 : Int64) : entryFrame m #[(.long x0), (.long x1)] 4 = mkF m 0 #[.val (.long x0), .second, .val (.long x1), .second] [] := by first | (simp [entryFrame, mkF, argsToLocals, Value.category]; done) | rfl
def Q1 (Z : State) (q1 : Int64) (q2 : Int64) (h0 : Heap) (n0 : Nat) (v : Option Value) (h : Heap) (L : List Loc) : Prop := v = some (.long (own_max q1 q2)) ∧ Fr n0 L ∧ h = h0
set_option maxRecDepth 65536 in
set_option maxHeartbeats 40000000 in
theorem rm1 (l : Launch) (Z : State) (a0 : Array Value) (hw : ∀ d ∈ tables_1, d.before a0 Z = true) (ws : List Jvm.Cond) (q1 : Int64) (q2 : Int64) (h0 : Heap) (n0 : Nat) (Z0 : n0 ≤ h0.size) :
    MetFree l (⟨"java/lang/Math", "max", "(JJ)J"⟩ : MethodName) (head1 (Jvm.Cond.code (⟨"java/lang/Math", "max", "(JJ)J"⟩ : MethodName) jdk_29_method_66_code 4 (some .long) :: ws) ({ frames := 0, cells := 0, slots := 0, locals := 0 } : Room)) (fun a U => a = #[(.long q1), (.long q2)] ∧ Z.Warmed39 U.vm ∧ U.heap = h0) (fun _ _ _ _ _ => True) (fun _ U o U' => ∃ v L, o = .returned v ∧ Q1 Z q1 q2 h0 n0 v U'.heap L ∧ FrameEnd U o U' L ({ frames := 0, cells := 0, slots := 0, locals := 0 } : Room).cells ({ frames := 0, cells := 0, slots := 0, locals := 0 } : Room).slots) := by
  refine MetFree.of_bodySF (Jvm.Free.JP.mathPlain rfl (by decide +kernel)) hisR ?_
  intro p e s m args below meth c s₁ Bd hml0 hP hK
  obtain ⟨rfl, hZ, hh⟩ := hP
  have hx := Bd.exec
  have hby := Bd.bytes
  have hml : c.maxLocals = 4 := hml0
  have hown : s.vm.findClass "java/lang/Math" = some m.cls := findClass_of_methodNamed Bd.named
  have hnm := (name_of_methodNamed Bd.named Bd.method).1
  have X0 : Stand p l e ({ frames := 0, cells := 0, slots := 0, locals := 0 } : Room) s m #[(.long q1), (.long q2)] below meth c s₁ [] 0 0 := Stand.of_body Bd
  have e0 : s₁.heap = h0 := by rw [← hh, Bd.state]; rfl
  have N0 := Fr.nil n0
  refine own_open (S' := s₁.setTop (mkF m 0 #[.val (.long q1), .second, .val (.long q2), .second] [])) (fun t k => castTop (ef_1 m q1 q2) k) ?_
  refine own_back (S' := s₁.setTop (mkF m 1 #[.val (.long q1), .second, .val (.long q2), .second] [(.long q1)])) (fun _ k => XS.lloadN X0.here hx rfl (hb hby d1_0) rfl k) ?_
  refine own_back (S' := s₁.setTop (mkF m 2 #[.val (.long q1), .second, .val (.long q2), .second] [(.long q2), (.long q1)])) (fun _ k => XS.lloadN X0.here hx rfl (hb hby d1_1) rfl k) ?_
  refine own_back (S' := s₁.setTop (mkF m 3 #[.val (.long q1), .second, .val (.long q2), .second] [(.int (lcmpW q1 q2))])) (fun _ k => XS.lcmp X0.here hx rfl (hb hby d1_2) rfl k) ?_
  by_cases hc3_1 : q1 < q2
  ·
    refine own_back (S' := s₁.setTop (mkF m 10 #[.val (.long q1), .second, .val (.long q2), .second] [])) (fun _ k => XS.ifYes X0.here hx rfl (pc0 := 3) (pc' := 10) rfl (hb hby d1_3) rfl ((if0 _ _).trans (tlt ((lw_lt _ _).mpr hc3_1)).1) (by decide) (by decide) k) ?_
    refine own_back (S' := s₁.setTop (mkF m 11 #[.val (.long q1), .second, .val (.long q2), .second] [(.long q2)])) (fun _ k => XS.lloadN X0.here hx rfl (hb hby d1_10) rfl k) ?_
    obtain ⟨fs, hr, hrun, hended, hW, hsame⟩ := X0.leave (v := some (.long q2)) (fun h => by rw [Bd.returns] at h; cases h)
    refine own_done ⟨_, _, retOut X0 hx (t := .long) Bd.returns rfl (Or.inr (Or.inl ⟨rfl, rfl, _, rfl⟩)) (hb hby d1_11) hr, hrun, hended, _, _, rfl, ?_, ⟨_, rfl⟩, hW, hsame.mono (by decide) (by decide)⟩
    show Q1 Z q1 q2 h0 n0 _ s₁.heap _
    rw [e0]
    exact ⟨by unfold own_max; rw [if_pos hc3_1], N0, rfl⟩
  ·
    refine own_back (S' := s₁.setTop (mkF m 6 #[.val (.long q1), .second, .val (.long q2), .second] [])) (fun _ k => XS.ifNo X0.here hx rfl (hb hby d1_3) rfl ((if0 _ _).trans (flt (fun q_ => hc3_1 ((lw_lt _ _).mp q_))).1) k) ?_
    refine own_back (S' := s₁.setTop (mkF m 7 #[.val (.long q1), .second, .val (.long q2), .second] [(.long q1)])) (fun _ k => XS.lloadN X0.here hx rfl (hb hby d1_6) rfl k) ?_
    refine own_back (S' := s₁.setTop (mkF m 11 #[.val (.long q1), .second, .val (.long q2), .second] [(.long q1)])) (fun _ k => XS.goto X0.here hx rfl (pc0 := 7) (pc' := 11) rfl (hb hby d1_7) (by decide) (by decide) k) ?_
    obtain ⟨fs, hr, hrun, hended, hW, hsame⟩ := X0.leave (v := some (.long q1)) (fun h => by rw [Bd.returns] at h; cases h)
    refine own_done ⟨_, _, retOut X0 hx (t := .long) Bd.returns rfl (Or.inr (Or.inl ⟨rfl, rfl, _, rfl⟩)) (hb hby d1_11) hr, hrun, hended, _, _, rfl, ?_, ⟨_, rfl⟩, hW, hsame.mono (by decide) (by decide)⟩
    show Q1 Z q1 q2 h0 n0 _ s₁.heap _
    rw [e0]
    exact ⟨by unfold own_max; rw [if_neg hc3_1], N0, rfl⟩
theorem d2_0 : decode jdk_29_method_70_code 0 = .ok (.lload_n 0, 1) := by decide +kernel
theorem d2_1 : decode jdk_29_method_70_code 1 = .ok (.lload_n 2, 1) := by decide +kernel
theorem d2_2 : decode jdk_29_method_70_code 2 = .ok (.lcmp, 1) := by decide +kernel
theorem d2_3 : decode jdk_29_method_70_code 3 = .ok (.ifCond .gt 7, 3) := by decide +kernel
theorem d2_6 : decode jdk_29_method_70_code 6 = .ok (.lload_n 0, 1) := by decide +kernel
theorem d2_7 : decode jdk_29_method_70_code 7 = .ok (.goto 4, 3) := by decide +kernel
theorem d2_10 : decode jdk_29_method_70_code 10 = .ok (.lload_n 2, 1) := by decide +kernel
theorem d2_11 : decode jdk_29_method_70_code 11 = .ok (.lreturn, 1) := by decide +kernel
theorem ef_2 (m : MethodId) (x0 : Int64) (x1 : Int64) : entryFrame m #[(.long x0), (.long x1)] 4 = mkF m 0 #[.val (.long x0), .second, .val (.long x1), .second] [] := by first | (simp [entryFrame, mkF, argsToLocals, Value.category]; done) | rfl
def Q2 (Z : State) (q1 : Int64) (q2 : Int64) (h0 : Heap) (n0 : Nat) (v : Option Value) (h : Heap) (L : List Loc) : Prop := v = some (.long (own_min q1 q2)) ∧ Fr n0 L ∧ h = h0
set_option maxRecDepth 65536 in
set_option maxHeartbeats 40000000 in
theorem rm2 (l : Launch) (Z : State) (a0 : Array Value) (hw : ∀ d ∈ tables_1, d.before a0 Z = true) (ws : List Jvm.Cond) (q1 : Int64) (q2 : Int64) (h0 : Heap) (n0 : Nat) (Z0 : n0 ≤ h0.size) :
    MetFree l (⟨"java/lang/Math", "min", "(JJ)J"⟩ : MethodName) (head1 (Jvm.Cond.code (⟨"java/lang/Math", "min", "(JJ)J"⟩ : MethodName) jdk_29_method_70_code 4 (some .long) :: ws) ({ frames := 0, cells := 0, slots := 0, locals := 0 } : Room)) (fun a U => a = #[(.long q1), (.long q2)] ∧ Z.Warmed39 U.vm ∧ U.heap = h0) (fun _ _ _ _ _ => True) (fun _ U o U' => ∃ v L, o = .returned v ∧ Q2 Z q1 q2 h0 n0 v U'.heap L ∧ FrameEnd U o U' L ({ frames := 0, cells := 0, slots := 0, locals := 0 } : Room).cells ({ frames := 0, cells := 0, slots := 0, locals := 0 } : Room).slots) := by
  refine MetFree.of_bodySF (Jvm.Free.JP.mathPlain rfl (by decide +kernel)) hisR ?_
  intro p e s m args below meth c s₁ Bd hml0 hP hK
  obtain ⟨rfl, hZ, hh⟩ := hP
  have hx := Bd.exec
  have hby := Bd.bytes
  have hml : c.maxLocals = 4 := hml0
  have hown : s.vm.findClass "java/lang/Math" = some m.cls := findClass_of_methodNamed Bd.named
  have hnm := (name_of_methodNamed Bd.named Bd.method).1
  have X0 : Stand p l e ({ frames := 0, cells := 0, slots := 0, locals := 0 } : Room) s m #[(.long q1), (.long q2)] below meth c s₁ [] 0 0 := Stand.of_body Bd
  have e0 : s₁.heap = h0 := by rw [← hh, Bd.state]; rfl
  have N0 := Fr.nil n0
  refine own_open (S' := s₁.setTop (mkF m 0 #[.val (.long q1), .second, .val (.long q2), .second] [])) (fun t k => castTop (ef_2 m q1 q2) k) ?_
  refine own_back (S' := s₁.setTop (mkF m 1 #[.val (.long q1), .second, .val (.long q2), .second] [(.long q1)])) (fun _ k => XS.lloadN X0.here hx rfl (hb hby d2_0) rfl k) ?_
  refine own_back (S' := s₁.setTop (mkF m 2 #[.val (.long q1), .second, .val (.long q2), .second] [(.long q2), (.long q1)])) (fun _ k => XS.lloadN X0.here hx rfl (hb hby d2_1) rfl k) ?_
  refine own_back (S' := s₁.setTop (mkF m 3 #[.val (.long q1), .second, .val (.long q2), .second] [(.int (lcmpW q1 q2))])) (fun _ k => XS.lcmp X0.here hx rfl (hb hby d2_2) rfl k) ?_
  by_cases hc3_1 : q2 < q1
  ·
    refine own_back (S' := s₁.setTop (mkF m 10 #[.val (.long q1), .second, .val (.long q2), .second] [])) (fun _ k => XS.ifYes X0.here hx rfl (pc0 := 3) (pc' := 10) rfl (hb hby d2_3) rfl ((if0 _ _).trans (tlt ((lw_gt _ _).mpr hc3_1)).2.2.1) (by decide) (by decide) k) ?_
    refine own_back (S' := s₁.setTop (mkF m 11 #[.val (.long q1), .second, .val (.long q2), .second] [(.long q2)])) (fun _ k => XS.lloadN X0.here hx rfl (hb hby d2_10) rfl k) ?_
    obtain ⟨fs, hr, hrun, hended, hW, hsame⟩ := X0.leave (v := some (.long q2)) (fun h => by rw [Bd.returns] at h; cases h)
    refine own_done ⟨_, _, retOut X0 hx (t := .long) Bd.returns rfl (Or.inr (Or.inl ⟨rfl, rfl, _, rfl⟩)) (hb hby d2_11) hr, hrun, hended, _, _, rfl, ?_, ⟨_, rfl⟩, hW, hsame.mono (by decide) (by decide)⟩
    show Q2 Z q1 q2 h0 n0 _ s₁.heap _
    rw [e0]
    exact ⟨by unfold own_min; rw [if_pos hc3_1], N0, rfl⟩
  ·
    refine own_back (S' := s₁.setTop (mkF m 6 #[.val (.long q1), .second, .val (.long q2), .second] [])) (fun _ k => XS.ifNo X0.here hx rfl (hb hby d2_3) rfl ((if0 _ _).trans (flt (fun q_ => hc3_1 ((lw_gt _ _).mp q_))).2.2.1) k) ?_
    refine own_back (S' := s₁.setTop (mkF m 7 #[.val (.long q1), .second, .val (.long q2), .second] [(.long q1)])) (fun _ k => XS.lloadN X0.here hx rfl (hb hby d2_6) rfl k) ?_
    refine own_back (S' := s₁.setTop (mkF m 11 #[.val (.long q1), .second, .val (.long q2), .second] [(.long q1)])) (fun _ k => XS.goto X0.here hx rfl (pc0 := 7) (pc' := 11) rfl (hb hby d2_7) (by decide) (by decide) k) ?_
    obtain ⟨fs, hr, hrun, hended, hW, hsame⟩ := X0.leave (v := some (.long q1)) (fun h => by rw [Bd.returns] at h; cases h)
    refine own_done ⟨_, _, retOut X0 hx (t := .long) Bd.returns rfl (Or.inr (Or.inl ⟨rfl, rfl, _, rfl⟩)) (hb hby d2_11) hr, hrun, hended, _, _, rfl, ?_, ⟨_, rfl⟩, hW, hsame.mono (by decide) (by decide)⟩
    show Q2 Z q1 q2 h0 n0 _ s₁.heap _
    rw [e0]
    exact ⟨by unfold own_min; rw [if_neg hc3_1], N0, rfl⟩
theorem d3_0 : decode prog_36_method_6_code 0 = .ok (.aload_n 0, 1) := by decide +kernel
theorem d3_1 : decode prog_36_method_6_code 1 = .ok (.getstatic 3, 3) := by decide +kernel
theorem d3_4 : decode prog_36_method_6_code 4 = .ok (.if_acmp .ne 17, 3) := by decide +kernel
theorem d3_7 : decode prog_36_method_6_code 7 = .ok (.lload_n 1, 1) := by decide +kernel
theorem d3_8 : decode prog_36_method_6_code 8 = .ok (.lload_n 3, 1) := by decide +kernel
theorem d3_9 : decode prog_36_method_6_code 9 = .ok (.lcmp, 1) := by decide +kernel
theorem d3_10 : decode prog_36_method_6_code 10 = .ok (.ifCond .lt 7, 3) := by decide +kernel
theorem d3_13 : decode prog_36_method_6_code 13 = .ok (.iconst 1, 1) := by decide +kernel
theorem d3_14 : decode prog_36_method_6_code 14 = .ok (.goto 18, 3) := by decide +kernel
theorem d3_17 : decode prog_36_method_6_code 17 = .ok (.iconst 0, 1) := by decide +kernel
theorem d3_18 : decode prog_36_method_6_code 18 = .ok (.goto 14, 3) := by decide +kernel
theorem d3_32 : decode prog_36_method_6_code 32 = .ok (.ireturn, 1) := by decide +kernel
theorem pn_com_example_openstrike_openstrike_market_Side : plainName "com/example/openstrike/openstrike/market/Side" = true := by first | (simp [plainName, overriddenIn]; done) | decide +kernel
theorem ef_3 (m : MethodId) (x0 : Addr) (x1 : Int64) (x2 : Int64) : entryFrame m #[(.ref x0), (.long x1), (.long x2)] 5 = mkF m 0 #[.val (.ref x0), .val (.long x1), .second, .val (.long x2), .second] [] := by first | (simp [entryFrame, mkF, argsToLocals, Value.category]; done) | rfl
def Q3B (Z : State) (wB : Addr) (q2 : Int64) (q3 : Int64) (h0 : Heap) (n0 : Nat) (v : Option Value) (h : Heap) (L : List Loc) : Prop := v = some (.int (own_buy q2 q3)) ∧ Fr n0 L ∧ h = h0
set_option maxRecDepth 65536 in
set_option maxHeartbeats 40000000 in
theorem rm3B (l : Launch) (Z : State) (a0 : Array Value) (hw : ∀ d ∈ tables_1, d.before a0 Z = true) (ws : List Jvm.Cond) (wB : Addr) (q2 : Int64) (q3 : Int64) (h0 : Heap) (n0 : Nat) (Z0 : n0 ≤ h0.size) (SB : Sta Z h0 "com/example/openstrike/openstrike/market/Side" "BUY" "Lcom/example/openstrike/openstrike/market/Side;" (.ref wB)) :
    MetFree l (⟨"com/example/openstrike/openstrike/market/Side", "locksOrCrosses", "(JJ)Z"⟩ : MethodName) (head1 (Jvm.Cond.code (⟨"com/example/openstrike/openstrike/market/Side", "locksOrCrosses", "(JJ)Z"⟩ : MethodName) prog_36_method_6_code 5 (some .boolean) :: ws) ({ frames := 0, cells := 0, slots := 0, locals := 0 } : Room)) (fun a U => a = #[(.ref wB), (.long q2), (.long q3)] ∧ Z.Warmed39 U.vm ∧ U.heap = h0) (fun _ _ _ _ _ => True) (fun _ U o U' => ∃ v L, o = .returned v ∧ Q3B Z wB q2 q3 h0 n0 v U'.heap L ∧ FrameEnd U o U' L ({ frames := 0, cells := 0, slots := 0, locals := 0 } : Room).cells ({ frames := 0, cells := 0, slots := 0, locals := 0 } : Room).slots) := by
  refine MetFree.of_bodySF (plainFor_of_name pn_com_example_openstrike_openstrike_market_Side) hisR ?_
  intro p e s m args below meth c s₁ Bd hml0 hP hK
  obtain ⟨rfl, hZ, hh⟩ := hP
  have hx := Bd.exec
  have hby := Bd.bytes
  have hml : c.maxLocals = 5 := hml0
  have hown : s.vm.findClass "com/example/openstrike/openstrike/market/Side" = some m.cls := findClass_of_methodNamed Bd.named
  have hnm := (name_of_methodNamed Bd.named Bd.method).1
  have X0 : Stand p l e ({ frames := 0, cells := 0, slots := 0, locals := 0 } : Room) s m #[(.ref wB), (.long q2), (.long q3)] below meth c s₁ [] 0 0 := Stand.of_body Bd
  have e0 : s₁.heap = h0 := by rw [← hh, Bd.state]; rfl
  have N0 := Fr.nil n0
  refine own_open (S' := s₁.setTop (mkF m 0 #[.val (.ref wB), .val (.long q2), .second, .val (.long q3), .second] [])) (fun t k => castTop (ef_3 m wB q2 q3) k) ?_
  refine own_back (S' := s₁.setTop (mkF m 1 #[.val (.ref wB), .val (.long q2), .second, .val (.long q3), .second] [(.ref wB)])) (fun _ k => XS.aloadN X0.here hx rfl (hb hby d3_0) rfl rfl k) ?_
  obtain ⟨T1, X1, e1, st1⟩ := getS2 X0 hx hZ hown (host := "") (Or.inl (hw _ (List.mem_of_getElem? (i := 15) rfl))) Via.refl e0 SB (g := (mkF m 1 #[.val (.ref wB), .val (.long q2), .second, .val (.long q3), .second] [(.ref wB)])) rfl (hb hby d3_1)
  refine own_back (S' := T1.setTop (mkF m 4 #[.val (.ref wB), .val (.long q2), .second, .val (.long q3), .second] [(.ref wB), (.ref wB)])) (st1) ?_
  refine own_back (S' := T1.setTop (mkF m 7 #[.val (.ref wB), .val (.long q2), .second, .val (.long q3), .second] [])) (fun _ k => Jvm.RoadKit.acmp (g := (mkF m 4 #[.val (.ref wB), .val (.long q2), .second, .val (.long q3), .second] [(.ref wB), (.ref wB)])) X1 hx rfl rfl rfl (pc0 := 4) (pc' := 7) (same := true) rfl (hb hby d3_4) rfl (decide_eq_true rfl) (by decide) (by decide) k) ?_
  refine own_back (S' := T1.setTop (mkF m 8 #[.val (.ref wB), .val (.long q2), .second, .val (.long q3), .second] [(.long q2)])) (fun _ k => XS.lloadN X1.here hx rfl (hb hby d3_7) rfl k) ?_
  refine own_back (S' := T1.setTop (mkF m 9 #[.val (.ref wB), .val (.long q2), .second, .val (.long q3), .second] [(.long q3), (.long q2)])) (fun _ k => XS.lloadN X1.here hx rfl (hb hby d3_8) rfl k) ?_
  refine own_back (S' := T1.setTop (mkF m 10 #[.val (.ref wB), .val (.long q2), .second, .val (.long q3), .second] [(.int (lcmpW q2 q3))])) (fun _ k => XS.lcmp X1.here hx rfl (hb hby d3_9) rfl k) ?_
  by_cases hc10_2 : q2 < q3
  ·
    refine own_back (S' := T1.setTop (mkF m 17 #[.val (.ref wB), .val (.long q2), .second, .val (.long q3), .second] [])) (fun _ k => XS.ifYes X1.here hx rfl (pc0 := 10) (pc' := 17) rfl (hb hby d3_10) rfl ((if0 _ _).trans (tlt ((lw_lt _ _).mpr hc10_2)).1) (by decide) (by decide) k) ?_
    refine own_back (S' := T1.setTop (mkF m 18 #[.val (.ref wB), .val (.long q2), .second, .val (.long q3), .second] [(.int (0 : Int32))])) (fun _ k => XS.iconst X1.here hx rfl (hb hby d3_17)  k) ?_
    refine own_back (S' := T1.setTop (mkF m 32 #[.val (.ref wB), .val (.long q2), .second, .val (.long q3), .second] [(.int (0 : Int32))])) (fun _ k => XS.goto X1.here hx rfl (pc0 := 18) (pc' := 32) rfl (hb hby d3_18) (by decide) (by decide) k) ?_
    obtain ⟨fs, hr, hrun, hended, hW, hsame⟩ := X1.leave (v := some (.int (0 : Int32))) (fun h => by rw [Bd.returns] at h; cases h)
    refine own_done ⟨_, _, retN X1 hx (t := .boolean) Bd.returns (by simp) (hb hby d3_32) hr, hrun, hended, _, _, rfl, ?_, ⟨_, rfl⟩, hW, hsame.mono (by decide) (by decide)⟩
    show Q3B Z wB q2 q3 h0 n0 _ T1.heap _
    rw [e1]
    exact ⟨by unfold own_buy; rw [if_pos hc10_2], N0, rfl⟩
  ·
    refine own_back (S' := T1.setTop (mkF m 13 #[.val (.ref wB), .val (.long q2), .second, .val (.long q3), .second] [])) (fun _ k => XS.ifNo X1.here hx rfl (hb hby d3_10) rfl ((if0 _ _).trans (flt (fun q_ => hc10_2 ((lw_lt _ _).mp q_))).1) k) ?_
    refine own_back (S' := T1.setTop (mkF m 14 #[.val (.ref wB), .val (.long q2), .second, .val (.long q3), .second] [(.int (1 : Int32))])) (fun _ k => XS.iconst X1.here hx rfl (hb hby d3_13)  k) ?_
    refine own_back (S' := T1.setTop (mkF m 32 #[.val (.ref wB), .val (.long q2), .second, .val (.long q3), .second] [(.int (1 : Int32))])) (fun _ k => XS.goto X1.here hx rfl (pc0 := 14) (pc' := 32) rfl (hb hby d3_14) (by decide) (by decide) k) ?_
    obtain ⟨fs, hr, hrun, hended, hW, hsame⟩ := X1.leave (v := some (.int (1 : Int32))) (fun h => by rw [Bd.returns] at h; cases h)
    refine own_done ⟨_, _, retN X1 hx (t := .boolean) Bd.returns (by simp) (hb hby d3_32) hr, hrun, hended, _, _, rfl, ?_, ⟨_, rfl⟩, hW, hsame.mono (by decide) (by decide)⟩
    show Q3B Z wB q2 q3 h0 n0 _ T1.heap _
    rw [e1]
    exact ⟨by unfold own_buy; rw [if_neg hc10_2], N0, rfl⟩
theorem d3_21 : decode prog_36_method_6_code 21 = .ok (.lload_n 1, 1) := by decide +kernel
theorem d3_22 : decode prog_36_method_6_code 22 = .ok (.lload_n 3, 1) := by decide +kernel
theorem d3_23 : decode prog_36_method_6_code 23 = .ok (.lcmp, 1) := by decide +kernel
theorem d3_24 : decode prog_36_method_6_code 24 = .ok (.ifCond .gt 7, 3) := by decide +kernel
theorem d3_27 : decode prog_36_method_6_code 27 = .ok (.iconst 1, 1) := by decide +kernel
theorem d3_28 : decode prog_36_method_6_code 28 = .ok (.goto 4, 3) := by decide +kernel
theorem d3_31 : decode prog_36_method_6_code 31 = .ok (.iconst 0, 1) := by decide +kernel
def Q3N (Z : State) (a1 : Addr) (q2 : Int64) (q3 : Int64) (wB : Addr) (h0 : Heap) (n0 : Nat) (v : Option Value) (h : Heap) (L : List Loc) : Prop := v = some (.int (own_sell q2 q3)) ∧ Fr n0 L ∧ h = h0
set_option maxRecDepth 65536 in
set_option maxHeartbeats 40000000 in
theorem rm3N (l : Launch) (Z : State) (a0 : Array Value) (hw : ∀ d ∈ tables_1, d.before a0 Z = true) (ws : List Jvm.Cond) (a1 : Addr) (q2 : Int64) (q3 : Int64) (wB : Addr) (h0 : Heap) (n0 : Nat) (Z0 : n0 ≤ h0.size) (SB : Sta Z h0 "com/example/openstrike/openstrike/market/Side" "BUY" "Lcom/example/openstrike/openstrike/market/Side;" (.ref wB)) (hne : ¬ (a1 = wB)) :
    MetFree l (⟨"com/example/openstrike/openstrike/market/Side", "locksOrCrosses", "(JJ)Z"⟩ : MethodName) (head1 (Jvm.Cond.code (⟨"com/example/openstrike/openstrike/market/Side", "locksOrCrosses", "(JJ)Z"⟩ : MethodName) prog_36_method_6_code 5 (some .boolean) :: ws) ({ frames := 0, cells := 0, slots := 0, locals := 0 } : Room)) (fun a U => a = #[(.ref a1), (.long q2), (.long q3)] ∧ Z.Warmed39 U.vm ∧ U.heap = h0) (fun _ _ _ _ _ => True) (fun _ U o U' => ∃ v L, o = .returned v ∧ Q3N Z a1 q2 q3 wB h0 n0 v U'.heap L ∧ FrameEnd U o U' L ({ frames := 0, cells := 0, slots := 0, locals := 0 } : Room).cells ({ frames := 0, cells := 0, slots := 0, locals := 0 } : Room).slots) := by
  refine MetFree.of_bodySF (plainFor_of_name pn_com_example_openstrike_openstrike_market_Side) hisR ?_
  intro p e s m args below meth c s₁ Bd hml0 hP hK
  obtain ⟨rfl, hZ, hh⟩ := hP
  have hx := Bd.exec
  have hby := Bd.bytes
  have hml : c.maxLocals = 5 := hml0
  have hown : s.vm.findClass "com/example/openstrike/openstrike/market/Side" = some m.cls := findClass_of_methodNamed Bd.named
  have hnm := (name_of_methodNamed Bd.named Bd.method).1
  have X0 : Stand p l e ({ frames := 0, cells := 0, slots := 0, locals := 0 } : Room) s m #[(.ref a1), (.long q2), (.long q3)] below meth c s₁ [] 0 0 := Stand.of_body Bd
  have e0 : s₁.heap = h0 := by rw [← hh, Bd.state]; rfl
  have N0 := Fr.nil n0
  refine own_open (S' := s₁.setTop (mkF m 0 #[.val (.ref a1), .val (.long q2), .second, .val (.long q3), .second] [])) (fun t k => castTop (ef_3 m a1 q2 q3) k) ?_
  refine own_back (S' := s₁.setTop (mkF m 1 #[.val (.ref a1), .val (.long q2), .second, .val (.long q3), .second] [(.ref a1)])) (fun _ k => XS.aloadN X0.here hx rfl (hb hby d3_0) rfl rfl k) ?_
  obtain ⟨T1, X1, e1, st1⟩ := getS2 X0 hx hZ hown (host := "") (Or.inl (hw _ (List.mem_of_getElem? (i := 15) rfl))) Via.refl e0 SB (g := (mkF m 1 #[.val (.ref a1), .val (.long q2), .second, .val (.long q3), .second] [(.ref a1)])) rfl (hb hby d3_1)
  refine own_back (S' := T1.setTop (mkF m 4 #[.val (.ref a1), .val (.long q2), .second, .val (.long q3), .second] [(.ref wB), (.ref a1)])) (st1) ?_
  refine own_back (S' := T1.setTop (mkF m 21 #[.val (.ref a1), .val (.long q2), .second, .val (.long q3), .second] [])) (fun _ k => Jvm.RoadKit.acmp (g := (mkF m 4 #[.val (.ref a1), .val (.long q2), .second, .val (.long q3), .second] [(.ref wB), (.ref a1)])) X1 hx rfl rfl rfl (pc0 := 4) (pc' := 21) (same := false) rfl (hb hby d3_4) rfl (decide_eq_false fun q_ => (hne : ¬ (a1 = wB)) (Value.ref.inj q_)) (by decide) (by decide) k) ?_
  refine own_back (S' := T1.setTop (mkF m 22 #[.val (.ref a1), .val (.long q2), .second, .val (.long q3), .second] [(.long q2)])) (fun _ k => XS.lloadN X1.here hx rfl (hb hby d3_21) rfl k) ?_
  refine own_back (S' := T1.setTop (mkF m 23 #[.val (.ref a1), .val (.long q2), .second, .val (.long q3), .second] [(.long q3), (.long q2)])) (fun _ k => XS.lloadN X1.here hx rfl (hb hby d3_22) rfl k) ?_
  refine own_back (S' := T1.setTop (mkF m 24 #[.val (.ref a1), .val (.long q2), .second, .val (.long q3), .second] [(.int (lcmpW q2 q3))])) (fun _ k => XS.lcmp X1.here hx rfl (hb hby d3_23) rfl k) ?_
  by_cases hc24_2 : q3 < q2
  ·
    refine own_back (S' := T1.setTop (mkF m 31 #[.val (.ref a1), .val (.long q2), .second, .val (.long q3), .second] [])) (fun _ k => XS.ifYes X1.here hx rfl (pc0 := 24) (pc' := 31) rfl (hb hby d3_24) rfl ((if0 _ _).trans (tlt ((lw_gt _ _).mpr hc24_2)).2.2.1) (by decide) (by decide) k) ?_
    refine own_back (S' := T1.setTop (mkF m 32 #[.val (.ref a1), .val (.long q2), .second, .val (.long q3), .second] [(.int (0 : Int32))])) (fun _ k => XS.iconst X1.here hx rfl (hb hby d3_31)  k) ?_
    obtain ⟨fs, hr, hrun, hended, hW, hsame⟩ := X1.leave (v := some (.int (0 : Int32))) (fun h => by rw [Bd.returns] at h; cases h)
    refine own_done ⟨_, _, retN X1 hx (t := .boolean) Bd.returns (by simp) (hb hby d3_32) hr, hrun, hended, _, _, rfl, ?_, ⟨_, rfl⟩, hW, hsame.mono (by decide) (by decide)⟩
    show Q3N Z a1 q2 q3 wB h0 n0 _ T1.heap _
    rw [e1]
    exact ⟨by unfold own_sell; rw [if_pos hc24_2], N0, rfl⟩
  ·
    refine own_back (S' := T1.setTop (mkF m 27 #[.val (.ref a1), .val (.long q2), .second, .val (.long q3), .second] [])) (fun _ k => XS.ifNo X1.here hx rfl (hb hby d3_24) rfl ((if0 _ _).trans (flt (fun q_ => hc24_2 ((lw_gt _ _).mp q_))).2.2.1) k) ?_
    refine own_back (S' := T1.setTop (mkF m 28 #[.val (.ref a1), .val (.long q2), .second, .val (.long q3), .second] [(.int (1 : Int32))])) (fun _ k => XS.iconst X1.here hx rfl (hb hby d3_27)  k) ?_
    refine own_back (S' := T1.setTop (mkF m 32 #[.val (.ref a1), .val (.long q2), .second, .val (.long q3), .second] [(.int (1 : Int32))])) (fun _ k => XS.goto X1.here hx rfl (pc0 := 28) (pc' := 32) rfl (hb hby d3_28) (by decide) (by decide) k) ?_
    obtain ⟨fs, hr, hrun, hended, hW, hsame⟩ := X1.leave (v := some (.int (1 : Int32))) (fun h => by rw [Bd.returns] at h; cases h)
    refine own_done ⟨_, _, retN X1 hx (t := .boolean) Bd.returns (by simp) (hb hby d3_32) hr, hrun, hended, _, _, rfl, ?_, ⟨_, rfl⟩, hW, hsame.mono (by decide) (by decide)⟩
    show Q3N Z a1 q2 q3 wB h0 n0 _ T1.heap _
    rw [e1]
    exact ⟨by unfold own_sell; rw [if_neg hc24_2], N0, rfl⟩
theorem pd_0 : parseMethodDescriptor "(JJ)J" = some ⟨[.long, .long], some .long⟩ := by decide +kernel
theorem pd_1 : parseMethodDescriptor "(JJ)Z" = some ⟨[.long, .long], some .boolean⟩ := by decide +kernel
theorem pn_com_example_openstrike_openstrike_market_SideLocksOrCrossesPinLaw : plainName "com/example/openstrike/openstrike/market/SideLocksOrCrossesPinLaw" = true := by first | (simp [plainName, overriddenIn]; done) | decide +kernel
theorem ef_0 (m : MethodId) (x0 : Int64) (x1 : Int64) : entryFrame m #[(.long x0), (.long x1)] maxLocals = mkF m 0 #[.val (.long x0), .second, .val (.long x1), .second, .unset, .unset, .unset, .unset, .unset, .unset, .unset, .unset, .unset, .unset] [] := by first | (simp [entryFrame, mkF, argsToLocals, Value.category, maxLocals]; done) | rfl
def Q0 (Z : State) (q1 : Int64) (q2 : Int64) (wB : Addr) (wS : Addr) (h0 : Heap) (n0 : Nat) (v : Option Value) (h : Heap) (L : List Loc) : Prop := v = some (.int (1 : Int32)) ∧ Fr n0 L
set_option maxRecDepth 65536 in
set_option maxHeartbeats 40000000 in
theorem rm0 (l : Launch) (Z : State) (a0 : Array Value) (hw : ∀ d ∈ tables_1, d.before a0 Z = true) (ws : List Jvm.Cond) (q1 : Int64) (q2 : Int64) (wB : Addr) (wS : Addr) (h0 : Heap) (n0 : Nat) (Z0 : n0 ≤ h0.size) (SB : Sta Z h0 "com/example/openstrike/openstrike/market/Side" "BUY" "Lcom/example/openstrike/openstrike/market/Side;" (.ref wB)) (SS : Sta Z h0 "com/example/openstrike/openstrike/market/Side" "SELL" "Lcom/example/openstrike/openstrike/market/Side;" (.ref wS)) (EB : Exa Z h0 wB "com/example/openstrike/openstrike/market/Side") (ES : Exa Z h0 wS "com/example/openstrike/openstrike/market/Side") (hne : ¬ (wS = wB)) :
    MetFree l x (head1 (Jvm.Cond.code x code maxLocals ret :: ws) room_1) (fun a U => a = #[(.long q1), (.long q2)] ∧ Z.Warmed39 U.vm ∧ U.heap = h0) (fun _ _ _ _ _ => True) (fun _ U o U' => ∃ v L, o = .returned v ∧ Q0 Z q1 q2 wB wS h0 n0 v U'.heap L ∧ FrameEnd U o U' L room_1.cells room_1.slots) := by
  refine MetFree.of_bodySF (plainFor_of_name pn_com_example_openstrike_openstrike_market_SideLocksOrCrossesPinLaw) hisR ?_
  intro p e s m args below meth c s₁ Bd hml0 hP hK
  obtain ⟨rfl, hZ, hh⟩ := hP
  have hx := Bd.exec
  have hby := Bd.bytes
  have hml : c.maxLocals = 14 := hml0
  have hown : s.vm.findClass "com/example/openstrike/openstrike/market/SideLocksOrCrossesPinLaw" = some m.cls := findClass_of_methodNamed Bd.named
  have hnm := (name_of_methodNamed Bd.named Bd.method).1
  have X0 : Stand p l e room_1 s m #[(.long q1), (.long q2)] below meth c s₁ [] 0 0 := Stand.of_body Bd
  have e0 : s₁.heap = h0 := by rw [← hh, Bd.state]; rfl
  have N0 := Fr.nil n0
  refine own_open (S' := s₁.setTop (mkF m 0 #[.val (.long q1), .second, .val (.long q2), .second, .unset, .unset, .unset, .unset, .unset, .unset, .unset, .unset, .unset, .unset] [])) (fun t k => castTop (ef_0 m q1 q2) k) ?_
  refine own_back (S' := s₁.setTop (mkF m 1 #[.val (.long q1), .second, .val (.long q2), .second, .unset, .unset, .unset, .unset, .unset, .unset, .unset, .unset, .unset, .unset] [(.long q1)])) (fun _ k => XS.lloadN X0.here hx rfl (hb hby at_0) rfl k) ?_
  refine own_back (S' := s₁.setTop (mkF m 2 #[.val (.long q1), .second, .val (.long q2), .second, .unset, .unset, .unset, .unset, .unset, .unset, .unset, .unset, .unset, .unset] [(.long q2), (.long q1)])) (fun _ k => XS.lloadN X0.here hx rfl (hb hby at_1) rfl k) ?_
  obtain ⟨_, _, ⟨T1, L1, k1, n1⟩, -, X1, ⟨Lc1, hQ1, l1, y1, z1⟩, st1⟩ := Jvm.LawKit.callS X0 hx (y := (⟨"java/lang/Math", "max", "(JJ)J"⟩ : MethodName)) hown (mvT hZ (hw _ (List.mem_of_getElem? (i := 0) rfl))) (mvT hZ (hw _ (List.mem_of_getElem? (i := 1) rfl))) (mvT hZ (hw _ (List.mem_of_getElem? (i := 2) rfl))) (mvT hZ (hw _ (List.mem_of_getElem? (i := 3) rfl))) (by decide) (backOf (W := 0) (rm1 l Z a0 hw [] q1 q2 h0 n0 Z0 ) hZ (hw _ (List.mem_of_getElem? (i := 3) rfl)) (hw _ (List.mem_of_getElem? (i := 2) rfl)) (by decide) (by decide)) (g := (mkF m 2 #[.val (.long q1), .second, .val (.long q2), .second, .unset, .unset, .unset, .unset, .unset, .unset, .unset, .unset, .unset, .unset] [(.long q2), (.long q1)])) rfl (by rw [hml]; rfl) (argsL := [(.long q1), (.long q2)]) (rest := []) (lenOf pd_0 rfl) rfl (by show 2 * 0 + _ ≤ _; exact Nat.le_of_eq rfl) (hb hby at_2) (fun _ _ => ⟨rfl, e0, (by decide : 0 + 0 ≤ _), (by decide : 0 + 0 ≤ _)⟩)
  dsimp only [Pt.U, Pt.locs, Pt.cells, Pt.slots] at X1 l1 y1 z1 st1 hQ1
  subst l1 y1 z1
  obtain ⟨rfl, N1q, e1⟩ := hQ1
  have N1 := Fr.app N0 N1q
  refine own_back (S' := T1.setTop (mkF m 5 #[.val (.long q1), .second, .val (.long q2), .second, .unset, .unset, .unset, .unset, .unset, .unset, .unset, .unset, .unset, .unset] [(.long (own_max q1 q2))])) (st1) ?_
  refine own_back (S' := T1.setTop (mkF m 7 #[.val (.long q1), .second, .val (.long q2), .second, .val (.long (own_max q1 q2)), .second, .unset, .unset, .unset, .unset, .unset, .unset, .unset, .unset] [])) (fun _ k => XS.lstore X1.here hx rfl (hb hby at_5) rfl (l' := #[.val (.long q1), .second, .val (.long q2), .second, .val (.long (own_max q1 q2)), .second, .unset, .unset, .unset, .unset, .unset, .unset, .unset, .unset]) rfl k) ?_
  refine own_back (S' := T1.setTop (mkF m 8 #[.val (.long q1), .second, .val (.long q2), .second, .val (.long (own_max q1 q2)), .second, .unset, .unset, .unset, .unset, .unset, .unset, .unset, .unset] [(.long q1)])) (fun _ k => XS.lloadN X1.here hx rfl (hb hby at_7) rfl k) ?_
  refine own_back (S' := T1.setTop (mkF m 9 #[.val (.long q1), .second, .val (.long q2), .second, .val (.long (own_max q1 q2)), .second, .unset, .unset, .unset, .unset, .unset, .unset, .unset, .unset] [(.long q2), (.long q1)])) (fun _ k => XS.lloadN X1.here hx rfl (hb hby at_8) rfl k) ?_
  obtain ⟨_, _, ⟨T2, L2, k2, n2⟩, -, X2, ⟨Lc2, hQ2, l2, y2, z2⟩, st2⟩ := Jvm.LawKit.callS X1 hx (y := (⟨"java/lang/Math", "min", "(JJ)J"⟩ : MethodName)) hown (mvT hZ (hw _ (List.mem_of_getElem? (i := 4) rfl))) (mvT hZ (hw _ (List.mem_of_getElem? (i := 5) rfl))) (mvT hZ (hw _ (List.mem_of_getElem? (i := 2) rfl))) (mvT hZ (hw _ (List.mem_of_getElem? (i := 6) rfl))) (by decide) (backOf (W := 0) (rm2 l Z a0 hw [] q1 q2 h0 n0 Z0 ) hZ (hw _ (List.mem_of_getElem? (i := 6) rfl)) (hw _ (List.mem_of_getElem? (i := 2) rfl)) (by decide) (by decide)) (g := (mkF m 9 #[.val (.long q1), .second, .val (.long q2), .second, .val (.long (own_max q1 q2)), .second, .unset, .unset, .unset, .unset, .unset, .unset, .unset, .unset] [(.long q2), (.long q1)])) rfl (by rw [hml]; rfl) (argsL := [(.long q1), (.long q2)]) (rest := []) (lenOf pd_0 rfl) rfl (by show 2 * 0 + _ ≤ _; exact Nat.le_of_eq rfl) (hb hby at_9) (fun _ _ => ⟨rfl, e1, (by decide : 0 + 0 ≤ _), (by decide : 0 + 0 ≤ _)⟩)
  dsimp only [Pt.U, Pt.locs, Pt.cells, Pt.slots] at X2 l2 y2 z2 st2 hQ2
  subst l2 y2 z2
  obtain ⟨rfl, N2q, e2⟩ := hQ2
  have N2 := Fr.app N1 N2q
  refine own_back (S' := T2.setTop (mkF m 12 #[.val (.long q1), .second, .val (.long q2), .second, .val (.long (own_max q1 q2)), .second, .unset, .unset, .unset, .unset, .unset, .unset, .unset, .unset] [(.long (own_min q1 q2))])) (st2) ?_
  refine own_back (S' := T2.setTop (mkF m 14 #[.val (.long q1), .second, .val (.long q2), .second, .val (.long (own_max q1 q2)), .second, .val (.long (own_min q1 q2)), .second, .unset, .unset, .unset, .unset, .unset, .unset] [])) (fun _ k => XS.lstore X2.here hx rfl (hb hby at_12) rfl (l' := #[.val (.long q1), .second, .val (.long q2), .second, .val (.long (own_max q1 q2)), .second, .val (.long (own_min q1 q2)), .second, .unset, .unset, .unset, .unset, .unset, .unset]) rfl k) ?_
  obtain ⟨T3, X3, e3, st3⟩ := getS2 X2 hx hZ hown (host := "") (Or.inl (hw _ (List.mem_of_getElem? (i := 7) rfl))) Via.refl e2 SB (g := (mkF m 14 #[.val (.long q1), .second, .val (.long q2), .second, .val (.long (own_max q1 q2)), .second, .val (.long (own_min q1 q2)), .second, .unset, .unset, .unset, .unset, .unset, .unset] [])) rfl (hb hby at_14)
  refine own_back (S' := T3.setTop (mkF m 17 #[.val (.long q1), .second, .val (.long q2), .second, .val (.long (own_max q1 q2)), .second, .val (.long (own_min q1 q2)), .second, .unset, .unset, .unset, .unset, .unset, .unset] [(.ref wB)])) (st3) ?_
  refine own_back (S' := T3.setTop (mkF m 19 #[.val (.long q1), .second, .val (.long q2), .second, .val (.long (own_max q1 q2)), .second, .val (.long (own_min q1 q2)), .second, .unset, .unset, .unset, .unset, .unset, .unset] [(.long (own_max q1 q2)), (.ref wB)])) (fun _ k => XS.lload X3.here hx rfl (hb hby at_17) rfl k) ?_
  refine own_back (S' := T3.setTop (mkF m 21 #[.val (.long q1), .second, .val (.long q2), .second, .val (.long (own_max q1 q2)), .second, .val (.long (own_min q1 q2)), .second, .unset, .unset, .unset, .unset, .unset, .unset] [(.long (own_min q1 q2)), (.long (own_max q1 q2)), (.ref wB)])) (fun _ k => XS.lload X3.here hx rfl (hb hby at_19) rfl k) ?_
  obtain ⟨cq4, kq4, q4a, q4b, q4c⟩ := isOf hZ e3 EB
  obtain ⟨_, _, ⟨T4, L4, k4, n4⟩, -, X4, ⟨Lc4, hQ4, l4, y4, z4⟩, st4⟩ := X3.virtualBack hx (y := (⟨"com/example/openstrike/openstrike/market/Side", "locksOrCrosses", "(JJ)Z"⟩ : MethodName)) (z := (⟨"com/example/openstrike/openstrike/market/Side", "locksOrCrosses", "(JJ)Z"⟩ : MethodName)) hown (mvT hZ (hw _ (List.mem_of_getElem? (i := 10) rfl))) (mvT hZ (hw _ (List.mem_of_getElem? (i := 11) rfl))) (notFace_of_selects (args := #[]) (mvT hZ (hw _ (List.mem_of_getElem? (i := 13) rfl)))) (mvT hZ (hw _ (List.mem_of_getElem? (i := 13) rfl))) (mvT hZ (hw _ (List.mem_of_getElem? (i := 12) rfl))) (by decide) (backOf (W := 0) (rm3B l Z a0 hw [] wB (own_max q1 q2) (own_min q1 q2) h0 n0 Z0 SB) hZ (hw _ (List.mem_of_getElem? (i := 14) rfl)) (hw _ (List.mem_of_getElem? (i := 8) rfl)) (by decide) (by decide)) q4a q4c (g := (mkF m 21 #[.val (.long q1), .second, .val (.long q2), .second, .val (.long (own_max q1 q2)), .second, .val (.long (own_min q1 q2)), .second, .unset, .unset, .unset, .unset, .unset, .unset] [(.long (own_min q1 q2)), (.long (own_max q1 q2)), (.ref wB)])) rfl (by rw [hml]; rfl) (Steps.refl _) (argsL := [(.long (own_max q1 q2)), (.long (own_min q1 q2))]) (rest := []) (lenOf pd_1 rfl) rfl (by show 2 * 0 + _ ≤ _; exact Nat.le_of_eq rfl) (hb hby at_21) (fun _ _ => ⟨rfl, e3, (by decide : 0 + 0 ≤ _), (by decide : 0 + 0 ≤ _)⟩)
  dsimp only [Pt.U, Pt.locs, Pt.cells, Pt.slots] at X4 l4 y4 z4 st4 hQ4
  subst l4 y4 z4
  obtain ⟨rfl, N4q, e4⟩ := hQ4
  have N4 := Fr.app N2 N4q
  refine own_back (S' := T4.setTop (mkF m 24 #[.val (.long q1), .second, .val (.long q2), .second, .val (.long (own_max q1 q2)), .second, .val (.long (own_min q1 q2)), .second, .unset, .unset, .unset, .unset, .unset, .unset] [(.int (own_buy (own_max q1 q2) (own_min q1 q2)))])) (fun _ k => st4.trans k) ?_
  refine own_back (S' := T4.setTop (mkF m 26 #[.val (.long q1), .second, .val (.long q2), .second, .val (.long (own_max q1 q2)), .second, .val (.long (own_min q1 q2)), .second, .val (.int (own_buy (own_max q1 q2) (own_min q1 q2))), .unset, .unset, .unset, .unset, .unset] [])) (fun _ k => XS.istore X4.here hx rfl (hb hby at_24) rfl (l' := #[.val (.long q1), .second, .val (.long q2), .second, .val (.long (own_max q1 q2)), .second, .val (.long (own_min q1 q2)), .second, .val (.int (own_buy (own_max q1 q2) (own_min q1 q2))), .unset, .unset, .unset, .unset, .unset]) rfl k) ?_
  obtain ⟨T5, X5, e5, st5⟩ := getS2 X4 hx hZ hown (host := "") (Or.inl (hw _ (List.mem_of_getElem? (i := 16) rfl))) Via.refl e4 SS (g := (mkF m 26 #[.val (.long q1), .second, .val (.long q2), .second, .val (.long (own_max q1 q2)), .second, .val (.long (own_min q1 q2)), .second, .val (.int (own_buy (own_max q1 q2) (own_min q1 q2))), .unset, .unset, .unset, .unset, .unset] [])) rfl (hb hby at_26)
  refine own_back (S' := T5.setTop (mkF m 29 #[.val (.long q1), .second, .val (.long q2), .second, .val (.long (own_max q1 q2)), .second, .val (.long (own_min q1 q2)), .second, .val (.int (own_buy (own_max q1 q2) (own_min q1 q2))), .unset, .unset, .unset, .unset, .unset] [(.ref wS)])) (st5) ?_
  refine own_back (S' := T5.setTop (mkF m 31 #[.val (.long q1), .second, .val (.long q2), .second, .val (.long (own_max q1 q2)), .second, .val (.long (own_min q1 q2)), .second, .val (.int (own_buy (own_max q1 q2) (own_min q1 q2))), .unset, .unset, .unset, .unset, .unset] [(.long (own_min q1 q2)), (.ref wS)])) (fun _ k => XS.lload X5.here hx rfl (hb hby at_29) rfl k) ?_
  refine own_back (S' := T5.setTop (mkF m 33 #[.val (.long q1), .second, .val (.long q2), .second, .val (.long (own_max q1 q2)), .second, .val (.long (own_min q1 q2)), .second, .val (.int (own_buy (own_max q1 q2) (own_min q1 q2))), .unset, .unset, .unset, .unset, .unset] [(.long (own_max q1 q2)), (.long (own_min q1 q2)), (.ref wS)])) (fun _ k => XS.lload X5.here hx rfl (hb hby at_31) rfl k) ?_
  obtain ⟨cq6, kq6, q6a, q6b, q6c⟩ := isOf hZ e5 ES
  obtain ⟨_, _, ⟨T6, L6, k6, n6⟩, -, X6, ⟨Lc6, hQ6, l6, y6, z6⟩, st6⟩ := X5.virtualBack hx (y := (⟨"com/example/openstrike/openstrike/market/Side", "locksOrCrosses", "(JJ)Z"⟩ : MethodName)) (z := (⟨"com/example/openstrike/openstrike/market/Side", "locksOrCrosses", "(JJ)Z"⟩ : MethodName)) hown (mvT hZ (hw _ (List.mem_of_getElem? (i := 10) rfl))) (mvT hZ (hw _ (List.mem_of_getElem? (i := 11) rfl))) (notFace_of_selects (args := #[]) (mvT hZ (hw _ (List.mem_of_getElem? (i := 13) rfl)))) (mvT hZ (hw _ (List.mem_of_getElem? (i := 13) rfl))) (mvT hZ (hw _ (List.mem_of_getElem? (i := 12) rfl))) (by decide) (backOf (W := 0) (rm3N l Z a0 hw [] wS (own_min q1 q2) (own_max q1 q2) wB h0 n0 Z0 SB hne) hZ (hw _ (List.mem_of_getElem? (i := 14) rfl)) (hw _ (List.mem_of_getElem? (i := 8) rfl)) (by decide) (by decide)) q6a q6c (g := (mkF m 33 #[.val (.long q1), .second, .val (.long q2), .second, .val (.long (own_max q1 q2)), .second, .val (.long (own_min q1 q2)), .second, .val (.int (own_buy (own_max q1 q2) (own_min q1 q2))), .unset, .unset, .unset, .unset, .unset] [(.long (own_max q1 q2)), (.long (own_min q1 q2)), (.ref wS)])) rfl (by rw [hml]; rfl) (Steps.refl _) (argsL := [(.long (own_min q1 q2)), (.long (own_max q1 q2))]) (rest := []) (lenOf pd_1 rfl) rfl (by show 2 * 0 + _ ≤ _; exact Nat.le_of_eq rfl) (hb hby at_33) (fun _ _ => ⟨rfl, e5, (by decide : 0 + 0 ≤ _), (by decide : 0 + 0 ≤ _)⟩)
  dsimp only [Pt.U, Pt.locs, Pt.cells, Pt.slots] at X6 l6 y6 z6 st6 hQ6
  subst l6 y6 z6
  obtain ⟨rfl, N6q, e6⟩ := hQ6
  have N6 := Fr.app N4 N6q
  refine own_back (S' := T6.setTop (mkF m 36 #[.val (.long q1), .second, .val (.long q2), .second, .val (.long (own_max q1 q2)), .second, .val (.long (own_min q1 q2)), .second, .val (.int (own_buy (own_max q1 q2) (own_min q1 q2))), .unset, .unset, .unset, .unset, .unset] [(.int (own_sell (own_min q1 q2) (own_max q1 q2)))])) (fun _ k => st6.trans k) ?_
  refine own_back (S' := T6.setTop (mkF m 38 #[.val (.long q1), .second, .val (.long q2), .second, .val (.long (own_max q1 q2)), .second, .val (.long (own_min q1 q2)), .second, .val (.int (own_buy (own_max q1 q2) (own_min q1 q2))), .val (.int (own_sell (own_min q1 q2) (own_max q1 q2))), .unset, .unset, .unset, .unset] [])) (fun _ k => XS.istore X6.here hx rfl (hb hby at_36) rfl (l' := #[.val (.long q1), .second, .val (.long q2), .second, .val (.long (own_max q1 q2)), .second, .val (.long (own_min q1 q2)), .second, .val (.int (own_buy (own_max q1 q2) (own_min q1 q2))), .val (.int (own_sell (own_min q1 q2) (own_max q1 q2))), .unset, .unset, .unset, .unset]) rfl k) ?_
  obtain ⟨T7, X7, e7, st7⟩ := getS2 X6 hx hZ hown (host := "") (Or.inl (hw _ (List.mem_of_getElem? (i := 7) rfl))) Via.refl e6 SB (g := (mkF m 38 #[.val (.long q1), .second, .val (.long q2), .second, .val (.long (own_max q1 q2)), .second, .val (.long (own_min q1 q2)), .second, .val (.int (own_buy (own_max q1 q2) (own_min q1 q2))), .val (.int (own_sell (own_min q1 q2) (own_max q1 q2))), .unset, .unset, .unset, .unset] [])) rfl (hb hby at_38)
  refine own_back (S' := T7.setTop (mkF m 41 #[.val (.long q1), .second, .val (.long q2), .second, .val (.long (own_max q1 q2)), .second, .val (.long (own_min q1 q2)), .second, .val (.int (own_buy (own_max q1 q2) (own_min q1 q2))), .val (.int (own_sell (own_min q1 q2) (own_max q1 q2))), .unset, .unset, .unset, .unset] [(.ref wB)])) (st7) ?_
  refine own_back (S' := T7.setTop (mkF m 43 #[.val (.long q1), .second, .val (.long q2), .second, .val (.long (own_max q1 q2)), .second, .val (.long (own_min q1 q2)), .second, .val (.int (own_buy (own_max q1 q2) (own_min q1 q2))), .val (.int (own_sell (own_min q1 q2) (own_max q1 q2))), .unset, .unset, .unset, .unset] [(.long (own_min q1 q2)), (.ref wB)])) (fun _ k => XS.lload X7.here hx rfl (hb hby at_41) rfl k) ?_
  refine own_back (S' := T7.setTop (mkF m 45 #[.val (.long q1), .second, .val (.long q2), .second, .val (.long (own_max q1 q2)), .second, .val (.long (own_min q1 q2)), .second, .val (.int (own_buy (own_max q1 q2) (own_min q1 q2))), .val (.int (own_sell (own_min q1 q2) (own_max q1 q2))), .unset, .unset, .unset, .unset] [(.long (own_max q1 q2)), (.long (own_min q1 q2)), (.ref wB)])) (fun _ k => XS.lload X7.here hx rfl (hb hby at_43) rfl k) ?_
  obtain ⟨cq8, kq8, q8a, q8b, q8c⟩ := isOf hZ e7 EB
  obtain ⟨_, _, ⟨T8, L8, k8, n8⟩, -, X8, ⟨Lc8, hQ8, l8, y8, z8⟩, st8⟩ := X7.virtualBack hx (y := (⟨"com/example/openstrike/openstrike/market/Side", "locksOrCrosses", "(JJ)Z"⟩ : MethodName)) (z := (⟨"com/example/openstrike/openstrike/market/Side", "locksOrCrosses", "(JJ)Z"⟩ : MethodName)) hown (mvT hZ (hw _ (List.mem_of_getElem? (i := 10) rfl))) (mvT hZ (hw _ (List.mem_of_getElem? (i := 11) rfl))) (notFace_of_selects (args := #[]) (mvT hZ (hw _ (List.mem_of_getElem? (i := 13) rfl)))) (mvT hZ (hw _ (List.mem_of_getElem? (i := 13) rfl))) (mvT hZ (hw _ (List.mem_of_getElem? (i := 12) rfl))) (by decide) (backOf (W := 0) (rm3B l Z a0 hw [] wB (own_min q1 q2) (own_max q1 q2) h0 n0 Z0 SB) hZ (hw _ (List.mem_of_getElem? (i := 14) rfl)) (hw _ (List.mem_of_getElem? (i := 8) rfl)) (by decide) (by decide)) q8a q8c (g := (mkF m 45 #[.val (.long q1), .second, .val (.long q2), .second, .val (.long (own_max q1 q2)), .second, .val (.long (own_min q1 q2)), .second, .val (.int (own_buy (own_max q1 q2) (own_min q1 q2))), .val (.int (own_sell (own_min q1 q2) (own_max q1 q2))), .unset, .unset, .unset, .unset] [(.long (own_max q1 q2)), (.long (own_min q1 q2)), (.ref wB)])) rfl (by rw [hml]; rfl) (Steps.refl _) (argsL := [(.long (own_min q1 q2)), (.long (own_max q1 q2))]) (rest := []) (lenOf pd_1 rfl) rfl (by show 2 * 0 + _ ≤ _; exact Nat.le_of_eq rfl) (hb hby at_45) (fun _ _ => ⟨rfl, e7, (by decide : 0 + 0 ≤ _), (by decide : 0 + 0 ≤ _)⟩)
  dsimp only [Pt.U, Pt.locs, Pt.cells, Pt.slots] at X8 l8 y8 z8 st8 hQ8
  subst l8 y8 z8
  obtain ⟨rfl, N8q, e8⟩ := hQ8
  have N8 := Fr.app N6 N8q
  refine own_back (S' := T8.setTop (mkF m 48 #[.val (.long q1), .second, .val (.long q2), .second, .val (.long (own_max q1 q2)), .second, .val (.long (own_min q1 q2)), .second, .val (.int (own_buy (own_max q1 q2) (own_min q1 q2))), .val (.int (own_sell (own_min q1 q2) (own_max q1 q2))), .unset, .unset, .unset, .unset] [(.int (own_buy (own_min q1 q2) (own_max q1 q2)))])) (fun _ k => st8.trans k) ?_
  refine own_back (S' := T8.setTop (mkF m 50 #[.val (.long q1), .second, .val (.long q2), .second, .val (.long (own_max q1 q2)), .second, .val (.long (own_min q1 q2)), .second, .val (.int (own_buy (own_max q1 q2) (own_min q1 q2))), .val (.int (own_sell (own_min q1 q2) (own_max q1 q2))), .val (.int (own_buy (own_min q1 q2) (own_max q1 q2))), .unset, .unset, .unset] [])) (fun _ k => XS.istore X8.here hx rfl (hb hby at_48) rfl (l' := #[.val (.long q1), .second, .val (.long q2), .second, .val (.long (own_max q1 q2)), .second, .val (.long (own_min q1 q2)), .second, .val (.int (own_buy (own_max q1 q2) (own_min q1 q2))), .val (.int (own_sell (own_min q1 q2) (own_max q1 q2))), .val (.int (own_buy (own_min q1 q2) (own_max q1 q2))), .unset, .unset, .unset]) rfl k) ?_
  obtain ⟨T9, X9, e9, st9⟩ := getS2 X8 hx hZ hown (host := "") (Or.inl (hw _ (List.mem_of_getElem? (i := 16) rfl))) Via.refl e8 SS (g := (mkF m 50 #[.val (.long q1), .second, .val (.long q2), .second, .val (.long (own_max q1 q2)), .second, .val (.long (own_min q1 q2)), .second, .val (.int (own_buy (own_max q1 q2) (own_min q1 q2))), .val (.int (own_sell (own_min q1 q2) (own_max q1 q2))), .val (.int (own_buy (own_min q1 q2) (own_max q1 q2))), .unset, .unset, .unset] [])) rfl (hb hby at_50)
  refine own_back (S' := T9.setTop (mkF m 53 #[.val (.long q1), .second, .val (.long q2), .second, .val (.long (own_max q1 q2)), .second, .val (.long (own_min q1 q2)), .second, .val (.int (own_buy (own_max q1 q2) (own_min q1 q2))), .val (.int (own_sell (own_min q1 q2) (own_max q1 q2))), .val (.int (own_buy (own_min q1 q2) (own_max q1 q2))), .unset, .unset, .unset] [(.ref wS)])) (st9) ?_
  refine own_back (S' := T9.setTop (mkF m 55 #[.val (.long q1), .second, .val (.long q2), .second, .val (.long (own_max q1 q2)), .second, .val (.long (own_min q1 q2)), .second, .val (.int (own_buy (own_max q1 q2) (own_min q1 q2))), .val (.int (own_sell (own_min q1 q2) (own_max q1 q2))), .val (.int (own_buy (own_min q1 q2) (own_max q1 q2))), .unset, .unset, .unset] [(.long (own_max q1 q2)), (.ref wS)])) (fun _ k => XS.lload X9.here hx rfl (hb hby at_53) rfl k) ?_
  refine own_back (S' := T9.setTop (mkF m 57 #[.val (.long q1), .second, .val (.long q2), .second, .val (.long (own_max q1 q2)), .second, .val (.long (own_min q1 q2)), .second, .val (.int (own_buy (own_max q1 q2) (own_min q1 q2))), .val (.int (own_sell (own_min q1 q2) (own_max q1 q2))), .val (.int (own_buy (own_min q1 q2) (own_max q1 q2))), .unset, .unset, .unset] [(.long (own_min q1 q2)), (.long (own_max q1 q2)), (.ref wS)])) (fun _ k => XS.lload X9.here hx rfl (hb hby at_55) rfl k) ?_
  obtain ⟨cq10, kq10, q10a, q10b, q10c⟩ := isOf hZ e9 ES
  obtain ⟨_, _, ⟨T10, L10, k10, n10⟩, -, X10, ⟨Lc10, hQ10, l10, y10, z10⟩, st10⟩ := X9.virtualBack hx (y := (⟨"com/example/openstrike/openstrike/market/Side", "locksOrCrosses", "(JJ)Z"⟩ : MethodName)) (z := (⟨"com/example/openstrike/openstrike/market/Side", "locksOrCrosses", "(JJ)Z"⟩ : MethodName)) hown (mvT hZ (hw _ (List.mem_of_getElem? (i := 10) rfl))) (mvT hZ (hw _ (List.mem_of_getElem? (i := 11) rfl))) (notFace_of_selects (args := #[]) (mvT hZ (hw _ (List.mem_of_getElem? (i := 13) rfl)))) (mvT hZ (hw _ (List.mem_of_getElem? (i := 13) rfl))) (mvT hZ (hw _ (List.mem_of_getElem? (i := 12) rfl))) (by decide) (backOf (W := 0) (rm3N l Z a0 hw [] wS (own_max q1 q2) (own_min q1 q2) wB h0 n0 Z0 SB hne) hZ (hw _ (List.mem_of_getElem? (i := 14) rfl)) (hw _ (List.mem_of_getElem? (i := 8) rfl)) (by decide) (by decide)) q10a q10c (g := (mkF m 57 #[.val (.long q1), .second, .val (.long q2), .second, .val (.long (own_max q1 q2)), .second, .val (.long (own_min q1 q2)), .second, .val (.int (own_buy (own_max q1 q2) (own_min q1 q2))), .val (.int (own_sell (own_min q1 q2) (own_max q1 q2))), .val (.int (own_buy (own_min q1 q2) (own_max q1 q2))), .unset, .unset, .unset] [(.long (own_min q1 q2)), (.long (own_max q1 q2)), (.ref wS)])) rfl (by rw [hml]; rfl) (Steps.refl _) (argsL := [(.long (own_max q1 q2)), (.long (own_min q1 q2))]) (rest := []) (lenOf pd_1 rfl) rfl (by show 2 * 0 + _ ≤ _; exact Nat.le_of_eq rfl) (hb hby at_57) (fun _ _ => ⟨rfl, e9, (by decide : 0 + 0 ≤ _), (by decide : 0 + 0 ≤ _)⟩)
  dsimp only [Pt.U, Pt.locs, Pt.cells, Pt.slots] at X10 l10 y10 z10 st10 hQ10
  subst l10 y10 z10
  obtain ⟨rfl, N10q, e10⟩ := hQ10
  have N10 := Fr.app N8 N10q
  refine own_back (S' := T10.setTop (mkF m 60 #[.val (.long q1), .second, .val (.long q2), .second, .val (.long (own_max q1 q2)), .second, .val (.long (own_min q1 q2)), .second, .val (.int (own_buy (own_max q1 q2) (own_min q1 q2))), .val (.int (own_sell (own_min q1 q2) (own_max q1 q2))), .val (.int (own_buy (own_min q1 q2) (own_max q1 q2))), .unset, .unset, .unset] [(.int (own_sell (own_max q1 q2) (own_min q1 q2)))])) (fun _ k => st10.trans k) ?_
  refine own_back (S' := T10.setTop (mkF m 62 #[.val (.long q1), .second, .val (.long q2), .second, .val (.long (own_max q1 q2)), .second, .val (.long (own_min q1 q2)), .second, .val (.int (own_buy (own_max q1 q2) (own_min q1 q2))), .val (.int (own_sell (own_min q1 q2) (own_max q1 q2))), .val (.int (own_buy (own_min q1 q2) (own_max q1 q2))), .val (.int (own_sell (own_max q1 q2) (own_min q1 q2))), .unset, .unset] [])) (fun _ k => XS.istore X10.here hx rfl (hb hby at_60) rfl (l' := #[.val (.long q1), .second, .val (.long q2), .second, .val (.long (own_max q1 q2)), .second, .val (.long (own_min q1 q2)), .second, .val (.int (own_buy (own_max q1 q2) (own_min q1 q2))), .val (.int (own_sell (own_min q1 q2) (own_max q1 q2))), .val (.int (own_buy (own_min q1 q2) (own_max q1 q2))), .val (.int (own_sell (own_max q1 q2) (own_min q1 q2))), .unset, .unset]) rfl k) ?_
  obtain ⟨T11, X11, e11, st11⟩ := getS2 X10 hx hZ hown (host := "") (Or.inl (hw _ (List.mem_of_getElem? (i := 7) rfl))) Via.refl e10 SB (g := (mkF m 62 #[.val (.long q1), .second, .val (.long q2), .second, .val (.long (own_max q1 q2)), .second, .val (.long (own_min q1 q2)), .second, .val (.int (own_buy (own_max q1 q2) (own_min q1 q2))), .val (.int (own_sell (own_min q1 q2) (own_max q1 q2))), .val (.int (own_buy (own_min q1 q2) (own_max q1 q2))), .val (.int (own_sell (own_max q1 q2) (own_min q1 q2))), .unset, .unset] [])) rfl (hb hby at_62)
  refine own_back (S' := T11.setTop (mkF m 65 #[.val (.long q1), .second, .val (.long q2), .second, .val (.long (own_max q1 q2)), .second, .val (.long (own_min q1 q2)), .second, .val (.int (own_buy (own_max q1 q2) (own_min q1 q2))), .val (.int (own_sell (own_min q1 q2) (own_max q1 q2))), .val (.int (own_buy (own_min q1 q2) (own_max q1 q2))), .val (.int (own_sell (own_max q1 q2) (own_min q1 q2))), .unset, .unset] [(.ref wB)])) (st11) ?_
  refine own_back (S' := T11.setTop (mkF m 66 #[.val (.long q1), .second, .val (.long q2), .second, .val (.long (own_max q1 q2)), .second, .val (.long (own_min q1 q2)), .second, .val (.int (own_buy (own_max q1 q2) (own_min q1 q2))), .val (.int (own_sell (own_min q1 q2) (own_max q1 q2))), .val (.int (own_buy (own_min q1 q2) (own_max q1 q2))), .val (.int (own_sell (own_max q1 q2) (own_min q1 q2))), .unset, .unset] [(.long q1), (.ref wB)])) (fun _ k => XS.lloadN X11.here hx rfl (hb hby at_65) rfl k) ?_
  refine own_back (S' := T11.setTop (mkF m 67 #[.val (.long q1), .second, .val (.long q2), .second, .val (.long (own_max q1 q2)), .second, .val (.long (own_min q1 q2)), .second, .val (.int (own_buy (own_max q1 q2) (own_min q1 q2))), .val (.int (own_sell (own_min q1 q2) (own_max q1 q2))), .val (.int (own_buy (own_min q1 q2) (own_max q1 q2))), .val (.int (own_sell (own_max q1 q2) (own_min q1 q2))), .unset, .unset] [(.long q2), (.long q1), (.ref wB)])) (fun _ k => XS.lloadN X11.here hx rfl (hb hby at_66) rfl k) ?_
  obtain ⟨cq12, kq12, q12a, q12b, q12c⟩ := isOf hZ e11 EB
  obtain ⟨_, _, ⟨T12, L12, k12, n12⟩, -, X12, ⟨Lc12, hQ12, l12, y12, z12⟩, st12⟩ := X11.virtualBack hx (y := (⟨"com/example/openstrike/openstrike/market/Side", "locksOrCrosses", "(JJ)Z"⟩ : MethodName)) (z := (⟨"com/example/openstrike/openstrike/market/Side", "locksOrCrosses", "(JJ)Z"⟩ : MethodName)) hown (mvT hZ (hw _ (List.mem_of_getElem? (i := 10) rfl))) (mvT hZ (hw _ (List.mem_of_getElem? (i := 11) rfl))) (notFace_of_selects (args := #[]) (mvT hZ (hw _ (List.mem_of_getElem? (i := 13) rfl)))) (mvT hZ (hw _ (List.mem_of_getElem? (i := 13) rfl))) (mvT hZ (hw _ (List.mem_of_getElem? (i := 12) rfl))) (by decide) (backOf (W := 0) (rm3B l Z a0 hw [] wB q1 q2 h0 n0 Z0 SB) hZ (hw _ (List.mem_of_getElem? (i := 14) rfl)) (hw _ (List.mem_of_getElem? (i := 8) rfl)) (by decide) (by decide)) q12a q12c (g := (mkF m 67 #[.val (.long q1), .second, .val (.long q2), .second, .val (.long (own_max q1 q2)), .second, .val (.long (own_min q1 q2)), .second, .val (.int (own_buy (own_max q1 q2) (own_min q1 q2))), .val (.int (own_sell (own_min q1 q2) (own_max q1 q2))), .val (.int (own_buy (own_min q1 q2) (own_max q1 q2))), .val (.int (own_sell (own_max q1 q2) (own_min q1 q2))), .unset, .unset] [(.long q2), (.long q1), (.ref wB)])) rfl (by rw [hml]; rfl) (Steps.refl _) (argsL := [(.long q1), (.long q2)]) (rest := []) (lenOf pd_1 rfl) rfl (by show 2 * 0 + _ ≤ _; exact Nat.le_of_eq rfl) (hb hby at_67) (fun _ _ => ⟨rfl, e11, (by decide : 0 + 0 ≤ _), (by decide : 0 + 0 ≤ _)⟩)
  dsimp only [Pt.U, Pt.locs, Pt.cells, Pt.slots] at X12 l12 y12 z12 st12 hQ12
  subst l12 y12 z12
  obtain ⟨rfl, N12q, e12⟩ := hQ12
  have N12 := Fr.app N10 N12q
  refine own_back (S' := T12.setTop (mkF m 70 #[.val (.long q1), .second, .val (.long q2), .second, .val (.long (own_max q1 q2)), .second, .val (.long (own_min q1 q2)), .second, .val (.int (own_buy (own_max q1 q2) (own_min q1 q2))), .val (.int (own_sell (own_min q1 q2) (own_max q1 q2))), .val (.int (own_buy (own_min q1 q2) (own_max q1 q2))), .val (.int (own_sell (own_max q1 q2) (own_min q1 q2))), .unset, .unset] [(.int (own_buy q1 q2))])) (fun _ k => st12.trans k) ?_
  refine own_back (S' := T12.setTop (mkF m 72 #[.val (.long q1), .second, .val (.long q2), .second, .val (.long (own_max q1 q2)), .second, .val (.long (own_min q1 q2)), .second, .val (.int (own_buy (own_max q1 q2) (own_min q1 q2))), .val (.int (own_sell (own_min q1 q2) (own_max q1 q2))), .val (.int (own_buy (own_min q1 q2) (own_max q1 q2))), .val (.int (own_sell (own_max q1 q2) (own_min q1 q2))), .val (.int (own_buy q1 q2)), .unset] [])) (fun _ k => XS.istore X12.here hx rfl (hb hby at_70) rfl (l' := #[.val (.long q1), .second, .val (.long q2), .second, .val (.long (own_max q1 q2)), .second, .val (.long (own_min q1 q2)), .second, .val (.int (own_buy (own_max q1 q2) (own_min q1 q2))), .val (.int (own_sell (own_min q1 q2) (own_max q1 q2))), .val (.int (own_buy (own_min q1 q2) (own_max q1 q2))), .val (.int (own_sell (own_max q1 q2) (own_min q1 q2))), .val (.int (own_buy q1 q2)), .unset]) rfl k) ?_
  obtain ⟨T13, X13, e13, st13⟩ := getS2 X12 hx hZ hown (host := "") (Or.inl (hw _ (List.mem_of_getElem? (i := 16) rfl))) Via.refl e12 SS (g := (mkF m 72 #[.val (.long q1), .second, .val (.long q2), .second, .val (.long (own_max q1 q2)), .second, .val (.long (own_min q1 q2)), .second, .val (.int (own_buy (own_max q1 q2) (own_min q1 q2))), .val (.int (own_sell (own_min q1 q2) (own_max q1 q2))), .val (.int (own_buy (own_min q1 q2) (own_max q1 q2))), .val (.int (own_sell (own_max q1 q2) (own_min q1 q2))), .val (.int (own_buy q1 q2)), .unset] [])) rfl (hb hby at_72)
  refine own_back (S' := T13.setTop (mkF m 75 #[.val (.long q1), .second, .val (.long q2), .second, .val (.long (own_max q1 q2)), .second, .val (.long (own_min q1 q2)), .second, .val (.int (own_buy (own_max q1 q2) (own_min q1 q2))), .val (.int (own_sell (own_min q1 q2) (own_max q1 q2))), .val (.int (own_buy (own_min q1 q2) (own_max q1 q2))), .val (.int (own_sell (own_max q1 q2) (own_min q1 q2))), .val (.int (own_buy q1 q2)), .unset] [(.ref wS)])) (st13) ?_
  refine own_back (S' := T13.setTop (mkF m 76 #[.val (.long q1), .second, .val (.long q2), .second, .val (.long (own_max q1 q2)), .second, .val (.long (own_min q1 q2)), .second, .val (.int (own_buy (own_max q1 q2) (own_min q1 q2))), .val (.int (own_sell (own_min q1 q2) (own_max q1 q2))), .val (.int (own_buy (own_min q1 q2) (own_max q1 q2))), .val (.int (own_sell (own_max q1 q2) (own_min q1 q2))), .val (.int (own_buy q1 q2)), .unset] [(.long q2), (.ref wS)])) (fun _ k => XS.lloadN X13.here hx rfl (hb hby at_75) rfl k) ?_
  refine own_back (S' := T13.setTop (mkF m 77 #[.val (.long q1), .second, .val (.long q2), .second, .val (.long (own_max q1 q2)), .second, .val (.long (own_min q1 q2)), .second, .val (.int (own_buy (own_max q1 q2) (own_min q1 q2))), .val (.int (own_sell (own_min q1 q2) (own_max q1 q2))), .val (.int (own_buy (own_min q1 q2) (own_max q1 q2))), .val (.int (own_sell (own_max q1 q2) (own_min q1 q2))), .val (.int (own_buy q1 q2)), .unset] [(.long q1), (.long q2), (.ref wS)])) (fun _ k => XS.lloadN X13.here hx rfl (hb hby at_76) rfl k) ?_
  obtain ⟨cq14, kq14, q14a, q14b, q14c⟩ := isOf hZ e13 ES
  obtain ⟨_, _, ⟨T14, L14, k14, n14⟩, -, X14, ⟨Lc14, hQ14, l14, y14, z14⟩, st14⟩ := X13.virtualBack hx (y := (⟨"com/example/openstrike/openstrike/market/Side", "locksOrCrosses", "(JJ)Z"⟩ : MethodName)) (z := (⟨"com/example/openstrike/openstrike/market/Side", "locksOrCrosses", "(JJ)Z"⟩ : MethodName)) hown (mvT hZ (hw _ (List.mem_of_getElem? (i := 10) rfl))) (mvT hZ (hw _ (List.mem_of_getElem? (i := 11) rfl))) (notFace_of_selects (args := #[]) (mvT hZ (hw _ (List.mem_of_getElem? (i := 13) rfl)))) (mvT hZ (hw _ (List.mem_of_getElem? (i := 13) rfl))) (mvT hZ (hw _ (List.mem_of_getElem? (i := 12) rfl))) (by decide) (backOf (W := 0) (rm3N l Z a0 hw [] wS q2 q1 wB h0 n0 Z0 SB hne) hZ (hw _ (List.mem_of_getElem? (i := 14) rfl)) (hw _ (List.mem_of_getElem? (i := 8) rfl)) (by decide) (by decide)) q14a q14c (g := (mkF m 77 #[.val (.long q1), .second, .val (.long q2), .second, .val (.long (own_max q1 q2)), .second, .val (.long (own_min q1 q2)), .second, .val (.int (own_buy (own_max q1 q2) (own_min q1 q2))), .val (.int (own_sell (own_min q1 q2) (own_max q1 q2))), .val (.int (own_buy (own_min q1 q2) (own_max q1 q2))), .val (.int (own_sell (own_max q1 q2) (own_min q1 q2))), .val (.int (own_buy q1 q2)), .unset] [(.long q1), (.long q2), (.ref wS)])) rfl (by rw [hml]; rfl) (Steps.refl _) (argsL := [(.long q2), (.long q1)]) (rest := []) (lenOf pd_1 rfl) rfl (by show 2 * 0 + _ ≤ _; exact Nat.le_of_eq rfl) (hb hby at_77) (fun _ _ => ⟨rfl, e13, (by decide : 0 + 0 ≤ _), (by decide : 0 + 0 ≤ _)⟩)
  dsimp only [Pt.U, Pt.locs, Pt.cells, Pt.slots] at X14 l14 y14 z14 st14 hQ14
  subst l14 y14 z14
  obtain ⟨rfl, N14q, e14⟩ := hQ14
  have N14 := Fr.app N12 N14q
  refine own_back (S' := T14.setTop (mkF m 80 #[.val (.long q1), .second, .val (.long q2), .second, .val (.long (own_max q1 q2)), .second, .val (.long (own_min q1 q2)), .second, .val (.int (own_buy (own_max q1 q2) (own_min q1 q2))), .val (.int (own_sell (own_min q1 q2) (own_max q1 q2))), .val (.int (own_buy (own_min q1 q2) (own_max q1 q2))), .val (.int (own_sell (own_max q1 q2) (own_min q1 q2))), .val (.int (own_buy q1 q2)), .unset] [(.int (own_sell q2 q1))])) (fun _ k => st14.trans k) ?_
  refine own_back (S' := T14.setTop (mkF m 82 #[.val (.long q1), .second, .val (.long q2), .second, .val (.long (own_max q1 q2)), .second, .val (.long (own_min q1 q2)), .second, .val (.int (own_buy (own_max q1 q2) (own_min q1 q2))), .val (.int (own_sell (own_min q1 q2) (own_max q1 q2))), .val (.int (own_buy (own_min q1 q2) (own_max q1 q2))), .val (.int (own_sell (own_max q1 q2) (own_min q1 q2))), .val (.int (own_buy q1 q2)), .val (.int (own_sell q2 q1))] [])) (fun _ k => XS.istore X14.here hx rfl (hb hby at_80) rfl (l' := #[.val (.long q1), .second, .val (.long q2), .second, .val (.long (own_max q1 q2)), .second, .val (.long (own_min q1 q2)), .second, .val (.int (own_buy (own_max q1 q2) (own_min q1 q2))), .val (.int (own_sell (own_min q1 q2) (own_max q1 q2))), .val (.int (own_buy (own_min q1 q2) (own_max q1 q2))), .val (.int (own_sell (own_max q1 q2) (own_min q1 q2))), .val (.int (own_buy q1 q2)), .val (.int (own_sell q2 q1))]) rfl k) ?_
  refine own_back (S' := T14.setTop (mkF m 84 #[.val (.long q1), .second, .val (.long q2), .second, .val (.long (own_max q1 q2)), .second, .val (.long (own_min q1 q2)), .second, .val (.int (own_buy (own_max q1 q2) (own_min q1 q2))), .val (.int (own_sell (own_min q1 q2) (own_max q1 q2))), .val (.int (own_buy (own_min q1 q2) (own_max q1 q2))), .val (.int (own_sell (own_max q1 q2) (own_min q1 q2))), .val (.int (own_buy q1 q2)), .val (.int (own_sell q2 q1))] [(.int (own_buy (own_max q1 q2) (own_min q1 q2)))])) (fun _ k => XS.iload X14.here hx rfl (hb hby at_82) rfl k) ?_
  refine own_back (S' := T14.setTop (mkF m 87 #[.val (.long q1), .second, .val (.long q2), .second, .val (.long (own_max q1 q2)), .second, .val (.long (own_min q1 q2)), .second, .val (.int (own_buy (own_max q1 q2) (own_min q1 q2))), .val (.int (own_sell (own_min q1 q2) (own_max q1 q2))), .val (.int (own_buy (own_min q1 q2) (own_max q1 q2))), .val (.int (own_sell (own_max q1 q2) (own_min q1 q2))), .val (.int (own_buy q1 q2)), .val (.int (own_sell q2 q1))] [])) (fun _ k => XS.ifNo X14.here hx rfl (hb hby at_84) rfl ((if0 _ _).trans (feq (own_b1 _ _ : ¬ ((own_buy (own_max q1 q2) (own_min q1 q2)) = (0 : Int32)))).1) k) ?_
  refine own_back (S' := T14.setTop (mkF m 89 #[.val (.long q1), .second, .val (.long q2), .second, .val (.long (own_max q1 q2)), .second, .val (.long (own_min q1 q2)), .second, .val (.int (own_buy (own_max q1 q2) (own_min q1 q2))), .val (.int (own_sell (own_min q1 q2) (own_max q1 q2))), .val (.int (own_buy (own_min q1 q2) (own_max q1 q2))), .val (.int (own_sell (own_max q1 q2) (own_min q1 q2))), .val (.int (own_buy q1 q2)), .val (.int (own_sell q2 q1))] [(.int (own_sell (own_min q1 q2) (own_max q1 q2)))])) (fun _ k => XS.iload X14.here hx rfl (hb hby at_87) rfl k) ?_
  refine own_back (S' := T14.setTop (mkF m 94 #[.val (.long q1), .second, .val (.long q2), .second, .val (.long (own_max q1 q2)), .second, .val (.long (own_min q1 q2)), .second, .val (.int (own_buy (own_max q1 q2) (own_min q1 q2))), .val (.int (own_sell (own_min q1 q2) (own_max q1 q2))), .val (.int (own_buy (own_min q1 q2) (own_max q1 q2))), .val (.int (own_sell (own_max q1 q2) (own_min q1 q2))), .val (.int (own_buy q1 q2)), .val (.int (own_sell q2 q1))] [])) (fun _ k => XS.ifYes X14.here hx rfl (pc0 := 89) (pc' := 94) rfl (hb hby at_89) rfl ((if0 _ _).trans (feq (own_s1 _ _ : ¬ ((own_sell (own_min q1 q2) (own_max q1 q2)) = (0 : Int32)))).2) (by decide) (by decide) k) ?_
  refine own_back (S' := T14.setTop (mkF m 96 #[.val (.long q1), .second, .val (.long q2), .second, .val (.long (own_max q1 q2)), .second, .val (.long (own_min q1 q2)), .second, .val (.int (own_buy (own_max q1 q2) (own_min q1 q2))), .val (.int (own_sell (own_min q1 q2) (own_max q1 q2))), .val (.int (own_buy (own_min q1 q2) (own_max q1 q2))), .val (.int (own_sell (own_max q1 q2) (own_min q1 q2))), .val (.int (own_buy q1 q2)), .val (.int (own_sell q2 q1))] [(.long (own_max q1 q2))])) (fun _ k => XS.lload X14.here hx rfl (hb hby at_94) rfl k) ?_
  refine own_back (S' := T14.setTop (mkF m 98 #[.val (.long q1), .second, .val (.long q2), .second, .val (.long (own_max q1 q2)), .second, .val (.long (own_min q1 q2)), .second, .val (.int (own_buy (own_max q1 q2) (own_min q1 q2))), .val (.int (own_sell (own_min q1 q2) (own_max q1 q2))), .val (.int (own_buy (own_min q1 q2) (own_max q1 q2))), .val (.int (own_sell (own_max q1 q2) (own_min q1 q2))), .val (.int (own_buy q1 q2)), .val (.int (own_sell q2 q1))] [(.long (own_min q1 q2)), (.long (own_max q1 q2))])) (fun _ k => XS.lload X14.here hx rfl (hb hby at_96) rfl k) ?_
  refine own_back (S' := T14.setTop (mkF m 99 #[.val (.long q1), .second, .val (.long q2), .second, .val (.long (own_max q1 q2)), .second, .val (.long (own_min q1 q2)), .second, .val (.int (own_buy (own_max q1 q2) (own_min q1 q2))), .val (.int (own_sell (own_min q1 q2) (own_max q1 q2))), .val (.int (own_buy (own_min q1 q2) (own_max q1 q2))), .val (.int (own_sell (own_max q1 q2) (own_min q1 q2))), .val (.int (own_buy q1 q2)), .val (.int (own_sell q2 q1))] [(.int (lcmpW (own_max q1 q2) (own_min q1 q2)))])) (fun _ k => XS.lcmp X14.here hx rfl (hb hby at_98) rfl k) ?_
  by_cases hc99_15 : (own_max q1 q2) = (own_min q1 q2)
  ·
    refine own_back (S' := T14.setTop (mkF m 114 #[.val (.long q1), .second, .val (.long q2), .second, .val (.long (own_max q1 q2)), .second, .val (.long (own_min q1 q2)), .second, .val (.int (own_buy (own_max q1 q2) (own_min q1 q2))), .val (.int (own_sell (own_min q1 q2) (own_max q1 q2))), .val (.int (own_buy (own_min q1 q2) (own_max q1 q2))), .val (.int (own_sell (own_max q1 q2) (own_min q1 q2))), .val (.int (own_buy q1 q2)), .val (.int (own_sell q2 q1))] [])) (fun _ k => XS.ifYes X14.here hx rfl (pc0 := 99) (pc' := 114) rfl (hb hby at_99) rfl ((if0 _ _).trans (teq ((lw_eq _ _).mpr hc99_15)).1) (by decide) (by decide) k) ?_
    refine own_back (S' := T14.setTop (mkF m 116 #[.val (.long q1), .second, .val (.long q2), .second, .val (.long (own_max q1 q2)), .second, .val (.long (own_min q1 q2)), .second, .val (.int (own_buy (own_max q1 q2) (own_min q1 q2))), .val (.int (own_sell (own_min q1 q2) (own_max q1 q2))), .val (.int (own_buy (own_min q1 q2) (own_max q1 q2))), .val (.int (own_sell (own_max q1 q2) (own_min q1 q2))), .val (.int (own_buy q1 q2)), .val (.int (own_sell q2 q1))] [(.int (own_buy q1 q2))])) (fun _ k => XS.iload X14.here hx rfl (hb hby at_114) rfl k) ?_
    refine own_back (S' := T14.setTop (mkF m 118 #[.val (.long q1), .second, .val (.long q2), .second, .val (.long (own_max q1 q2)), .second, .val (.long (own_min q1 q2)), .second, .val (.int (own_buy (own_max q1 q2) (own_min q1 q2))), .val (.int (own_sell (own_min q1 q2) (own_max q1 q2))), .val (.int (own_buy (own_min q1 q2) (own_max q1 q2))), .val (.int (own_sell (own_max q1 q2) (own_min q1 q2))), .val (.int (own_buy q1 q2)), .val (.int (own_sell q2 q1))] [(.int (own_sell q2 q1)), (.int (own_buy q1 q2))])) (fun _ k => XS.iload X14.here hx rfl (hb hby at_116) rfl k) ?_
    refine own_back (S' := T14.setTop (mkF m 121 #[.val (.long q1), .second, .val (.long q2), .second, .val (.long (own_max q1 q2)), .second, .val (.long (own_min q1 q2)), .second, .val (.int (own_buy (own_max q1 q2) (own_min q1 q2))), .val (.int (own_sell (own_min q1 q2) (own_max q1 q2))), .val (.int (own_buy (own_min q1 q2) (own_max q1 q2))), .val (.int (own_sell (own_max q1 q2) (own_min q1 q2))), .val (.int (own_buy q1 q2)), .val (.int (own_sell q2 q1))] [])) (fun _ k => XS.icmpNo X14.here hx rfl (hb hby at_118) rfl (teq (rfl : (own_buy q1 q2) = (own_sell q2 q1))).2 k) ?_
    refine own_back (S' := T14.setTop (mkF m 122 #[.val (.long q1), .second, .val (.long q2), .second, .val (.long (own_max q1 q2)), .second, .val (.long (own_min q1 q2)), .second, .val (.int (own_buy (own_max q1 q2) (own_min q1 q2))), .val (.int (own_sell (own_min q1 q2) (own_max q1 q2))), .val (.int (own_buy (own_min q1 q2) (own_max q1 q2))), .val (.int (own_sell (own_max q1 q2) (own_min q1 q2))), .val (.int (own_buy q1 q2)), .val (.int (own_sell q2 q1))] [(.int (1 : Int32))])) (fun _ k => XS.iconst X14.here hx rfl (hb hby at_121)  k) ?_
    refine own_back (S' := T14.setTop (mkF m 126 #[.val (.long q1), .second, .val (.long q2), .second, .val (.long (own_max q1 q2)), .second, .val (.long (own_min q1 q2)), .second, .val (.int (own_buy (own_max q1 q2) (own_min q1 q2))), .val (.int (own_sell (own_min q1 q2) (own_max q1 q2))), .val (.int (own_buy (own_min q1 q2) (own_max q1 q2))), .val (.int (own_sell (own_max q1 q2) (own_min q1 q2))), .val (.int (own_buy q1 q2)), .val (.int (own_sell q2 q1))] [(.int (1 : Int32))])) (fun _ k => XS.goto X14.here hx rfl (pc0 := 122) (pc' := 126) rfl (hb hby at_122) (by decide) (by decide) k) ?_
    obtain ⟨fs, hr, hrun, hended, hW, hsame⟩ := X14.leave (v := some (.int (1 : Int32))) (fun h => by rw [Bd.returns] at h; cases h)
    refine own_done ⟨_, _, retN X14 hx (t := .boolean) Bd.returns (by simp) (hb hby at_126) hr, hrun, hended, _, _, rfl, ?_, ⟨_, rfl⟩, hW, hsame.mono (by decide) (by decide)⟩
    show Q0 Z q1 q2 wB wS h0 n0 _ T14.heap _
    rw [e14]
    exact ⟨rfl, N14⟩
  ·
    refine own_back (S' := T14.setTop (mkF m 102 #[.val (.long q1), .second, .val (.long q2), .second, .val (.long (own_max q1 q2)), .second, .val (.long (own_min q1 q2)), .second, .val (.int (own_buy (own_max q1 q2) (own_min q1 q2))), .val (.int (own_sell (own_min q1 q2) (own_max q1 q2))), .val (.int (own_buy (own_min q1 q2) (own_max q1 q2))), .val (.int (own_sell (own_max q1 q2) (own_min q1 q2))), .val (.int (own_buy q1 q2)), .val (.int (own_sell q2 q1))] [])) (fun _ k => XS.ifNo X14.here hx rfl (hb hby at_99) rfl ((if0 _ _).trans (feq (fun q_ => hc99_15 ((lw_eq _ _).mp q_))).1) k) ?_
    refine own_back (S' := T14.setTop (mkF m 104 #[.val (.long q1), .second, .val (.long q2), .second, .val (.long (own_max q1 q2)), .second, .val (.long (own_min q1 q2)), .second, .val (.int (own_buy (own_max q1 q2) (own_min q1 q2))), .val (.int (own_sell (own_min q1 q2) (own_max q1 q2))), .val (.int (own_buy (own_min q1 q2) (own_max q1 q2))), .val (.int (own_sell (own_max q1 q2) (own_min q1 q2))), .val (.int (own_buy q1 q2)), .val (.int (own_sell q2 q1))] [(.int (own_buy (own_min q1 q2) (own_max q1 q2)))])) (fun _ k => XS.iload X14.here hx rfl (hb hby at_102) rfl k) ?_
    refine own_back (S' := T14.setTop (mkF m 107 #[.val (.long q1), .second, .val (.long q2), .second, .val (.long (own_max q1 q2)), .second, .val (.long (own_min q1 q2)), .second, .val (.int (own_buy (own_max q1 q2) (own_min q1 q2))), .val (.int (own_sell (own_min q1 q2) (own_max q1 q2))), .val (.int (own_buy (own_min q1 q2) (own_max q1 q2))), .val (.int (own_sell (own_max q1 q2) (own_min q1 q2))), .val (.int (own_buy q1 q2)), .val (.int (own_sell q2 q1))] [])) (fun _ k => XS.ifNo X14.here hx rfl (hb hby at_104) rfl ((if0 _ _).trans (teq (own_b2 _ _ hc99_15 : (own_buy (own_min q1 q2) (own_max q1 q2)) = (0 : Int32))).2) k) ?_
    refine own_back (S' := T14.setTop (mkF m 109 #[.val (.long q1), .second, .val (.long q2), .second, .val (.long (own_max q1 q2)), .second, .val (.long (own_min q1 q2)), .second, .val (.int (own_buy (own_max q1 q2) (own_min q1 q2))), .val (.int (own_sell (own_min q1 q2) (own_max q1 q2))), .val (.int (own_buy (own_min q1 q2) (own_max q1 q2))), .val (.int (own_sell (own_max q1 q2) (own_min q1 q2))), .val (.int (own_buy q1 q2)), .val (.int (own_sell q2 q1))] [(.int (own_sell (own_max q1 q2) (own_min q1 q2)))])) (fun _ k => XS.iload X14.here hx rfl (hb hby at_107) rfl k) ?_
    refine own_back (S' := T14.setTop (mkF m 114 #[.val (.long q1), .second, .val (.long q2), .second, .val (.long (own_max q1 q2)), .second, .val (.long (own_min q1 q2)), .second, .val (.int (own_buy (own_max q1 q2) (own_min q1 q2))), .val (.int (own_sell (own_min q1 q2) (own_max q1 q2))), .val (.int (own_buy (own_min q1 q2) (own_max q1 q2))), .val (.int (own_sell (own_max q1 q2) (own_min q1 q2))), .val (.int (own_buy q1 q2)), .val (.int (own_sell q2 q1))] [])) (fun _ k => XS.ifYes X14.here hx rfl (pc0 := 109) (pc' := 114) rfl (hb hby at_109) rfl ((if0 _ _).trans (teq (own_s2 _ _ hc99_15 : (own_sell (own_max q1 q2) (own_min q1 q2)) = (0 : Int32))).1) (by decide) (by decide) k) ?_
    refine own_back (S' := T14.setTop (mkF m 116 #[.val (.long q1), .second, .val (.long q2), .second, .val (.long (own_max q1 q2)), .second, .val (.long (own_min q1 q2)), .second, .val (.int (own_buy (own_max q1 q2) (own_min q1 q2))), .val (.int (own_sell (own_min q1 q2) (own_max q1 q2))), .val (.int (own_buy (own_min q1 q2) (own_max q1 q2))), .val (.int (own_sell (own_max q1 q2) (own_min q1 q2))), .val (.int (own_buy q1 q2)), .val (.int (own_sell q2 q1))] [(.int (own_buy q1 q2))])) (fun _ k => XS.iload X14.here hx rfl (hb hby at_114) rfl k) ?_
    refine own_back (S' := T14.setTop (mkF m 118 #[.val (.long q1), .second, .val (.long q2), .second, .val (.long (own_max q1 q2)), .second, .val (.long (own_min q1 q2)), .second, .val (.int (own_buy (own_max q1 q2) (own_min q1 q2))), .val (.int (own_sell (own_min q1 q2) (own_max q1 q2))), .val (.int (own_buy (own_min q1 q2) (own_max q1 q2))), .val (.int (own_sell (own_max q1 q2) (own_min q1 q2))), .val (.int (own_buy q1 q2)), .val (.int (own_sell q2 q1))] [(.int (own_sell q2 q1)), (.int (own_buy q1 q2))])) (fun _ k => XS.iload X14.here hx rfl (hb hby at_116) rfl k) ?_
    refine own_back (S' := T14.setTop (mkF m 121 #[.val (.long q1), .second, .val (.long q2), .second, .val (.long (own_max q1 q2)), .second, .val (.long (own_min q1 q2)), .second, .val (.int (own_buy (own_max q1 q2) (own_min q1 q2))), .val (.int (own_sell (own_min q1 q2) (own_max q1 q2))), .val (.int (own_buy (own_min q1 q2) (own_max q1 q2))), .val (.int (own_sell (own_max q1 q2) (own_min q1 q2))), .val (.int (own_buy q1 q2)), .val (.int (own_sell q2 q1))] [])) (fun _ k => XS.icmpNo X14.here hx rfl (hb hby at_118) rfl (teq (rfl : (own_buy q1 q2) = (own_sell q2 q1))).2 k) ?_
    refine own_back (S' := T14.setTop (mkF m 122 #[.val (.long q1), .second, .val (.long q2), .second, .val (.long (own_max q1 q2)), .second, .val (.long (own_min q1 q2)), .second, .val (.int (own_buy (own_max q1 q2) (own_min q1 q2))), .val (.int (own_sell (own_min q1 q2) (own_max q1 q2))), .val (.int (own_buy (own_min q1 q2) (own_max q1 q2))), .val (.int (own_sell (own_max q1 q2) (own_min q1 q2))), .val (.int (own_buy q1 q2)), .val (.int (own_sell q2 q1))] [(.int (1 : Int32))])) (fun _ k => XS.iconst X14.here hx rfl (hb hby at_121)  k) ?_
    refine own_back (S' := T14.setTop (mkF m 126 #[.val (.long q1), .second, .val (.long q2), .second, .val (.long (own_max q1 q2)), .second, .val (.long (own_min q1 q2)), .second, .val (.int (own_buy (own_max q1 q2) (own_min q1 q2))), .val (.int (own_sell (own_min q1 q2) (own_max q1 q2))), .val (.int (own_buy (own_min q1 q2) (own_max q1 q2))), .val (.int (own_sell (own_max q1 q2) (own_min q1 q2))), .val (.int (own_buy q1 q2)), .val (.int (own_sell q2 q1))] [(.int (1 : Int32))])) (fun _ k => XS.goto X14.here hx rfl (pc0 := 122) (pc' := 126) rfl (hb hby at_122) (by decide) (by decide) k) ?_
    obtain ⟨fs, hr, hrun, hended, hW, hsame⟩ := X14.leave (v := some (.int (1 : Int32))) (fun h => by rw [Bd.returns] at h; cases h)
    refine own_done ⟨_, _, retN X14 hx (t := .boolean) Bd.returns (by simp) (hb hby at_126) hr, hrun, hended, _, _, rfl, ?_, ⟨_, rfl⟩, hW, hsame.mono (by decide) (by decide)⟩
    show Q0 Z q1 q2 wB wS h0 n0 _ T14.heap _
    rw [e14]
    exact ⟨rfl, N14⟩
set_option maxRecDepth 65536 in
set_option maxHeartbeats 40000000 in
theorem comes_1 {Post : Tables → Env → Array Value → State → Outcome → State → Prop} (hpost : ∀ tb e args s v u, (limb_1_1.after args s (.returned v) u = true ∧ limb_1_2.after args s (.returned v) u = true ∧ True) → FrameEnd s (.returned v) u (Jvm.fieldLocs frame_1_writes args s ++ Jvm.arrayLocs frame_1_arrays args s ++ Jvm.staticLocs frame_1_statics s) 0 0 → Post tb e args s (.returned v) u) :
    ArmFor flags0 classFile x code maxLocals ret World_1 tables_1 room_1 Calls_1 rest_1 Pre_1 Post := by
  intro l hfl _ _ p e ha hc hk s m args below hf hA hF happ hP
  obtain ⟨hcalls, hrest, hpre⟩ := hP
  obtain ⟨-, -, -, hnamed, -, -, -, hat⟩ := (Spec.applies_iff hf).mp happ
  obtain ⟨hg, hn⟩ := and_e (Cond.before_iff.mp (show (Jvm.Cond.and given_1 narrow_1).before args s = true from hpre))
  obtain ⟨g1, g2⟩ := and_e hg
  obtain ⟨g3, g4⟩ := and_e g2
  obtain ⟨w0, w1, rfl⟩ : ∃ w0 w1 : Value, args = #[w0, w1] := by
    have hs : args.size = 2 := by simpa [Cond.value, given_1] using g1
    obtain ⟨L⟩ := args
    match L, hs with
    | [w0, w1], _ => exact ⟨w0, w1, rfl⟩
  have hw := fun d (hd : d ∈ tables_1) => atoms_spec (ws := Jvm.Cond.code x code maxLocals ret :: tables_1) hat d (List.mem_cons_of_mem _ hd)
  have hfit : Fit s := fun {y c} hc i hi => by
    obtain ⟨ha, rfl⟩ := Array.getElem?_eq_some_iff.mp hc
    have q := List.all_eq_true.mp ((Array.all_eq_true_iff_forall_mem.mp hF) _ (Array.getElem_mem ha)) i (List.mem_range.mpr hi)
    simpa [Array.getElem?_eq_getElem hi] using q
  obtain ⟨i0, ei0⟩ := isL_v g3
  obtain rfl : w0 = (.long i0) := Option.some.inj ei0
  obtain ⟨i1, ei1⟩ := isL_v g4
  obtain rfl : w1 = (.long i1) := Option.some.inj ei1
  obtain ⟨nn1, nm1⟩ := and_e hn
  obtain ⟨nn2, nm2⟩ := and_e nm1
  obtain ⟨nn3, nm3⟩ := and_e nm2
  obtain ⟨w_BUY, v_BUY⟩ := exa_v nn1
  have E_BUY := Exa.start v_BUY nn1
  have S_BUY := Sta.start v_BUY (Or.inr ⟨(hw _ (List.mem_of_getElem? (i := 8) rfl)), (hw _ (List.mem_of_getElem? (i := 9) rfl))⟩)
  obtain ⟨w_SELL, v_SELL⟩ := exa_v nn2
  have E_SELL := Exa.start v_SELL nn2
  have S_SELL := Sta.start v_SELL (Or.inr ⟨(hw _ (List.mem_of_getElem? (i := 8) rfl)), (hw _ (List.mem_of_getElem? (i := 17) rfl))⟩)
  have o_SELL := own_ord v_SELL nn3
  have o_BUY := own_ord v_BUY nm3
  obtain ⟨n, o, h1, h2, h3, _, L, rfl, ⟨rfl, N⟩, hq⟩ := rm0 l s _ hw tables_1 i0 i1 w_BUY w_SELL s.heap s.heap.size (Nat.le_refl _) S_BUY S_SELL E_BUY E_SELL (own_ne o_SELL o_BUY (by decide)) p e ha hc hk s m _ below hf ((Spec.applies_iff_loose hf).mp happ).1 ⟨rfl, State.Warmed39.refl s, rfl⟩ trivial
  refine ⟨n, _, h1, h2, h3, hpost _ _ _ _ _ _ ⟨Cond.after_iff.mpr rfl, Cond.after_iff.mpr (eq_i res_at (Term.int_eval (1)) rfl), trivial⟩ ⟨hq.1, hq.2.1, (hq.2.2.sift fun y hy => Or.inr (N y hy)).mono (by decide) (by decide)⟩⟩
theorem main_1_1 : Claimed_1_1 := comes_1 fun _ _ _ _ _ _ h hF => ⟨h.1, hF⟩
theorem main_1_2 : Claimed_1_2 := comes_1 fun _ _ _ _ _ _ h hF => ⟨h.2.1, hF⟩
end Jvm.Pilot.@@N@@
namespace Jvm.Pilot.@@N@@
open Jvm Jvm.ClassFile Sem Op Lib Jvm.Free Jvm.Stand Jvm.Pilot.@@N@@.Jvm.D
/-! MADE BY PROGRAM (witnessworld.py) out of the Statement's table words and the real class files: 13 classes; the members and pool entries that the words name. The judged class is class 1, her method 1. -/
namespace start1
open Jvm.ClassFile
def u (s : String) : CpInfo := .utf8 (stringToUtf16 s)
/-- a pool by its gaps: so many unusable entries, then the entry; so many at the end -/
def gap : Nat → List CpInfo → List CpInfo
  | 0, r => r
  | n + 1, r => .unusable :: gap n r
def poolList (es : List (Nat × CpInfo)) (last : Nat) : List CpInfo := es.foldr (fun e r => gap e.1 (e.2 :: r)) (gap last [])
def pool (es : List (Nat × CpInfo)) (last : Nat) : Array CpInfo := ⟨poolList es last⟩
def fileOf (pool : Array CpInfo) (this : Nat) (attrs : Array Attribute := #[]) (ms : Array MethodInfo := #[]) (fl : Nat := 33) (sup : Nat := 0) (ifs : Array Nat := #[]) (fds : Array FieldInfo := #[]) : ClassFile where
  minorVersion := 0
  majorVersion := 65
  constantPool := pool
  accessFlags := fl
  thisClass := this
  superClass := sup
  interfaces := ifs
  fields := fds
  methods := ms
  attributes := attrs
def plain (name : String) (sup : Option ClassId) : Class where
  name := name
  kind := .ordinary
  loader := none
  accessFlags := 33
  super := sup
  interfaces := #[]
  cf := none
  fields := #[]
  methods := #[]
  instanceTypes := #[]
  staticTypes := #[]
  resolved := #[]
  callSites := []
  init := .initialized
  statics := none
  mirror := none

def pool0 : Array CpInfo := pool [(5, u "<init>"), (0, u "()V"), (1, .class_ 10), (1, u "java/lang/Object")] 113

def k0m0 : Method := { name := "<init>", desc := "()V", sig := { parameters := [], returnType := none }, accessFlags := 1, code := none }
/-- java/lang/Object -/
def k0 : Class := { plain "java/lang/Object" none with
  accessFlags := 33
  interfaces := #[]
  cf := some (fileOf pool0 8 #[] #[{ accessFlags := 1, nameIndex := 5, descriptorIndex := 6, attributes := #[] }] 33 0 #[] #[])
  fields := #[]
  methods := #[k0m0]
  instanceTypes := #[]
  staticTypes := #[]
  resolved := Array.replicate 124 none
  statics := none }

def pool1 : Array CpInfo := pool [(2, .class_ 4), (1, u "java/lang/Object"), (0, u "<init>"), (0, u "()V"), (0, .methodref 8 9), (0, .class_ 10), (0, .nameAndType 11 12), (0, u "java/lang/Math"), (0, u "max"), (0, u "(JJ)J"), (0, .methodref 8 14), (0, .nameAndType 15 12), (0, u "min"), (0, .fieldref 17 18), (0, .class_ 19), (0, .nameAndType 20 21), (0, u "com/example/openstrike/openstrike/market/Side"), (0, u "BUY"), (0, u "Lcom/example/openstrike/openstrike/market/Side;"), (0, .methodref 17 23), (0, .nameAndType 24 25), (0, u "locksOrCrosses"), (0, u "(JJ)Z"), (0, .fieldref 17 27), (0, .nameAndType 28 21), (0, u "SELL"), (0, .class_ 30), (0, u "com/example/openstrike/openstrike/market/SideLocksOrCrossesPinLaw"), (2, u "law")] 3

def k1m0 : Method := { name := "<init>", desc := "()V", sig := { parameters := [], returnType := none }, accessFlags := 1, code := none }
def k1c1 : Code := { maxStack := 5, maxLocals := 14, code := code, exceptionTable := #[], attributes := #[] }
def k1m1 : Method := { name := "law", desc := "(JJ)Z", sig := { parameters := [.long, .long], returnType := some .boolean }, accessFlags := 9, code := some k1c1 }
/-- com/example/openstrike/openstrike/market/SideLocksOrCrossesPinLaw -/
def k1 : Class := { plain "com/example/openstrike/openstrike/market/SideLocksOrCrossesPinLaw" (some 0) with
  accessFlags := 49
  interfaces := #[]
  cf := some (fileOf pool1 29 #[] #[{ accessFlags := 1, nameIndex := 5, descriptorIndex := 6, attributes := #[] }, { accessFlags := 9, nameIndex := 33, descriptorIndex := 25, attributes := #[] }] 49 2 #[] #[])
  fields := #[]
  methods := #[k1m0, k1m1]
  instanceTypes := #[]
  staticTypes := #[]
  resolved := Array.replicate 37 none
  statics := none }

def pool2 : Array CpInfo := pool [(1, .class_ 2), (0, u "java/lang/Math"), (1, .class_ 6), (1, u "java/lang/Object"), (0, u "<init>"), (0, u "()V"), (89, .class_ 100), (1, u "java/lang/Math$RandomNumberGeneratorHolder"), (20, u "(JJ)J"), (50, u "negativeZeroFloatBits"), (0, u "J"), (2, u "negativeZeroDoubleBits"), (21, u "max"), (2, u "min"), (43, u "$assertionsDisabled"), (0, u "Z"), (91, u "twoToTheDoubleScaleDown"), (0, u "D"), (4, u "twoToTheDoubleScaleUp"), (9, u "E"), (3, u "PI"), (2, u "TAU"), (2, u "DEGREES_TO_RADIANS"), (0, u "RADIANS_TO_DEGREES")] 94

def k2m0 : Method := { name := "<init>", desc := "()V", sig := { parameters := [], returnType := none }, accessFlags := 2, code := none }
def k2c1 : Code := { maxStack := 4, maxLocals := 4, code := jdk_29_method_66_code, exceptionTable := #[], attributes := #[] }
def k2m1 : Method := { name := "max", desc := "(JJ)J", sig := { parameters := [.long, .long], returnType := some .long }, accessFlags := 9, code := some k2c1 }
def k2c2 : Code := { maxStack := 4, maxLocals := 4, code := jdk_29_method_70_code, exceptionTable := #[], attributes := #[] }
def k2m2 : Method := { name := "min", desc := "(JJ)J", sig := { parameters := [.long, .long], returnType := some .long }, accessFlags := 9, code := some k2c2 }
/-- java/lang/Math -/
def k2 : Class := { plain "java/lang/Math" (some 0) with
  accessFlags := 49
  interfaces := #[]
  cf := some (fileOf pool2 1 #[.nestMembers #[98]] #[{ accessFlags := 2, nameIndex := 7, descriptorIndex := 8, attributes := #[] }, { accessFlags := 9, nameIndex := 198, descriptorIndex := 121, attributes := #[] }, { accessFlags := 9, nameIndex := 201, descriptorIndex := 121, attributes := #[] }] 49 4 #[] #[{ accessFlags := 25, nameIndex := 354, descriptorIndex := 339, attributes := #[] }, { accessFlags := 25, nameIndex := 358, descriptorIndex := 339, attributes := #[] }, { accessFlags := 25, nameIndex := 361, descriptorIndex := 339, attributes := #[] }, { accessFlags := 26, nameIndex := 364, descriptorIndex := 339, attributes := #[] }, { accessFlags := 26, nameIndex := 365, descriptorIndex := 339, attributes := #[] }, { accessFlags := 26, nameIndex := 172, descriptorIndex := 173, attributes := #[] }, { accessFlags := 26, nameIndex := 176, descriptorIndex := 173, attributes := #[] }, { accessFlags := 8, nameIndex := 344, descriptorIndex := 339, attributes := #[] }, { accessFlags := 8, nameIndex := 338, descriptorIndex := 339, attributes := #[] }, { accessFlags := 4120, nameIndex := 245, descriptorIndex := 246, attributes := #[] }])
  fields := #[{ name := "E", type := .double, accessFlags := 25, slot := 0, constantValue := 0 }, { name := "PI", type := .double, accessFlags := 25, slot := 1, constantValue := 0 }, { name := "TAU", type := .double, accessFlags := 25, slot := 2, constantValue := 0 }, { name := "DEGREES_TO_RADIANS", type := .double, accessFlags := 26, slot := 3, constantValue := 0 }, { name := "RADIANS_TO_DEGREES", type := .double, accessFlags := 26, slot := 4, constantValue := 0 }, { name := "negativeZeroFloatBits", type := .long, accessFlags := 26, slot := 5, constantValue := 0 }, { name := "negativeZeroDoubleBits", type := .long, accessFlags := 26, slot := 6, constantValue := 0 }, { name := "twoToTheDoubleScaleUp", type := .double, accessFlags := 8, slot := 7, constantValue := 0 }, { name := "twoToTheDoubleScaleDown", type := .double, accessFlags := 8, slot := 8, constantValue := 0 }, { name := "$assertionsDisabled", type := .boolean, accessFlags := 4120, slot := 9, constantValue := 0 }]
  methods := #[k2m0, k2m1, k2m2]
  instanceTypes := #[]
  staticTypes := #[.double, .double, .double, .double, .double, .long, .long, .double, .double, .boolean]
  resolved := Array.replicate 460 none
  statics := none }

def pool3 : Array CpInfo := pool [(1, .class_ 2), (0, u "java/lang/constant/Constable"), (0, .class_ 4), (0, u "java/lang/Object")] 6

/-- java/lang/constant/Constable -/
def k3 : Class := { plain "java/lang/constant/Constable" (some 0) with
  accessFlags := 1537
  interfaces := #[]
  cf := some (fileOf pool3 1 #[] #[] 1537 3 #[] #[])
  fields := #[]
  methods := #[]
  instanceTypes := #[]
  staticTypes := #[]
  resolved := Array.replicate 11 none
  statics := none }

def pool4 : Array CpInfo := pool [(1, .class_ 2), (0, u "java/lang/Comparable"), (0, .class_ 4), (0, u "java/lang/Object")] 7

/-- java/lang/Comparable -/
def k4 : Class := { plain "java/lang/Comparable" (some 0) with
  accessFlags := 1537
  interfaces := #[]
  cf := some (fileOf pool4 1 #[] #[] 1537 3 #[] #[])
  fields := #[]
  methods := #[]
  instanceTypes := #[]
  staticTypes := #[]
  resolved := Array.replicate 12 none
  statics := none }

def pool5 : Array CpInfo := pool [(1, .class_ 2), (0, u "java/io/Serializable"), (0, .class_ 4), (0, u "java/lang/Object")] 2

/-- java/io/Serializable -/
def k5 : Class := { plain "java/io/Serializable" (some 0) with
  accessFlags := 1537
  interfaces := #[]
  cf := some (fileOf pool5 1 #[] #[] 1537 3 #[] #[])
  fields := #[]
  methods := #[]
  instanceTypes := #[]
  staticTypes := #[]
  resolved := Array.replicate 7 none
  statics := none }

def pool6 : Array CpInfo := pool [(2, .class_ 4), (1, u "java/lang/Enum"), (0, u "name"), (0, u "Ljava/lang/String;"), (2, u "ordinal"), (0, u "I"), (1, .class_ 14), (1, u "java/lang/Object"), (4, u "hash"), (86, .class_ 108), (1, u "java/lang/Enum$EnumDesc"), (2, .class_ 112), (0, u "java/lang/constant/Constable"), (0, .class_ 114), (0, u "java/lang/Comparable"), (0, .class_ 116), (0, u "java/io/Serializable")] 87

/-- java/lang/Enum -/
def k6 : Class := { plain "java/lang/Enum" (some 0) with
  accessFlags := 1057
  interfaces := #[3, 4, 5]
  cf := some (fileOf pool6 2 #[.nestMembers #[106]] #[] 1057 12 #[111, 113, 115] #[{ accessFlags := 18, nameIndex := 5, descriptorIndex := 6, attributes := #[] }, { accessFlags := 18, nameIndex := 9, descriptorIndex := 10, attributes := #[] }, { accessFlags := 2, nameIndex := 19, descriptorIndex := 10, attributes := #[] }])
  fields := #[{ name := "name", type := (.object "java/lang/String"), accessFlags := 18, slot := 0, constantValue := 0 }, { name := "ordinal", type := .int, accessFlags := 18, slot := 1, constantValue := 0 }, { name := "hash", type := .int, accessFlags := 2, slot := 2, constantValue := 0 }]
  methods := #[]
  instanceTypes := #[(.object "java/lang/String"), .int, .int]
  staticTypes := #[]
  resolved := Array.replicate 204 none
  statics := none }

def pool7 : Array CpInfo := pool [(1, .class_ 2), (0, u "com/example/openstrike/openstrike/market/Side"), (0, .fieldref 1 4), (0, .nameAndType 5 6), (0, u "BUY"), (0, u "Lcom/example/openstrike/openstrike/market/Side;"), (2, u "SELL"), (2, u "$VALUES"), (0, u "[Lcom/example/openstrike/openstrike/market/Side;"), (6, .class_ 22), (1, u "java/lang/Enum"), (8, u "word"), (0, u "Ljava/lang/String;"), (70, u "locksOrCrosses"), (0, u "(JJ)Z")] 44

def k7c0 : Code := { maxStack := 4, maxLocals := 5, code := prog_36_method_6_code, exceptionTable := #[], attributes := #[] }
def k7m0 : Method := { name := "locksOrCrosses", desc := "(JJ)Z", sig := { parameters := [.long, .long], returnType := some .boolean }, accessFlags := 0, code := some k7c0 }
/-- com/example/openstrike/openstrike/market/Side -/
def k7 : Class := { plain "com/example/openstrike/openstrike/market/Side" (some 6) with
  accessFlags := 16433
  interfaces := #[]
  cf := some (fileOf pool7 1 #[] #[{ accessFlags := 0, nameIndex := 103, descriptorIndex := 104, attributes := #[] }] 16433 20 #[] #[{ accessFlags := 16409, nameIndex := 5, descriptorIndex := 6, attributes := #[] }, { accessFlags := 16409, nameIndex := 9, descriptorIndex := 6, attributes := #[] }, { accessFlags := 18, nameIndex := 31, descriptorIndex := 32, attributes := #[] }, { accessFlags := 4122, nameIndex := 12, descriptorIndex := 13, attributes := #[] }])
  fields := #[{ name := "BUY", type := (.object "com/example/openstrike/openstrike/market/Side"), accessFlags := 16409, slot := 0, constantValue := 0 }, { name := "SELL", type := (.object "com/example/openstrike/openstrike/market/Side"), accessFlags := 16409, slot := 1, constantValue := 0 }, { name := "word", type := (.object "java/lang/String"), accessFlags := 18, slot := 3, constantValue := 0 }, { name := "$VALUES", type := (.array (.object "com/example/openstrike/openstrike/market/Side")), accessFlags := 4122, slot := 2, constantValue := 0 }]
  methods := #[k7m0]
  instanceTypes := #[(.object "java/lang/String"), .int, .int, (.object "java/lang/String")]
  staticTypes := #[(.object "com/example/openstrike/openstrike/market/Side"), (.object "com/example/openstrike/openstrike/market/Side"), (.array (.object "com/example/openstrike/openstrike/market/Side"))]
  resolved := Array.replicate 149 none
  statics := some 0 }

def pool8 : Array CpInfo := pool [(1, u "java/lang/Cloneable"), (0, .class_ 1), (0, u "java/lang/Object"), (0, .class_ 3)] 3

/-- java/lang/Cloneable -/
def k8 : Class := { plain "java/lang/Cloneable" (some 0) with
  accessFlags := 1537
  interfaces := #[]
  cf := some (fileOf pool8 2 #[] #[] 1537 4 #[] #[])
  fields := #[]
  methods := #[]
  instanceTypes := #[]
  staticTypes := #[]
  resolved := Array.replicate 8 none
  statics := none }

/-- the primitive byte -/
def k9 : Class := { plain "byte" none with kind := .primitive 'B', accessFlags := 0x411 }
/-- [B -/
def k10 : Class := { plain "[B" (some 0) with kind := .array 9 .byte, interfaces := #[8, 5], accessFlags := 1041 }

/-- the primitive int -/
def k11 : Class := { plain "int" none with kind := .primitive 'I', accessFlags := 0x411 }
/-- [I -/
def k12 : Class := { plain "[I" (some 0) with kind := .array 11 .int, interfaces := #[8, 5], accessFlags := 1041 }

def heap : Heap := #[{ cls := 7, slots := #[.ref 1, .ref 2, .null], vm := .statics 7 },
  { cls := 7, slots := #[.null, .int 0, .int 0, .null], vm := .none },
  { cls := 7, slots := #[.null, .int 1, .int 0, .null], vm := .none }]
def classes : Array Class := #[k0, k1, k2, k3, k4, k5, k6, k7, k8, k9, k10, k11, k12]
def interned : List (Array UInt16 × Addr) := []
def slotsUsed : Nat := 11
def theMethod : MethodId := ⟨1, 1⟩
def args0 : Array Value := #[.long 5, .long 7]
def aboutOver (below : List Frame) : State where
  vm := { classes := classes, interned := interned.toArray }
  heap := heap
  slotsUsed := slotsUsed
  threads := #[{ frames := .invoking theMethod args0 :: below }]
def below0 : List Frame := [.native { method := ⟨0, 0⟩, args := #[] }]
def about1 : State := aboutOver below0
def p0 : Program := .bare "" "" ""
def e0 : Env := launch0.env 0 0 0
theorem w_frames : about1.frames = Frame.invoking theMethod args0 :: below0 := rfl
set_option maxRecDepth 65536 in
theorem w_args : argsFit about1.vm theMethod args0 = true := by decide +kernel
set_option maxRecDepth 65536 in
theorem w_heap : heapFits about1 = true := by decide +kernel
set_option maxRecDepth 65536 in
theorem w_runnable : about1.curStatus? = some .runnable := by decide +kernel
set_option maxRecDepth 65536 in
theorem w_alone : about1.alone = true := by decide +kernel
set_option maxRecDepth 65536 in
theorem w_named : about1.methodNamed? x = some theMethod := by decide +kernel
set_option maxRecDepth 65536 in
theorem w_hears : about1.hears theMethod below0 = true := by decide +kernel
set_option maxRecDepth 65536 in
theorem w_ripe : about1.ripe theMethod args0 below0 = true := by decide +kernel
theorem w_running : about1.status = .running := rfl
set_option maxRecDepth 65536 in
theorem w_room : about1.hasRoom e0.platform room_1 = true :=
  launch0.hasRoom_least _ room_1 (by decide +kernel) (by decide +kernel) (by decide +kernel) (by decide +kernel) (by decide +kernel) (by decide +kernel)
theorem allAtoms_all (ts : List Jvm.Cond) (a : Array Jvm.Value) (st : Jvm.State) : (allAtoms ts).before a st = ts.all (fun c => c.before a st) := by
  induction ts with
  | nil => rfl
  | cons c t ih =>
    show (Jvm.Cond.and c (allAtoms t)).before a st = _
    rw [Jvm.Cond.before_and, ih, List.all_cons]
def words1 : List Jvm.Cond := Jvm.Cond.code x code maxLocals ret :: tables_1
/-- a 'code' word, met by the world's own term for the bytes: nothing is compared byte by byte -/
theorem code_word {y : MethodName} {bytes : ByteArray} {mx : Nat} {rt : Option FieldType} {a : Array Value} {s : State} {m : MethodId} {meth : Method} {c : Code} (h1 : s.methodNamed? y = some m) (h2 : s.vm.method? m = some meth) (h3 : meth.code = some c) (h4 : c.code = bytes)
    (h5 : (c.maxLocals == mx && c.exceptionTable.isEmpty && decide (c.maxStack ≤ mostOperands) && decide (meth.sig.returnType = rt) && !meth.locks && decide (parseMethodDescriptor y.desc = some meth.sig)) = true) : (Jvm.Cond.code y bytes mx rt).before a s = true := by
  simp only [Bool.and_eq_true, beq_iff_eq, Bool.not_eq_true', decide_eq_true_eq] at h5
  obtain ⟨⟨⟨⟨⟨g1, g2⟩, g3⟩, g4⟩, g5⟩, g6⟩ := h5
  simp [Cond.before, Cond.holds, Cond.value, h1, h2, h3, h4, g1, g2, g3, g4, g5, g6]
def isCode : Jvm.Cond → Bool
  | .code _ _ _ _ => true
  | _ => false
theorem all_split {L : List Jvm.Cond} {P : Jvm.Cond → Bool} (h1 : L.all (fun c => isCode c || P c) = true) (h2 : ∀ c ∈ L.filter isCode, P c = true) : L.all P = true := by
  refine List.all_eq_true.mpr fun c hc => ?_
  have h := List.all_eq_true.mp h1 c hc
  rcases Bool.eq_false_or_eq_true (isCode c) with hi | hi
  · exact h2 c (List.mem_filter.mpr ⟨hc, hi⟩)
  · simpa [hi] using h
set_option maxRecDepth 65536 in
theorem w_c0 : (Jvm.Cond.code x code maxLocals ret).before args0 about1 = true := code_word (m := ⟨1, 1⟩) (meth := k1m1) (c := k1c1) (by decide +kernel) rfl rfl rfl (by decide +kernel)
set_option maxRecDepth 65536 in
theorem w_c1 : (Jvm.Cond.code ({ cls := "java/lang/Math", name := "max", desc := "(JJ)J" } : Jvm.MethodName) jdk_29_method_66_code (4 : Nat) (Option.some Jvm.ClassFile.FieldType.long)).before args0 about1 = true := code_word (m := ⟨2, 1⟩) (meth := k2m1) (c := k2c1) (by decide +kernel) rfl rfl rfl (by decide +kernel)
set_option maxRecDepth 65536 in
theorem w_c2 : (Jvm.Cond.code ({ cls := "java/lang/Math", name := "min", desc := "(JJ)J" } : Jvm.MethodName) jdk_29_method_70_code (4 : Nat) (Option.some Jvm.ClassFile.FieldType.long)).before args0 about1 = true := code_word (m := ⟨2, 2⟩) (meth := k2m2) (c := k2c2) (by decide +kernel) rfl rfl rfl (by decide +kernel)
set_option maxRecDepth 65536 in
theorem w_c3 : (Jvm.Cond.code ({ cls := "com/example/openstrike/openstrike/market/Side", name := "locksOrCrosses", desc := "(JJ)Z" } : Jvm.MethodName) prog_36_method_6_code (5 : Nat) (Option.some Jvm.ClassFile.FieldType.boolean)).before args0 about1 = true := code_word (m := ⟨7, 0⟩) (meth := k7m0) (c := k7c0) (by decide +kernel) rfl rfl rfl (by decide +kernel)
def codes1 : List Jvm.Cond := [Jvm.Cond.code x code maxLocals ret, Jvm.Cond.code ({ cls := "java/lang/Math", name := "max", desc := "(JJ)J" } : Jvm.MethodName) jdk_29_method_66_code (4 : Nat) (Option.some Jvm.ClassFile.FieldType.long), Jvm.Cond.code ({ cls := "java/lang/Math", name := "min", desc := "(JJ)J" } : Jvm.MethodName) jdk_29_method_70_code (4 : Nat) (Option.some Jvm.ClassFile.FieldType.long), Jvm.Cond.code ({ cls := "com/example/openstrike/openstrike/market/Side", name := "locksOrCrosses", desc := "(JJ)Z" } : Jvm.MethodName) prog_36_method_6_code (5 : Nat) (Option.some Jvm.ClassFile.FieldType.boolean)]
set_option maxRecDepth 65536 in
theorem codes_eq : words1.filter isCode = codes1 := rfl
theorem w_codes : ∀ c ∈ words1.filter isCode, c.before args0 about1 = true := by
  rw [codes_eq]
  intro c hc
  simp only [codes1, List.mem_cons, List.not_mem_nil, or_false] at hc
  rcases hc with rfl | rfl | rfl | rfl
  · exact w_c0
  · exact w_c1
  · exact w_c2
  · exact w_c3
set_option maxRecDepth 65536 in
theorem w_t1 : words1.all (fun c => isCode c || c.before args0 about1) = true := by decide +kernel
theorem w_tables : (allAtoms (Jvm.Cond.code x code maxLocals ret :: tables_1)).before args0 about1 = true := by
  rw [allAtoms_all]
  show words1.all (fun c => c.before args0 about1) = true
  refine all_split ?_ w_codes
  rw [w_t1]
set_option maxRecDepth 65536 in
theorem w_case : (Jvm.Cond.and given_1 narrow_1).before args0 about1 = true := by decide +kernel
theorem w_applies : (headSpec (Jvm.Cond.code x code maxLocals ret :: tables_1) room_1).applies x e0.platform about1 = true :=
  (Spec.applies_iff w_frames).mpr ⟨w_running, w_runnable, w_alone, w_named, w_hears, w_ripe, w_room, w_tables⟩
theorem atStart : AtStart classFile x code maxLocals ret World_1 tables_1 room_1 Calls_1 rest_1 Pre_1 launch0 p0 e0 about1 theMethod args0 below0 :=
  ⟨lists_1, trivial, launch0.admits_env _ _ _, launch0.least_env, fairChoices_fair.cas, fairChoices_fair.clock, w_frames, w_args, w_heap, w_applies, trivial, trivial, w_case⟩
end start1
theorem witness_1 : WitnessClaimed_1 := ⟨start1.p0, start1.e0, start1.about1, start1.theMethod, start1.args0, start1.below0, start1.atStart⟩
end Jvm.Pilot.@@N@@
