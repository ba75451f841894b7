import JvmDerived
import JvmDerived.Pilot.@@N@@Statement
import JvmDerived.Pilot.@@N@@Code
set_option linter.unusedVariables false
set_option linter.unusedSimpArgs false
namespace Jvm.RoadKit
open Sem ClassFile Op Lib Jvm.Stand Jvm.Free Jvm.LawKit
section New
variable {p : Program} {l : Launch} {e : Env} {R : Room} {s : State} {m : MethodId} {args : Array Value} {below : List Frame} {meth : Method} {c : Code} {T : State} {locs : List Loc} {cells slots : Nat}
theorem retI (X : Stand p l e R s m args below meth c T locs cells slots) (hx : p.tables.exec = Jvm.exec) {pc : Nat} {Ls : Array Slot} {z : Int32} {rest : List Value} (hret : meth.sig.returnType = some .int) (hd : decode c.code pc = .ok (.ireturn, 1)) {fs : List Frame}
    (hl : ∀ (f : JFrame) (acts : List Action), f.method = m → f.locked = none → f.entered = [] → (doReturn e (T.setTop f) acts (some (.int z))).1 = T.setFrames fs) : Steps p.tables e below (T.setTop (mkF m pc Ls (.int z :: rest))) (T.setFrames fs) := by
  have hm' : T.vm.method? m = some meth := X.method'
  have hn : narrow .int (.int z) = .int z := rfl
  show Steps p.tables e below (T.setTop { method := m, pc := pc, locals := Ls, stack := _ :: rest, locked := none }) _
  jvm_step X.here [X.here.top, hx, hd, hm', hret, hn]
  first | (intro acts; rw [hl _ acts rfl rfl rfl]) | rw [hl _ _ rfl rfl rfl]
  exact Steps.refl _
end New
end Jvm.RoadKit
namespace Jvm.Pilot.@@N@@
open Jvm Jvm.ClassFile Sem Op Lib Jvm.Free Jvm.Stand Jvm.LawKit Jvm.RoadKit Bundle Jvm.Pilot.@@N@@.Jvm.D
/-- what a walk owes from the state S on -/
def own_G (p : Program) (e : Env) (below : List Frame) (R : State → Outcome → Prop) (S : State) : Prop := ∃ t o, Steps p.tables e below S t ∧ R t o
theorem own_back {p : Program} {e : Env} {below : List Frame} {R : State → Outcome → Prop} {S S' : State} (k : ∀ t, Steps p.tables e below S' t → Steps p.tables e below S t) (h : own_G p e below R S') : own_G p e below R S := by
  obtain ⟨t, o, h1, h2⟩ := h
  exact ⟨t, o, k t h1, h2⟩
theorem own_open {p : Program} {e : Env} {below : List Frame} {R : State → Outcome → Prop} {S S' : State} (k : ∀ t, Steps p.tables e below S' t → Steps p.tables e below S t) (h : own_G p e below R S') : ∃ t o, Steps p.tables e below S t ∧ R t o := own_back k h
theorem own_done {p : Program} {e : Env} {below : List Frame} {R : State → Outcome → Prop} {S : State} (h : ∃ t o, Steps p.tables e below S t ∧ R t o) : own_G p e below R S := h
def own_isP (q : Int64) : Int32 := if q < (3000 : Int64) then 0 else if q < (4000 : Int64) then 1 else 0
def own_in3 (q : Int64) : Int32 := if (q / (1000 : Int64)) = (3 : Int64) then 1 else 0
theorem own_same (q : Int64) : own_isP q = own_in3 q := by
  have e1 : (3000 : Int64).toInt = 3000 := by decide +kernel
  have e2 : (4000 : Int64).toInt = 4000 := by decide +kernel
  have e3 : (3 : Int64).toInt = 3 := by decide +kernel
  have h := c_ldiv q (1000 : Int64) 1000 (by decide +kernel) (by decide +kernel)
  have k1 : (q < (3000 : Int64)) ↔ q.toInt < 3000 := by rw [Int64.lt_iff_toInt_lt, e1]
  have k2 : (q < (4000 : Int64)) ↔ q.toInt < 4000 := by rw [Int64.lt_iff_toInt_lt, e2]
  have k3 : (q / (1000 : Int64) = (3 : Int64)) ↔ (q / (1000 : Int64)).toInt = 3 := by rw [← Int64.toInt_inj, e3]
  unfold own_isP own_in3
  by_cases p1 : q < (3000 : Int64)
  · rw [if_pos p1, if_neg]
    rw [k3]
    have := k1.mp p1
    omega
  · rw [if_neg p1]
    by_cases p2 : q < (4000 : Int64)
    · rw [if_pos p2, if_pos]
      rw [k3]
      have := k2.mp p2
      have n1 : ¬ (q.toInt < 3000) := fun z => p1 (k1.mpr z)
      omega
    · rw [if_neg p2, if_neg]
      rw [k3]
      have n1 : ¬ (q.toInt < 3000) := fun z => p1 (k1.mpr z)
      have n2 : ¬ (q.toInt < 4000) := fun z => p2 (k2.mpr z)
      omega
theorem d1_0 : decode prog_32_method_2_code 0 = .ok (.lload_n 0, 1) := by decide +kernel
theorem d1_1 : decode prog_32_method_2_code 1 = .ok (.ldc2_w 7, 3) := by decide +kernel
theorem d1_4 : decode prog_32_method_2_code 4 = .ok (.lcmp, 1) := by decide +kernel
theorem d1_5 : decode prog_32_method_2_code 5 = .ok (.ifCond .lt 15, 3) := by decide +kernel
theorem d1_8 : decode prog_32_method_2_code 8 = .ok (.lload_n 0, 1) := by decide +kernel
theorem d1_9 : decode prog_32_method_2_code 9 = .ok (.ldc2_w 9, 3) := by decide +kernel
theorem d1_12 : decode prog_32_method_2_code 12 = .ok (.lcmp, 1) := by decide +kernel
theorem d1_13 : decode prog_32_method_2_code 13 = .ok (.ifCond .ge 7, 3) := by decide +kernel
theorem d1_16 : decode prog_32_method_2_code 16 = .ok (.iconst 1, 1) := by decide +kernel
theorem d1_17 : decode prog_32_method_2_code 17 = .ok (.goto 4, 3) := by decide +kernel
theorem d1_20 : decode prog_32_method_2_code 20 = .ok (.iconst 0, 1) := by decide +kernel
theorem d1_21 : decode prog_32_method_2_code 21 = .ok (.ireturn, 1) := by decide +kernel
theorem pn_com_example_secant_secant_message_ResultCode : plainName "com/example/secant/secant/message/ResultCode" = true := by first | (simp [plainName, overriddenIn]; done) | decide +kernel
theorem ef_1 (m : MethodId) (x0 : Int64) : entryFrame m #[(.long x0)] 2 = mkF m 0 #[.val (.long x0), .second] [] := by first | (simp [entryFrame, mkF, argsToLocals, Value.category]; done) | rfl
def Q1 (Z : State) (q1 : Int64) (h0 : Heap) (n0 : Nat) (v : Option Value) (h : Heap) (L : List Loc) : Prop := v = some (.int (own_isP q1)) ∧ Fr n0 L ∧ h = h0
set_option maxRecDepth 65536 in
set_option maxHeartbeats 40000000 in
theorem rm1 (l : Launch) (Z : State) (a0 : Array Value) (hw : ∀ d ∈ tables_1, d.before a0 Z = true) (ws : List Jvm.Cond) (q1 : Int64) (h0 : Heap) (n0 : Nat) (Z0 : n0 ≤ h0.size) :
    MetFree l (⟨"com/example/secant/secant/message/ResultCode", "isProtocolError", "(J)Z"⟩ : MethodName) (head1 (Jvm.Cond.code (⟨"com/example/secant/secant/message/ResultCode", "isProtocolError", "(J)Z"⟩ : MethodName) prog_32_method_2_code 2 (some .boolean) :: ws) ({ frames := 0, cells := 0, slots := 0, locals := 0 } : Room)) (fun a U => a = #[(.long q1)] ∧ Z.Warmed39 U.vm ∧ U.heap = h0) (fun _ _ _ _ _ => True) (fun _ U o U' => ∃ v L, o = .returned v ∧ Q1 Z q1 h0 n0 v U'.heap L ∧ FrameEnd U o U' L ({ frames := 0, cells := 0, slots := 0, locals := 0 } : Room).cells ({ frames := 0, cells := 0, slots := 0, locals := 0 } : Room).slots) := by
  refine MetFree.of_bodySF (plainFor_of_name pn_com_example_secant_secant_message_ResultCode) hisR ?_
  intro p e s m args below meth c s₁ Bd hml0 hP hK
  obtain ⟨rfl, hZ, hh⟩ := hP
  have hx := Bd.exec
  have hby := Bd.bytes
  have hml : c.maxLocals = 2 := hml0
  have hown : s.vm.findClass "com/example/secant/secant/message/ResultCode" = some m.cls := findClass_of_methodNamed Bd.named
  have hnm := (name_of_methodNamed Bd.named Bd.method).1
  have X0 : Stand p l e ({ frames := 0, cells := 0, slots := 0, locals := 0 } : Room) s m #[(.long q1)] below meth c s₁ [] 0 0 := Stand.of_body Bd
  have e0 : s₁.heap = h0 := by rw [← hh, Bd.state]; rfl
  have N0 := Fr.nil n0
  refine own_open (S' := s₁.setTop (mkF m 0 #[.val (.long q1), .second] [])) (fun t k => castTop (ef_1 m q1) k) ?_
  refine own_back (S' := s₁.setTop (mkF m 1 #[.val (.long q1), .second] [(.long q1)])) (fun _ k => XS.lloadN X0.here hx rfl (hb hby d1_0) rfl k) ?_
  refine own_back (S' := s₁.setTop (mkF m 4 #[.val (.long q1), .second] [(.long (3000 : Int64)), (.long q1)])) (fun _ k => X0.ldc2Long hx hown (mvT hZ (hw _ (List.mem_of_getElem? (i := 6) rfl))) (g := (mkF m 1 #[.val (.long q1), .second] [(.long q1)])) rfl (hb hby d1_1) _ k) ?_
  refine own_back (S' := s₁.setTop (mkF m 5 #[.val (.long q1), .second] [(.int (lcmpW q1 (3000 : Int64)))])) (fun _ k => XS.lcmp X0.here hx rfl (hb hby d1_4) rfl k) ?_
  by_cases hc5_1 : q1 < (3000 : Int64)
  ·
    refine own_back (S' := s₁.setTop (mkF m 20 #[.val (.long q1), .second] [])) (fun _ k => XS.ifYes X0.here hx rfl (pc0 := 5) (pc' := 20) rfl (hb hby d1_5) rfl ((if0 _ _).trans (tlt ((lw_lt _ _).mpr hc5_1)).1) (by decide) (by decide) k) ?_
    refine own_back (S' := s₁.setTop (mkF m 21 #[.val (.long q1), .second] [(.int (0 : Int32))])) (fun _ k => XS.iconst X0.here hx rfl (hb hby d1_20)  k) ?_
    obtain ⟨fs, hr, hrun, hended, hW, hsame⟩ := X0.leave (v := some (.int (0 : Int32))) (fun h => by rw [Bd.returns] at h; cases h)
    refine own_done ⟨_, _, retN X0 hx (t := .boolean) Bd.returns (by simp) (hb hby d1_21) hr, hrun, hended, _, _, rfl, ?_, ⟨_, rfl⟩, hW, hsame.mono (by decide) (by decide)⟩
    show Q1 Z q1 h0 n0 _ s₁.heap _
    rw [e0]
    exact ⟨by unfold own_isP; rw [if_pos hc5_1], N0, rfl⟩
  ·
    refine own_back (S' := s₁.setTop (mkF m 8 #[.val (.long q1), .second] [])) (fun _ k => XS.ifNo X0.here hx rfl (hb hby d1_5) rfl ((if0 _ _).trans (flt (fun q_ => hc5_1 ((lw_lt _ _).mp q_))).1) k) ?_
    refine own_back (S' := s₁.setTop (mkF m 9 #[.val (.long q1), .second] [(.long q1)])) (fun _ k => XS.lloadN X0.here hx rfl (hb hby d1_8) rfl k) ?_
    refine own_back (S' := s₁.setTop (mkF m 12 #[.val (.long q1), .second] [(.long (4000 : Int64)), (.long q1)])) (fun _ k => X0.ldc2Long hx hown (mvT hZ (hw _ (List.mem_of_getElem? (i := 13) rfl))) (g := (mkF m 9 #[.val (.long q1), .second] [(.long q1)])) rfl (hb hby d1_9) _ k) ?_
    refine own_back (S' := s₁.setTop (mkF m 13 #[.val (.long q1), .second] [(.int (lcmpW q1 (4000 : Int64)))])) (fun _ k => XS.lcmp X0.here hx rfl (hb hby d1_12) rfl k) ?_
    by_cases hc13_3 : q1 < (4000 : Int64)
    ·
      refine own_back (S' := s₁.setTop (mkF m 16 #[.val (.long q1), .second] [])) (fun _ k => XS.ifNo X0.here hx rfl (hb hby d1_13) rfl ((if0 _ _).trans (tlt ((lw_lt _ _).mpr hc13_3)).2.1) k) ?_
      refine own_back (S' := s₁.setTop (mkF m 17 #[.val (.long q1), .second] [(.int (1 : Int32))])) (fun _ k => XS.iconst X0.here hx rfl (hb hby d1_16)  k) ?_
      refine own_back (S' := s₁.setTop (mkF m 21 #[.val (.long q1), .second] [(.int (1 : Int32))])) (fun _ k => XS.goto X0.here hx rfl (pc0 := 17) (pc' := 21) rfl (hb hby d1_17) (by decide) (by decide) k) ?_
      obtain ⟨fs, hr, hrun, hended, hW, hsame⟩ := X0.leave (v := some (.int (1 : Int32))) (fun h => by rw [Bd.returns] at h; cases h)
      refine own_done ⟨_, _, retN X0 hx (t := .boolean) Bd.returns (by simp) (hb hby d1_21) hr, hrun, hended, _, _, rfl, ?_, ⟨_, rfl⟩, hW, hsame.mono (by decide) (by decide)⟩
      show Q1 Z q1 h0 n0 _ s₁.heap _
      rw [e0]
      exact ⟨by unfold own_isP; rw [if_neg hc5_1, if_pos hc13_3], N0, rfl⟩
    ·
      refine own_back (S' := s₁.setTop (mkF m 20 #[.val (.long q1), .second] [])) (fun _ k => XS.ifYes X0.here hx rfl (pc0 := 13) (pc' := 20) rfl (hb hby d1_13) rfl ((if0 _ _).trans (flt (fun q_ => hc13_3 ((lw_lt _ _).mp q_))).2.1) (by decide) (by decide) k) ?_
      refine own_back (S' := s₁.setTop (mkF m 21 #[.val (.long q1), .second] [(.int (0 : Int32))])) (fun _ k => XS.iconst X0.here hx rfl (hb hby d1_20)  k) ?_
      obtain ⟨fs, hr, hrun, hended, hW, hsame⟩ := X0.leave (v := some (.int (0 : Int32))) (fun h => by rw [Bd.returns] at h; cases h)
      refine own_done ⟨_, _, retN X0 hx (t := .boolean) Bd.returns (by simp) (hb hby d1_21) hr, hrun, hended, _, _, rfl, ?_, ⟨_, rfl⟩, hW, hsame.mono (by decide) (by decide)⟩
      show Q1 Z q1 h0 n0 _ s₁.heap _
      rw [e0]
      exact ⟨by unfold own_isP; rw [if_neg hc5_1, if_neg hc13_3], N0, rfl⟩
theorem d2_0 : decode method_2_code 0 = .ok (.lload_n 0, 1) := by decide +kernel
theorem d2_1 : decode method_2_code 1 = .ok (.ldc2_w 7, 3) := by decide +kernel
theorem d2_4 : decode method_2_code 4 = .ok (.ldiv, 1) := by decide +kernel
theorem d2_5 : decode method_2_code 5 = .ok (.ldc2_w 9, 3) := by decide +kernel
theorem d2_8 : decode method_2_code 8 = .ok (.lcmp, 1) := by decide +kernel
theorem d2_9 : decode method_2_code 9 = .ok (.ifCond .ne 7, 3) := by decide +kernel
theorem d2_12 : decode method_2_code 12 = .ok (.iconst 1, 1) := by decide +kernel
theorem d2_13 : decode method_2_code 13 = .ok (.goto 4, 3) := by decide +kernel
theorem d2_16 : decode method_2_code 16 = .ok (.iconst 0, 1) := by decide +kernel
theorem d2_17 : decode method_2_code 17 = .ok (.ireturn, 1) := by decide +kernel
theorem pn_com_example_secant_secant_message_ResultCodeIsProtocolErrorPinLaw : plainName "com/example/secant/secant/message/ResultCodeIsProtocolErrorPinLaw" = true := by first | (simp [plainName, overriddenIn]; done) | decide +kernel
theorem ef_2 (m : MethodId) (x0 : Int64) : entryFrame m #[(.long x0)] 2 = mkF m 0 #[.val (.long x0), .second] [] := by first | (simp [entryFrame, mkF, argsToLocals, Value.category]; done) | rfl
def Q2 (Z : State) (q1 : Int64) (h0 : Heap) (n0 : Nat) (v : Option Value) (h : Heap) (L : List Loc) : Prop := v = some (.int (own_in3 q1)) ∧ Fr n0 L ∧ h = h0
set_option maxRecDepth 65536 in
set_option maxHeartbeats 40000000 in
theorem rm2 (l : Launch) (Z : State) (a0 : Array Value) (hw : ∀ d ∈ tables_1, d.before a0 Z = true) (ws : List Jvm.Cond) (q1 : Int64) (h0 : Heap) (n0 : Nat) (Z0 : n0 ≤ h0.size) :
    MetFree l (⟨"com/example/secant/secant/message/ResultCodeIsProtocolErrorPinLaw", "inClass3", "(J)Z"⟩ : MethodName) (head1 (Jvm.Cond.code (⟨"com/example/secant/secant/message/ResultCodeIsProtocolErrorPinLaw", "inClass3", "(J)Z"⟩ : MethodName) method_2_code 2 (some .boolean) :: ws) ({ frames := 0, cells := 0, slots := 0, locals := 0 } : Room)) (fun a U => a = #[(.long q1)] ∧ Z.Warmed39 U.vm ∧ U.heap = h0) (fun _ _ _ _ _ => True) (fun _ U o U' => ∃ v L, o = .returned v ∧ Q2 Z q1 h0 n0 v U'.heap L ∧ FrameEnd U o U' L ({ frames := 0, cells := 0, slots := 0, locals := 0 } : Room).cells ({ frames := 0, cells := 0, slots := 0, locals := 0 } : Room).slots) := by
  refine MetFree.of_bodySF (plainFor_of_name pn_com_example_secant_secant_message_ResultCodeIsProtocolErrorPinLaw) hisR ?_
  intro p e s m args below meth c s₁ Bd hml0 hP hK
  obtain ⟨rfl, hZ, hh⟩ := hP
  have hx := Bd.exec
  have hby := Bd.bytes
  have hml : c.maxLocals = 2 := hml0
  have hown : s.vm.findClass "com/example/secant/secant/message/ResultCodeIsProtocolErrorPinLaw" = some m.cls := findClass_of_methodNamed Bd.named
  have hnm := (name_of_methodNamed Bd.named Bd.method).1
  have X0 : Stand p l e ({ frames := 0, cells := 0, slots := 0, locals := 0 } : Room) s m #[(.long q1)] below meth c s₁ [] 0 0 := Stand.of_body Bd
  have e0 : s₁.heap = h0 := by rw [← hh, Bd.state]; rfl
  have N0 := Fr.nil n0
  refine own_open (S' := s₁.setTop (mkF m 0 #[.val (.long q1), .second] [])) (fun t k => castTop (ef_2 m q1) k) ?_
  refine own_back (S' := s₁.setTop (mkF m 1 #[.val (.long q1), .second] [(.long q1)])) (fun _ k => XS.lloadN X0.here hx rfl (hb hby d2_0) rfl k) ?_
  refine own_back (S' := s₁.setTop (mkF m 4 #[.val (.long q1), .second] [(.long (1000 : Int64)), (.long q1)])) (fun _ k => X0.ldc2Long hx hown (mvT hZ (hw _ (List.mem_of_getElem? (i := 11) rfl))) (g := (mkF m 1 #[.val (.long q1), .second] [(.long q1)])) rfl (hb hby d2_1) _ k) ?_
  refine own_back (S' := s₁.setTop (mkF m 5 #[.val (.long q1), .second] [(.long (q1 / (1000 : Int64)))])) (fun _ k => XS.ldiv X0.here hx rfl (hb hby d2_4) rfl (by decide) k) ?_
  refine own_back (S' := s₁.setTop (mkF m 8 #[.val (.long q1), .second] [(.long (3 : Int64)), (.long (q1 / (1000 : Int64)))])) (fun _ k => X0.ldc2Long hx hown (mvT hZ (hw _ (List.mem_of_getElem? (i := 12) rfl))) (g := (mkF m 5 #[.val (.long q1), .second] [(.long (q1 / (1000 : Int64)))])) rfl (hb hby d2_5) _ k) ?_
  refine own_back (S' := s₁.setTop (mkF m 9 #[.val (.long q1), .second] [(.int (lcmpW (q1 / (1000 : Int64)) (3 : Int64)))])) (fun _ k => XS.lcmp X0.here hx rfl (hb hby d2_8) rfl k) ?_
  by_cases hc9_1 : (q1 / (1000 : Int64)) = (3 : Int64)
  ·
    refine own_back (S' := s₁.setTop (mkF m 12 #[.val (.long q1), .second] [])) (fun _ k => XS.ifNo X0.here hx rfl (hb hby d2_9) rfl ((if0 _ _).trans (teq ((lw_eq _ _).mpr hc9_1)).2) k) ?_
    refine own_back (S' := s₁.setTop (mkF m 13 #[.val (.long q1), .second] [(.int (1 : Int32))])) (fun _ k => XS.iconst X0.here hx rfl (hb hby d2_12)  k) ?_
    refine own_back (S' := s₁.setTop (mkF m 17 #[.val (.long q1), .second] [(.int (1 : Int32))])) (fun _ k => XS.goto X0.here hx rfl (pc0 := 13) (pc' := 17) rfl (hb hby d2_13) (by decide) (by decide) k) ?_
    obtain ⟨fs, hr, hrun, hended, hW, hsame⟩ := X0.leave (v := some (.int (1 : Int32))) (fun h => by rw [Bd.returns] at h; cases h)
    refine own_done ⟨_, _, retN X0 hx (t := .boolean) Bd.returns (by simp) (hb hby d2_17) hr, hrun, hended, _, _, rfl, ?_, ⟨_, rfl⟩, hW, hsame.mono (by decide) (by decide)⟩
    show Q2 Z q1 h0 n0 _ s₁.heap _
    rw [e0]
    exact ⟨by unfold own_in3; rw [if_pos hc9_1], N0, rfl⟩
  ·
    refine own_back (S' := s₁.setTop (mkF m 16 #[.val (.long q1), .second] [])) (fun _ k => XS.ifYes X0.here hx rfl (pc0 := 9) (pc' := 16) rfl (hb hby d2_9) rfl ((if0 _ _).trans (feq (fun q_ => hc9_1 ((lw_eq _ _).mp q_))).2) (by decide) (by decide) k) ?_
    refine own_back (S' := s₁.setTop (mkF m 17 #[.val (.long q1), .second] [(.int (0 : Int32))])) (fun _ k => XS.iconst X0.here hx rfl (hb hby d2_16)  k) ?_
    obtain ⟨fs, hr, hrun, hended, hW, hsame⟩ := X0.leave (v := some (.int (0 : Int32))) (fun h => by rw [Bd.returns] at h; cases h)
    refine own_done ⟨_, _, retN X0 hx (t := .boolean) Bd.returns (by simp) (hb hby d2_17) hr, hrun, hended, _, _, rfl, ?_, ⟨_, rfl⟩, hW, hsame.mono (by decide) (by decide)⟩
    show Q2 Z q1 h0 n0 _ s₁.heap _
    rw [e0]
    exact ⟨by unfold own_in3; rw [if_neg hc9_1], N0, rfl⟩
theorem pd_0 : parseMethodDescriptor "(J)Z" = some ⟨[.long], some .boolean⟩ := by decide +kernel
theorem ef_0 (m : MethodId) (x0 : Int64) (x1 : Int32) : entryFrame m #[(.long x0), (.int x1)] maxLocals = mkF m 0 #[.val (.long x0), .second, .val (.int x1), .unset, .unset, .unset, .unset, .unset, .unset, .unset] [] := by first | (simp [entryFrame, mkF, argsToLocals, Value.category, maxLocals]; done) | rfl
def Q0 (Z : State) (q1 : Int64) (p2 : Int32) (h0 : Heap) (n0 : Nat) (v : Option Value) (h : Heap) (L : List Loc) : Prop := v = some (.int (1 : Int32)) ∧ Fr n0 L
set_option maxRecDepth 65536 in
set_option maxHeartbeats 40000000 in
theorem rm0 (l : Launch) (Z : State) (a0 : Array Value) (hw : ∀ d ∈ tables_1, d.before a0 Z = true) (ws : List Jvm.Cond) (q1 : Int64) (p2 : Int32) (h0 : Heap) (n0 : Nat) (Z0 : n0 ≤ h0.size) :
    MetFree l x (head1 (Jvm.Cond.code x code maxLocals ret :: ws) room_1) (fun a U => a = #[(.long q1), (.int p2)] ∧ Z.Warmed39 U.vm ∧ U.heap = h0) (fun _ _ _ _ _ => True) (fun _ U o U' => ∃ v L, o = .returned v ∧ Q0 Z q1 p2 h0 n0 v U'.heap L ∧ FrameEnd U o U' L room_1.cells room_1.slots) := by
  refine MetFree.of_bodySF (plainFor_of_name pn_com_example_secant_secant_message_ResultCodeIsProtocolErrorPinLaw) hisR ?_
  intro p e s m args below meth c s₁ Bd hml0 hP hK
  obtain ⟨rfl, hZ, hh⟩ := hP
  have hx := Bd.exec
  have hby := Bd.bytes
  have hml : c.maxLocals = 10 := hml0
  have hown : s.vm.findClass "com/example/secant/secant/message/ResultCodeIsProtocolErrorPinLaw" = some m.cls := findClass_of_methodNamed Bd.named
  have hnm := (name_of_methodNamed Bd.named Bd.method).1
  have X0 : Stand p l e room_1 s m #[(.long q1), (.int p2)] below meth c s₁ [] 0 0 := Stand.of_body Bd
  have e0 : s₁.heap = h0 := by rw [← hh, Bd.state]; rfl
  have N0 := Fr.nil n0
  refine own_open (S' := s₁.setTop (mkF m 0 #[.val (.long q1), .second, .val (.int p2), .unset, .unset, .unset, .unset, .unset, .unset, .unset] [])) (fun t k => castTop (ef_0 m q1 p2) k) ?_
  refine own_back (S' := s₁.setTop (mkF m 1 #[.val (.long q1), .second, .val (.int p2), .unset, .unset, .unset, .unset, .unset, .unset, .unset] [(.int p2)])) (fun _ k => XS.iloadN X0.here hx rfl (hb hby at_0) rfl k) ?_
  refine own_back (S' := s₁.setTop (mkF m 2 #[.val (.long q1), .second, .val (.int p2), .unset, .unset, .unset, .unset, .unset, .unset, .unset] [(.int (1 : Int32)), (.int p2)])) (fun _ k => XS.iconst X0.here hx rfl (hb hby at_1)  k) ?_
  refine own_back (S' := s₁.setTop (mkF m 3 #[.val (.long q1), .second, .val (.int p2), .unset, .unset, .unset, .unset, .unset, .unset, .unset] [(.int (p2 &&& (1 : Int32)))])) (fun _ k => XS.iand X0.here hx rfl (hb hby at_2) rfl k) ?_
  by_cases hc3_1 : (p2 &&& (1 : Int32)) = (0 : Int32)
  ·
    refine own_back (S' := s₁.setTop (mkF m 12 #[.val (.long q1), .second, .val (.int p2), .unset, .unset, .unset, .unset, .unset, .unset, .unset] [])) (fun _ k => XS.ifYes X0.here hx rfl (pc0 := 3) (pc' := 12) rfl (hb hby at_3) rfl ((if0 _ _).trans (teq hc3_1).1) (by decide) (by decide) k) ?_
    refine own_back (S' := s₁.setTop (mkF m 15 #[.val (.long q1), .second, .val (.int p2), .unset, .unset, .unset, .unset, .unset, .unset, .unset] [(.long (4000 : Int64))])) (fun _ k => X0.ldc2Long hx hown (mvT hZ (hw _ (List.mem_of_getElem? (i := 0) rfl))) (g := (mkF m 12 #[.val (.long q1), .second, .val (.int p2), .unset, .unset, .unset, .unset, .unset, .unset, .unset] [])) rfl (hb hby at_12) _ k) ?_
    refine own_back (S' := s₁.setTop (mkF m 16 #[.val (.long q1), .second, .val (.int p2), .val (.long (4000 : Int64)), .second, .unset, .unset, .unset, .unset, .unset] [])) (fun _ k => XS.lstoreN X0.here hx rfl (hb hby at_15) rfl (l' := #[.val (.long q1), .second, .val (.int p2), .val (.long (4000 : Int64)), .second, .unset, .unset, .unset, .unset, .unset]) rfl k) ?_
    refine own_back (S' := s₁.setTop (mkF m 17 #[.val (.long q1), .second, .val (.int p2), .val (.long (4000 : Int64)), .second, .unset, .unset, .unset, .unset, .unset] [(.long (4000 : Int64))])) (fun _ k => XS.lloadN X0.here hx rfl (hb hby at_16) rfl k) ?_
    refine own_back (S' := s₁.setTop (mkF m 18 #[.val (.long q1), .second, .val (.int p2), .val (.long (4000 : Int64)), .second, .unset, .unset, .unset, .unset, .unset] [(.int p2), (.long (4000 : Int64))])) (fun _ k => XS.iloadN X0.here hx rfl (hb hby at_17) rfl k) ?_
    refine own_back (S' := s₁.setTop (mkF m 19 #[.val (.long q1), .second, .val (.int p2), .val (.long (4000 : Int64)), .second, .unset, .unset, .unset, .unset, .unset] [(.int (1 : Int32)), (.int p2), (.long (4000 : Int64))])) (fun _ k => XS.iconst X0.here hx rfl (hb hby at_18)  k) ?_
    refine own_back (S' := s₁.setTop (mkF m 20 #[.val (.long q1), .second, .val (.int p2), .val (.long (4000 : Int64)), .second, .unset, .unset, .unset, .unset, .unset] [(.int (p2 >>> ((1 : Int32) &&& 31))), (.long (4000 : Int64))])) (fun _ k => XS.ishr X0.here hx rfl (hb hby at_19) rfl k) ?_
    refine own_back (S' := s₁.setTop (mkF m 21 #[.val (.long q1), .second, .val (.int p2), .val (.long (4000 : Int64)), .second, .unset, .unset, .unset, .unset, .unset] [(.int (3 : Int32)), (.int (p2 >>> ((1 : Int32) &&& 31))), (.long (4000 : Int64))])) (fun _ k => XS.iconst X0.here hx rfl (hb hby at_20)  k) ?_
    refine own_back (S' := s₁.setTop (mkF m 22 #[.val (.long q1), .second, .val (.int p2), .val (.long (4000 : Int64)), .second, .unset, .unset, .unset, .unset, .unset] [(.int ((p2 >>> ((1 : Int32) &&& 31)) &&& (3 : Int32))), (.long (4000 : Int64))])) (fun _ k => XS.iand X0.here hx rfl (hb hby at_21) rfl k) ?_
    refine own_back (S' := s₁.setTop (mkF m 23 #[.val (.long q1), .second, .val (.int p2), .val (.long (4000 : Int64)), .second, .unset, .unset, .unset, .unset, .unset] [(.long (((p2 >>> ((1 : Int32) &&& 31)) &&& (3 : Int32)).toInt64)), (.long (4000 : Int64))])) (fun _ k => XS.i2l X0.here hx rfl (hb hby at_22) rfl k) ?_
    refine own_back (S' := s₁.setTop (mkF m 24 #[.val (.long q1), .second, .val (.int p2), .val (.long (4000 : Int64)), .second, .unset, .unset, .unset, .unset, .unset] [(.long ((4000 : Int64) + (((p2 >>> ((1 : Int32) &&& 31)) &&& (3 : Int32)).toInt64)))])) (fun _ k => XS.ladd X0.here hx rfl (hb hby at_23) rfl k) ?_
    refine own_back (S' := s₁.setTop (mkF m 27 #[.val (.long q1), .second, .val (.int p2), .val (.long (4000 : Int64)), .second, .unset, .unset, .unset, .unset, .unset] [(.long (2 : Int64)), (.long ((4000 : Int64) + (((p2 >>> ((1 : Int32) &&& 31)) &&& (3 : Int32)).toInt64)))])) (fun _ k => X0.ldc2Long hx hown (mvT hZ (hw _ (List.mem_of_getElem? (i := 1) rfl))) (g := (mkF m 24 #[.val (.long q1), .second, .val (.int p2), .val (.long (4000 : Int64)), .second, .unset, .unset, .unset, .unset, .unset] [(.long ((4000 : Int64) + (((p2 >>> ((1 : Int32) &&& 31)) &&& (3 : Int32)).toInt64)))])) rfl (hb hby at_24) _ k) ?_
    refine own_back (S' := s₁.setTop (mkF m 28 #[.val (.long q1), .second, .val (.int p2), .val (.long (4000 : Int64)), .second, .unset, .unset, .unset, .unset, .unset] [(.long (((4000 : Int64) + (((p2 >>> ((1 : Int32) &&& 31)) &&& (3 : Int32)).toInt64)) - (2 : Int64)))])) (fun _ k => XS.lsub X0.here hx rfl (hb hby at_27) rfl k) ?_
    refine own_back (S' := s₁.setTop (mkF m 30 #[.val (.long q1), .second, .val (.int p2), .val (.long (4000 : Int64)), .second, .val (.long (((4000 : Int64) + (((p2 >>> ((1 : Int32) &&& 31)) &&& (3 : Int32)).toInt64)) - (2 : Int64))), .second, .unset, .unset, .unset] [])) (fun _ k => XS.lstore X0.here hx rfl (hb hby at_28) rfl (l' := #[.val (.long q1), .second, .val (.int p2), .val (.long (4000 : Int64)), .second, .val (.long (((4000 : Int64) + (((p2 >>> ((1 : Int32) &&& 31)) &&& (3 : Int32)).toInt64)) - (2 : Int64))), .second, .unset, .unset, .unset]) rfl k) ?_
    refine own_back (S' := s₁.setTop (mkF m 31 #[.val (.long q1), .second, .val (.int p2), .val (.long (4000 : Int64)), .second, .val (.long (((4000 : Int64) + (((p2 >>> ((1 : Int32) &&& 31)) &&& (3 : Int32)).toInt64)) - (2 : Int64))), .second, .unset, .unset, .unset] [(.long q1)])) (fun _ k => XS.lloadN X0.here hx rfl (hb hby at_30) rfl k) ?_
    obtain ⟨_, _, ⟨T2, L2, k2, n2⟩, -, X2, ⟨Lc2, hQ2, l2, y2, z2⟩, st2⟩ := Jvm.LawKit.callS X0 hx (y := (⟨"com/example/secant/secant/message/ResultCode", "isProtocolError", "(J)Z"⟩ : MethodName)) hown (mvT hZ (hw _ (List.mem_of_getElem? (i := 2) rfl))) (mvT hZ (hw _ (List.mem_of_getElem? (i := 3) rfl))) (mvT hZ (hw _ (List.mem_of_getElem? (i := 4) rfl))) (mvT hZ (hw _ (List.mem_of_getElem? (i := 5) rfl))) (by decide) (backOf (W := 0) (rm1 l Z a0 hw [] q1 h0 n0 Z0 ) hZ (hw _ (List.mem_of_getElem? (i := 5) rfl)) (hw _ (List.mem_of_getElem? (i := 4) rfl)) (by decide) (by decide)) (g := (mkF m 31 #[.val (.long q1), .second, .val (.int p2), .val (.long (4000 : Int64)), .second, .val (.long (((4000 : Int64) + (((p2 >>> ((1 : Int32) &&& 31)) &&& (3 : Int32)).toInt64)) - (2 : Int64))), .second, .unset, .unset, .unset] [(.long q1)])) rfl (by rw [hml]; rfl) (argsL := [(.long q1)]) (rest := []) (lenOf pd_0 rfl) rfl (by show 2 * 0 + _ ≤ _; exact Nat.le_of_eq rfl) (hb hby at_31) (fun _ _ => ⟨rfl, e0, (by decide : 0 + 0 ≤ _), (by decide : 0 + 0 ≤ _)⟩)
    dsimp only [Pt.U, Pt.locs, Pt.cells, Pt.slots] at X2 l2 y2 z2 st2 hQ2
    subst l2 y2 z2
    obtain ⟨rfl, N2q, e2⟩ := hQ2
    have N2 := Fr.app N0 N2q
    refine own_back (S' := T2.setTop (mkF m 34 #[.val (.long q1), .second, .val (.int p2), .val (.long (4000 : Int64)), .second, .val (.long (((4000 : Int64) + (((p2 >>> ((1 : Int32) &&& 31)) &&& (3 : Int32)).toInt64)) - (2 : Int64))), .second, .unset, .unset, .unset] [(.int (own_isP q1))])) (st2) ?_
    refine own_back (S' := T2.setTop (mkF m 35 #[.val (.long q1), .second, .val (.int p2), .val (.long (4000 : Int64)), .second, .val (.long (((4000 : Int64) + (((p2 >>> ((1 : Int32) &&& 31)) &&& (3 : Int32)).toInt64)) - (2 : Int64))), .second, .unset, .unset, .unset] [(.long q1), (.int (own_isP q1))])) (fun _ k => XS.lloadN X2.here hx rfl (hb hby at_34) rfl k) ?_
    obtain ⟨_, _, ⟨T3, L3, k3, n3⟩, -, X3, ⟨Lc3, hQ3, l3, y3, z3⟩, st3⟩ := Jvm.LawKit.callS X2 hx (y := (⟨"com/example/secant/secant/message/ResultCodeIsProtocolErrorPinLaw", "inClass3", "(J)Z"⟩ : MethodName)) hown (mvT hZ (hw _ (List.mem_of_getElem? (i := 7) rfl))) (mvT hZ (hw _ (List.mem_of_getElem? (i := 8) rfl))) (mvT hZ (hw _ (List.mem_of_getElem? (i := 9) rfl))) (mvT hZ (hw _ (List.mem_of_getElem? (i := 10) rfl))) (by decide) (backOf (W := 1) (rm2 l Z a0 hw [] q1 h0 n0 Z0 ) hZ (hw _ (List.mem_of_getElem? (i := 10) rfl)) (hw _ (List.mem_of_getElem? (i := 9) rfl)) (by decide) (by decide)) (g := (mkF m 35 #[.val (.long q1), .second, .val (.int p2), .val (.long (4000 : Int64)), .second, .val (.long (((4000 : Int64) + (((p2 >>> ((1 : Int32) &&& 31)) &&& (3 : Int32)).toInt64)) - (2 : Int64))), .second, .unset, .unset, .unset] [(.long q1), (.int (own_isP q1))])) rfl (by rw [hml]; rfl) (argsL := [(.long q1)]) (rest := [(.int (own_isP q1))]) (lenOf pd_0 rfl) rfl (by show 2 * 0 + _ ≤ _; exact Nat.le_of_eq rfl) (hb hby at_35) (fun _ _ => ⟨rfl, e2, (by decide : 0 + 0 ≤ _), (by decide : 0 + 0 ≤ _)⟩)
    dsimp only [Pt.U, Pt.locs, Pt.cells, Pt.slots] at X3 l3 y3 z3 st3 hQ3
    subst l3 y3 z3
    obtain ⟨rfl, N3q, e3⟩ := hQ3
    have N3 := Fr.app N2 N3q
    refine own_back (S' := T3.setTop (mkF m 38 #[.val (.long q1), .second, .val (.int p2), .val (.long (4000 : Int64)), .second, .val (.long (((4000 : Int64) + (((p2 >>> ((1 : Int32) &&& 31)) &&& (3 : Int32)).toInt64)) - (2 : Int64))), .second, .unset, .unset, .unset] [(.int (own_in3 q1)), (.int (own_isP q1))])) (st3) ?_
    refine own_back (S' := T3.setTop (mkF m 41 #[.val (.long q1), .second, .val (.int p2), .val (.long (4000 : Int64)), .second, .val (.long (((4000 : Int64) + (((p2 >>> ((1 : Int32) &&& 31)) &&& (3 : Int32)).toInt64)) - (2 : Int64))), .second, .unset, .unset, .unset] [])) (fun _ k => XS.icmpNo X3.here hx rfl (hb hby at_38) rfl (teq (own_same _ : (own_isP q1) = (own_in3 q1))).2 k) ?_
    refine own_back (S' := T3.setTop (mkF m 42 #[.val (.long q1), .second, .val (.int p2), .val (.long (4000 : Int64)), .second, .val (.long (((4000 : Int64) + (((p2 >>> ((1 : Int32) &&& 31)) &&& (3 : Int32)).toInt64)) - (2 : Int64))), .second, .unset, .unset, .unset] [(.int (1 : Int32))])) (fun _ k => XS.iconst X3.here hx rfl (hb hby at_41)  k) ?_
    refine own_back (S' := T3.setTop (mkF m 46 #[.val (.long q1), .second, .val (.int p2), .val (.long (4000 : Int64)), .second, .val (.long (((4000 : Int64) + (((p2 >>> ((1 : Int32) &&& 31)) &&& (3 : Int32)).toInt64)) - (2 : Int64))), .second, .unset, .unset, .unset] [(.int (1 : Int32))])) (fun _ k => XS.goto X3.here hx rfl (pc0 := 42) (pc' := 46) rfl (hb hby at_42) (by decide) (by decide) k) ?_
    refine own_back (S' := T3.setTop (mkF m 48 #[.val (.long q1), .second, .val (.int p2), .val (.long (4000 : Int64)), .second, .val (.long (((4000 : Int64) + (((p2 >>> ((1 : Int32) &&& 31)) &&& (3 : Int32)).toInt64)) - (2 : Int64))), .second, .val (.int (1 : Int32)), .unset, .unset] [])) (fun _ k => XS.istore X3.here hx rfl (hb hby at_46) rfl (l' := #[.val (.long q1), .second, .val (.int p2), .val (.long (4000 : Int64)), .second, .val (.long (((4000 : Int64) + (((p2 >>> ((1 : Int32) &&& 31)) &&& (3 : Int32)).toInt64)) - (2 : Int64))), .second, .val (.int (1 : Int32)), .unset, .unset]) rfl k) ?_
    refine own_back (S' := T3.setTop (mkF m 50 #[.val (.long q1), .second, .val (.int p2), .val (.long (4000 : Int64)), .second, .val (.long (((4000 : Int64) + (((p2 >>> ((1 : Int32) &&& 31)) &&& (3 : Int32)).toInt64)) - (2 : Int64))), .second, .val (.int (1 : Int32)), .unset, .unset] [(.long (((4000 : Int64) + (((p2 >>> ((1 : Int32) &&& 31)) &&& (3 : Int32)).toInt64)) - (2 : Int64)))])) (fun _ k => XS.lload X3.here hx rfl (hb hby at_48) rfl k) ?_
    obtain ⟨_, _, ⟨T4, L4, k4, n4⟩, -, X4, ⟨Lc4, hQ4, l4, y4, z4⟩, st4⟩ := Jvm.LawKit.callS X3 hx (y := (⟨"com/example/secant/secant/message/ResultCode", "isProtocolError", "(J)Z"⟩ : MethodName)) hown (mvT hZ (hw _ (List.mem_of_getElem? (i := 2) rfl))) (mvT hZ (hw _ (List.mem_of_getElem? (i := 3) rfl))) (mvT hZ (hw _ (List.mem_of_getElem? (i := 4) rfl))) (mvT hZ (hw _ (List.mem_of_getElem? (i := 5) rfl))) (by decide) (backOf (W := 0) (rm1 l Z a0 hw [] (((4000 : Int64) + (((p2 >>> ((1 : Int32) &&& 31)) &&& (3 : Int32)).toInt64)) - (2 : Int64)) h0 n0 Z0 ) hZ (hw _ (List.mem_of_getElem? (i := 5) rfl)) (hw _ (List.mem_of_getElem? (i := 4) rfl)) (by decide) (by decide)) (g := (mkF m 50 #[.val (.long q1), .second, .val (.int p2), .val (.long (4000 : Int64)), .second, .val (.long (((4000 : Int64) + (((p2 >>> ((1 : Int32) &&& 31)) &&& (3 : Int32)).toInt64)) - (2 : Int64))), .second, .val (.int (1 : Int32)), .unset, .unset] [(.long (((4000 : Int64) + (((p2 >>> ((1 : Int32) &&& 31)) &&& (3 : Int32)).toInt64)) - (2 : Int64)))])) rfl (by rw [hml]; rfl) (argsL := [(.long (((4000 : Int64) + (((p2 >>> ((1 : Int32) &&& 31)) &&& (3 : Int32)).toInt64)) - (2 : Int64)))]) (rest := []) (lenOf pd_0 rfl) rfl (by show 2 * 0 + _ ≤ _; exact Nat.le_of_eq rfl) (hb hby at_50) (fun _ _ => ⟨rfl, e3, (by decide : 0 + 0 ≤ _), (by decide : 0 + 0 ≤ _)⟩)
    dsimp only [Pt.U, Pt.locs, Pt.cells, Pt.slots] at X4 l4 y4 z4 st4 hQ4
    subst l4 y4 z4
    obtain ⟨rfl, N4q, e4⟩ := hQ4
    have N4 := Fr.app N3 N4q
    refine own_back (S' := T4.setTop (mkF m 53 #[.val (.long q1), .second, .val (.int p2), .val (.long (4000 : Int64)), .second, .val (.long (((4000 : Int64) + (((p2 >>> ((1 : Int32) &&& 31)) &&& (3 : Int32)).toInt64)) - (2 : Int64))), .second, .val (.int (1 : Int32)), .unset, .unset] [(.int (own_isP (((4000 : Int64) + (((p2 >>> ((1 : Int32) &&& 31)) &&& (3 : Int32)).toInt64)) - (2 : Int64))))])) (st4) ?_
    refine own_back (S' := T4.setTop (mkF m 55 #[.val (.long q1), .second, .val (.int p2), .val (.long (4000 : Int64)), .second, .val (.long (((4000 : Int64) + (((p2 >>> ((1 : Int32) &&& 31)) &&& (3 : Int32)).toInt64)) - (2 : Int64))), .second, .val (.int (1 : Int32)), .unset, .unset] [(.long (((4000 : Int64) + (((p2 >>> ((1 : Int32) &&& 31)) &&& (3 : Int32)).toInt64)) - (2 : Int64))), (.int (own_isP (((4000 : Int64) + (((p2 >>> ((1 : Int32) &&& 31)) &&& (3 : Int32)).toInt64)) - (2 : Int64))))])) (fun _ k => XS.lload X4.here hx rfl (hb hby at_53) rfl k) ?_
    obtain ⟨_, _, ⟨T5, L5, k5, n5⟩, -, X5, ⟨Lc5, hQ5, l5, y5, z5⟩, st5⟩ := Jvm.LawKit.callS X4 hx (y := (⟨"com/example/secant/secant/message/ResultCodeIsProtocolErrorPinLaw", "inClass3", "(J)Z"⟩ : MethodName)) hown (mvT hZ (hw _ (List.mem_of_getElem? (i := 7) rfl))) (mvT hZ (hw _ (List.mem_of_getElem? (i := 8) rfl))) (mvT hZ (hw _ (List.mem_of_getElem? (i := 9) rfl))) (mvT hZ (hw _ (List.mem_of_getElem? (i := 10) rfl))) (by decide) (backOf (W := 1) (rm2 l Z a0 hw [] (((4000 : Int64) + (((p2 >>> ((1 : Int32) &&& 31)) &&& (3 : Int32)).toInt64)) - (2 : Int64)) h0 n0 Z0 ) hZ (hw _ (List.mem_of_getElem? (i := 10) rfl)) (hw _ (List.mem_of_getElem? (i := 9) rfl)) (by decide) (by decide)) (g := (mkF m 55 #[.val (.long q1), .second, .val (.int p2), .val (.long (4000 : Int64)), .second, .val (.long (((4000 : Int64) + (((p2 >>> ((1 : Int32) &&& 31)) &&& (3 : Int32)).toInt64)) - (2 : Int64))), .second, .val (.int (1 : Int32)), .unset, .unset] [(.long (((4000 : Int64) + (((p2 >>> ((1 : Int32) &&& 31)) &&& (3 : Int32)).toInt64)) - (2 : Int64))), (.int (own_isP (((4000 : Int64) + (((p2 >>> ((1 : Int32) &&& 31)) &&& (3 : Int32)).toInt64)) - (2 : Int64))))])) rfl (by rw [hml]; rfl) (argsL := [(.long (((4000 : Int64) + (((p2 >>> ((1 : Int32) &&& 31)) &&& (3 : Int32)).toInt64)) - (2 : Int64)))]) (rest := [(.int (own_isP (((4000 : Int64) + (((p2 >>> ((1 : Int32) &&& 31)) &&& (3 : Int32)).toInt64)) - (2 : Int64))))]) (lenOf pd_0 rfl) rfl (by show 2 * 0 + _ ≤ _; exact Nat.le_of_eq rfl) (hb hby at_55) (fun _ _ => ⟨rfl, e4, (by decide : 0 + 0 ≤ _), (by decide : 0 + 0 ≤ _)⟩)
    dsimp only [Pt.U, Pt.locs, Pt.cells, Pt.slots] at X5 l5 y5 z5 st5 hQ5
    subst l5 y5 z5
    obtain ⟨rfl, N5q, e5⟩ := hQ5
    have N5 := Fr.app N4 N5q
    refine own_back (S' := T5.setTop (mkF m 58 #[.val (.long q1), .second, .val (.int p2), .val (.long (4000 : Int64)), .second, .val (.long (((4000 : Int64) + (((p2 >>> ((1 : Int32) &&& 31)) &&& (3 : Int32)).toInt64)) - (2 : Int64))), .second, .val (.int (1 : Int32)), .unset, .unset] [(.int (own_in3 (((4000 : Int64) + (((p2 >>> ((1 : Int32) &&& 31)) &&& (3 : Int32)).toInt64)) - (2 : Int64)))), (.int (own_isP (((4000 : Int64) + (((p2 >>> ((1 : Int32) &&& 31)) &&& (3 : Int32)).toInt64)) - (2 : Int64))))])) (st5) ?_
    refine own_back (S' := T5.setTop (mkF m 61 #[.val (.long q1), .second, .val (.int p2), .val (.long (4000 : Int64)), .second, .val (.long (((4000 : Int64) + (((p2 >>> ((1 : Int32) &&& 31)) &&& (3 : Int32)).toInt64)) - (2 : Int64))), .second, .val (.int (1 : Int32)), .unset, .unset] [])) (fun _ k => XS.icmpNo X5.here hx rfl (hb hby at_58) rfl (teq (own_same _ : (own_isP (((4000 : Int64) + (((p2 >>> ((1 : Int32) &&& 31)) &&& (3 : Int32)).toInt64)) - (2 : Int64))) = (own_in3 (((4000 : Int64) + (((p2 >>> ((1 : Int32) &&& 31)) &&& (3 : Int32)).toInt64)) - (2 : Int64))))).2 k) ?_
    refine own_back (S' := T5.setTop (mkF m 62 #[.val (.long q1), .second, .val (.int p2), .val (.long (4000 : Int64)), .second, .val (.long (((4000 : Int64) + (((p2 >>> ((1 : Int32) &&& 31)) &&& (3 : Int32)).toInt64)) - (2 : Int64))), .second, .val (.int (1 : Int32)), .unset, .unset] [(.int (1 : Int32))])) (fun _ k => XS.iconst X5.here hx rfl (hb hby at_61)  k) ?_
    refine own_back (S' := T5.setTop (mkF m 66 #[.val (.long q1), .second, .val (.int p2), .val (.long (4000 : Int64)), .second, .val (.long (((4000 : Int64) + (((p2 >>> ((1 : Int32) &&& 31)) &&& (3 : Int32)).toInt64)) - (2 : Int64))), .second, .val (.int (1 : Int32)), .unset, .unset] [(.int (1 : Int32))])) (fun _ k => XS.goto X5.here hx rfl (pc0 := 62) (pc' := 66) rfl (hb hby at_62) (by decide) (by decide) k) ?_
    refine own_back (S' := T5.setTop (mkF m 68 #[.val (.long q1), .second, .val (.int p2), .val (.long (4000 : Int64)), .second, .val (.long (((4000 : Int64) + (((p2 >>> ((1 : Int32) &&& 31)) &&& (3 : Int32)).toInt64)) - (2 : Int64))), .second, .val (.int (1 : Int32)), .val (.int (1 : Int32)), .unset] [])) (fun _ k => XS.istore X5.here hx rfl (hb hby at_66) rfl (l' := #[.val (.long q1), .second, .val (.int p2), .val (.long (4000 : Int64)), .second, .val (.long (((4000 : Int64) + (((p2 >>> ((1 : Int32) &&& 31)) &&& (3 : Int32)).toInt64)) - (2 : Int64))), .second, .val (.int (1 : Int32)), .val (.int (1 : Int32)), .unset]) rfl k) ?_
    refine own_back (S' := T5.setTop (mkF m 71 #[.val (.long q1), .second, .val (.int p2), .val (.long (4000 : Int64)), .second, .val (.long (((4000 : Int64) + (((p2 >>> ((1 : Int32) &&& 31)) &&& (3 : Int32)).toInt64)) - (2 : Int64))), .second, .val (.int (1 : Int32)), .val (.int (1 : Int32)), .unset] [(.long (3001 : Int64))])) (fun _ k => X5.ldc2Long hx hown (mvT hZ (hw _ (List.mem_of_getElem? (i := 14) rfl))) (g := (mkF m 68 #[.val (.long q1), .second, .val (.int p2), .val (.long (4000 : Int64)), .second, .val (.long (((4000 : Int64) + (((p2 >>> ((1 : Int32) &&& 31)) &&& (3 : Int32)).toInt64)) - (2 : Int64))), .second, .val (.int (1 : Int32)), .val (.int (1 : Int32)), .unset] [])) rfl (hb hby at_68) _ k) ?_
    obtain ⟨_, _, ⟨T6, L6, k6, n6⟩, -, X6, ⟨Lc6, hQ6, l6, y6, z6⟩, st6⟩ := Jvm.LawKit.callS X5 hx (y := (⟨"com/example/secant/secant/message/ResultCode", "isProtocolError", "(J)Z"⟩ : MethodName)) hown (mvT hZ (hw _ (List.mem_of_getElem? (i := 2) rfl))) (mvT hZ (hw _ (List.mem_of_getElem? (i := 3) rfl))) (mvT hZ (hw _ (List.mem_of_getElem? (i := 4) rfl))) (mvT hZ (hw _ (List.mem_of_getElem? (i := 5) rfl))) (by decide) (backOf (W := 0) (rm1 l Z a0 hw [] (3001 : Int64) h0 n0 Z0 ) hZ (hw _ (List.mem_of_getElem? (i := 5) rfl)) (hw _ (List.mem_of_getElem? (i := 4) rfl)) (by decide) (by decide)) (g := (mkF m 71 #[.val (.long q1), .second, .val (.int p2), .val (.long (4000 : Int64)), .second, .val (.long (((4000 : Int64) + (((p2 >>> ((1 : Int32) &&& 31)) &&& (3 : Int32)).toInt64)) - (2 : Int64))), .second, .val (.int (1 : Int32)), .val (.int (1 : Int32)), .unset] [(.long (3001 : Int64))])) rfl (by rw [hml]; rfl) (argsL := [(.long (3001 : Int64))]) (rest := []) (lenOf pd_0 rfl) rfl (by show 2 * 0 + _ ≤ _; exact Nat.le_of_eq rfl) (hb hby at_71) (fun _ _ => ⟨rfl, e5, (by decide : 0 + 0 ≤ _), (by decide : 0 + 0 ≤ _)⟩)
    dsimp only [Pt.U, Pt.locs, Pt.cells, Pt.slots] at X6 l6 y6 z6 st6 hQ6
    subst l6 y6 z6
    obtain ⟨rfl, N6q, e6⟩ := hQ6
    have N6 := Fr.app N5 N6q
    refine own_back (S' := T6.setTop (mkF m 74 #[.val (.long q1), .second, .val (.int p2), .val (.long (4000 : Int64)), .second, .val (.long (((4000 : Int64) + (((p2 >>> ((1 : Int32) &&& 31)) &&& (3 : Int32)).toInt64)) - (2 : Int64))), .second, .val (.int (1 : Int32)), .val (.int (1 : Int32)), .unset] [(.int (own_isP (3001 : Int64)))])) (st6) ?_
    refine own_back (S' := T6.setTop (mkF m 77 #[.val (.long q1), .second, .val (.int p2), .val (.long (4000 : Int64)), .second, .val (.long (((4000 : Int64) + (((p2 >>> ((1 : Int32) &&& 31)) &&& (3 : Int32)).toInt64)) - (2 : Int64))), .second, .val (.int (1 : Int32)), .val (.int (1 : Int32)), .unset] [])) (fun _ k => XS.ifNo X6.here hx rfl (hb hby at_74) rfl ((if0 _ _).trans (feq ((by decide +kernel) : ¬ ((own_isP (3001 : Int64)) = (0 : Int32)))).1) k) ?_
    refine own_back (S' := T6.setTop (mkF m 80 #[.val (.long q1), .second, .val (.int p2), .val (.long (4000 : Int64)), .second, .val (.long (((4000 : Int64) + (((p2 >>> ((1 : Int32) &&& 31)) &&& (3 : Int32)).toInt64)) - (2 : Int64))), .second, .val (.int (1 : Int32)), .val (.int (1 : Int32)), .unset] [(.long (3008 : Int64))])) (fun _ k => X6.ldc2Long hx hown (mvT hZ (hw _ (List.mem_of_getElem? (i := 15) rfl))) (g := (mkF m 77 #[.val (.long q1), .second, .val (.int p2), .val (.long (4000 : Int64)), .second, .val (.long (((4000 : Int64) + (((p2 >>> ((1 : Int32) &&& 31)) &&& (3 : Int32)).toInt64)) - (2 : Int64))), .second, .val (.int (1 : Int32)), .val (.int (1 : Int32)), .unset] [])) rfl (hb hby at_77) _ k) ?_
    obtain ⟨_, _, ⟨T7, L7, k7, n7⟩, -, X7, ⟨Lc7, hQ7, l7, y7, z7⟩, st7⟩ := Jvm.LawKit.callS X6 hx (y := (⟨"com/example/secant/secant/message/ResultCode", "isProtocolError", "(J)Z"⟩ : MethodName)) hown (mvT hZ (hw _ (List.mem_of_getElem? (i := 2) rfl))) (mvT hZ (hw _ (List.mem_of_getElem? (i := 3) rfl))) (mvT hZ (hw _ (List.mem_of_getElem? (i := 4) rfl))) (mvT hZ (hw _ (List.mem_of_getElem? (i := 5) rfl))) (by decide) (backOf (W := 0) (rm1 l Z a0 hw [] (3008 : Int64) h0 n0 Z0 ) hZ (hw _ (List.mem_of_getElem? (i := 5) rfl)) (hw _ (List.mem_of_getElem? (i := 4) rfl)) (by decide) (by decide)) (g := (mkF m 80 #[.val (.long q1), .second, .val (.int p2), .val (.long (4000 : Int64)), .second, .val (.long (((4000 : Int64) + (((p2 >>> ((1 : Int32) &&& 31)) &&& (3 : Int32)).toInt64)) - (2 : Int64))), .second, .val (.int (1 : Int32)), .val (.int (1 : Int32)), .unset] [(.long (3008 : Int64))])) rfl (by rw [hml]; rfl) (argsL := [(.long (3008 : Int64))]) (rest := []) (lenOf pd_0 rfl) rfl (by show 2 * 0 + _ ≤ _; exact Nat.le_of_eq rfl) (hb hby at_80) (fun _ _ => ⟨rfl, e6, (by decide : 0 + 0 ≤ _), (by decide : 0 + 0 ≤ _)⟩)
    dsimp only [Pt.U, Pt.locs, Pt.cells, Pt.slots] at X7 l7 y7 z7 st7 hQ7
    subst l7 y7 z7
    obtain ⟨rfl, N7q, e7⟩ := hQ7
    have N7 := Fr.app N6 N7q
    refine own_back (S' := T7.setTop (mkF m 83 #[.val (.long q1), .second, .val (.int p2), .val (.long (4000 : Int64)), .second, .val (.long (((4000 : Int64) + (((p2 >>> ((1 : Int32) &&& 31)) &&& (3 : Int32)).toInt64)) - (2 : Int64))), .second, .val (.int (1 : Int32)), .val (.int (1 : Int32)), .unset] [(.int (own_isP (3008 : Int64)))])) (st7) ?_
    refine own_back (S' := T7.setTop (mkF m 86 #[.val (.long q1), .second, .val (.int p2), .val (.long (4000 : Int64)), .second, .val (.long (((4000 : Int64) + (((p2 >>> ((1 : Int32) &&& 31)) &&& (3 : Int32)).toInt64)) - (2 : Int64))), .second, .val (.int (1 : Int32)), .val (.int (1 : Int32)), .unset] [])) (fun _ k => XS.ifNo X7.here hx rfl (hb hby at_83) rfl ((if0 _ _).trans (feq ((by decide +kernel) : ¬ ((own_isP (3008 : Int64)) = (0 : Int32)))).1) k) ?_
    refine own_back (S' := T7.setTop (mkF m 89 #[.val (.long q1), .second, .val (.int p2), .val (.long (4000 : Int64)), .second, .val (.long (((4000 : Int64) + (((p2 >>> ((1 : Int32) &&& 31)) &&& (3 : Int32)).toInt64)) - (2 : Int64))), .second, .val (.int (1 : Int32)), .val (.int (1 : Int32)), .unset] [(.long (2001 : Int64))])) (fun _ k => X7.ldc2Long hx hown (mvT hZ (hw _ (List.mem_of_getElem? (i := 16) rfl))) (g := (mkF m 86 #[.val (.long q1), .second, .val (.int p2), .val (.long (4000 : Int64)), .second, .val (.long (((4000 : Int64) + (((p2 >>> ((1 : Int32) &&& 31)) &&& (3 : Int32)).toInt64)) - (2 : Int64))), .second, .val (.int (1 : Int32)), .val (.int (1 : Int32)), .unset] [])) rfl (hb hby at_86) _ k) ?_
    obtain ⟨_, _, ⟨T8, L8, k8, n8⟩, -, X8, ⟨Lc8, hQ8, l8, y8, z8⟩, st8⟩ := Jvm.LawKit.callS X7 hx (y := (⟨"com/example/secant/secant/message/ResultCode", "isProtocolError", "(J)Z"⟩ : MethodName)) hown (mvT hZ (hw _ (List.mem_of_getElem? (i := 2) rfl))) (mvT hZ (hw _ (List.mem_of_getElem? (i := 3) rfl))) (mvT hZ (hw _ (List.mem_of_getElem? (i := 4) rfl))) (mvT hZ (hw _ (List.mem_of_getElem? (i := 5) rfl))) (by decide) (backOf (W := 0) (rm1 l Z a0 hw [] (2001 : Int64) h0 n0 Z0 ) hZ (hw _ (List.mem_of_getElem? (i := 5) rfl)) (hw _ (List.mem_of_getElem? (i := 4) rfl)) (by decide) (by decide)) (g := (mkF m 89 #[.val (.long q1), .second, .val (.int p2), .val (.long (4000 : Int64)), .second, .val (.long (((4000 : Int64) + (((p2 >>> ((1 : Int32) &&& 31)) &&& (3 : Int32)).toInt64)) - (2 : Int64))), .second, .val (.int (1 : Int32)), .val (.int (1 : Int32)), .unset] [(.long (2001 : Int64))])) rfl (by rw [hml]; rfl) (argsL := [(.long (2001 : Int64))]) (rest := []) (lenOf pd_0 rfl) rfl (by show 2 * 0 + _ ≤ _; exact Nat.le_of_eq rfl) (hb hby at_89) (fun _ _ => ⟨rfl, e7, (by decide : 0 + 0 ≤ _), (by decide : 0 + 0 ≤ _)⟩)
    dsimp only [Pt.U, Pt.locs, Pt.cells, Pt.slots] at X8 l8 y8 z8 st8 hQ8
    subst l8 y8 z8
    obtain ⟨rfl, N8q, e8⟩ := hQ8
    have N8 := Fr.app N7 N8q
    refine own_back (S' := T8.setTop (mkF m 92 #[.val (.long q1), .second, .val (.int p2), .val (.long (4000 : Int64)), .second, .val (.long (((4000 : Int64) + (((p2 >>> ((1 : Int32) &&& 31)) &&& (3 : Int32)).toInt64)) - (2 : Int64))), .second, .val (.int (1 : Int32)), .val (.int (1 : Int32)), .unset] [(.int (own_isP (2001 : Int64)))])) (st8) ?_
    refine own_back (S' := T8.setTop (mkF m 95 #[.val (.long q1), .second, .val (.int p2), .val (.long (4000 : Int64)), .second, .val (.long (((4000 : Int64) + (((p2 >>> ((1 : Int32) &&& 31)) &&& (3 : Int32)).toInt64)) - (2 : Int64))), .second, .val (.int (1 : Int32)), .val (.int (1 : Int32)), .unset] [])) (fun _ k => XS.ifNo X8.here hx rfl (hb hby at_92) rfl ((if0 _ _).trans (teq ((by decide +kernel) : (own_isP (2001 : Int64)) = (0 : Int32))).2) k) ?_
    refine own_back (S' := T8.setTop (mkF m 98 #[.val (.long q1), .second, .val (.int p2), .val (.long (4000 : Int64)), .second, .val (.long (((4000 : Int64) + (((p2 >>> ((1 : Int32) &&& 31)) &&& (3 : Int32)).toInt64)) - (2 : Int64))), .second, .val (.int (1 : Int32)), .val (.int (1 : Int32)), .unset] [(.long (4002 : Int64))])) (fun _ k => X8.ldc2Long hx hown (mvT hZ (hw _ (List.mem_of_getElem? (i := 17) rfl))) (g := (mkF m 95 #[.val (.long q1), .second, .val (.int p2), .val (.long (4000 : Int64)), .second, .val (.long (((4000 : Int64) + (((p2 >>> ((1 : Int32) &&& 31)) &&& (3 : Int32)).toInt64)) - (2 : Int64))), .second, .val (.int (1 : Int32)), .val (.int (1 : Int32)), .unset] [])) rfl (hb hby at_95) _ k) ?_
    obtain ⟨_, _, ⟨T9, L9, k9, n9⟩, -, X9, ⟨Lc9, hQ9, l9, y9, z9⟩, st9⟩ := Jvm.LawKit.callS X8 hx (y := (⟨"com/example/secant/secant/message/ResultCode", "isProtocolError", "(J)Z"⟩ : MethodName)) hown (mvT hZ (hw _ (List.mem_of_getElem? (i := 2) rfl))) (mvT hZ (hw _ (List.mem_of_getElem? (i := 3) rfl))) (mvT hZ (hw _ (List.mem_of_getElem? (i := 4) rfl))) (mvT hZ (hw _ (List.mem_of_getElem? (i := 5) rfl))) (by decide) (backOf (W := 0) (rm1 l Z a0 hw [] (4002 : Int64) h0 n0 Z0 ) hZ (hw _ (List.mem_of_getElem? (i := 5) rfl)) (hw _ (List.mem_of_getElem? (i := 4) rfl)) (by decide) (by decide)) (g := (mkF m 98 #[.val (.long q1), .second, .val (.int p2), .val (.long (4000 : Int64)), .second, .val (.long (((4000 : Int64) + (((p2 >>> ((1 : Int32) &&& 31)) &&& (3 : Int32)).toInt64)) - (2 : Int64))), .second, .val (.int (1 : Int32)), .val (.int (1 : Int32)), .unset] [(.long (4002 : Int64))])) rfl (by rw [hml]; rfl) (argsL := [(.long (4002 : Int64))]) (rest := []) (lenOf pd_0 rfl) rfl (by show 2 * 0 + _ ≤ _; exact Nat.le_of_eq rfl) (hb hby at_98) (fun _ _ => ⟨rfl, e8, (by decide : 0 + 0 ≤ _), (by decide : 0 + 0 ≤ _)⟩)
    dsimp only [Pt.U, Pt.locs, Pt.cells, Pt.slots] at X9 l9 y9 z9 st9 hQ9
    subst l9 y9 z9
    obtain ⟨rfl, N9q, e9⟩ := hQ9
    have N9 := Fr.app N8 N9q
    refine own_back (S' := T9.setTop (mkF m 101 #[.val (.long q1), .second, .val (.int p2), .val (.long (4000 : Int64)), .second, .val (.long (((4000 : Int64) + (((p2 >>> ((1 : Int32) &&& 31)) &&& (3 : Int32)).toInt64)) - (2 : Int64))), .second, .val (.int (1 : Int32)), .val (.int (1 : Int32)), .unset] [(.int (own_isP (4002 : Int64)))])) (st9) ?_
    refine own_back (S' := T9.setTop (mkF m 104 #[.val (.long q1), .second, .val (.int p2), .val (.long (4000 : Int64)), .second, .val (.long (((4000 : Int64) + (((p2 >>> ((1 : Int32) &&& 31)) &&& (3 : Int32)).toInt64)) - (2 : Int64))), .second, .val (.int (1 : Int32)), .val (.int (1 : Int32)), .unset] [])) (fun _ k => XS.ifNo X9.here hx rfl (hb hby at_101) rfl ((if0 _ _).trans (teq ((by decide +kernel) : (own_isP (4002 : Int64)) = (0 : Int32))).2) k) ?_
    refine own_back (S' := T9.setTop (mkF m 107 #[.val (.long q1), .second, .val (.int p2), .val (.long (4000 : Int64)), .second, .val (.long (((4000 : Int64) + (((p2 >>> ((1 : Int32) &&& 31)) &&& (3 : Int32)).toInt64)) - (2 : Int64))), .second, .val (.int (1 : Int32)), .val (.int (1 : Int32)), .unset] [(.long (5001 : Int64))])) (fun _ k => X9.ldc2Long hx hown (mvT hZ (hw _ (List.mem_of_getElem? (i := 18) rfl))) (g := (mkF m 104 #[.val (.long q1), .second, .val (.int p2), .val (.long (4000 : Int64)), .second, .val (.long (((4000 : Int64) + (((p2 >>> ((1 : Int32) &&& 31)) &&& (3 : Int32)).toInt64)) - (2 : Int64))), .second, .val (.int (1 : Int32)), .val (.int (1 : Int32)), .unset] [])) rfl (hb hby at_104) _ k) ?_
    obtain ⟨_, _, ⟨T10, L10, k10, n10⟩, -, X10, ⟨Lc10, hQ10, l10, y10, z10⟩, st10⟩ := Jvm.LawKit.callS X9 hx (y := (⟨"com/example/secant/secant/message/ResultCode", "isProtocolError", "(J)Z"⟩ : MethodName)) hown (mvT hZ (hw _ (List.mem_of_getElem? (i := 2) rfl))) (mvT hZ (hw _ (List.mem_of_getElem? (i := 3) rfl))) (mvT hZ (hw _ (List.mem_of_getElem? (i := 4) rfl))) (mvT hZ (hw _ (List.mem_of_getElem? (i := 5) rfl))) (by decide) (backOf (W := 0) (rm1 l Z a0 hw [] (5001 : Int64) h0 n0 Z0 ) hZ (hw _ (List.mem_of_getElem? (i := 5) rfl)) (hw _ (List.mem_of_getElem? (i := 4) rfl)) (by decide) (by decide)) (g := (mkF m 107 #[.val (.long q1), .second, .val (.int p2), .val (.long (4000 : Int64)), .second, .val (.long (((4000 : Int64) + (((p2 >>> ((1 : Int32) &&& 31)) &&& (3 : Int32)).toInt64)) - (2 : Int64))), .second, .val (.int (1 : Int32)), .val (.int (1 : Int32)), .unset] [(.long (5001 : Int64))])) rfl (by rw [hml]; rfl) (argsL := [(.long (5001 : Int64))]) (rest := []) (lenOf pd_0 rfl) rfl (by show 2 * 0 + _ ≤ _; exact Nat.le_of_eq rfl) (hb hby at_107) (fun _ _ => ⟨rfl, e9, (by decide : 0 + 0 ≤ _), (by decide : 0 + 0 ≤ _)⟩)
    dsimp only [Pt.U, Pt.locs, Pt.cells, Pt.slots] at X10 l10 y10 z10 st10 hQ10
    subst l10 y10 z10
    obtain ⟨rfl, N10q, e10⟩ := hQ10
    have N10 := Fr.app N9 N10q
    refine own_back (S' := T10.setTop (mkF m 110 #[.val (.long q1), .second, .val (.int p2), .val (.long (4000 : Int64)), .second, .val (.long (((4000 : Int64) + (((p2 >>> ((1 : Int32) &&& 31)) &&& (3 : Int32)).toInt64)) - (2 : Int64))), .second, .val (.int (1 : Int32)), .val (.int (1 : Int32)), .unset] [(.int (own_isP (5001 : Int64)))])) (st10) ?_
    refine own_back (S' := T10.setTop (mkF m 113 #[.val (.long q1), .second, .val (.int p2), .val (.long (4000 : Int64)), .second, .val (.long (((4000 : Int64) + (((p2 >>> ((1 : Int32) &&& 31)) &&& (3 : Int32)).toInt64)) - (2 : Int64))), .second, .val (.int (1 : Int32)), .val (.int (1 : Int32)), .unset] [])) (fun _ k => XS.ifNo X10.here hx rfl (hb hby at_110) rfl ((if0 _ _).trans (teq ((by decide +kernel) : (own_isP (5001 : Int64)) = (0 : Int32))).2) k) ?_
    refine own_back (S' := T10.setTop (mkF m 114 #[.val (.long q1), .second, .val (.int p2), .val (.long (4000 : Int64)), .second, .val (.long (((4000 : Int64) + (((p2 >>> ((1 : Int32) &&& 31)) &&& (3 : Int32)).toInt64)) - (2 : Int64))), .second, .val (.int (1 : Int32)), .val (.int (1 : Int32)), .unset] [(.int (1 : Int32))])) (fun _ k => XS.iconst X10.here hx rfl (hb hby at_113)  k) ?_
    refine own_back (S' := T10.setTop (mkF m 118 #[.val (.long q1), .second, .val (.int p2), .val (.long (4000 : Int64)), .second, .val (.long (((4000 : Int64) + (((p2 >>> ((1 : Int32) &&& 31)) &&& (3 : Int32)).toInt64)) - (2 : Int64))), .second, .val (.int (1 : Int32)), .val (.int (1 : Int32)), .unset] [(.int (1 : Int32))])) (fun _ k => XS.goto X10.here hx rfl (pc0 := 114) (pc' := 118) rfl (hb hby at_114) (by decide) (by decide) k) ?_
    refine own_back (S' := T10.setTop (mkF m 120 #[.val (.long q1), .second, .val (.int p2), .val (.long (4000 : Int64)), .second, .val (.long (((4000 : Int64) + (((p2 >>> ((1 : Int32) &&& 31)) &&& (3 : Int32)).toInt64)) - (2 : Int64))), .second, .val (.int (1 : Int32)), .val (.int (1 : Int32)), .val (.int (1 : Int32))] [])) (fun _ k => XS.istore X10.here hx rfl (hb hby at_118) rfl (l' := #[.val (.long q1), .second, .val (.int p2), .val (.long (4000 : Int64)), .second, .val (.long (((4000 : Int64) + (((p2 >>> ((1 : Int32) &&& 31)) &&& (3 : Int32)).toInt64)) - (2 : Int64))), .second, .val (.int (1 : Int32)), .val (.int (1 : Int32)), .val (.int (1 : Int32))]) rfl k) ?_
    refine own_back (S' := T10.setTop (mkF m 122 #[.val (.long q1), .second, .val (.int p2), .val (.long (4000 : Int64)), .second, .val (.long (((4000 : Int64) + (((p2 >>> ((1 : Int32) &&& 31)) &&& (3 : Int32)).toInt64)) - (2 : Int64))), .second, .val (.int (1 : Int32)), .val (.int (1 : Int32)), .val (.int (1 : Int32))] [(.int (1 : Int32))])) (fun _ k => XS.iload X10.here hx rfl (hb hby at_120) rfl k) ?_
    refine own_back (S' := T10.setTop (mkF m 125 #[.val (.long q1), .second, .val (.int p2), .val (.long (4000 : Int64)), .second, .val (.long (((4000 : Int64) + (((p2 >>> ((1 : Int32) &&& 31)) &&& (3 : Int32)).toInt64)) - (2 : Int64))), .second, .val (.int (1 : Int32)), .val (.int (1 : Int32)), .val (.int (1 : Int32))] [])) (fun _ k => XS.ifNo X10.here hx rfl (hb hby at_122) rfl ((if0 _ _).trans (feq ((by decide) : ¬ ((1 : Int32) = (0 : Int32)))).1) k) ?_
    refine own_back (S' := T10.setTop (mkF m 127 #[.val (.long q1), .second, .val (.int p2), .val (.long (4000 : Int64)), .second, .val (.long (((4000 : Int64) + (((p2 >>> ((1 : Int32) &&& 31)) &&& (3 : Int32)).toInt64)) - (2 : Int64))), .second, .val (.int (1 : Int32)), .val (.int (1 : Int32)), .val (.int (1 : Int32))] [(.int (1 : Int32))])) (fun _ k => XS.iload X10.here hx rfl (hb hby at_125) rfl k) ?_
    refine own_back (S' := T10.setTop (mkF m 130 #[.val (.long q1), .second, .val (.int p2), .val (.long (4000 : Int64)), .second, .val (.long (((4000 : Int64) + (((p2 >>> ((1 : Int32) &&& 31)) &&& (3 : Int32)).toInt64)) - (2 : Int64))), .second, .val (.int (1 : Int32)), .val (.int (1 : Int32)), .val (.int (1 : Int32))] [])) (fun _ k => XS.ifNo X10.here hx rfl (hb hby at_127) rfl ((if0 _ _).trans (feq ((by decide) : ¬ ((1 : Int32) = (0 : Int32)))).1) k) ?_
    refine own_back (S' := T10.setTop (mkF m 132 #[.val (.long q1), .second, .val (.int p2), .val (.long (4000 : Int64)), .second, .val (.long (((4000 : Int64) + (((p2 >>> ((1 : Int32) &&& 31)) &&& (3 : Int32)).toInt64)) - (2 : Int64))), .second, .val (.int (1 : Int32)), .val (.int (1 : Int32)), .val (.int (1 : Int32))] [(.int (1 : Int32))])) (fun _ k => XS.iload X10.here hx rfl (hb hby at_130) rfl k) ?_
    refine own_back (S' := T10.setTop (mkF m 135 #[.val (.long q1), .second, .val (.int p2), .val (.long (4000 : Int64)), .second, .val (.long (((4000 : Int64) + (((p2 >>> ((1 : Int32) &&& 31)) &&& (3 : Int32)).toInt64)) - (2 : Int64))), .second, .val (.int (1 : Int32)), .val (.int (1 : Int32)), .val (.int (1 : Int32))] [])) (fun _ k => XS.ifNo X10.here hx rfl (hb hby at_132) rfl ((if0 _ _).trans (feq ((by decide) : ¬ ((1 : Int32) = (0 : Int32)))).1) k) ?_
    refine own_back (S' := T10.setTop (mkF m 136 #[.val (.long q1), .second, .val (.int p2), .val (.long (4000 : Int64)), .second, .val (.long (((4000 : Int64) + (((p2 >>> ((1 : Int32) &&& 31)) &&& (3 : Int32)).toInt64)) - (2 : Int64))), .second, .val (.int (1 : Int32)), .val (.int (1 : Int32)), .val (.int (1 : Int32))] [(.int (1 : Int32))])) (fun _ k => XS.iconst X10.here hx rfl (hb hby at_135)  k) ?_
    refine own_back (S' := T10.setTop (mkF m 140 #[.val (.long q1), .second, .val (.int p2), .val (.long (4000 : Int64)), .second, .val (.long (((4000 : Int64) + (((p2 >>> ((1 : Int32) &&& 31)) &&& (3 : Int32)).toInt64)) - (2 : Int64))), .second, .val (.int (1 : Int32)), .val (.int (1 : Int32)), .val (.int (1 : Int32))] [(.int (1 : Int32))])) (fun _ k => XS.goto X10.here hx rfl (pc0 := 136) (pc' := 140) rfl (hb hby at_136) (by decide) (by decide) k) ?_
    obtain ⟨fs, hr, hrun, hended, hW, hsame⟩ := X10.leave (v := some (.int (1 : Int32))) (fun h => by rw [Bd.returns] at h; cases h)
    refine own_done ⟨_, _, retN X10 hx (t := .boolean) Bd.returns (by simp) (hb hby at_140) hr, hrun, hended, _, _, rfl, ?_, ⟨_, rfl⟩, hW, hsame.mono (by decide) (by decide)⟩
    show Q0 Z q1 p2 h0 n0 _ T10.heap _
    rw [e10]
    exact ⟨rfl, N10⟩
  ·
    refine own_back (S' := s₁.setTop (mkF m 6 #[.val (.long q1), .second, .val (.int p2), .unset, .unset, .unset, .unset, .unset, .unset, .unset] [])) (fun _ k => XS.ifNo X0.here hx rfl (hb hby at_3) rfl ((if0 _ _).trans (feq hc3_1).1) k) ?_
    refine own_back (S' := s₁.setTop (mkF m 9 #[.val (.long q1), .second, .val (.int p2), .unset, .unset, .unset, .unset, .unset, .unset, .unset] [(.long (3000 : Int64))])) (fun _ k => X0.ldc2Long hx hown (mvT hZ (hw _ (List.mem_of_getElem? (i := 19) rfl))) (g := (mkF m 6 #[.val (.long q1), .second, .val (.int p2), .unset, .unset, .unset, .unset, .unset, .unset, .unset] [])) rfl (hb hby at_6) _ k) ?_
    refine own_back (S' := s₁.setTop (mkF m 15 #[.val (.long q1), .second, .val (.int p2), .unset, .unset, .unset, .unset, .unset, .unset, .unset] [(.long (3000 : Int64))])) (fun _ k => XS.goto X0.here hx rfl (pc0 := 9) (pc' := 15) rfl (hb hby at_9) (by decide) (by decide) k) ?_
    refine own_back (S' := s₁.setTop (mkF m 16 #[.val (.long q1), .second, .val (.int p2), .val (.long (3000 : Int64)), .second, .unset, .unset, .unset, .unset, .unset] [])) (fun _ k => XS.lstoreN X0.here hx rfl (hb hby at_15) rfl (l' := #[.val (.long q1), .second, .val (.int p2), .val (.long (3000 : Int64)), .second, .unset, .unset, .unset, .unset, .unset]) rfl k) ?_
    refine own_back (S' := s₁.setTop (mkF m 17 #[.val (.long q1), .second, .val (.int p2), .val (.long (3000 : Int64)), .second, .unset, .unset, .unset, .unset, .unset] [(.long (3000 : Int64))])) (fun _ k => XS.lloadN X0.here hx rfl (hb hby at_16) rfl k) ?_
    refine own_back (S' := s₁.setTop (mkF m 18 #[.val (.long q1), .second, .val (.int p2), .val (.long (3000 : Int64)), .second, .unset, .unset, .unset, .unset, .unset] [(.int p2), (.long (3000 : Int64))])) (fun _ k => XS.iloadN X0.here hx rfl (hb hby at_17) rfl k) ?_
    refine own_back (S' := s₁.setTop (mkF m 19 #[.val (.long q1), .second, .val (.int p2), .val (.long (3000 : Int64)), .second, .unset, .unset, .unset, .unset, .unset] [(.int (1 : Int32)), (.int p2), (.long (3000 : Int64))])) (fun _ k => XS.iconst X0.here hx rfl (hb hby at_18)  k) ?_
    refine own_back (S' := s₁.setTop (mkF m 20 #[.val (.long q1), .second, .val (.int p2), .val (.long (3000 : Int64)), .second, .unset, .unset, .unset, .unset, .unset] [(.int (p2 >>> ((1 : Int32) &&& 31))), (.long (3000 : Int64))])) (fun _ k => XS.ishr X0.here hx rfl (hb hby at_19) rfl k) ?_
    refine own_back (S' := s₁.setTop (mkF m 21 #[.val (.long q1), .second, .val (.int p2), .val (.long (3000 : Int64)), .second, .unset, .unset, .unset, .unset, .unset] [(.int (3 : Int32)), (.int (p2 >>> ((1 : Int32) &&& 31))), (.long (3000 : Int64))])) (fun _ k => XS.iconst X0.here hx rfl (hb hby at_20)  k) ?_
    refine own_back (S' := s₁.setTop (mkF m 22 #[.val (.long q1), .second, .val (.int p2), .val (.long (3000 : Int64)), .second, .unset, .unset, .unset, .unset, .unset] [(.int ((p2 >>> ((1 : Int32) &&& 31)) &&& (3 : Int32))), (.long (3000 : Int64))])) (fun _ k => XS.iand X0.here hx rfl (hb hby at_21) rfl k) ?_
    refine own_back (S' := s₁.setTop (mkF m 23 #[.val (.long q1), .second, .val (.int p2), .val (.long (3000 : Int64)), .second, .unset, .unset, .unset, .unset, .unset] [(.long (((p2 >>> ((1 : Int32) &&& 31)) &&& (3 : Int32)).toInt64)), (.long (3000 : Int64))])) (fun _ k => XS.i2l X0.here hx rfl (hb hby at_22) rfl k) ?_
    refine own_back (S' := s₁.setTop (mkF m 24 #[.val (.long q1), .second, .val (.int p2), .val (.long (3000 : Int64)), .second, .unset, .unset, .unset, .unset, .unset] [(.long ((3000 : Int64) + (((p2 >>> ((1 : Int32) &&& 31)) &&& (3 : Int32)).toInt64)))])) (fun _ k => XS.ladd X0.here hx rfl (hb hby at_23) rfl k) ?_
    refine own_back (S' := s₁.setTop (mkF m 27 #[.val (.long q1), .second, .val (.int p2), .val (.long (3000 : Int64)), .second, .unset, .unset, .unset, .unset, .unset] [(.long (2 : Int64)), (.long ((3000 : Int64) + (((p2 >>> ((1 : Int32) &&& 31)) &&& (3 : Int32)).toInt64)))])) (fun _ k => X0.ldc2Long hx hown (mvT hZ (hw _ (List.mem_of_getElem? (i := 1) rfl))) (g := (mkF m 24 #[.val (.long q1), .second, .val (.int p2), .val (.long (3000 : Int64)), .second, .unset, .unset, .unset, .unset, .unset] [(.long ((3000 : Int64) + (((p2 >>> ((1 : Int32) &&& 31)) &&& (3 : Int32)).toInt64)))])) rfl (hb hby at_24) _ k) ?_
    refine own_back (S' := s₁.setTop (mkF m 28 #[.val (.long q1), .second, .val (.int p2), .val (.long (3000 : Int64)), .second, .unset, .unset, .unset, .unset, .unset] [(.long (((3000 : Int64) + (((p2 >>> ((1 : Int32) &&& 31)) &&& (3 : Int32)).toInt64)) - (2 : Int64)))])) (fun _ k => XS.lsub X0.here hx rfl (hb hby at_27) rfl k) ?_
    refine own_back (S' := s₁.setTop (mkF m 30 #[.val (.long q1), .second, .val (.int p2), .val (.long (3000 : Int64)), .second, .val (.long (((3000 : Int64) + (((p2 >>> ((1 : Int32) &&& 31)) &&& (3 : Int32)).toInt64)) - (2 : Int64))), .second, .unset, .unset, .unset] [])) (fun _ k => XS.lstore X0.here hx rfl (hb hby at_28) rfl (l' := #[.val (.long q1), .second, .val (.int p2), .val (.long (3000 : Int64)), .second, .val (.long (((3000 : Int64) + (((p2 >>> ((1 : Int32) &&& 31)) &&& (3 : Int32)).toInt64)) - (2 : Int64))), .second, .unset, .unset, .unset]) rfl k) ?_
    refine own_back (S' := s₁.setTop (mkF m 31 #[.val (.long q1), .second, .val (.int p2), .val (.long (3000 : Int64)), .second, .val (.long (((3000 : Int64) + (((p2 >>> ((1 : Int32) &&& 31)) &&& (3 : Int32)).toInt64)) - (2 : Int64))), .second, .unset, .unset, .unset] [(.long q1)])) (fun _ k => XS.lloadN X0.here hx rfl (hb hby at_30) rfl k) ?_
    obtain ⟨_, _, ⟨T12, L12, k12, n12⟩, -, X12, ⟨Lc12, hQ12, l12, y12, z12⟩, st12⟩ := Jvm.LawKit.callS X0 hx (y := (⟨"com/example/secant/secant/message/ResultCode", "isProtocolError", "(J)Z"⟩ : MethodName)) hown (mvT hZ (hw _ (List.mem_of_getElem? (i := 2) rfl))) (mvT hZ (hw _ (List.mem_of_getElem? (i := 3) rfl))) (mvT hZ (hw _ (List.mem_of_getElem? (i := 4) rfl))) (mvT hZ (hw _ (List.mem_of_getElem? (i := 5) rfl))) (by decide) (backOf (W := 0) (rm1 l Z a0 hw [] q1 h0 n0 Z0 ) hZ (hw _ (List.mem_of_getElem? (i := 5) rfl)) (hw _ (List.mem_of_getElem? (i := 4) rfl)) (by decide) (by decide)) (g := (mkF m 31 #[.val (.long q1), .second, .val (.int p2), .val (.long (3000 : Int64)), .second, .val (.long (((3000 : Int64) + (((p2 >>> ((1 : Int32) &&& 31)) &&& (3 : Int32)).toInt64)) - (2 : Int64))), .second, .unset, .unset, .unset] [(.long q1)])) rfl (by rw [hml]; rfl) (argsL := [(.long q1)]) (rest := []) (lenOf pd_0 rfl) rfl (by show 2 * 0 + _ ≤ _; exact Nat.le_of_eq rfl) (hb hby at_31) (fun _ _ => ⟨rfl, e0, (by decide : 0 + 0 ≤ _), (by decide : 0 + 0 ≤ _)⟩)
    dsimp only [Pt.U, Pt.locs, Pt.cells, Pt.slots] at X12 l12 y12 z12 st12 hQ12
    subst l12 y12 z12
    obtain ⟨rfl, N12q, e12⟩ := hQ12
    have N12 := Fr.app N0 N12q
    refine own_back (S' := T12.setTop (mkF m 34 #[.val (.long q1), .second, .val (.int p2), .val (.long (3000 : Int64)), .second, .val (.long (((3000 : Int64) + (((p2 >>> ((1 : Int32) &&& 31)) &&& (3 : Int32)).toInt64)) - (2 : Int64))), .second, .unset, .unset, .unset] [(.int (own_isP q1))])) (st12) ?_
    refine own_back (S' := T12.setTop (mkF m 35 #[.val (.long q1), .second, .val (.int p2), .val (.long (3000 : Int64)), .second, .val (.long (((3000 : Int64) + (((p2 >>> ((1 : Int32) &&& 31)) &&& (3 : Int32)).toInt64)) - (2 : Int64))), .second, .unset, .unset, .unset] [(.long q1), (.int (own_isP q1))])) (fun _ k => XS.lloadN X12.here hx rfl (hb hby at_34) rfl k) ?_
    obtain ⟨_, _, ⟨T13, L13, k13, n13⟩, -, X13, ⟨Lc13, hQ13, l13, y13, z13⟩, st13⟩ := Jvm.LawKit.callS X12 hx (y := (⟨"com/example/secant/secant/message/ResultCodeIsProtocolErrorPinLaw", "inClass3", "(J)Z"⟩ : MethodName)) hown (mvT hZ (hw _ (List.mem_of_getElem? (i := 7) rfl))) (mvT hZ (hw _ (List.mem_of_getElem? (i := 8) rfl))) (mvT hZ (hw _ (List.mem_of_getElem? (i := 9) rfl))) (mvT hZ (hw _ (List.mem_of_getElem? (i := 10) rfl))) (by decide) (backOf (W := 1) (rm2 l Z a0 hw [] q1 h0 n0 Z0 ) hZ (hw _ (List.mem_of_getElem? (i := 10) rfl)) (hw _ (List.mem_of_getElem? (i := 9) rfl)) (by decide) (by decide)) (g := (mkF m 35 #[.val (.long q1), .second, .val (.int p2), .val (.long (3000 : Int64)), .second, .val (.long (((3000 : Int64) + (((p2 >>> ((1 : Int32) &&& 31)) &&& (3 : Int32)).toInt64)) - (2 : Int64))), .second, .unset, .unset, .unset] [(.long q1), (.int (own_isP q1))])) rfl (by rw [hml]; rfl) (argsL := [(.long q1)]) (rest := [(.int (own_isP q1))]) (lenOf pd_0 rfl) rfl (by show 2 * 0 + _ ≤ _; exact Nat.le_of_eq rfl) (hb hby at_35) (fun _ _ => ⟨rfl, e12, (by decide : 0 + 0 ≤ _), (by decide : 0 + 0 ≤ _)⟩)
    dsimp only [Pt.U, Pt.locs, Pt.cells, Pt.slots] at X13 l13 y13 z13 st13 hQ13
    subst l13 y13 z13
    obtain ⟨rfl, N13q, e13⟩ := hQ13
    have N13 := Fr.app N12 N13q
    refine own_back (S' := T13.setTop (mkF m 38 #[.val (.long q1), .second, .val (.int p2), .val (.long (3000 : Int64)), .second, .val (.long (((3000 : Int64) + (((p2 >>> ((1 : Int32) &&& 31)) &&& (3 : Int32)).toInt64)) - (2 : Int64))), .second, .unset, .unset, .unset] [(.int (own_in3 q1)), (.int (own_isP q1))])) (st13) ?_
    refine own_back (S' := T13.setTop (mkF m 41 #[.val (.long q1), .second, .val (.int p2), .val (.long (3000 : Int64)), .second, .val (.long (((3000 : Int64) + (((p2 >>> ((1 : Int32) &&& 31)) &&& (3 : Int32)).toInt64)) - (2 : Int64))), .second, .unset, .unset, .unset] [])) (fun _ k => XS.icmpNo X13.here hx rfl (hb hby at_38) rfl (teq (own_same _ : (own_isP q1) = (own_in3 q1))).2 k) ?_
    refine own_back (S' := T13.setTop (mkF m 42 #[.val (.long q1), .second, .val (.int p2), .val (.long (3000 : Int64)), .second, .val (.long (((3000 : Int64) + (((p2 >>> ((1 : Int32) &&& 31)) &&& (3 : Int32)).toInt64)) - (2 : Int64))), .second, .unset, .unset, .unset] [(.int (1 : Int32))])) (fun _ k => XS.iconst X13.here hx rfl (hb hby at_41)  k) ?_
    refine own_back (S' := T13.setTop (mkF m 46 #[.val (.long q1), .second, .val (.int p2), .val (.long (3000 : Int64)), .second, .val (.long (((3000 : Int64) + (((p2 >>> ((1 : Int32) &&& 31)) &&& (3 : Int32)).toInt64)) - (2 : Int64))), .second, .unset, .unset, .unset] [(.int (1 : Int32))])) (fun _ k => XS.goto X13.here hx rfl (pc0 := 42) (pc' := 46) rfl (hb hby at_42) (by decide) (by decide) k) ?_
    refine own_back (S' := T13.setTop (mkF m 48 #[.val (.long q1), .second, .val (.int p2), .val (.long (3000 : Int64)), .second, .val (.long (((3000 : Int64) + (((p2 >>> ((1 : Int32) &&& 31)) &&& (3 : Int32)).toInt64)) - (2 : Int64))), .second, .val (.int (1 : Int32)), .unset, .unset] [])) (fun _ k => XS.istore X13.here hx rfl (hb hby at_46) rfl (l' := #[.val (.long q1), .second, .val (.int p2), .val (.long (3000 : Int64)), .second, .val (.long (((3000 : Int64) + (((p2 >>> ((1 : Int32) &&& 31)) &&& (3 : Int32)).toInt64)) - (2 : Int64))), .second, .val (.int (1 : Int32)), .unset, .unset]) rfl k) ?_
    refine own_back (S' := T13.setTop (mkF m 50 #[.val (.long q1), .second, .val (.int p2), .val (.long (3000 : Int64)), .second, .val (.long (((3000 : Int64) + (((p2 >>> ((1 : Int32) &&& 31)) &&& (3 : Int32)).toInt64)) - (2 : Int64))), .second, .val (.int (1 : Int32)), .unset, .unset] [(.long (((3000 : Int64) + (((p2 >>> ((1 : Int32) &&& 31)) &&& (3 : Int32)).toInt64)) - (2 : Int64)))])) (fun _ k => XS.lload X13.here hx rfl (hb hby at_48) rfl k) ?_
    obtain ⟨_, _, ⟨T14, L14, k14, n14⟩, -, X14, ⟨Lc14, hQ14, l14, y14, z14⟩, st14⟩ := Jvm.LawKit.callS X13 hx (y := (⟨"com/example/secant/secant/message/ResultCode", "isProtocolError", "(J)Z"⟩ : MethodName)) hown (mvT hZ (hw _ (List.mem_of_getElem? (i := 2) rfl))) (mvT hZ (hw _ (List.mem_of_getElem? (i := 3) rfl))) (mvT hZ (hw _ (List.mem_of_getElem? (i := 4) rfl))) (mvT hZ (hw _ (List.mem_of_getElem? (i := 5) rfl))) (by decide) (backOf (W := 0) (rm1 l Z a0 hw [] (((3000 : Int64) + (((p2 >>> ((1 : Int32) &&& 31)) &&& (3 : Int32)).toInt64)) - (2 : Int64)) h0 n0 Z0 ) hZ (hw _ (List.mem_of_getElem? (i := 5) rfl)) (hw _ (List.mem_of_getElem? (i := 4) rfl)) (by decide) (by decide)) (g := (mkF m 50 #[.val (.long q1), .second, .val (.int p2), .val (.long (3000 : Int64)), .second, .val (.long (((3000 : Int64) + (((p2 >>> ((1 : Int32) &&& 31)) &&& (3 : Int32)).toInt64)) - (2 : Int64))), .second, .val (.int (1 : Int32)), .unset, .unset] [(.long (((3000 : Int64) + (((p2 >>> ((1 : Int32) &&& 31)) &&& (3 : Int32)).toInt64)) - (2 : Int64)))])) rfl (by rw [hml]; rfl) (argsL := [(.long (((3000 : Int64) + (((p2 >>> ((1 : Int32) &&& 31)) &&& (3 : Int32)).toInt64)) - (2 : Int64)))]) (rest := []) (lenOf pd_0 rfl) rfl (by show 2 * 0 + _ ≤ _; exact Nat.le_of_eq rfl) (hb hby at_50) (fun _ _ => ⟨rfl, e13, (by decide : 0 + 0 ≤ _), (by decide : 0 + 0 ≤ _)⟩)
    dsimp only [Pt.U, Pt.locs, Pt.cells, Pt.slots] at X14 l14 y14 z14 st14 hQ14
    subst l14 y14 z14
    obtain ⟨rfl, N14q, e14⟩ := hQ14
    have N14 := Fr.app N13 N14q
    refine own_back (S' := T14.setTop (mkF m 53 #[.val (.long q1), .second, .val (.int p2), .val (.long (3000 : Int64)), .second, .val (.long (((3000 : Int64) + (((p2 >>> ((1 : Int32) &&& 31)) &&& (3 : Int32)).toInt64)) - (2 : Int64))), .second, .val (.int (1 : Int32)), .unset, .unset] [(.int (own_isP (((3000 : Int64) + (((p2 >>> ((1 : Int32) &&& 31)) &&& (3 : Int32)).toInt64)) - (2 : Int64))))])) (st14) ?_
    refine own_back (S' := T14.setTop (mkF m 55 #[.val (.long q1), .second, .val (.int p2), .val (.long (3000 : Int64)), .second, .val (.long (((3000 : Int64) + (((p2 >>> ((1 : Int32) &&& 31)) &&& (3 : Int32)).toInt64)) - (2 : Int64))), .second, .val (.int (1 : Int32)), .unset, .unset] [(.long (((3000 : Int64) + (((p2 >>> ((1 : Int32) &&& 31)) &&& (3 : Int32)).toInt64)) - (2 : Int64))), (.int (own_isP (((3000 : Int64) + (((p2 >>> ((1 : Int32) &&& 31)) &&& (3 : Int32)).toInt64)) - (2 : Int64))))])) (fun _ k => XS.lload X14.here hx rfl (hb hby at_53) rfl k) ?_
    obtain ⟨_, _, ⟨T15, L15, k15, n15⟩, -, X15, ⟨Lc15, hQ15, l15, y15, z15⟩, st15⟩ := Jvm.LawKit.callS X14 hx (y := (⟨"com/example/secant/secant/message/ResultCodeIsProtocolErrorPinLaw", "inClass3", "(J)Z"⟩ : MethodName)) hown (mvT hZ (hw _ (List.mem_of_getElem? (i := 7) rfl))) (mvT hZ (hw _ (List.mem_of_getElem? (i := 8) rfl))) (mvT hZ (hw _ (List.mem_of_getElem? (i := 9) rfl))) (mvT hZ (hw _ (List.mem_of_getElem? (i := 10) rfl))) (by decide) (backOf (W := 1) (rm2 l Z a0 hw [] (((3000 : Int64) + (((p2 >>> ((1 : Int32) &&& 31)) &&& (3 : Int32)).toInt64)) - (2 : Int64)) h0 n0 Z0 ) hZ (hw _ (List.mem_of_getElem? (i := 10) rfl)) (hw _ (List.mem_of_getElem? (i := 9) rfl)) (by decide) (by decide)) (g := (mkF m 55 #[.val (.long q1), .second, .val (.int p2), .val (.long (3000 : Int64)), .second, .val (.long (((3000 : Int64) + (((p2 >>> ((1 : Int32) &&& 31)) &&& (3 : Int32)).toInt64)) - (2 : Int64))), .second, .val (.int (1 : Int32)), .unset, .unset] [(.long (((3000 : Int64) + (((p2 >>> ((1 : Int32) &&& 31)) &&& (3 : Int32)).toInt64)) - (2 : Int64))), (.int (own_isP (((3000 : Int64) + (((p2 >>> ((1 : Int32) &&& 31)) &&& (3 : Int32)).toInt64)) - (2 : Int64))))])) rfl (by rw [hml]; rfl) (argsL := [(.long (((3000 : Int64) + (((p2 >>> ((1 : Int32) &&& 31)) &&& (3 : Int32)).toInt64)) - (2 : Int64)))]) (rest := [(.int (own_isP (((3000 : Int64) + (((p2 >>> ((1 : Int32) &&& 31)) &&& (3 : Int32)).toInt64)) - (2 : Int64))))]) (lenOf pd_0 rfl) rfl (by show 2 * 0 + _ ≤ _; exact Nat.le_of_eq rfl) (hb hby at_55) (fun _ _ => ⟨rfl, e14, (by decide : 0 + 0 ≤ _), (by decide : 0 + 0 ≤ _)⟩)
    dsimp only [Pt.U, Pt.locs, Pt.cells, Pt.slots] at X15 l15 y15 z15 st15 hQ15
    subst l15 y15 z15
    obtain ⟨rfl, N15q, e15⟩ := hQ15
    have N15 := Fr.app N14 N15q
    refine own_back (S' := T15.setTop (mkF m 58 #[.val (.long q1), .second, .val (.int p2), .val (.long (3000 : Int64)), .second, .val (.long (((3000 : Int64) + (((p2 >>> ((1 : Int32) &&& 31)) &&& (3 : Int32)).toInt64)) - (2 : Int64))), .second, .val (.int (1 : Int32)), .unset, .unset] [(.int (own_in3 (((3000 : Int64) + (((p2 >>> ((1 : Int32) &&& 31)) &&& (3 : Int32)).toInt64)) - (2 : Int64)))), (.int (own_isP (((3000 : Int64) + (((p2 >>> ((1 : Int32) &&& 31)) &&& (3 : Int32)).toInt64)) - (2 : Int64))))])) (st15) ?_
    refine own_back (S' := T15.setTop (mkF m 61 #[.val (.long q1), .second, .val (.int p2), .val (.long (3000 : Int64)), .second, .val (.long (((3000 : Int64) + (((p2 >>> ((1 : Int32) &&& 31)) &&& (3 : Int32)).toInt64)) - (2 : Int64))), .second, .val (.int (1 : Int32)), .unset, .unset] [])) (fun _ k => XS.icmpNo X15.here hx rfl (hb hby at_58) rfl (teq (own_same _ : (own_isP (((3000 : Int64) + (((p2 >>> ((1 : Int32) &&& 31)) &&& (3 : Int32)).toInt64)) - (2 : Int64))) = (own_in3 (((3000 : Int64) + (((p2 >>> ((1 : Int32) &&& 31)) &&& (3 : Int32)).toInt64)) - (2 : Int64))))).2 k) ?_
    refine own_back (S' := T15.setTop (mkF m 62 #[.val (.long q1), .second, .val (.int p2), .val (.long (3000 : Int64)), .second, .val (.long (((3000 : Int64) + (((p2 >>> ((1 : Int32) &&& 31)) &&& (3 : Int32)).toInt64)) - (2 : Int64))), .second, .val (.int (1 : Int32)), .unset, .unset] [(.int (1 : Int32))])) (fun _ k => XS.iconst X15.here hx rfl (hb hby at_61)  k) ?_
    refine own_back (S' := T15.setTop (mkF m 66 #[.val (.long q1), .second, .val (.int p2), .val (.long (3000 : Int64)), .second, .val (.long (((3000 : Int64) + (((p2 >>> ((1 : Int32) &&& 31)) &&& (3 : Int32)).toInt64)) - (2 : Int64))), .second, .val (.int (1 : Int32)), .unset, .unset] [(.int (1 : Int32))])) (fun _ k => XS.goto X15.here hx rfl (pc0 := 62) (pc' := 66) rfl (hb hby at_62) (by decide) (by decide) k) ?_
    refine own_back (S' := T15.setTop (mkF m 68 #[.val (.long q1), .second, .val (.int p2), .val (.long (3000 : Int64)), .second, .val (.long (((3000 : Int64) + (((p2 >>> ((1 : Int32) &&& 31)) &&& (3 : Int32)).toInt64)) - (2 : Int64))), .second, .val (.int (1 : Int32)), .val (.int (1 : Int32)), .unset] [])) (fun _ k => XS.istore X15.here hx rfl (hb hby at_66) rfl (l' := #[.val (.long q1), .second, .val (.int p2), .val (.long (3000 : Int64)), .second, .val (.long (((3000 : Int64) + (((p2 >>> ((1 : Int32) &&& 31)) &&& (3 : Int32)).toInt64)) - (2 : Int64))), .second, .val (.int (1 : Int32)), .val (.int (1 : Int32)), .unset]) rfl k) ?_
    refine own_back (S' := T15.setTop (mkF m 71 #[.val (.long q1), .second, .val (.int p2), .val (.long (3000 : Int64)), .second, .val (.long (((3000 : Int64) + (((p2 >>> ((1 : Int32) &&& 31)) &&& (3 : Int32)).toInt64)) - (2 : Int64))), .second, .val (.int (1 : Int32)), .val (.int (1 : Int32)), .unset] [(.long (3001 : Int64))])) (fun _ k => X15.ldc2Long hx hown (mvT hZ (hw _ (List.mem_of_getElem? (i := 14) rfl))) (g := (mkF m 68 #[.val (.long q1), .second, .val (.int p2), .val (.long (3000 : Int64)), .second, .val (.long (((3000 : Int64) + (((p2 >>> ((1 : Int32) &&& 31)) &&& (3 : Int32)).toInt64)) - (2 : Int64))), .second, .val (.int (1 : Int32)), .val (.int (1 : Int32)), .unset] [])) rfl (hb hby at_68) _ k) ?_
    obtain ⟨_, _, ⟨T16, L16, k16, n16⟩, -, X16, ⟨Lc16, hQ16, l16, y16, z16⟩, st16⟩ := Jvm.LawKit.callS X15 hx (y := (⟨"com/example/secant/secant/message/ResultCode", "isProtocolError", "(J)Z"⟩ : MethodName)) hown (mvT hZ (hw _ (List.mem_of_getElem? (i := 2) rfl))) (mvT hZ (hw _ (List.mem_of_getElem? (i := 3) rfl))) (mvT hZ (hw _ (List.mem_of_getElem? (i := 4) rfl))) (mvT hZ (hw _ (List.mem_of_getElem? (i := 5) rfl))) (by decide) (backOf (W := 0) (rm1 l Z a0 hw [] (3001 : Int64) h0 n0 Z0 ) hZ (hw _ (List.mem_of_getElem? (i := 5) rfl)) (hw _ (List.mem_of_getElem? (i := 4) rfl)) (by decide) (by decide)) (g := (mkF m 71 #[.val (.long q1), .second, .val (.int p2), .val (.long (3000 : Int64)), .second, .val (.long (((3000 : Int64) + (((p2 >>> ((1 : Int32) &&& 31)) &&& (3 : Int32)).toInt64)) - (2 : Int64))), .second, .val (.int (1 : Int32)), .val (.int (1 : Int32)), .unset] [(.long (3001 : Int64))])) rfl (by rw [hml]; rfl) (argsL := [(.long (3001 : Int64))]) (rest := []) (lenOf pd_0 rfl) rfl (by show 2 * 0 + _ ≤ _; exact Nat.le_of_eq rfl) (hb hby at_71) (fun _ _ => ⟨rfl, e15, (by decide : 0 + 0 ≤ _), (by decide : 0 + 0 ≤ _)⟩)
    dsimp only [Pt.U, Pt.locs, Pt.cells, Pt.slots] at X16 l16 y16 z16 st16 hQ16
    subst l16 y16 z16
    obtain ⟨rfl, N16q, e16⟩ := hQ16
    have N16 := Fr.app N15 N16q
    refine own_back (S' := T16.setTop (mkF m 74 #[.val (.long q1), .second, .val (.int p2), .val (.long (3000 : Int64)), .second, .val (.long (((3000 : Int64) + (((p2 >>> ((1 : Int32) &&& 31)) &&& (3 : Int32)).toInt64)) - (2 : Int64))), .second, .val (.int (1 : Int32)), .val (.int (1 : Int32)), .unset] [(.int (own_isP (3001 : Int64)))])) (st16) ?_
    refine own_back (S' := T16.setTop (mkF m 77 #[.val (.long q1), .second, .val (.int p2), .val (.long (3000 : Int64)), .second, .val (.long (((3000 : Int64) + (((p2 >>> ((1 : Int32) &&& 31)) &&& (3 : Int32)).toInt64)) - (2 : Int64))), .second, .val (.int (1 : Int32)), .val (.int (1 : Int32)), .unset] [])) (fun _ k => XS.ifNo X16.here hx rfl (hb hby at_74) rfl ((if0 _ _).trans (feq ((by decide +kernel) : ¬ ((own_isP (3001 : Int64)) = (0 : Int32)))).1) k) ?_
    refine own_back (S' := T16.setTop (mkF m 80 #[.val (.long q1), .second, .val (.int p2), .val (.long (3000 : Int64)), .second, .val (.long (((3000 : Int64) + (((p2 >>> ((1 : Int32) &&& 31)) &&& (3 : Int32)).toInt64)) - (2 : Int64))), .second, .val (.int (1 : Int32)), .val (.int (1 : Int32)), .unset] [(.long (3008 : Int64))])) (fun _ k => X16.ldc2Long hx hown (mvT hZ (hw _ (List.mem_of_getElem? (i := 15) rfl))) (g := (mkF m 77 #[.val (.long q1), .second, .val (.int p2), .val (.long (3000 : Int64)), .second, .val (.long (((3000 : Int64) + (((p2 >>> ((1 : Int32) &&& 31)) &&& (3 : Int32)).toInt64)) - (2 : Int64))), .second, .val (.int (1 : Int32)), .val (.int (1 : Int32)), .unset] [])) rfl (hb hby at_77) _ k) ?_
    obtain ⟨_, _, ⟨T17, L17, k17, n17⟩, -, X17, ⟨Lc17, hQ17, l17, y17, z17⟩, st17⟩ := Jvm.LawKit.callS X16 hx (y := (⟨"com/example/secant/secant/message/ResultCode", "isProtocolError", "(J)Z"⟩ : MethodName)) hown (mvT hZ (hw _ (List.mem_of_getElem? (i := 2) rfl))) (mvT hZ (hw _ (List.mem_of_getElem? (i := 3) rfl))) (mvT hZ (hw _ (List.mem_of_getElem? (i := 4) rfl))) (mvT hZ (hw _ (List.mem_of_getElem? (i := 5) rfl))) (by decide) (backOf (W := 0) (rm1 l Z a0 hw [] (3008 : Int64) h0 n0 Z0 ) hZ (hw _ (List.mem_of_getElem? (i := 5) rfl)) (hw _ (List.mem_of_getElem? (i := 4) rfl)) (by decide) (by decide)) (g := (mkF m 80 #[.val (.long q1), .second, .val (.int p2), .val (.long (3000 : Int64)), .second, .val (.long (((3000 : Int64) + (((p2 >>> ((1 : Int32) &&& 31)) &&& (3 : Int32)).toInt64)) - (2 : Int64))), .second, .val (.int (1 : Int32)), .val (.int (1 : Int32)), .unset] [(.long (3008 : Int64))])) rfl (by rw [hml]; rfl) (argsL := [(.long (3008 : Int64))]) (rest := []) (lenOf pd_0 rfl) rfl (by show 2 * 0 + _ ≤ _; exact Nat.le_of_eq rfl) (hb hby at_80) (fun _ _ => ⟨rfl, e16, (by decide : 0 + 0 ≤ _), (by decide : 0 + 0 ≤ _)⟩)
    dsimp only [Pt.U, Pt.locs, Pt.cells, Pt.slots] at X17 l17 y17 z17 st17 hQ17
    subst l17 y17 z17
    obtain ⟨rfl, N17q, e17⟩ := hQ17
    have N17 := Fr.app N16 N17q
    refine own_back (S' := T17.setTop (mkF m 83 #[.val (.long q1), .second, .val (.int p2), .val (.long (3000 : Int64)), .second, .val (.long (((3000 : Int64) + (((p2 >>> ((1 : Int32) &&& 31)) &&& (3 : Int32)).toInt64)) - (2 : Int64))), .second, .val (.int (1 : Int32)), .val (.int (1 : Int32)), .unset] [(.int (own_isP (3008 : Int64)))])) (st17) ?_
    refine own_back (S' := T17.setTop (mkF m 86 #[.val (.long q1), .second, .val (.int p2), .val (.long (3000 : Int64)), .second, .val (.long (((3000 : Int64) + (((p2 >>> ((1 : Int32) &&& 31)) &&& (3 : Int32)).toInt64)) - (2 : Int64))), .second, .val (.int (1 : Int32)), .val (.int (1 : Int32)), .unset] [])) (fun _ k => XS.ifNo X17.here hx rfl (hb hby at_83) rfl ((if0 _ _).trans (feq ((by decide +kernel) : ¬ ((own_isP (3008 : Int64)) = (0 : Int32)))).1) k) ?_
    refine own_back (S' := T17.setTop (mkF m 89 #[.val (.long q1), .second, .val (.int p2), .val (.long (3000 : Int64)), .second, .val (.long (((3000 : Int64) + (((p2 >>> ((1 : Int32) &&& 31)) &&& (3 : Int32)).toInt64)) - (2 : Int64))), .second, .val (.int (1 : Int32)), .val (.int (1 : Int32)), .unset] [(.long (2001 : Int64))])) (fun _ k => X17.ldc2Long hx hown (mvT hZ (hw _ (List.mem_of_getElem? (i := 16) rfl))) (g := (mkF m 86 #[.val (.long q1), .second, .val (.int p2), .val (.long (3000 : Int64)), .second, .val (.long (((3000 : Int64) + (((p2 >>> ((1 : Int32) &&& 31)) &&& (3 : Int32)).toInt64)) - (2 : Int64))), .second, .val (.int (1 : Int32)), .val (.int (1 : Int32)), .unset] [])) rfl (hb hby at_86) _ k) ?_
    obtain ⟨_, _, ⟨T18, L18, k18, n18⟩, -, X18, ⟨Lc18, hQ18, l18, y18, z18⟩, st18⟩ := Jvm.LawKit.callS X17 hx (y := (⟨"com/example/secant/secant/message/ResultCode", "isProtocolError", "(J)Z"⟩ : MethodName)) hown (mvT hZ (hw _ (List.mem_of_getElem? (i := 2) rfl))) (mvT hZ (hw _ (List.mem_of_getElem? (i := 3) rfl))) (mvT hZ (hw _ (List.mem_of_getElem? (i := 4) rfl))) (mvT hZ (hw _ (List.mem_of_getElem? (i := 5) rfl))) (by decide) (backOf (W := 0) (rm1 l Z a0 hw [] (2001 : Int64) h0 n0 Z0 ) hZ (hw _ (List.mem_of_getElem? (i := 5) rfl)) (hw _ (List.mem_of_getElem? (i := 4) rfl)) (by decide) (by decide)) (g := (mkF m 89 #[.val (.long q1), .second, .val (.int p2), .val (.long (3000 : Int64)), .second, .val (.long (((3000 : Int64) + (((p2 >>> ((1 : Int32) &&& 31)) &&& (3 : Int32)).toInt64)) - (2 : Int64))), .second, .val (.int (1 : Int32)), .val (.int (1 : Int32)), .unset] [(.long (2001 : Int64))])) rfl (by rw [hml]; rfl) (argsL := [(.long (2001 : Int64))]) (rest := []) (lenOf pd_0 rfl) rfl (by show 2 * 0 + _ ≤ _; exact Nat.le_of_eq rfl) (hb hby at_89) (fun _ _ => ⟨rfl, e17, (by decide : 0 + 0 ≤ _), (by decide : 0 + 0 ≤ _)⟩)
    dsimp only [Pt.U, Pt.locs, Pt.cells, Pt.slots] at X18 l18 y18 z18 st18 hQ18
    subst l18 y18 z18
    obtain ⟨rfl, N18q, e18⟩ := hQ18
    have N18 := Fr.app N17 N18q
    refine own_back (S' := T18.setTop (mkF m 92 #[.val (.long q1), .second, .val (.int p2), .val (.long (3000 : Int64)), .second, .val (.long (((3000 : Int64) + (((p2 >>> ((1 : Int32) &&& 31)) &&& (3 : Int32)).toInt64)) - (2 : Int64))), .second, .val (.int (1 : Int32)), .val (.int (1 : Int32)), .unset] [(.int (own_isP (2001 : Int64)))])) (st18) ?_
    refine own_back (S' := T18.setTop (mkF m 95 #[.val (.long q1), .second, .val (.int p2), .val (.long (3000 : Int64)), .second, .val (.long (((3000 : Int64) + (((p2 >>> ((1 : Int32) &&& 31)) &&& (3 : Int32)).toInt64)) - (2 : Int64))), .second, .val (.int (1 : Int32)), .val (.int (1 : Int32)), .unset] [])) (fun _ k => XS.ifNo X18.here hx rfl (hb hby at_92) rfl ((if0 _ _).trans (teq ((by decide +kernel) : (own_isP (2001 : Int64)) = (0 : Int32))).2) k) ?_
    refine own_back (S' := T18.setTop (mkF m 98 #[.val (.long q1), .second, .val (.int p2), .val (.long (3000 : Int64)), .second, .val (.long (((3000 : Int64) + (((p2 >>> ((1 : Int32) &&& 31)) &&& (3 : Int32)).toInt64)) - (2 : Int64))), .second, .val (.int (1 : Int32)), .val (.int (1 : Int32)), .unset] [(.long (4002 : Int64))])) (fun _ k => X18.ldc2Long hx hown (mvT hZ (hw _ (List.mem_of_getElem? (i := 17) rfl))) (g := (mkF m 95 #[.val (.long q1), .second, .val (.int p2), .val (.long (3000 : Int64)), .second, .val (.long (((3000 : Int64) + (((p2 >>> ((1 : Int32) &&& 31)) &&& (3 : Int32)).toInt64)) - (2 : Int64))), .second, .val (.int (1 : Int32)), .val (.int (1 : Int32)), .unset] [])) rfl (hb hby at_95) _ k) ?_
    obtain ⟨_, _, ⟨T19, L19, k19, n19⟩, -, X19, ⟨Lc19, hQ19, l19, y19, z19⟩, st19⟩ := Jvm.LawKit.callS X18 hx (y := (⟨"com/example/secant/secant/message/ResultCode", "isProtocolError", "(J)Z"⟩ : MethodName)) hown (mvT hZ (hw _ (List.mem_of_getElem? (i := 2) rfl))) (mvT hZ (hw _ (List.mem_of_getElem? (i := 3) rfl))) (mvT hZ (hw _ (List.mem_of_getElem? (i := 4) rfl))) (mvT hZ (hw _ (List.mem_of_getElem? (i := 5) rfl))) (by decide) (backOf (W := 0) (rm1 l Z a0 hw [] (4002 : Int64) h0 n0 Z0 ) hZ (hw _ (List.mem_of_getElem? (i := 5) rfl)) (hw _ (List.mem_of_getElem? (i := 4) rfl)) (by decide) (by decide)) (g := (mkF m 98 #[.val (.long q1), .second, .val (.int p2), .val (.long (3000 : Int64)), .second, .val (.long (((3000 : Int64) + (((p2 >>> ((1 : Int32) &&& 31)) &&& (3 : Int32)).toInt64)) - (2 : Int64))), .second, .val (.int (1 : Int32)), .val (.int (1 : Int32)), .unset] [(.long (4002 : Int64))])) rfl (by rw [hml]; rfl) (argsL := [(.long (4002 : Int64))]) (rest := []) (lenOf pd_0 rfl) rfl (by show 2 * 0 + _ ≤ _; exact Nat.le_of_eq rfl) (hb hby at_98) (fun _ _ => ⟨rfl, e18, (by decide : 0 + 0 ≤ _), (by decide : 0 + 0 ≤ _)⟩)
    dsimp only [Pt.U, Pt.locs, Pt.cells, Pt.slots] at X19 l19 y19 z19 st19 hQ19
    subst l19 y19 z19
    obtain ⟨rfl, N19q, e19⟩ := hQ19
    have N19 := Fr.app N18 N19q
    refine own_back (S' := T19.setTop (mkF m 101 #[.val (.long q1), .second, .val (.int p2), .val (.long (3000 : Int64)), .second, .val (.long (((3000 : Int64) + (((p2 >>> ((1 : Int32) &&& 31)) &&& (3 : Int32)).toInt64)) - (2 : Int64))), .second, .val (.int (1 : Int32)), .val (.int (1 : Int32)), .unset] [(.int (own_isP (4002 : Int64)))])) (st19) ?_
    refine own_back (S' := T19.setTop (mkF m 104 #[.val (.long q1), .second, .val (.int p2), .val (.long (3000 : Int64)), .second, .val (.long (((3000 : Int64) + (((p2 >>> ((1 : Int32) &&& 31)) &&& (3 : Int32)).toInt64)) - (2 : Int64))), .second, .val (.int (1 : Int32)), .val (.int (1 : Int32)), .unset] [])) (fun _ k => XS.ifNo X19.here hx rfl (hb hby at_101) rfl ((if0 _ _).trans (teq ((by decide +kernel) : (own_isP (4002 : Int64)) = (0 : Int32))).2) k) ?_
    refine own_back (S' := T19.setTop (mkF m 107 #[.val (.long q1), .second, .val (.int p2), .val (.long (3000 : Int64)), .second, .val (.long (((3000 : Int64) + (((p2 >>> ((1 : Int32) &&& 31)) &&& (3 : Int32)).toInt64)) - (2 : Int64))), .second, .val (.int (1 : Int32)), .val (.int (1 : Int32)), .unset] [(.long (5001 : Int64))])) (fun _ k => X19.ldc2Long hx hown (mvT hZ (hw _ (List.mem_of_getElem? (i := 18) rfl))) (g := (mkF m 104 #[.val (.long q1), .second, .val (.int p2), .val (.long (3000 : Int64)), .second, .val (.long (((3000 : Int64) + (((p2 >>> ((1 : Int32) &&& 31)) &&& (3 : Int32)).toInt64)) - (2 : Int64))), .second, .val (.int (1 : Int32)), .val (.int (1 : Int32)), .unset] [])) rfl (hb hby at_104) _ k) ?_
    obtain ⟨_, _, ⟨T20, L20, k20, n20⟩, -, X20, ⟨Lc20, hQ20, l20, y20, z20⟩, st20⟩ := Jvm.LawKit.callS X19 hx (y := (⟨"com/example/secant/secant/message/ResultCode", "isProtocolError", "(J)Z"⟩ : MethodName)) hown (mvT hZ (hw _ (List.mem_of_getElem? (i := 2) rfl))) (mvT hZ (hw _ (List.mem_of_getElem? (i := 3) rfl))) (mvT hZ (hw _ (List.mem_of_getElem? (i := 4) rfl))) (mvT hZ (hw _ (List.mem_of_getElem? (i := 5) rfl))) (by decide) (backOf (W := 0) (rm1 l Z a0 hw [] (5001 : Int64) h0 n0 Z0 ) hZ (hw _ (List.mem_of_getElem? (i := 5) rfl)) (hw _ (List.mem_of_getElem? (i := 4) rfl)) (by decide) (by decide)) (g := (mkF m 107 #[.val (.long q1), .second, .val (.int p2), .val (.long (3000 : Int64)), .second, .val (.long (((3000 : Int64) + (((p2 >>> ((1 : Int32) &&& 31)) &&& (3 : Int32)).toInt64)) - (2 : Int64))), .second, .val (.int (1 : Int32)), .val (.int (1 : Int32)), .unset] [(.long (5001 : Int64))])) rfl (by rw [hml]; rfl) (argsL := [(.long (5001 : Int64))]) (rest := []) (lenOf pd_0 rfl) rfl (by show 2 * 0 + _ ≤ _; exact Nat.le_of_eq rfl) (hb hby at_107) (fun _ _ => ⟨rfl, e19, (by decide : 0 + 0 ≤ _), (by decide : 0 + 0 ≤ _)⟩)
    dsimp only [Pt.U, Pt.locs, Pt.cells, Pt.slots] at X20 l20 y20 z20 st20 hQ20
    subst l20 y20 z20
    obtain ⟨rfl, N20q, e20⟩ := hQ20
    have N20 := Fr.app N19 N20q
    refine own_back (S' := T20.setTop (mkF m 110 #[.val (.long q1), .second, .val (.int p2), .val (.long (3000 : Int64)), .second, .val (.long (((3000 : Int64) + (((p2 >>> ((1 : Int32) &&& 31)) &&& (3 : Int32)).toInt64)) - (2 : Int64))), .second, .val (.int (1 : Int32)), .val (.int (1 : Int32)), .unset] [(.int (own_isP (5001 : Int64)))])) (st20) ?_
    refine own_back (S' := T20.setTop (mkF m 113 #[.val (.long q1), .second, .val (.int p2), .val (.long (3000 : Int64)), .second, .val (.long (((3000 : Int64) + (((p2 >>> ((1 : Int32) &&& 31)) &&& (3 : Int32)).toInt64)) - (2 : Int64))), .second, .val (.int (1 : Int32)), .val (.int (1 : Int32)), .unset] [])) (fun _ k => XS.ifNo X20.here hx rfl (hb hby at_110) rfl ((if0 _ _).trans (teq ((by decide +kernel) : (own_isP (5001 : Int64)) = (0 : Int32))).2) k) ?_
    refine own_back (S' := T20.setTop (mkF m 114 #[.val (.long q1), .second, .val (.int p2), .val (.long (3000 : Int64)), .second, .val (.long (((3000 : Int64) + (((p2 >>> ((1 : Int32) &&& 31)) &&& (3 : Int32)).toInt64)) - (2 : Int64))), .second, .val (.int (1 : Int32)), .val (.int (1 : Int32)), .unset] [(.int (1 : Int32))])) (fun _ k => XS.iconst X20.here hx rfl (hb hby at_113)  k) ?_
    refine own_back (S' := T20.setTop (mkF m 118 #[.val (.long q1), .second, .val (.int p2), .val (.long (3000 : Int64)), .second, .val (.long (((3000 : Int64) + (((p2 >>> ((1 : Int32) &&& 31)) &&& (3 : Int32)).toInt64)) - (2 : Int64))), .second, .val (.int (1 : Int32)), .val (.int (1 : Int32)), .unset] [(.int (1 : Int32))])) (fun _ k => XS.goto X20.here hx rfl (pc0 := 114) (pc' := 118) rfl (hb hby at_114) (by decide) (by decide) k) ?_
    refine own_back (S' := T20.setTop (mkF m 120 #[.val (.long q1), .second, .val (.int p2), .val (.long (3000 : Int64)), .second, .val (.long (((3000 : Int64) + (((p2 >>> ((1 : Int32) &&& 31)) &&& (3 : Int32)).toInt64)) - (2 : Int64))), .second, .val (.int (1 : Int32)), .val (.int (1 : Int32)), .val (.int (1 : Int32))] [])) (fun _ k => XS.istore X20.here hx rfl (hb hby at_118) rfl (l' := #[.val (.long q1), .second, .val (.int p2), .val (.long (3000 : Int64)), .second, .val (.long (((3000 : Int64) + (((p2 >>> ((1 : Int32) &&& 31)) &&& (3 : Int32)).toInt64)) - (2 : Int64))), .second, .val (.int (1 : Int32)), .val (.int (1 : Int32)), .val (.int (1 : Int32))]) rfl k) ?_
    refine own_back (S' := T20.setTop (mkF m 122 #[.val (.long q1), .second, .val (.int p2), .val (.long (3000 : Int64)), .second, .val (.long (((3000 : Int64) + (((p2 >>> ((1 : Int32) &&& 31)) &&& (3 : Int32)).toInt64)) - (2 : Int64))), .second, .val (.int (1 : Int32)), .val (.int (1 : Int32)), .val (.int (1 : Int32))] [(.int (1 : Int32))])) (fun _ k => XS.iload X20.here hx rfl (hb hby at_120) rfl k) ?_
    refine own_back (S' := T20.setTop (mkF m 125 #[.val (.long q1), .second, .val (.int p2), .val (.long (3000 : Int64)), .second, .val (.long (((3000 : Int64) + (((p2 >>> ((1 : Int32) &&& 31)) &&& (3 : Int32)).toInt64)) - (2 : Int64))), .second, .val (.int (1 : Int32)), .val (.int (1 : Int32)), .val (.int (1 : Int32))] [])) (fun _ k => XS.ifNo X20.here hx rfl (hb hby at_122) rfl ((if0 _ _).trans (feq ((by decide) : ¬ ((1 : Int32) = (0 : Int32)))).1) k) ?_
    refine own_back (S' := T20.setTop (mkF m 127 #[.val (.long q1), .second, .val (.int p2), .val (.long (3000 : Int64)), .second, .val (.long (((3000 : Int64) + (((p2 >>> ((1 : Int32) &&& 31)) &&& (3 : Int32)).toInt64)) - (2 : Int64))), .second, .val (.int (1 : Int32)), .val (.int (1 : Int32)), .val (.int (1 : Int32))] [(.int (1 : Int32))])) (fun _ k => XS.iload X20.here hx rfl (hb hby at_125) rfl k) ?_
    refine own_back (S' := T20.setTop (mkF m 130 #[.val (.long q1), .second, .val (.int p2), .val (.long (3000 : Int64)), .second, .val (.long (((3000 : Int64) + (((p2 >>> ((1 : Int32) &&& 31)) &&& (3 : Int32)).toInt64)) - (2 : Int64))), .second, .val (.int (1 : Int32)), .val (.int (1 : Int32)), .val (.int (1 : Int32))] [])) (fun _ k => XS.ifNo X20.here hx rfl (hb hby at_127) rfl ((if0 _ _).trans (feq ((by decide) : ¬ ((1 : Int32) = (0 : Int32)))).1) k) ?_
    refine own_back (S' := T20.setTop (mkF m 132 #[.val (.long q1), .second, .val (.int p2), .val (.long (3000 : Int64)), .second, .val (.long (((3000 : Int64) + (((p2 >>> ((1 : Int32) &&& 31)) &&& (3 : Int32)).toInt64)) - (2 : Int64))), .second, .val (.int (1 : Int32)), .val (.int (1 : Int32)), .val (.int (1 : Int32))] [(.int (1 : Int32))])) (fun _ k => XS.iload X20.here hx rfl (hb hby at_130) rfl k) ?_
    refine own_back (S' := T20.setTop (mkF m 135 #[.val (.long q1), .second, .val (.int p2), .val (.long (3000 : Int64)), .second, .val (.long (((3000 : Int64) + (((p2 >>> ((1 : Int32) &&& 31)) &&& (3 : Int32)).toInt64)) - (2 : Int64))), .second, .val (.int (1 : Int32)), .val (.int (1 : Int32)), .val (.int (1 : Int32))] [])) (fun _ k => XS.ifNo X20.here hx rfl (hb hby at_132) rfl ((if0 _ _).trans (feq ((by decide) : ¬ ((1 : Int32) = (0 : Int32)))).1) k) ?_
    refine own_back (S' := T20.setTop (mkF m 136 #[.val (.long q1), .second, .val (.int p2), .val (.long (3000 : Int64)), .second, .val (.long (((3000 : Int64) + (((p2 >>> ((1 : Int32) &&& 31)) &&& (3 : Int32)).toInt64)) - (2 : Int64))), .second, .val (.int (1 : Int32)), .val (.int (1 : Int32)), .val (.int (1 : Int32))] [(.int (1 : Int32))])) (fun _ k => XS.iconst X20.here hx rfl (hb hby at_135)  k) ?_
    refine own_back (S' := T20.setTop (mkF m 140 #[.val (.long q1), .second, .val (.int p2), .val (.long (3000 : Int64)), .second, .val (.long (((3000 : Int64) + (((p2 >>> ((1 : Int32) &&& 31)) &&& (3 : Int32)).toInt64)) - (2 : Int64))), .second, .val (.int (1 : Int32)), .val (.int (1 : Int32)), .val (.int (1 : Int32))] [(.int (1 : Int32))])) (fun _ k => XS.goto X20.here hx rfl (pc0 := 136) (pc' := 140) rfl (hb hby at_136) (by decide) (by decide) k) ?_
    obtain ⟨fs, hr, hrun, hended, hW, hsame⟩ := X20.leave (v := some (.int (1 : Int32))) (fun h => by rw [Bd.returns] at h; cases h)
    refine own_done ⟨_, _, retN X20 hx (t := .boolean) Bd.returns (by simp) (hb hby at_140) hr, hrun, hended, _, _, rfl, ?_, ⟨_, rfl⟩, hW, hsame.mono (by decide) (by decide)⟩
    show Q0 Z q1 p2 h0 n0 _ T20.heap _
    rw [e20]
    exact ⟨rfl, N20⟩
set_option maxRecDepth 65536 in
set_option maxHeartbeats 40000000 in
theorem comes_1 {Post : Tables → Env → Array Value → State → Outcome → State → Prop} (hpost : ∀ tb e args s v u, (limb_1_1.after args s (.returned v) u = true ∧ limb_1_2.after args s (.returned v) u = true ∧ True) → FrameEnd s (.returned v) u (Jvm.fieldLocs frame_1_writes args s ++ Jvm.arrayLocs frame_1_arrays args s ++ Jvm.staticLocs frame_1_statics s) 0 0 → Post tb e args s (.returned v) u) :
    ArmFor flags0 classFile x code maxLocals ret World_1 tables_1 room_1 Calls_1 rest_1 Pre_1 Post := by
  intro l hfl _ _ p e ha hc hk s m args below hf hA hF happ hP
  obtain ⟨hcalls, hrest, hpre⟩ := hP
  obtain ⟨-, -, -, hnamed, -, -, -, hat⟩ := (Spec.applies_iff hf).mp happ
  obtain ⟨hg, hn⟩ := and_e (Cond.before_iff.mp (show (Jvm.Cond.and given_1 narrow_1).before args s = true from hpre))
  obtain ⟨g1, g2⟩ := and_e hg
  obtain ⟨g3, g4⟩ := and_e g2
  obtain ⟨w0, w1, rfl⟩ : ∃ w0 w1 : Value, args = #[w0, w1] := by
    have hs : args.size = 2 := by simpa [Cond.value, given_1] using g1
    obtain ⟨L⟩ := args
    match L, hs with
    | [w0, w1], _ => exact ⟨w0, w1, rfl⟩
  have hw := fun d (hd : d ∈ tables_1) => atoms_spec (ws := Jvm.Cond.code x code maxLocals ret :: tables_1) hat d (List.mem_cons_of_mem _ hd)
  have hfit : Fit s := fun {y c} hc i hi => by
    obtain ⟨ha, rfl⟩ := Array.getElem?_eq_some_iff.mp hc
    have q := List.all_eq_true.mp ((Array.all_eq_true_iff_forall_mem.mp hF) _ (Array.getElem_mem ha)) i (List.mem_range.mpr hi)
    simpa [Array.getElem?_eq_getElem hi] using q
  obtain ⟨i0, ei0⟩ := isL_v g3
  obtain rfl : w0 = (.long i0) := Option.some.inj ei0
  obtain ⟨i1, ei1⟩ := is_v g4
  obtain rfl : w1 = (.int i1) := Option.some.inj ei1
  obtain ⟨n, o, h1, h2, h3, _, L, rfl, ⟨rfl, N⟩, hq⟩ := rm0 l s _ hw tables_1 i0 i1 s.heap s.heap.size (Nat.le_refl _) p e ha hc hk s m _ below hf ((Spec.applies_iff_loose hf).mp happ).1 ⟨rfl, State.Warmed39.refl s, rfl⟩ trivial
  refine ⟨n, _, h1, h2, h3, hpost _ _ _ _ _ _ ⟨Cond.after_iff.mpr rfl, Cond.after_iff.mpr (eq_i res_at (Term.int_eval (1)) rfl), trivial⟩ ⟨hq.1, hq.2.1, (hq.2.2.sift fun y hy => Or.inr (N y hy)).mono (by decide) (by decide)⟩⟩
theorem main_1_1 : Claimed_1_1 := comes_1 fun _ _ _ _ _ _ h hF => ⟨h.1, hF⟩
theorem main_1_2 : Claimed_1_2 := comes_1 fun _ _ _ _ _ _ h hF => ⟨h.2.1, hF⟩
end Jvm.Pilot.@@N@@
namespace Jvm.Pilot.@@N@@
open Jvm Jvm.ClassFile Sem Op Lib Jvm.Free Jvm.Stand Jvm.Pilot.@@N@@.Jvm.D
/-! MADE BY PROGRAM (witnessworld.py) out of the Statement's table words and the real class files: 9 classes; the members and pool entries that the words name. The judged class is class 1, her method 2. -/
namespace start1
open Jvm.ClassFile
def u (s : String) : CpInfo := .utf8 (stringToUtf16 s)
/-- a pool by its gaps: so many unusable entries, then the entry; so many at the end -/
def gap : Nat → List CpInfo → List CpInfo
  | 0, r => r
  | n + 1, r => .unusable :: gap n r
def poolList (es : List (Nat × CpInfo)) (last : Nat) : List CpInfo := es.foldr (fun e r => gap e.1 (e.2 :: r)) (gap last [])
def pool (es : List (Nat × CpInfo)) (last : Nat) : Array CpInfo := ⟨poolList es last⟩
def fileOf (pool : Array CpInfo) (this : Nat) (attrs : Array Attribute := #[]) (ms : Array MethodInfo := #[]) (fl : Nat := 33) (sup : Nat := 0) (ifs : Array Nat := #[]) (fds : Array FieldInfo := #[]) : ClassFile where
  minorVersion := 0
  majorVersion := 65
  constantPool := pool
  accessFlags := fl
  thisClass := this
  superClass := sup
  interfaces := ifs
  fields := fds
  methods := ms
  attributes := attrs
def plain (name : String) (sup : Option ClassId) : Class where
  name := name
  kind := .ordinary
  loader := none
  accessFlags := 33
  super := sup
  interfaces := #[]
  cf := none
  fields := #[]
  methods := #[]
  instanceTypes := #[]
  staticTypes := #[]
  resolved := #[]
  callSites := []
  init := .initialized
  statics := none
  mirror := none

def pool0 : Array CpInfo := pool [(5, u "<init>"), (0, u "()V"), (1, .class_ 10), (1, u "java/lang/Object")] 113

def k0m0 : Method := { name := "<init>", desc := "()V", sig := { parameters := [], returnType := none }, accessFlags := 1, code := none }
/-- java/lang/Object -/
def k0 : Class := { plain "java/lang/Object" none with
  accessFlags := 33
  interfaces := #[]
  cf := some (fileOf pool0 8 #[] #[{ accessFlags := 1, nameIndex := 5, descriptorIndex := 6, attributes := #[] }] 33 0 #[] #[])
  fields := #[]
  methods := #[k0m0]
  instanceTypes := #[]
  staticTypes := #[]
  resolved := Array.replicate 124 none
  statics := none }

def pool1 : Array CpInfo := pool [(2, .class_ 4), (1, u "java/lang/Object"), (0, u "<init>"), (0, u "()V"), (0, .long 1000), (1, .long 3), (1, .long 3000), (1, .long 4000), (1, .long 2), (1, .methodref 18 19), (0, .class_ 20), (0, .nameAndType 21 22), (0, u "com/example/secant/secant/message/ResultCode"), (0, u "isProtocolError"), (0, u "(J)Z"), (0, .methodref 24 25), (0, .class_ 26), (0, .nameAndType 27 22), (0, u "com/example/secant/secant/message/ResultCodeIsProtocolErrorPinLaw"), (0, u "inClass3"), (0, .long 3001), (1, .long 3008), (1, .long 2001), (1, .long 4002), (1, .long 5001), (4, u "law"), (0, u "(JI)Z")] 2

def k1m0 : Method := { name := "<init>", desc := "()V", sig := { parameters := [], returnType := none }, accessFlags := 2, code := none }
def k1c1 : Code := { maxStack := 4, maxLocals := 2, code := method_2_code, exceptionTable := #[], attributes := #[] }
def k1m1 : Method := { name := "inClass3", desc := "(J)Z", sig := { parameters := [.long], returnType := some .boolean }, accessFlags := 10, code := some k1c1 }
def k1c2 : Code := { maxStack := 4, maxLocals := 10, code := code, exceptionTable := #[], attributes := #[] }
def k1m2 : Method := { name := "law", desc := "(JI)Z", sig := { parameters := [.long, .int], returnType := some .boolean }, accessFlags := 9, code := some k1c2 }
/-- com/example/secant/secant/message/ResultCodeIsProtocolErrorPinLaw -/
def k1 : Class := { plain "com/example/secant/secant/message/ResultCodeIsProtocolErrorPinLaw" (some 0) with
  accessFlags := 49
  interfaces := #[]
  cf := some (fileOf pool1 24 #[] #[{ accessFlags := 2, nameIndex := 5, descriptorIndex := 6, attributes := #[] }, { accessFlags := 10, nameIndex := 27, descriptorIndex := 22, attributes := #[] }, { accessFlags := 9, nameIndex := 41, descriptorIndex := 42, attributes := #[] }] 49 2 #[] #[])
  fields := #[]
  methods := #[k1m0, k1m1, k1m2]
  instanceTypes := #[]
  staticTypes := #[]
  resolved := Array.replicate 45 none
  statics := none }

def pool2 : Array CpInfo := pool [(2, .class_ 4), (1, u "java/lang/Object"), (0, u "<init>"), (0, u "()V"), (0, .long 3000), (1, .long 4000), (1, .class_ 12), (0, u "com/example/secant/secant/message/ResultCode"), (0, u "SUCCESS"), (0, u "J"), (3, u "COMMAND_UNSUPPORTED"), (2, u "UNABLE_TO_DELIVER"), (2, u "LOOP_DETECTED"), (2, u "APPLICATION_UNSUPPORTED"), (2, u "INVALID_HDR_BITS"), (2, u "OUT_OF_SPACE"), (2, u "AVP_UNSUPPORTED"), (2, u "INVALID_AVP_VALUE"), (2, u "MISSING_AVP"), (2, u "AVP_NOT_ALLOWED"), (2, u "AVP_OCCURS_TOO_MANY_TIMES"), (2, u "NO_COMMON_APPLICATION"), (2, u "UNSUPPORTED_VERSION"), (2, u "INVALID_AVP_LENGTH"), (2, u "INVALID_MESSAGE_LENGTH"), (4, u "isProtocolError"), (0, u "(J)Z")] 3

def k2m0 : Method := { name := "<init>", desc := "()V", sig := { parameters := [], returnType := none }, accessFlags := 2, code := none }
def k2c1 : Code := { maxStack := 4, maxLocals := 2, code := prog_32_method_2_code, exceptionTable := #[], attributes := #[] }
def k2m1 : Method := { name := "isProtocolError", desc := "(J)Z", sig := { parameters := [.long], returnType := some .boolean }, accessFlags := 9, code := some k2c1 }
/-- com/example/secant/secant/message/ResultCode -/
def k2 : Class := { plain "com/example/secant/secant/message/ResultCode" (some 0) with
  accessFlags := 49
  interfaces := #[]
  cf := some (fileOf pool2 11 #[] #[{ accessFlags := 2, nameIndex := 5, descriptorIndex := 6, attributes := #[] }, { accessFlags := 9, nameIndex := 65, descriptorIndex := 66, attributes := #[] }] 49 2 #[] #[{ accessFlags := 25, nameIndex := 13, descriptorIndex := 14, attributes := #[] }, { accessFlags := 25, nameIndex := 18, descriptorIndex := 14, attributes := #[] }, { accessFlags := 25, nameIndex := 21, descriptorIndex := 14, attributes := #[] }, { accessFlags := 25, nameIndex := 24, descriptorIndex := 14, attributes := #[] }, { accessFlags := 25, nameIndex := 27, descriptorIndex := 14, attributes := #[] }, { accessFlags := 25, nameIndex := 30, descriptorIndex := 14, attributes := #[] }, { accessFlags := 25, nameIndex := 33, descriptorIndex := 14, attributes := #[] }, { accessFlags := 25, nameIndex := 36, descriptorIndex := 14, attributes := #[] }, { accessFlags := 25, nameIndex := 39, descriptorIndex := 14, attributes := #[] }, { accessFlags := 25, nameIndex := 42, descriptorIndex := 14, attributes := #[] }, { accessFlags := 25, nameIndex := 45, descriptorIndex := 14, attributes := #[] }, { accessFlags := 25, nameIndex := 48, descriptorIndex := 14, attributes := #[] }, { accessFlags := 25, nameIndex := 51, descriptorIndex := 14, attributes := #[] }, { accessFlags := 25, nameIndex := 54, descriptorIndex := 14, attributes := #[] }, { accessFlags := 25, nameIndex := 57, descriptorIndex := 14, attributes := #[] }, { accessFlags := 25, nameIndex := 60, descriptorIndex := 14, attributes := #[] }])
  fields := #[{ name := "SUCCESS", type := .long, accessFlags := 25, slot := 0, constantValue := 0 }, { name := "COMMAND_UNSUPPORTED", type := .long, accessFlags := 25, slot := 1, constantValue := 0 }, { name := "UNABLE_TO_DELIVER", type := .long, accessFlags := 25, slot := 2, constantValue := 0 }, { name := "LOOP_DETECTED", type := .long, accessFlags := 25, slot := 3, constantValue := 0 }, { name := "APPLICATION_UNSUPPORTED", type := .long, accessFlags := 25, slot := 4, constantValue := 0 }, { name := "INVALID_HDR_BITS", type := .long, accessFlags := 25, slot := 5, constantValue := 0 }, { name := "OUT_OF_SPACE", type := .long, accessFlags := 25, slot := 6, constantValue := 0 }, { name := "AVP_UNSUPPORTED", type := .long, accessFlags := 25, slot := 7, constantValue := 0 }, { name := "INVALID_AVP_VALUE", type := .long, accessFlags := 25, slot := 8, constantValue := 0 }, { name := "MISSING_AVP", type := .long, accessFlags := 25, slot := 9, constantValue := 0 }, { name := "AVP_NOT_ALLOWED", type := .long, accessFlags := 25, slot := 10, constantValue := 0 }, { name := "AVP_OCCURS_TOO_MANY_TIMES", type := .long, accessFlags := 25, slot := 11, constantValue := 0 }, { name := "NO_COMMON_APPLICATION", type := .long, accessFlags := 25, slot := 12, constantValue := 0 }, { name := "UNSUPPORTED_VERSION", type := .long, accessFlags := 25, slot := 13, constantValue := 0 }, { name := "INVALID_AVP_LENGTH", type := .long, accessFlags := 25, slot := 14, constantValue := 0 }, { name := "INVALID_MESSAGE_LENGTH", type := .long, accessFlags := 25, slot := 15, constantValue := 0 }]
  methods := #[k2m0, k2m1]
  instanceTypes := #[]
  staticTypes := #[.long, .long, .long, .long, .long, .long, .long, .long, .long, .long, .long, .long, .long, .long, .long, .long]
  resolved := Array.replicate 70 none
  statics := none }

def pool3 : Array CpInfo := pool [(1, u "java/lang/Cloneable"), (0, .class_ 1), (0, u "java/lang/Object"), (0, .class_ 3)] 3

/-- java/lang/Cloneable -/
def k3 : Class := { plain "java/lang/Cloneable" (some 0) with
  accessFlags := 1537
  interfaces := #[]
  cf := some (fileOf pool3 2 #[] #[] 1537 4 #[] #[])
  fields := #[]
  methods := #[]
  instanceTypes := #[]
  staticTypes := #[]
  resolved := Array.replicate 8 none
  statics := none }

def pool4 : Array CpInfo := pool [(1, u "java/io/Serializable"), (0, .class_ 1), (0, u "java/lang/Object"), (0, .class_ 3)] 3

/-- java/io/Serializable -/
def k4 : Class := { plain "java/io/Serializable" (some 0) with
  accessFlags := 1537
  interfaces := #[]
  cf := some (fileOf pool4 2 #[] #[] 1537 4 #[] #[])
  fields := #[]
  methods := #[]
  instanceTypes := #[]
  staticTypes := #[]
  resolved := Array.replicate 8 none
  statics := none }

/-- the primitive byte -/
def k5 : Class := { plain "byte" none with kind := .primitive 'B', accessFlags := 0x411 }
/-- [B -/
def k6 : Class := { plain "[B" (some 0) with kind := .array 5 .byte, interfaces := #[3, 4], accessFlags := 1041 }

/-- the primitive int -/
def k7 : Class := { plain "int" none with kind := .primitive 'I', accessFlags := 0x411 }
/-- [I -/
def k8 : Class := { plain "[I" (some 0) with kind := .array 7 .int, interfaces := #[3, 4], accessFlags := 1041 }

def heap : Heap := #[]
def classes : Array Class := #[k0, k1, k2, k3, k4, k5, k6, k7, k8]
def interned : List (Array UInt16 × Addr) := []
def slotsUsed : Nat := 0
def theMethod : MethodId := ⟨1, 2⟩
def args0 : Array Value := #[.long 5, .int 7]
def aboutOver (below : List Frame) : State where
  vm := { classes := classes, interned := interned.toArray }
  heap := heap
  slotsUsed := slotsUsed
  threads := #[{ frames := .invoking theMethod args0 :: below }]
def below0 : List Frame := [.native { method := ⟨0, 0⟩, args := #[] }]
def about1 : State := aboutOver below0
def p0 : Program := .bare "" "" ""
def e0 : Env := launch0.env 0 0 0
theorem w_frames : about1.frames = Frame.invoking theMethod args0 :: below0 := rfl
set_option maxRecDepth 65536 in
theorem w_args : argsFit about1.vm theMethod args0 = true := by decide +kernel
set_option maxRecDepth 65536 in
theorem w_heap : heapFits about1 = true := by decide +kernel
set_option maxRecDepth 65536 in
theorem w_runnable : about1.curStatus? = some .runnable := by decide +kernel
set_option maxRecDepth 65536 in
theorem w_alone : about1.alone = true := by decide +kernel
set_option maxRecDepth 65536 in
theorem w_named : about1.methodNamed? x = some theMethod := by decide +kernel
set_option maxRecDepth 65536 in
theorem w_hears : about1.hears theMethod below0 = true := by decide +kernel
set_option maxRecDepth 65536 in
theorem w_ripe : about1.ripe theMethod args0 below0 = true := by decide +kernel
theorem w_running : about1.status = .running := rfl
set_option maxRecDepth 65536 in
theorem w_room : about1.hasRoom e0.platform room_1 = true :=
  launch0.hasRoom_least _ room_1 (by decide +kernel) (by decide +kernel) (by decide +kernel) (by decide +kernel) (by decide +kernel) (by decide +kernel)
theorem allAtoms_all (ts : List Jvm.Cond) (a : Array Jvm.Value) (st : Jvm.State) : (allAtoms ts).before a st = ts.all (fun c => c.before a st) := by
  induction ts with
  | nil => rfl
  | cons c t ih =>
    show (Jvm.Cond.and c (allAtoms t)).before a st = _
    rw [Jvm.Cond.before_and, ih, List.all_cons]
def words1 : List Jvm.Cond := Jvm.Cond.code x code maxLocals ret :: tables_1
/-- a 'code' word, met by the world's own term for the bytes: nothing is compared byte by byte -/
theorem code_word {y : MethodName} {bytes : ByteArray} {mx : Nat} {rt : Option FieldType} {a : Array Value} {s : State} {m : MethodId} {meth : Method} {c : Code} (h1 : s.methodNamed? y = some m) (h2 : s.vm.method? m = some meth) (h3 : meth.code = some c) (h4 : c.code = bytes)
    (h5 : (c.maxLocals == mx && c.exceptionTable.isEmpty && decide (c.maxStack ≤ mostOperands) && decide (meth.sig.returnType = rt) && !meth.locks && decide (parseMethodDescriptor y.desc = some meth.sig)) = true) : (Jvm.Cond.code y bytes mx rt).before a s = true := by
  simp only [Bool.and_eq_true, beq_iff_eq, Bool.not_eq_true', decide_eq_true_eq] at h5
  obtain ⟨⟨⟨⟨⟨g1, g2⟩, g3⟩, g4⟩, g5⟩, g6⟩ := h5
  simp [Cond.before, Cond.holds, Cond.value, h1, h2, h3, h4, g1, g2, g3, g4, g5, g6]
def isCode : Jvm.Cond → Bool
  | .code _ _ _ _ => true
  | _ => false
theorem all_split {L : List Jvm.Cond} {P : Jvm.Cond → Bool} (h1 : L.all (fun c => isCode c || P c) = true) (h2 : ∀ c ∈ L.filter isCode, P c = true) : L.all P = true := by
  refine List.all_eq_true.mpr fun c hc => ?_
  have h := List.all_eq_true.mp h1 c hc
  rcases Bool.eq_false_or_eq_true (isCode c) with hi | hi
  · exact h2 c (List.mem_filter.mpr ⟨hc, hi⟩)
  · simpa [hi] using h
set_option maxRecDepth 65536 in
theorem w_c0 : (Jvm.Cond.code x code maxLocals ret).before args0 about1 = true := code_word (m := ⟨1, 2⟩) (meth := k1m2) (c := k1c2) (by decide +kernel) rfl rfl rfl (by decide +kernel)
set_option maxRecDepth 65536 in
theorem w_c1 : (Jvm.Cond.code ({ cls := "com/example/secant/secant/message/ResultCode", name := "isProtocolError", desc := "(J)Z" } : Jvm.MethodName) prog_32_method_2_code (2 : Nat) (Option.some Jvm.ClassFile.FieldType.boolean)).before args0 about1 = true := code_word (m := ⟨2, 1⟩) (meth := k2m1) (c := k2c1) (by decide +kernel) rfl rfl rfl (by decide +kernel)
set_option maxRecDepth 65536 in
theorem w_c2 : (Jvm.Cond.code ({ cls := "com/example/secant/secant/message/ResultCodeIsProtocolErrorPinLaw", name := "inClass3", desc := "(J)Z" } : Jvm.MethodName) method_2_code (2 : Nat) (Option.some Jvm.ClassFile.FieldType.boolean)).before args0 about1 = true := code_word (m := ⟨1, 1⟩) (meth := k1m1) (c := k1c1) (by decide +kernel) rfl rfl rfl (by decide +kernel)
def codes1 : List Jvm.Cond := [Jvm.Cond.code x code maxLocals ret, Jvm.Cond.code ({ cls := "com/example/secant/secant/message/ResultCode", name := "isProtocolError", desc := "(J)Z" } : Jvm.MethodName) prog_32_method_2_code (2 : Nat) (Option.some Jvm.ClassFile.FieldType.boolean), Jvm.Cond.code ({ cls := "com/example/secant/secant/message/ResultCodeIsProtocolErrorPinLaw", name := "inClass3", desc := "(J)Z" } : Jvm.MethodName) method_2_code (2 : Nat) (Option.some Jvm.ClassFile.FieldType.boolean)]
set_option maxRecDepth 65536 in
theorem codes_eq : words1.filter isCode = codes1 := rfl
theorem w_codes : ∀ c ∈ words1.filter isCode, c.before args0 about1 = true := by
  rw [codes_eq]
  intro c hc
  simp only [codes1, List.mem_cons, List.not_mem_nil, or_false] at hc
  rcases hc with rfl | rfl | rfl
  · exact w_c0
  · exact w_c1
  · exact w_c2
set_option maxRecDepth 65536 in
theorem w_t1 : words1.all (fun c => isCode c || c.before args0 about1) = true := by decide +kernel
theorem w_tables : (allAtoms (Jvm.Cond.code x code maxLocals ret :: tables_1)).before args0 about1 = true := by
  rw [allAtoms_all]
  show words1.all (fun c => c.before args0 about1) = true
  refine all_split ?_ w_codes
  rw [w_t1]
set_option maxRecDepth 65536 in
theorem w_case : (Jvm.Cond.and given_1 narrow_1).before args0 about1 = true := by decide +kernel
theorem w_applies : (headSpec (Jvm.Cond.code x code maxLocals ret :: tables_1) room_1).applies x e0.platform about1 = true :=
  (Spec.applies_iff w_frames).mpr ⟨w_running, w_runnable, w_alone, w_named, w_hears, w_ripe, w_room, w_tables⟩
theorem atStart : AtStart classFile x code maxLocals ret World_1 tables_1 room_1 Calls_1 rest_1 Pre_1 launch0 p0 e0 about1 theMethod args0 below0 :=
  ⟨lists_1, trivial, launch0.admits_env _ _ _, launch0.least_env, fairChoices_fair.cas, fairChoices_fair.clock, w_frames, w_args, w_heap, w_applies, trivial, trivial, w_case⟩
end start1
theorem witness_1 : WitnessClaimed_1 := ⟨start1.p0, start1.e0, start1.about1, start1.theMethod, start1.args0, start1.below0, start1.atStart⟩
end Jvm.Pilot.@@N@@
