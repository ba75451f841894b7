import JvmDerived
import JvmDerived.Pilot.@@N@@Statement
import JvmDerived.Pilot.@@N@@Code
set_option linter.unusedVariables false
set_option linter.unusedSimpArgs false
namespace Jvm.RoadKit
open Sem ClassFile Op Lib Jvm.Stand Jvm.Free Jvm.LawKit
section New
variable {p : Program} {l : Launch} {e : Env} {R : Room} {s : State} {m : MethodId} {args : Array Value} {below : List Frame} {meth : Method} {c : Code} {T : State} {locs : List Loc} {cells slots : Nat}
theorem retI (X : Stand p l e R s m args below meth c T locs cells slots) (hx : p.tables.exec = Jvm.exec) {pc : Nat} {Ls : Array Slot} {z : Int32} {rest : List Value} (hret : meth.sig.returnType = some .int) (hd : decode c.code pc = .ok (.ireturn, 1)) {fs : List Frame}
    (hl : ∀ (f : JFrame) (acts : List Action), f.method = m → f.locked = none → f.entered = [] → (doReturn e (T.setTop f) acts (some (.int z))).1 = T.setFrames fs) : Steps p.tables e below (T.setTop (mkF m pc Ls (.int z :: rest))) (T.setFrames fs) := by
  have hm' : T.vm.method? m = some meth := X.method'
  have hn : narrow .int (.int z) = .int z := rfl
  show Steps p.tables e below (T.setTop { method := m, pc := pc, locals := Ls, stack := _ :: rest, locked := none }) _
  jvm_step X.here [X.here.top, hx, hd, hm', hret, hn]
  first | (intro acts; rw [hl _ acts rfl rfl rfl]) | rw [hl _ _ rfl rfl rfl]
  exact Steps.refl _
end New
end Jvm.RoadKit
namespace Jvm.Pilot.@@N@@
open Jvm Jvm.ClassFile Sem Op Lib Jvm.Free Jvm.Stand Jvm.LawKit Jvm.RoadKit Bundle Jvm.Pilot.@@N@@.Jvm.D
/-- what a walk owes from the state S on -/
def own_G (p : Program) (e : Env) (below : List Frame) (R : State → Outcome → Prop) (S : State) : Prop := ∃ t o, Steps p.tables e below S t ∧ R t o
theorem own_back {p : Program} {e : Env} {below : List Frame} {R : State → Outcome → Prop} {S S' : State} (k : ∀ t, Steps p.tables e below S' t → Steps p.tables e below S t) (h : own_G p e below R S') : own_G p e below R S := by
  obtain ⟨t, o, h1, h2⟩ := h
  exact ⟨t, o, k t h1, h2⟩
theorem own_open {p : Program} {e : Env} {below : List Frame} {R : State → Outcome → Prop} {S S' : State} (k : ∀ t, Steps p.tables e below S' t → Steps p.tables e below S t) (h : own_G p e below R S') : ∃ t o, Steps p.tables e below S t ∧ R t o := own_back k h
theorem own_done {p : Program} {e : Env} {below : List Frame} {R : State → Outcome → Prop} {S : State} (h : ∃ t o, Steps p.tables e below S t ∧ R t o) : own_G p e below R S := h
def own_F (q : Int64) : Int64 := (((122192928000000000 : Int64) + (q * (10000 : Int64))) + (10000 : Int64)) - (1 : Int64)
def own_a (x : Int64) : Int64 := (-12219292800000 : Int64) + (x &&& (70368744177663 : Int64))
theorem own_F_int (q : Int64) : ((own_F q).toInt - (122192928000009999 + 10000 * q.toInt)) % 18446744073709551616 = 0 := by
  have e1 : (122192928000000000 : Int64).toInt = 122192928000000000 := by decide +kernel
  have e2 : (10000 : Int64).toInt = 10000 := by decide +kernel
  have e3 : (1 : Int64).toInt = 1 := by decide +kernel
  have h1 := c_lmul q (10000 : Int64)
  have h2 := c_ladd (122192928000000000 : Int64) (q * (10000 : Int64))
  have h3 := c_ladd ((122192928000000000 : Int64) + (q * (10000 : Int64))) (10000 : Int64)
  have h4 := c_lsub (((122192928000000000 : Int64) + (q * (10000 : Int64))) + (10000 : Int64)) (1 : Int64)
  rw [e2] at h1 h3
  rw [e1] at h2
  rw [e3] at h4
  show (((((122192928000000000 : Int64) + (q * (10000 : Int64))) + (10000 : Int64)) - (1 : Int64)).toInt - _) % _ = 0
  omega
theorem own_a_int (x : Int64) : (own_F (own_a x)).toInt = 10000 * (x.toInt % 70368744177664) + 9999 := by
  have e1 : (-12219292800000 : Int64).toInt = -12219292800000 := by decide +kernel
  have h1 := c_maskL x (70368744177663 : Int64) 46 (by decide) (by decide +kernel)
  have h2 := c_ladd (-12219292800000 : Int64) (x &&& (70368744177663 : Int64))
  have h3 := own_F_int (own_a x)
  have h4 := rng64 (own_F (own_a x))
  have h5 : (own_a x).toInt = ((-12219292800000 : Int64) + (x &&& (70368744177663 : Int64))).toInt := rfl
  have h6 := rng64 (own_a x)
  rw [e1, h1, ← h5] at h2
  have e2 : ((2 ^ 46 : Nat) : Int) = 70368744177664 := by decide
  rw [e2] at h2
  omega
theorem own_steps (a b : Int64) : own_F a - own_F b = (a - b) * (10000 : Int64) := by
  have e2 : (10000 : Int64).toInt = 10000 := by decide +kernel
  have h1 := own_F_int a
  have h2 := own_F_int b
  have h3 := c_lsub (own_F a) (own_F b)
  have h4 := c_lsub a b
  have h5 := c_lmul (a - b) (10000 : Int64)
  rw [e2] at h5
  have h6 := rng64 (own_F a - own_F b)
  have h7 := rng64 ((a - b) * (10000 : Int64))
  apply Int64.toInt_inj.mp
  omega
theorem own_low (x : Int64) : ¬ (own_F (own_a x) < (0 : Int64)) := by
  have e0 : (0 : Int64).toInt = 0 := by decide +kernel
  have := own_a_int x
  rw [Int64.lt_iff_toInt_lt, e0]
  omega
theorem own_high (x : Int64) : ¬ ((1152921504606846975 : Int64) < own_F (own_a x)) := by
  have e0 : (1152921504606846975 : Int64).toInt = 1152921504606846975 := by decide +kernel
  have := own_a_int x
  rw [Int64.lt_iff_toInt_lt, e0]
  omega
theorem own_first : own_F (-12219292800000 : Int64) = (9999 : Int64) := by decide +kernel
theorem own_zero : own_F (0 : Int64) = (122192928000009999 : Int64) := by decide +kernel
theorem d1_0 : decode prog_16_method_3_code 0 = .ok (.ldc2_w 19, 3) := by decide +kernel
theorem d1_3 : decode prog_16_method_3_code 3 = .ok (.lload_n 0, 1) := by decide +kernel
theorem d1_4 : decode prog_16_method_3_code 4 = .ok (.ldc2_w 21, 3) := by decide +kernel
theorem d1_7 : decode prog_16_method_3_code 7 = .ok (.lmul, 1) := by decide +kernel
theorem d1_8 : decode prog_16_method_3_code 8 = .ok (.ladd, 1) := by decide +kernel
theorem d1_9 : decode prog_16_method_3_code 9 = .ok (.ldc2_w 21, 3) := by decide +kernel
theorem d1_12 : decode prog_16_method_3_code 12 = .ok (.ladd, 1) := by decide +kernel
theorem d1_13 : decode prog_16_method_3_code 13 = .ok (.lconst 1, 1) := by decide +kernel
theorem d1_14 : decode prog_16_method_3_code 14 = .ok (.lsub, 1) := by decide +kernel
theorem d1_15 : decode prog_16_method_3_code 15 = .ok (.lreturn, 1) := by decide +kernel
theorem pn_com_example_hexdash_hexdash_generator_GregorianFields : plainName "com/example/hexdash/hexdash/generator/GregorianFields" = true := by first | (simp [plainName, overriddenIn]; done) | decide +kernel
theorem ef_1 (m : MethodId) (x0 : Int64) : entryFrame m #[(.long x0)] 2 = mkF m 0 #[.val (.long x0), .second] [] := by first | (simp [entryFrame, mkF, argsToLocals, Value.category]; done) | rfl
def Q1 (Z : State) (q1 : Int64) (h0 : Heap) (n0 : Nat) (v : Option Value) (h : Heap) (L : List Loc) : Prop := v = some (.long (own_F q1)) ∧ Fr n0 L ∧ h = h0
set_option maxRecDepth 65536 in
set_option maxHeartbeats 40000000 in
theorem rm1 (l : Launch) (Z : State) (a0 : Array Value) (hw : ∀ d ∈ tables_1, d.before a0 Z = true) (ws : List Jvm.Cond) (q1 : Int64) (h0 : Heap) (n0 : Nat) (Z0 : n0 ≤ h0.size) :
    MetFree l (⟨"com/example/hexdash/hexdash/generator/GregorianFields", "lastOfMilli", "(J)J"⟩ : MethodName) (head1 (Jvm.Cond.code (⟨"com/example/hexdash/hexdash/generator/GregorianFields", "lastOfMilli", "(J)J"⟩ : MethodName) prog_16_method_3_code 2 (some .long) :: ws) ({ frames := 0, cells := 0, slots := 0, locals := 0 } : Room)) (fun a U => a = #[(.long q1)] ∧ Z.Warmed39 U.vm ∧ U.heap = h0) (fun _ _ _ _ _ => True) (fun _ U o U' => ∃ v L, o = .returned v ∧ Q1 Z q1 h0 n0 v U'.heap L ∧ FrameEnd U o U' L ({ frames := 0, cells := 0, slots := 0, locals := 0 } : Room).cells ({ frames := 0, cells := 0, slots := 0, locals := 0 } : Room).slots) := by
  refine MetFree.of_bodySF (plainFor_of_name pn_com_example_hexdash_hexdash_generator_GregorianFields) hisR ?_
  intro p e s m args below meth c s₁ Bd hml0 hP hK
  obtain ⟨rfl, hZ, hh⟩ := hP
  have hx := Bd.exec
  have hby := Bd.bytes
  have hml : c.maxLocals = 2 := hml0
  have hown : s.vm.findClass "com/example/hexdash/hexdash/generator/GregorianFields" = some m.cls := findClass_of_methodNamed Bd.named
  have hnm := (name_of_methodNamed Bd.named Bd.method).1
  have X0 : Stand p l e ({ frames := 0, cells := 0, slots := 0, locals := 0 } : Room) s m #[(.long q1)] below meth c s₁ [] 0 0 := Stand.of_body Bd
  have e0 : s₁.heap = h0 := by rw [← hh, Bd.state]; rfl
  have N0 := Fr.nil n0
  refine own_open (S' := s₁.setTop (mkF m 0 #[.val (.long q1), .second] [])) (fun t k => castTop (ef_1 m q1) k) ?_
  refine own_back (S' := s₁.setTop (mkF m 3 #[.val (.long q1), .second] [(.long (122192928000000000 : Int64))])) (fun _ k => X0.ldc2Long hx hown (mvT hZ (hw _ (List.mem_of_getElem? (i := 6) rfl))) (g := (mkF m 0 #[.val (.long q1), .second] [])) rfl (hb hby d1_0) _ k) ?_
  refine own_back (S' := s₁.setTop (mkF m 4 #[.val (.long q1), .second] [(.long q1), (.long (122192928000000000 : Int64))])) (fun _ k => XS.lloadN X0.here hx rfl (hb hby d1_3) rfl k) ?_
  refine own_back (S' := s₁.setTop (mkF m 7 #[.val (.long q1), .second] [(.long (10000 : Int64)), (.long q1), (.long (122192928000000000 : Int64))])) (fun _ k => X0.ldc2Long hx hown (mvT hZ (hw _ (List.mem_of_getElem? (i := 7) rfl))) (g := (mkF m 4 #[.val (.long q1), .second] [(.long q1), (.long (122192928000000000 : Int64))])) rfl (hb hby d1_4) _ k) ?_
  refine own_back (S' := s₁.setTop (mkF m 8 #[.val (.long q1), .second] [(.long (q1 * (10000 : Int64))), (.long (122192928000000000 : Int64))])) (fun _ k => XS.lmul X0.here hx rfl (hb hby d1_7) rfl k) ?_
  refine own_back (S' := s₁.setTop (mkF m 9 #[.val (.long q1), .second] [(.long ((122192928000000000 : Int64) + (q1 * (10000 : Int64))))])) (fun _ k => XS.ladd X0.here hx rfl (hb hby d1_8) rfl k) ?_
  refine own_back (S' := s₁.setTop (mkF m 12 #[.val (.long q1), .second] [(.long (10000 : Int64)), (.long ((122192928000000000 : Int64) + (q1 * (10000 : Int64))))])) (fun _ k => X0.ldc2Long hx hown (mvT hZ (hw _ (List.mem_of_getElem? (i := 7) rfl))) (g := (mkF m 9 #[.val (.long q1), .second] [(.long ((122192928000000000 : Int64) + (q1 * (10000 : Int64))))])) rfl (hb hby d1_9) _ k) ?_
  refine own_back (S' := s₁.setTop (mkF m 13 #[.val (.long q1), .second] [(.long (((122192928000000000 : Int64) + (q1 * (10000 : Int64))) + (10000 : Int64)))])) (fun _ k => XS.ladd X0.here hx rfl (hb hby d1_12) rfl k) ?_
  refine own_back (S' := s₁.setTop (mkF m 14 #[.val (.long q1), .second] [(.long (1 : Int64)), (.long (((122192928000000000 : Int64) + (q1 * (10000 : Int64))) + (10000 : Int64)))])) (fun _ k => XS.lconst X0.here hx rfl (hb hby d1_13)  k) ?_
  refine own_back (S' := s₁.setTop (mkF m 15 #[.val (.long q1), .second] [(.long ((((122192928000000000 : Int64) + (q1 * (10000 : Int64))) + (10000 : Int64)) - (1 : Int64)))])) (fun _ k => XS.lsub X0.here hx rfl (hb hby d1_14) rfl k) ?_
  obtain ⟨fs, hr, hrun, hended, hW, hsame⟩ := X0.leave (v := some (.long ((((122192928000000000 : Int64) + (q1 * (10000 : Int64))) + (10000 : Int64)) - (1 : Int64)))) (fun h => by rw [Bd.returns] at h; cases h)
  refine own_done ⟨_, _, retOut X0 hx (t := .long) Bd.returns rfl (Or.inr (Or.inl ⟨rfl, rfl, _, rfl⟩)) (hb hby d1_15) hr, hrun, hended, _, _, rfl, ?_, ⟨_, rfl⟩, hW, hsame.mono (by decide) (by decide)⟩
  show Q1 Z q1 h0 n0 _ s₁.heap _
  rw [e0]
  exact ⟨rfl, N0, rfl⟩
theorem pd_0 : parseMethodDescriptor "(J)J" = some ⟨[.long], some .long⟩ := by decide +kernel
theorem pn_com_example_hexdash_hexdash_generator_GregorianFieldsLastOfMilliPinLaw : plainName "com/example/hexdash/hexdash/generator/GregorianFieldsLastOfMilliPinLaw" = true := by first | (simp [plainName, overriddenIn]; done) | decide +kernel
theorem ef_0 (m : MethodId) (x0 : Int64) (x1 : Int64) : entryFrame m #[(.long x0), (.long x1)] maxLocals = mkF m 0 #[.val (.long x0), .second, .val (.long x1), .second, .unset, .unset, .unset, .unset, .unset, .unset, .unset, .unset, .unset, .unset, .unset, .unset, .unset, .unset, .unset, .unset, .unset, .unset, .unset] [] := by first | (simp [entryFrame, mkF, argsToLocals, Value.category, maxLocals]; done) | rfl
def Q0 (Z : State) (q1 : Int64) (q2 : Int64) (h0 : Heap) (n0 : Nat) (v : Option Value) (h : Heap) (L : List Loc) : Prop := v = some (.int (1 : Int32)) ∧ Fr n0 L
set_option maxRecDepth 65536 in
set_option maxHeartbeats 40000000 in
theorem rm0 (l : Launch) (Z : State) (a0 : Array Value) (hw : ∀ d ∈ tables_1, d.before a0 Z = true) (ws : List Jvm.Cond) (q1 : Int64) (q2 : Int64) (h0 : Heap) (n0 : Nat) (Z0 : n0 ≤ h0.size) :
    MetFree l x (head1 (Jvm.Cond.code x code maxLocals ret :: ws) room_1) (fun a U => a = #[(.long q1), (.long q2)] ∧ Z.Warmed39 U.vm ∧ U.heap = h0) (fun _ _ _ _ _ => True) (fun _ U o U' => ∃ v L, o = .returned v ∧ Q0 Z q1 q2 h0 n0 v U'.heap L ∧ FrameEnd U o U' L room_1.cells room_1.slots) := by
  refine MetFree.of_bodySF (plainFor_of_name pn_com_example_hexdash_hexdash_generator_GregorianFieldsLastOfMilliPinLaw) hisR ?_
  intro p e s m args below meth c s₁ Bd hml0 hP hK
  obtain ⟨rfl, hZ, hh⟩ := hP
  have hx := Bd.exec
  have hby := Bd.bytes
  have hml : c.maxLocals = 23 := hml0
  have hown : s.vm.findClass "com/example/hexdash/hexdash/generator/GregorianFieldsLastOfMilliPinLaw" = some m.cls := findClass_of_methodNamed Bd.named
  have hnm := (name_of_methodNamed Bd.named Bd.method).1
  have X0 : Stand p l e room_1 s m #[(.long q1), (.long q2)] below meth c s₁ [] 0 0 := Stand.of_body Bd
  have e0 : s₁.heap = h0 := by rw [← hh, Bd.state]; rfl
  have N0 := Fr.nil n0
  refine own_open (S' := s₁.setTop (mkF m 0 #[.val (.long q1), .second, .val (.long q2), .second, .unset, .unset, .unset, .unset, .unset, .unset, .unset, .unset, .unset, .unset, .unset, .unset, .unset, .unset, .unset, .unset, .unset, .unset, .unset] [])) (fun t k => castTop (ef_0 m q1 q2) k) ?_
  refine own_back (S' := s₁.setTop (mkF m 3 #[.val (.long q1), .second, .val (.long q2), .second, .unset, .unset, .unset, .unset, .unset, .unset, .unset, .unset, .unset, .unset, .unset, .unset, .unset, .unset, .unset, .unset, .unset, .unset, .unset] [(.long (-12219292800000 : Int64))])) (fun _ k => X0.ldc2Long hx hown (mvT hZ (hw _ (List.mem_of_getElem? (i := 0) rfl))) (g := (mkF m 0 #[.val (.long q1), .second, .val (.long q2), .second, .unset, .unset, .unset, .unset, .unset, .unset, .unset, .unset, .unset, .unset, .unset, .unset, .unset, .unset, .unset, .unset, .unset, .unset, .unset] [])) rfl (hb hby at_0) _ k) ?_
  refine own_back (S' := s₁.setTop (mkF m 5 #[.val (.long q1), .second, .val (.long q2), .second, .val (.long (-12219292800000 : Int64)), .second, .unset, .unset, .unset, .unset, .unset, .unset, .unset, .unset, .unset, .unset, .unset, .unset, .unset, .unset, .unset, .unset, .unset] [])) (fun _ k => XS.lstore X0.here hx rfl (hb hby at_3) rfl (l' := #[.val (.long q1), .second, .val (.long q2), .second, .val (.long (-12219292800000 : Int64)), .second, .unset, .unset, .unset, .unset, .unset, .unset, .unset, .unset, .unset, .unset, .unset, .unset, .unset, .unset, .unset, .unset, .unset]) rfl k) ?_
  refine own_back (S' := s₁.setTop (mkF m 8 #[.val (.long q1), .second, .val (.long q2), .second, .val (.long (-12219292800000 : Int64)), .second, .unset, .unset, .unset, .unset, .unset, .unset, .unset, .unset, .unset, .unset, .unset, .unset, .unset, .unset, .unset, .unset, .unset] [(.long (70368744177663 : Int64))])) (fun _ k => X0.ldc2Long hx hown (mvT hZ (hw _ (List.mem_of_getElem? (i := 1) rfl))) (g := (mkF m 5 #[.val (.long q1), .second, .val (.long q2), .second, .val (.long (-12219292800000 : Int64)), .second, .unset, .unset, .unset, .unset, .unset, .unset, .unset, .unset, .unset, .unset, .unset, .unset, .unset, .unset, .unset, .unset, .unset] [])) rfl (hb hby at_5) _ k) ?_
  refine own_back (S' := s₁.setTop (mkF m 10 #[.val (.long q1), .second, .val (.long q2), .second, .val (.long (-12219292800000 : Int64)), .second, .val (.long (70368744177663 : Int64)), .second, .unset, .unset, .unset, .unset, .unset, .unset, .unset, .unset, .unset, .unset, .unset, .unset, .unset, .unset, .unset] [])) (fun _ k => XS.lstore X0.here hx rfl (hb hby at_8) rfl (l' := #[.val (.long q1), .second, .val (.long q2), .second, .val (.long (-12219292800000 : Int64)), .second, .val (.long (70368744177663 : Int64)), .second, .unset, .unset, .unset, .unset, .unset, .unset, .unset, .unset, .unset, .unset, .unset, .unset, .unset, .unset, .unset]) rfl k) ?_
  refine own_back (S' := s₁.setTop (mkF m 12 #[.val (.long q1), .second, .val (.long q2), .second, .val (.long (-12219292800000 : Int64)), .second, .val (.long (70368744177663 : Int64)), .second, .unset, .unset, .unset, .unset, .unset, .unset, .unset, .unset, .unset, .unset, .unset, .unset, .unset, .unset, .unset] [(.long (-12219292800000 : Int64))])) (fun _ k => XS.lload X0.here hx rfl (hb hby at_10) rfl k) ?_
  refine own_back (S' := s₁.setTop (mkF m 13 #[.val (.long q1), .second, .val (.long q2), .second, .val (.long (-12219292800000 : Int64)), .second, .val (.long (70368744177663 : Int64)), .second, .unset, .unset, .unset, .unset, .unset, .unset, .unset, .unset, .unset, .unset, .unset, .unset, .unset, .unset, .unset] [(.long q1), (.long (-12219292800000 : Int64))])) (fun _ k => XS.lloadN X0.here hx rfl (hb hby at_12) rfl k) ?_
  refine own_back (S' := s₁.setTop (mkF m 15 #[.val (.long q1), .second, .val (.long q2), .second, .val (.long (-12219292800000 : Int64)), .second, .val (.long (70368744177663 : Int64)), .second, .unset, .unset, .unset, .unset, .unset, .unset, .unset, .unset, .unset, .unset, .unset, .unset, .unset, .unset, .unset] [(.long (70368744177663 : Int64)), (.long q1), (.long (-12219292800000 : Int64))])) (fun _ k => XS.lload X0.here hx rfl (hb hby at_13) rfl k) ?_
  refine own_back (S' := s₁.setTop (mkF m 16 #[.val (.long q1), .second, .val (.long q2), .second, .val (.long (-12219292800000 : Int64)), .second, .val (.long (70368744177663 : Int64)), .second, .unset, .unset, .unset, .unset, .unset, .unset, .unset, .unset, .unset, .unset, .unset, .unset, .unset, .unset, .unset] [(.long (q1 &&& (70368744177663 : Int64))), (.long (-12219292800000 : Int64))])) (fun _ k => XS.land X0.here hx rfl (hb hby at_15) rfl k) ?_
  refine own_back (S' := s₁.setTop (mkF m 17 #[.val (.long q1), .second, .val (.long q2), .second, .val (.long (-12219292800000 : Int64)), .second, .val (.long (70368744177663 : Int64)), .second, .unset, .unset, .unset, .unset, .unset, .unset, .unset, .unset, .unset, .unset, .unset, .unset, .unset, .unset, .unset] [(.long (own_a q1))])) (fun _ k => XS.ladd X0.here hx rfl (hb hby at_16) rfl k) ?_
  refine own_back (S' := s₁.setTop (mkF m 19 #[.val (.long q1), .second, .val (.long q2), .second, .val (.long (-12219292800000 : Int64)), .second, .val (.long (70368744177663 : Int64)), .second, .val (.long (own_a q1)), .second, .unset, .unset, .unset, .unset, .unset, .unset, .unset, .unset, .unset, .unset, .unset, .unset, .unset] [])) (fun _ k => XS.lstore X0.here hx rfl (hb hby at_17) rfl (l' := #[.val (.long q1), .second, .val (.long q2), .second, .val (.long (-12219292800000 : Int64)), .second, .val (.long (70368744177663 : Int64)), .second, .val (.long (own_a q1)), .second, .unset, .unset, .unset, .unset, .unset, .unset, .unset, .unset, .unset, .unset, .unset, .unset, .unset]) rfl k) ?_
  refine own_back (S' := s₁.setTop (mkF m 21 #[.val (.long q1), .second, .val (.long q2), .second, .val (.long (-12219292800000 : Int64)), .second, .val (.long (70368744177663 : Int64)), .second, .val (.long (own_a q1)), .second, .unset, .unset, .unset, .unset, .unset, .unset, .unset, .unset, .unset, .unset, .unset, .unset, .unset] [(.long (-12219292800000 : Int64))])) (fun _ k => XS.lload X0.here hx rfl (hb hby at_19) rfl k) ?_
  refine own_back (S' := s₁.setTop (mkF m 22 #[.val (.long q1), .second, .val (.long q2), .second, .val (.long (-12219292800000 : Int64)), .second, .val (.long (70368744177663 : Int64)), .second, .val (.long (own_a q1)), .second, .unset, .unset, .unset, .unset, .unset, .unset, .unset, .unset, .unset, .unset, .unset, .unset, .unset] [(.long q2), (.long (-12219292800000 : Int64))])) (fun _ k => XS.lloadN X0.here hx rfl (hb hby at_21) rfl k) ?_
  refine own_back (S' := s₁.setTop (mkF m 24 #[.val (.long q1), .second, .val (.long q2), .second, .val (.long (-12219292800000 : Int64)), .second, .val (.long (70368744177663 : Int64)), .second, .val (.long (own_a q1)), .second, .unset, .unset, .unset, .unset, .unset, .unset, .unset, .unset, .unset, .unset, .unset, .unset, .unset] [(.long (70368744177663 : Int64)), (.long q2), (.long (-12219292800000 : Int64))])) (fun _ k => XS.lload X0.here hx rfl (hb hby at_22) rfl k) ?_
  refine own_back (S' := s₁.setTop (mkF m 25 #[.val (.long q1), .second, .val (.long q2), .second, .val (.long (-12219292800000 : Int64)), .second, .val (.long (70368744177663 : Int64)), .second, .val (.long (own_a q1)), .second, .unset, .unset, .unset, .unset, .unset, .unset, .unset, .unset, .unset, .unset, .unset, .unset, .unset] [(.long (q2 &&& (70368744177663 : Int64))), (.long (-12219292800000 : Int64))])) (fun _ k => XS.land X0.here hx rfl (hb hby at_24) rfl k) ?_
  refine own_back (S' := s₁.setTop (mkF m 26 #[.val (.long q1), .second, .val (.long q2), .second, .val (.long (-12219292800000 : Int64)), .second, .val (.long (70368744177663 : Int64)), .second, .val (.long (own_a q1)), .second, .unset, .unset, .unset, .unset, .unset, .unset, .unset, .unset, .unset, .unset, .unset, .unset, .unset] [(.long (own_a q2))])) (fun _ k => XS.ladd X0.here hx rfl (hb hby at_25) rfl k) ?_
  refine own_back (S' := s₁.setTop (mkF m 28 #[.val (.long q1), .second, .val (.long q2), .second, .val (.long (-12219292800000 : Int64)), .second, .val (.long (70368744177663 : Int64)), .second, .val (.long (own_a q1)), .second, .val (.long (own_a q2)), .second, .unset, .unset, .unset, .unset, .unset, .unset, .unset, .unset, .unset, .unset, .unset] [])) (fun _ k => XS.lstore X0.here hx rfl (hb hby at_26) rfl (l' := #[.val (.long q1), .second, .val (.long q2), .second, .val (.long (-12219292800000 : Int64)), .second, .val (.long (70368744177663 : Int64)), .second, .val (.long (own_a q1)), .second, .val (.long (own_a q2)), .second, .unset, .unset, .unset, .unset, .unset, .unset, .unset, .unset, .unset, .unset, .unset]) rfl k) ?_
  refine own_back (S' := s₁.setTop (mkF m 30 #[.val (.long q1), .second, .val (.long q2), .second, .val (.long (-12219292800000 : Int64)), .second, .val (.long (70368744177663 : Int64)), .second, .val (.long (own_a q1)), .second, .val (.long (own_a q2)), .second, .unset, .unset, .unset, .unset, .unset, .unset, .unset, .unset, .unset, .unset, .unset] [(.long (-12219292800000 : Int64))])) (fun _ k => XS.lload X0.here hx rfl (hb hby at_28) rfl k) ?_
  obtain ⟨_, _, ⟨T1, L1, k1, n1⟩, -, X1, ⟨Lc1, hQ1, l1, y1, z1⟩, st1⟩ := Jvm.LawKit.callS X0 hx (y := (⟨"com/example/hexdash/hexdash/generator/GregorianFields", "lastOfMilli", "(J)J"⟩ : MethodName)) hown (mvT hZ (hw _ (List.mem_of_getElem? (i := 2) rfl))) (mvT hZ (hw _ (List.mem_of_getElem? (i := 3) rfl))) (mvT hZ (hw _ (List.mem_of_getElem? (i := 4) rfl))) (mvT hZ (hw _ (List.mem_of_getElem? (i := 5) rfl))) (by decide) (backOf (W := 0) (rm1 l Z a0 hw [] (-12219292800000 : Int64) h0 n0 Z0 ) hZ (hw _ (List.mem_of_getElem? (i := 5) rfl)) (hw _ (List.mem_of_getElem? (i := 4) rfl)) (by decide) (by decide)) (g := (mkF m 30 #[.val (.long q1), .second, .val (.long q2), .second, .val (.long (-12219292800000 : Int64)), .second, .val (.long (70368744177663 : Int64)), .second, .val (.long (own_a q1)), .second, .val (.long (own_a q2)), .second, .unset, .unset, .unset, .unset, .unset, .unset, .unset, .unset, .unset, .unset, .unset] [(.long (-12219292800000 : Int64))])) rfl (by rw [hml]; rfl) (argsL := [(.long (-12219292800000 : Int64))]) (rest := []) (lenOf pd_0 rfl) rfl (by show 2 * 0 + _ ≤ _; exact Nat.le_of_eq rfl) (hb hby at_30) (fun _ _ => ⟨rfl, e0, (by decide : 0 + 0 ≤ _), (by decide : 0 + 0 ≤ _)⟩)
  dsimp only [Pt.U, Pt.locs, Pt.cells, Pt.slots] at X1 l1 y1 z1 st1 hQ1
  subst l1 y1 z1
  obtain ⟨rfl, N1q, e1⟩ := hQ1
  have N1 := Fr.app N0 N1q
  refine own_back (S' := T1.setTop (mkF m 33 #[.val (.long q1), .second, .val (.long q2), .second, .val (.long (-12219292800000 : Int64)), .second, .val (.long (70368744177663 : Int64)), .second, .val (.long (own_a q1)), .second, .val (.long (own_a q2)), .second, .unset, .unset, .unset, .unset, .unset, .unset, .unset, .unset, .unset, .unset, .unset] [(.long (own_F (-12219292800000 : Int64)))])) (st1) ?_
  refine own_back (S' := T1.setTop (mkF m 35 #[.val (.long q1), .second, .val (.long q2), .second, .val (.long (-12219292800000 : Int64)), .second, .val (.long (70368744177663 : Int64)), .second, .val (.long (own_a q1)), .second, .val (.long (own_a q2)), .second, .val (.long (own_F (-12219292800000 : Int64))), .second, .unset, .unset, .unset, .unset, .unset, .unset, .unset, .unset, .unset] [])) (fun _ k => XS.lstore X1.here hx rfl (hb hby at_33) rfl (l' := #[.val (.long q1), .second, .val (.long q2), .second, .val (.long (-12219292800000 : Int64)), .second, .val (.long (70368744177663 : Int64)), .second, .val (.long (own_a q1)), .second, .val (.long (own_a q2)), .second, .val (.long (own_F (-12219292800000 : Int64))), .second, .unset, .unset, .unset, .unset, .unset, .unset, .unset, .unset, .unset]) rfl k) ?_
  refine own_back (S' := T1.setTop (mkF m 36 #[.val (.long q1), .second, .val (.long q2), .second, .val (.long (-12219292800000 : Int64)), .second, .val (.long (70368744177663 : Int64)), .second, .val (.long (own_a q1)), .second, .val (.long (own_a q2)), .second, .val (.long (own_F (-12219292800000 : Int64))), .second, .unset, .unset, .unset, .unset, .unset, .unset, .unset, .unset, .unset] [(.long (0 : Int64))])) (fun _ k => XS.lconst X1.here hx rfl (hb hby at_35)  k) ?_
  obtain ⟨_, _, ⟨T2, L2, k2, n2⟩, -, X2, ⟨Lc2, hQ2, l2, y2, z2⟩, st2⟩ := Jvm.LawKit.callS X1 hx (y := (⟨"com/example/hexdash/hexdash/generator/GregorianFields", "lastOfMilli", "(J)J"⟩ : MethodName)) hown (mvT hZ (hw _ (List.mem_of_getElem? (i := 2) rfl))) (mvT hZ (hw _ (List.mem_of_getElem? (i := 3) rfl))) (mvT hZ (hw _ (List.mem_of_getElem? (i := 4) rfl))) (mvT hZ (hw _ (List.mem_of_getElem? (i := 5) rfl))) (by decide) (backOf (W := 0) (rm1 l Z a0 hw [] (0 : Int64) h0 n0 Z0 ) hZ (hw _ (List.mem_of_getElem? (i := 5) rfl)) (hw _ (List.mem_of_getElem? (i := 4) rfl)) (by decide) (by decide)) (g := (mkF m 36 #[.val (.long q1), .second, .val (.long q2), .second, .val (.long (-12219292800000 : Int64)), .second, .val (.long (70368744177663 : Int64)), .second, .val (.long (own_a q1)), .second, .val (.long (own_a q2)), .second, .val (.long (own_F (-12219292800000 : Int64))), .second, .unset, .unset, .unset, .unset, .unset, .unset, .unset, .unset, .unset] [(.long (0 : Int64))])) rfl (by rw [hml]; rfl) (argsL := [(.long (0 : Int64))]) (rest := []) (lenOf pd_0 rfl) rfl (by show 2 * 0 + _ ≤ _; exact Nat.le_of_eq rfl) (hb hby at_36) (fun _ _ => ⟨rfl, e1, (by decide : 0 + 0 ≤ _), (by decide : 0 + 0 ≤ _)⟩)
  dsimp only [Pt.U, Pt.locs, Pt.cells, Pt.slots] at X2 l2 y2 z2 st2 hQ2
  subst l2 y2 z2
  obtain ⟨rfl, N2q, e2⟩ := hQ2
  have N2 := Fr.app N1 N2q
  refine own_back (S' := T2.setTop (mkF m 39 #[.val (.long q1), .second, .val (.long q2), .second, .val (.long (-12219292800000 : Int64)), .second, .val (.long (70368744177663 : Int64)), .second, .val (.long (own_a q1)), .second, .val (.long (own_a q2)), .second, .val (.long (own_F (-12219292800000 : Int64))), .second, .unset, .unset, .unset, .unset, .unset, .unset, .unset, .unset, .unset] [(.long (own_F (0 : Int64)))])) (st2) ?_
  refine own_back (S' := T2.setTop (mkF m 41 #[.val (.long q1), .second, .val (.long q2), .second, .val (.long (-12219292800000 : Int64)), .second, .val (.long (70368744177663 : Int64)), .second, .val (.long (own_a q1)), .second, .val (.long (own_a q2)), .second, .val (.long (own_F (-12219292800000 : Int64))), .second, .val (.long (own_F (0 : Int64))), .second, .unset, .unset, .unset, .unset, .unset, .unset, .unset] [])) (fun _ k => XS.lstore X2.here hx rfl (hb hby at_39) rfl (l' := #[.val (.long q1), .second, .val (.long q2), .second, .val (.long (-12219292800000 : Int64)), .second, .val (.long (70368744177663 : Int64)), .second, .val (.long (own_a q1)), .second, .val (.long (own_a q2)), .second, .val (.long (own_F (-12219292800000 : Int64))), .second, .val (.long (own_F (0 : Int64))), .second, .unset, .unset, .unset, .unset, .unset, .unset, .unset]) rfl k) ?_
  refine own_back (S' := T2.setTop (mkF m 43 #[.val (.long q1), .second, .val (.long q2), .second, .val (.long (-12219292800000 : Int64)), .second, .val (.long (70368744177663 : Int64)), .second, .val (.long (own_a q1)), .second, .val (.long (own_a q2)), .second, .val (.long (own_F (-12219292800000 : Int64))), .second, .val (.long (own_F (0 : Int64))), .second, .unset, .unset, .unset, .unset, .unset, .unset, .unset] [(.long (own_a q1))])) (fun _ k => XS.lload X2.here hx rfl (hb hby at_41) rfl k) ?_
  obtain ⟨_, _, ⟨T3, L3, k3, n3⟩, -, X3, ⟨Lc3, hQ3, l3, y3, z3⟩, st3⟩ := Jvm.LawKit.callS X2 hx (y := (⟨"com/example/hexdash/hexdash/generator/GregorianFields", "lastOfMilli", "(J)J"⟩ : MethodName)) hown (mvT hZ (hw _ (List.mem_of_getElem? (i := 2) rfl))) (mvT hZ (hw _ (List.mem_of_getElem? (i := 3) rfl))) (mvT hZ (hw _ (List.mem_of_getElem? (i := 4) rfl))) (mvT hZ (hw _ (List.mem_of_getElem? (i := 5) rfl))) (by decide) (backOf (W := 0) (rm1 l Z a0 hw [] (own_a q1) h0 n0 Z0 ) hZ (hw _ (List.mem_of_getElem? (i := 5) rfl)) (hw _ (List.mem_of_getElem? (i := 4) rfl)) (by decide) (by decide)) (g := (mkF m 43 #[.val (.long q1), .second, .val (.long q2), .second, .val (.long (-12219292800000 : Int64)), .second, .val (.long (70368744177663 : Int64)), .second, .val (.long (own_a q1)), .second, .val (.long (own_a q2)), .second, .val (.long (own_F (-12219292800000 : Int64))), .second, .val (.long (own_F (0 : Int64))), .second, .unset, .unset, .unset, .unset, .unset, .unset, .unset] [(.long (own_a q1))])) rfl (by rw [hml]; rfl) (argsL := [(.long (own_a q1))]) (rest := []) (lenOf pd_0 rfl) rfl (by show 2 * 0 + _ ≤ _; exact Nat.le_of_eq rfl) (hb hby at_43) (fun _ _ => ⟨rfl, e2, (by decide : 0 + 0 ≤ _), (by decide : 0 + 0 ≤ _)⟩)
  dsimp only [Pt.U, Pt.locs, Pt.cells, Pt.slots] at X3 l3 y3 z3 st3 hQ3
  subst l3 y3 z3
  obtain ⟨rfl, N3q, e3⟩ := hQ3
  have N3 := Fr.app N2 N3q
  refine own_back (S' := T3.setTop (mkF m 46 #[.val (.long q1), .second, .val (.long q2), .second, .val (.long (-12219292800000 : Int64)), .second, .val (.long (70368744177663 : Int64)), .second, .val (.long (own_a q1)), .second, .val (.long (own_a q2)), .second, .val (.long (own_F (-12219292800000 : Int64))), .second, .val (.long (own_F (0 : Int64))), .second, .unset, .unset, .unset, .unset, .unset, .unset, .unset] [(.long (own_F (own_a q1)))])) (st3) ?_
  refine own_back (S' := T3.setTop (mkF m 48 #[.val (.long q1), .second, .val (.long q2), .second, .val (.long (-12219292800000 : Int64)), .second, .val (.long (70368744177663 : Int64)), .second, .val (.long (own_a q1)), .second, .val (.long (own_a q2)), .second, .val (.long (own_F (-12219292800000 : Int64))), .second, .val (.long (own_F (0 : Int64))), .second, .val (.long (own_F (own_a q1))), .second, .unset, .unset, .unset, .unset, .unset] [])) (fun _ k => XS.lstore X3.here hx rfl (hb hby at_46) rfl (l' := #[.val (.long q1), .second, .val (.long q2), .second, .val (.long (-12219292800000 : Int64)), .second, .val (.long (70368744177663 : Int64)), .second, .val (.long (own_a q1)), .second, .val (.long (own_a q2)), .second, .val (.long (own_F (-12219292800000 : Int64))), .second, .val (.long (own_F (0 : Int64))), .second, .val (.long (own_F (own_a q1))), .second, .unset, .unset, .unset, .unset, .unset]) rfl k) ?_
  refine own_back (S' := T3.setTop (mkF m 50 #[.val (.long q1), .second, .val (.long q2), .second, .val (.long (-12219292800000 : Int64)), .second, .val (.long (70368744177663 : Int64)), .second, .val (.long (own_a q1)), .second, .val (.long (own_a q2)), .second, .val (.long (own_F (-12219292800000 : Int64))), .second, .val (.long (own_F (0 : Int64))), .second, .val (.long (own_F (own_a q1))), .second, .unset, .unset, .unset, .unset, .unset] [(.long (own_a q2))])) (fun _ k => XS.lload X3.here hx rfl (hb hby at_48) rfl k) ?_
  obtain ⟨_, _, ⟨T4, L4, k4, n4⟩, -, X4, ⟨Lc4, hQ4, l4, y4, z4⟩, st4⟩ := Jvm.LawKit.callS X3 hx (y := (⟨"com/example/hexdash/hexdash/generator/GregorianFields", "lastOfMilli", "(J)J"⟩ : MethodName)) hown (mvT hZ (hw _ (List.mem_of_getElem? (i := 2) rfl))) (mvT hZ (hw _ (List.mem_of_getElem? (i := 3) rfl))) (mvT hZ (hw _ (List.mem_of_getElem? (i := 4) rfl))) (mvT hZ (hw _ (List.mem_of_getElem? (i := 5) rfl))) (by decide) (backOf (W := 0) (rm1 l Z a0 hw [] (own_a q2) h0 n0 Z0 ) hZ (hw _ (List.mem_of_getElem? (i := 5) rfl)) (hw _ (List.mem_of_getElem? (i := 4) rfl)) (by decide) (by decide)) (g := (mkF m 50 #[.val (.long q1), .second, .val (.long q2), .second, .val (.long (-12219292800000 : Int64)), .second, .val (.long (70368744177663 : Int64)), .second, .val (.long (own_a q1)), .second, .val (.long (own_a q2)), .second, .val (.long (own_F (-12219292800000 : Int64))), .second, .val (.long (own_F (0 : Int64))), .second, .val (.long (own_F (own_a q1))), .second, .unset, .unset, .unset, .unset, .unset] [(.long (own_a q2))])) rfl (by rw [hml]; rfl) (argsL := [(.long (own_a q2))]) (rest := []) (lenOf pd_0 rfl) rfl (by show 2 * 0 + _ ≤ _; exact Nat.le_of_eq rfl) (hb hby at_50) (fun _ _ => ⟨rfl, e3, (by decide : 0 + 0 ≤ _), (by decide : 0 + 0 ≤ _)⟩)
  dsimp only [Pt.U, Pt.locs, Pt.cells, Pt.slots] at X4 l4 y4 z4 st4 hQ4
  subst l4 y4 z4
  obtain ⟨rfl, N4q, e4⟩ := hQ4
  have N4 := Fr.app N3 N4q
  refine own_back (S' := T4.setTop (mkF m 53 #[.val (.long q1), .second, .val (.long q2), .second, .val (.long (-12219292800000 : Int64)), .second, .val (.long (70368744177663 : Int64)), .second, .val (.long (own_a q1)), .second, .val (.long (own_a q2)), .second, .val (.long (own_F (-12219292800000 : Int64))), .second, .val (.long (own_F (0 : Int64))), .second, .val (.long (own_F (own_a q1))), .second, .unset, .unset, .unset, .unset, .unset] [(.long (own_F (own_a q2)))])) (st4) ?_
  refine own_back (S' := T4.setTop (mkF m 55 #[.val (.long q1), .second, .val (.long q2), .second, .val (.long (-12219292800000 : Int64)), .second, .val (.long (70368744177663 : Int64)), .second, .val (.long (own_a q1)), .second, .val (.long (own_a q2)), .second, .val (.long (own_F (-12219292800000 : Int64))), .second, .val (.long (own_F (0 : Int64))), .second, .val (.long (own_F (own_a q1))), .second, .val (.long (own_F (own_a q2))), .second, .unset, .unset, .unset] [])) (fun _ k => XS.lstore X4.here hx rfl (hb hby at_53) rfl (l' := #[.val (.long q1), .second, .val (.long q2), .second, .val (.long (-12219292800000 : Int64)), .second, .val (.long (70368744177663 : Int64)), .second, .val (.long (own_a q1)), .second, .val (.long (own_a q2)), .second, .val (.long (own_F (-12219292800000 : Int64))), .second, .val (.long (own_F (0 : Int64))), .second, .val (.long (own_F (own_a q1))), .second, .val (.long (own_F (own_a q2))), .second, .unset, .unset, .unset]) rfl k) ?_
  refine own_back (S' := T4.setTop (mkF m 57 #[.val (.long q1), .second, .val (.long q2), .second, .val (.long (-12219292800000 : Int64)), .second, .val (.long (70368744177663 : Int64)), .second, .val (.long (own_a q1)), .second, .val (.long (own_a q2)), .second, .val (.long (own_F (-12219292800000 : Int64))), .second, .val (.long (own_F (0 : Int64))), .second, .val (.long (own_F (own_a q1))), .second, .val (.long (own_F (own_a q2))), .second, .unset, .unset, .unset] [(.long (own_F (-12219292800000 : Int64)))])) (fun _ k => XS.lload X4.here hx rfl (hb hby at_55) rfl k) ?_
  refine own_back (S' := T4.setTop (mkF m 60 #[.val (.long q1), .second, .val (.long q2), .second, .val (.long (-12219292800000 : Int64)), .second, .val (.long (70368744177663 : Int64)), .second, .val (.long (own_a q1)), .second, .val (.long (own_a q2)), .second, .val (.long (own_F (-12219292800000 : Int64))), .second, .val (.long (own_F (0 : Int64))), .second, .val (.long (own_F (own_a q1))), .second, .val (.long (own_F (own_a q2))), .second, .unset, .unset, .unset] [(.long (9999 : Int64)), (.long (own_F (-12219292800000 : Int64)))])) (fun _ k => X4.ldc2Long hx hown (mvT hZ (hw _ (List.mem_of_getElem? (i := 8) rfl))) (g := (mkF m 57 #[.val (.long q1), .second, .val (.long q2), .second, .val (.long (-12219292800000 : Int64)), .second, .val (.long (70368744177663 : Int64)), .second, .val (.long (own_a q1)), .second, .val (.long (own_a q2)), .second, .val (.long (own_F (-12219292800000 : Int64))), .second, .val (.long (own_F (0 : Int64))), .second, .val (.long (own_F (own_a q1))), .second, .val (.long (own_F (own_a q2))), .second, .unset, .unset, .unset] [(.long (own_F (-12219292800000 : Int64)))])) rfl (hb hby at_57) _ k) ?_
  refine own_back (S' := T4.setTop (mkF m 61 #[.val (.long q1), .second, .val (.long q2), .second, .val (.long (-12219292800000 : Int64)), .second, .val (.long (70368744177663 : Int64)), .second, .val (.long (own_a q1)), .second, .val (.long (own_a q2)), .second, .val (.long (own_F (-12219292800000 : Int64))), .second, .val (.long (own_F (0 : Int64))), .second, .val (.long (own_F (own_a q1))), .second, .val (.long (own_F (own_a q2))), .second, .unset, .unset, .unset] [(.int (lcmpW (own_F (-12219292800000 : Int64)) (9999 : Int64)))])) (fun _ k => XS.lcmp X4.here hx rfl (hb hby at_60) rfl k) ?_
  refine own_back (S' := T4.setTop (mkF m 64 #[.val (.long q1), .second, .val (.long q2), .second, .val (.long (-12219292800000 : Int64)), .second, .val (.long (70368744177663 : Int64)), .second, .val (.long (own_a q1)), .second, .val (.long (own_a q2)), .second, .val (.long (own_F (-12219292800000 : Int64))), .second, .val (.long (own_F (0 : Int64))), .second, .val (.long (own_F (own_a q1))), .second, .val (.long (own_F (own_a q2))), .second, .unset, .unset, .unset] [])) (fun _ k => XS.ifNo X4.here hx rfl (hb hby at_61) rfl ((if0 _ _).trans (teq ((lw_eq _ _).mpr (own_first : (own_F (-12219292800000 : Int64)) = (9999 : Int64)))).2) k) ?_
  refine own_back (S' := T4.setTop (mkF m 66 #[.val (.long q1), .second, .val (.long q2), .second, .val (.long (-12219292800000 : Int64)), .second, .val (.long (70368744177663 : Int64)), .second, .val (.long (own_a q1)), .second, .val (.long (own_a q2)), .second, .val (.long (own_F (-12219292800000 : Int64))), .second, .val (.long (own_F (0 : Int64))), .second, .val (.long (own_F (own_a q1))), .second, .val (.long (own_F (own_a q2))), .second, .unset, .unset, .unset] [(.long (own_F (0 : Int64)))])) (fun _ k => XS.lload X4.here hx rfl (hb hby at_64) rfl k) ?_
  refine own_back (S' := T4.setTop (mkF m 69 #[.val (.long q1), .second, .val (.long q2), .second, .val (.long (-12219292800000 : Int64)), .second, .val (.long (70368744177663 : Int64)), .second, .val (.long (own_a q1)), .second, .val (.long (own_a q2)), .second, .val (.long (own_F (-12219292800000 : Int64))), .second, .val (.long (own_F (0 : Int64))), .second, .val (.long (own_F (own_a q1))), .second, .val (.long (own_F (own_a q2))), .second, .unset, .unset, .unset] [(.long (122192928000009999 : Int64)), (.long (own_F (0 : Int64)))])) (fun _ k => X4.ldc2Long hx hown (mvT hZ (hw _ (List.mem_of_getElem? (i := 9) rfl))) (g := (mkF m 66 #[.val (.long q1), .second, .val (.long q2), .second, .val (.long (-12219292800000 : Int64)), .second, .val (.long (70368744177663 : Int64)), .second, .val (.long (own_a q1)), .second, .val (.long (own_a q2)), .second, .val (.long (own_F (-12219292800000 : Int64))), .second, .val (.long (own_F (0 : Int64))), .second, .val (.long (own_F (own_a q1))), .second, .val (.long (own_F (own_a q2))), .second, .unset, .unset, .unset] [(.long (own_F (0 : Int64)))])) rfl (hb hby at_66) _ k) ?_
  refine own_back (S' := T4.setTop (mkF m 70 #[.val (.long q1), .second, .val (.long q2), .second, .val (.long (-12219292800000 : Int64)), .second, .val (.long (70368744177663 : Int64)), .second, .val (.long (own_a q1)), .second, .val (.long (own_a q2)), .second, .val (.long (own_F (-12219292800000 : Int64))), .second, .val (.long (own_F (0 : Int64))), .second, .val (.long (own_F (own_a q1))), .second, .val (.long (own_F (own_a q2))), .second, .unset, .unset, .unset] [(.int (lcmpW (own_F (0 : Int64)) (122192928000009999 : Int64)))])) (fun _ k => XS.lcmp X4.here hx rfl (hb hby at_69) rfl k) ?_
  refine own_back (S' := T4.setTop (mkF m 73 #[.val (.long q1), .second, .val (.long q2), .second, .val (.long (-12219292800000 : Int64)), .second, .val (.long (70368744177663 : Int64)), .second, .val (.long (own_a q1)), .second, .val (.long (own_a q2)), .second, .val (.long (own_F (-12219292800000 : Int64))), .second, .val (.long (own_F (0 : Int64))), .second, .val (.long (own_F (own_a q1))), .second, .val (.long (own_F (own_a q2))), .second, .unset, .unset, .unset] [])) (fun _ k => XS.ifNo X4.here hx rfl (hb hby at_70) rfl ((if0 _ _).trans (teq ((lw_eq _ _).mpr (own_zero : (own_F (0 : Int64)) = (122192928000009999 : Int64)))).2) k) ?_
  refine own_back (S' := T4.setTop (mkF m 74 #[.val (.long q1), .second, .val (.long q2), .second, .val (.long (-12219292800000 : Int64)), .second, .val (.long (70368744177663 : Int64)), .second, .val (.long (own_a q1)), .second, .val (.long (own_a q2)), .second, .val (.long (own_F (-12219292800000 : Int64))), .second, .val (.long (own_F (0 : Int64))), .second, .val (.long (own_F (own_a q1))), .second, .val (.long (own_F (own_a q2))), .second, .unset, .unset, .unset] [(.int (1 : Int32))])) (fun _ k => XS.iconst X4.here hx rfl (hb hby at_73)  k) ?_
  refine own_back (S' := T4.setTop (mkF m 78 #[.val (.long q1), .second, .val (.long q2), .second, .val (.long (-12219292800000 : Int64)), .second, .val (.long (70368744177663 : Int64)), .second, .val (.long (own_a q1)), .second, .val (.long (own_a q2)), .second, .val (.long (own_F (-12219292800000 : Int64))), .second, .val (.long (own_F (0 : Int64))), .second, .val (.long (own_F (own_a q1))), .second, .val (.long (own_F (own_a q2))), .second, .unset, .unset, .unset] [(.int (1 : Int32))])) (fun _ k => XS.goto X4.here hx rfl (pc0 := 74) (pc' := 78) rfl (hb hby at_74) (by decide) (by decide) k) ?_
  refine own_back (S' := T4.setTop (mkF m 80 #[.val (.long q1), .second, .val (.long q2), .second, .val (.long (-12219292800000 : Int64)), .second, .val (.long (70368744177663 : Int64)), .second, .val (.long (own_a q1)), .second, .val (.long (own_a q2)), .second, .val (.long (own_F (-12219292800000 : Int64))), .second, .val (.long (own_F (0 : Int64))), .second, .val (.long (own_F (own_a q1))), .second, .val (.long (own_F (own_a q2))), .second, .val (.int (1 : Int32)), .unset, .unset] [])) (fun _ k => XS.istore X4.here hx rfl (hb hby at_78) rfl (l' := #[.val (.long q1), .second, .val (.long q2), .second, .val (.long (-12219292800000 : Int64)), .second, .val (.long (70368744177663 : Int64)), .second, .val (.long (own_a q1)), .second, .val (.long (own_a q2)), .second, .val (.long (own_F (-12219292800000 : Int64))), .second, .val (.long (own_F (0 : Int64))), .second, .val (.long (own_F (own_a q1))), .second, .val (.long (own_F (own_a q2))), .second, .val (.int (1 : Int32)), .unset, .unset]) rfl k) ?_
  refine own_back (S' := T4.setTop (mkF m 82 #[.val (.long q1), .second, .val (.long q2), .second, .val (.long (-12219292800000 : Int64)), .second, .val (.long (70368744177663 : Int64)), .second, .val (.long (own_a q1)), .second, .val (.long (own_a q2)), .second, .val (.long (own_F (-12219292800000 : Int64))), .second, .val (.long (own_F (0 : Int64))), .second, .val (.long (own_F (own_a q1))), .second, .val (.long (own_F (own_a q2))), .second, .val (.int (1 : Int32)), .unset, .unset] [(.long (own_F (own_a q1)))])) (fun _ k => XS.lload X4.here hx rfl (hb hby at_80) rfl k) ?_
  refine own_back (S' := T4.setTop (mkF m 84 #[.val (.long q1), .second, .val (.long q2), .second, .val (.long (-12219292800000 : Int64)), .second, .val (.long (70368744177663 : Int64)), .second, .val (.long (own_a q1)), .second, .val (.long (own_a q2)), .second, .val (.long (own_F (-12219292800000 : Int64))), .second, .val (.long (own_F (0 : Int64))), .second, .val (.long (own_F (own_a q1))), .second, .val (.long (own_F (own_a q2))), .second, .val (.int (1 : Int32)), .unset, .unset] [(.long (own_F (own_a q2))), (.long (own_F (own_a q1)))])) (fun _ k => XS.lload X4.here hx rfl (hb hby at_82) rfl k) ?_
  refine own_back (S' := T4.setTop (mkF m 85 #[.val (.long q1), .second, .val (.long q2), .second, .val (.long (-12219292800000 : Int64)), .second, .val (.long (70368744177663 : Int64)), .second, .val (.long (own_a q1)), .second, .val (.long (own_a q2)), .second, .val (.long (own_F (-12219292800000 : Int64))), .second, .val (.long (own_F (0 : Int64))), .second, .val (.long (own_F (own_a q1))), .second, .val (.long (own_F (own_a q2))), .second, .val (.int (1 : Int32)), .unset, .unset] [(.long ((own_F (own_a q1)) - (own_F (own_a q2))))])) (fun _ k => XS.lsub X4.here hx rfl (hb hby at_84) rfl k) ?_
  refine own_back (S' := T4.setTop (mkF m 87 #[.val (.long q1), .second, .val (.long q2), .second, .val (.long (-12219292800000 : Int64)), .second, .val (.long (70368744177663 : Int64)), .second, .val (.long (own_a q1)), .second, .val (.long (own_a q2)), .second, .val (.long (own_F (-12219292800000 : Int64))), .second, .val (.long (own_F (0 : Int64))), .second, .val (.long (own_F (own_a q1))), .second, .val (.long (own_F (own_a q2))), .second, .val (.int (1 : Int32)), .unset, .unset] [(.long (own_a q1)), (.long ((own_F (own_a q1)) - (own_F (own_a q2))))])) (fun _ k => XS.lload X4.here hx rfl (hb hby at_85) rfl k) ?_
  refine own_back (S' := T4.setTop (mkF m 89 #[.val (.long q1), .second, .val (.long q2), .second, .val (.long (-12219292800000 : Int64)), .second, .val (.long (70368744177663 : Int64)), .second, .val (.long (own_a q1)), .second, .val (.long (own_a q2)), .second, .val (.long (own_F (-12219292800000 : Int64))), .second, .val (.long (own_F (0 : Int64))), .second, .val (.long (own_F (own_a q1))), .second, .val (.long (own_F (own_a q2))), .second, .val (.int (1 : Int32)), .unset, .unset] [(.long (own_a q2)), (.long (own_a q1)), (.long ((own_F (own_a q1)) - (own_F (own_a q2))))])) (fun _ k => XS.lload X4.here hx rfl (hb hby at_87) rfl k) ?_
  refine own_back (S' := T4.setTop (mkF m 90 #[.val (.long q1), .second, .val (.long q2), .second, .val (.long (-12219292800000 : Int64)), .second, .val (.long (70368744177663 : Int64)), .second, .val (.long (own_a q1)), .second, .val (.long (own_a q2)), .second, .val (.long (own_F (-12219292800000 : Int64))), .second, .val (.long (own_F (0 : Int64))), .second, .val (.long (own_F (own_a q1))), .second, .val (.long (own_F (own_a q2))), .second, .val (.int (1 : Int32)), .unset, .unset] [(.long ((own_a q1) - (own_a q2))), (.long ((own_F (own_a q1)) - (own_F (own_a q2))))])) (fun _ k => XS.lsub X4.here hx rfl (hb hby at_89) rfl k) ?_
  refine own_back (S' := T4.setTop (mkF m 93 #[.val (.long q1), .second, .val (.long q2), .second, .val (.long (-12219292800000 : Int64)), .second, .val (.long (70368744177663 : Int64)), .second, .val (.long (own_a q1)), .second, .val (.long (own_a q2)), .second, .val (.long (own_F (-12219292800000 : Int64))), .second, .val (.long (own_F (0 : Int64))), .second, .val (.long (own_F (own_a q1))), .second, .val (.long (own_F (own_a q2))), .second, .val (.int (1 : Int32)), .unset, .unset] [(.long (10000 : Int64)), (.long ((own_a q1) - (own_a q2))), (.long ((own_F (own_a q1)) - (own_F (own_a q2))))])) (fun _ k => X4.ldc2Long hx hown (mvT hZ (hw _ (List.mem_of_getElem? (i := 10) rfl))) (g := (mkF m 90 #[.val (.long q1), .second, .val (.long q2), .second, .val (.long (-12219292800000 : Int64)), .second, .val (.long (70368744177663 : Int64)), .second, .val (.long (own_a q1)), .second, .val (.long (own_a q2)), .second, .val (.long (own_F (-12219292800000 : Int64))), .second, .val (.long (own_F (0 : Int64))), .second, .val (.long (own_F (own_a q1))), .second, .val (.long (own_F (own_a q2))), .second, .val (.int (1 : Int32)), .unset, .unset] [(.long ((own_a q1) - (own_a q2))), (.long ((own_F (own_a q1)) - (own_F (own_a q2))))])) rfl (hb hby at_90) _ k) ?_
  refine own_back (S' := T4.setTop (mkF m 94 #[.val (.long q1), .second, .val (.long q2), .second, .val (.long (-12219292800000 : Int64)), .second, .val (.long (70368744177663 : Int64)), .second, .val (.long (own_a q1)), .second, .val (.long (own_a q2)), .second, .val (.long (own_F (-12219292800000 : Int64))), .second, .val (.long (own_F (0 : Int64))), .second, .val (.long (own_F (own_a q1))), .second, .val (.long (own_F (own_a q2))), .second, .val (.int (1 : Int32)), .unset, .unset] [(.long (((own_a q1) - (own_a q2)) * (10000 : Int64))), (.long ((own_F (own_a q1)) - (own_F (own_a q2))))])) (fun _ k => XS.lmul X4.here hx rfl (hb hby at_93) rfl k) ?_
  refine own_back (S' := T4.setTop (mkF m 95 #[.val (.long q1), .second, .val (.long q2), .second, .val (.long (-12219292800000 : Int64)), .second, .val (.long (70368744177663 : Int64)), .second, .val (.long (own_a q1)), .second, .val (.long (own_a q2)), .second, .val (.long (own_F (-12219292800000 : Int64))), .second, .val (.long (own_F (0 : Int64))), .second, .val (.long (own_F (own_a q1))), .second, .val (.long (own_F (own_a q2))), .second, .val (.int (1 : Int32)), .unset, .unset] [(.int (lcmpW ((own_F (own_a q1)) - (own_F (own_a q2))) (((own_a q1) - (own_a q2)) * (10000 : Int64))))])) (fun _ k => XS.lcmp X4.here hx rfl (hb hby at_94) rfl k) ?_
  refine own_back (S' := T4.setTop (mkF m 98 #[.val (.long q1), .second, .val (.long q2), .second, .val (.long (-12219292800000 : Int64)), .second, .val (.long (70368744177663 : Int64)), .second, .val (.long (own_a q1)), .second, .val (.long (own_a q2)), .second, .val (.long (own_F (-12219292800000 : Int64))), .second, .val (.long (own_F (0 : Int64))), .second, .val (.long (own_F (own_a q1))), .second, .val (.long (own_F (own_a q2))), .second, .val (.int (1 : Int32)), .unset, .unset] [])) (fun _ k => XS.ifNo X4.here hx rfl (hb hby at_95) rfl ((if0 _ _).trans (teq ((lw_eq _ _).mpr (own_steps _ _ : ((own_F (own_a q1)) - (own_F (own_a q2))) = (((own_a q1) - (own_a q2)) * (10000 : Int64))))).2) k) ?_
  refine own_back (S' := T4.setTop (mkF m 99 #[.val (.long q1), .second, .val (.long q2), .second, .val (.long (-12219292800000 : Int64)), .second, .val (.long (70368744177663 : Int64)), .second, .val (.long (own_a q1)), .second, .val (.long (own_a q2)), .second, .val (.long (own_F (-12219292800000 : Int64))), .second, .val (.long (own_F (0 : Int64))), .second, .val (.long (own_F (own_a q1))), .second, .val (.long (own_F (own_a q2))), .second, .val (.int (1 : Int32)), .unset, .unset] [(.int (1 : Int32))])) (fun _ k => XS.iconst X4.here hx rfl (hb hby at_98)  k) ?_
  refine own_back (S' := T4.setTop (mkF m 103 #[.val (.long q1), .second, .val (.long q2), .second, .val (.long (-12219292800000 : Int64)), .second, .val (.long (70368744177663 : Int64)), .second, .val (.long (own_a q1)), .second, .val (.long (own_a q2)), .second, .val (.long (own_F (-12219292800000 : Int64))), .second, .val (.long (own_F (0 : Int64))), .second, .val (.long (own_F (own_a q1))), .second, .val (.long (own_F (own_a q2))), .second, .val (.int (1 : Int32)), .unset, .unset] [(.int (1 : Int32))])) (fun _ k => XS.goto X4.here hx rfl (pc0 := 99) (pc' := 103) rfl (hb hby at_99) (by decide) (by decide) k) ?_
  refine own_back (S' := T4.setTop (mkF m 105 #[.val (.long q1), .second, .val (.long q2), .second, .val (.long (-12219292800000 : Int64)), .second, .val (.long (70368744177663 : Int64)), .second, .val (.long (own_a q1)), .second, .val (.long (own_a q2)), .second, .val (.long (own_F (-12219292800000 : Int64))), .second, .val (.long (own_F (0 : Int64))), .second, .val (.long (own_F (own_a q1))), .second, .val (.long (own_F (own_a q2))), .second, .val (.int (1 : Int32)), .val (.int (1 : Int32)), .unset] [])) (fun _ k => XS.istore X4.here hx rfl (hb hby at_103) rfl (l' := #[.val (.long q1), .second, .val (.long q2), .second, .val (.long (-12219292800000 : Int64)), .second, .val (.long (70368744177663 : Int64)), .second, .val (.long (own_a q1)), .second, .val (.long (own_a q2)), .second, .val (.long (own_F (-12219292800000 : Int64))), .second, .val (.long (own_F (0 : Int64))), .second, .val (.long (own_F (own_a q1))), .second, .val (.long (own_F (own_a q2))), .second, .val (.int (1 : Int32)), .val (.int (1 : Int32)), .unset]) rfl k) ?_
  refine own_back (S' := T4.setTop (mkF m 107 #[.val (.long q1), .second, .val (.long q2), .second, .val (.long (-12219292800000 : Int64)), .second, .val (.long (70368744177663 : Int64)), .second, .val (.long (own_a q1)), .second, .val (.long (own_a q2)), .second, .val (.long (own_F (-12219292800000 : Int64))), .second, .val (.long (own_F (0 : Int64))), .second, .val (.long (own_F (own_a q1))), .second, .val (.long (own_F (own_a q2))), .second, .val (.int (1 : Int32)), .val (.int (1 : Int32)), .unset] [(.long (own_F (own_a q1)))])) (fun _ k => XS.lload X4.here hx rfl (hb hby at_105) rfl k) ?_
  refine own_back (S' := T4.setTop (mkF m 108 #[.val (.long q1), .second, .val (.long q2), .second, .val (.long (-12219292800000 : Int64)), .second, .val (.long (70368744177663 : Int64)), .second, .val (.long (own_a q1)), .second, .val (.long (own_a q2)), .second, .val (.long (own_F (-12219292800000 : Int64))), .second, .val (.long (own_F (0 : Int64))), .second, .val (.long (own_F (own_a q1))), .second, .val (.long (own_F (own_a q2))), .second, .val (.int (1 : Int32)), .val (.int (1 : Int32)), .unset] [(.long (0 : Int64)), (.long (own_F (own_a q1)))])) (fun _ k => XS.lconst X4.here hx rfl (hb hby at_107)  k) ?_
  refine own_back (S' := T4.setTop (mkF m 109 #[.val (.long q1), .second, .val (.long q2), .second, .val (.long (-12219292800000 : Int64)), .second, .val (.long (70368744177663 : Int64)), .second, .val (.long (own_a q1)), .second, .val (.long (own_a q2)), .second, .val (.long (own_F (-12219292800000 : Int64))), .second, .val (.long (own_F (0 : Int64))), .second, .val (.long (own_F (own_a q1))), .second, .val (.long (own_F (own_a q2))), .second, .val (.int (1 : Int32)), .val (.int (1 : Int32)), .unset] [(.int (lcmpW (own_F (own_a q1)) (0 : Int64)))])) (fun _ k => XS.lcmp X4.here hx rfl (hb hby at_108) rfl k) ?_
  refine own_back (S' := T4.setTop (mkF m 112 #[.val (.long q1), .second, .val (.long q2), .second, .val (.long (-12219292800000 : Int64)), .second, .val (.long (70368744177663 : Int64)), .second, .val (.long (own_a q1)), .second, .val (.long (own_a q2)), .second, .val (.long (own_F (-12219292800000 : Int64))), .second, .val (.long (own_F (0 : Int64))), .second, .val (.long (own_F (own_a q1))), .second, .val (.long (own_F (own_a q2))), .second, .val (.int (1 : Int32)), .val (.int (1 : Int32)), .unset] [])) (fun _ k => XS.ifNo X4.here hx rfl (hb hby at_109) rfl ((if0 _ _).trans (flt (fun q_ => (own_low _ : ¬ ((own_F (own_a q1)) < (0 : Int64))) ((lw_lt _ _).mp q_))).1) k) ?_
  refine own_back (S' := T4.setTop (mkF m 114 #[.val (.long q1), .second, .val (.long q2), .second, .val (.long (-12219292800000 : Int64)), .second, .val (.long (70368744177663 : Int64)), .second, .val (.long (own_a q1)), .second, .val (.long (own_a q2)), .second, .val (.long (own_F (-12219292800000 : Int64))), .second, .val (.long (own_F (0 : Int64))), .second, .val (.long (own_F (own_a q1))), .second, .val (.long (own_F (own_a q2))), .second, .val (.int (1 : Int32)), .val (.int (1 : Int32)), .unset] [(.long (own_F (own_a q1)))])) (fun _ k => XS.lload X4.here hx rfl (hb hby at_112) rfl k) ?_
  refine own_back (S' := T4.setTop (mkF m 117 #[.val (.long q1), .second, .val (.long q2), .second, .val (.long (-12219292800000 : Int64)), .second, .val (.long (70368744177663 : Int64)), .second, .val (.long (own_a q1)), .second, .val (.long (own_a q2)), .second, .val (.long (own_F (-12219292800000 : Int64))), .second, .val (.long (own_F (0 : Int64))), .second, .val (.long (own_F (own_a q1))), .second, .val (.long (own_F (own_a q2))), .second, .val (.int (1 : Int32)), .val (.int (1 : Int32)), .unset] [(.long (1152921504606846975 : Int64)), (.long (own_F (own_a q1)))])) (fun _ k => X4.ldc2Long hx hown (mvT hZ (hw _ (List.mem_of_getElem? (i := 11) rfl))) (g := (mkF m 114 #[.val (.long q1), .second, .val (.long q2), .second, .val (.long (-12219292800000 : Int64)), .second, .val (.long (70368744177663 : Int64)), .second, .val (.long (own_a q1)), .second, .val (.long (own_a q2)), .second, .val (.long (own_F (-12219292800000 : Int64))), .second, .val (.long (own_F (0 : Int64))), .second, .val (.long (own_F (own_a q1))), .second, .val (.long (own_F (own_a q2))), .second, .val (.int (1 : Int32)), .val (.int (1 : Int32)), .unset] [(.long (own_F (own_a q1)))])) rfl (hb hby at_114) _ k) ?_
  refine own_back (S' := T4.setTop (mkF m 118 #[.val (.long q1), .second, .val (.long q2), .second, .val (.long (-12219292800000 : Int64)), .second, .val (.long (70368744177663 : Int64)), .second, .val (.long (own_a q1)), .second, .val (.long (own_a q2)), .second, .val (.long (own_F (-12219292800000 : Int64))), .second, .val (.long (own_F (0 : Int64))), .second, .val (.long (own_F (own_a q1))), .second, .val (.long (own_F (own_a q2))), .second, .val (.int (1 : Int32)), .val (.int (1 : Int32)), .unset] [(.int (lcmpW (own_F (own_a q1)) (1152921504606846975 : Int64)))])) (fun _ k => XS.lcmp X4.here hx rfl (hb hby at_117) rfl k) ?_
  refine own_back (S' := T4.setTop (mkF m 121 #[.val (.long q1), .second, .val (.long q2), .second, .val (.long (-12219292800000 : Int64)), .second, .val (.long (70368744177663 : Int64)), .second, .val (.long (own_a q1)), .second, .val (.long (own_a q2)), .second, .val (.long (own_F (-12219292800000 : Int64))), .second, .val (.long (own_F (0 : Int64))), .second, .val (.long (own_F (own_a q1))), .second, .val (.long (own_F (own_a q2))), .second, .val (.int (1 : Int32)), .val (.int (1 : Int32)), .unset] [])) (fun _ k => XS.ifNo X4.here hx rfl (hb hby at_118) rfl ((if0 _ _).trans (flt (fun q_ => (own_high _ : ¬ ((1152921504606846975 : Int64) < (own_F (own_a q1)))) ((lw_gt _ _).mp q_))).2.2.1) k) ?_
  refine own_back (S' := T4.setTop (mkF m 123 #[.val (.long q1), .second, .val (.long q2), .second, .val (.long (-12219292800000 : Int64)), .second, .val (.long (70368744177663 : Int64)), .second, .val (.long (own_a q1)), .second, .val (.long (own_a q2)), .second, .val (.long (own_F (-12219292800000 : Int64))), .second, .val (.long (own_F (0 : Int64))), .second, .val (.long (own_F (own_a q1))), .second, .val (.long (own_F (own_a q2))), .second, .val (.int (1 : Int32)), .val (.int (1 : Int32)), .unset] [(.long (own_F (own_a q2)))])) (fun _ k => XS.lload X4.here hx rfl (hb hby at_121) rfl k) ?_
  refine own_back (S' := T4.setTop (mkF m 124 #[.val (.long q1), .second, .val (.long q2), .second, .val (.long (-12219292800000 : Int64)), .second, .val (.long (70368744177663 : Int64)), .second, .val (.long (own_a q1)), .second, .val (.long (own_a q2)), .second, .val (.long (own_F (-12219292800000 : Int64))), .second, .val (.long (own_F (0 : Int64))), .second, .val (.long (own_F (own_a q1))), .second, .val (.long (own_F (own_a q2))), .second, .val (.int (1 : Int32)), .val (.int (1 : Int32)), .unset] [(.long (0 : Int64)), (.long (own_F (own_a q2)))])) (fun _ k => XS.lconst X4.here hx rfl (hb hby at_123)  k) ?_
  refine own_back (S' := T4.setTop (mkF m 125 #[.val (.long q1), .second, .val (.long q2), .second, .val (.long (-12219292800000 : Int64)), .second, .val (.long (70368744177663 : Int64)), .second, .val (.long (own_a q1)), .second, .val (.long (own_a q2)), .second, .val (.long (own_F (-12219292800000 : Int64))), .second, .val (.long (own_F (0 : Int64))), .second, .val (.long (own_F (own_a q1))), .second, .val (.long (own_F (own_a q2))), .second, .val (.int (1 : Int32)), .val (.int (1 : Int32)), .unset] [(.int (lcmpW (own_F (own_a q2)) (0 : Int64)))])) (fun _ k => XS.lcmp X4.here hx rfl (hb hby at_124) rfl k) ?_
  refine own_back (S' := T4.setTop (mkF m 128 #[.val (.long q1), .second, .val (.long q2), .second, .val (.long (-12219292800000 : Int64)), .second, .val (.long (70368744177663 : Int64)), .second, .val (.long (own_a q1)), .second, .val (.long (own_a q2)), .second, .val (.long (own_F (-12219292800000 : Int64))), .second, .val (.long (own_F (0 : Int64))), .second, .val (.long (own_F (own_a q1))), .second, .val (.long (own_F (own_a q2))), .second, .val (.int (1 : Int32)), .val (.int (1 : Int32)), .unset] [])) (fun _ k => XS.ifNo X4.here hx rfl (hb hby at_125) rfl ((if0 _ _).trans (flt (fun q_ => (own_low _ : ¬ ((own_F (own_a q2)) < (0 : Int64))) ((lw_lt _ _).mp q_))).1) k) ?_
  refine own_back (S' := T4.setTop (mkF m 130 #[.val (.long q1), .second, .val (.long q2), .second, .val (.long (-12219292800000 : Int64)), .second, .val (.long (70368744177663 : Int64)), .second, .val (.long (own_a q1)), .second, .val (.long (own_a q2)), .second, .val (.long (own_F (-12219292800000 : Int64))), .second, .val (.long (own_F (0 : Int64))), .second, .val (.long (own_F (own_a q1))), .second, .val (.long (own_F (own_a q2))), .second, .val (.int (1 : Int32)), .val (.int (1 : Int32)), .unset] [(.long (own_F (own_a q2)))])) (fun _ k => XS.lload X4.here hx rfl (hb hby at_128) rfl k) ?_
  refine own_back (S' := T4.setTop (mkF m 133 #[.val (.long q1), .second, .val (.long q2), .second, .val (.long (-12219292800000 : Int64)), .second, .val (.long (70368744177663 : Int64)), .second, .val (.long (own_a q1)), .second, .val (.long (own_a q2)), .second, .val (.long (own_F (-12219292800000 : Int64))), .second, .val (.long (own_F (0 : Int64))), .second, .val (.long (own_F (own_a q1))), .second, .val (.long (own_F (own_a q2))), .second, .val (.int (1 : Int32)), .val (.int (1 : Int32)), .unset] [(.long (1152921504606846975 : Int64)), (.long (own_F (own_a q2)))])) (fun _ k => X4.ldc2Long hx hown (mvT hZ (hw _ (List.mem_of_getElem? (i := 11) rfl))) (g := (mkF m 130 #[.val (.long q1), .second, .val (.long q2), .second, .val (.long (-12219292800000 : Int64)), .second, .val (.long (70368744177663 : Int64)), .second, .val (.long (own_a q1)), .second, .val (.long (own_a q2)), .second, .val (.long (own_F (-12219292800000 : Int64))), .second, .val (.long (own_F (0 : Int64))), .second, .val (.long (own_F (own_a q1))), .second, .val (.long (own_F (own_a q2))), .second, .val (.int (1 : Int32)), .val (.int (1 : Int32)), .unset] [(.long (own_F (own_a q2)))])) rfl (hb hby at_130) _ k) ?_
  refine own_back (S' := T4.setTop (mkF m 134 #[.val (.long q1), .second, .val (.long q2), .second, .val (.long (-12219292800000 : Int64)), .second, .val (.long (70368744177663 : Int64)), .second, .val (.long (own_a q1)), .second, .val (.long (own_a q2)), .second, .val (.long (own_F (-12219292800000 : Int64))), .second, .val (.long (own_F (0 : Int64))), .second, .val (.long (own_F (own_a q1))), .second, .val (.long (own_F (own_a q2))), .second, .val (.int (1 : Int32)), .val (.int (1 : Int32)), .unset] [(.int (lcmpW (own_F (own_a q2)) (1152921504606846975 : Int64)))])) (fun _ k => XS.lcmp X4.here hx rfl (hb hby at_133) rfl k) ?_
  refine own_back (S' := T4.setTop (mkF m 137 #[.val (.long q1), .second, .val (.long q2), .second, .val (.long (-12219292800000 : Int64)), .second, .val (.long (70368744177663 : Int64)), .second, .val (.long (own_a q1)), .second, .val (.long (own_a q2)), .second, .val (.long (own_F (-12219292800000 : Int64))), .second, .val (.long (own_F (0 : Int64))), .second, .val (.long (own_F (own_a q1))), .second, .val (.long (own_F (own_a q2))), .second, .val (.int (1 : Int32)), .val (.int (1 : Int32)), .unset] [])) (fun _ k => XS.ifNo X4.here hx rfl (hb hby at_134) rfl ((if0 _ _).trans (flt (fun q_ => (own_high _ : ¬ ((1152921504606846975 : Int64) < (own_F (own_a q2)))) ((lw_gt _ _).mp q_))).2.2.1) k) ?_
  refine own_back (S' := T4.setTop (mkF m 138 #[.val (.long q1), .second, .val (.long q2), .second, .val (.long (-12219292800000 : Int64)), .second, .val (.long (70368744177663 : Int64)), .second, .val (.long (own_a q1)), .second, .val (.long (own_a q2)), .second, .val (.long (own_F (-12219292800000 : Int64))), .second, .val (.long (own_F (0 : Int64))), .second, .val (.long (own_F (own_a q1))), .second, .val (.long (own_F (own_a q2))), .second, .val (.int (1 : Int32)), .val (.int (1 : Int32)), .unset] [(.int (1 : Int32))])) (fun _ k => XS.iconst X4.here hx rfl (hb hby at_137)  k) ?_
  refine own_back (S' := T4.setTop (mkF m 142 #[.val (.long q1), .second, .val (.long q2), .second, .val (.long (-12219292800000 : Int64)), .second, .val (.long (70368744177663 : Int64)), .second, .val (.long (own_a q1)), .second, .val (.long (own_a q2)), .second, .val (.long (own_F (-12219292800000 : Int64))), .second, .val (.long (own_F (0 : Int64))), .second, .val (.long (own_F (own_a q1))), .second, .val (.long (own_F (own_a q2))), .second, .val (.int (1 : Int32)), .val (.int (1 : Int32)), .unset] [(.int (1 : Int32))])) (fun _ k => XS.goto X4.here hx rfl (pc0 := 138) (pc' := 142) rfl (hb hby at_138) (by decide) (by decide) k) ?_
  refine own_back (S' := T4.setTop (mkF m 144 #[.val (.long q1), .second, .val (.long q2), .second, .val (.long (-12219292800000 : Int64)), .second, .val (.long (70368744177663 : Int64)), .second, .val (.long (own_a q1)), .second, .val (.long (own_a q2)), .second, .val (.long (own_F (-12219292800000 : Int64))), .second, .val (.long (own_F (0 : Int64))), .second, .val (.long (own_F (own_a q1))), .second, .val (.long (own_F (own_a q2))), .second, .val (.int (1 : Int32)), .val (.int (1 : Int32)), .val (.int (1 : Int32))] [])) (fun _ k => XS.istore X4.here hx rfl (hb hby at_142) rfl (l' := #[.val (.long q1), .second, .val (.long q2), .second, .val (.long (-12219292800000 : Int64)), .second, .val (.long (70368744177663 : Int64)), .second, .val (.long (own_a q1)), .second, .val (.long (own_a q2)), .second, .val (.long (own_F (-12219292800000 : Int64))), .second, .val (.long (own_F (0 : Int64))), .second, .val (.long (own_F (own_a q1))), .second, .val (.long (own_F (own_a q2))), .second, .val (.int (1 : Int32)), .val (.int (1 : Int32)), .val (.int (1 : Int32))]) rfl k) ?_
  refine own_back (S' := T4.setTop (mkF m 146 #[.val (.long q1), .second, .val (.long q2), .second, .val (.long (-12219292800000 : Int64)), .second, .val (.long (70368744177663 : Int64)), .second, .val (.long (own_a q1)), .second, .val (.long (own_a q2)), .second, .val (.long (own_F (-12219292800000 : Int64))), .second, .val (.long (own_F (0 : Int64))), .second, .val (.long (own_F (own_a q1))), .second, .val (.long (own_F (own_a q2))), .second, .val (.int (1 : Int32)), .val (.int (1 : Int32)), .val (.int (1 : Int32))] [(.int (1 : Int32))])) (fun _ k => XS.iload X4.here hx rfl (hb hby at_144) rfl k) ?_
  refine own_back (S' := T4.setTop (mkF m 149 #[.val (.long q1), .second, .val (.long q2), .second, .val (.long (-12219292800000 : Int64)), .second, .val (.long (70368744177663 : Int64)), .second, .val (.long (own_a q1)), .second, .val (.long (own_a q2)), .second, .val (.long (own_F (-12219292800000 : Int64))), .second, .val (.long (own_F (0 : Int64))), .second, .val (.long (own_F (own_a q1))), .second, .val (.long (own_F (own_a q2))), .second, .val (.int (1 : Int32)), .val (.int (1 : Int32)), .val (.int (1 : Int32))] [])) (fun _ k => XS.ifNo X4.here hx rfl (hb hby at_146) rfl ((if0 _ _).trans (feq ((by decide) : ¬ ((1 : Int32) = (0 : Int32)))).1) k) ?_
  refine own_back (S' := T4.setTop (mkF m 151 #[.val (.long q1), .second, .val (.long q2), .second, .val (.long (-12219292800000 : Int64)), .second, .val (.long (70368744177663 : Int64)), .second, .val (.long (own_a q1)), .second, .val (.long (own_a q2)), .second, .val (.long (own_F (-12219292800000 : Int64))), .second, .val (.long (own_F (0 : Int64))), .second, .val (.long (own_F (own_a q1))), .second, .val (.long (own_F (own_a q2))), .second, .val (.int (1 : Int32)), .val (.int (1 : Int32)), .val (.int (1 : Int32))] [(.int (1 : Int32))])) (fun _ k => XS.iload X4.here hx rfl (hb hby at_149) rfl k) ?_
  refine own_back (S' := T4.setTop (mkF m 154 #[.val (.long q1), .second, .val (.long q2), .second, .val (.long (-12219292800000 : Int64)), .second, .val (.long (70368744177663 : Int64)), .second, .val (.long (own_a q1)), .second, .val (.long (own_a q2)), .second, .val (.long (own_F (-12219292800000 : Int64))), .second, .val (.long (own_F (0 : Int64))), .second, .val (.long (own_F (own_a q1))), .second, .val (.long (own_F (own_a q2))), .second, .val (.int (1 : Int32)), .val (.int (1 : Int32)), .val (.int (1 : Int32))] [])) (fun _ k => XS.ifNo X4.here hx rfl (hb hby at_151) rfl ((if0 _ _).trans (feq ((by decide) : ¬ ((1 : Int32) = (0 : Int32)))).1) k) ?_
  refine own_back (S' := T4.setTop (mkF m 156 #[.val (.long q1), .second, .val (.long q2), .second, .val (.long (-12219292800000 : Int64)), .second, .val (.long (70368744177663 : Int64)), .second, .val (.long (own_a q1)), .second, .val (.long (own_a q2)), .second, .val (.long (own_F (-12219292800000 : Int64))), .second, .val (.long (own_F (0 : Int64))), .second, .val (.long (own_F (own_a q1))), .second, .val (.long (own_F (own_a q2))), .second, .val (.int (1 : Int32)), .val (.int (1 : Int32)), .val (.int (1 : Int32))] [(.int (1 : Int32))])) (fun _ k => XS.iload X4.here hx rfl (hb hby at_154) rfl k) ?_
  refine own_back (S' := T4.setTop (mkF m 159 #[.val (.long q1), .second, .val (.long q2), .second, .val (.long (-12219292800000 : Int64)), .second, .val (.long (70368744177663 : Int64)), .second, .val (.long (own_a q1)), .second, .val (.long (own_a q2)), .second, .val (.long (own_F (-12219292800000 : Int64))), .second, .val (.long (own_F (0 : Int64))), .second, .val (.long (own_F (own_a q1))), .second, .val (.long (own_F (own_a q2))), .second, .val (.int (1 : Int32)), .val (.int (1 : Int32)), .val (.int (1 : Int32))] [])) (fun _ k => XS.ifNo X4.here hx rfl (hb hby at_156) rfl ((if0 _ _).trans (feq ((by decide) : ¬ ((1 : Int32) = (0 : Int32)))).1) k) ?_
  refine own_back (S' := T4.setTop (mkF m 160 #[.val (.long q1), .second, .val (.long q2), .second, .val (.long (-12219292800000 : Int64)), .second, .val (.long (70368744177663 : Int64)), .second, .val (.long (own_a q1)), .second, .val (.long (own_a q2)), .second, .val (.long (own_F (-12219292800000 : Int64))), .second, .val (.long (own_F (0 : Int64))), .second, .val (.long (own_F (own_a q1))), .second, .val (.long (own_F (own_a q2))), .second, .val (.int (1 : Int32)), .val (.int (1 : Int32)), .val (.int (1 : Int32))] [(.int (1 : Int32))])) (fun _ k => XS.iconst X4.here hx rfl (hb hby at_159)  k) ?_
  refine own_back (S' := T4.setTop (mkF m 164 #[.val (.long q1), .second, .val (.long q2), .second, .val (.long (-12219292800000 : Int64)), .second, .val (.long (70368744177663 : Int64)), .second, .val (.long (own_a q1)), .second, .val (.long (own_a q2)), .second, .val (.long (own_F (-12219292800000 : Int64))), .second, .val (.long (own_F (0 : Int64))), .second, .val (.long (own_F (own_a q1))), .second, .val (.long (own_F (own_a q2))), .second, .val (.int (1 : Int32)), .val (.int (1 : Int32)), .val (.int (1 : Int32))] [(.int (1 : Int32))])) (fun _ k => XS.goto X4.here hx rfl (pc0 := 160) (pc' := 164) rfl (hb hby at_160) (by decide) (by decide) k) ?_
  obtain ⟨fs, hr, hrun, hended, hW, hsame⟩ := X4.leave (v := some (.int (1 : Int32))) (fun h => by rw [Bd.returns] at h; cases h)
  refine own_done ⟨_, _, retN X4 hx (t := .boolean) Bd.returns (by simp) (hb hby at_164) hr, hrun, hended, _, _, rfl, ?_, ⟨_, rfl⟩, hW, hsame.mono (by decide) (by decide)⟩
  show Q0 Z q1 q2 h0 n0 _ T4.heap _
  rw [e4]
  exact ⟨rfl, N4⟩
set_option maxRecDepth 65536 in
set_option maxHeartbeats 40000000 in
theorem comes_1 {Post : Tables → Env → Array Value → State → Outcome → State → Prop} (hpost : ∀ tb e args s v u, (limb_1_1.after args s (.returned v) u = true ∧ limb_1_2.after args s (.returned v) u = true ∧ True) → FrameEnd s (.returned v) u (Jvm.fieldLocs frame_1_writes args s ++ Jvm.arrayLocs frame_1_arrays args s ++ Jvm.staticLocs frame_1_statics s) 0 0 → Post tb e args s (.returned v) u) :
    ArmFor flags0 classFile x code maxLocals ret World_1 tables_1 room_1 Calls_1 rest_1 Pre_1 Post := by
  intro l hfl _ _ p e ha hc hk s m args below hf hA hF happ hP
  obtain ⟨hcalls, hrest, hpre⟩ := hP
  obtain ⟨-, -, -, hnamed, -, -, -, hat⟩ := (Spec.applies_iff hf).mp happ
  obtain ⟨hg, hn⟩ := and_e (Cond.before_iff.mp (show (Jvm.Cond.and given_1 narrow_1).before args s = true from hpre))
  obtain ⟨g1, g2⟩ := and_e hg
  obtain ⟨g3, g4⟩ := and_e g2
  obtain ⟨w0, w1, rfl⟩ : ∃ w0 w1 : Value, args = #[w0, w1] := by
    have hs : args.size = 2 := by simpa [Cond.value, given_1] using g1
    obtain ⟨L⟩ := args
    match L, hs with
    | [w0, w1], _ => exact ⟨w0, w1, rfl⟩
  have hw := fun d (hd : d ∈ tables_1) => atoms_spec (ws := Jvm.Cond.code x code maxLocals ret :: tables_1) hat d (List.mem_cons_of_mem _ hd)
  have hfit : Fit s := fun {y c} hc i hi => by
    obtain ⟨ha, rfl⟩ := Array.getElem?_eq_some_iff.mp hc
    have q := List.all_eq_true.mp ((Array.all_eq_true_iff_forall_mem.mp hF) _ (Array.getElem_mem ha)) i (List.mem_range.mpr hi)
    simpa [Array.getElem?_eq_getElem hi] using q
  obtain ⟨i0, ei0⟩ := isL_v g3
  obtain rfl : w0 = (.long i0) := Option.some.inj ei0
  obtain ⟨i1, ei1⟩ := isL_v g4
  obtain rfl : w1 = (.long i1) := Option.some.inj ei1
  obtain ⟨n, o, h1, h2, h3, _, L, rfl, ⟨rfl, N⟩, hq⟩ := rm0 l s _ hw tables_1 i0 i1 s.heap s.heap.size (Nat.le_refl _) p e ha hc hk s m _ below hf ((Spec.applies_iff_loose hf).mp happ).1 ⟨rfl, State.Warmed39.refl s, rfl⟩ trivial
  refine ⟨n, _, h1, h2, h3, hpost _ _ _ _ _ _ ⟨Cond.after_iff.mpr rfl, Cond.after_iff.mpr (eq_i res_at (Term.int_eval (1)) rfl), trivial⟩ ⟨hq.1, hq.2.1, (hq.2.2.sift fun y hy => Or.inr (N y hy)).mono (by decide) (by decide)⟩⟩
theorem main_1_1 : Claimed_1_1 := comes_1 fun _ _ _ _ _ _ h hF => ⟨h.1, hF⟩
theorem main_1_2 : Claimed_1_2 := comes_1 fun _ _ _ _ _ _ h hF => ⟨h.2.1, hF⟩
end Jvm.Pilot.@@N@@
namespace Jvm.Pilot.@@N@@
open Jvm Jvm.ClassFile Sem Op Lib Jvm.Free Jvm.Stand Jvm.Pilot.@@N@@.Jvm.D
/-! MADE BY PROGRAM (witnessworld.py) out of the Statement's table words and the real class files: 9 classes; the members and pool entries that the words name. The judged class is class 1, her method 1. -/
namespace start1
open Jvm.ClassFile
def u (s : String) : CpInfo := .utf8 (stringToUtf16 s)
/-- a pool by its gaps: so many unusable entries, then the entry; so many at the end -/
def gap : Nat → List CpInfo → List CpInfo
  | 0, r => r
  | n + 1, r => .unusable :: gap n r
def poolList (es : List (Nat × CpInfo)) (last : Nat) : List CpInfo := es.foldr (fun e r => gap e.1 (e.2 :: r)) (gap last [])
def pool (es : List (Nat × CpInfo)) (last : Nat) : Array CpInfo := ⟨poolList es last⟩
def fileOf (pool : Array CpInfo) (this : Nat) (attrs : Array Attribute := #[]) (ms : Array MethodInfo := #[]) (fl : Nat := 33) (sup : Nat := 0) (ifs : Array Nat := #[]) (fds : Array FieldInfo := #[]) : ClassFile where
  minorVersion := 0
  majorVersion := 65
  constantPool := pool
  accessFlags := fl
  thisClass := this
  superClass := sup
  interfaces := ifs
  fields := fds
  methods := ms
  attributes := attrs
def plain (name : String) (sup : Option ClassId) : Class where
  name := name
  kind := .ordinary
  loader := none
  accessFlags := 33
  super := sup
  interfaces := #[]
  cf := none
  fields := #[]
  methods := #[]
  instanceTypes := #[]
  staticTypes := #[]
  resolved := #[]
  callSites := []
  init := .initialized
  statics := none
  mirror := none

def pool0 : Array CpInfo := pool [(5, u "<init>"), (0, u "()V"), (1, .class_ 10), (1, u "java/lang/Object")] 113

def k0m0 : Method := { name := "<init>", desc := "()V", sig := { parameters := [], returnType := none }, accessFlags := 1, code := none }
/-- java/lang/Object -/
def k0 : Class := { plain "java/lang/Object" none with
  accessFlags := 33
  interfaces := #[]
  cf := some (fileOf pool0 8 #[] #[{ accessFlags := 1, nameIndex := 5, descriptorIndex := 6, attributes := #[] }] 33 0 #[] #[])
  fields := #[]
  methods := #[k0m0]
  instanceTypes := #[]
  staticTypes := #[]
  resolved := Array.replicate 124 none
  statics := none }

def pool1 : Array CpInfo := pool [(2, .class_ 4), (1, u "java/lang/Object"), (0, u "<init>"), (0, u "()V"), (0, .long 18446731854416751616), (1, .long 70368744177663), (1, .methodref 12 13), (0, .class_ 14), (0, .nameAndType 15 16), (0, u "com/example/hexdash/hexdash/generator/GregorianFields"), (0, u "lastOfMilli"), (0, u "(J)J"), (0, .long 9999), (1, .long 122192928000009999), (1, .long 10000), (3, .long 1152921504606846975), (1, .class_ 28), (0, u "com/example/hexdash/hexdash/generator/GregorianFieldsLastOfMilliPinLaw"), (2, u "law"), (0, u "(JJ)Z")] 3

def k1m0 : Method := { name := "<init>", desc := "()V", sig := { parameters := [], returnType := none }, accessFlags := 2, code := none }
def k1c1 : Code := { maxStack := 6, maxLocals := 23, code := code, exceptionTable := #[], attributes := #[] }
def k1m1 : Method := { name := "law", desc := "(JJ)Z", sig := { parameters := [.long, .long], returnType := some .boolean }, accessFlags := 9, code := some k1c1 }
/-- com/example/hexdash/hexdash/generator/GregorianFieldsLastOfMilliPinLaw -/
def k1 : Class := { plain "com/example/hexdash/hexdash/generator/GregorianFieldsLastOfMilliPinLaw" (some 0) with
  accessFlags := 49
  interfaces := #[]
  cf := some (fileOf pool1 27 #[] #[{ accessFlags := 2, nameIndex := 5, descriptorIndex := 6, attributes := #[] }, { accessFlags := 9, nameIndex := 31, descriptorIndex := 32, attributes := #[] }] 49 2 #[] #[])
  fields := #[]
  methods := #[k1m0, k1m1]
  instanceTypes := #[]
  staticTypes := #[]
  resolved := Array.replicate 36 none
  statics := none }

def pool2 : Array CpInfo := pool [(2, .class_ 4), (1, u "java/lang/Object"), (0, u "<init>"), (0, u "()V"), (8, .class_ 16), (0, u "com/example/hexdash/hexdash/generator/GregorianFields"), (2, .long 122192928000000000), (1, .long 10000), (26, u "UNREADABLE"), (0, u "J"), (1, u "INTERVALS_PER_MILLI"), (0, u "MULTICAST"), (0, u "NODE_BITS"), (4, u "lastOfMilli"), (0, u "(J)J")] 22

def k2m0 : Method := { name := "<init>", desc := "()V", sig := { parameters := [], returnType := none }, accessFlags := 2, code := none }
def k2c1 : Code := { maxStack := 6, maxLocals := 2, code := prog_16_method_3_code, exceptionTable := #[], attributes := #[] }
def k2m1 : Method := { name := "lastOfMilli", desc := "(J)J", sig := { parameters := [.long], returnType := some .long }, accessFlags := 8, code := some k2c1 }
/-- com/example/hexdash/hexdash/generator/GregorianFields -/
def k2 : Class := { plain "com/example/hexdash/hexdash/generator/GregorianFields" (some 0) with
  accessFlags := 48
  interfaces := #[]
  cf := some (fileOf pool2 15 #[] #[{ accessFlags := 2, nameIndex := 5, descriptorIndex := 6, attributes := #[] }, { accessFlags := 8, nameIndex := 58, descriptorIndex := 59, attributes := #[] }] 48 2 #[] #[{ accessFlags := 24, nameIndex := 48, descriptorIndex := 49, attributes := #[] }, { accessFlags := 24, nameIndex := 51, descriptorIndex := 49, attributes := #[] }, { accessFlags := 26, nameIndex := 52, descriptorIndex := 49, attributes := #[] }, { accessFlags := 26, nameIndex := 53, descriptorIndex := 49, attributes := #[] }])
  fields := #[{ name := "UNREADABLE", type := .long, accessFlags := 24, slot := 0, constantValue := 0 }, { name := "INTERVALS_PER_MILLI", type := .long, accessFlags := 24, slot := 1, constantValue := 0 }, { name := "MULTICAST", type := .long, accessFlags := 26, slot := 2, constantValue := 0 }, { name := "NODE_BITS", type := .long, accessFlags := 26, slot := 3, constantValue := 0 }]
  methods := #[k2m0, k2m1]
  instanceTypes := #[]
  staticTypes := #[.long, .long, .long, .long]
  resolved := Array.replicate 82 none
  statics := none }

def pool3 : Array CpInfo := pool [(1, u "java/lang/Cloneable"), (0, .class_ 1), (0, u "java/lang/Object"), (0, .class_ 3)] 3

/-- java/lang/Cloneable -/
def k3 : Class := { plain "java/lang/Cloneable" (some 0) with
  accessFlags := 1537
  interfaces := #[]
  cf := some (fileOf pool3 2 #[] #[] 1537 4 #[] #[])
  fields := #[]
  methods := #[]
  instanceTypes := #[]
  staticTypes := #[]
  resolved := Array.replicate 8 none
  statics := none }

def pool4 : Array CpInfo := pool [(1, u "java/io/Serializable"), (0, .class_ 1), (0, u "java/lang/Object"), (0, .class_ 3)] 3

/-- java/io/Serializable -/
def k4 : Class := { plain "java/io/Serializable" (some 0) with
  accessFlags := 1537
  interfaces := #[]
  cf := some (fileOf pool4 2 #[] #[] 1537 4 #[] #[])
  fields := #[]
  methods := #[]
  instanceTypes := #[]
  staticTypes := #[]
  resolved := Array.replicate 8 none
  statics := none }

/-- the primitive byte -/
def k5 : Class := { plain "byte" none with kind := .primitive 'B', accessFlags := 0x411 }
/-- [B -/
def k6 : Class := { plain "[B" (some 0) with kind := .array 5 .byte, interfaces := #[3, 4], accessFlags := 1041 }

/-- the primitive int -/
def k7 : Class := { plain "int" none with kind := .primitive 'I', accessFlags := 0x411 }
/-- [I -/
def k8 : Class := { plain "[I" (some 0) with kind := .array 7 .int, interfaces := #[3, 4], accessFlags := 1041 }

def heap : Heap := #[]
def classes : Array Class := #[k0, k1, k2, k3, k4, k5, k6, k7, k8]
def interned : List (Array UInt16 × Addr) := []
def slotsUsed : Nat := 0
def theMethod : MethodId := ⟨1, 1⟩
def args0 : Array Value := #[.long 5, .long 7]
def aboutOver (below : List Frame) : State where
  vm := { classes := classes, interned := interned.toArray }
  heap := heap
  slotsUsed := slotsUsed
  threads := #[{ frames := .invoking theMethod args0 :: below }]
def below0 : List Frame := [.native { method := ⟨0, 0⟩, args := #[] }]
def about1 : State := aboutOver below0
def p0 : Program := .bare "" "" ""
def e0 : Env := launch0.env 0 0 0
theorem w_frames : about1.frames = Frame.invoking theMethod args0 :: below0 := rfl
set_option maxRecDepth 65536 in
theorem w_args : argsFit about1.vm theMethod args0 = true := by decide +kernel
set_option maxRecDepth 65536 in
theorem w_heap : heapFits about1 = true := by decide +kernel
set_option maxRecDepth 65536 in
theorem w_runnable : about1.curStatus? = some .runnable := by decide +kernel
set_option maxRecDepth 65536 in
theorem w_alone : about1.alone = true := by decide +kernel
set_option maxRecDepth 65536 in
theorem w_named : about1.methodNamed? x = some theMethod := by decide +kernel
set_option maxRecDepth 65536 in
theorem w_hears : about1.hears theMethod below0 = true := by decide +kernel
set_option maxRecDepth 65536 in
theorem w_ripe : about1.ripe theMethod args0 below0 = true := by decide +kernel
theorem w_running : about1.status = .running := rfl
set_option maxRecDepth 65536 in
theorem w_room : about1.hasRoom e0.platform room_1 = true :=
  launch0.hasRoom_least _ room_1 (by decide +kernel) (by decide +kernel) (by decide +kernel) (by decide +kernel) (by decide +kernel) (by decide +kernel)
theorem allAtoms_all (ts : List Jvm.Cond) (a : Array Jvm.Value) (st : Jvm.State) : (allAtoms ts).before a st = ts.all (fun c => c.before a st) := by
  induction ts with
  | nil => rfl
  | cons c t ih =>
    show (Jvm.Cond.and c (allAtoms t)).before a st = _
    rw [Jvm.Cond.before_and, ih, List.all_cons]
def words1 : List Jvm.Cond := Jvm.Cond.code x code maxLocals ret :: tables_1
/-- a 'code' word, met by the world's own term for the bytes: nothing is compared byte by byte -/
theorem code_word {y : MethodName} {bytes : ByteArray} {mx : Nat} {rt : Option FieldType} {a : Array Value} {s : State} {m : MethodId} {meth : Method} {c : Code} (h1 : s.methodNamed? y = some m) (h2 : s.vm.method? m = some meth) (h3 : meth.code = some c) (h4 : c.code = bytes)
    (h5 : (c.maxLocals == mx && c.exceptionTable.isEmpty && decide (c.maxStack ≤ mostOperands) && decide (meth.sig.returnType = rt) && !meth.locks && decide (parseMethodDescriptor y.desc = some meth.sig)) = true) : (Jvm.Cond.code y bytes mx rt).before a s = true := by
  simp only [Bool.and_eq_true, beq_iff_eq, Bool.not_eq_true', decide_eq_true_eq] at h5
  obtain ⟨⟨⟨⟨⟨g1, g2⟩, g3⟩, g4⟩, g5⟩, g6⟩ := h5
  simp [Cond.before, Cond.holds, Cond.value, h1, h2, h3, h4, g1, g2, g3, g4, g5, g6]
def isCode : Jvm.Cond → Bool
  | .code _ _ _ _ => true
  | _ => false
theorem all_split {L : List Jvm.Cond} {P : Jvm.Cond → Bool} (h1 : L.all (fun c => isCode c || P c) = true) (h2 : ∀ c ∈ L.filter isCode, P c = true) : L.all P = true := by
  refine List.all_eq_true.mpr fun c hc => ?_
  have h := List.all_eq_true.mp h1 c hc
  rcases Bool.eq_false_or_eq_true (isCode c) with hi | hi
  · exact h2 c (List.mem_filter.mpr ⟨hc, hi⟩)
  · simpa [hi] using h
set_option maxRecDepth 65536 in
theorem w_c0 : (Jvm.Cond.code x code maxLocals ret).before args0 about1 = true := code_word (m := ⟨1, 1⟩) (meth := k1m1) (c := k1c1) (by decide +kernel) rfl rfl rfl (by decide +kernel)
set_option maxRecDepth 65536 in
theorem w_c1 : (Jvm.Cond.code ({ cls := "com/example/hexdash/hexdash/generator/GregorianFields", name := "lastOfMilli", desc := "(J)J" } : Jvm.MethodName) prog_16_method_3_code (2 : Nat) (Option.some Jvm.ClassFile.FieldType.long)).before args0 about1 = true := code_word (m := ⟨2, 1⟩) (meth := k2m1) (c := k2c1) (by decide +kernel) rfl rfl rfl (by decide +kernel)
def codes1 : List Jvm.Cond := [Jvm.Cond.code x code maxLocals ret, Jvm.Cond.code ({ cls := "com/example/hexdash/hexdash/generator/GregorianFields", name := "lastOfMilli", desc := "(J)J" } : Jvm.MethodName) prog_16_method_3_code (2 : Nat) (Option.some Jvm.ClassFile.FieldType.long)]
set_option maxRecDepth 65536 in
theorem codes_eq : words1.filter isCode = codes1 := rfl
theorem w_codes : ∀ c ∈ words1.filter isCode, c.before args0 about1 = true := by
  rw [codes_eq]
  intro c hc
  simp only [codes1, List.mem_cons, List.not_mem_nil, or_false] at hc
  rcases hc with rfl | rfl
  · exact w_c0
  · exact w_c1
set_option maxRecDepth 65536 in
theorem w_t1 : words1.all (fun c => isCode c || c.before args0 about1) = true := by decide +kernel
theorem w_tables : (allAtoms (Jvm.Cond.code x code maxLocals ret :: tables_1)).before args0 about1 = true := by
  rw [allAtoms_all]
  show words1.all (fun c => c.before args0 about1) = true
  refine all_split ?_ w_codes
  rw [w_t1]
set_option maxRecDepth 65536 in
theorem w_case : (Jvm.Cond.and given_1 narrow_1).before args0 about1 = true := by decide +kernel
theorem w_applies : (headSpec (Jvm.Cond.code x code maxLocals ret :: tables_1) room_1).applies x e0.platform about1 = true :=
  (Spec.applies_iff w_frames).mpr ⟨w_running, w_runnable, w_alone, w_named, w_hears, w_ripe, w_room, w_tables⟩
theorem atStart : AtStart classFile x code maxLocals ret World_1 tables_1 room_1 Calls_1 rest_1 Pre_1 launch0 p0 e0 about1 theMethod args0 below0 :=
  ⟨lists_1, trivial, launch0.admits_env _ _ _, launch0.least_env, fairChoices_fair.cas, fairChoices_fair.clock, w_frames, w_args, w_heap, w_applies, trivial, trivial, w_case⟩
end start1
theorem witness_1 : WitnessClaimed_1 := ⟨start1.p0, start1.e0, start1.about1, start1.theMethod, start1.args0, start1.below0, start1.atStart⟩
end Jvm.Pilot.@@N@@
