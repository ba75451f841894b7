import JvmDerived
import JvmDerived.Pilot.@@N@@Statement
import JvmDerived.Pilot.@@N@@Code
set_option linter.unusedVariables false
set_option linter.unusedSimpArgs false
namespace Jvm.RoadKit
open Sem ClassFile Op Lib Jvm.Stand Jvm.Free Jvm.LawKit
section New
variable {p : Program} {l : Launch} {e : Env} {R : Room} {s : State} {m : MethodId} {args : Array Value} {below : List Frame} {meth : Method} {c : Code} {T : State} {locs : List Loc} {cells slots : Nat}
theorem retI (X : Stand p l e R s m args below meth c T locs cells slots) (hx : p.tables.exec = Jvm.exec) {pc : Nat} {Ls : Array Slot} {z : Int32} {rest : List Value} (hret : meth.sig.returnType = some .int) (hd : decode c.code pc = .ok (.ireturn, 1)) {fs : List Frame}
    (hl : ∀ (f : JFrame) (acts : List Action), f.method = m → f.locked = none → f.entered = [] → (doReturn e (T.setTop f) acts (some (.int z))).1 = T.setFrames fs) : Steps p.tables e below (T.setTop (mkF m pc Ls (.int z :: rest))) (T.setFrames fs) := by
  have hm' : T.vm.method? m = some meth := X.method'
  have hn : narrow .int (.int z) = .int z := rfl
  show Steps p.tables e below (T.setTop { method := m, pc := pc, locals := Ls, stack := _ :: rest, locked := none }) _
  jvm_step X.here [X.here.top, hx, hd, hm', hret, hn]
  first | (intro acts; rw [hl _ acts rfl rfl rfl]) | rw [hl _ _ rfl rfl rfl]
  exact Steps.refl _
end New
end Jvm.RoadKit
namespace Jvm.Pilot.@@N@@
open Jvm Jvm.ClassFile Sem Op Lib Jvm.Free Jvm.Stand Jvm.LawKit Jvm.RoadKit Bundle Jvm.Pilot.@@N@@.Jvm.D
/-- what a walk owes from the state S on -/
def own_G (p : Program) (e : Env) (below : List Frame) (R : State → Outcome → Prop) (S : State) : Prop := ∃ t o, Steps p.tables e below S t ∧ R t o
theorem own_back {p : Program} {e : Env} {below : List Frame} {R : State → Outcome → Prop} {S S' : State} (k : ∀ t, Steps p.tables e below S' t → Steps p.tables e below S t) (h : own_G p e below R S') : own_G p e below R S := by
  obtain ⟨t, o, h1, h2⟩ := h
  exact ⟨t, o, k t h1, h2⟩
theorem own_open {p : Program} {e : Env} {below : List Frame} {R : State → Outcome → Prop} {S S' : State} (k : ∀ t, Steps p.tables e below S' t → Steps p.tables e below S t) (h : own_G p e below R S') : ∃ t o, Steps p.tables e below S t ∧ R t o := own_back k h
theorem own_done {p : Program} {e : Env} {below : List Frame} {R : State → Outcome → Prop} {S : State} (h : ∃ t o, Steps p.tables e below S t ∧ R t o) : own_G p e below R S := h
theorem own_ord {args : Array Value} {s : State} {t : Term} {C n d : String} {k : Int32} {a : Addr} (ht : t.eval args s none [] s = some (.ref a)) (h : (Cond.eq (Term.field t C n d) (Term.int k)).value args s none s [] = some true) : s.fieldOf? a C n d = some (.int k) := by
  have e1 : (Term.field t C n d).eval args s none [] s = s.fieldOf? a C n d := fld_at ht
  have e2 : (Term.int k).eval args s none [] s = some (.int k) := Term.int_eval k
  cases hf : s.fieldOf? a C n d with
  | none => rw [hf] at e1; simp [Cond.value, e1, e2] at h
  | some v => rw [hf] at e1; cases v <;> simp [Cond.value, e1, e2] at h ⊢; exact h
theorem own_ne {s : State} {C n d : String} {a b : Addr} {k k' : Int32} (h1 : s.fieldOf? a C n d = some (.int k)) (h2 : s.fieldOf? b C n d = some (.int k')) (hk : k ≠ k') : ¬ (a = b) := fun q => by
  subst q
  exact hk (Value.int.inj (Option.some.inj (h1.symm.trans h2)))
def own_mm (a b c : Addr) : Int32 := if a = b then 0 else if a = c then 0 else 1
theorem d1_0 : decode prog_33_method_7_code 0 = .ok (.aload_n 0, 1) := by decide +kernel
theorem d1_1 : decode prog_33_method_7_code 1 = .ok (.getstatic 16, 3) := by decide +kernel
theorem d1_4 : decode prog_33_method_7_code 4 = .ok (.if_acmp .eq 14, 3) := by decide +kernel
theorem d1_7 : decode prog_33_method_7_code 7 = .ok (.aload_n 0, 1) := by decide +kernel
theorem d1_8 : decode prog_33_method_7_code 8 = .ok (.getstatic 19, 3) := by decide +kernel
theorem d1_11 : decode prog_33_method_7_code 11 = .ok (.if_acmp .eq 7, 3) := by decide +kernel
theorem d1_14 : decode prog_33_method_7_code 14 = .ok (.iconst 1, 1) := by decide +kernel
theorem d1_15 : decode prog_33_method_7_code 15 = .ok (.goto 4, 3) := by decide +kernel
theorem d1_18 : decode prog_33_method_7_code 18 = .ok (.iconst 0, 1) := by decide +kernel
theorem d1_19 : decode prog_33_method_7_code 19 = .ok (.ireturn, 1) := by decide +kernel
theorem pn_com_example_openstrike_openstrike_market_Role : plainName "com/example/openstrike/openstrike/market/Role" = true := by first | (simp [plainName, overriddenIn]; done) | decide +kernel
theorem ef_1 (m : MethodId) (x0 : Addr) : entryFrame m #[(.ref x0)] 1 = mkF m 0 #[.val (.ref x0)] [] := by first | (simp [entryFrame, mkF, argsToLocals, Value.category]; done) | rfl
def Q1 (Z : State) (a1 : Addr) (w_BROKER_DEALER : Addr) (w_CUSTOMER : Addr) (h0 : Heap) (n0 : Nat) (v : Option Value) (h : Heap) (L : List Loc) : Prop := v = some (.int (own_mm a1 w_BROKER_DEALER w_CUSTOMER)) ∧ Fr n0 L ∧ h = h0
set_option maxRecDepth 65536 in
set_option maxHeartbeats 40000000 in
theorem rm1 (l : Launch) (Z : State) (a0 : Array Value) (hw : ∀ d ∈ tables_1, d.before a0 Z = true) (ws : List Jvm.Cond) (a1 : Addr) (w_BROKER_DEALER : Addr) (w_CUSTOMER : Addr) (h0 : Heap) (n0 : Nat) (Z0 : n0 ≤ h0.size) (S_BROKER_DEALER : Sta Z h0 "com/example/openstrike/openstrike/market/Role" "BROKER_DEALER" "Lcom/example/openstrike/openstrike/market/Role;" (.ref w_BROKER_DEALER)) (S_CUSTOMER : Sta Z h0 "com/example/openstrike/openstrike/market/Role" "CUSTOMER" "Lcom/example/openstrike/openstrike/market/Role;" (.ref w_CUSTOMER)) :
    MetFree l (⟨"com/example/openstrike/openstrike/market/Role", "isMarketMaker", "()Z"⟩ : MethodName) (head1 (Jvm.Cond.code (⟨"com/example/openstrike/openstrike/market/Role", "isMarketMaker", "()Z"⟩ : MethodName) prog_33_method_7_code 1 (some .boolean) :: ws) ({ frames := 0, cells := 0, slots := 0, locals := 0 } : Room)) (fun a U => a = #[(.ref a1)] ∧ Z.Warmed39 U.vm ∧ U.heap = h0) (fun _ _ _ _ _ => True) (fun _ U o U' => ∃ v L, o = .returned v ∧ Q1 Z a1 w_BROKER_DEALER w_CUSTOMER h0 n0 v U'.heap L ∧ FrameEnd U o U' L ({ frames := 0, cells := 0, slots := 0, locals := 0 } : Room).cells ({ frames := 0, cells := 0, slots := 0, locals := 0 } : Room).slots) := by
  refine MetFree.of_bodySF (plainFor_of_name pn_com_example_openstrike_openstrike_market_Role) hisR ?_
  intro p e s m args below meth c s₁ Bd hml0 hP hK
  obtain ⟨rfl, hZ, hh⟩ := hP
  have hx := Bd.exec
  have hby := Bd.bytes
  have hml : c.maxLocals = 1 := hml0
  have hown : s.vm.findClass "com/example/openstrike/openstrike/market/Role" = some m.cls := findClass_of_methodNamed Bd.named
  have hnm := (name_of_methodNamed Bd.named Bd.method).1
  have X0 : Stand p l e ({ frames := 0, cells := 0, slots := 0, locals := 0 } : Room) s m #[(.ref a1)] below meth c s₁ [] 0 0 := Stand.of_body Bd
  have e0 : s₁.heap = h0 := by rw [← hh, Bd.state]; rfl
  have N0 := Fr.nil n0
  refine own_open (S' := s₁.setTop (mkF m 0 #[.val (.ref a1)] [])) (fun t k => castTop (ef_1 m a1) k) ?_
  refine own_back (S' := s₁.setTop (mkF m 1 #[.val (.ref a1)] [(.ref a1)])) (fun _ k => XS.aloadN X0.here hx rfl (hb hby d1_0) rfl rfl k) ?_
  obtain ⟨T1, X1, e1, st1⟩ := getS2 X0 hx hZ hown (host := "") (Or.inl (hw _ (List.mem_of_getElem? (i := 9) rfl))) Via.refl e0 S_BROKER_DEALER (g := (mkF m 1 #[.val (.ref a1)] [(.ref a1)])) rfl (hb hby d1_1)
  refine own_back (S' := T1.setTop (mkF m 4 #[.val (.ref a1)] [(.ref w_BROKER_DEALER), (.ref a1)])) (st1) ?_
  by_cases ha4_2 : a1 = w_BROKER_DEALER
  ·
    refine own_back (S' := T1.setTop (mkF m 18 #[.val (.ref a1)] [])) (fun _ k => Jvm.RoadKit.acmp (g := (mkF m 4 #[.val (.ref a1)] [(.ref w_BROKER_DEALER), (.ref a1)])) X1 hx rfl rfl rfl (pc0 := 4) (pc' := 18) (same := true) rfl (hb hby d1_4) rfl (decide_eq_true (congrArg Value.ref (ha4_2 : a1 = w_BROKER_DEALER))) (by decide) (by decide) k) ?_
    refine own_back (S' := T1.setTop (mkF m 19 #[.val (.ref a1)] [(.int (0 : Int32))])) (fun _ k => XS.iconst X1.here hx rfl (hb hby d1_18)  k) ?_
    obtain ⟨fs, hr, hrun, hended, hW, hsame⟩ := X1.leave (v := some (.int (0 : Int32))) (fun h => by rw [Bd.returns] at h; cases h)
    refine own_done ⟨_, _, retN X1 hx (t := .boolean) Bd.returns (by simp) (hb hby d1_19) hr, hrun, hended, _, _, rfl, ?_, ⟨_, rfl⟩, hW, hsame.mono (by decide) (by decide)⟩
    show Q1 Z a1 w_BROKER_DEALER w_CUSTOMER h0 n0 _ T1.heap _
    rw [e1]
    exact ⟨by unfold own_mm; rw [if_pos ha4_2], N0, rfl⟩
  ·
    refine own_back (S' := T1.setTop (mkF m 7 #[.val (.ref a1)] [])) (fun _ k => Jvm.RoadKit.acmp (g := (mkF m 4 #[.val (.ref a1)] [(.ref w_BROKER_DEALER), (.ref a1)])) X1 hx rfl rfl rfl (pc0 := 4) (pc' := 7) (same := false) rfl (hb hby d1_4) rfl (decide_eq_false fun q_ => (ha4_2 : ¬ (a1 = w_BROKER_DEALER)) (Value.ref.inj q_)) (by decide) (by decide) k) ?_
    refine own_back (S' := T1.setTop (mkF m 8 #[.val (.ref a1)] [(.ref a1)])) (fun _ k => XS.aloadN X1.here hx rfl (hb hby d1_7) rfl rfl k) ?_
    obtain ⟨T4, X4, e4, st4⟩ := getS2 X1 hx hZ hown (host := "") (Or.inl (hw _ (List.mem_of_getElem? (i := 11) rfl))) Via.refl e1 S_CUSTOMER (g := (mkF m 8 #[.val (.ref a1)] [(.ref a1)])) rfl (hb hby d1_8)
    refine own_back (S' := T4.setTop (mkF m 11 #[.val (.ref a1)] [(.ref w_CUSTOMER), (.ref a1)])) (st4) ?_
    by_cases ha11_5 : a1 = w_CUSTOMER
    ·
      refine own_back (S' := T4.setTop (mkF m 18 #[.val (.ref a1)] [])) (fun _ k => Jvm.RoadKit.acmp (g := (mkF m 11 #[.val (.ref a1)] [(.ref w_CUSTOMER), (.ref a1)])) X4 hx rfl rfl rfl (pc0 := 11) (pc' := 18) (same := true) rfl (hb hby d1_11) rfl (decide_eq_true (congrArg Value.ref (ha11_5 : a1 = w_CUSTOMER))) (by decide) (by decide) k) ?_
      refine own_back (S' := T4.setTop (mkF m 19 #[.val (.ref a1)] [(.int (0 : Int32))])) (fun _ k => XS.iconst X4.here hx rfl (hb hby d1_18)  k) ?_
      obtain ⟨fs, hr, hrun, hended, hW, hsame⟩ := X4.leave (v := some (.int (0 : Int32))) (fun h => by rw [Bd.returns] at h; cases h)
      refine own_done ⟨_, _, retN X4 hx (t := .boolean) Bd.returns (by simp) (hb hby d1_19) hr, hrun, hended, _, _, rfl, ?_, ⟨_, rfl⟩, hW, hsame.mono (by decide) (by decide)⟩
      show Q1 Z a1 w_BROKER_DEALER w_CUSTOMER h0 n0 _ T4.heap _
      rw [e4]
      exact ⟨by unfold own_mm; rw [if_neg ha4_2, if_pos ha11_5], N0, rfl⟩
    ·
      refine own_back (S' := T4.setTop (mkF m 14 #[.val (.ref a1)] [])) (fun _ k => Jvm.RoadKit.acmp (g := (mkF m 11 #[.val (.ref a1)] [(.ref w_CUSTOMER), (.ref a1)])) X4 hx rfl rfl rfl (pc0 := 11) (pc' := 14) (same := false) rfl (hb hby d1_11) rfl (decide_eq_false fun q_ => (ha11_5 : ¬ (a1 = w_CUSTOMER)) (Value.ref.inj q_)) (by decide) (by decide) k) ?_
      refine own_back (S' := T4.setTop (mkF m 15 #[.val (.ref a1)] [(.int (1 : Int32))])) (fun _ k => XS.iconst X4.here hx rfl (hb hby d1_14)  k) ?_
      refine own_back (S' := T4.setTop (mkF m 19 #[.val (.ref a1)] [(.int (1 : Int32))])) (fun _ k => XS.goto X4.here hx rfl (pc0 := 15) (pc' := 19) rfl (hb hby d1_15) (by decide) (by decide) k) ?_
      obtain ⟨fs, hr, hrun, hended, hW, hsame⟩ := X4.leave (v := some (.int (1 : Int32))) (fun h => by rw [Bd.returns] at h; cases h)
      refine own_done ⟨_, _, retN X4 hx (t := .boolean) Bd.returns (by simp) (hb hby d1_19) hr, hrun, hended, _, _, rfl, ?_, ⟨_, rfl⟩, hW, hsame.mono (by decide) (by decide)⟩
      show Q1 Z a1 w_BROKER_DEALER w_CUSTOMER h0 n0 _ T4.heap _
      rw [e4]
      exact ⟨by unfold own_mm; rw [if_neg ha4_2, if_neg ha11_5], N0, rfl⟩
theorem pd_0 : parseMethodDescriptor "()Z" = some ⟨[], some .boolean⟩ := by decide +kernel
theorem pn_com_example_openstrike_openstrike_market_RoleIsMarketMakerPinLaw : plainName "com/example/openstrike/openstrike/market/RoleIsMarketMakerPinLaw" = true := by first | (simp [plainName, overriddenIn]; done) | decide +kernel
theorem ef_0 (m : MethodId) (x0 : Int32) : entryFrame m #[(.int x0)] maxLocals = mkF m 0 #[.val (.int x0), .unset, .unset, .unset] [] := by first | (simp [entryFrame, mkF, argsToLocals, Value.category, maxLocals]; done) | rfl
def Q0 (Z : State) (p1 : Int32) (w_SPECIALIST : Addr) (w_SQT : Addr) (w_RSQT : Addr) (w_ROT : Addr) (w_BROKER_DEALER : Addr) (w_CUSTOMER : Addr) (h0 : Heap) (n0 : Nat) (v : Option Value) (h : Heap) (L : List Loc) : Prop := v = some (.int (1 : Int32)) ∧ Fr n0 L
set_option maxRecDepth 65536 in
set_option maxHeartbeats 40000000 in
theorem rm0 (l : Launch) (Z : State) (a0 : Array Value) (hw : ∀ d ∈ tables_1, d.before a0 Z = true) (ws : List Jvm.Cond) (p1 : Int32) (w_SPECIALIST : Addr) (w_SQT : Addr) (w_RSQT : Addr) (w_ROT : Addr) (w_BROKER_DEALER : Addr) (w_CUSTOMER : Addr) (h0 : Heap) (n0 : Nat) (Z0 : n0 ≤ h0.size) (S_SPECIALIST : Sta Z h0 "com/example/openstrike/openstrike/market/Role" "SPECIALIST" "Lcom/example/openstrike/openstrike/market/Role;" (.ref w_SPECIALIST)) (S_SQT : Sta Z h0 "com/example/openstrike/openstrike/market/Role" "SQT" "Lcom/example/openstrike/openstrike/market/Role;" (.ref w_SQT)) (S_RSQT : Sta Z h0 "com/example/openstrike/openstrike/market/Role" "RSQT" "Lcom/example/openstrike/openstrike/market/Role;" (.ref w_RSQT)) (S_ROT : Sta Z h0 "com/example/openstrike/openstrike/market/Role" "ROT" "Lcom/example/openstrike/openstrike/market/Role;" (.ref w_ROT)) (S_BROKER_DEALER : Sta Z h0 "com/example/openstrike/openstrike/market/Role" "BROKER_DEALER" "Lcom/example/openstrike/openstrike/market/Role;" (.ref w_BROKER_DEALER)) (S_CUSTOMER : Sta Z h0 "com/example/openstrike/openstrike/market/Role" "CUSTOMER" "Lcom/example/openstrike/openstrike/market/Role;" (.ref w_CUSTOMER)) (E_SPECIALIST : Exa Z h0 w_SPECIALIST "com/example/openstrike/openstrike/market/Role") (E_SQT : Exa Z h0 w_SQT "com/example/openstrike/openstrike/market/Role") (E_RSQT : Exa Z h0 w_RSQT "com/example/openstrike/openstrike/market/Role") (E_ROT : Exa Z h0 w_ROT "com/example/openstrike/openstrike/market/Role") (E_BROKER_DEALER : Exa Z h0 w_BROKER_DEALER "com/example/openstrike/openstrike/market/Role") (E_CUSTOMER : Exa Z h0 w_CUSTOMER "com/example/openstrike/openstrike/market/Role") (m_SPECIALIST : own_mm w_SPECIALIST w_BROKER_DEALER w_CUSTOMER = (1 : Int32)) (m_SQT : own_mm w_SQT w_BROKER_DEALER w_CUSTOMER = (1 : Int32)) (m_RSQT : own_mm w_RSQT w_BROKER_DEALER w_CUSTOMER = (1 : Int32)) (m_ROT : own_mm w_ROT w_BROKER_DEALER w_CUSTOMER = (1 : Int32)) (m_BROKER_DEALER : own_mm w_BROKER_DEALER w_BROKER_DEALER w_CUSTOMER = (0 : Int32)) (m_CUSTOMER : own_mm w_CUSTOMER w_BROKER_DEALER w_CUSTOMER = (0 : Int32)) :
    MetFree l x (head1 (Jvm.Cond.code x code maxLocals ret :: ws) room_1) (fun a U => a = #[(.int p1)] ∧ Z.Warmed39 U.vm ∧ U.heap = h0) (fun _ _ _ _ _ => True) (fun _ U o U' => ∃ v L, o = .returned v ∧ Q0 Z p1 w_SPECIALIST w_SQT w_RSQT w_ROT w_BROKER_DEALER w_CUSTOMER h0 n0 v U'.heap L ∧ FrameEnd U o U' L room_1.cells room_1.slots) := by
  refine MetFree.of_bodySF (plainFor_of_name pn_com_example_openstrike_openstrike_market_RoleIsMarketMakerPinLaw) hisR ?_
  intro p e s m args below meth c s₁ Bd hml0 hP hK
  obtain ⟨rfl, hZ, hh⟩ := hP
  have hx := Bd.exec
  have hby := Bd.bytes
  have hml : c.maxLocals = 4 := hml0
  have hown : s.vm.findClass "com/example/openstrike/openstrike/market/RoleIsMarketMakerPinLaw" = some m.cls := findClass_of_methodNamed Bd.named
  have hnm := (name_of_methodNamed Bd.named Bd.method).1
  have X0 : Stand p l e room_1 s m #[(.int p1)] below meth c s₁ [] 0 0 := Stand.of_body Bd
  have e0 : s₁.heap = h0 := by rw [← hh, Bd.state]; rfl
  have N0 := Fr.nil n0
  refine own_open (S' := s₁.setTop (mkF m 0 #[.val (.int p1), .unset, .unset, .unset] [])) (fun t k => castTop (ef_0 m p1) k) ?_
  refine own_back (S' := s₁.setTop (mkF m 1 #[.val (.int p1), .unset, .unset, .unset] [(.int p1)])) (fun _ k => XS.iloadN X0.here hx rfl (hb hby at_0) rfl k) ?_
  refine own_back (S' := s₁.setTop (mkF m 3 #[.val (.int p1), .unset, .unset, .unset] [(.int (2147483647 : Int32)), (.int p1)])) (fun _ k => X0.ldcInt hx hown (mvT hZ (hw _ (List.mem_of_getElem? (i := 0) rfl))) (g := (mkF m 1 #[.val (.int p1), .unset, .unset, .unset] [(.int p1)])) rfl (hb hby at_1) _ k) ?_
  refine own_back (S' := s₁.setTop (mkF m 4 #[.val (.int p1), .unset, .unset, .unset] [(.int (p1 &&& (2147483647 : Int32)))])) (fun _ k => XS.iand X0.here hx rfl (hb hby at_3) rfl k) ?_
  refine own_back (S' := s₁.setTop (mkF m 6 #[.val (.int p1), .unset, .unset, .unset] [(.int (6 : Int32)), (.int (p1 &&& (2147483647 : Int32)))])) (fun _ k => XS.bipush X0.here hx rfl (hb hby at_4)  k) ?_
  refine own_back (S' := s₁.setTop (mkF m 7 #[.val (.int p1), .unset, .unset, .unset] [(.int ((p1 &&& (2147483647 : Int32)) % (6 : Int32)))])) (fun _ k => iremM X0 hx rfl (hb hby at_6) rfl (by decide) k) ?_
  refine own_back (S' := s₁.setTop (mkF m 8 #[.val (.int p1), .val (.int ((p1 &&& (2147483647 : Int32)) % (6 : Int32))), .unset, .unset] [])) (fun _ k => XS.istoreN X0.here hx rfl (hb hby at_7) rfl (l' := #[.val (.int p1), .val (.int ((p1 &&& (2147483647 : Int32)) % (6 : Int32))), .unset, .unset]) rfl k) ?_
  refine own_back (S' := s₁.setTop (mkF m 9 #[.val (.int p1), .val (.int ((p1 &&& (2147483647 : Int32)) % (6 : Int32))), .unset, .unset] [(.int ((p1 &&& (2147483647 : Int32)) % (6 : Int32)))])) (fun _ k => XS.iloadN X0.here hx rfl (hb hby at_8) rfl k) ?_
  by_cases hc9_1 : ((p1 &&& (2147483647 : Int32)) % (6 : Int32)) = (0 : Int32)
  ·
    refine own_back (S' := s₁.setTop (mkF m 12 #[.val (.int p1), .val (.int ((p1 &&& (2147483647 : Int32)) % (6 : Int32))), .unset, .unset] [])) (fun _ k => XS.ifNo X0.here hx rfl (hb hby at_9) rfl ((if0 _ _).trans (teq hc9_1).2) k) ?_
    obtain ⟨T2, X2, e2, st2⟩ := getS2 X0 hx hZ hown (host := "") (Or.inl (hw _ (List.mem_of_getElem? (i := 1) rfl))) Via.refl e0 S_SPECIALIST (g := (mkF m 12 #[.val (.int p1), .val (.int ((p1 &&& (2147483647 : Int32)) % (6 : Int32))), .unset, .unset] [])) rfl (hb hby at_12)
    refine own_back (S' := T2.setTop (mkF m 15 #[.val (.int p1), .val (.int ((p1 &&& (2147483647 : Int32)) % (6 : Int32))), .unset, .unset] [(.ref w_SPECIALIST)])) (st2) ?_
    refine own_back (S' := T2.setTop (mkF m 16 #[.val (.int p1), .val (.int ((p1 &&& (2147483647 : Int32)) % (6 : Int32))), .val (.ref w_SPECIALIST), .unset] [])) (fun _ k => XS.astoreN X2.here hx rfl (hb hby at_15) rfl rfl (l' := #[.val (.int p1), .val (.int ((p1 &&& (2147483647 : Int32)) % (6 : Int32))), .val (.ref w_SPECIALIST), .unset]) rfl k) ?_
    refine own_back (S' := T2.setTop (mkF m 17 #[.val (.int p1), .val (.int ((p1 &&& (2147483647 : Int32)) % (6 : Int32))), .val (.ref w_SPECIALIST), .unset] [(.int (1 : Int32))])) (fun _ k => XS.iconst X2.here hx rfl (hb hby at_16)  k) ?_
    refine own_back (S' := T2.setTop (mkF m 18 #[.val (.int p1), .val (.int ((p1 &&& (2147483647 : Int32)) % (6 : Int32))), .val (.ref w_SPECIALIST), .val (.int (1 : Int32))] [])) (fun _ k => XS.istoreN X2.here hx rfl (hb hby at_17) rfl (l' := #[.val (.int p1), .val (.int ((p1 &&& (2147483647 : Int32)) % (6 : Int32))), .val (.ref w_SPECIALIST), .val (.int (1 : Int32))]) rfl k) ?_
    refine own_back (S' := T2.setTop (mkF m 83 #[.val (.int p1), .val (.int ((p1 &&& (2147483647 : Int32)) % (6 : Int32))), .val (.ref w_SPECIALIST), .val (.int (1 : Int32))] [])) (fun _ k => XS.goto X2.here hx rfl (pc0 := 18) (pc' := 83) rfl (hb hby at_18) (by decide) (by decide) k) ?_
    refine own_back (S' := T2.setTop (mkF m 84 #[.val (.int p1), .val (.int ((p1 &&& (2147483647 : Int32)) % (6 : Int32))), .val (.ref w_SPECIALIST), .val (.int (1 : Int32))] [(.ref w_SPECIALIST)])) (fun _ k => XS.aloadN X2.here hx rfl (hb hby at_83) rfl rfl k) ?_
    obtain ⟨cq3, kq3, q3a, q3b, q3c⟩ := isOf hZ e2 E_SPECIALIST
    obtain ⟨_, _, ⟨T3, L3, k3, n3⟩, -, X3, ⟨Lc3, hQ3, l3, y3, z3⟩, st3⟩ := X2.virtualBack hx (y := (⟨"com/example/openstrike/openstrike/market/Role", "isMarketMaker", "()Z"⟩ : MethodName)) (z := (⟨"com/example/openstrike/openstrike/market/Role", "isMarketMaker", "()Z"⟩ : MethodName)) hown (mvT hZ (hw _ (List.mem_of_getElem? (i := 4) rfl))) (mvT hZ (hw _ (List.mem_of_getElem? (i := 5) rfl))) (notFace_of_selects (args := #[]) (mvT hZ (hw _ (List.mem_of_getElem? (i := 7) rfl)))) (mvT hZ (hw _ (List.mem_of_getElem? (i := 7) rfl))) (mvT hZ (hw _ (List.mem_of_getElem? (i := 6) rfl))) (by decide) (backOf (W := 0) (rm1 l Z a0 hw [] w_SPECIALIST w_BROKER_DEALER w_CUSTOMER h0 n0 Z0 S_BROKER_DEALER S_CUSTOMER) hZ (hw _ (List.mem_of_getElem? (i := 8) rfl)) (hw _ (List.mem_of_getElem? (i := 2) rfl)) (by decide) (by decide)) q3a q3c (g := (mkF m 84 #[.val (.int p1), .val (.int ((p1 &&& (2147483647 : Int32)) % (6 : Int32))), .val (.ref w_SPECIALIST), .val (.int (1 : Int32))] [(.ref w_SPECIALIST)])) rfl (by rw [hml]; rfl) (Steps.refl _) (argsL := []) (rest := []) (lenOf pd_0 rfl) rfl (by show 2 * 0 + _ ≤ _; exact Nat.le_of_eq rfl) (hb hby at_84) (fun _ _ => ⟨rfl, e2, (by decide : 0 + 0 ≤ _), (by decide : 0 + 0 ≤ _)⟩)
    dsimp only [Pt.U, Pt.locs, Pt.cells, Pt.slots] at X3 l3 y3 z3 st3 hQ3
    subst l3 y3 z3
    obtain ⟨rfl, N3q, e3⟩ := hQ3
    have N3 := Fr.app N0 N3q
    refine own_back (S' := T3.setTop (mkF m 87 #[.val (.int p1), .val (.int ((p1 &&& (2147483647 : Int32)) % (6 : Int32))), .val (.ref w_SPECIALIST), .val (.int (1 : Int32))] [(.int (own_mm w_SPECIALIST w_BROKER_DEALER w_CUSTOMER))])) (fun _ k => st3.trans k) ?_
    refine own_back (S' := T3.setTop (mkF m 88 #[.val (.int p1), .val (.int ((p1 &&& (2147483647 : Int32)) % (6 : Int32))), .val (.ref w_SPECIALIST), .val (.int (1 : Int32))] [(.int (1 : Int32)), (.int (own_mm w_SPECIALIST w_BROKER_DEALER w_CUSTOMER))])) (fun _ k => XS.iloadN X3.here hx rfl (hb hby at_87) rfl k) ?_
    refine own_back (S' := T3.setTop (mkF m 91 #[.val (.int p1), .val (.int ((p1 &&& (2147483647 : Int32)) % (6 : Int32))), .val (.ref w_SPECIALIST), .val (.int (1 : Int32))] [])) (fun _ k => XS.icmpNo X3.here hx rfl (hb hby at_88) rfl (teq (m_SPECIALIST : (own_mm w_SPECIALIST w_BROKER_DEALER w_CUSTOMER) = (1 : Int32))).2 k) ?_
    refine own_back (S' := T3.setTop (mkF m 92 #[.val (.int p1), .val (.int ((p1 &&& (2147483647 : Int32)) % (6 : Int32))), .val (.ref w_SPECIALIST), .val (.int (1 : Int32))] [(.int (1 : Int32))])) (fun _ k => XS.iconst X3.here hx rfl (hb hby at_91)  k) ?_
    refine own_back (S' := T3.setTop (mkF m 96 #[.val (.int p1), .val (.int ((p1 &&& (2147483647 : Int32)) % (6 : Int32))), .val (.ref w_SPECIALIST), .val (.int (1 : Int32))] [(.int (1 : Int32))])) (fun _ k => XS.goto X3.here hx rfl (pc0 := 92) (pc' := 96) rfl (hb hby at_92) (by decide) (by decide) k) ?_
    obtain ⟨fs, hr, hrun, hended, hW, hsame⟩ := X3.leave (v := some (.int (1 : Int32))) (fun h => by rw [Bd.returns] at h; cases h)
    refine own_done ⟨_, _, retN X3 hx (t := .boolean) Bd.returns (by simp) (hb hby at_96) hr, hrun, hended, _, _, rfl, ?_, ⟨_, rfl⟩, hW, hsame.mono (by decide) (by decide)⟩
    show Q0 Z p1 w_SPECIALIST w_SQT w_RSQT w_ROT w_BROKER_DEALER w_CUSTOMER h0 n0 _ T3.heap _
    rw [e3]
    exact ⟨rfl, N3⟩
  ·
    refine own_back (S' := s₁.setTop (mkF m 21 #[.val (.int p1), .val (.int ((p1 &&& (2147483647 : Int32)) % (6 : Int32))), .unset, .unset] [])) (fun _ k => XS.ifYes X0.here hx rfl (pc0 := 9) (pc' := 21) rfl (hb hby at_9) rfl ((if0 _ _).trans (feq hc9_1).2) (by decide) (by decide) k) ?_
    refine own_back (S' := s₁.setTop (mkF m 22 #[.val (.int p1), .val (.int ((p1 &&& (2147483647 : Int32)) % (6 : Int32))), .unset, .unset] [(.int ((p1 &&& (2147483647 : Int32)) % (6 : Int32)))])) (fun _ k => XS.iloadN X0.here hx rfl (hb hby at_21) rfl k) ?_
    refine own_back (S' := s₁.setTop (mkF m 23 #[.val (.int p1), .val (.int ((p1 &&& (2147483647 : Int32)) % (6 : Int32))), .unset, .unset] [(.int (1 : Int32)), (.int ((p1 &&& (2147483647 : Int32)) % (6 : Int32)))])) (fun _ k => XS.iconst X0.here hx rfl (hb hby at_22)  k) ?_
    by_cases hc23_5 : ((p1 &&& (2147483647 : Int32)) % (6 : Int32)) = (1 : Int32)
    ·
      refine own_back (S' := s₁.setTop (mkF m 26 #[.val (.int p1), .val (.int ((p1 &&& (2147483647 : Int32)) % (6 : Int32))), .unset, .unset] [])) (fun _ k => XS.icmpNo X0.here hx rfl (hb hby at_23) rfl (teq hc23_5).2 k) ?_
      obtain ⟨T6, X6, e6, st6⟩ := getS2 X0 hx hZ hown (host := "") (Or.inl (hw _ (List.mem_of_getElem? (i := 17) rfl))) Via.refl e0 S_SQT (g := (mkF m 26 #[.val (.int p1), .val (.int ((p1 &&& (2147483647 : Int32)) % (6 : Int32))), .unset, .unset] [])) rfl (hb hby at_26)
      refine own_back (S' := T6.setTop (mkF m 29 #[.val (.int p1), .val (.int ((p1 &&& (2147483647 : Int32)) % (6 : Int32))), .unset, .unset] [(.ref w_SQT)])) (st6) ?_
      refine own_back (S' := T6.setTop (mkF m 30 #[.val (.int p1), .val (.int ((p1 &&& (2147483647 : Int32)) % (6 : Int32))), .val (.ref w_SQT), .unset] [])) (fun _ k => XS.astoreN X6.here hx rfl (hb hby at_29) rfl rfl (l' := #[.val (.int p1), .val (.int ((p1 &&& (2147483647 : Int32)) % (6 : Int32))), .val (.ref w_SQT), .unset]) rfl k) ?_
      refine own_back (S' := T6.setTop (mkF m 31 #[.val (.int p1), .val (.int ((p1 &&& (2147483647 : Int32)) % (6 : Int32))), .val (.ref w_SQT), .unset] [(.int (1 : Int32))])) (fun _ k => XS.iconst X6.here hx rfl (hb hby at_30)  k) ?_
      refine own_back (S' := T6.setTop (mkF m 32 #[.val (.int p1), .val (.int ((p1 &&& (2147483647 : Int32)) % (6 : Int32))), .val (.ref w_SQT), .val (.int (1 : Int32))] [])) (fun _ k => XS.istoreN X6.here hx rfl (hb hby at_31) rfl (l' := #[.val (.int p1), .val (.int ((p1 &&& (2147483647 : Int32)) % (6 : Int32))), .val (.ref w_SQT), .val (.int (1 : Int32))]) rfl k) ?_
      refine own_back (S' := T6.setTop (mkF m 83 #[.val (.int p1), .val (.int ((p1 &&& (2147483647 : Int32)) % (6 : Int32))), .val (.ref w_SQT), .val (.int (1 : Int32))] [])) (fun _ k => XS.goto X6.here hx rfl (pc0 := 32) (pc' := 83) rfl (hb hby at_32) (by decide) (by decide) k) ?_
      refine own_back (S' := T6.setTop (mkF m 84 #[.val (.int p1), .val (.int ((p1 &&& (2147483647 : Int32)) % (6 : Int32))), .val (.ref w_SQT), .val (.int (1 : Int32))] [(.ref w_SQT)])) (fun _ k => XS.aloadN X6.here hx rfl (hb hby at_83) rfl rfl k) ?_
      obtain ⟨cq7, kq7, q7a, q7b, q7c⟩ := isOf hZ e6 E_SQT
      obtain ⟨_, _, ⟨T7, L7, k7, n7⟩, -, X7, ⟨Lc7, hQ7, l7, y7, z7⟩, st7⟩ := X6.virtualBack hx (y := (⟨"com/example/openstrike/openstrike/market/Role", "isMarketMaker", "()Z"⟩ : MethodName)) (z := (⟨"com/example/openstrike/openstrike/market/Role", "isMarketMaker", "()Z"⟩ : MethodName)) hown (mvT hZ (hw _ (List.mem_of_getElem? (i := 4) rfl))) (mvT hZ (hw _ (List.mem_of_getElem? (i := 5) rfl))) (notFace_of_selects (args := #[]) (mvT hZ (hw _ (List.mem_of_getElem? (i := 7) rfl)))) (mvT hZ (hw _ (List.mem_of_getElem? (i := 7) rfl))) (mvT hZ (hw _ (List.mem_of_getElem? (i := 6) rfl))) (by decide) (backOf (W := 0) (rm1 l Z a0 hw [] w_SQT w_BROKER_DEALER w_CUSTOMER h0 n0 Z0 S_BROKER_DEALER S_CUSTOMER) hZ (hw _ (List.mem_of_getElem? (i := 8) rfl)) (hw _ (List.mem_of_getElem? (i := 2) rfl)) (by decide) (by decide)) q7a q7c (g := (mkF m 84 #[.val (.int p1), .val (.int ((p1 &&& (2147483647 : Int32)) % (6 : Int32))), .val (.ref w_SQT), .val (.int (1 : Int32))] [(.ref w_SQT)])) rfl (by rw [hml]; rfl) (Steps.refl _) (argsL := []) (rest := []) (lenOf pd_0 rfl) rfl (by show 2 * 0 + _ ≤ _; exact Nat.le_of_eq rfl) (hb hby at_84) (fun _ _ => ⟨rfl, e6, (by decide : 0 + 0 ≤ _), (by decide : 0 + 0 ≤ _)⟩)
      dsimp only [Pt.U, Pt.locs, Pt.cells, Pt.slots] at X7 l7 y7 z7 st7 hQ7
      subst l7 y7 z7
      obtain ⟨rfl, N7q, e7⟩ := hQ7
      have N7 := Fr.app N0 N7q
      refine own_back (S' := T7.setTop (mkF m 87 #[.val (.int p1), .val (.int ((p1 &&& (2147483647 : Int32)) % (6 : Int32))), .val (.ref w_SQT), .val (.int (1 : Int32))] [(.int (own_mm w_SQT w_BROKER_DEALER w_CUSTOMER))])) (fun _ k => st7.trans k) ?_
      refine own_back (S' := T7.setTop (mkF m 88 #[.val (.int p1), .val (.int ((p1 &&& (2147483647 : Int32)) % (6 : Int32))), .val (.ref w_SQT), .val (.int (1 : Int32))] [(.int (1 : Int32)), (.int (own_mm w_SQT w_BROKER_DEALER w_CUSTOMER))])) (fun _ k => XS.iloadN X7.here hx rfl (hb hby at_87) rfl k) ?_
      refine own_back (S' := T7.setTop (mkF m 91 #[.val (.int p1), .val (.int ((p1 &&& (2147483647 : Int32)) % (6 : Int32))), .val (.ref w_SQT), .val (.int (1 : Int32))] [])) (fun _ k => XS.icmpNo X7.here hx rfl (hb hby at_88) rfl (teq (m_SQT : (own_mm w_SQT w_BROKER_DEALER w_CUSTOMER) = (1 : Int32))).2 k) ?_
      refine own_back (S' := T7.setTop (mkF m 92 #[.val (.int p1), .val (.int ((p1 &&& (2147483647 : Int32)) % (6 : Int32))), .val (.ref w_SQT), .val (.int (1 : Int32))] [(.int (1 : Int32))])) (fun _ k => XS.iconst X7.here hx rfl (hb hby at_91)  k) ?_
      refine own_back (S' := T7.setTop (mkF m 96 #[.val (.int p1), .val (.int ((p1 &&& (2147483647 : Int32)) % (6 : Int32))), .val (.ref w_SQT), .val (.int (1 : Int32))] [(.int (1 : Int32))])) (fun _ k => XS.goto X7.here hx rfl (pc0 := 92) (pc' := 96) rfl (hb hby at_92) (by decide) (by decide) k) ?_
      obtain ⟨fs, hr, hrun, hended, hW, hsame⟩ := X7.leave (v := some (.int (1 : Int32))) (fun h => by rw [Bd.returns] at h; cases h)
      refine own_done ⟨_, _, retN X7 hx (t := .boolean) Bd.returns (by simp) (hb hby at_96) hr, hrun, hended, _, _, rfl, ?_, ⟨_, rfl⟩, hW, hsame.mono (by decide) (by decide)⟩
      show Q0 Z p1 w_SPECIALIST w_SQT w_RSQT w_ROT w_BROKER_DEALER w_CUSTOMER h0 n0 _ T7.heap _
      rw [e7]
      exact ⟨rfl, N7⟩
    ·
      refine own_back (S' := s₁.setTop (mkF m 35 #[.val (.int p1), .val (.int ((p1 &&& (2147483647 : Int32)) % (6 : Int32))), .unset, .unset] [])) (fun _ k => XS.icmpYes X0.here hx rfl (pc0 := 23) (pc' := 35) rfl (hb hby at_23) rfl (feq hc23_5).2 (by decide) (by decide) k) ?_
      refine own_back (S' := s₁.setTop (mkF m 36 #[.val (.int p1), .val (.int ((p1 &&& (2147483647 : Int32)) % (6 : Int32))), .unset, .unset] [(.int ((p1 &&& (2147483647 : Int32)) % (6 : Int32)))])) (fun _ k => XS.iloadN X0.here hx rfl (hb hby at_35) rfl k) ?_
      refine own_back (S' := s₁.setTop (mkF m 37 #[.val (.int p1), .val (.int ((p1 &&& (2147483647 : Int32)) % (6 : Int32))), .unset, .unset] [(.int (2 : Int32)), (.int ((p1 &&& (2147483647 : Int32)) % (6 : Int32)))])) (fun _ k => XS.iconst X0.here hx rfl (hb hby at_36)  k) ?_
      by_cases hc37_9 : ((p1 &&& (2147483647 : Int32)) % (6 : Int32)) = (2 : Int32)
      ·
        refine own_back (S' := s₁.setTop (mkF m 40 #[.val (.int p1), .val (.int ((p1 &&& (2147483647 : Int32)) % (6 : Int32))), .unset, .unset] [])) (fun _ k => XS.icmpNo X0.here hx rfl (hb hby at_37) rfl (teq hc37_9).2 k) ?_
        obtain ⟨T10, X10, e10, st10⟩ := getS2 X0 hx hZ hown (host := "") (Or.inl (hw _ (List.mem_of_getElem? (i := 15) rfl))) Via.refl e0 S_RSQT (g := (mkF m 40 #[.val (.int p1), .val (.int ((p1 &&& (2147483647 : Int32)) % (6 : Int32))), .unset, .unset] [])) rfl (hb hby at_40)
        refine own_back (S' := T10.setTop (mkF m 43 #[.val (.int p1), .val (.int ((p1 &&& (2147483647 : Int32)) % (6 : Int32))), .unset, .unset] [(.ref w_RSQT)])) (st10) ?_
        refine own_back (S' := T10.setTop (mkF m 44 #[.val (.int p1), .val (.int ((p1 &&& (2147483647 : Int32)) % (6 : Int32))), .val (.ref w_RSQT), .unset] [])) (fun _ k => XS.astoreN X10.here hx rfl (hb hby at_43) rfl rfl (l' := #[.val (.int p1), .val (.int ((p1 &&& (2147483647 : Int32)) % (6 : Int32))), .val (.ref w_RSQT), .unset]) rfl k) ?_
        refine own_back (S' := T10.setTop (mkF m 45 #[.val (.int p1), .val (.int ((p1 &&& (2147483647 : Int32)) % (6 : Int32))), .val (.ref w_RSQT), .unset] [(.int (1 : Int32))])) (fun _ k => XS.iconst X10.here hx rfl (hb hby at_44)  k) ?_
        refine own_back (S' := T10.setTop (mkF m 46 #[.val (.int p1), .val (.int ((p1 &&& (2147483647 : Int32)) % (6 : Int32))), .val (.ref w_RSQT), .val (.int (1 : Int32))] [])) (fun _ k => XS.istoreN X10.here hx rfl (hb hby at_45) rfl (l' := #[.val (.int p1), .val (.int ((p1 &&& (2147483647 : Int32)) % (6 : Int32))), .val (.ref w_RSQT), .val (.int (1 : Int32))]) rfl k) ?_
        refine own_back (S' := T10.setTop (mkF m 83 #[.val (.int p1), .val (.int ((p1 &&& (2147483647 : Int32)) % (6 : Int32))), .val (.ref w_RSQT), .val (.int (1 : Int32))] [])) (fun _ k => XS.goto X10.here hx rfl (pc0 := 46) (pc' := 83) rfl (hb hby at_46) (by decide) (by decide) k) ?_
        refine own_back (S' := T10.setTop (mkF m 84 #[.val (.int p1), .val (.int ((p1 &&& (2147483647 : Int32)) % (6 : Int32))), .val (.ref w_RSQT), .val (.int (1 : Int32))] [(.ref w_RSQT)])) (fun _ k => XS.aloadN X10.here hx rfl (hb hby at_83) rfl rfl k) ?_
        obtain ⟨cq11, kq11, q11a, q11b, q11c⟩ := isOf hZ e10 E_RSQT
        obtain ⟨_, _, ⟨T11, L11, k11, n11⟩, -, X11, ⟨Lc11, hQ11, l11, y11, z11⟩, st11⟩ := X10.virtualBack hx (y := (⟨"com/example/openstrike/openstrike/market/Role", "isMarketMaker", "()Z"⟩ : MethodName)) (z := (⟨"com/example/openstrike/openstrike/market/Role", "isMarketMaker", "()Z"⟩ : MethodName)) hown (mvT hZ (hw _ (List.mem_of_getElem? (i := 4) rfl))) (mvT hZ (hw _ (List.mem_of_getElem? (i := 5) rfl))) (notFace_of_selects (args := #[]) (mvT hZ (hw _ (List.mem_of_getElem? (i := 7) rfl)))) (mvT hZ (hw _ (List.mem_of_getElem? (i := 7) rfl))) (mvT hZ (hw _ (List.mem_of_getElem? (i := 6) rfl))) (by decide) (backOf (W := 0) (rm1 l Z a0 hw [] w_RSQT w_BROKER_DEALER w_CUSTOMER h0 n0 Z0 S_BROKER_DEALER S_CUSTOMER) hZ (hw _ (List.mem_of_getElem? (i := 8) rfl)) (hw _ (List.mem_of_getElem? (i := 2) rfl)) (by decide) (by decide)) q11a q11c (g := (mkF m 84 #[.val (.int p1), .val (.int ((p1 &&& (2147483647 : Int32)) % (6 : Int32))), .val (.ref w_RSQT), .val (.int (1 : Int32))] [(.ref w_RSQT)])) rfl (by rw [hml]; rfl) (Steps.refl _) (argsL := []) (rest := []) (lenOf pd_0 rfl) rfl (by show 2 * 0 + _ ≤ _; exact Nat.le_of_eq rfl) (hb hby at_84) (fun _ _ => ⟨rfl, e10, (by decide : 0 + 0 ≤ _), (by decide : 0 + 0 ≤ _)⟩)
        dsimp only [Pt.U, Pt.locs, Pt.cells, Pt.slots] at X11 l11 y11 z11 st11 hQ11
        subst l11 y11 z11
        obtain ⟨rfl, N11q, e11⟩ := hQ11
        have N11 := Fr.app N0 N11q
        refine own_back (S' := T11.setTop (mkF m 87 #[.val (.int p1), .val (.int ((p1 &&& (2147483647 : Int32)) % (6 : Int32))), .val (.ref w_RSQT), .val (.int (1 : Int32))] [(.int (own_mm w_RSQT w_BROKER_DEALER w_CUSTOMER))])) (fun _ k => st11.trans k) ?_
        refine own_back (S' := T11.setTop (mkF m 88 #[.val (.int p1), .val (.int ((p1 &&& (2147483647 : Int32)) % (6 : Int32))), .val (.ref w_RSQT), .val (.int (1 : Int32))] [(.int (1 : Int32)), (.int (own_mm w_RSQT w_BROKER_DEALER w_CUSTOMER))])) (fun _ k => XS.iloadN X11.here hx rfl (hb hby at_87) rfl k) ?_
        refine own_back (S' := T11.setTop (mkF m 91 #[.val (.int p1), .val (.int ((p1 &&& (2147483647 : Int32)) % (6 : Int32))), .val (.ref w_RSQT), .val (.int (1 : Int32))] [])) (fun _ k => XS.icmpNo X11.here hx rfl (hb hby at_88) rfl (teq (m_RSQT : (own_mm w_RSQT w_BROKER_DEALER w_CUSTOMER) = (1 : Int32))).2 k) ?_
        refine own_back (S' := T11.setTop (mkF m 92 #[.val (.int p1), .val (.int ((p1 &&& (2147483647 : Int32)) % (6 : Int32))), .val (.ref w_RSQT), .val (.int (1 : Int32))] [(.int (1 : Int32))])) (fun _ k => XS.iconst X11.here hx rfl (hb hby at_91)  k) ?_
        refine own_back (S' := T11.setTop (mkF m 96 #[.val (.int p1), .val (.int ((p1 &&& (2147483647 : Int32)) % (6 : Int32))), .val (.ref w_RSQT), .val (.int (1 : Int32))] [(.int (1 : Int32))])) (fun _ k => XS.goto X11.here hx rfl (pc0 := 92) (pc' := 96) rfl (hb hby at_92) (by decide) (by decide) k) ?_
        obtain ⟨fs, hr, hrun, hended, hW, hsame⟩ := X11.leave (v := some (.int (1 : Int32))) (fun h => by rw [Bd.returns] at h; cases h)
        refine own_done ⟨_, _, retN X11 hx (t := .boolean) Bd.returns (by simp) (hb hby at_96) hr, hrun, hended, _, _, rfl, ?_, ⟨_, rfl⟩, hW, hsame.mono (by decide) (by decide)⟩
        show Q0 Z p1 w_SPECIALIST w_SQT w_RSQT w_ROT w_BROKER_DEALER w_CUSTOMER h0 n0 _ T11.heap _
        rw [e11]
        exact ⟨rfl, N11⟩
      ·
        refine own_back (S' := s₁.setTop (mkF m 49 #[.val (.int p1), .val (.int ((p1 &&& (2147483647 : Int32)) % (6 : Int32))), .unset, .unset] [])) (fun _ k => XS.icmpYes X0.here hx rfl (pc0 := 37) (pc' := 49) rfl (hb hby at_37) rfl (feq hc37_9).2 (by decide) (by decide) k) ?_
        refine own_back (S' := s₁.setTop (mkF m 50 #[.val (.int p1), .val (.int ((p1 &&& (2147483647 : Int32)) % (6 : Int32))), .unset, .unset] [(.int ((p1 &&& (2147483647 : Int32)) % (6 : Int32)))])) (fun _ k => XS.iloadN X0.here hx rfl (hb hby at_49) rfl k) ?_
        refine own_back (S' := s₁.setTop (mkF m 51 #[.val (.int p1), .val (.int ((p1 &&& (2147483647 : Int32)) % (6 : Int32))), .unset, .unset] [(.int (3 : Int32)), (.int ((p1 &&& (2147483647 : Int32)) % (6 : Int32)))])) (fun _ k => XS.iconst X0.here hx rfl (hb hby at_50)  k) ?_
        by_cases hc51_13 : ((p1 &&& (2147483647 : Int32)) % (6 : Int32)) = (3 : Int32)
        ·
          refine own_back (S' := s₁.setTop (mkF m 54 #[.val (.int p1), .val (.int ((p1 &&& (2147483647 : Int32)) % (6 : Int32))), .unset, .unset] [])) (fun _ k => XS.icmpNo X0.here hx rfl (hb hby at_51) rfl (teq hc51_13).2 k) ?_
          obtain ⟨T14, X14, e14, st14⟩ := getS2 X0 hx hZ hown (host := "") (Or.inl (hw _ (List.mem_of_getElem? (i := 13) rfl))) Via.refl e0 S_ROT (g := (mkF m 54 #[.val (.int p1), .val (.int ((p1 &&& (2147483647 : Int32)) % (6 : Int32))), .unset, .unset] [])) rfl (hb hby at_54)
          refine own_back (S' := T14.setTop (mkF m 57 #[.val (.int p1), .val (.int ((p1 &&& (2147483647 : Int32)) % (6 : Int32))), .unset, .unset] [(.ref w_ROT)])) (st14) ?_
          refine own_back (S' := T14.setTop (mkF m 58 #[.val (.int p1), .val (.int ((p1 &&& (2147483647 : Int32)) % (6 : Int32))), .val (.ref w_ROT), .unset] [])) (fun _ k => XS.astoreN X14.here hx rfl (hb hby at_57) rfl rfl (l' := #[.val (.int p1), .val (.int ((p1 &&& (2147483647 : Int32)) % (6 : Int32))), .val (.ref w_ROT), .unset]) rfl k) ?_
          refine own_back (S' := T14.setTop (mkF m 59 #[.val (.int p1), .val (.int ((p1 &&& (2147483647 : Int32)) % (6 : Int32))), .val (.ref w_ROT), .unset] [(.int (1 : Int32))])) (fun _ k => XS.iconst X14.here hx rfl (hb hby at_58)  k) ?_
          refine own_back (S' := T14.setTop (mkF m 60 #[.val (.int p1), .val (.int ((p1 &&& (2147483647 : Int32)) % (6 : Int32))), .val (.ref w_ROT), .val (.int (1 : Int32))] [])) (fun _ k => XS.istoreN X14.here hx rfl (hb hby at_59) rfl (l' := #[.val (.int p1), .val (.int ((p1 &&& (2147483647 : Int32)) % (6 : Int32))), .val (.ref w_ROT), .val (.int (1 : Int32))]) rfl k) ?_
          refine own_back (S' := T14.setTop (mkF m 83 #[.val (.int p1), .val (.int ((p1 &&& (2147483647 : Int32)) % (6 : Int32))), .val (.ref w_ROT), .val (.int (1 : Int32))] [])) (fun _ k => XS.goto X14.here hx rfl (pc0 := 60) (pc' := 83) rfl (hb hby at_60) (by decide) (by decide) k) ?_
          refine own_back (S' := T14.setTop (mkF m 84 #[.val (.int p1), .val (.int ((p1 &&& (2147483647 : Int32)) % (6 : Int32))), .val (.ref w_ROT), .val (.int (1 : Int32))] [(.ref w_ROT)])) (fun _ k => XS.aloadN X14.here hx rfl (hb hby at_83) rfl rfl k) ?_
          obtain ⟨cq15, kq15, q15a, q15b, q15c⟩ := isOf hZ e14 E_ROT
          obtain ⟨_, _, ⟨T15, L15, k15, n15⟩, -, X15, ⟨Lc15, hQ15, l15, y15, z15⟩, st15⟩ := X14.virtualBack hx (y := (⟨"com/example/openstrike/openstrike/market/Role", "isMarketMaker", "()Z"⟩ : MethodName)) (z := (⟨"com/example/openstrike/openstrike/market/Role", "isMarketMaker", "()Z"⟩ : MethodName)) hown (mvT hZ (hw _ (List.mem_of_getElem? (i := 4) rfl))) (mvT hZ (hw _ (List.mem_of_getElem? (i := 5) rfl))) (notFace_of_selects (args := #[]) (mvT hZ (hw _ (List.mem_of_getElem? (i := 7) rfl)))) (mvT hZ (hw _ (List.mem_of_getElem? (i := 7) rfl))) (mvT hZ (hw _ (List.mem_of_getElem? (i := 6) rfl))) (by decide) (backOf (W := 0) (rm1 l Z a0 hw [] w_ROT w_BROKER_DEALER w_CUSTOMER h0 n0 Z0 S_BROKER_DEALER S_CUSTOMER) hZ (hw _ (List.mem_of_getElem? (i := 8) rfl)) (hw _ (List.mem_of_getElem? (i := 2) rfl)) (by decide) (by decide)) q15a q15c (g := (mkF m 84 #[.val (.int p1), .val (.int ((p1 &&& (2147483647 : Int32)) % (6 : Int32))), .val (.ref w_ROT), .val (.int (1 : Int32))] [(.ref w_ROT)])) rfl (by rw [hml]; rfl) (Steps.refl _) (argsL := []) (rest := []) (lenOf pd_0 rfl) rfl (by show 2 * 0 + _ ≤ _; exact Nat.le_of_eq rfl) (hb hby at_84) (fun _ _ => ⟨rfl, e14, (by decide : 0 + 0 ≤ _), (by decide : 0 + 0 ≤ _)⟩)
          dsimp only [Pt.U, Pt.locs, Pt.cells, Pt.slots] at X15 l15 y15 z15 st15 hQ15
          subst l15 y15 z15
          obtain ⟨rfl, N15q, e15⟩ := hQ15
          have N15 := Fr.app N0 N15q
          refine own_back (S' := T15.setTop (mkF m 87 #[.val (.int p1), .val (.int ((p1 &&& (2147483647 : Int32)) % (6 : Int32))), .val (.ref w_ROT), .val (.int (1 : Int32))] [(.int (own_mm w_ROT w_BROKER_DEALER w_CUSTOMER))])) (fun _ k => st15.trans k) ?_
          refine own_back (S' := T15.setTop (mkF m 88 #[.val (.int p1), .val (.int ((p1 &&& (2147483647 : Int32)) % (6 : Int32))), .val (.ref w_ROT), .val (.int (1 : Int32))] [(.int (1 : Int32)), (.int (own_mm w_ROT w_BROKER_DEALER w_CUSTOMER))])) (fun _ k => XS.iloadN X15.here hx rfl (hb hby at_87) rfl k) ?_
          refine own_back (S' := T15.setTop (mkF m 91 #[.val (.int p1), .val (.int ((p1 &&& (2147483647 : Int32)) % (6 : Int32))), .val (.ref w_ROT), .val (.int (1 : Int32))] [])) (fun _ k => XS.icmpNo X15.here hx rfl (hb hby at_88) rfl (teq (m_ROT : (own_mm w_ROT w_BROKER_DEALER w_CUSTOMER) = (1 : Int32))).2 k) ?_
          refine own_back (S' := T15.setTop (mkF m 92 #[.val (.int p1), .val (.int ((p1 &&& (2147483647 : Int32)) % (6 : Int32))), .val (.ref w_ROT), .val (.int (1 : Int32))] [(.int (1 : Int32))])) (fun _ k => XS.iconst X15.here hx rfl (hb hby at_91)  k) ?_
          refine own_back (S' := T15.setTop (mkF m 96 #[.val (.int p1), .val (.int ((p1 &&& (2147483647 : Int32)) % (6 : Int32))), .val (.ref w_ROT), .val (.int (1 : Int32))] [(.int (1 : Int32))])) (fun _ k => XS.goto X15.here hx rfl (pc0 := 92) (pc' := 96) rfl (hb hby at_92) (by decide) (by decide) k) ?_
          obtain ⟨fs, hr, hrun, hended, hW, hsame⟩ := X15.leave (v := some (.int (1 : Int32))) (fun h => by rw [Bd.returns] at h; cases h)
          refine own_done ⟨_, _, retN X15 hx (t := .boolean) Bd.returns (by simp) (hb hby at_96) hr, hrun, hended, _, _, rfl, ?_, ⟨_, rfl⟩, hW, hsame.mono (by decide) (by decide)⟩
          show Q0 Z p1 w_SPECIALIST w_SQT w_RSQT w_ROT w_BROKER_DEALER w_CUSTOMER h0 n0 _ T15.heap _
          rw [e15]
          exact ⟨rfl, N15⟩
        ·
          refine own_back (S' := s₁.setTop (mkF m 63 #[.val (.int p1), .val (.int ((p1 &&& (2147483647 : Int32)) % (6 : Int32))), .unset, .unset] [])) (fun _ k => XS.icmpYes X0.here hx rfl (pc0 := 51) (pc' := 63) rfl (hb hby at_51) rfl (feq hc51_13).2 (by decide) (by decide) k) ?_
          refine own_back (S' := s₁.setTop (mkF m 64 #[.val (.int p1), .val (.int ((p1 &&& (2147483647 : Int32)) % (6 : Int32))), .unset, .unset] [(.int ((p1 &&& (2147483647 : Int32)) % (6 : Int32)))])) (fun _ k => XS.iloadN X0.here hx rfl (hb hby at_63) rfl k) ?_
          refine own_back (S' := s₁.setTop (mkF m 65 #[.val (.int p1), .val (.int ((p1 &&& (2147483647 : Int32)) % (6 : Int32))), .unset, .unset] [(.int (4 : Int32)), (.int ((p1 &&& (2147483647 : Int32)) % (6 : Int32)))])) (fun _ k => XS.iconst X0.here hx rfl (hb hby at_64)  k) ?_
          by_cases hc65_17 : ((p1 &&& (2147483647 : Int32)) % (6 : Int32)) = (4 : Int32)
          ·
            refine own_back (S' := s₁.setTop (mkF m 68 #[.val (.int p1), .val (.int ((p1 &&& (2147483647 : Int32)) % (6 : Int32))), .unset, .unset] [])) (fun _ k => XS.icmpNo X0.here hx rfl (hb hby at_65) rfl (teq hc65_17).2 k) ?_
            obtain ⟨T18, X18, e18, st18⟩ := getS2 X0 hx hZ hown (host := "") (Or.inl (hw _ (List.mem_of_getElem? (i := 20) rfl))) Via.refl e0 S_BROKER_DEALER (g := (mkF m 68 #[.val (.int p1), .val (.int ((p1 &&& (2147483647 : Int32)) % (6 : Int32))), .unset, .unset] [])) rfl (hb hby at_68)
            refine own_back (S' := T18.setTop (mkF m 71 #[.val (.int p1), .val (.int ((p1 &&& (2147483647 : Int32)) % (6 : Int32))), .unset, .unset] [(.ref w_BROKER_DEALER)])) (st18) ?_
            refine own_back (S' := T18.setTop (mkF m 72 #[.val (.int p1), .val (.int ((p1 &&& (2147483647 : Int32)) % (6 : Int32))), .val (.ref w_BROKER_DEALER), .unset] [])) (fun _ k => XS.astoreN X18.here hx rfl (hb hby at_71) rfl rfl (l' := #[.val (.int p1), .val (.int ((p1 &&& (2147483647 : Int32)) % (6 : Int32))), .val (.ref w_BROKER_DEALER), .unset]) rfl k) ?_
            refine own_back (S' := T18.setTop (mkF m 73 #[.val (.int p1), .val (.int ((p1 &&& (2147483647 : Int32)) % (6 : Int32))), .val (.ref w_BROKER_DEALER), .unset] [(.int (0 : Int32))])) (fun _ k => XS.iconst X18.here hx rfl (hb hby at_72)  k) ?_
            refine own_back (S' := T18.setTop (mkF m 74 #[.val (.int p1), .val (.int ((p1 &&& (2147483647 : Int32)) % (6 : Int32))), .val (.ref w_BROKER_DEALER), .val (.int (0 : Int32))] [])) (fun _ k => XS.istoreN X18.here hx rfl (hb hby at_73) rfl (l' := #[.val (.int p1), .val (.int ((p1 &&& (2147483647 : Int32)) % (6 : Int32))), .val (.ref w_BROKER_DEALER), .val (.int (0 : Int32))]) rfl k) ?_
            refine own_back (S' := T18.setTop (mkF m 83 #[.val (.int p1), .val (.int ((p1 &&& (2147483647 : Int32)) % (6 : Int32))), .val (.ref w_BROKER_DEALER), .val (.int (0 : Int32))] [])) (fun _ k => XS.goto X18.here hx rfl (pc0 := 74) (pc' := 83) rfl (hb hby at_74) (by decide) (by decide) k) ?_
            refine own_back (S' := T18.setTop (mkF m 84 #[.val (.int p1), .val (.int ((p1 &&& (2147483647 : Int32)) % (6 : Int32))), .val (.ref w_BROKER_DEALER), .val (.int (0 : Int32))] [(.ref w_BROKER_DEALER)])) (fun _ k => XS.aloadN X18.here hx rfl (hb hby at_83) rfl rfl k) ?_
            obtain ⟨cq19, kq19, q19a, q19b, q19c⟩ := isOf hZ e18 E_BROKER_DEALER
            obtain ⟨_, _, ⟨T19, L19, k19, n19⟩, -, X19, ⟨Lc19, hQ19, l19, y19, z19⟩, st19⟩ := X18.virtualBack hx (y := (⟨"com/example/openstrike/openstrike/market/Role", "isMarketMaker", "()Z"⟩ : MethodName)) (z := (⟨"com/example/openstrike/openstrike/market/Role", "isMarketMaker", "()Z"⟩ : MethodName)) hown (mvT hZ (hw _ (List.mem_of_getElem? (i := 4) rfl))) (mvT hZ (hw _ (List.mem_of_getElem? (i := 5) rfl))) (notFace_of_selects (args := #[]) (mvT hZ (hw _ (List.mem_of_getElem? (i := 7) rfl)))) (mvT hZ (hw _ (List.mem_of_getElem? (i := 7) rfl))) (mvT hZ (hw _ (List.mem_of_getElem? (i := 6) rfl))) (by decide) (backOf (W := 0) (rm1 l Z a0 hw [] w_BROKER_DEALER w_BROKER_DEALER w_CUSTOMER h0 n0 Z0 S_BROKER_DEALER S_CUSTOMER) hZ (hw _ (List.mem_of_getElem? (i := 8) rfl)) (hw _ (List.mem_of_getElem? (i := 2) rfl)) (by decide) (by decide)) q19a q19c (g := (mkF m 84 #[.val (.int p1), .val (.int ((p1 &&& (2147483647 : Int32)) % (6 : Int32))), .val (.ref w_BROKER_DEALER), .val (.int (0 : Int32))] [(.ref w_BROKER_DEALER)])) rfl (by rw [hml]; rfl) (Steps.refl _) (argsL := []) (rest := []) (lenOf pd_0 rfl) rfl (by show 2 * 0 + _ ≤ _; exact Nat.le_of_eq rfl) (hb hby at_84) (fun _ _ => ⟨rfl, e18, (by decide : 0 + 0 ≤ _), (by decide : 0 + 0 ≤ _)⟩)
            dsimp only [Pt.U, Pt.locs, Pt.cells, Pt.slots] at X19 l19 y19 z19 st19 hQ19
            subst l19 y19 z19
            obtain ⟨rfl, N19q, e19⟩ := hQ19
            have N19 := Fr.app N0 N19q
            refine own_back (S' := T19.setTop (mkF m 87 #[.val (.int p1), .val (.int ((p1 &&& (2147483647 : Int32)) % (6 : Int32))), .val (.ref w_BROKER_DEALER), .val (.int (0 : Int32))] [(.int (own_mm w_BROKER_DEALER w_BROKER_DEALER w_CUSTOMER))])) (fun _ k => st19.trans k) ?_
            refine own_back (S' := T19.setTop (mkF m 88 #[.val (.int p1), .val (.int ((p1 &&& (2147483647 : Int32)) % (6 : Int32))), .val (.ref w_BROKER_DEALER), .val (.int (0 : Int32))] [(.int (0 : Int32)), (.int (own_mm w_BROKER_DEALER w_BROKER_DEALER w_CUSTOMER))])) (fun _ k => XS.iloadN X19.here hx rfl (hb hby at_87) rfl k) ?_
            refine own_back (S' := T19.setTop (mkF m 91 #[.val (.int p1), .val (.int ((p1 &&& (2147483647 : Int32)) % (6 : Int32))), .val (.ref w_BROKER_DEALER), .val (.int (0 : Int32))] [])) (fun _ k => XS.icmpNo X19.here hx rfl (hb hby at_88) rfl (teq (m_BROKER_DEALER : (own_mm w_BROKER_DEALER w_BROKER_DEALER w_CUSTOMER) = (0 : Int32))).2 k) ?_
            refine own_back (S' := T19.setTop (mkF m 92 #[.val (.int p1), .val (.int ((p1 &&& (2147483647 : Int32)) % (6 : Int32))), .val (.ref w_BROKER_DEALER), .val (.int (0 : Int32))] [(.int (1 : Int32))])) (fun _ k => XS.iconst X19.here hx rfl (hb hby at_91)  k) ?_
            refine own_back (S' := T19.setTop (mkF m 96 #[.val (.int p1), .val (.int ((p1 &&& (2147483647 : Int32)) % (6 : Int32))), .val (.ref w_BROKER_DEALER), .val (.int (0 : Int32))] [(.int (1 : Int32))])) (fun _ k => XS.goto X19.here hx rfl (pc0 := 92) (pc' := 96) rfl (hb hby at_92) (by decide) (by decide) k) ?_
            obtain ⟨fs, hr, hrun, hended, hW, hsame⟩ := X19.leave (v := some (.int (1 : Int32))) (fun h => by rw [Bd.returns] at h; cases h)
            refine own_done ⟨_, _, retN X19 hx (t := .boolean) Bd.returns (by simp) (hb hby at_96) hr, hrun, hended, _, _, rfl, ?_, ⟨_, rfl⟩, hW, hsame.mono (by decide) (by decide)⟩
            show Q0 Z p1 w_SPECIALIST w_SQT w_RSQT w_ROT w_BROKER_DEALER w_CUSTOMER h0 n0 _ T19.heap _
            rw [e19]
            exact ⟨rfl, N19⟩
          ·
            refine own_back (S' := s₁.setTop (mkF m 77 #[.val (.int p1), .val (.int ((p1 &&& (2147483647 : Int32)) % (6 : Int32))), .unset, .unset] [])) (fun _ k => XS.icmpYes X0.here hx rfl (pc0 := 65) (pc' := 77) rfl (hb hby at_65) rfl (feq hc65_17).2 (by decide) (by decide) k) ?_
            obtain ⟨T21, X21, e21, st21⟩ := getS2 X0 hx hZ hown (host := "") (Or.inl (hw _ (List.mem_of_getElem? (i := 19) rfl))) Via.refl e0 S_CUSTOMER (g := (mkF m 77 #[.val (.int p1), .val (.int ((p1 &&& (2147483647 : Int32)) % (6 : Int32))), .unset, .unset] [])) rfl (hb hby at_77)
            refine own_back (S' := T21.setTop (mkF m 80 #[.val (.int p1), .val (.int ((p1 &&& (2147483647 : Int32)) % (6 : Int32))), .unset, .unset] [(.ref w_CUSTOMER)])) (st21) ?_
            refine own_back (S' := T21.setTop (mkF m 81 #[.val (.int p1), .val (.int ((p1 &&& (2147483647 : Int32)) % (6 : Int32))), .val (.ref w_CUSTOMER), .unset] [])) (fun _ k => XS.astoreN X21.here hx rfl (hb hby at_80) rfl rfl (l' := #[.val (.int p1), .val (.int ((p1 &&& (2147483647 : Int32)) % (6 : Int32))), .val (.ref w_CUSTOMER), .unset]) rfl k) ?_
            refine own_back (S' := T21.setTop (mkF m 82 #[.val (.int p1), .val (.int ((p1 &&& (2147483647 : Int32)) % (6 : Int32))), .val (.ref w_CUSTOMER), .unset] [(.int (0 : Int32))])) (fun _ k => XS.iconst X21.here hx rfl (hb hby at_81)  k) ?_
            refine own_back (S' := T21.setTop (mkF m 83 #[.val (.int p1), .val (.int ((p1 &&& (2147483647 : Int32)) % (6 : Int32))), .val (.ref w_CUSTOMER), .val (.int (0 : Int32))] [])) (fun _ k => XS.istoreN X21.here hx rfl (hb hby at_82) rfl (l' := #[.val (.int p1), .val (.int ((p1 &&& (2147483647 : Int32)) % (6 : Int32))), .val (.ref w_CUSTOMER), .val (.int (0 : Int32))]) rfl k) ?_
            refine own_back (S' := T21.setTop (mkF m 84 #[.val (.int p1), .val (.int ((p1 &&& (2147483647 : Int32)) % (6 : Int32))), .val (.ref w_CUSTOMER), .val (.int (0 : Int32))] [(.ref w_CUSTOMER)])) (fun _ k => XS.aloadN X21.here hx rfl (hb hby at_83) rfl rfl k) ?_
            obtain ⟨cq22, kq22, q22a, q22b, q22c⟩ := isOf hZ e21 E_CUSTOMER
            obtain ⟨_, _, ⟨T22, L22, k22, n22⟩, -, X22, ⟨Lc22, hQ22, l22, y22, z22⟩, st22⟩ := X21.virtualBack hx (y := (⟨"com/example/openstrike/openstrike/market/Role", "isMarketMaker", "()Z"⟩ : MethodName)) (z := (⟨"com/example/openstrike/openstrike/market/Role", "isMarketMaker", "()Z"⟩ : MethodName)) hown (mvT hZ (hw _ (List.mem_of_getElem? (i := 4) rfl))) (mvT hZ (hw _ (List.mem_of_getElem? (i := 5) rfl))) (notFace_of_selects (args := #[]) (mvT hZ (hw _ (List.mem_of_getElem? (i := 7) rfl)))) (mvT hZ (hw _ (List.mem_of_getElem? (i := 7) rfl))) (mvT hZ (hw _ (List.mem_of_getElem? (i := 6) rfl))) (by decide) (backOf (W := 0) (rm1 l Z a0 hw [] w_CUSTOMER w_BROKER_DEALER w_CUSTOMER h0 n0 Z0 S_BROKER_DEALER S_CUSTOMER) hZ (hw _ (List.mem_of_getElem? (i := 8) rfl)) (hw _ (List.mem_of_getElem? (i := 2) rfl)) (by decide) (by decide)) q22a q22c (g := (mkF m 84 #[.val (.int p1), .val (.int ((p1 &&& (2147483647 : Int32)) % (6 : Int32))), .val (.ref w_CUSTOMER), .val (.int (0 : Int32))] [(.ref w_CUSTOMER)])) rfl (by rw [hml]; rfl) (Steps.refl _) (argsL := []) (rest := []) (lenOf pd_0 rfl) rfl (by show 2 * 0 + _ ≤ _; exact Nat.le_of_eq rfl) (hb hby at_84) (fun _ _ => ⟨rfl, e21, (by decide : 0 + 0 ≤ _), (by decide : 0 + 0 ≤ _)⟩)
            dsimp only [Pt.U, Pt.locs, Pt.cells, Pt.slots] at X22 l22 y22 z22 st22 hQ22
            subst l22 y22 z22
            obtain ⟨rfl, N22q, e22⟩ := hQ22
            have N22 := Fr.app N0 N22q
            refine own_back (S' := T22.setTop (mkF m 87 #[.val (.int p1), .val (.int ((p1 &&& (2147483647 : Int32)) % (6 : Int32))), .val (.ref w_CUSTOMER), .val (.int (0 : Int32))] [(.int (own_mm w_CUSTOMER w_BROKER_DEALER w_CUSTOMER))])) (fun _ k => st22.trans k) ?_
            refine own_back (S' := T22.setTop (mkF m 88 #[.val (.int p1), .val (.int ((p1 &&& (2147483647 : Int32)) % (6 : Int32))), .val (.ref w_CUSTOMER), .val (.int (0 : Int32))] [(.int (0 : Int32)), (.int (own_mm w_CUSTOMER w_BROKER_DEALER w_CUSTOMER))])) (fun _ k => XS.iloadN X22.here hx rfl (hb hby at_87) rfl k) ?_
            refine own_back (S' := T22.setTop (mkF m 91 #[.val (.int p1), .val (.int ((p1 &&& (2147483647 : Int32)) % (6 : Int32))), .val (.ref w_CUSTOMER), .val (.int (0 : Int32))] [])) (fun _ k => XS.icmpNo X22.here hx rfl (hb hby at_88) rfl (teq (m_CUSTOMER : (own_mm w_CUSTOMER w_BROKER_DEALER w_CUSTOMER) = (0 : Int32))).2 k) ?_
            refine own_back (S' := T22.setTop (mkF m 92 #[.val (.int p1), .val (.int ((p1 &&& (2147483647 : Int32)) % (6 : Int32))), .val (.ref w_CUSTOMER), .val (.int (0 : Int32))] [(.int (1 : Int32))])) (fun _ k => XS.iconst X22.here hx rfl (hb hby at_91)  k) ?_
            refine own_back (S' := T22.setTop (mkF m 96 #[.val (.int p1), .val (.int ((p1 &&& (2147483647 : Int32)) % (6 : Int32))), .val (.ref w_CUSTOMER), .val (.int (0 : Int32))] [(.int (1 : Int32))])) (fun _ k => XS.goto X22.here hx rfl (pc0 := 92) (pc' := 96) rfl (hb hby at_92) (by decide) (by decide) k) ?_
            obtain ⟨fs, hr, hrun, hended, hW, hsame⟩ := X22.leave (v := some (.int (1 : Int32))) (fun h => by rw [Bd.returns] at h; cases h)
            refine own_done ⟨_, _, retN X22 hx (t := .boolean) Bd.returns (by simp) (hb hby at_96) hr, hrun, hended, _, _, rfl, ?_, ⟨_, rfl⟩, hW, hsame.mono (by decide) (by decide)⟩
            show Q0 Z p1 w_SPECIALIST w_SQT w_RSQT w_ROT w_BROKER_DEALER w_CUSTOMER h0 n0 _ T22.heap _
            rw [e22]
            exact ⟨rfl, N22⟩
set_option maxRecDepth 65536 in
set_option maxHeartbeats 40000000 in
theorem comes_1 {Post : Tables → Env → Array Value → State → Outcome → State → Prop} (hpost : ∀ tb e args s v u, (limb_1_1.after args s (.returned v) u = true ∧ limb_1_2.after args s (.returned v) u = true ∧ True) → FrameEnd s (.returned v) u (Jvm.fieldLocs frame_1_writes args s ++ Jvm.arrayLocs frame_1_arrays args s ++ Jvm.staticLocs frame_1_statics s) 0 0 → Post tb e args s (.returned v) u) :
    ArmFor flags0 classFile x code maxLocals ret World_1 tables_1 room_1 Calls_1 rest_1 Pre_1 Post := by
  intro l hfl _ _ p e ha hc hk s m args below hf hA hF happ hP
  obtain ⟨hcalls, hrest, hpre⟩ := hP
  obtain ⟨-, -, -, hnamed, -, -, -, hat⟩ := (Spec.applies_iff hf).mp happ
  obtain ⟨hg, hn⟩ := and_e (Cond.before_iff.mp (show (Jvm.Cond.and given_1 narrow_1).before args s = true from hpre))
  obtain ⟨g1, g2⟩ := and_e hg
  obtain ⟨w0, rfl⟩ : ∃ w0 : Value, args = #[w0] := by
    have hs : args.size = 1 := by simpa [Cond.value, given_1] using g1
    obtain ⟨L⟩ := args
    match L, hs with
    | [w0], _ => exact ⟨w0, rfl⟩
  have hw := fun d (hd : d ∈ tables_1) => atoms_spec (ws := Jvm.Cond.code x code maxLocals ret :: tables_1) hat d (List.mem_cons_of_mem _ hd)
  have hfit : Fit s := fun {y c} hc i hi => by
    obtain ⟨ha, rfl⟩ := Array.getElem?_eq_some_iff.mp hc
    have q := List.all_eq_true.mp ((Array.all_eq_true_iff_forall_mem.mp hF) _ (Array.getElem_mem ha)) i (List.mem_range.mpr hi)
    simpa [Array.getElem?_eq_getElem hi] using q
  obtain ⟨i0, ei0⟩ := is_v g2
  obtain rfl : w0 = (.int i0) := Option.some.inj ei0
  obtain ⟨nn1, nm1⟩ := and_e hn
  obtain ⟨nn2, nm2⟩ := and_e nm1
  obtain ⟨nn3, nm3⟩ := and_e nm2
  obtain ⟨nn4, nm4⟩ := and_e nm3
  obtain ⟨nn5, nm5⟩ := and_e nm4
  obtain ⟨nn6, nm6⟩ := and_e nm5
  obtain ⟨nn7, nm7⟩ := and_e nm6
  obtain ⟨nn8, nm8⟩ := and_e nm7
  obtain ⟨nn9, nm9⟩ := and_e nm8
  obtain ⟨nn10, nm10⟩ := and_e nm9
  obtain ⟨nn11, nm11⟩ := and_e nm10
  obtain ⟨w_SPECIALIST, v_SPECIALIST⟩ := exa_v nn1
  have E_SPECIALIST := Exa.start v_SPECIALIST nn1
  have S_SPECIALIST := Sta.start v_SPECIALIST (Or.inr ⟨(hw _ (List.mem_of_getElem? (i := 2) rfl)), (hw _ (List.mem_of_getElem? (i := 3) rfl))⟩)
  obtain ⟨w_BROKER_DEALER, v_BROKER_DEALER⟩ := exa_v nn2
  have E_BROKER_DEALER := Exa.start v_BROKER_DEALER nn2
  have S_BROKER_DEALER := Sta.start v_BROKER_DEALER (Or.inr ⟨(hw _ (List.mem_of_getElem? (i := 2) rfl)), (hw _ (List.mem_of_getElem? (i := 10) rfl))⟩)
  obtain ⟨w_CUSTOMER, v_CUSTOMER⟩ := exa_v nn5
  have E_CUSTOMER := Exa.start v_CUSTOMER nn5
  have S_CUSTOMER := Sta.start v_CUSTOMER (Or.inr ⟨(hw _ (List.mem_of_getElem? (i := 2) rfl)), (hw _ (List.mem_of_getElem? (i := 12) rfl))⟩)
  obtain ⟨w_ROT, v_ROT⟩ := exa_v nn7
  have E_ROT := Exa.start v_ROT nn7
  have S_ROT := Sta.start v_ROT (Or.inr ⟨(hw _ (List.mem_of_getElem? (i := 2) rfl)), (hw _ (List.mem_of_getElem? (i := 14) rfl))⟩)
  obtain ⟨w_RSQT, v_RSQT⟩ := exa_v nn9
  have E_RSQT := Exa.start v_RSQT nn9
  have S_RSQT := Sta.start v_RSQT (Or.inr ⟨(hw _ (List.mem_of_getElem? (i := 2) rfl)), (hw _ (List.mem_of_getElem? (i := 16) rfl))⟩)
  obtain ⟨w_SQT, v_SQT⟩ := exa_v nn11
  have E_SQT := Exa.start v_SQT nn11
  have S_SQT := Sta.start v_SQT (Or.inr ⟨(hw _ (List.mem_of_getElem? (i := 2) rfl)), (hw _ (List.mem_of_getElem? (i := 18) rfl))⟩)
  have o_SPECIALIST := own_ord v_SPECIALIST nn3
  have o_BROKER_DEALER := own_ord v_BROKER_DEALER nn4
  have o_CUSTOMER := own_ord v_CUSTOMER nn6
  have o_ROT := own_ord v_ROT nn8
  have o_RSQT := own_ord v_RSQT nn10
  have o_SQT := own_ord v_SQT nm11
  have m_SPECIALIST : own_mm w_SPECIALIST w_BROKER_DEALER w_CUSTOMER = (1 : Int32) := by simp only [own_mm, own_ne o_SPECIALIST o_BROKER_DEALER (by decide), own_ne o_SPECIALIST o_CUSTOMER (by decide), if_false]
  have m_SQT : own_mm w_SQT w_BROKER_DEALER w_CUSTOMER = (1 : Int32) := by simp only [own_mm, own_ne o_SQT o_BROKER_DEALER (by decide), own_ne o_SQT o_CUSTOMER (by decide), if_false]
  have m_RSQT : own_mm w_RSQT w_BROKER_DEALER w_CUSTOMER = (1 : Int32) := by simp only [own_mm, own_ne o_RSQT o_BROKER_DEALER (by decide), own_ne o_RSQT o_CUSTOMER (by decide), if_false]
  have m_ROT : own_mm w_ROT w_BROKER_DEALER w_CUSTOMER = (1 : Int32) := by simp only [own_mm, own_ne o_ROT o_BROKER_DEALER (by decide), own_ne o_ROT o_CUSTOMER (by decide), if_false]
  have m_BROKER_DEALER : own_mm w_BROKER_DEALER w_BROKER_DEALER w_CUSTOMER = (0 : Int32) := by simp [own_mm]
  have m_CUSTOMER : own_mm w_CUSTOMER w_BROKER_DEALER w_CUSTOMER = (0 : Int32) := by simp [own_mm]
  obtain ⟨n, o, h1, h2, h3, _, L, rfl, ⟨rfl, N⟩, hq⟩ := rm0 l s _ hw tables_1 i0 w_SPECIALIST w_SQT w_RSQT w_ROT w_BROKER_DEALER w_CUSTOMER s.heap s.heap.size (Nat.le_refl _) S_SPECIALIST S_SQT S_RSQT S_ROT S_BROKER_DEALER S_CUSTOMER E_SPECIALIST E_SQT E_RSQT E_ROT E_BROKER_DEALER E_CUSTOMER m_SPECIALIST m_SQT m_RSQT m_ROT m_BROKER_DEALER m_CUSTOMER p e ha hc hk s m _ below hf ((Spec.applies_iff_loose hf).mp happ).1 ⟨rfl, State.Warmed39.refl s, rfl⟩ trivial
  refine ⟨n, _, h1, h2, h3, hpost _ _ _ _ _ _ ⟨Cond.after_iff.mpr rfl, Cond.after_iff.mpr (eq_i res_at (Term.int_eval (1)) rfl), trivial⟩ ⟨hq.1, hq.2.1, (hq.2.2.sift fun y hy => Or.inr (N y hy)).mono (by decide) (by decide)⟩⟩
theorem main_1_1 : Claimed_1_1 := comes_1 fun _ _ _ _ _ _ h hF => ⟨h.1, hF⟩
theorem main_1_2 : Claimed_1_2 := comes_1 fun _ _ _ _ _ _ h hF => ⟨h.2.1, hF⟩
end Jvm.Pilot.@@N@@
namespace Jvm.Pilot.@@N@@
open Jvm Jvm.ClassFile Sem Op Lib Jvm.Free Jvm.Stand Jvm.Pilot.@@N@@.Jvm.D
/-! MADE BY PROGRAM (witnessworld.py) out of the Statement's table words and the real class files: 12 classes; the members and pool entries that the words name. The judged class is class 1, her method 1. -/
namespace start1
open Jvm.ClassFile
def u (s : String) : CpInfo := .utf8 (stringToUtf16 s)
/-- a pool by its gaps: so many unusable entries, then the entry; so many at the end -/
def gap : Nat → List CpInfo → List CpInfo
  | 0, r => r
  | n + 1, r => .unusable :: gap n r
def poolList (es : List (Nat × CpInfo)) (last : Nat) : List CpInfo := es.foldr (fun e r => gap e.1 (e.2 :: r)) (gap last [])
def pool (es : List (Nat × CpInfo)) (last : Nat) : Array CpInfo := ⟨poolList es last⟩
def fileOf (pool : Array CpInfo) (this : Nat) (attrs : Array Attribute := #[]) (ms : Array MethodInfo := #[]) (fl : Nat := 33) (sup : Nat := 0) (ifs : Array Nat := #[]) (fds : Array FieldInfo := #[]) : ClassFile where
  minorVersion := 0
  majorVersion := 65
  constantPool := pool
  accessFlags := fl
  thisClass := this
  superClass := sup
  interfaces := ifs
  fields := fds
  methods := ms
  attributes := attrs
def plain (name : String) (sup : Option ClassId) : Class where
  name := name
  kind := .ordinary
  loader := none
  accessFlags := 33
  super := sup
  interfaces := #[]
  cf := none
  fields := #[]
  methods := #[]
  instanceTypes := #[]
  staticTypes := #[]
  resolved := #[]
  callSites := []
  init := .initialized
  statics := none
  mirror := none

def pool0 : Array CpInfo := pool [(5, u "<init>"), (0, u "()V"), (1, .class_ 10), (1, u "java/lang/Object")] 113

def k0m0 : Method := { name := "<init>", desc := "()V", sig := { parameters := [], returnType := none }, accessFlags := 1, code := none }
/-- java/lang/Object -/
def k0 : Class := { plain "java/lang/Object" none with
  accessFlags := 33
  interfaces := #[]
  cf := some (fileOf pool0 8 #[] #[{ accessFlags := 1, nameIndex := 5, descriptorIndex := 6, attributes := #[] }] 33 0 #[] #[])
  fields := #[]
  methods := #[k0m0]
  instanceTypes := #[]
  staticTypes := #[]
  resolved := Array.replicate 124 none
  statics := none }

def pool1 : Array CpInfo := pool [(2, .class_ 4), (1, u "java/lang/Object"), (0, u "<init>"), (0, u "()V"), (0, .integer 2147483647), (0, .fieldref 9 10), (0, .class_ 11), (0, .nameAndType 12 13), (0, u "com/example/openstrike/openstrike/market/Role"), (0, u "SPECIALIST"), (0, u "Lcom/example/openstrike/openstrike/market/Role;"), (0, .fieldref 9 15), (0, .nameAndType 16 13), (0, u "SQT"), (0, .fieldref 9 18), (0, .nameAndType 19 13), (0, u "RSQT"), (0, .fieldref 9 21), (0, .nameAndType 22 13), (0, u "ROT"), (0, .fieldref 9 24), (0, .nameAndType 25 13), (0, u "BROKER_DEALER"), (0, .fieldref 9 27), (0, .nameAndType 28 13), (0, u "CUSTOMER"), (0, .methodref 9 30), (0, .nameAndType 31 32), (0, u "isMarketMaker"), (0, u "()Z"), (0, .class_ 34), (0, u "com/example/openstrike/openstrike/market/RoleIsMarketMakerPinLaw"), (2, u "law"), (0, u "(I)Z")] 3

def k1m0 : Method := { name := "<init>", desc := "()V", sig := { parameters := [], returnType := none }, accessFlags := 1, code := none }
def k1c1 : Code := { maxStack := 2, maxLocals := 4, code := code, exceptionTable := #[], attributes := #[] }
def k1m1 : Method := { name := "law", desc := "(I)Z", sig := { parameters := [.int], returnType := some .boolean }, accessFlags := 9, code := some k1c1 }
/-- com/example/openstrike/openstrike/market/RoleIsMarketMakerPinLaw -/
def k1 : Class := { plain "com/example/openstrike/openstrike/market/RoleIsMarketMakerPinLaw" (some 0) with
  accessFlags := 49
  interfaces := #[]
  cf := some (fileOf pool1 33 #[] #[{ accessFlags := 1, nameIndex := 5, descriptorIndex := 6, attributes := #[] }, { accessFlags := 9, nameIndex := 37, descriptorIndex := 38, attributes := #[] }] 49 2 #[] #[])
  fields := #[]
  methods := #[k1m0, k1m1]
  instanceTypes := #[]
  staticTypes := #[]
  resolved := Array.replicate 42 none
  statics := none }

def pool2 : Array CpInfo := pool [(1, .class_ 2), (0, u "java/lang/constant/Constable"), (0, .class_ 4), (0, u "java/lang/Object")] 6

/-- java/lang/constant/Constable -/
def k2 : Class := { plain "java/lang/constant/Constable" (some 0) with
  accessFlags := 1537
  interfaces := #[]
  cf := some (fileOf pool2 1 #[] #[] 1537 3 #[] #[])
  fields := #[]
  methods := #[]
  instanceTypes := #[]
  staticTypes := #[]
  resolved := Array.replicate 11 none
  statics := none }

def pool3 : Array CpInfo := pool [(1, .class_ 2), (0, u "java/lang/Comparable"), (0, .class_ 4), (0, u "java/lang/Object")] 7

/-- java/lang/Comparable -/
def k3 : Class := { plain "java/lang/Comparable" (some 0) with
  accessFlags := 1537
  interfaces := #[]
  cf := some (fileOf pool3 1 #[] #[] 1537 3 #[] #[])
  fields := #[]
  methods := #[]
  instanceTypes := #[]
  staticTypes := #[]
  resolved := Array.replicate 12 none
  statics := none }

def pool4 : Array CpInfo := pool [(1, .class_ 2), (0, u "java/io/Serializable"), (0, .class_ 4), (0, u "java/lang/Object")] 2

/-- java/io/Serializable -/
def k4 : Class := { plain "java/io/Serializable" (some 0) with
  accessFlags := 1537
  interfaces := #[]
  cf := some (fileOf pool4 1 #[] #[] 1537 3 #[] #[])
  fields := #[]
  methods := #[]
  instanceTypes := #[]
  staticTypes := #[]
  resolved := Array.replicate 7 none
  statics := none }

def pool5 : Array CpInfo := pool [(2, .class_ 4), (1, u "java/lang/Enum"), (0, u "name"), (0, u "Ljava/lang/String;"), (2, u "ordinal"), (0, u "I"), (1, .class_ 14), (1, u "java/lang/Object"), (4, u "hash"), (86, .class_ 108), (1, u "java/lang/Enum$EnumDesc"), (2, .class_ 112), (0, u "java/lang/constant/Constable"), (0, .class_ 114), (0, u "java/lang/Comparable"), (0, .class_ 116), (0, u "java/io/Serializable")] 87

/-- java/lang/Enum -/
def k5 : Class := { plain "java/lang/Enum" (some 0) with
  accessFlags := 1057
  interfaces := #[2, 3, 4]
  cf := some (fileOf pool5 2 #[.nestMembers #[106]] #[] 1057 12 #[111, 113, 115] #[{ accessFlags := 18, nameIndex := 5, descriptorIndex := 6, attributes := #[] }, { accessFlags := 18, nameIndex := 9, descriptorIndex := 10, attributes := #[] }, { accessFlags := 2, nameIndex := 19, descriptorIndex := 10, attributes := #[] }])
  fields := #[{ name := "name", type := (.object "java/lang/String"), accessFlags := 18, slot := 0, constantValue := 0 }, { name := "ordinal", type := .int, accessFlags := 18, slot := 1, constantValue := 0 }, { name := "hash", type := .int, accessFlags := 2, slot := 2, constantValue := 0 }]
  methods := #[]
  instanceTypes := #[(.object "java/lang/String"), .int, .int]
  staticTypes := #[]
  resolved := Array.replicate 204 none
  statics := none }

def pool6 : Array CpInfo := pool [(1, .class_ 2), (0, u "com/example/openstrike/openstrike/market/Role"), (2, u "SPECIALIST"), (0, u "Lcom/example/openstrike/openstrike/market/Role;"), (2, u "SQT"), (2, u "RSQT"), (2, u "ROT"), (0, .fieldref 1 17), (0, .nameAndType 18 6), (0, u "BROKER_DEALER"), (0, .fieldref 1 20), (0, .nameAndType 21 6), (0, u "CUSTOMER"), (2, u "$VALUES"), (0, u "[Lcom/example/openstrike/openstrike/market/Role;"), (6, .class_ 34), (1, u "java/lang/Enum"), (8, u "word"), (0, u "Ljava/lang/String;"), (2, u "streamsQuotes"), (0, u "Z"), (2, u "entersOrders"), (80, u "()Z"), (0, u "isMarketMaker")] 45

def k6c0 : Code := { maxStack := 2, maxLocals := 1, code := prog_33_method_7_code, exceptionTable := #[], attributes := #[] }
def k6m0 : Method := { name := "isMarketMaker", desc := "()Z", sig := { parameters := [], returnType := some .boolean }, accessFlags := 1, code := some k6c0 }
/-- com/example/openstrike/openstrike/market/Role -/
def k6 : Class := { plain "com/example/openstrike/openstrike/market/Role" (some 5) with
  accessFlags := 16433
  interfaces := #[]
  cf := some (fileOf pool6 1 #[] #[{ accessFlags := 1, nameIndex := 133, descriptorIndex := 132, attributes := #[] }] 16433 32 #[] #[{ accessFlags := 16409, nameIndex := 5, descriptorIndex := 6, attributes := #[] }, { accessFlags := 16409, nameIndex := 9, descriptorIndex := 6, attributes := #[] }, { accessFlags := 16409, nameIndex := 12, descriptorIndex := 6, attributes := #[] }, { accessFlags := 16409, nameIndex := 15, descriptorIndex := 6, attributes := #[] }, { accessFlags := 16409, nameIndex := 18, descriptorIndex := 6, attributes := #[] }, { accessFlags := 16409, nameIndex := 21, descriptorIndex := 6, attributes := #[] }, { accessFlags := 18, nameIndex := 43, descriptorIndex := 44, attributes := #[] }, { accessFlags := 18, nameIndex := 47, descriptorIndex := 48, attributes := #[] }, { accessFlags := 18, nameIndex := 51, descriptorIndex := 48, attributes := #[] }, { accessFlags := 4122, nameIndex := 24, descriptorIndex := 25, attributes := #[] }])
  fields := #[{ name := "SPECIALIST", type := (.object "com/example/openstrike/openstrike/market/Role"), accessFlags := 16409, slot := 0, constantValue := 0 }, { name := "SQT", type := (.object "com/example/openstrike/openstrike/market/Role"), accessFlags := 16409, slot := 1, constantValue := 0 }, { name := "RSQT", type := (.object "com/example/openstrike/openstrike/market/Role"), accessFlags := 16409, slot := 2, constantValue := 0 }, { name := "ROT", type := (.object "com/example/openstrike/openstrike/market/Role"), accessFlags := 16409, slot := 3, constantValue := 0 }, { name := "BROKER_DEALER", type := (.object "com/example/openstrike/openstrike/market/Role"), accessFlags := 16409, slot := 4, constantValue := 0 }, { name := "CUSTOMER", type := (.object "com/example/openstrike/openstrike/market/Role"), accessFlags := 16409, slot := 5, constantValue := 0 }, { name := "word", type := (.object "java/lang/String"), accessFlags := 18, slot := 3, constantValue := 0 }, { name := "streamsQuotes", type := .boolean, accessFlags := 18, slot := 4, constantValue := 0 }, { name := "entersOrders", type := .boolean, accessFlags := 18, slot := 5, constantValue := 0 }, { name := "$VALUES", type := (.array (.object "com/example/openstrike/openstrike/market/Role")), accessFlags := 4122, slot := 6, constantValue := 0 }]
  methods := #[k6m0]
  instanceTypes := #[(.object "java/lang/String"), .int, .int, (.object "java/lang/String"), .boolean, .boolean]
  staticTypes := #[(.object "com/example/openstrike/openstrike/market/Role"), (.object "com/example/openstrike/openstrike/market/Role"), (.object "com/example/openstrike/openstrike/market/Role"), (.object "com/example/openstrike/openstrike/market/Role"), (.object "com/example/openstrike/openstrike/market/Role"), (.object "com/example/openstrike/openstrike/market/Role"), (.array (.object "com/example/openstrike/openstrike/market/Role"))]
  resolved := Array.replicate 179 none
  statics := some 0 }

def pool7 : Array CpInfo := pool [(1, u "java/lang/Cloneable"), (0, .class_ 1), (0, u "java/lang/Object"), (0, .class_ 3)] 3

/-- java/lang/Cloneable -/
def k7 : Class := { plain "java/lang/Cloneable" (some 0) with
  accessFlags := 1537
  interfaces := #[]
  cf := some (fileOf pool7 2 #[] #[] 1537 4 #[] #[])
  fields := #[]
  methods := #[]
  instanceTypes := #[]
  staticTypes := #[]
  resolved := Array.replicate 8 none
  statics := none }

/-- the primitive byte -/
def k8 : Class := { plain "byte" none with kind := .primitive 'B', accessFlags := 0x411 }
/-- [B -/
def k9 : Class := { plain "[B" (some 0) with kind := .array 8 .byte, interfaces := #[7, 4], accessFlags := 1041 }

/-- the primitive int -/
def k10 : Class := { plain "int" none with kind := .primitive 'I', accessFlags := 0x411 }
/-- [I -/
def k11 : Class := { plain "[I" (some 0) with kind := .array 10 .int, interfaces := #[7, 4], accessFlags := 1041 }

def heap : Heap := #[{ cls := 6, slots := #[.ref 1, .ref 2, .ref 3, .ref 4, .ref 5, .ref 6, .null], vm := .statics 6 },
  { cls := 6, slots := #[.null, .int 0, .int 0, .null, .int 0, .int 0], vm := .none },
  { cls := 6, slots := #[.null, .int 1, .int 0, .null, .int 0, .int 0], vm := .none },
  { cls := 6, slots := #[.null, .int 2, .int 0, .null, .int 0, .int 0], vm := .none },
  { cls := 6, slots := #[.null, .int 3, .int 0, .null, .int 0, .int 0], vm := .none },
  { cls := 6, slots := #[.null, .int 4, .int 0, .null, .int 0, .int 0], vm := .none },
  { cls := 6, slots := #[.null, .int 5, .int 0, .null, .int 0, .int 0], vm := .none }]
def classes : Array Class := #[k0, k1, k2, k3, k4, k5, k6, k7, k8, k9, k10, k11]
def interned : List (Array UInt16 × Addr) := []
def slotsUsed : Nat := 43
def theMethod : MethodId := ⟨1, 1⟩
def args0 : Array Value := #[.int 5]
def aboutOver (below : List Frame) : State where
  vm := { classes := classes, interned := interned.toArray }
  heap := heap
  slotsUsed := slotsUsed
  threads := #[{ frames := .invoking theMethod args0 :: below }]
def below0 : List Frame := [.native { method := ⟨0, 0⟩, args := #[] }]
def about1 : State := aboutOver below0
def p0 : Program := .bare "" "" ""
def e0 : Env := launch0.env 0 0 0
theorem w_frames : about1.frames = Frame.invoking theMethod args0 :: below0 := rfl
set_option maxRecDepth 65536 in
theorem w_args : argsFit about1.vm theMethod args0 = true := by decide +kernel
set_option maxRecDepth 65536 in
theorem w_heap : heapFits about1 = true := by decide +kernel
set_option maxRecDepth 65536 in
theorem w_runnable : about1.curStatus? = some .runnable := by decide +kernel
set_option maxRecDepth 65536 in
theorem w_alone : about1.alone = true := by decide +kernel
set_option maxRecDepth 65536 in
theorem w_named : about1.methodNamed? x = some theMethod := by decide +kernel
set_option maxRecDepth 65536 in
theorem w_hears : about1.hears theMethod below0 = true := by decide +kernel
set_option maxRecDepth 65536 in
theorem w_ripe : about1.ripe theMethod args0 below0 = true := by decide +kernel
theorem w_running : about1.status = .running := rfl
set_option maxRecDepth 65536 in
theorem w_room : about1.hasRoom e0.platform room_1 = true :=
  launch0.hasRoom_least _ room_1 (by decide +kernel) (by decide +kernel) (by decide +kernel) (by decide +kernel) (by decide +kernel) (by decide +kernel)
theorem allAtoms_all (ts : List Jvm.Cond) (a : Array Jvm.Value) (st : Jvm.State) : (allAtoms ts).before a st = ts.all (fun c => c.before a st) := by
  induction ts with
  | nil => rfl
  | cons c t ih =>
    show (Jvm.Cond.and c (allAtoms t)).before a st = _
    rw [Jvm.Cond.before_and, ih, List.all_cons]
def words1 : List Jvm.Cond := Jvm.Cond.code x code maxLocals ret :: tables_1
/-- a 'code' word, met by the world's own term for the bytes: nothing is compared byte by byte -/
theorem code_word {y : MethodName} {bytes : ByteArray} {mx : Nat} {rt : Option FieldType} {a : Array Value} {s : State} {m : MethodId} {meth : Method} {c : Code} (h1 : s.methodNamed? y = some m) (h2 : s.vm.method? m = some meth) (h3 : meth.code = some c) (h4 : c.code = bytes)
    (h5 : (c.maxLocals == mx && c.exceptionTable.isEmpty && decide (c.maxStack ≤ mostOperands) && decide (meth.sig.returnType = rt) && !meth.locks && decide (parseMethodDescriptor y.desc = some meth.sig)) = true) : (Jvm.Cond.code y bytes mx rt).before a s = true := by
  simp only [Bool.and_eq_true, beq_iff_eq, Bool.not_eq_true', decide_eq_true_eq] at h5
  obtain ⟨⟨⟨⟨⟨g1, g2⟩, g3⟩, g4⟩, g5⟩, g6⟩ := h5
  simp [Cond.before, Cond.holds, Cond.value, h1, h2, h3, h4, g1, g2, g3, g4, g5, g6]
def isCode : Jvm.Cond → Bool
  | .code _ _ _ _ => true
  | _ => false
theorem all_split {L : List Jvm.Cond} {P : Jvm.Cond → Bool} (h1 : L.all (fun c => isCode c || P c) = true) (h2 : ∀ c ∈ L.filter isCode, P c = true) : L.all P = true := by
  refine List.all_eq_true.mpr fun c hc => ?_
  have h := List.all_eq_true.mp h1 c hc
  rcases Bool.eq_false_or_eq_true (isCode c) with hi | hi
  · exact h2 c (List.mem_filter.mpr ⟨hc, hi⟩)
  · simpa [hi] using h
set_option maxRecDepth 65536 in
theorem w_c0 : (Jvm.Cond.code x code maxLocals ret).before args0 about1 = true := code_word (m := ⟨1, 1⟩) (meth := k1m1) (c := k1c1) (by decide +kernel) rfl rfl rfl (by decide +kernel)
set_option maxRecDepth 65536 in
theorem w_c1 : (Jvm.Cond.code ({ cls := "com/example/openstrike/openstrike/market/Role", name := "isMarketMaker", desc := "()Z" } : Jvm.MethodName) prog_33_method_7_code (1 : Nat) (Option.some Jvm.ClassFile.FieldType.boolean)).before args0 about1 = true := code_word (m := ⟨6, 0⟩) (meth := k6m0) (c := k6c0) (by decide +kernel) rfl rfl rfl (by decide +kernel)
def codes1 : List Jvm.Cond := [Jvm.Cond.code x code maxLocals ret, Jvm.Cond.code ({ cls := "com/example/openstrike/openstrike/market/Role", name := "isMarketMaker", desc := "()Z" } : Jvm.MethodName) prog_33_method_7_code (1 : Nat) (Option.some Jvm.ClassFile.FieldType.boolean)]
set_option maxRecDepth 65536 in
theorem codes_eq : words1.filter isCode = codes1 := rfl
theorem w_codes : ∀ c ∈ words1.filter isCode, c.before args0 about1 = true := by
  rw [codes_eq]
  intro c hc
  simp only [codes1, List.mem_cons, List.not_mem_nil, or_false] at hc
  rcases hc with rfl | rfl
  · exact w_c0
  · exact w_c1
set_option maxRecDepth 65536 in
theorem w_t1 : words1.all (fun c => isCode c || c.before args0 about1) = true := by decide +kernel
theorem w_tables : (allAtoms (Jvm.Cond.code x code maxLocals ret :: tables_1)).before args0 about1 = true := by
  rw [allAtoms_all]
  show words1.all (fun c => c.before args0 about1) = true
  refine all_split ?_ w_codes
  rw [w_t1]
set_option maxRecDepth 65536 in
theorem w_case : (Jvm.Cond.and given_1 narrow_1).before args0 about1 = true := by decide +kernel
theorem w_applies : (headSpec (Jvm.Cond.code x code maxLocals ret :: tables_1) room_1).applies x e0.platform about1 = true :=
  (Spec.applies_iff w_frames).mpr ⟨w_running, w_runnable, w_alone, w_named, w_hears, w_ripe, w_room, w_tables⟩
theorem atStart : AtStart classFile x code maxLocals ret World_1 tables_1 room_1 Calls_1 rest_1 Pre_1 launch0 p0 e0 about1 theMethod args0 below0 :=
  ⟨lists_1, trivial, launch0.admits_env _ _ _, launch0.least_env, fairChoices_fair.cas, fairChoices_fair.clock, w_frames, w_args, w_heap, w_applies, trivial, trivial, w_case⟩
end start1
theorem witness_1 : WitnessClaimed_1 := ⟨start1.p0, start1.e0, start1.about1, start1.theMethod, start1.args0, start1.below0, start1.atStart⟩
end Jvm.Pilot.@@N@@
