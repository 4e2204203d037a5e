import JvmDerived
import JvmDerived.Pilot.@@N@@Statement
import JvmDerived.Pilot.@@N@@Code
set_option linter.unusedVariables false
set_option linter.unusedSimpArgs false
namespace Jvm.Pilot.@@N@@
open Jvm Jvm.ClassFile Sem Op Lib Jvm.Free Jvm.Stand Jvm.LawKit Jvm.RoadKit Bundle Jvm.Pilot.@@N@@.Jvm.D
theorem own_w {ws : List Jvm.Cond} {a0 : Array Value} {Z : State} (hw : ∀ d ∈ ws, d.before a0 Z = true) (i : Nat) {d : Jvm.Cond} (h : ws[i]? = some d) : d.before a0 Z = true := hw _ (List.mem_of_getElem? h)
/-- the run comes to a state of which P holds -/
def Rch (tb : Tables) (e : Env) (below : List Frame) (P : State → Prop) (t : State) : Prop := ∃ u, Steps tb e below t u ∧ P u
theorem Rch.st {tb : Tables} {e : Env} {below : List Frame} {P : State → Prop} {t t' : State} (h : ∀ target, Steps tb e below t' target → Steps tb e below t target) (k : Rch tb e below P t') : Rch tb e below P t := by
  obtain ⟨u, h1, h2⟩ := k
  exact ⟨u, h u h1, h2⟩
theorem Rch.tr {tb : Tables} {e : Env} {below : List Frame} {P : State → Prop} {t t' : State} (h : Steps tb e below t t') (k : Rch tb e below P t') : Rch tb e below P t := by
  obtain ⟨u, h1, h2⟩ := k
  exact ⟨u, h.trans h1, h2⟩
theorem Rch.fin {tb : Tables} {e : Env} {below : List Frame} {P : State → Prop} {t u : State} (h : Steps tb e below t u) (k : P u) : Rch tb e below P t := ⟨u, h, k⟩
theorem Rch.out {tb : Tables} {e : Env} {below : List Frame} {P : State → Outcome → Prop} {t : State} (h : Rch tb e below (fun u => ∃ o, P u o) t) : ∃ u o, Steps tb e below t u ∧ P u o := by
  obtain ⟨u, h1, o, h2⟩ := h
  exact ⟨u, o, h1, h2⟩
theorem own_eqInt {t : Term} {n : Int32} {args : Array Value} {s : State} (h : (Cond.eq t (.int n)).value args s none s [] = some true) : t.eval args s none [] s = some (.int n) := by
  have hn : (Term.int n).eval args s none [] s = some (.int n) := rfl
  cases hv : t.eval args s none [] s with
  | none => simp [Cond.value, hv] at h
  | some x => cases x <;> simp [Cond.value, hv, hn] at h ⊢; exact h
theorem own_retI {p : Program} {l : Launch} {e : Env} {R : Room} {s : State} {m : MethodId} {args : Array Value} {below : List Frame} {meth : Method} {c : Code} {T : State} {locs : List Loc} {cells slots : Nat} (X : Stand p l e R s m args below meth c T locs cells slots) (hx : p.tables.exec = Jvm.exec) {pc : Nat} {Ls : Array Slot} {z : Int32} {rest : List Value} (hret : meth.sig.returnType = some .int) (hd : decode c.code pc = .ok (.ireturn, 1)) {fs : List Frame}
    (hl : ∀ (f : JFrame) (acts : List Action), f.method = m → f.locked = none → f.entered = [] → (doReturn e (T.setTop f) acts (some (.int z))).1 = T.setFrames fs) : Steps p.tables e below (T.setTop (mkF m pc Ls (.int z :: rest))) (T.setFrames fs) :=
  retOut X hx hret rfl (Or.inl ⟨rfl, Or.inl rfl, z, rfl⟩) hd hl
theorem own_retA {p : Program} {l : Launch} {e : Env} {R : Room} {s : State} {m : MethodId} {args : Array Value} {below : List Frame} {meth : Method} {c : Code} {T : State} {locs : List Loc} {cells slots : Nat} (X : Stand p l e R s m args below meth c T locs cells slots) (hx : p.tables.exec = Jvm.exec) {pc : Nat} {Ls : Array Slot} {w : Value} {t : FieldType} {rest : List Value} (hret : meth.sig.returnType = some t) (hn : narrow t w = w) (ht : t.isReference = true) (hw : w.isRef = true) (hd : decode c.code pc = .ok (.areturn, 1)) {fs : List Frame}
    (hl : ∀ (f : JFrame) (acts : List Action), f.method = m → f.locked = none → f.entered = [] → (doReturn e (T.setTop f) acts (some w)).1 = T.setFrames fs) : Steps p.tables e below (T.setTop (mkF m pc Ls (w :: rest))) (T.setFrames fs) :=
  retOut X hx hret hn (Or.inr (Or.inr (Or.inr (Or.inr ⟨rfl, ht, hw⟩)))) hd hl
theorem own_retJ {p : Program} {l : Launch} {e : Env} {R : Room} {s : State} {m : MethodId} {args : Array Value} {below : List Frame} {meth : Method} {c : Code} {T : State} {locs : List Loc} {cells slots : Nat} (X : Stand p l e R s m args below meth c T locs cells slots) (hx : p.tables.exec = Jvm.exec) {pc : Nat} {Ls : Array Slot} {z : Int64} {rest : List Value} (hret : meth.sig.returnType = some .long) (hd : decode c.code pc = .ok (.lreturn, 1)) {fs : List Frame}
    (hl : ∀ (f : JFrame) (acts : List Action), f.method = m → f.locked = none → f.entered = [] → (doReturn e (T.setTop f) acts (some (.long z))).1 = T.setFrames fs) : Steps p.tables e below (T.setTop (mkF m pc Ls (.long z :: rest))) (T.setFrames fs) :=
  retOut X hx hret rfl (Or.inr (Or.inl ⟨rfl, rfl, z, rfl⟩)) hd hl
theorem own_retD {p : Program} {l : Launch} {e : Env} {R : Room} {s : State} {m : MethodId} {args : Array Value} {below : List Frame} {meth : Method} {c : Code} {T : State} {locs : List Loc} {cells slots : Nat} (X : Stand p l e R s m args below meth c T locs cells slots) (hx : p.tables.exec = Jvm.exec) {pc : Nat} {Ls : Array Slot} {z : UInt64} {rest : List Value} (hret : meth.sig.returnType = some .double) (hd : decode c.code pc = .ok (.dreturn, 1)) {fs : List Frame}
    (hl : ∀ (f : JFrame) (acts : List Action), f.method = m → f.locked = none → f.entered = [] → (doReturn e (T.setTop f) acts (some (.double z))).1 = T.setFrames fs) : Steps p.tables e below (T.setTop (mkF m pc Ls (.double z :: rest))) (T.setFrames fs) :=
  retOut X hx hret rfl (Or.inr (Or.inr (Or.inl ⟨rfl, rfl, z, rfl⟩))) hd hl

theorem d1_0 : decode prog_15_method_7_code 0 = .ok (.aload_n 0, 1) := by decide +kernel
theorem d1_1 : decode prog_15_method_7_code 1 = .ok (.getstatic 10, 3) := by decide +kernel
theorem d1_4 : decode prog_15_method_7_code 4 = .ok (.if_acmp .eq 10, 3) := by decide +kernel
theorem d1_14 : decode prog_15_method_7_code 14 = .ok (.iconst 1, 1) := by decide +kernel
theorem d1_15 : decode prog_15_method_7_code 15 = .ok (.goto 4, 3) := by decide +kernel
theorem d1_19 : decode prog_15_method_7_code 19 = .ok (.ireturn, 1) := by decide +kernel
theorem d1_7 : decode prog_15_method_7_code 7 = .ok (.aload_n 0, 1) := by decide +kernel
theorem d1_8 : decode prog_15_method_7_code 8 = .ok (.getstatic 13, 3) := by decide +kernel
theorem d1_11 : decode prog_15_method_7_code 11 = .ok (.if_acmp .ne 7, 3) := by decide +kernel
theorem d1_18 : decode prog_15_method_7_code 18 = .ok (.iconst 0, 1) := by decide +kernel
def F1 (a0 : Addr) (w_CORI : Addr) (w_SSL : Addr) : Int32 := (if a0 = w_CORI then (1 : Int32) else (if a0 = w_SSL then (1 : Int32) else (0 : Int32)))
def Q1 (a0 : Addr) (w_CORI : Addr) (w_SSL : Addr) (h0 : Heap) (n0 : Nat) (v : Option Value) (h : Heap) (L : List Loc) : Prop := v = some (.int (F1 a0 w_CORI w_SSL)) ∧ Fr n0 L ∧ h = h0
theorem pn_com_example_telemachus_telemachus_broker_Merge : plainName "com/example/telemachus/telemachus/broker/Merge" = true := by first | (simp [plainName, overriddenIn]; done) | decide +kernel
theorem ef_1 (m : MethodId) (a0 : Addr) : entryFrame m #[(.ref a0)] 1 = mkF m 0 #[.val (.ref a0)] [] := by first | (simp [entryFrame, mkF, argsToLocals, Value.category]; done) | rfl
set_option maxRecDepth 65536 in
set_option maxHeartbeats 40000000 in
theorem b1 (l : Launch) (Z : State) (a0 : Array Value) (hw : ∀ d ∈ tables_1, d.before a0 Z = true) (ws : List Jvm.Cond) (a0 : Addr) (w_CORI : Addr) (w_SSL : Addr) (h0 : Heap) (n0 : Nat) (H_w_CORI : Sta Z h0 "com/example/telemachus/telemachus/broker/Merge" "CORI" "Lcom/example/telemachus/telemachus/broker/Merge;" (.ref w_CORI)) (H_w_SSL : Sta Z h0 "com/example/telemachus/telemachus/broker/Merge" "SSL" "Lcom/example/telemachus/telemachus/broker/Merge;" (.ref w_SSL)) :
    MetFree l (⟨"com/example/telemachus/telemachus/broker/Merge", "needsSample", "()Z"⟩ : MethodName) (head1 (Jvm.Cond.code (⟨"com/example/telemachus/telemachus/broker/Merge", "needsSample", "()Z"⟩ : MethodName) prog_15_method_7_code 1 (some .boolean) :: ws) ({ frames := 0, cells := 0, slots := 0, locals := 0 } : Room)) (fun a U => a = #[(.ref a0)] ∧ Z.Warmed39 U.vm ∧ U.heap = h0) (fun _ _ _ _ _ => True) (fun _ U o U' => ∃ v L, o = .returned v ∧ Q1 a0 w_CORI w_SSL h0 n0 v U'.heap L ∧ FrameEnd U o U' L ({ frames := 0, cells := 0, slots := 0, locals := 0 } : Room).cells ({ frames := 0, cells := 0, slots := 0, locals := 0 } : Room).slots) := by
  refine MetFree.of_bodySF (plainFor_of_name pn_com_example_telemachus_telemachus_broker_Merge) hisR ?_
  intro p e s m args below meth c s₁ Bd hml0 hP hK
  obtain ⟨rfl, hZ, hh⟩ := hP
  have hx := Bd.exec
  have hby := Bd.bytes
  have hml : c.maxLocals = 1 := hml0
  have hown : s.vm.findClass "com/example/telemachus/telemachus/broker/Merge" = some m.cls := findClass_of_methodNamed Bd.named
  have X0 : Stand p l e ({ frames := 0, cells := 0, slots := 0, locals := 0 } : Room) s m #[(.ref a0)] below meth c s₁ [] 0 0 := Stand.of_body Bd
  have e0 : s₁.heap = h0 := by rw [← hh, Bd.state]; rfl
  have N0 := Fr.nil n0
  refine Rch.out (Rch.st (fun t k => castTop (ef_1 m a0) k) ?_)
  show Rch p.tables e below _ (s₁.setTop (mkF m 0 #[.val (.ref a0)] []))
  refine Rch.st (fun _ hr => XS.aloadN X0.here hx rfl (hb hby d1_0) rfl rfl hr) ?_
  show Rch p.tables e below _ (s₁.setTop (mkF m 1 #[.val (.ref a0)] [(.ref a0)]))
  obtain ⟨T1, X1, e1, st1⟩ := getS2 X0 hx hZ hown (host := "") (Or.inl (own_w hw 8 rfl)) Via.refl e0 H_w_CORI (g := (mkF m 1 #[.val (.ref a0)] [(.ref a0)])) rfl (hb hby d1_1)
  refine Rch.st st1 ?_
  show Rch p.tables e below _ (T1.setTop (mkF m 4 #[.val (.ref a0)] [(.ref w_CORI), (.ref a0)]))
  by_cases hc2 : a0 = w_CORI
  · refine Rch.st (fun _ hr => Jvm.RoadKit.acmp (g := (mkF m 4 #[.val (.ref a0)] [(.ref w_CORI), (.ref a0)])) X1 hx rfl rfl rfl (pc0 := 4) (pc' := 14) (same := true) rfl (hb hby d1_4) rfl (decide_eq_true (congrArg Value.ref hc2)) (by decide) (by decide) hr) ?_
    show Rch p.tables e below _ (T1.setTop (mkF m 14 #[.val (.ref a0)] []))
    refine Rch.st (fun _ hr => XS.iconst X1.here hx rfl (hb hby d1_14) hr) ?_
    show Rch p.tables e below _ (T1.setTop (mkF m 15 #[.val (.ref a0)] [(.int (1 : Int32))]))
    refine Rch.st (fun _ hr => XS.goto X1.here hx rfl (pc0 := 15) (pc' := 19) rfl (hb hby d1_15) (by decide) (by decide) hr) ?_
    show Rch p.tables e below _ (T1.setTop (mkF m 19 #[.val (.ref a0)] [(.int (1 : Int32))]))
    obtain ⟨fs, hr, hrun, hended, hW, hsame⟩ := X1.leave (v := some (.int (1 : Int32))) (fun h => by rw [Bd.returns] at h; cases h)
    refine Rch.fin (u := T1.setFrames fs) (retN X1 hx (t := .boolean) Bd.returns (by simp) (hb hby d1_19) hr) ⟨_, hrun, hended, _, _, rfl, ⟨?_, N0, e1⟩, ⟨_, rfl⟩, hW, hsame.mono (by decide) (by decide)⟩
    rw [show F1 a0 w_CORI w_SSL = (1 : Int32) from by unfold F1; rw [if_pos hc2]]
  · refine Rch.st (fun _ hr => Jvm.RoadKit.acmp (g := (mkF m 4 #[.val (.ref a0)] [(.ref w_CORI), (.ref a0)])) X1 hx rfl rfl rfl (pc0 := 4) (pc' := 7) (same := false) rfl (hb hby d1_4) rfl (decide_eq_false fun q => hc2 (Value.ref.inj q)) (by decide) (by decide) hr) ?_
    show Rch p.tables e below _ (T1.setTop (mkF m 7 #[.val (.ref a0)] []))
    refine Rch.st (fun _ hr => XS.aloadN X1.here hx rfl (hb hby d1_7) rfl rfl hr) ?_
    show Rch p.tables e below _ (T1.setTop (mkF m 8 #[.val (.ref a0)] [(.ref a0)]))
    obtain ⟨T4, X4, e4, st4⟩ := getS2 X1 hx hZ hown (host := "") (Or.inl (own_w hw 10 rfl)) Via.refl e1 H_w_SSL (g := (mkF m 8 #[.val (.ref a0)] [(.ref a0)])) rfl (hb hby d1_8)
    refine Rch.st st4 ?_
    show Rch p.tables e below _ (T4.setTop (mkF m 11 #[.val (.ref a0)] [(.ref w_SSL), (.ref a0)]))
    by_cases hc5 : a0 = w_SSL
    · refine Rch.st (fun _ hr => Jvm.RoadKit.acmp (g := (mkF m 11 #[.val (.ref a0)] [(.ref w_SSL), (.ref a0)])) X4 hx rfl rfl rfl (pc0 := 11) (pc' := 14) (same := true) rfl (hb hby d1_11) rfl (decide_eq_true (congrArg Value.ref hc5)) (by decide) (by decide) hr) ?_
      show Rch p.tables e below _ (T4.setTop (mkF m 14 #[.val (.ref a0)] []))
      refine Rch.st (fun _ hr => XS.iconst X4.here hx rfl (hb hby d1_14) hr) ?_
      show Rch p.tables e below _ (T4.setTop (mkF m 15 #[.val (.ref a0)] [(.int (1 : Int32))]))
      refine Rch.st (fun _ hr => XS.goto X4.here hx rfl (pc0 := 15) (pc' := 19) rfl (hb hby d1_15) (by decide) (by decide) hr) ?_
      show Rch p.tables e below _ (T4.setTop (mkF m 19 #[.val (.ref a0)] [(.int (1 : Int32))]))
      obtain ⟨fs, hr, hrun, hended, hW, hsame⟩ := X4.leave (v := some (.int (1 : Int32))) (fun h => by rw [Bd.returns] at h; cases h)
      refine Rch.fin (u := T4.setFrames fs) (retN X4 hx (t := .boolean) Bd.returns (by simp) (hb hby d1_19) hr) ⟨_, hrun, hended, _, _, rfl, ⟨?_, N0, e4⟩, ⟨_, rfl⟩, hW, hsame.mono (by decide) (by decide)⟩
      rw [show F1 a0 w_CORI w_SSL = (1 : Int32) from by unfold F1; rw [if_neg hc2, if_pos hc5]]
    · refine Rch.st (fun _ hr => Jvm.RoadKit.acmp (g := (mkF m 11 #[.val (.ref a0)] [(.ref w_SSL), (.ref a0)])) X4 hx rfl rfl rfl (pc0 := 11) (pc' := 18) (same := false) rfl (hb hby d1_11) rfl (decide_eq_false fun q => hc5 (Value.ref.inj q)) (by decide) (by decide) hr) ?_
      show Rch p.tables e below _ (T4.setTop (mkF m 18 #[.val (.ref a0)] []))
      refine Rch.st (fun _ hr => XS.iconst X4.here hx rfl (hb hby d1_18) hr) ?_
      show Rch p.tables e below _ (T4.setTop (mkF m 19 #[.val (.ref a0)] [(.int (0 : Int32))]))
      obtain ⟨fs, hr, hrun, hended, hW, hsame⟩ := X4.leave (v := some (.int (0 : Int32))) (fun h => by rw [Bd.returns] at h; cases h)
      refine Rch.fin (u := T4.setFrames fs) (retN X4 hx (t := .boolean) Bd.returns (by simp) (hb hby d1_19) hr) ⟨_, hrun, hended, _, _, rfl, ⟨?_, N0, e4⟩, ⟨_, rfl⟩, hW, hsame.mono (by decide) (by decide)⟩
      rw [show F1 a0 w_CORI w_SSL = (0 : Int32) from by unfold F1; rw [if_neg hc2, if_neg hc5]]
theorem pd_0 : parseMethodDescriptor "()Z" = some ⟨[], some .boolean⟩ := by decide +kernel
def F0 (p0 : Int32) (w_ROUND_ROBIN : Addr) (w_CORI : Addr) (w_SSL : Addr) (w_RRF : Addr) : Int32 := (if (p0 &&& (3 : Int32)) = (0 : Int32) then (if (F1 w_ROUND_ROBIN w_CORI w_SSL) = (0 : Int32) then (1 : Int32) else (0 : Int32)) else (if (p0 &&& (3 : Int32)) = (1 : Int32) then (if (F1 w_RRF w_CORI w_SSL) = (0 : Int32) then (1 : Int32) else (0 : Int32)) else (if (p0 &&& (3 : Int32)) = (2 : Int32) then (if (F1 w_CORI w_CORI w_SSL) = (1 : Int32) then (1 : Int32) else (0 : Int32)) else (if (F1 w_SSL w_CORI w_SSL) = (1 : Int32) then (1 : Int32) else (0 : Int32)))))
def Q0 (p0 : Int32) (w_ROUND_ROBIN : Addr) (w_CORI : Addr) (w_SSL : Addr) (w_RRF : Addr) (h0 : Heap) (n0 : Nat) (v : Option Value) (h : Heap) (L : List Loc) : Prop := v = some (.int (F0 p0 w_ROUND_ROBIN w_CORI w_SSL w_RRF)) ∧ Fr n0 L ∧ h = h0
theorem pn_com_example_telemachus_telemachus_broker_MergeNeedsSamplePinLaw : plainName "com/example/telemachus/telemachus/broker/MergeNeedsSamplePinLaw" = true := by first | (simp [plainName, overriddenIn]; done) | decide +kernel
theorem ef_0 (m : MethodId) (p0 : Int32) : entryFrame m #[(.int p0)] maxLocals = mkF m 0 #[.val (.int p0), .unset, .unset, .unset] [] := by first | (simp [entryFrame, mkF, argsToLocals, Value.category, maxLocals]; done) | rfl
set_option maxRecDepth 65536 in
set_option maxHeartbeats 40000000 in
theorem b0 (l : Launch) (Z : State) (a0 : Array Value) (hw : ∀ d ∈ tables_1, d.before a0 Z = true) (ws : List Jvm.Cond) (p0 : Int32) (w_ROUND_ROBIN : Addr) (w_CORI : Addr) (w_SSL : Addr) (w_RRF : Addr) (h0 : Heap) (n0 : Nat) (H_w_ROUND_ROBIN : Sta Z h0 "com/example/telemachus/telemachus/broker/Merge" "ROUND_ROBIN" "Lcom/example/telemachus/telemachus/broker/Merge;" (.ref w_ROUND_ROBIN)) (H_w_CORI : Sta Z h0 "com/example/telemachus/telemachus/broker/Merge" "CORI" "Lcom/example/telemachus/telemachus/broker/Merge;" (.ref w_CORI)) (H_w_SSL : Sta Z h0 "com/example/telemachus/telemachus/broker/Merge" "SSL" "Lcom/example/telemachus/telemachus/broker/Merge;" (.ref w_SSL)) (E_w_ROUND_ROBIN : Exa Z h0 w_ROUND_ROBIN "com/example/telemachus/telemachus/broker/Merge$1") (H_w_RRF : Sta Z h0 "com/example/telemachus/telemachus/broker/Merge" "RRF" "Lcom/example/telemachus/telemachus/broker/Merge;" (.ref w_RRF)) (E_w_RRF : Exa Z h0 w_RRF "com/example/telemachus/telemachus/broker/Merge$2") (E_w_CORI : Exa Z h0 w_CORI "com/example/telemachus/telemachus/broker/Merge$3") (E_w_SSL : Exa Z h0 w_SSL "com/example/telemachus/telemachus/broker/Merge$4") :
    MetFree l x (head1 (Jvm.Cond.code x code maxLocals ret :: ws) room_1) (fun a U => a = #[(.int p0)] ∧ Z.Warmed39 U.vm ∧ U.heap = h0) (fun _ _ _ _ _ => True) (fun _ U o U' => ∃ v L, o = .returned v ∧ Q0 p0 w_ROUND_ROBIN w_CORI w_SSL w_RRF h0 n0 v U'.heap L ∧ FrameEnd U o U' L room_1.cells room_1.slots) := by
  refine MetFree.of_bodySF (plainFor_of_name pn_com_example_telemachus_telemachus_broker_MergeNeedsSamplePinLaw) hisR ?_
  intro p e s m args below meth c s₁ Bd hml0 hP hK
  obtain ⟨rfl, hZ, hh⟩ := hP
  have hx := Bd.exec
  have hby := Bd.bytes
  have hml : c.maxLocals = 4 := hml0
  have hown : s.vm.findClass "com/example/telemachus/telemachus/broker/MergeNeedsSamplePinLaw" = some m.cls := findClass_of_methodNamed Bd.named
  have X0 : Stand p l e room_1 s m #[(.int p0)] below meth c s₁ [] 0 0 := Stand.of_body Bd
  have e0 : s₁.heap = h0 := by rw [← hh, Bd.state]; rfl
  have N0 := Fr.nil n0
  refine Rch.out (Rch.st (fun t k => castTop (ef_0 m p0) k) ?_)
  show Rch p.tables e below _ (s₁.setTop (mkF m 0 #[.val (.int p0), .unset, .unset, .unset] []))
  refine Rch.st (fun _ hr => XS.iloadN X0.here hx rfl (hb hby at_0) rfl hr) ?_
  show Rch p.tables e below _ (s₁.setTop (mkF m 1 #[.val (.int p0), .unset, .unset, .unset] [(.int p0)]))
  refine Rch.st (fun _ hr => XS.iconst X0.here hx rfl (hb hby at_1) hr) ?_
  show Rch p.tables e below _ (s₁.setTop (mkF m 2 #[.val (.int p0), .unset, .unset, .unset] [(.int (3 : Int32)), (.int p0)]))
  refine Rch.st (fun _ hr => XS.iand X0.here hx rfl (hb hby at_2) rfl hr) ?_
  show Rch p.tables e below _ (s₁.setTop (mkF m 3 #[.val (.int p0), .unset, .unset, .unset] [(.int (p0 &&& (3 : Int32)))]))
  refine Rch.st (fun _ hr => XS.istoreN X0.here hx rfl (hb hby at_3) rfl (l' := #[.val (.int p0), .val (.int (p0 &&& (3 : Int32))), .unset, .unset]) rfl hr) ?_
  show Rch p.tables e below _ (s₁.setTop (mkF m 4 #[.val (.int p0), .val (.int (p0 &&& (3 : Int32))), .unset, .unset] []))
  refine Rch.st (fun _ hr => XS.iloadN X0.here hx rfl (hb hby at_4) rfl hr) ?_
  show Rch p.tables e below _ (s₁.setTop (mkF m 5 #[.val (.int p0), .val (.int (p0 &&& (3 : Int32))), .unset, .unset] [(.int (p0 &&& (3 : Int32)))]))
  by_cases hc1 : (p0 &&& (3 : Int32)) = (0 : Int32)
  · refine Rch.st (fun _ hr => XS.ifNo X0.here hx rfl (hb hby at_5) rfl ((if0 _ _).trans (teq hc1).2) hr) ?_
    show Rch p.tables e below _ (s₁.setTop (mkF m 8 #[.val (.int p0), .val (.int (p0 &&& (3 : Int32))), .unset, .unset] []))
    obtain ⟨T2, X2, e2, st2⟩ := getS2 X0 hx hZ hown (host := "") (Or.inl (own_w hw 0 rfl)) Via.refl e0 H_w_ROUND_ROBIN (g := (mkF m 8 #[.val (.int p0), .val (.int (p0 &&& (3 : Int32))), .unset, .unset] [])) rfl (hb hby at_8)
    refine Rch.st st2 ?_
    show Rch p.tables e below _ (T2.setTop (mkF m 11 #[.val (.int p0), .val (.int (p0 &&& (3 : Int32))), .unset, .unset] [(.ref w_ROUND_ROBIN)]))
    refine Rch.st (fun _ hr => XS.astoreN X2.here hx rfl (hb hby at_11) rfl rfl (l' := #[.val (.int p0), .val (.int (p0 &&& (3 : Int32))), .val (.ref w_ROUND_ROBIN), .unset]) rfl hr) ?_
    show Rch p.tables e below _ (T2.setTop (mkF m 12 #[.val (.int p0), .val (.int (p0 &&& (3 : Int32))), .val (.ref w_ROUND_ROBIN), .unset] []))
    refine Rch.st (fun _ hr => XS.iconst X2.here hx rfl (hb hby at_12) hr) ?_
    show Rch p.tables e below _ (T2.setTop (mkF m 13 #[.val (.int p0), .val (.int (p0 &&& (3 : Int32))), .val (.ref w_ROUND_ROBIN), .unset] [(.int (0 : Int32))]))
    refine Rch.st (fun _ hr => XS.istoreN X2.here hx rfl (hb hby at_13) rfl (l' := #[.val (.int p0), .val (.int (p0 &&& (3 : Int32))), .val (.ref w_ROUND_ROBIN), .val (.int (0 : Int32))]) rfl hr) ?_
    show Rch p.tables e below _ (T2.setTop (mkF m 14 #[.val (.int p0), .val (.int (p0 &&& (3 : Int32))), .val (.ref w_ROUND_ROBIN), .val (.int (0 : Int32))] []))
    refine Rch.st (fun _ hr => XS.goto X2.here hx rfl (pc0 := 14) (pc' := 51) rfl (hb hby at_14) (by decide) (by decide) hr) ?_
    show Rch p.tables e below _ (T2.setTop (mkF m 51 #[.val (.int p0), .val (.int (p0 &&& (3 : Int32))), .val (.ref w_ROUND_ROBIN), .val (.int (0 : Int32))] []))
    refine Rch.st (fun _ hr => XS.aloadN X2.here hx rfl (hb hby at_51) rfl rfl hr) ?_
    show Rch p.tables e below _ (T2.setTop (mkF m 52 #[.val (.int p0), .val (.int (p0 &&& (3 : Int32))), .val (.ref w_ROUND_ROBIN), .val (.int (0 : Int32))] [(.ref w_ROUND_ROBIN)]))
    obtain ⟨cq3, kq3, q3a, q3b, q3c⟩ := isOf hZ e2 E_w_ROUND_ROBIN
    obtain ⟨_, _, ⟨T3, L3, k3, n3⟩, -, X3, ⟨Lc3, hQ3, l3, y3, z3⟩, st3⟩ := X2.virtualBack hx (y := (⟨"com/example/telemachus/telemachus/broker/Merge", "needsSample", "()Z"⟩ : MethodName)) (z := (⟨"com/example/telemachus/telemachus/broker/Merge", "needsSample", "()Z"⟩ : MethodName)) hown (mvT hZ (own_w hw 3 rfl)) (mvT hZ (own_w hw 4 rfl)) (notFace_of_selects (args := #[]) (mvT hZ (own_w hw 6 rfl))) (mvT hZ (own_w hw 6 rfl)) (mvT hZ (own_w hw 5 rfl)) (by decide) (backOf (W := 0) (b1 l Z a0 hw [] w_ROUND_ROBIN w_CORI w_SSL h0 n0 H_w_CORI H_w_SSL) hZ (own_w hw 7 rfl) (own_w hw 1 rfl) (by decide) (by decide)) q3a q3c (g := (mkF m 52 #[.val (.int p0), .val (.int (p0 &&& (3 : Int32))), .val (.ref w_ROUND_ROBIN), .val (.int (0 : Int32))] [(.ref w_ROUND_ROBIN)])) rfl (by rw [hml]; rfl) (Steps.refl _) (argsL := []) (rest := []) (lenOf pd_0 rfl) rfl (by show 2 * 0 + _ ≤ _; exact Nat.le_of_eq rfl) (hb hby at_52) (fun _ _ => ⟨rfl, e2, (by decide : 0 + 0 ≤ _), (by decide : 0 + 0 ≤ _)⟩)
    dsimp only [Pt.U, Pt.locs, Pt.cells, Pt.slots] at X3 l3 y3 z3 st3 hQ3
    subst l3 y3 z3
    obtain ⟨rfl, N3q, e3⟩ := hQ3
    have N3 := Fr.app N0 N3q
    refine Rch.tr st3 ?_
    show Rch p.tables e below _ (T3.setTop (mkF m 55 #[.val (.int p0), .val (.int (p0 &&& (3 : Int32))), .val (.ref w_ROUND_ROBIN), .val (.int (0 : Int32))] [(.int (F1 w_ROUND_ROBIN w_CORI w_SSL))]))
    refine Rch.st (fun _ hr => XS.iloadN X3.here hx rfl (hb hby at_55) rfl hr) ?_
    show Rch p.tables e below _ (T3.setTop (mkF m 56 #[.val (.int p0), .val (.int (p0 &&& (3 : Int32))), .val (.ref w_ROUND_ROBIN), .val (.int (0 : Int32))] [(.int (0 : Int32)), (.int (F1 w_ROUND_ROBIN w_CORI w_SSL))]))
    by_cases hc4 : (F1 w_ROUND_ROBIN w_CORI w_SSL) = (0 : Int32)
    · refine Rch.st (fun _ hr => XS.icmpNo X3.here hx rfl (hb hby at_56) rfl (teq hc4).2 hr) ?_
      show Rch p.tables e below _ (T3.setTop (mkF m 59 #[.val (.int p0), .val (.int (p0 &&& (3 : Int32))), .val (.ref w_ROUND_ROBIN), .val (.int (0 : Int32))] []))
      refine Rch.st (fun _ hr => XS.iconst X3.here hx rfl (hb hby at_59) hr) ?_
      show Rch p.tables e below _ (T3.setTop (mkF m 60 #[.val (.int p0), .val (.int (p0 &&& (3 : Int32))), .val (.ref w_ROUND_ROBIN), .val (.int (0 : Int32))] [(.int (1 : Int32))]))
      refine Rch.st (fun _ hr => XS.goto X3.here hx rfl (pc0 := 60) (pc' := 64) rfl (hb hby at_60) (by decide) (by decide) hr) ?_
      show Rch p.tables e below _ (T3.setTop (mkF m 64 #[.val (.int p0), .val (.int (p0 &&& (3 : Int32))), .val (.ref w_ROUND_ROBIN), .val (.int (0 : Int32))] [(.int (1 : Int32))]))
      obtain ⟨fs, hr, hrun, hended, hW, hsame⟩ := X3.leave (v := some (.int (1 : Int32))) (fun h => by rw [Bd.returns] at h; cases h)
      refine Rch.fin (u := T3.setFrames fs) (retN X3 hx (t := .boolean) Bd.returns (by simp) (hb hby at_64) hr) ⟨_, hrun, hended, _, _, rfl, ⟨?_, N3, e3⟩, ⟨_, rfl⟩, hW, hsame.mono (by decide) (by decide)⟩
      rw [show F0 p0 w_ROUND_ROBIN w_CORI w_SSL w_RRF = (1 : Int32) from by unfold F0; rw [if_pos hc1, if_pos hc4]]
    · refine Rch.st (fun _ hr => XS.icmpYes X3.here hx rfl (pc0 := 56) (pc' := 63) rfl (hb hby at_56) rfl (feq hc4).2 (by decide) (by decide) hr) ?_
      show Rch p.tables e below _ (T3.setTop (mkF m 63 #[.val (.int p0), .val (.int (p0 &&& (3 : Int32))), .val (.ref w_ROUND_ROBIN), .val (.int (0 : Int32))] []))
      refine Rch.st (fun _ hr => XS.iconst X3.here hx rfl (hb hby at_63) hr) ?_
      show Rch p.tables e below _ (T3.setTop (mkF m 64 #[.val (.int p0), .val (.int (p0 &&& (3 : Int32))), .val (.ref w_ROUND_ROBIN), .val (.int (0 : Int32))] [(.int (0 : Int32))]))
      obtain ⟨fs, hr, hrun, hended, hW, hsame⟩ := X3.leave (v := some (.int (0 : Int32))) (fun h => by rw [Bd.returns] at h; cases h)
      refine Rch.fin (u := T3.setFrames fs) (retN X3 hx (t := .boolean) Bd.returns (by simp) (hb hby at_64) hr) ⟨_, hrun, hended, _, _, rfl, ⟨?_, N3, e3⟩, ⟨_, rfl⟩, hW, hsame.mono (by decide) (by decide)⟩
      rw [show F0 p0 w_ROUND_ROBIN w_CORI w_SSL w_RRF = (0 : Int32) from by unfold F0; rw [if_pos hc1, if_neg hc4]]
  · refine Rch.st (fun _ hr => XS.ifYes X0.here hx rfl (pc0 := 5) (pc' := 17) rfl (hb hby at_5) rfl ((if0 _ _).trans (feq hc1).2) (by decide) (by decide) hr) ?_
    show Rch p.tables e below _ (s₁.setTop (mkF m 17 #[.val (.int p0), .val (.int (p0 &&& (3 : Int32))), .unset, .unset] []))
    refine Rch.st (fun _ hr => XS.iloadN X0.here hx rfl (hb hby at_17) rfl hr) ?_
    show Rch p.tables e below _ (s₁.setTop (mkF m 18 #[.val (.int p0), .val (.int (p0 &&& (3 : Int32))), .unset, .unset] [(.int (p0 &&& (3 : Int32)))]))
    refine Rch.st (fun _ hr => XS.iconst X0.here hx rfl (hb hby at_18) hr) ?_
    show Rch p.tables e below _ (s₁.setTop (mkF m 19 #[.val (.int p0), .val (.int (p0 &&& (3 : Int32))), .unset, .unset] [(.int (1 : Int32)), (.int (p0 &&& (3 : Int32)))]))
    by_cases hc7 : (p0 &&& (3 : Int32)) = (1 : Int32)
    · refine Rch.st (fun _ hr => XS.icmpNo X0.here hx rfl (hb hby at_19) rfl (teq hc7).2 hr) ?_
      show Rch p.tables e below _ (s₁.setTop (mkF m 22 #[.val (.int p0), .val (.int (p0 &&& (3 : Int32))), .unset, .unset] []))
      obtain ⟨T8, X8, e8, st8⟩ := getS2 X0 hx hZ hown (host := "") (Or.inl (own_w hw 16 rfl)) Via.refl e0 H_w_RRF (g := (mkF m 22 #[.val (.int p0), .val (.int (p0 &&& (3 : Int32))), .unset, .unset] [])) rfl (hb hby at_22)
      refine Rch.st st8 ?_
      show Rch p.tables e below _ (T8.setTop (mkF m 25 #[.val (.int p0), .val (.int (p0 &&& (3 : Int32))), .unset, .unset] [(.ref w_RRF)]))
      refine Rch.st (fun _ hr => XS.astoreN X8.here hx rfl (hb hby at_25) rfl rfl (l' := #[.val (.int p0), .val (.int (p0 &&& (3 : Int32))), .val (.ref w_RRF), .unset]) rfl hr) ?_
      show Rch p.tables e below _ (T8.setTop (mkF m 26 #[.val (.int p0), .val (.int (p0 &&& (3 : Int32))), .val (.ref w_RRF), .unset] []))
      refine Rch.st (fun _ hr => XS.iconst X8.here hx rfl (hb hby at_26) hr) ?_
      show Rch p.tables e below _ (T8.setTop (mkF m 27 #[.val (.int p0), .val (.int (p0 &&& (3 : Int32))), .val (.ref w_RRF), .unset] [(.int (0 : Int32))]))
      refine Rch.st (fun _ hr => XS.istoreN X8.here hx rfl (hb hby at_27) rfl (l' := #[.val (.int p0), .val (.int (p0 &&& (3 : Int32))), .val (.ref w_RRF), .val (.int (0 : Int32))]) rfl hr) ?_
      show Rch p.tables e below _ (T8.setTop (mkF m 28 #[.val (.int p0), .val (.int (p0 &&& (3 : Int32))), .val (.ref w_RRF), .val (.int (0 : Int32))] []))
      refine Rch.st (fun _ hr => XS.goto X8.here hx rfl (pc0 := 28) (pc' := 51) rfl (hb hby at_28) (by decide) (by decide) hr) ?_
      show Rch p.tables e below _ (T8.setTop (mkF m 51 #[.val (.int p0), .val (.int (p0 &&& (3 : Int32))), .val (.ref w_RRF), .val (.int (0 : Int32))] []))
      refine Rch.st (fun _ hr => XS.aloadN X8.here hx rfl (hb hby at_51) rfl rfl hr) ?_
      show Rch p.tables e below _ (T8.setTop (mkF m 52 #[.val (.int p0), .val (.int (p0 &&& (3 : Int32))), .val (.ref w_RRF), .val (.int (0 : Int32))] [(.ref w_RRF)]))
      obtain ⟨cq9, kq9, q9a, q9b, q9c⟩ := isOf hZ e8 E_w_RRF
      obtain ⟨_, _, ⟨T9, L9, k9, n9⟩, -, X9, ⟨Lc9, hQ9, l9, y9, z9⟩, st9⟩ := X8.virtualBack hx (y := (⟨"com/example/telemachus/telemachus/broker/Merge", "needsSample", "()Z"⟩ : MethodName)) (z := (⟨"com/example/telemachus/telemachus/broker/Merge", "needsSample", "()Z"⟩ : MethodName)) hown (mvT hZ (own_w hw 3 rfl)) (mvT hZ (own_w hw 4 rfl)) (notFace_of_selects (args := #[]) (mvT hZ (own_w hw 18 rfl))) (mvT hZ (own_w hw 18 rfl)) (mvT hZ (own_w hw 5 rfl)) (by decide) (backOf (W := 0) (b1 l Z a0 hw [] w_RRF w_CORI w_SSL h0 n0 H_w_CORI H_w_SSL) hZ (own_w hw 7 rfl) (own_w hw 1 rfl) (by decide) (by decide)) q9a q9c (g := (mkF m 52 #[.val (.int p0), .val (.int (p0 &&& (3 : Int32))), .val (.ref w_RRF), .val (.int (0 : Int32))] [(.ref w_RRF)])) rfl (by rw [hml]; rfl) (Steps.refl _) (argsL := []) (rest := []) (lenOf pd_0 rfl) rfl (by show 2 * 0 + _ ≤ _; exact Nat.le_of_eq rfl) (hb hby at_52) (fun _ _ => ⟨rfl, e8, (by decide : 0 + 0 ≤ _), (by decide : 0 + 0 ≤ _)⟩)
      dsimp only [Pt.U, Pt.locs, Pt.cells, Pt.slots] at X9 l9 y9 z9 st9 hQ9
      subst l9 y9 z9
      obtain ⟨rfl, N9q, e9⟩ := hQ9
      have N9 := Fr.app N0 N9q
      refine Rch.tr st9 ?_
      show Rch p.tables e below _ (T9.setTop (mkF m 55 #[.val (.int p0), .val (.int (p0 &&& (3 : Int32))), .val (.ref w_RRF), .val (.int (0 : Int32))] [(.int (F1 w_RRF w_CORI w_SSL))]))
      refine Rch.st (fun _ hr => XS.iloadN X9.here hx rfl (hb hby at_55) rfl hr) ?_
      show Rch p.tables e below _ (T9.setTop (mkF m 56 #[.val (.int p0), .val (.int (p0 &&& (3 : Int32))), .val (.ref w_RRF), .val (.int (0 : Int32))] [(.int (0 : Int32)), (.int (F1 w_RRF w_CORI w_SSL))]))
      by_cases hc10 : (F1 w_RRF w_CORI w_SSL) = (0 : Int32)
      · refine Rch.st (fun _ hr => XS.icmpNo X9.here hx rfl (hb hby at_56) rfl (teq hc10).2 hr) ?_
        show Rch p.tables e below _ (T9.setTop (mkF m 59 #[.val (.int p0), .val (.int (p0 &&& (3 : Int32))), .val (.ref w_RRF), .val (.int (0 : Int32))] []))
        refine Rch.st (fun _ hr => XS.iconst X9.here hx rfl (hb hby at_59) hr) ?_
        show Rch p.tables e below _ (T9.setTop (mkF m 60 #[.val (.int p0), .val (.int (p0 &&& (3 : Int32))), .val (.ref w_RRF), .val (.int (0 : Int32))] [(.int (1 : Int32))]))
        refine Rch.st (fun _ hr => XS.goto X9.here hx rfl (pc0 := 60) (pc' := 64) rfl (hb hby at_60) (by decide) (by decide) hr) ?_
        show Rch p.tables e below _ (T9.setTop (mkF m 64 #[.val (.int p0), .val (.int (p0 &&& (3 : Int32))), .val (.ref w_RRF), .val (.int (0 : Int32))] [(.int (1 : Int32))]))
        obtain ⟨fs, hr, hrun, hended, hW, hsame⟩ := X9.leave (v := some (.int (1 : Int32))) (fun h => by rw [Bd.returns] at h; cases h)
        refine Rch.fin (u := T9.setFrames fs) (retN X9 hx (t := .boolean) Bd.returns (by simp) (hb hby at_64) hr) ⟨_, hrun, hended, _, _, rfl, ⟨?_, N9, e9⟩, ⟨_, rfl⟩, hW, hsame.mono (by decide) (by decide)⟩
        rw [show F0 p0 w_ROUND_ROBIN w_CORI w_SSL w_RRF = (1 : Int32) from by unfold F0; rw [if_neg hc1, if_pos hc7, if_pos hc10]]
      · refine Rch.st (fun _ hr => XS.icmpYes X9.here hx rfl (pc0 := 56) (pc' := 63) rfl (hb hby at_56) rfl (feq hc10).2 (by decide) (by decide) hr) ?_
        show Rch p.tables e below _ (T9.setTop (mkF m 63 #[.val (.int p0), .val (.int (p0 &&& (3 : Int32))), .val (.ref w_RRF), .val (.int (0 : Int32))] []))
        refine Rch.st (fun _ hr => XS.iconst X9.here hx rfl (hb hby at_63) hr) ?_
        show Rch p.tables e below _ (T9.setTop (mkF m 64 #[.val (.int p0), .val (.int (p0 &&& (3 : Int32))), .val (.ref w_RRF), .val (.int (0 : Int32))] [(.int (0 : Int32))]))
        obtain ⟨fs, hr, hrun, hended, hW, hsame⟩ := X9.leave (v := some (.int (0 : Int32))) (fun h => by rw [Bd.returns] at h; cases h)
        refine Rch.fin (u := T9.setFrames fs) (retN X9 hx (t := .boolean) Bd.returns (by simp) (hb hby at_64) hr) ⟨_, hrun, hended, _, _, rfl, ⟨?_, N9, e9⟩, ⟨_, rfl⟩, hW, hsame.mono (by decide) (by decide)⟩
        rw [show F0 p0 w_ROUND_ROBIN w_CORI w_SSL w_RRF = (0 : Int32) from by unfold F0; rw [if_neg hc1, if_pos hc7, if_neg hc10]]
    · refine Rch.st (fun _ hr => XS.icmpYes X0.here hx rfl (pc0 := 19) (pc' := 31) rfl (hb hby at_19) rfl (feq hc7).2 (by decide) (by decide) hr) ?_
      show Rch p.tables e below _ (s₁.setTop (mkF m 31 #[.val (.int p0), .val (.int (p0 &&& (3 : Int32))), .unset, .unset] []))
      refine Rch.st (fun _ hr => XS.iloadN X0.here hx rfl (hb hby at_31) rfl hr) ?_
      show Rch p.tables e below _ (s₁.setTop (mkF m 32 #[.val (.int p0), .val (.int (p0 &&& (3 : Int32))), .unset, .unset] [(.int (p0 &&& (3 : Int32)))]))
      refine Rch.st (fun _ hr => XS.iconst X0.here hx rfl (hb hby at_32) hr) ?_
      show Rch p.tables e below _ (s₁.setTop (mkF m 33 #[.val (.int p0), .val (.int (p0 &&& (3 : Int32))), .unset, .unset] [(.int (2 : Int32)), (.int (p0 &&& (3 : Int32)))]))
      by_cases hc13 : (p0 &&& (3 : Int32)) = (2 : Int32)
      · refine Rch.st (fun _ hr => XS.icmpNo X0.here hx rfl (hb hby at_33) rfl (teq hc13).2 hr) ?_
        show Rch p.tables e below _ (s₁.setTop (mkF m 36 #[.val (.int p0), .val (.int (p0 &&& (3 : Int32))), .unset, .unset] []))
        obtain ⟨T14, X14, e14, st14⟩ := getS2 X0 hx hZ hown (host := "") (Or.inl (own_w hw 14 rfl)) Via.refl e0 H_w_CORI (g := (mkF m 36 #[.val (.int p0), .val (.int (p0 &&& (3 : Int32))), .unset, .unset] [])) rfl (hb hby at_36)
        refine Rch.st st14 ?_
        show Rch p.tables e below _ (T14.setTop (mkF m 39 #[.val (.int p0), .val (.int (p0 &&& (3 : Int32))), .unset, .unset] [(.ref w_CORI)]))
        refine Rch.st (fun _ hr => XS.astoreN X14.here hx rfl (hb hby at_39) rfl rfl (l' := #[.val (.int p0), .val (.int (p0 &&& (3 : Int32))), .val (.ref w_CORI), .unset]) rfl hr) ?_
        show Rch p.tables e below _ (T14.setTop (mkF m 40 #[.val (.int p0), .val (.int (p0 &&& (3 : Int32))), .val (.ref w_CORI), .unset] []))
        refine Rch.st (fun _ hr => XS.iconst X14.here hx rfl (hb hby at_40) hr) ?_
        show Rch p.tables e below _ (T14.setTop (mkF m 41 #[.val (.int p0), .val (.int (p0 &&& (3 : Int32))), .val (.ref w_CORI), .unset] [(.int (1 : Int32))]))
        refine Rch.st (fun _ hr => XS.istoreN X14.here hx rfl (hb hby at_41) rfl (l' := #[.val (.int p0), .val (.int (p0 &&& (3 : Int32))), .val (.ref w_CORI), .val (.int (1 : Int32))]) rfl hr) ?_
        show Rch p.tables e below _ (T14.setTop (mkF m 42 #[.val (.int p0), .val (.int (p0 &&& (3 : Int32))), .val (.ref w_CORI), .val (.int (1 : Int32))] []))
        refine Rch.st (fun _ hr => XS.goto X14.here hx rfl (pc0 := 42) (pc' := 51) rfl (hb hby at_42) (by decide) (by decide) hr) ?_
        show Rch p.tables e below _ (T14.setTop (mkF m 51 #[.val (.int p0), .val (.int (p0 &&& (3 : Int32))), .val (.ref w_CORI), .val (.int (1 : Int32))] []))
        refine Rch.st (fun _ hr => XS.aloadN X14.here hx rfl (hb hby at_51) rfl rfl hr) ?_
        show Rch p.tables e below _ (T14.setTop (mkF m 52 #[.val (.int p0), .val (.int (p0 &&& (3 : Int32))), .val (.ref w_CORI), .val (.int (1 : Int32))] [(.ref w_CORI)]))
        obtain ⟨cq15, kq15, q15a, q15b, q15c⟩ := isOf hZ e14 E_w_CORI
        obtain ⟨_, _, ⟨T15, L15, k15, n15⟩, -, X15, ⟨Lc15, hQ15, l15, y15, z15⟩, st15⟩ := X14.virtualBack hx (y := (⟨"com/example/telemachus/telemachus/broker/Merge", "needsSample", "()Z"⟩ : MethodName)) (z := (⟨"com/example/telemachus/telemachus/broker/Merge", "needsSample", "()Z"⟩ : MethodName)) hown (mvT hZ (own_w hw 3 rfl)) (mvT hZ (own_w hw 4 rfl)) (notFace_of_selects (args := #[]) (mvT hZ (own_w hw 15 rfl))) (mvT hZ (own_w hw 15 rfl)) (mvT hZ (own_w hw 5 rfl)) (by decide) (backOf (W := 0) (b1 l Z a0 hw [] w_CORI w_CORI w_SSL h0 n0 H_w_CORI H_w_SSL) hZ (own_w hw 7 rfl) (own_w hw 1 rfl) (by decide) (by decide)) q15a q15c (g := (mkF m 52 #[.val (.int p0), .val (.int (p0 &&& (3 : Int32))), .val (.ref w_CORI), .val (.int (1 : Int32))] [(.ref w_CORI)])) rfl (by rw [hml]; rfl) (Steps.refl _) (argsL := []) (rest := []) (lenOf pd_0 rfl) rfl (by show 2 * 0 + _ ≤ _; exact Nat.le_of_eq rfl) (hb hby at_52) (fun _ _ => ⟨rfl, e14, (by decide : 0 + 0 ≤ _), (by decide : 0 + 0 ≤ _)⟩)
        dsimp only [Pt.U, Pt.locs, Pt.cells, Pt.slots] at X15 l15 y15 z15 st15 hQ15
        subst l15 y15 z15
        obtain ⟨rfl, N15q, e15⟩ := hQ15
        have N15 := Fr.app N0 N15q
        refine Rch.tr st15 ?_
        show Rch p.tables e below _ (T15.setTop (mkF m 55 #[.val (.int p0), .val (.int (p0 &&& (3 : Int32))), .val (.ref w_CORI), .val (.int (1 : Int32))] [(.int (F1 w_CORI w_CORI w_SSL))]))
        refine Rch.st (fun _ hr => XS.iloadN X15.here hx rfl (hb hby at_55) rfl hr) ?_
        show Rch p.tables e below _ (T15.setTop (mkF m 56 #[.val (.int p0), .val (.int (p0 &&& (3 : Int32))), .val (.ref w_CORI), .val (.int (1 : Int32))] [(.int (1 : Int32)), (.int (F1 w_CORI w_CORI w_SSL))]))
        by_cases hc16 : (F1 w_CORI w_CORI w_SSL) = (1 : Int32)
        · refine Rch.st (fun _ hr => XS.icmpNo X15.here hx rfl (hb hby at_56) rfl (teq hc16).2 hr) ?_
          show Rch p.tables e below _ (T15.setTop (mkF m 59 #[.val (.int p0), .val (.int (p0 &&& (3 : Int32))), .val (.ref w_CORI), .val (.int (1 : Int32))] []))
          refine Rch.st (fun _ hr => XS.iconst X15.here hx rfl (hb hby at_59) hr) ?_
          show Rch p.tables e below _ (T15.setTop (mkF m 60 #[.val (.int p0), .val (.int (p0 &&& (3 : Int32))), .val (.ref w_CORI), .val (.int (1 : Int32))] [(.int (1 : Int32))]))
          refine Rch.st (fun _ hr => XS.goto X15.here hx rfl (pc0 := 60) (pc' := 64) rfl (hb hby at_60) (by decide) (by decide) hr) ?_
          show Rch p.tables e below _ (T15.setTop (mkF m 64 #[.val (.int p0), .val (.int (p0 &&& (3 : Int32))), .val (.ref w_CORI), .val (.int (1 : Int32))] [(.int (1 : Int32))]))
          obtain ⟨fs, hr, hrun, hended, hW, hsame⟩ := X15.leave (v := some (.int (1 : Int32))) (fun h => by rw [Bd.returns] at h; cases h)
          refine Rch.fin (u := T15.setFrames fs) (retN X15 hx (t := .boolean) Bd.returns (by simp) (hb hby at_64) hr) ⟨_, hrun, hended, _, _, rfl, ⟨?_, N15, e15⟩, ⟨_, rfl⟩, hW, hsame.mono (by decide) (by decide)⟩
          rw [show F0 p0 w_ROUND_ROBIN w_CORI w_SSL w_RRF = (1 : Int32) from by unfold F0; rw [if_neg hc1, if_neg hc7, if_pos hc13, if_pos hc16]]
        · refine Rch.st (fun _ hr => XS.icmpYes X15.here hx rfl (pc0 := 56) (pc' := 63) rfl (hb hby at_56) rfl (feq hc16).2 (by decide) (by decide) hr) ?_
          show Rch p.tables e below _ (T15.setTop (mkF m 63 #[.val (.int p0), .val (.int (p0 &&& (3 : Int32))), .val (.ref w_CORI), .val (.int (1 : Int32))] []))
          refine Rch.st (fun _ hr => XS.iconst X15.here hx rfl (hb hby at_63) hr) ?_
          show Rch p.tables e below _ (T15.setTop (mkF m 64 #[.val (.int p0), .val (.int (p0 &&& (3 : Int32))), .val (.ref w_CORI), .val (.int (1 : Int32))] [(.int (0 : Int32))]))
          obtain ⟨fs, hr, hrun, hended, hW, hsame⟩ := X15.leave (v := some (.int (0 : Int32))) (fun h => by rw [Bd.returns] at h; cases h)
          refine Rch.fin (u := T15.setFrames fs) (retN X15 hx (t := .boolean) Bd.returns (by simp) (hb hby at_64) hr) ⟨_, hrun, hended, _, _, rfl, ⟨?_, N15, e15⟩, ⟨_, rfl⟩, hW, hsame.mono (by decide) (by decide)⟩
          rw [show F0 p0 w_ROUND_ROBIN w_CORI w_SSL w_RRF = (0 : Int32) from by unfold F0; rw [if_neg hc1, if_neg hc7, if_pos hc13, if_neg hc16]]
      · refine Rch.st (fun _ hr => XS.icmpYes X0.here hx rfl (pc0 := 33) (pc' := 45) rfl (hb hby at_33) rfl (feq hc13).2 (by decide) (by decide) hr) ?_
        show Rch p.tables e below _ (s₁.setTop (mkF m 45 #[.val (.int p0), .val (.int (p0 &&& (3 : Int32))), .unset, .unset] []))
        obtain ⟨T19, X19, e19, st19⟩ := getS2 X0 hx hZ hown (host := "") (Or.inl (own_w hw 12 rfl)) Via.refl e0 H_w_SSL (g := (mkF m 45 #[.val (.int p0), .val (.int (p0 &&& (3 : Int32))), .unset, .unset] [])) rfl (hb hby at_45)
        refine Rch.st st19 ?_
        show Rch p.tables e below _ (T19.setTop (mkF m 48 #[.val (.int p0), .val (.int (p0 &&& (3 : Int32))), .unset, .unset] [(.ref w_SSL)]))
        refine Rch.st (fun _ hr => XS.astoreN X19.here hx rfl (hb hby at_48) rfl rfl (l' := #[.val (.int p0), .val (.int (p0 &&& (3 : Int32))), .val (.ref w_SSL), .unset]) rfl hr) ?_
        show Rch p.tables e below _ (T19.setTop (mkF m 49 #[.val (.int p0), .val (.int (p0 &&& (3 : Int32))), .val (.ref w_SSL), .unset] []))
        refine Rch.st (fun _ hr => XS.iconst X19.here hx rfl (hb hby at_49) hr) ?_
        show Rch p.tables e below _ (T19.setTop (mkF m 50 #[.val (.int p0), .val (.int (p0 &&& (3 : Int32))), .val (.ref w_SSL), .unset] [(.int (1 : Int32))]))
        refine Rch.st (fun _ hr => XS.istoreN X19.here hx rfl (hb hby at_50) rfl (l' := #[.val (.int p0), .val (.int (p0 &&& (3 : Int32))), .val (.ref w_SSL), .val (.int (1 : Int32))]) rfl hr) ?_
        show Rch p.tables e below _ (T19.setTop (mkF m 51 #[.val (.int p0), .val (.int (p0 &&& (3 : Int32))), .val (.ref w_SSL), .val (.int (1 : Int32))] []))
        refine Rch.st (fun _ hr => XS.aloadN X19.here hx rfl (hb hby at_51) rfl rfl hr) ?_
        show Rch p.tables e below _ (T19.setTop (mkF m 52 #[.val (.int p0), .val (.int (p0 &&& (3 : Int32))), .val (.ref w_SSL), .val (.int (1 : Int32))] [(.ref w_SSL)]))
        obtain ⟨cq20, kq20, q20a, q20b, q20c⟩ := isOf hZ e19 E_w_SSL
        obtain ⟨_, _, ⟨T20, L20, k20, n20⟩, -, X20, ⟨Lc20, hQ20, l20, y20, z20⟩, st20⟩ := X19.virtualBack hx (y := (⟨"com/example/telemachus/telemachus/broker/Merge", "needsSample", "()Z"⟩ : MethodName)) (z := (⟨"com/example/telemachus/telemachus/broker/Merge", "needsSample", "()Z"⟩ : MethodName)) hown (mvT hZ (own_w hw 3 rfl)) (mvT hZ (own_w hw 4 rfl)) (notFace_of_selects (args := #[]) (mvT hZ (own_w hw 13 rfl))) (mvT hZ (own_w hw 13 rfl)) (mvT hZ (own_w hw 5 rfl)) (by decide) (backOf (W := 0) (b1 l Z a0 hw [] w_SSL w_CORI w_SSL h0 n0 H_w_CORI H_w_SSL) hZ (own_w hw 7 rfl) (own_w hw 1 rfl) (by decide) (by decide)) q20a q20c (g := (mkF m 52 #[.val (.int p0), .val (.int (p0 &&& (3 : Int32))), .val (.ref w_SSL), .val (.int (1 : Int32))] [(.ref w_SSL)])) rfl (by rw [hml]; rfl) (Steps.refl _) (argsL := []) (rest := []) (lenOf pd_0 rfl) rfl (by show 2 * 0 + _ ≤ _; exact Nat.le_of_eq rfl) (hb hby at_52) (fun _ _ => ⟨rfl, e19, (by decide : 0 + 0 ≤ _), (by decide : 0 + 0 ≤ _)⟩)
        dsimp only [Pt.U, Pt.locs, Pt.cells, Pt.slots] at X20 l20 y20 z20 st20 hQ20
        subst l20 y20 z20
        obtain ⟨rfl, N20q, e20⟩ := hQ20
        have N20 := Fr.app N0 N20q
        refine Rch.tr st20 ?_
        show Rch p.tables e below _ (T20.setTop (mkF m 55 #[.val (.int p0), .val (.int (p0 &&& (3 : Int32))), .val (.ref w_SSL), .val (.int (1 : Int32))] [(.int (F1 w_SSL w_CORI w_SSL))]))
        refine Rch.st (fun _ hr => XS.iloadN X20.here hx rfl (hb hby at_55) rfl hr) ?_
        show Rch p.tables e below _ (T20.setTop (mkF m 56 #[.val (.int p0), .val (.int (p0 &&& (3 : Int32))), .val (.ref w_SSL), .val (.int (1 : Int32))] [(.int (1 : Int32)), (.int (F1 w_SSL w_CORI w_SSL))]))
        by_cases hc21 : (F1 w_SSL w_CORI w_SSL) = (1 : Int32)
        · refine Rch.st (fun _ hr => XS.icmpNo X20.here hx rfl (hb hby at_56) rfl (teq hc21).2 hr) ?_
          show Rch p.tables e below _ (T20.setTop (mkF m 59 #[.val (.int p0), .val (.int (p0 &&& (3 : Int32))), .val (.ref w_SSL), .val (.int (1 : Int32))] []))
          refine Rch.st (fun _ hr => XS.iconst X20.here hx rfl (hb hby at_59) hr) ?_
          show Rch p.tables e below _ (T20.setTop (mkF m 60 #[.val (.int p0), .val (.int (p0 &&& (3 : Int32))), .val (.ref w_SSL), .val (.int (1 : Int32))] [(.int (1 : Int32))]))
          refine Rch.st (fun _ hr => XS.goto X20.here hx rfl (pc0 := 60) (pc' := 64) rfl (hb hby at_60) (by decide) (by decide) hr) ?_
          show Rch p.tables e below _ (T20.setTop (mkF m 64 #[.val (.int p0), .val (.int (p0 &&& (3 : Int32))), .val (.ref w_SSL), .val (.int (1 : Int32))] [(.int (1 : Int32))]))
          obtain ⟨fs, hr, hrun, hended, hW, hsame⟩ := X20.leave (v := some (.int (1 : Int32))) (fun h => by rw [Bd.returns] at h; cases h)
          refine Rch.fin (u := T20.setFrames fs) (retN X20 hx (t := .boolean) Bd.returns (by simp) (hb hby at_64) hr) ⟨_, hrun, hended, _, _, rfl, ⟨?_, N20, e20⟩, ⟨_, rfl⟩, hW, hsame.mono (by decide) (by decide)⟩
          rw [show F0 p0 w_ROUND_ROBIN w_CORI w_SSL w_RRF = (1 : Int32) from by unfold F0; rw [if_neg hc1, if_neg hc7, if_neg hc13, if_pos hc21]]
        · refine Rch.st (fun _ hr => XS.icmpYes X20.here hx rfl (pc0 := 56) (pc' := 63) rfl (hb hby at_56) rfl (feq hc21).2 (by decide) (by decide) hr) ?_
          show Rch p.tables e below _ (T20.setTop (mkF m 63 #[.val (.int p0), .val (.int (p0 &&& (3 : Int32))), .val (.ref w_SSL), .val (.int (1 : Int32))] []))
          refine Rch.st (fun _ hr => XS.iconst X20.here hx rfl (hb hby at_63) hr) ?_
          show Rch p.tables e below _ (T20.setTop (mkF m 64 #[.val (.int p0), .val (.int (p0 &&& (3 : Int32))), .val (.ref w_SSL), .val (.int (1 : Int32))] [(.int (0 : Int32))]))
          obtain ⟨fs, hr, hrun, hended, hW, hsame⟩ := X20.leave (v := some (.int (0 : Int32))) (fun h => by rw [Bd.returns] at h; cases h)
          refine Rch.fin (u := T20.setFrames fs) (retN X20 hx (t := .boolean) Bd.returns (by simp) (hb hby at_64) hr) ⟨_, hrun, hended, _, _, rfl, ⟨?_, N20, e20⟩, ⟨_, rfl⟩, hW, hsame.mono (by decide) (by decide)⟩
          rw [show F0 p0 w_ROUND_ROBIN w_CORI w_SSL w_RRF = (0 : Int32) from by unfold F0; rw [if_neg hc1, if_neg hc7, if_neg hc13, if_neg hc21]]
set_option maxRecDepth 65536 in
set_option maxHeartbeats 40000000 in
theorem comes_1 {Post : Tables → Env → Array Value → State → Outcome → State → Prop} (hpost : ∀ tb e args s v u, (limb_1_1.after args s (.returned v) u = true ∧ limb_1_2.after args s (.returned v) u = true ∧ True) → FrameEnd s (.returned v) u (Jvm.fieldLocs frame_1_writes args s ++ Jvm.arrayLocs frame_1_arrays args s ++ Jvm.staticLocs frame_1_statics s) 0 0 → Post tb e args s (.returned v) u) :
    ArmFor flags0 classFile x code maxLocals ret World_1 tables_1 room_1 Calls_1 rest_1 Pre_1 Post := by
  intro l hfl _ _ p e ha hc hk s m args below hf hA hF happ hP
  obtain ⟨hcalls, hrest, hpre⟩ := hP
  obtain ⟨-, -, -, hnamed, -, -, -, hat⟩ := (Spec.applies_iff hf).mp happ
  obtain ⟨hg, hn⟩ := and_e (Cond.before_iff.mp (show (Jvm.Cond.and given_1 narrow_1).before args s = true from hpre))
  obtain ⟨g1, g2⟩ := and_e hg
  obtain ⟨g3, g4⟩ := and_e hn
  obtain ⟨g5, g6⟩ := and_e g4
  obtain ⟨g7, g8⟩ := and_e g6
  obtain ⟨v0, rfl⟩ : ∃ v0 : Value, args = #[v0] := by
    have hs : args.size = 1 := by simpa [Cond.value, given_1] using g1
    obtain ⟨L⟩ := args
    match L, hs with
    | [v0], _ => exact ⟨v0, rfl⟩
  have hw := fun d (hd : d ∈ tables_1) => atoms_spec (ws := Jvm.Cond.code x code maxLocals ret :: tables_1) hat d (List.mem_cons_of_mem _ hd)
  obtain ⟨i0, ei0⟩ := is_v g2
  obtain rfl : v0 = (.int i0) := Option.some.inj ei0
  obtain ⟨w_ROUND_ROBIN, ev_w_ROUND_ROBIN⟩ := exa_v g3
  have E_w_ROUND_ROBIN := Exa.start ev_w_ROUND_ROBIN g3
  have H_w_ROUND_ROBIN := Sta.start ev_w_ROUND_ROBIN (Or.inr ⟨(own_w hw 1 rfl), (own_w hw 2 rfl)⟩)
  obtain ⟨w_CORI, ev_w_CORI⟩ := exa_v g5
  have E_w_CORI := Exa.start ev_w_CORI g5
  have H_w_CORI := Sta.start ev_w_CORI (Or.inr ⟨(own_w hw 1 rfl), (own_w hw 9 rfl)⟩)
  obtain ⟨w_SSL, ev_w_SSL⟩ := exa_v g7
  have E_w_SSL := Exa.start ev_w_SSL g7
  have H_w_SSL := Sta.start ev_w_SSL (Or.inr ⟨(own_w hw 1 rfl), (own_w hw 11 rfl)⟩)
  obtain ⟨w_RRF, ev_w_RRF⟩ := exa_v g8
  have E_w_RRF := Exa.start ev_w_RRF g8
  have H_w_RRF := Sta.start ev_w_RRF (Or.inr ⟨(own_w hw 1 rfl), (own_w hw 17 rfl)⟩)
  have n_w_ROUND_ROBIN_w_CORI : w_ROUND_ROBIN ≠ w_CORI := Exa.ne E_w_ROUND_ROBIN E_w_CORI (by decide)
  have n_w_ROUND_ROBIN_w_SSL : w_ROUND_ROBIN ≠ w_SSL := Exa.ne E_w_ROUND_ROBIN E_w_SSL (by decide)
  have n_w_RRF_w_CORI : w_RRF ≠ w_CORI := Exa.ne E_w_RRF E_w_CORI (by decide)
  have n_w_RRF_w_SSL : w_RRF ≠ w_SSL := Exa.ne E_w_RRF E_w_SSL (by decide)
  have n_w_SSL_w_CORI : w_SSL ≠ w_CORI := Exa.ne E_w_SSL E_w_CORI (by decide)
  have hF1 : F0 i0 w_ROUND_ROBIN w_CORI w_SSL w_RRF = 1 := by simp [F0, F1, n_w_ROUND_ROBIN_w_CORI, n_w_ROUND_ROBIN_w_SSL, n_w_RRF_w_CORI, n_w_RRF_w_SSL, n_w_SSL_w_CORI]
  obtain ⟨n, o, h1, h2, h3, _, L, rfl, ⟨rfl, N, -⟩, hq⟩ := b0 l s _ hw tables_1 i0 w_ROUND_ROBIN w_CORI w_SSL w_RRF s.heap s.heap.size H_w_ROUND_ROBIN H_w_CORI H_w_SSL E_w_ROUND_ROBIN H_w_RRF E_w_RRF E_w_CORI E_w_SSL p e ha hc hk s m _ below hf ((Spec.applies_iff_loose hf).mp happ).1 ⟨rfl, State.Warmed39.refl s, rfl⟩ trivial
  refine ⟨n, _, h1, h2, h3, hpost _ _ _ _ _ _ ⟨Cond.after_iff.mpr rfl, Cond.after_iff.mpr (eq_i res_at (Term.int_eval (1)) (congrArg Value.int hF1)), trivial⟩ ⟨hq.1, hq.2.1, (hq.2.2.sift fun y hy => Or.inr (N y hy)).mono (by decide) (by decide)⟩⟩
theorem main_1_1 : Claimed_1_1 := comes_1 fun _ _ _ _ _ _ h hF => ⟨h.1, hF⟩
theorem main_1_2 : Claimed_1_2 := comes_1 fun _ _ _ _ _ _ h hF => ⟨h.2.1, hF⟩
end Jvm.Pilot.@@N@@
namespace Jvm.Pilot.@@N@@
open Jvm Jvm.ClassFile Sem Op Lib Jvm.Free Jvm.Stand Jvm.Pilot.@@N@@.Jvm.D
/-! MADE BY PROGRAM (witnessworld.py) out of the Statement's table words and the real class files: 16 classes; the members and pool entries that the words name. The judged class is class 1, her method 1. -/
namespace start1
open Jvm.ClassFile
def u (s : String) : CpInfo := .utf8 (stringToUtf16 s)
/-- a pool by its gaps: so many unusable entries, then the entry; so many at the end -/
def gap : Nat → List CpInfo → List CpInfo
  | 0, r => r
  | n + 1, r => .unusable :: gap n r
def poolList (es : List (Nat × CpInfo)) (last : Nat) : List CpInfo := es.foldr (fun e r => gap e.1 (e.2 :: r)) (gap last [])
def pool (es : List (Nat × CpInfo)) (last : Nat) : Array CpInfo := ⟨poolList es last⟩
def fileOf (pool : Array CpInfo) (this : Nat) (attrs : Array Attribute := #[]) (ms : Array MethodInfo := #[]) (fl : Nat := 33) (sup : Nat := 0) (ifs : Array Nat := #[]) (fds : Array FieldInfo := #[]) : ClassFile where
  minorVersion := 0
  majorVersion := 65
  constantPool := pool
  accessFlags := fl
  thisClass := this
  superClass := sup
  interfaces := ifs
  fields := fds
  methods := ms
  attributes := attrs
def plain (name : String) (sup : Option ClassId) : Class where
  name := name
  kind := .ordinary
  loader := none
  accessFlags := 33
  super := sup
  interfaces := #[]
  cf := none
  fields := #[]
  methods := #[]
  instanceTypes := #[]
  staticTypes := #[]
  resolved := #[]
  callSites := []
  init := .initialized
  statics := none
  mirror := none

def pool0 : Array CpInfo := pool [(5, u "<init>"), (0, u "()V"), (1, .class_ 10), (1, u "java/lang/Object")] 113

def k0m0 : Method := { name := "<init>", desc := "()V", sig := { parameters := [], returnType := none }, accessFlags := 1, code := none }
/-- java/lang/Object -/
def k0 : Class := { plain "java/lang/Object" none with
  accessFlags := 33
  interfaces := #[]
  cf := some (fileOf pool0 8 #[] #[{ accessFlags := 1, nameIndex := 5, descriptorIndex := 6, attributes := #[] }] 33 0 #[] #[])
  fields := #[]
  methods := #[k0m0]
  instanceTypes := #[]
  staticTypes := #[]
  resolved := Array.replicate 124 none
  statics := none }

def pool1 : Array CpInfo := pool [(2, .class_ 4), (1, u "java/lang/Object"), (0, u "<init>"), (0, u "()V"), (0, .fieldref 8 9), (0, .class_ 10), (0, .nameAndType 11 12), (0, u "com/example/telemachus/telemachus/broker/Merge"), (0, u "ROUND_ROBIN"), (0, u "Lcom/example/telemachus/telemachus/broker/Merge;"), (0, .fieldref 8 14), (0, .nameAndType 15 12), (0, u "RRF"), (0, .fieldref 8 17), (0, .nameAndType 18 12), (0, u "CORI"), (0, .fieldref 8 20), (0, .nameAndType 21 12), (0, u "SSL"), (0, .methodref 8 23), (0, .nameAndType 24 25), (0, u "needsSample"), (0, u "()Z"), (0, .class_ 27), (0, u "com/example/telemachus/telemachus/broker/MergeNeedsSamplePinLaw"), (2, u "law"), (0, u "(I)Z")] 3

def k1m0 : Method := { name := "<init>", desc := "()V", sig := { parameters := [], returnType := none }, accessFlags := 2, code := none }
def k1c1 : Code := { maxStack := 2, maxLocals := 4, code := code, exceptionTable := #[], attributes := #[] }
def k1m1 : Method := { name := "law", desc := "(I)Z", sig := { parameters := [.int], returnType := some .boolean }, accessFlags := 9, code := some k1c1 }
/-- com/example/telemachus/telemachus/broker/MergeNeedsSamplePinLaw -/
def k1 : Class := { plain "com/example/telemachus/telemachus/broker/MergeNeedsSamplePinLaw" (some 0) with
  accessFlags := 49
  interfaces := #[]
  cf := some (fileOf pool1 26 #[] #[{ accessFlags := 2, nameIndex := 5, descriptorIndex := 6, attributes := #[] }, { accessFlags := 9, nameIndex := 30, descriptorIndex := 31, attributes := #[] }] 49 2 #[] #[])
  fields := #[]
  methods := #[k1m0, k1m1]
  instanceTypes := #[]
  staticTypes := #[]
  resolved := Array.replicate 35 none
  statics := none }

def pool2 : Array CpInfo := pool [(1, .class_ 2), (0, u "java/lang/constant/Constable"), (0, .class_ 4), (0, u "java/lang/Object")] 6

/-- java/lang/constant/Constable -/
def k2 : Class := { plain "java/lang/constant/Constable" (some 0) with
  accessFlags := 1537
  interfaces := #[]
  cf := some (fileOf pool2 1 #[] #[] 1537 3 #[] #[])
  fields := #[]
  methods := #[]
  instanceTypes := #[]
  staticTypes := #[]
  resolved := Array.replicate 11 none
  statics := none }

def pool3 : Array CpInfo := pool [(1, .class_ 2), (0, u "java/lang/Comparable"), (0, .class_ 4), (0, u "java/lang/Object")] 7

/-- java/lang/Comparable -/
def k3 : Class := { plain "java/lang/Comparable" (some 0) with
  accessFlags := 1537
  interfaces := #[]
  cf := some (fileOf pool3 1 #[] #[] 1537 3 #[] #[])
  fields := #[]
  methods := #[]
  instanceTypes := #[]
  staticTypes := #[]
  resolved := Array.replicate 12 none
  statics := none }

def pool4 : Array CpInfo := pool [(1, .class_ 2), (0, u "java/io/Serializable"), (0, .class_ 4), (0, u "java/lang/Object")] 2

/-- java/io/Serializable -/
def k4 : Class := { plain "java/io/Serializable" (some 0) with
  accessFlags := 1537
  interfaces := #[]
  cf := some (fileOf pool4 1 #[] #[] 1537 3 #[] #[])
  fields := #[]
  methods := #[]
  instanceTypes := #[]
  staticTypes := #[]
  resolved := Array.replicate 7 none
  statics := none }

def pool5 : Array CpInfo := pool [(2, .class_ 4), (1, u "java/lang/Enum"), (0, u "name"), (0, u "Ljava/lang/String;"), (2, u "ordinal"), (0, u "I"), (1, .class_ 14), (1, u "java/lang/Object"), (4, u "hash"), (86, .class_ 108), (1, u "java/lang/Enum$EnumDesc"), (2, .class_ 112), (0, u "java/lang/constant/Constable"), (0, .class_ 114), (0, u "java/lang/Comparable"), (0, .class_ 116), (0, u "java/io/Serializable")] 87

/-- java/lang/Enum -/
def k5 : Class := { plain "java/lang/Enum" (some 0) with
  accessFlags := 1057
  interfaces := #[2, 3, 4]
  cf := some (fileOf pool5 2 #[.nestMembers #[106]] #[] 1057 12 #[111, 113, 115] #[{ accessFlags := 18, nameIndex := 5, descriptorIndex := 6, attributes := #[] }, { accessFlags := 18, nameIndex := 9, descriptorIndex := 10, attributes := #[] }, { accessFlags := 2, nameIndex := 19, descriptorIndex := 10, attributes := #[] }])
  fields := #[{ name := "name", type := (.object "java/lang/String"), accessFlags := 18, slot := 0, constantValue := 0 }, { name := "ordinal", type := .int, accessFlags := 18, slot := 1, constantValue := 0 }, { name := "hash", type := .int, accessFlags := 2, slot := 2, constantValue := 0 }]
  methods := #[]
  instanceTypes := #[(.object "java/lang/String"), .int, .int]
  staticTypes := #[]
  resolved := Array.replicate 204 none
  statics := none }

def pool6 : Array CpInfo := pool [(1, .class_ 2), (0, u "com/example/telemachus/telemachus/broker/Merge"), (2, u "ROUND_ROBIN"), (0, u "Lcom/example/telemachus/telemachus/broker/Merge;"), (2, u "RRF"), (0, .fieldref 1 11), (0, .nameAndType 12 6), (0, u "CORI"), (0, .fieldref 1 14), (0, .nameAndType 15 6), (0, u "SSL"), (2, u "$VALUES"), (0, u "[Lcom/example/telemachus/telemachus/broker/Merge;"), (6, .class_ 28), (1, u "java/lang/Enum"), (8, u "label"), (0, u "Ljava/lang/String;"), (72, u "()Z"), (52, .class_ 165), (0, u "com/example/telemachus/telemachus/broker/Merge$Candidate"), (69, .class_ 236), (0, u "com/example/telemachus/telemachus/broker/Merge$1"), (6, .class_ 244), (0, u "com/example/telemachus/telemachus/broker/Merge$2"), (4, .class_ 250), (0, u "com/example/telemachus/telemachus/broker/Merge$3"), (4, .class_ 256), (0, u "com/example/telemachus/telemachus/broker/Merge$4"), (7, u "RRF_K"), (0, u "I"), (2, u "CORI_SOURCE_WEIGHT"), (0, u "D"), (0, u "NONE"), (9, u "needsSample"), (21, .class_ 303), (0, u "com/example/telemachus/telemachus/broker/Merge$Fused"), (0, .class_ 305), (0, u "com/example/telemachus/telemachus/broker/Merge$Line"), (0, .class_ 307), (0, u "com/example/telemachus/telemachus/broker/Merge$Fit")] 41

def k6c0 : Code := { maxStack := 2, maxLocals := 1, code := prog_15_method_7_code, exceptionTable := #[], attributes := #[] }
def k6m0 : Method := { name := "needsSample", desc := "()Z", sig := { parameters := [], returnType := some .boolean }, accessFlags := 1, code := some k6c0 }
/-- com/example/telemachus/telemachus/broker/Merge -/
def k6 : Class := { plain "com/example/telemachus/telemachus/broker/Merge" (some 5) with
  accessFlags := 17441
  interfaces := #[]
  cf := some (fileOf pool6 1 #[.nestMembers #[302, 304, 306, 164, 255, 249, 243, 235]] #[{ accessFlags := 1, nameIndex := 280, descriptorIndex := 111, attributes := #[] }] 17441 26 #[] #[{ accessFlags := 16409, nameIndex := 5, descriptorIndex := 6, attributes := #[] }, { accessFlags := 16409, nameIndex := 9, descriptorIndex := 6, attributes := #[] }, { accessFlags := 16409, nameIndex := 12, descriptorIndex := 6, attributes := #[] }, { accessFlags := 16409, nameIndex := 15, descriptorIndex := 6, attributes := #[] }, { accessFlags := 26, nameIndex := 264, descriptorIndex := 265, attributes := #[] }, { accessFlags := 26, nameIndex := 268, descriptorIndex := 269, attributes := #[] }, { accessFlags := 26, nameIndex := 270, descriptorIndex := 38, attributes := #[] }, { accessFlags := 18, nameIndex := 37, descriptorIndex := 38, attributes := #[] }, { accessFlags := 4122, nameIndex := 18, descriptorIndex := 19, attributes := #[] }])
  fields := #[{ name := "ROUND_ROBIN", type := (.object "com/example/telemachus/telemachus/broker/Merge"), accessFlags := 16409, slot := 0, constantValue := 0 }, { name := "RRF", type := (.object "com/example/telemachus/telemachus/broker/Merge"), accessFlags := 16409, slot := 1, constantValue := 0 }, { name := "CORI", type := (.object "com/example/telemachus/telemachus/broker/Merge"), accessFlags := 16409, slot := 2, constantValue := 0 }, { name := "SSL", type := (.object "com/example/telemachus/telemachus/broker/Merge"), accessFlags := 16409, slot := 3, constantValue := 0 }, { name := "RRF_K", type := .int, accessFlags := 26, slot := 4, constantValue := 0 }, { name := "CORI_SOURCE_WEIGHT", type := .double, accessFlags := 26, slot := 5, constantValue := 0 }, { name := "NONE", type := (.object "java/lang/String"), accessFlags := 26, slot := 6, constantValue := 0 }, { name := "label", type := (.object "java/lang/String"), accessFlags := 18, slot := 3, constantValue := 0 }, { name := "$VALUES", type := (.array (.object "com/example/telemachus/telemachus/broker/Merge")), accessFlags := 4122, slot := 7, constantValue := 0 }]
  methods := #[k6m0]
  instanceTypes := #[(.object "java/lang/String"), .int, .int, (.object "java/lang/String")]
  staticTypes := #[(.object "com/example/telemachus/telemachus/broker/Merge"), (.object "com/example/telemachus/telemachus/broker/Merge"), (.object "com/example/telemachus/telemachus/broker/Merge"), (.object "com/example/telemachus/telemachus/broker/Merge"), .int, .double, (.object "java/lang/String"), (.array (.object "com/example/telemachus/telemachus/broker/Merge"))]
  resolved := Array.replicate 349 none
  statics := some 0 }

def pool7 : Array CpInfo := pool [(2, .class_ 4), (1, u "com/example/telemachus/telemachus/broker/Merge"), (102, .class_ 108), (0, u "com/example/telemachus/telemachus/broker/Merge$1")] 34

/-- com/example/telemachus/telemachus/broker/Merge$1 -/
def k7 : Class := { plain "com/example/telemachus/telemachus/broker/Merge$1" (some 6) with
  accessFlags := 16432
  interfaces := #[]
  cf := some (fileOf pool7 107 #[.nestHost 2] #[] 16432 2 #[] #[])
  fields := #[]
  methods := #[]
  instanceTypes := #[(.object "java/lang/String"), .int, .int, (.object "java/lang/String")]
  staticTypes := #[]
  resolved := Array.replicate 143 none
  statics := none }

def pool8 : Array CpInfo := pool [(2, .class_ 4), (1, u "com/example/telemachus/telemachus/broker/Merge"), (148, .class_ 154), (0, u "com/example/telemachus/telemachus/broker/Merge$4")] 20

/-- com/example/telemachus/telemachus/broker/Merge$4 -/
def k8 : Class := { plain "com/example/telemachus/telemachus/broker/Merge$4" (some 6) with
  accessFlags := 16432
  interfaces := #[]
  cf := some (fileOf pool8 153 #[.nestHost 2] #[] 16432 2 #[] #[])
  fields := #[]
  methods := #[]
  instanceTypes := #[(.object "java/lang/String"), .int, .int, (.object "java/lang/String")]
  staticTypes := #[]
  resolved := Array.replicate 175 none
  statics := none }

def pool9 : Array CpInfo := pool [(1, .class_ 2), (0, u "com/example/telemachus/telemachus/broker/Merge"), (152, .class_ 156), (0, u "com/example/telemachus/telemachus/broker/Merge$3")] 48

/-- com/example/telemachus/telemachus/broker/Merge$3 -/
def k9 : Class := { plain "com/example/telemachus/telemachus/broker/Merge$3" (some 6) with
  accessFlags := 16432
  interfaces := #[]
  cf := some (fileOf pool9 155 #[.nestHost 1] #[] 16432 1 #[] #[])
  fields := #[]
  methods := #[]
  instanceTypes := #[(.object "java/lang/String"), .int, .int, (.object "java/lang/String")]
  staticTypes := #[]
  resolved := Array.replicate 205 none
  statics := none }

def pool10 : Array CpInfo := pool [(1, .class_ 2), (0, u "com/example/telemachus/telemachus/broker/Merge"), (136, .class_ 140), (0, u "com/example/telemachus/telemachus/broker/Merge$2")] 54

/-- com/example/telemachus/telemachus/broker/Merge$2 -/
def k10 : Class := { plain "com/example/telemachus/telemachus/broker/Merge$2" (some 6) with
  accessFlags := 16432
  interfaces := #[]
  cf := some (fileOf pool10 139 #[.nestHost 1] #[] 16432 1 #[] #[])
  fields := #[]
  methods := #[]
  instanceTypes := #[(.object "java/lang/String"), .int, .int, (.object "java/lang/String")]
  staticTypes := #[]
  resolved := Array.replicate 195 none
  statics := none }

def pool11 : Array CpInfo := pool [(1, u "java/lang/Cloneable"), (0, .class_ 1), (0, u "java/lang/Object"), (0, .class_ 3)] 3

/-- java/lang/Cloneable -/
def k11 : Class := { plain "java/lang/Cloneable" (some 0) with
  accessFlags := 1537
  interfaces := #[]
  cf := some (fileOf pool11 2 #[] #[] 1537 4 #[] #[])
  fields := #[]
  methods := #[]
  instanceTypes := #[]
  staticTypes := #[]
  resolved := Array.replicate 8 none
  statics := none }

/-- the primitive byte -/
def k12 : Class := { plain "byte" none with kind := .primitive 'B', accessFlags := 0x411 }
/-- [B -/
def k13 : Class := { plain "[B" (some 0) with kind := .array 12 .byte, interfaces := #[11, 4], accessFlags := 1041 }

/-- the primitive int -/
def k14 : Class := { plain "int" none with kind := .primitive 'I', accessFlags := 0x411 }
/-- [I -/
def k15 : Class := { plain "[I" (some 0) with kind := .array 14 .int, interfaces := #[11, 4], accessFlags := 1041 }

def heap : Heap := #[{ cls := 6, slots := #[.ref 1, .ref 4, .ref 2, .ref 3, .int 0, .double 0, .null, .null], vm := .statics 6 },
  { cls := 7, slots := #[.null, .int 0, .int 0, .null], vm := .none },
  { cls := 9, slots := #[.null, .int 0, .int 0, .null], vm := .none },
  { cls := 8, slots := #[.null, .int 0, .int 0, .null], vm := .none },
  { cls := 10, slots := #[.null, .int 0, .int 0, .null], vm := .none }]
def classes : Array Class := #[k0, k1, k2, k3, k4, k5, k6, k7, k8, k9, k10, k11, k12, k13, k14, k15]
def interned : List (Array UInt16 × Addr) := []
def slotsUsed : Nat := 24
def theMethod : MethodId := ⟨1, 1⟩
def args0 : Array Value := #[.int 5]
def aboutOver (below : List Frame) : State where
  vm := { classes := classes, interned := interned.toArray }
  heap := heap
  slotsUsed := slotsUsed
  threads := #[{ frames := .invoking theMethod args0 :: below }]
def below0 : List Frame := [.native { method := ⟨0, 0⟩, args := #[] }]
def about1 : State := aboutOver below0
def p0 : Program := .bare "" "" ""
def e0 : Env := launch0.env 0 0 0
theorem w_frames : about1.frames = Frame.invoking theMethod args0 :: below0 := rfl
set_option maxRecDepth 65536 in
theorem w_args : argsFit about1.vm theMethod args0 = true := by decide +kernel
set_option maxRecDepth 65536 in
theorem w_heap : heapFits about1 = true := by decide +kernel
set_option maxRecDepth 65536 in
theorem w_runnable : about1.curStatus? = some .runnable := by decide +kernel
set_option maxRecDepth 65536 in
theorem w_alone : about1.alone = true := by decide +kernel
set_option maxRecDepth 65536 in
theorem w_named : about1.methodNamed? x = some theMethod := by decide +kernel
set_option maxRecDepth 65536 in
theorem w_hears : about1.hears theMethod below0 = true := by decide +kernel
set_option maxRecDepth 65536 in
theorem w_ripe : about1.ripe theMethod args0 below0 = true := by decide +kernel
theorem w_running : about1.status = .running := rfl
set_option maxRecDepth 65536 in
theorem w_room : about1.hasRoom e0.platform room_1 = true :=
  launch0.hasRoom_least _ room_1 (by decide +kernel) (by decide +kernel) (by decide +kernel) (by decide +kernel) (by decide +kernel) (by decide +kernel)
theorem allAtoms_all (ts : List Jvm.Cond) (a : Array Jvm.Value) (st : Jvm.State) : (allAtoms ts).before a st = ts.all (fun c => c.before a st) := by
  induction ts with
  | nil => rfl
  | cons c t ih =>
    show (Jvm.Cond.and c (allAtoms t)).before a st = _
    rw [Jvm.Cond.before_and, ih, List.all_cons]
def words1 : List Jvm.Cond := Jvm.Cond.code x code maxLocals ret :: tables_1
/-- a 'code' word, met by the world's own term for the bytes: nothing is compared byte by byte -/
theorem code_word {y : MethodName} {bytes : ByteArray} {mx : Nat} {rt : Option FieldType} {a : Array Value} {s : State} {m : MethodId} {meth : Method} {c : Code} (h1 : s.methodNamed? y = some m) (h2 : s.vm.method? m = some meth) (h3 : meth.code = some c) (h4 : c.code = bytes)
    (h5 : (c.maxLocals == mx && c.exceptionTable.isEmpty && decide (c.maxStack ≤ mostOperands) && decide (meth.sig.returnType = rt) && !meth.locks && decide (parseMethodDescriptor y.desc = some meth.sig)) = true) : (Jvm.Cond.code y bytes mx rt).before a s = true := by
  simp only [Bool.and_eq_true, beq_iff_eq, Bool.not_eq_true', decide_eq_true_eq] at h5
  obtain ⟨⟨⟨⟨⟨g1, g2⟩, g3⟩, g4⟩, g5⟩, g6⟩ := h5
  simp [Cond.before, Cond.holds, Cond.value, h1, h2, h3, h4, g1, g2, g3, g4, g5, g6]
def isCode : Jvm.Cond → Bool
  | .code _ _ _ _ => true
  | _ => false
theorem all_split {L : List Jvm.Cond} {P : Jvm.Cond → Bool} (h1 : L.all (fun c => isCode c || P c) = true) (h2 : ∀ c ∈ L.filter isCode, P c = true) : L.all P = true := by
  refine List.all_eq_true.mpr fun c hc => ?_
  have h := List.all_eq_true.mp h1 c hc
  rcases Bool.eq_false_or_eq_true (isCode c) with hi | hi
  · exact h2 c (List.mem_filter.mpr ⟨hc, hi⟩)
  · simpa [hi] using h
set_option maxRecDepth 65536 in
theorem w_c0 : (Jvm.Cond.code x code maxLocals ret).before args0 about1 = true := code_word (m := ⟨1, 1⟩) (meth := k1m1) (c := k1c1) (by decide +kernel) rfl rfl rfl (by decide +kernel)
set_option maxRecDepth 65536 in
theorem w_c1 : (Jvm.Cond.code ({ cls := "com/example/telemachus/telemachus/broker/Merge", name := "needsSample", desc := "()Z" } : Jvm.MethodName) prog_15_method_7_code (1 : Nat) (Option.some Jvm.ClassFile.FieldType.boolean)).before args0 about1 = true := code_word (m := ⟨6, 0⟩) (meth := k6m0) (c := k6c0) (by decide +kernel) rfl rfl rfl (by decide +kernel)
def codes1 : List Jvm.Cond := [Jvm.Cond.code x code maxLocals ret, Jvm.Cond.code ({ cls := "com/example/telemachus/telemachus/broker/Merge", name := "needsSample", desc := "()Z" } : Jvm.MethodName) prog_15_method_7_code (1 : Nat) (Option.some Jvm.ClassFile.FieldType.boolean)]
set_option maxRecDepth 65536 in
theorem codes_eq : words1.filter isCode = codes1 := rfl
theorem w_codes : ∀ c ∈ words1.filter isCode, c.before args0 about1 = true := by
  rw [codes_eq]
  intro c hc
  simp only [codes1, List.mem_cons, List.not_mem_nil, or_false] at hc
  rcases hc with rfl | rfl
  · exact w_c0
  · exact w_c1
set_option maxRecDepth 65536 in
theorem w_t1 : words1.all (fun c => isCode c || c.before args0 about1) = true := by decide +kernel
theorem w_tables : (allAtoms (Jvm.Cond.code x code maxLocals ret :: tables_1)).before args0 about1 = true := by
  rw [allAtoms_all]
  show words1.all (fun c => c.before args0 about1) = true
  refine all_split ?_ w_codes
  rw [w_t1]
set_option maxRecDepth 65536 in
theorem w_case : (Jvm.Cond.and given_1 narrow_1).before args0 about1 = true := by decide +kernel
theorem w_applies : (headSpec (Jvm.Cond.code x code maxLocals ret :: tables_1) room_1).applies x e0.platform about1 = true :=
  (Spec.applies_iff w_frames).mpr ⟨w_running, w_runnable, w_alone, w_named, w_hears, w_ripe, w_room, w_tables⟩
theorem atStart : AtStart classFile x code maxLocals ret World_1 tables_1 room_1 Calls_1 rest_1 Pre_1 launch0 p0 e0 about1 theMethod args0 below0 :=
  ⟨lists_1, trivial, launch0.admits_env _ _ _, launch0.least_env, fairChoices_fair.cas, fairChoices_fair.clock, w_frames, w_args, w_heap, w_applies, trivial, trivial, w_case⟩
end start1
theorem witness_1 : WitnessClaimed_1 := ⟨start1.p0, start1.e0, start1.about1, start1.theMethod, start1.args0, start1.below0, start1.atStart⟩
end Jvm.Pilot.@@N@@
