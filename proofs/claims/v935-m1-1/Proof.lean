import JvmDerived
import JvmDerived.Pilot.@@N@@Statement
import JvmDerived.Pilot.@@N@@Code
set_option linter.unusedVariables false
set_option linter.unusedSimpArgs false
namespace Jvm.Pilot.@@N@@
open Jvm Jvm.ClassFile Sem Op Lib Jvm.Free Jvm.Stand Jvm.LawKit Jvm.RoadKit Bundle Jvm.Pilot.@@N@@.Jvm.D
theorem own_w {ws : List Jvm.Cond} {a0 : Array Value} {Z : State} (hw : ∀ d ∈ ws, d.before a0 Z = true) (i : Nat) {d : Jvm.Cond} (h : ws[i]? = some d) : d.before a0 Z = true := hw _ (List.mem_of_getElem? h)
/-- the run comes to a state of which P holds -/
def Rch (tb : Tables) (e : Env) (below : List Frame) (P : State → Prop) (t : State) : Prop := ∃ u, Steps tb e below t u ∧ P u
theorem Rch.st {tb : Tables} {e : Env} {below : List Frame} {P : State → Prop} {t t' : State} (h : ∀ target, Steps tb e below t' target → Steps tb e below t target) (k : Rch tb e below P t') : Rch tb e below P t := by
  obtain ⟨u, h1, h2⟩ := k
  exact ⟨u, h u h1, h2⟩
theorem Rch.tr {tb : Tables} {e : Env} {below : List Frame} {P : State → Prop} {t t' : State} (h : Steps tb e below t t') (k : Rch tb e below P t') : Rch tb e below P t := by
  obtain ⟨u, h1, h2⟩ := k
  exact ⟨u, h.trans h1, h2⟩
theorem Rch.fin {tb : Tables} {e : Env} {below : List Frame} {P : State → Prop} {t u : State} (h : Steps tb e below t u) (k : P u) : Rch tb e below P t := ⟨u, h, k⟩
theorem Rch.out {tb : Tables} {e : Env} {below : List Frame} {P : State → Outcome → Prop} {t : State} (h : Rch tb e below (fun u => ∃ o, P u o) t) : ∃ u o, Steps tb e below t u ∧ P u o := by
  obtain ⟨u, h1, o, h2⟩ := h
  exact ⟨u, o, h1, h2⟩
theorem own_eqInt {t : Term} {n : Int32} {args : Array Value} {s : State} (h : (Cond.eq t (.int n)).value args s none s [] = some true) : t.eval args s none [] s = some (.int n) := by
  have hn : (Term.int n).eval args s none [] s = some (.int n) := rfl
  cases hv : t.eval args s none [] s with
  | none => simp [Cond.value, hv] at h
  | some x => cases x <;> simp [Cond.value, hv, hn] at h ⊢; exact h
theorem own_retI {p : Program} {l : Launch} {e : Env} {R : Room} {s : State} {m : MethodId} {args : Array Value} {below : List Frame} {meth : Method} {c : Code} {T : State} {locs : List Loc} {cells slots : Nat} (X : Stand p l e R s m args below meth c T locs cells slots) (hx : p.tables.exec = Jvm.exec) {pc : Nat} {Ls : Array Slot} {z : Int32} {rest : List Value} (hret : meth.sig.returnType = some .int) (hd : decode c.code pc = .ok (.ireturn, 1)) {fs : List Frame}
    (hl : ∀ (f : JFrame) (acts : List Action), f.method = m → f.locked = none → f.entered = [] → (doReturn e (T.setTop f) acts (some (.int z))).1 = T.setFrames fs) : Steps p.tables e below (T.setTop (mkF m pc Ls (.int z :: rest))) (T.setFrames fs) :=
  retOut X hx hret rfl (Or.inl ⟨rfl, Or.inl rfl, z, rfl⟩) hd hl
theorem own_retA {p : Program} {l : Launch} {e : Env} {R : Room} {s : State} {m : MethodId} {args : Array Value} {below : List Frame} {meth : Method} {c : Code} {T : State} {locs : List Loc} {cells slots : Nat} (X : Stand p l e R s m args below meth c T locs cells slots) (hx : p.tables.exec = Jvm.exec) {pc : Nat} {Ls : Array Slot} {w : Value} {t : FieldType} {rest : List Value} (hret : meth.sig.returnType = some t) (hn : narrow t w = w) (ht : t.isReference = true) (hw : w.isRef = true) (hd : decode c.code pc = .ok (.areturn, 1)) {fs : List Frame}
    (hl : ∀ (f : JFrame) (acts : List Action), f.method = m → f.locked = none → f.entered = [] → (doReturn e (T.setTop f) acts (some w)).1 = T.setFrames fs) : Steps p.tables e below (T.setTop (mkF m pc Ls (w :: rest))) (T.setFrames fs) :=
  retOut X hx hret hn (Or.inr (Or.inr (Or.inr (Or.inr ⟨rfl, ht, hw⟩)))) hd hl
theorem own_retJ {p : Program} {l : Launch} {e : Env} {R : Room} {s : State} {m : MethodId} {args : Array Value} {below : List Frame} {meth : Method} {c : Code} {T : State} {locs : List Loc} {cells slots : Nat} (X : Stand p l e R s m args below meth c T locs cells slots) (hx : p.tables.exec = Jvm.exec) {pc : Nat} {Ls : Array Slot} {z : Int64} {rest : List Value} (hret : meth.sig.returnType = some .long) (hd : decode c.code pc = .ok (.lreturn, 1)) {fs : List Frame}
    (hl : ∀ (f : JFrame) (acts : List Action), f.method = m → f.locked = none → f.entered = [] → (doReturn e (T.setTop f) acts (some (.long z))).1 = T.setFrames fs) : Steps p.tables e below (T.setTop (mkF m pc Ls (.long z :: rest))) (T.setFrames fs) :=
  retOut X hx hret rfl (Or.inr (Or.inl ⟨rfl, rfl, z, rfl⟩)) hd hl
theorem own_retD {p : Program} {l : Launch} {e : Env} {R : Room} {s : State} {m : MethodId} {args : Array Value} {below : List Frame} {meth : Method} {c : Code} {T : State} {locs : List Loc} {cells slots : Nat} (X : Stand p l e R s m args below meth c T locs cells slots) (hx : p.tables.exec = Jvm.exec) {pc : Nat} {Ls : Array Slot} {z : UInt64} {rest : List Value} (hret : meth.sig.returnType = some .double) (hd : decode c.code pc = .ok (.dreturn, 1)) {fs : List Frame}
    (hl : ∀ (f : JFrame) (acts : List Action), f.method = m → f.locked = none → f.entered = [] → (doReturn e (T.setTop f) acts (some (.double z))).1 = T.setFrames fs) : Steps p.tables e below (T.setTop (mkF m pc Ls (.double z :: rest))) (T.setFrames fs) :=
  retOut X hx hret rfl (Or.inr (Or.inr (Or.inl ⟨rfl, rfl, z, rfl⟩))) hd hl

theorem d1_0 : decode method_2_code 0 = .ok (.iload_n 0, 1) := by decide +kernel
theorem d1_1 : decode method_2_code 1 = .ok (.ifCond .ne 7, 3) := by decide +kernel
theorem d1_4 : decode method_2_code 4 = .ok (.getstatic 7, 3) := by decide +kernel
theorem d1_7 : decode method_2_code 7 = .ok (.areturn, 1) := by decide +kernel
theorem d1_8 : decode method_2_code 8 = .ok (.iload_n 0, 1) := by decide +kernel
theorem d1_9 : decode method_2_code 9 = .ok (.iconst 1, 1) := by decide +kernel
theorem d1_10 : decode method_2_code 10 = .ok (.if_icmp .ne 7, 3) := by decide +kernel
theorem d1_13 : decode method_2_code 13 = .ok (.getstatic 13, 3) := by decide +kernel
theorem d1_16 : decode method_2_code 16 = .ok (.areturn, 1) := by decide +kernel
theorem d1_17 : decode method_2_code 17 = .ok (.iload_n 0, 1) := by decide +kernel
theorem d1_18 : decode method_2_code 18 = .ok (.iconst 2, 1) := by decide +kernel
theorem d1_19 : decode method_2_code 19 = .ok (.if_icmp .ne 7, 3) := by decide +kernel
theorem d1_22 : decode method_2_code 22 = .ok (.getstatic 16, 3) := by decide +kernel
theorem d1_25 : decode method_2_code 25 = .ok (.areturn, 1) := by decide +kernel
theorem d1_26 : decode method_2_code 26 = .ok (.getstatic 19, 3) := by decide +kernel
theorem d1_29 : decode method_2_code 29 = .ok (.areturn, 1) := by decide +kernel
def F1 (p0 : Int32) (w_READ : Addr) (w_EDIT : Addr) (w_CREATE_PROJECT : Addr) (w_ADMINISTER : Addr) : Addr := (if p0 = (0 : Int32) then w_READ else (if p0 = (1 : Int32) then w_EDIT else (if p0 = (2 : Int32) then w_CREATE_PROJECT else w_ADMINISTER)))
def Q1 (p0 : Int32) (w_READ : Addr) (w_EDIT : Addr) (w_CREATE_PROJECT : Addr) (w_ADMINISTER : Addr) (h0 : Heap) (n0 : Nat) (v : Option Value) (h : Heap) (L : List Loc) : Prop := v = some (.ref (F1 p0 w_READ w_EDIT w_CREATE_PROJECT w_ADMINISTER)) ∧ Fr n0 L ∧ h = h0
theorem pn_com_example_orrery_orrery_server_PermissionIncludesPinLaw : plainName "com/example/orrery/orrery/server/PermissionIncludesPinLaw" = true := by first | (simp [plainName, overriddenIn]; done) | decide +kernel
theorem ef_1 (m : MethodId) (p0 : Int32) : entryFrame m #[(.int p0)] 1 = mkF m 0 #[.val (.int p0)] [] := by first | (simp [entryFrame, mkF, argsToLocals, Value.category]; done) | rfl
set_option maxRecDepth 65536 in
set_option maxHeartbeats 40000000 in
theorem b1 (l : Launch) (Z : State) (a0 : Array Value) (hw : ∀ d ∈ tables_1, d.before a0 Z = true) (ws : List Jvm.Cond) (p0 : Int32) (w_READ : Addr) (w_EDIT : Addr) (w_CREATE_PROJECT : Addr) (w_ADMINISTER : Addr) (h0 : Heap) (n0 : Nat) (H_w_READ : Sta Z h0 "com/example/orrery/orrery/server/Permission" "READ" "Lcom/example/orrery/orrery/server/Permission;" (.ref w_READ)) (H_w_EDIT : Sta Z h0 "com/example/orrery/orrery/server/Permission" "EDIT" "Lcom/example/orrery/orrery/server/Permission;" (.ref w_EDIT)) (H_w_CREATE_PROJECT : Sta Z h0 "com/example/orrery/orrery/server/Permission" "CREATE_PROJECT" "Lcom/example/orrery/orrery/server/Permission;" (.ref w_CREATE_PROJECT)) (H_w_ADMINISTER : Sta Z h0 "com/example/orrery/orrery/server/Permission" "ADMINISTER" "Lcom/example/orrery/orrery/server/Permission;" (.ref w_ADMINISTER)) :
    MetFree l (⟨"com/example/orrery/orrery/server/PermissionIncludesPinLaw", "pick", "(I)Lcom/example/orrery/orrery/server/Permission;"⟩ : MethodName) (head1 (Jvm.Cond.code (⟨"com/example/orrery/orrery/server/PermissionIncludesPinLaw", "pick", "(I)Lcom/example/orrery/orrery/server/Permission;"⟩ : MethodName) method_2_code 1 (some (.object "com/example/orrery/orrery/server/Permission")) :: ws) ({ frames := 0, cells := 0, slots := 0, locals := 0 } : Room)) (fun a U => a = #[(.int p0)] ∧ Z.Warmed39 U.vm ∧ U.heap = h0) (fun _ _ _ _ _ => True) (fun _ U o U' => ∃ v L, o = .returned v ∧ Q1 p0 w_READ w_EDIT w_CREATE_PROJECT w_ADMINISTER h0 n0 v U'.heap L ∧ FrameEnd U o U' L ({ frames := 0, cells := 0, slots := 0, locals := 0 } : Room).cells ({ frames := 0, cells := 0, slots := 0, locals := 0 } : Room).slots) := by
  refine MetFree.of_bodySF (plainFor_of_name pn_com_example_orrery_orrery_server_PermissionIncludesPinLaw) hisR ?_
  intro p e s m args below meth c s₁ Bd hml0 hP hK
  obtain ⟨rfl, hZ, hh⟩ := hP
  have hx := Bd.exec
  have hby := Bd.bytes
  have hml : c.maxLocals = 1 := hml0
  have hown : s.vm.findClass "com/example/orrery/orrery/server/PermissionIncludesPinLaw" = some m.cls := findClass_of_methodNamed Bd.named
  have X0 : Stand p l e ({ frames := 0, cells := 0, slots := 0, locals := 0 } : Room) s m #[(.int p0)] below meth c s₁ [] 0 0 := Stand.of_body Bd
  have e0 : s₁.heap = h0 := by rw [← hh, Bd.state]; rfl
  have N0 := Fr.nil n0
  refine Rch.out (Rch.st (fun t k => castTop (ef_1 m p0) k) ?_)
  show Rch p.tables e below _ (s₁.setTop (mkF m 0 #[.val (.int p0)] []))
  refine Rch.st (fun _ hr => XS.iloadN X0.here hx rfl (hb hby d1_0) rfl hr) ?_
  show Rch p.tables e below _ (s₁.setTop (mkF m 1 #[.val (.int p0)] [(.int p0)]))
  by_cases hc1 : p0 = (0 : Int32)
  · refine Rch.st (fun _ hr => XS.ifNo X0.here hx rfl (hb hby d1_1) rfl ((if0 _ _).trans (teq hc1).2) hr) ?_
    show Rch p.tables e below _ (s₁.setTop (mkF m 4 #[.val (.int p0)] []))
    obtain ⟨T2, X2, e2, st2⟩ := getS2 X0 hx hZ hown (host := "") (Or.inl (own_w hw 5 rfl)) Via.refl e0 H_w_READ (g := (mkF m 4 #[.val (.int p0)] [])) rfl (hb hby d1_4)
    refine Rch.st st2 ?_
    show Rch p.tables e below _ (T2.setTop (mkF m 7 #[.val (.int p0)] [(.ref w_READ)]))
    obtain ⟨fs, hr, hrun, hended, hW, hsame⟩ := X2.leave (v := some (.ref w_READ)) (fun h => by rw [Bd.returns] at h; cases h)
    refine Rch.fin (u := T2.setFrames fs) (own_retA X2 hx Bd.returns rfl rfl rfl (hb hby d1_7) hr) ⟨_, hrun, hended, _, _, rfl, ⟨?_, N0, e2⟩, ⟨_, rfl⟩, hW, hsame.mono (by decide) (by decide)⟩
    rw [show F1 p0 w_READ w_EDIT w_CREATE_PROJECT w_ADMINISTER = w_READ from by unfold F1; rw [if_pos hc1]]
  · refine Rch.st (fun _ hr => XS.ifYes X0.here hx rfl (pc0 := 1) (pc' := 8) rfl (hb hby d1_1) rfl ((if0 _ _).trans (feq hc1).2) (by decide) (by decide) hr) ?_
    show Rch p.tables e below _ (s₁.setTop (mkF m 8 #[.val (.int p0)] []))
    refine Rch.st (fun _ hr => XS.iloadN X0.here hx rfl (hb hby d1_8) rfl hr) ?_
    show Rch p.tables e below _ (s₁.setTop (mkF m 9 #[.val (.int p0)] [(.int p0)]))
    refine Rch.st (fun _ hr => XS.iconst X0.here hx rfl (hb hby d1_9) hr) ?_
    show Rch p.tables e below _ (s₁.setTop (mkF m 10 #[.val (.int p0)] [(.int (1 : Int32)), (.int p0)]))
    by_cases hc4 : p0 = (1 : Int32)
    · refine Rch.st (fun _ hr => XS.icmpNo X0.here hx rfl (hb hby d1_10) rfl (teq hc4).2 hr) ?_
      show Rch p.tables e below _ (s₁.setTop (mkF m 13 #[.val (.int p0)] []))
      obtain ⟨T5, X5, e5, st5⟩ := getS2 X0 hx hZ hown (host := "") (Or.inl (own_w hw 20 rfl)) Via.refl e0 H_w_EDIT (g := (mkF m 13 #[.val (.int p0)] [])) rfl (hb hby d1_13)
      refine Rch.st st5 ?_
      show Rch p.tables e below _ (T5.setTop (mkF m 16 #[.val (.int p0)] [(.ref w_EDIT)]))
      obtain ⟨fs, hr, hrun, hended, hW, hsame⟩ := X5.leave (v := some (.ref w_EDIT)) (fun h => by rw [Bd.returns] at h; cases h)
      refine Rch.fin (u := T5.setFrames fs) (own_retA X5 hx Bd.returns rfl rfl rfl (hb hby d1_16) hr) ⟨_, hrun, hended, _, _, rfl, ⟨?_, N0, e5⟩, ⟨_, rfl⟩, hW, hsame.mono (by decide) (by decide)⟩
      rw [show F1 p0 w_READ w_EDIT w_CREATE_PROJECT w_ADMINISTER = w_EDIT from by unfold F1; rw [if_neg hc1, if_pos hc4]]
    · refine Rch.st (fun _ hr => XS.icmpYes X0.here hx rfl (pc0 := 10) (pc' := 17) rfl (hb hby d1_10) rfl (feq hc4).2 (by decide) (by decide) hr) ?_
      show Rch p.tables e below _ (s₁.setTop (mkF m 17 #[.val (.int p0)] []))
      refine Rch.st (fun _ hr => XS.iloadN X0.here hx rfl (hb hby d1_17) rfl hr) ?_
      show Rch p.tables e below _ (s₁.setTop (mkF m 18 #[.val (.int p0)] [(.int p0)]))
      refine Rch.st (fun _ hr => XS.iconst X0.here hx rfl (hb hby d1_18) hr) ?_
      show Rch p.tables e below _ (s₁.setTop (mkF m 19 #[.val (.int p0)] [(.int (2 : Int32)), (.int p0)]))
      by_cases hc7 : p0 = (2 : Int32)
      · refine Rch.st (fun _ hr => XS.icmpNo X0.here hx rfl (hb hby d1_19) rfl (teq hc7).2 hr) ?_
        show Rch p.tables e below _ (s₁.setTop (mkF m 22 #[.val (.int p0)] []))
        obtain ⟨T8, X8, e8, st8⟩ := getS2 X0 hx hZ hown (host := "") (Or.inl (own_w hw 18 rfl)) Via.refl e0 H_w_CREATE_PROJECT (g := (mkF m 22 #[.val (.int p0)] [])) rfl (hb hby d1_22)
        refine Rch.st st8 ?_
        show Rch p.tables e below _ (T8.setTop (mkF m 25 #[.val (.int p0)] [(.ref w_CREATE_PROJECT)]))
        obtain ⟨fs, hr, hrun, hended, hW, hsame⟩ := X8.leave (v := some (.ref w_CREATE_PROJECT)) (fun h => by rw [Bd.returns] at h; cases h)
        refine Rch.fin (u := T8.setFrames fs) (own_retA X8 hx Bd.returns rfl rfl rfl (hb hby d1_25) hr) ⟨_, hrun, hended, _, _, rfl, ⟨?_, N0, e8⟩, ⟨_, rfl⟩, hW, hsame.mono (by decide) (by decide)⟩
        rw [show F1 p0 w_READ w_EDIT w_CREATE_PROJECT w_ADMINISTER = w_CREATE_PROJECT from by unfold F1; rw [if_neg hc1, if_neg hc4, if_pos hc7]]
      · refine Rch.st (fun _ hr => XS.icmpYes X0.here hx rfl (pc0 := 19) (pc' := 26) rfl (hb hby d1_19) rfl (feq hc7).2 (by decide) (by decide) hr) ?_
        show Rch p.tables e below _ (s₁.setTop (mkF m 26 #[.val (.int p0)] []))
        obtain ⟨T10, X10, e10, st10⟩ := getS2 X0 hx hZ hown (host := "") (Or.inl (own_w hw 8 rfl)) Via.refl e0 H_w_ADMINISTER (g := (mkF m 26 #[.val (.int p0)] [])) rfl (hb hby d1_26)
        refine Rch.st st10 ?_
        show Rch p.tables e below _ (T10.setTop (mkF m 29 #[.val (.int p0)] [(.ref w_ADMINISTER)]))
        obtain ⟨fs, hr, hrun, hended, hW, hsame⟩ := X10.leave (v := some (.ref w_ADMINISTER)) (fun h => by rw [Bd.returns] at h; cases h)
        refine Rch.fin (u := T10.setFrames fs) (own_retA X10 hx Bd.returns rfl rfl rfl (hb hby d1_29) hr) ⟨_, hrun, hended, _, _, rfl, ⟨?_, N0, e10⟩, ⟨_, rfl⟩, hW, hsame.mono (by decide) (by decide)⟩
        rw [show F1 p0 w_READ w_EDIT w_CREATE_PROJECT w_ADMINISTER = w_ADMINISTER from by unfold F1; rw [if_neg hc1, if_neg hc4, if_neg hc7]]
theorem d2_0 : decode prog_23_method_8_code 0 = .ok (.aload_n 0, 1) := by decide +kernel
theorem d2_1 : decode prog_23_method_8_code 1 = .ok (.aload_n 1, 1) := by decide +kernel
theorem d2_2 : decode prog_23_method_8_code 2 = .ok (.if_acmp .eq 24, 3) := by decide +kernel
theorem d2_26 : decode prog_23_method_8_code 26 = .ok (.iconst 1, 1) := by decide +kernel
theorem d2_27 : decode prog_23_method_8_code 27 = .ok (.goto 4, 3) := by decide +kernel
theorem d2_31 : decode prog_23_method_8_code 31 = .ok (.ireturn, 1) := by decide +kernel
theorem d2_5 : decode prog_23_method_8_code 5 = .ok (.aload_n 0, 1) := by decide +kernel
theorem d2_6 : decode prog_23_method_8_code 6 = .ok (.getstatic 13, 3) := by decide +kernel
theorem d2_9 : decode prog_23_method_8_code 9 = .ok (.if_acmp .eq 17, 3) := by decide +kernel
theorem d2_12 : decode prog_23_method_8_code 12 = .ok (.aload_n 0, 1) := by decide +kernel
theorem d2_13 : decode prog_23_method_8_code 13 = .ok (.getstatic 7, 3) := by decide +kernel
theorem d2_16 : decode prog_23_method_8_code 16 = .ok (.if_acmp .ne 14, 3) := by decide +kernel
theorem d2_19 : decode prog_23_method_8_code 19 = .ok (.aload_n 1, 1) := by decide +kernel
theorem d2_20 : decode prog_23_method_8_code 20 = .ok (.getstatic 3, 3) := by decide +kernel
theorem d2_23 : decode prog_23_method_8_code 23 = .ok (.if_acmp .ne 7, 3) := by decide +kernel
theorem d2_30 : decode prog_23_method_8_code 30 = .ok (.iconst 0, 1) := by decide +kernel
def F2 (a0 : Addr) (a1 : Addr) (w_ADMINISTER : Addr) (w_EDIT : Addr) (w_READ : Addr) : Int32 := (if a0 = a1 then (1 : Int32) else (if a0 = w_ADMINISTER then (1 : Int32) else (if a0 = w_EDIT then (if a1 = w_READ then (1 : Int32) else (0 : Int32)) else (0 : Int32))))
def Q2 (a0 : Addr) (a1 : Addr) (w_ADMINISTER : Addr) (w_EDIT : Addr) (w_READ : Addr) (h0 : Heap) (n0 : Nat) (v : Option Value) (h : Heap) (L : List Loc) : Prop := v = some (.int (F2 a0 a1 w_ADMINISTER w_EDIT w_READ)) ∧ Fr n0 L ∧ h = h0
theorem pn_com_example_orrery_orrery_server_Permission : plainName "com/example/orrery/orrery/server/Permission" = true := by first | (simp [plainName, overriddenIn]; done) | decide +kernel
theorem ef_2 (m : MethodId) (a0 : Addr) (a1 : Addr) : entryFrame m #[(.ref a0), (.ref a1)] 2 = mkF m 0 #[.val (.ref a0), .val (.ref a1)] [] := by first | (simp [entryFrame, mkF, argsToLocals, Value.category]; done) | rfl
set_option maxRecDepth 65536 in
set_option maxHeartbeats 40000000 in
theorem b2 (l : Launch) (Z : State) (a0 : Array Value) (hw : ∀ d ∈ tables_1, d.before a0 Z = true) (ws : List Jvm.Cond) (a0 : Addr) (a1 : Addr) (w_ADMINISTER : Addr) (w_EDIT : Addr) (w_READ : Addr) (h0 : Heap) (n0 : Nat) (H_w_ADMINISTER : Sta Z h0 "com/example/orrery/orrery/server/Permission" "ADMINISTER" "Lcom/example/orrery/orrery/server/Permission;" (.ref w_ADMINISTER)) (H_w_EDIT : Sta Z h0 "com/example/orrery/orrery/server/Permission" "EDIT" "Lcom/example/orrery/orrery/server/Permission;" (.ref w_EDIT)) (H_w_READ : Sta Z h0 "com/example/orrery/orrery/server/Permission" "READ" "Lcom/example/orrery/orrery/server/Permission;" (.ref w_READ)) :
    MetFree l (⟨"com/example/orrery/orrery/server/Permission", "includes", "(Lcom/example/orrery/orrery/server/Permission;)Z"⟩ : MethodName) (head1 (Jvm.Cond.code (⟨"com/example/orrery/orrery/server/Permission", "includes", "(Lcom/example/orrery/orrery/server/Permission;)Z"⟩ : MethodName) prog_23_method_8_code 2 (some .boolean) :: ws) ({ frames := 0, cells := 0, slots := 0, locals := 0 } : Room)) (fun a U => a = #[(.ref a0), (.ref a1)] ∧ Z.Warmed39 U.vm ∧ U.heap = h0) (fun _ _ _ _ _ => True) (fun _ U o U' => ∃ v L, o = .returned v ∧ Q2 a0 a1 w_ADMINISTER w_EDIT w_READ h0 n0 v U'.heap L ∧ FrameEnd U o U' L ({ frames := 0, cells := 0, slots := 0, locals := 0 } : Room).cells ({ frames := 0, cells := 0, slots := 0, locals := 0 } : Room).slots) := by
  refine MetFree.of_bodySF (plainFor_of_name pn_com_example_orrery_orrery_server_Permission) hisR ?_
  intro p e s m args below meth c s₁ Bd hml0 hP hK
  obtain ⟨rfl, hZ, hh⟩ := hP
  have hx := Bd.exec
  have hby := Bd.bytes
  have hml : c.maxLocals = 2 := hml0
  have hown : s.vm.findClass "com/example/orrery/orrery/server/Permission" = some m.cls := findClass_of_methodNamed Bd.named
  have X0 : Stand p l e ({ frames := 0, cells := 0, slots := 0, locals := 0 } : Room) s m #[(.ref a0), (.ref a1)] below meth c s₁ [] 0 0 := Stand.of_body Bd
  have e0 : s₁.heap = h0 := by rw [← hh, Bd.state]; rfl
  have N0 := Fr.nil n0
  refine Rch.out (Rch.st (fun t k => castTop (ef_2 m a0 a1) k) ?_)
  show Rch p.tables e below _ (s₁.setTop (mkF m 0 #[.val (.ref a0), .val (.ref a1)] []))
  refine Rch.st (fun _ hr => XS.aloadN X0.here hx rfl (hb hby d2_0) rfl rfl hr) ?_
  show Rch p.tables e below _ (s₁.setTop (mkF m 1 #[.val (.ref a0), .val (.ref a1)] [(.ref a0)]))
  refine Rch.st (fun _ hr => XS.aloadN X0.here hx rfl (hb hby d2_1) rfl rfl hr) ?_
  show Rch p.tables e below _ (s₁.setTop (mkF m 2 #[.val (.ref a0), .val (.ref a1)] [(.ref a1), (.ref a0)]))
  by_cases hc1 : a0 = a1
  · refine Rch.st (fun _ hr => Jvm.RoadKit.acmp (g := (mkF m 2 #[.val (.ref a0), .val (.ref a1)] [(.ref a1), (.ref a0)])) X0 hx rfl rfl rfl (pc0 := 2) (pc' := 26) (same := true) rfl (hb hby d2_2) rfl (decide_eq_true (congrArg Value.ref hc1)) (by decide) (by decide) hr) ?_
    show Rch p.tables e below _ (s₁.setTop (mkF m 26 #[.val (.ref a0), .val (.ref a1)] []))
    refine Rch.st (fun _ hr => XS.iconst X0.here hx rfl (hb hby d2_26) hr) ?_
    show Rch p.tables e below _ (s₁.setTop (mkF m 27 #[.val (.ref a0), .val (.ref a1)] [(.int (1 : Int32))]))
    refine Rch.st (fun _ hr => XS.goto X0.here hx rfl (pc0 := 27) (pc' := 31) rfl (hb hby d2_27) (by decide) (by decide) hr) ?_
    show Rch p.tables e below _ (s₁.setTop (mkF m 31 #[.val (.ref a0), .val (.ref a1)] [(.int (1 : Int32))]))
    obtain ⟨fs, hr, hrun, hended, hW, hsame⟩ := X0.leave (v := some (.int (1 : Int32))) (fun h => by rw [Bd.returns] at h; cases h)
    refine Rch.fin (u := s₁.setFrames fs) (retN X0 hx (t := .boolean) Bd.returns (by simp) (hb hby d2_31) hr) ⟨_, hrun, hended, _, _, rfl, ⟨?_, N0, e0⟩, ⟨_, rfl⟩, hW, hsame.mono (by decide) (by decide)⟩
    rw [show F2 a0 a1 w_ADMINISTER w_EDIT w_READ = (1 : Int32) from by unfold F2; rw [if_pos hc1]]
  · refine Rch.st (fun _ hr => Jvm.RoadKit.acmp (g := (mkF m 2 #[.val (.ref a0), .val (.ref a1)] [(.ref a1), (.ref a0)])) X0 hx rfl rfl rfl (pc0 := 2) (pc' := 5) (same := false) rfl (hb hby d2_2) rfl (decide_eq_false fun q => hc1 (Value.ref.inj q)) (by decide) (by decide) hr) ?_
    show Rch p.tables e below _ (s₁.setTop (mkF m 5 #[.val (.ref a0), .val (.ref a1)] []))
    refine Rch.st (fun _ hr => XS.aloadN X0.here hx rfl (hb hby d2_5) rfl rfl hr) ?_
    show Rch p.tables e below _ (s₁.setTop (mkF m 6 #[.val (.ref a0), .val (.ref a1)] [(.ref a0)]))
    obtain ⟨T3, X3, e3, st3⟩ := getS2 X0 hx hZ hown (host := "") (Or.inl (own_w hw 15 rfl)) Via.refl e0 H_w_ADMINISTER (g := (mkF m 6 #[.val (.ref a0), .val (.ref a1)] [(.ref a0)])) rfl (hb hby d2_6)
    refine Rch.st st3 ?_
    show Rch p.tables e below _ (T3.setTop (mkF m 9 #[.val (.ref a0), .val (.ref a1)] [(.ref w_ADMINISTER), (.ref a0)]))
    by_cases hc4 : a0 = w_ADMINISTER
    · refine Rch.st (fun _ hr => Jvm.RoadKit.acmp (g := (mkF m 9 #[.val (.ref a0), .val (.ref a1)] [(.ref w_ADMINISTER), (.ref a0)])) X3 hx rfl rfl rfl (pc0 := 9) (pc' := 26) (same := true) rfl (hb hby d2_9) rfl (decide_eq_true (congrArg Value.ref hc4)) (by decide) (by decide) hr) ?_
      show Rch p.tables e below _ (T3.setTop (mkF m 26 #[.val (.ref a0), .val (.ref a1)] []))
      refine Rch.st (fun _ hr => XS.iconst X3.here hx rfl (hb hby d2_26) hr) ?_
      show Rch p.tables e below _ (T3.setTop (mkF m 27 #[.val (.ref a0), .val (.ref a1)] [(.int (1 : Int32))]))
      refine Rch.st (fun _ hr => XS.goto X3.here hx rfl (pc0 := 27) (pc' := 31) rfl (hb hby d2_27) (by decide) (by decide) hr) ?_
      show Rch p.tables e below _ (T3.setTop (mkF m 31 #[.val (.ref a0), .val (.ref a1)] [(.int (1 : Int32))]))
      obtain ⟨fs, hr, hrun, hended, hW, hsame⟩ := X3.leave (v := some (.int (1 : Int32))) (fun h => by rw [Bd.returns] at h; cases h)
      refine Rch.fin (u := T3.setFrames fs) (retN X3 hx (t := .boolean) Bd.returns (by simp) (hb hby d2_31) hr) ⟨_, hrun, hended, _, _, rfl, ⟨?_, N0, e3⟩, ⟨_, rfl⟩, hW, hsame.mono (by decide) (by decide)⟩
      rw [show F2 a0 a1 w_ADMINISTER w_EDIT w_READ = (1 : Int32) from by unfold F2; rw [if_neg hc1, if_pos hc4]]
    · refine Rch.st (fun _ hr => Jvm.RoadKit.acmp (g := (mkF m 9 #[.val (.ref a0), .val (.ref a1)] [(.ref w_ADMINISTER), (.ref a0)])) X3 hx rfl rfl rfl (pc0 := 9) (pc' := 12) (same := false) rfl (hb hby d2_9) rfl (decide_eq_false fun q => hc4 (Value.ref.inj q)) (by decide) (by decide) hr) ?_
      show Rch p.tables e below _ (T3.setTop (mkF m 12 #[.val (.ref a0), .val (.ref a1)] []))
      refine Rch.st (fun _ hr => XS.aloadN X3.here hx rfl (hb hby d2_12) rfl rfl hr) ?_
      show Rch p.tables e below _ (T3.setTop (mkF m 13 #[.val (.ref a0), .val (.ref a1)] [(.ref a0)]))
      obtain ⟨T6, X6, e6, st6⟩ := getS2 X3 hx hZ hown (host := "") (Or.inl (own_w hw 16 rfl)) Via.refl e3 H_w_EDIT (g := (mkF m 13 #[.val (.ref a0), .val (.ref a1)] [(.ref a0)])) rfl (hb hby d2_13)
      refine Rch.st st6 ?_
      show Rch p.tables e below _ (T6.setTop (mkF m 16 #[.val (.ref a0), .val (.ref a1)] [(.ref w_EDIT), (.ref a0)]))
      by_cases hc7 : a0 = w_EDIT
      · refine Rch.st (fun _ hr => Jvm.RoadKit.acmp (g := (mkF m 16 #[.val (.ref a0), .val (.ref a1)] [(.ref w_EDIT), (.ref a0)])) X6 hx rfl rfl rfl (pc0 := 16) (pc' := 19) (same := true) rfl (hb hby d2_16) rfl (decide_eq_true (congrArg Value.ref hc7)) (by decide) (by decide) hr) ?_
        show Rch p.tables e below _ (T6.setTop (mkF m 19 #[.val (.ref a0), .val (.ref a1)] []))
        refine Rch.st (fun _ hr => XS.aloadN X6.here hx rfl (hb hby d2_19) rfl rfl hr) ?_
        show Rch p.tables e below _ (T6.setTop (mkF m 20 #[.val (.ref a0), .val (.ref a1)] [(.ref a1)]))
        obtain ⟨T8, X8, e8, st8⟩ := getS2 X6 hx hZ hown (host := "") (Or.inl (own_w hw 21 rfl)) Via.refl e6 H_w_READ (g := (mkF m 20 #[.val (.ref a0), .val (.ref a1)] [(.ref a1)])) rfl (hb hby d2_20)
        refine Rch.st st8 ?_
        show Rch p.tables e below _ (T8.setTop (mkF m 23 #[.val (.ref a0), .val (.ref a1)] [(.ref w_READ), (.ref a1)]))
        by_cases hc9 : a1 = w_READ
        · refine Rch.st (fun _ hr => Jvm.RoadKit.acmp (g := (mkF m 23 #[.val (.ref a0), .val (.ref a1)] [(.ref w_READ), (.ref a1)])) X8 hx rfl rfl rfl (pc0 := 23) (pc' := 26) (same := true) rfl (hb hby d2_23) rfl (decide_eq_true (congrArg Value.ref hc9)) (by decide) (by decide) hr) ?_
          show Rch p.tables e below _ (T8.setTop (mkF m 26 #[.val (.ref a0), .val (.ref a1)] []))
          refine Rch.st (fun _ hr => XS.iconst X8.here hx rfl (hb hby d2_26) hr) ?_
          show Rch p.tables e below _ (T8.setTop (mkF m 27 #[.val (.ref a0), .val (.ref a1)] [(.int (1 : Int32))]))
          refine Rch.st (fun _ hr => XS.goto X8.here hx rfl (pc0 := 27) (pc' := 31) rfl (hb hby d2_27) (by decide) (by decide) hr) ?_
          show Rch p.tables e below _ (T8.setTop (mkF m 31 #[.val (.ref a0), .val (.ref a1)] [(.int (1 : Int32))]))
          obtain ⟨fs, hr, hrun, hended, hW, hsame⟩ := X8.leave (v := some (.int (1 : Int32))) (fun h => by rw [Bd.returns] at h; cases h)
          refine Rch.fin (u := T8.setFrames fs) (retN X8 hx (t := .boolean) Bd.returns (by simp) (hb hby d2_31) hr) ⟨_, hrun, hended, _, _, rfl, ⟨?_, N0, e8⟩, ⟨_, rfl⟩, hW, hsame.mono (by decide) (by decide)⟩
          rw [show F2 a0 a1 w_ADMINISTER w_EDIT w_READ = (1 : Int32) from by unfold F2; rw [if_neg hc1, if_neg hc4, if_pos hc7, if_pos hc9]]
        · refine Rch.st (fun _ hr => Jvm.RoadKit.acmp (g := (mkF m 23 #[.val (.ref a0), .val (.ref a1)] [(.ref w_READ), (.ref a1)])) X8 hx rfl rfl rfl (pc0 := 23) (pc' := 30) (same := false) rfl (hb hby d2_23) rfl (decide_eq_false fun q => hc9 (Value.ref.inj q)) (by decide) (by decide) hr) ?_
          show Rch p.tables e below _ (T8.setTop (mkF m 30 #[.val (.ref a0), .val (.ref a1)] []))
          refine Rch.st (fun _ hr => XS.iconst X8.here hx rfl (hb hby d2_30) hr) ?_
          show Rch p.tables e below _ (T8.setTop (mkF m 31 #[.val (.ref a0), .val (.ref a1)] [(.int (0 : Int32))]))
          obtain ⟨fs, hr, hrun, hended, hW, hsame⟩ := X8.leave (v := some (.int (0 : Int32))) (fun h => by rw [Bd.returns] at h; cases h)
          refine Rch.fin (u := T8.setFrames fs) (retN X8 hx (t := .boolean) Bd.returns (by simp) (hb hby d2_31) hr) ⟨_, hrun, hended, _, _, rfl, ⟨?_, N0, e8⟩, ⟨_, rfl⟩, hW, hsame.mono (by decide) (by decide)⟩
          rw [show F2 a0 a1 w_ADMINISTER w_EDIT w_READ = (0 : Int32) from by unfold F2; rw [if_neg hc1, if_neg hc4, if_pos hc7, if_neg hc9]]
      · refine Rch.st (fun _ hr => Jvm.RoadKit.acmp (g := (mkF m 16 #[.val (.ref a0), .val (.ref a1)] [(.ref w_EDIT), (.ref a0)])) X6 hx rfl rfl rfl (pc0 := 16) (pc' := 30) (same := false) rfl (hb hby d2_16) rfl (decide_eq_false fun q => hc7 (Value.ref.inj q)) (by decide) (by decide) hr) ?_
        show Rch p.tables e below _ (T6.setTop (mkF m 30 #[.val (.ref a0), .val (.ref a1)] []))
        refine Rch.st (fun _ hr => XS.iconst X6.here hx rfl (hb hby d2_30) hr) ?_
        show Rch p.tables e below _ (T6.setTop (mkF m 31 #[.val (.ref a0), .val (.ref a1)] [(.int (0 : Int32))]))
        obtain ⟨fs, hr, hrun, hended, hW, hsame⟩ := X6.leave (v := some (.int (0 : Int32))) (fun h => by rw [Bd.returns] at h; cases h)
        refine Rch.fin (u := T6.setFrames fs) (retN X6 hx (t := .boolean) Bd.returns (by simp) (hb hby d2_31) hr) ⟨_, hrun, hended, _, _, rfl, ⟨?_, N0, e6⟩, ⟨_, rfl⟩, hW, hsame.mono (by decide) (by decide)⟩
        rw [show F2 a0 a1 w_ADMINISTER w_EDIT w_READ = (0 : Int32) from by unfold F2; rw [if_neg hc1, if_neg hc4, if_neg hc7]]
theorem pd_0 : parseMethodDescriptor "(I)Lcom/example/orrery/orrery/server/Permission;" = some ⟨[.int], some (.object "com/example/orrery/orrery/server/Permission")⟩ := by decide +kernel
theorem pd_1 : parseMethodDescriptor "(Lcom/example/orrery/orrery/server/Permission;)Z" = some ⟨[(.object "com/example/orrery/orrery/server/Permission")], some .boolean⟩ := by decide +kernel
def F0 (p0 : Int32) (p1 : Int32) (w_READ : Addr) (w_EDIT : Addr) (w_CREATE_PROJECT : Addr) (w_ADMINISTER : Addr) : Int32 := (if (((62513 : Int32) >>> ((((p0 &&& (3 : Int32)) * (4 : Int32)) + (p1 &&& (3 : Int32))) &&& 31)) &&& (1 : Int32)) = (0 : Int32) then (if (F2 (F1 (p0 &&& (3 : Int32)) w_READ w_EDIT w_CREATE_PROJECT w_ADMINISTER) (F1 (p1 &&& (3 : Int32)) w_READ w_EDIT w_CREATE_PROJECT w_ADMINISTER) w_ADMINISTER w_EDIT w_READ) = (0 : Int32) then (1 : Int32) else (0 : Int32)) else (if (F2 (F1 (p0 &&& (3 : Int32)) w_READ w_EDIT w_CREATE_PROJECT w_ADMINISTER) (F1 (p1 &&& (3 : Int32)) w_READ w_EDIT w_CREATE_PROJECT w_ADMINISTER) w_ADMINISTER w_EDIT w_READ) = (1 : Int32) then (1 : Int32) else (0 : Int32)))
def Q0 (p0 : Int32) (p1 : Int32) (w_READ : Addr) (w_EDIT : Addr) (w_CREATE_PROJECT : Addr) (w_ADMINISTER : Addr) (h0 : Heap) (n0 : Nat) (v : Option Value) (h : Heap) (L : List Loc) : Prop := v = some (.int (F0 p0 p1 w_READ w_EDIT w_CREATE_PROJECT w_ADMINISTER)) ∧ Fr n0 L ∧ h = h0
theorem ef_0 (m : MethodId) (p0 : Int32) (p1 : Int32) : entryFrame m #[(.int p0), (.int p1)] maxLocals = mkF m 0 #[.val (.int p0), .val (.int p1), .unset, .unset, .unset, .unset] [] := by first | (simp [entryFrame, mkF, argsToLocals, Value.category, maxLocals]; done) | rfl
set_option maxRecDepth 65536 in
set_option maxHeartbeats 40000000 in
theorem b0 (l : Launch) (Z : State) (a0 : Array Value) (hw : ∀ d ∈ tables_1, d.before a0 Z = true) (ws : List Jvm.Cond) (p0 : Int32) (p1 : Int32) (w_READ : Addr) (w_EDIT : Addr) (w_CREATE_PROJECT : Addr) (w_ADMINISTER : Addr) (h0 : Heap) (n0 : Nat) (H_w_READ : Sta Z h0 "com/example/orrery/orrery/server/Permission" "READ" "Lcom/example/orrery/orrery/server/Permission;" (.ref w_READ)) (H_w_EDIT : Sta Z h0 "com/example/orrery/orrery/server/Permission" "EDIT" "Lcom/example/orrery/orrery/server/Permission;" (.ref w_EDIT)) (H_w_CREATE_PROJECT : Sta Z h0 "com/example/orrery/orrery/server/Permission" "CREATE_PROJECT" "Lcom/example/orrery/orrery/server/Permission;" (.ref w_CREATE_PROJECT)) (H_w_ADMINISTER : Sta Z h0 "com/example/orrery/orrery/server/Permission" "ADMINISTER" "Lcom/example/orrery/orrery/server/Permission;" (.ref w_ADMINISTER)) (E_x0 : Exa Z h0 (F1 (p0 &&& (3 : Int32)) w_READ w_EDIT w_CREATE_PROJECT w_ADMINISTER) "com/example/orrery/orrery/server/Permission") :
    MetFree l x (head1 (Jvm.Cond.code x code maxLocals ret :: ws) room_1) (fun a U => a = #[(.int p0), (.int p1)] ∧ Z.Warmed39 U.vm ∧ U.heap = h0) (fun _ _ _ _ _ => True) (fun _ U o U' => ∃ v L, o = .returned v ∧ Q0 p0 p1 w_READ w_EDIT w_CREATE_PROJECT w_ADMINISTER h0 n0 v U'.heap L ∧ FrameEnd U o U' L room_1.cells room_1.slots) := by
  refine MetFree.of_bodySF (plainFor_of_name pn_com_example_orrery_orrery_server_PermissionIncludesPinLaw) hisR ?_
  intro p e s m args below meth c s₁ Bd hml0 hP hK
  obtain ⟨rfl, hZ, hh⟩ := hP
  have hx := Bd.exec
  have hby := Bd.bytes
  have hml : c.maxLocals = 6 := hml0
  have hown : s.vm.findClass "com/example/orrery/orrery/server/PermissionIncludesPinLaw" = some m.cls := findClass_of_methodNamed Bd.named
  have X0 : Stand p l e room_1 s m #[(.int p0), (.int p1)] below meth c s₁ [] 0 0 := Stand.of_body Bd
  have e0 : s₁.heap = h0 := by rw [← hh, Bd.state]; rfl
  have N0 := Fr.nil n0
  refine Rch.out (Rch.st (fun t k => castTop (ef_0 m p0 p1) k) ?_)
  show Rch p.tables e below _ (s₁.setTop (mkF m 0 #[.val (.int p0), .val (.int p1), .unset, .unset, .unset, .unset] []))
  refine Rch.st (fun _ hr => XS.iloadN X0.here hx rfl (hb hby at_0) rfl hr) ?_
  show Rch p.tables e below _ (s₁.setTop (mkF m 1 #[.val (.int p0), .val (.int p1), .unset, .unset, .unset, .unset] [(.int p0)]))
  refine Rch.st (fun _ hr => XS.iconst X0.here hx rfl (hb hby at_1) hr) ?_
  show Rch p.tables e below _ (s₁.setTop (mkF m 2 #[.val (.int p0), .val (.int p1), .unset, .unset, .unset, .unset] [(.int (3 : Int32)), (.int p0)]))
  refine Rch.st (fun _ hr => XS.iand X0.here hx rfl (hb hby at_2) rfl hr) ?_
  show Rch p.tables e below _ (s₁.setTop (mkF m 3 #[.val (.int p0), .val (.int p1), .unset, .unset, .unset, .unset] [(.int (p0 &&& (3 : Int32)))]))
  refine Rch.st (fun _ hr => XS.istoreN X0.here hx rfl (hb hby at_3) rfl (l' := #[.val (.int p0), .val (.int p1), .val (.int (p0 &&& (3 : Int32))), .unset, .unset, .unset]) rfl hr) ?_
  show Rch p.tables e below _ (s₁.setTop (mkF m 4 #[.val (.int p0), .val (.int p1), .val (.int (p0 &&& (3 : Int32))), .unset, .unset, .unset] []))
  refine Rch.st (fun _ hr => XS.iloadN X0.here hx rfl (hb hby at_4) rfl hr) ?_
  show Rch p.tables e below _ (s₁.setTop (mkF m 5 #[.val (.int p0), .val (.int p1), .val (.int (p0 &&& (3 : Int32))), .unset, .unset, .unset] [(.int p1)]))
  refine Rch.st (fun _ hr => XS.iconst X0.here hx rfl (hb hby at_5) hr) ?_
  show Rch p.tables e below _ (s₁.setTop (mkF m 6 #[.val (.int p0), .val (.int p1), .val (.int (p0 &&& (3 : Int32))), .unset, .unset, .unset] [(.int (3 : Int32)), (.int p1)]))
  refine Rch.st (fun _ hr => XS.iand X0.here hx rfl (hb hby at_6) rfl hr) ?_
  show Rch p.tables e below _ (s₁.setTop (mkF m 7 #[.val (.int p0), .val (.int p1), .val (.int (p0 &&& (3 : Int32))), .unset, .unset, .unset] [(.int (p1 &&& (3 : Int32)))]))
  refine Rch.st (fun _ hr => XS.istoreN X0.here hx rfl (hb hby at_7) rfl (l' := #[.val (.int p0), .val (.int p1), .val (.int (p0 &&& (3 : Int32))), .val (.int (p1 &&& (3 : Int32))), .unset, .unset]) rfl hr) ?_
  show Rch p.tables e below _ (s₁.setTop (mkF m 8 #[.val (.int p0), .val (.int p1), .val (.int (p0 &&& (3 : Int32))), .val (.int (p1 &&& (3 : Int32))), .unset, .unset] []))
  refine Rch.st (fun _ hr => Jvm.Stand.ldcI (g := (mkF m 8 #[.val (.int p0), .val (.int p1), .val (.int (p0 &&& (3 : Int32))), .val (.int (p1 &&& (3 : Int32))), .unset, .unset] [])) X0 hx hown (mvT hZ (own_w hw 0 rfl)) rfl (hb hby at_8) hr) ?_
  show Rch p.tables e below _ (s₁.setTop (mkF m 10 #[.val (.int p0), .val (.int p1), .val (.int (p0 &&& (3 : Int32))), .val (.int (p1 &&& (3 : Int32))), .unset, .unset] [(.int (62513 : Int32))]))
  refine Rch.st (fun _ hr => XS.istore X0.here hx rfl (hb hby at_10) rfl (l' := #[.val (.int p0), .val (.int p1), .val (.int (p0 &&& (3 : Int32))), .val (.int (p1 &&& (3 : Int32))), .val (.int (62513 : Int32)), .unset]) rfl hr) ?_
  show Rch p.tables e below _ (s₁.setTop (mkF m 12 #[.val (.int p0), .val (.int p1), .val (.int (p0 &&& (3 : Int32))), .val (.int (p1 &&& (3 : Int32))), .val (.int (62513 : Int32)), .unset] []))
  refine Rch.st (fun _ hr => XS.iload X0.here hx rfl (hb hby at_12) rfl hr) ?_
  show Rch p.tables e below _ (s₁.setTop (mkF m 14 #[.val (.int p0), .val (.int p1), .val (.int (p0 &&& (3 : Int32))), .val (.int (p1 &&& (3 : Int32))), .val (.int (62513 : Int32)), .unset] [(.int (62513 : Int32))]))
  refine Rch.st (fun _ hr => XS.iloadN X0.here hx rfl (hb hby at_14) rfl hr) ?_
  show Rch p.tables e below _ (s₁.setTop (mkF m 15 #[.val (.int p0), .val (.int p1), .val (.int (p0 &&& (3 : Int32))), .val (.int (p1 &&& (3 : Int32))), .val (.int (62513 : Int32)), .unset] [(.int (p0 &&& (3 : Int32))), (.int (62513 : Int32))]))
  refine Rch.st (fun _ hr => XS.iconst X0.here hx rfl (hb hby at_15) hr) ?_
  show Rch p.tables e below _ (s₁.setTop (mkF m 16 #[.val (.int p0), .val (.int p1), .val (.int (p0 &&& (3 : Int32))), .val (.int (p1 &&& (3 : Int32))), .val (.int (62513 : Int32)), .unset] [(.int (4 : Int32)), (.int (p0 &&& (3 : Int32))), (.int (62513 : Int32))]))
  refine Rch.st (fun _ hr => XS.imul X0.here hx rfl (hb hby at_16) rfl hr) ?_
  show Rch p.tables e below _ (s₁.setTop (mkF m 17 #[.val (.int p0), .val (.int p1), .val (.int (p0 &&& (3 : Int32))), .val (.int (p1 &&& (3 : Int32))), .val (.int (62513 : Int32)), .unset] [(.int ((p0 &&& (3 : Int32)) * (4 : Int32))), (.int (62513 : Int32))]))
  refine Rch.st (fun _ hr => XS.iloadN X0.here hx rfl (hb hby at_17) rfl hr) ?_
  show Rch p.tables e below _ (s₁.setTop (mkF m 18 #[.val (.int p0), .val (.int p1), .val (.int (p0 &&& (3 : Int32))), .val (.int (p1 &&& (3 : Int32))), .val (.int (62513 : Int32)), .unset] [(.int (p1 &&& (3 : Int32))), (.int ((p0 &&& (3 : Int32)) * (4 : Int32))), (.int (62513 : Int32))]))
  refine Rch.st (fun _ hr => XS.iadd X0.here hx rfl (hb hby at_18) rfl hr) ?_
  show Rch p.tables e below _ (s₁.setTop (mkF m 19 #[.val (.int p0), .val (.int p1), .val (.int (p0 &&& (3 : Int32))), .val (.int (p1 &&& (3 : Int32))), .val (.int (62513 : Int32)), .unset] [(.int (((p0 &&& (3 : Int32)) * (4 : Int32)) + (p1 &&& (3 : Int32)))), (.int (62513 : Int32))]))
  refine Rch.st (fun _ hr => XS.ishr X0.here hx rfl (hb hby at_19) rfl hr) ?_
  show Rch p.tables e below _ (s₁.setTop (mkF m 20 #[.val (.int p0), .val (.int p1), .val (.int (p0 &&& (3 : Int32))), .val (.int (p1 &&& (3 : Int32))), .val (.int (62513 : Int32)), .unset] [(.int ((62513 : Int32) >>> ((((p0 &&& (3 : Int32)) * (4 : Int32)) + (p1 &&& (3 : Int32))) &&& 31)))]))
  refine Rch.st (fun _ hr => XS.iconst X0.here hx rfl (hb hby at_20) hr) ?_
  show Rch p.tables e below _ (s₁.setTop (mkF m 21 #[.val (.int p0), .val (.int p1), .val (.int (p0 &&& (3 : Int32))), .val (.int (p1 &&& (3 : Int32))), .val (.int (62513 : Int32)), .unset] [(.int (1 : Int32)), (.int ((62513 : Int32) >>> ((((p0 &&& (3 : Int32)) * (4 : Int32)) + (p1 &&& (3 : Int32))) &&& 31)))]))
  refine Rch.st (fun _ hr => XS.iand X0.here hx rfl (hb hby at_21) rfl hr) ?_
  show Rch p.tables e below _ (s₁.setTop (mkF m 22 #[.val (.int p0), .val (.int p1), .val (.int (p0 &&& (3 : Int32))), .val (.int (p1 &&& (3 : Int32))), .val (.int (62513 : Int32)), .unset] [(.int (((62513 : Int32) >>> ((((p0 &&& (3 : Int32)) * (4 : Int32)) + (p1 &&& (3 : Int32))) &&& 31)) &&& (1 : Int32)))]))
  by_cases hc1 : (((62513 : Int32) >>> ((((p0 &&& (3 : Int32)) * (4 : Int32)) + (p1 &&& (3 : Int32))) &&& 31)) &&& (1 : Int32)) = (0 : Int32)
  · refine Rch.st (fun _ hr => XS.ifYes X0.here hx rfl (pc0 := 22) (pc' := 29) rfl (hb hby at_22) rfl ((if0 _ _).trans (teq hc1).1) (by decide) (by decide) hr) ?_
    show Rch p.tables e below _ (s₁.setTop (mkF m 29 #[.val (.int p0), .val (.int p1), .val (.int (p0 &&& (3 : Int32))), .val (.int (p1 &&& (3 : Int32))), .val (.int (62513 : Int32)), .unset] []))
    refine Rch.st (fun _ hr => XS.iconst X0.here hx rfl (hb hby at_29) hr) ?_
    show Rch p.tables e below _ (s₁.setTop (mkF m 30 #[.val (.int p0), .val (.int p1), .val (.int (p0 &&& (3 : Int32))), .val (.int (p1 &&& (3 : Int32))), .val (.int (62513 : Int32)), .unset] [(.int (0 : Int32))]))
    refine Rch.st (fun _ hr => XS.istore X0.here hx rfl (hb hby at_30) rfl (l' := #[.val (.int p0), .val (.int p1), .val (.int (p0 &&& (3 : Int32))), .val (.int (p1 &&& (3 : Int32))), .val (.int (62513 : Int32)), .val (.int (0 : Int32))]) rfl hr) ?_
    show Rch p.tables e below _ (s₁.setTop (mkF m 32 #[.val (.int p0), .val (.int p1), .val (.int (p0 &&& (3 : Int32))), .val (.int (p1 &&& (3 : Int32))), .val (.int (62513 : Int32)), .val (.int (0 : Int32))] []))
    refine Rch.st (fun _ hr => XS.iloadN X0.here hx rfl (hb hby at_32) rfl hr) ?_
    show Rch p.tables e below _ (s₁.setTop (mkF m 33 #[.val (.int p0), .val (.int p1), .val (.int (p0 &&& (3 : Int32))), .val (.int (p1 &&& (3 : Int32))), .val (.int (62513 : Int32)), .val (.int (0 : Int32))] [(.int (p0 &&& (3 : Int32)))]))
    obtain ⟨_, _, ⟨T2, L2, k2, n2⟩, -, X2, ⟨Lc2, hQ2, l2, y2, z2⟩, st2⟩ := Jvm.LawKit.callS X0 hx (y := (⟨"com/example/orrery/orrery/server/PermissionIncludesPinLaw", "pick", "(I)Lcom/example/orrery/orrery/server/Permission;"⟩ : MethodName)) hown (mvT hZ (own_w hw 1 rfl)) (mvT hZ (own_w hw 2 rfl)) (mvT hZ (own_w hw 3 rfl)) (mvT hZ (own_w hw 4 rfl)) (by decide) (backOf (W := 0) (b1 l Z a0 hw [] (p0 &&& (3 : Int32)) w_READ w_EDIT w_CREATE_PROJECT w_ADMINISTER h0 n0 H_w_READ H_w_EDIT H_w_CREATE_PROJECT H_w_ADMINISTER) hZ (own_w hw 4 rfl) (own_w hw 3 rfl) (by decide) (by decide)) (g := (mkF m 33 #[.val (.int p0), .val (.int p1), .val (.int (p0 &&& (3 : Int32))), .val (.int (p1 &&& (3 : Int32))), .val (.int (62513 : Int32)), .val (.int (0 : Int32))] [(.int (p0 &&& (3 : Int32)))])) rfl (by rw [hml]; rfl) (argsL := [(.int (p0 &&& (3 : Int32)))]) (rest := []) (lenOf pd_0 rfl) rfl (by show 2 * 0 + _ ≤ _; exact Nat.le_of_eq rfl) (hb hby at_33) (fun _ _ => ⟨rfl, e0, (by decide : 0 + 0 ≤ _), (by decide : 0 + 0 ≤ _)⟩)
    dsimp only [Pt.U, Pt.locs, Pt.cells, Pt.slots] at X2 l2 y2 z2 st2 hQ2
    subst l2 y2 z2
    obtain ⟨rfl, N2q, e2⟩ := hQ2
    have N2 := Fr.app N0 N2q
    refine Rch.st st2 ?_
    show Rch p.tables e below _ (T2.setTop (mkF m 36 #[.val (.int p0), .val (.int p1), .val (.int (p0 &&& (3 : Int32))), .val (.int (p1 &&& (3 : Int32))), .val (.int (62513 : Int32)), .val (.int (0 : Int32))] [(.ref (F1 (p0 &&& (3 : Int32)) w_READ w_EDIT w_CREATE_PROJECT w_ADMINISTER))]))
    refine Rch.st (fun _ hr => XS.iloadN X2.here hx rfl (hb hby at_36) rfl hr) ?_
    show Rch p.tables e below _ (T2.setTop (mkF m 37 #[.val (.int p0), .val (.int p1), .val (.int (p0 &&& (3 : Int32))), .val (.int (p1 &&& (3 : Int32))), .val (.int (62513 : Int32)), .val (.int (0 : Int32))] [(.int (p1 &&& (3 : Int32))), (.ref (F1 (p0 &&& (3 : Int32)) w_READ w_EDIT w_CREATE_PROJECT w_ADMINISTER))]))
    obtain ⟨_, _, ⟨T3, L3, k3, n3⟩, -, X3, ⟨Lc3, hQ3, l3, y3, z3⟩, st3⟩ := Jvm.LawKit.callS X2 hx (y := (⟨"com/example/orrery/orrery/server/PermissionIncludesPinLaw", "pick", "(I)Lcom/example/orrery/orrery/server/Permission;"⟩ : MethodName)) hown (mvT hZ (own_w hw 1 rfl)) (mvT hZ (own_w hw 2 rfl)) (mvT hZ (own_w hw 3 rfl)) (mvT hZ (own_w hw 4 rfl)) (by decide) (backOf (W := 1) (b1 l Z a0 hw [] (p1 &&& (3 : Int32)) w_READ w_EDIT w_CREATE_PROJECT w_ADMINISTER h0 n0 H_w_READ H_w_EDIT H_w_CREATE_PROJECT H_w_ADMINISTER) hZ (own_w hw 4 rfl) (own_w hw 3 rfl) (by decide) (by decide)) (g := (mkF m 37 #[.val (.int p0), .val (.int p1), .val (.int (p0 &&& (3 : Int32))), .val (.int (p1 &&& (3 : Int32))), .val (.int (62513 : Int32)), .val (.int (0 : Int32))] [(.int (p1 &&& (3 : Int32))), (.ref (F1 (p0 &&& (3 : Int32)) w_READ w_EDIT w_CREATE_PROJECT w_ADMINISTER))])) rfl (by rw [hml]; rfl) (argsL := [(.int (p1 &&& (3 : Int32)))]) (rest := [(.ref (F1 (p0 &&& (3 : Int32)) w_READ w_EDIT w_CREATE_PROJECT w_ADMINISTER))]) (lenOf pd_0 rfl) rfl (by show 2 * 0 + _ ≤ _; exact Nat.le_of_eq rfl) (hb hby at_37) (fun _ _ => ⟨rfl, e2, (by decide : 0 + 0 ≤ _), (by decide : 0 + 0 ≤ _)⟩)
    dsimp only [Pt.U, Pt.locs, Pt.cells, Pt.slots] at X3 l3 y3 z3 st3 hQ3
    subst l3 y3 z3
    obtain ⟨rfl, N3q, e3⟩ := hQ3
    have N3 := Fr.app N2 N3q
    refine Rch.st st3 ?_
    show Rch p.tables e below _ (T3.setTop (mkF m 40 #[.val (.int p0), .val (.int p1), .val (.int (p0 &&& (3 : Int32))), .val (.int (p1 &&& (3 : Int32))), .val (.int (62513 : Int32)), .val (.int (0 : Int32))] [(.ref (F1 (p1 &&& (3 : Int32)) w_READ w_EDIT w_CREATE_PROJECT w_ADMINISTER)), (.ref (F1 (p0 &&& (3 : Int32)) w_READ w_EDIT w_CREATE_PROJECT w_ADMINISTER))]))
    obtain ⟨cq4, kq4, q4a, q4b, q4c⟩ := isOf hZ e3 E_x0
    obtain ⟨_, _, ⟨T4, L4, k4, n4⟩, -, X4, ⟨Lc4, hQ4, l4, y4, z4⟩, st4⟩ := X3.virtualBack hx (y := (⟨"com/example/orrery/orrery/server/Permission", "includes", "(Lcom/example/orrery/orrery/server/Permission;)Z"⟩ : MethodName)) (z := (⟨"com/example/orrery/orrery/server/Permission", "includes", "(Lcom/example/orrery/orrery/server/Permission;)Z"⟩ : MethodName)) hown (mvT hZ (own_w hw 10 rfl)) (mvT hZ (own_w hw 11 rfl)) (notFace_of_selects (args := #[]) (mvT hZ (own_w hw 13 rfl))) (mvT hZ (own_w hw 13 rfl)) (mvT hZ (own_w hw 12 rfl)) (by decide) (backOf (W := 0) (b2 l Z a0 hw [] (F1 (p0 &&& (3 : Int32)) w_READ w_EDIT w_CREATE_PROJECT w_ADMINISTER) (F1 (p1 &&& (3 : Int32)) w_READ w_EDIT w_CREATE_PROJECT w_ADMINISTER) w_ADMINISTER w_EDIT w_READ h0 n0 H_w_ADMINISTER H_w_EDIT H_w_READ) hZ (own_w hw 14 rfl) (own_w hw 6 rfl) (by decide) (by decide)) q4a q4c (g := (mkF m 40 #[.val (.int p0), .val (.int p1), .val (.int (p0 &&& (3 : Int32))), .val (.int (p1 &&& (3 : Int32))), .val (.int (62513 : Int32)), .val (.int (0 : Int32))] [(.ref (F1 (p1 &&& (3 : Int32)) w_READ w_EDIT w_CREATE_PROJECT w_ADMINISTER)), (.ref (F1 (p0 &&& (3 : Int32)) w_READ w_EDIT w_CREATE_PROJECT w_ADMINISTER))])) rfl (by rw [hml]; rfl) (Steps.refl _) (argsL := [(.ref (F1 (p1 &&& (3 : Int32)) w_READ w_EDIT w_CREATE_PROJECT w_ADMINISTER))]) (rest := []) (lenOf pd_1 rfl) rfl (by show 2 * 0 + _ ≤ _; exact Nat.le_of_eq rfl) (hb hby at_40) (fun _ _ => ⟨rfl, e3, (by decide : 0 + 0 ≤ _), (by decide : 0 + 0 ≤ _)⟩)
    dsimp only [Pt.U, Pt.locs, Pt.cells, Pt.slots] at X4 l4 y4 z4 st4 hQ4
    subst l4 y4 z4
    obtain ⟨rfl, N4q, e4⟩ := hQ4
    have N4 := Fr.app N3 N4q
    refine Rch.tr st4 ?_
    show Rch p.tables e below _ (T4.setTop (mkF m 43 #[.val (.int p0), .val (.int p1), .val (.int (p0 &&& (3 : Int32))), .val (.int (p1 &&& (3 : Int32))), .val (.int (62513 : Int32)), .val (.int (0 : Int32))] [(.int (F2 (F1 (p0 &&& (3 : Int32)) w_READ w_EDIT w_CREATE_PROJECT w_ADMINISTER) (F1 (p1 &&& (3 : Int32)) w_READ w_EDIT w_CREATE_PROJECT w_ADMINISTER) w_ADMINISTER w_EDIT w_READ))]))
    refine Rch.st (fun _ hr => XS.iload X4.here hx rfl (hb hby at_43) rfl hr) ?_
    show Rch p.tables e below _ (T4.setTop (mkF m 45 #[.val (.int p0), .val (.int p1), .val (.int (p0 &&& (3 : Int32))), .val (.int (p1 &&& (3 : Int32))), .val (.int (62513 : Int32)), .val (.int (0 : Int32))] [(.int (0 : Int32)), (.int (F2 (F1 (p0 &&& (3 : Int32)) w_READ w_EDIT w_CREATE_PROJECT w_ADMINISTER) (F1 (p1 &&& (3 : Int32)) w_READ w_EDIT w_CREATE_PROJECT w_ADMINISTER) w_ADMINISTER w_EDIT w_READ))]))
    by_cases hc5 : (F2 (F1 (p0 &&& (3 : Int32)) w_READ w_EDIT w_CREATE_PROJECT w_ADMINISTER) (F1 (p1 &&& (3 : Int32)) w_READ w_EDIT w_CREATE_PROJECT w_ADMINISTER) w_ADMINISTER w_EDIT w_READ) = (0 : Int32)
    · refine Rch.st (fun _ hr => XS.icmpNo X4.here hx rfl (hb hby at_45) rfl (teq hc5).2 hr) ?_
      show Rch p.tables e below _ (T4.setTop (mkF m 48 #[.val (.int p0), .val (.int p1), .val (.int (p0 &&& (3 : Int32))), .val (.int (p1 &&& (3 : Int32))), .val (.int (62513 : Int32)), .val (.int (0 : Int32))] []))
      refine Rch.st (fun _ hr => XS.iconst X4.here hx rfl (hb hby at_48) hr) ?_
      show Rch p.tables e below _ (T4.setTop (mkF m 49 #[.val (.int p0), .val (.int p1), .val (.int (p0 &&& (3 : Int32))), .val (.int (p1 &&& (3 : Int32))), .val (.int (62513 : Int32)), .val (.int (0 : Int32))] [(.int (1 : Int32))]))
      refine Rch.st (fun _ hr => XS.goto X4.here hx rfl (pc0 := 49) (pc' := 53) rfl (hb hby at_49) (by decide) (by decide) hr) ?_
      show Rch p.tables e below _ (T4.setTop (mkF m 53 #[.val (.int p0), .val (.int p1), .val (.int (p0 &&& (3 : Int32))), .val (.int (p1 &&& (3 : Int32))), .val (.int (62513 : Int32)), .val (.int (0 : Int32))] [(.int (1 : Int32))]))
      obtain ⟨fs, hr, hrun, hended, hW, hsame⟩ := X4.leave (v := some (.int (1 : Int32))) (fun h => by rw [Bd.returns] at h; cases h)
      refine Rch.fin (u := T4.setFrames fs) (retN X4 hx (t := .boolean) Bd.returns (by simp) (hb hby at_53) hr) ⟨_, hrun, hended, _, _, rfl, ⟨?_, N4, e4⟩, ⟨_, rfl⟩, hW, hsame.mono (by decide) (by decide)⟩
      rw [show F0 p0 p1 w_READ w_EDIT w_CREATE_PROJECT w_ADMINISTER = (1 : Int32) from by unfold F0; rw [if_pos hc1, if_pos hc5]]
    · refine Rch.st (fun _ hr => XS.icmpYes X4.here hx rfl (pc0 := 45) (pc' := 52) rfl (hb hby at_45) rfl (feq hc5).2 (by decide) (by decide) hr) ?_
      show Rch p.tables e below _ (T4.setTop (mkF m 52 #[.val (.int p0), .val (.int p1), .val (.int (p0 &&& (3 : Int32))), .val (.int (p1 &&& (3 : Int32))), .val (.int (62513 : Int32)), .val (.int (0 : Int32))] []))
      refine Rch.st (fun _ hr => XS.iconst X4.here hx rfl (hb hby at_52) hr) ?_
      show Rch p.tables e below _ (T4.setTop (mkF m 53 #[.val (.int p0), .val (.int p1), .val (.int (p0 &&& (3 : Int32))), .val (.int (p1 &&& (3 : Int32))), .val (.int (62513 : Int32)), .val (.int (0 : Int32))] [(.int (0 : Int32))]))
      obtain ⟨fs, hr, hrun, hended, hW, hsame⟩ := X4.leave (v := some (.int (0 : Int32))) (fun h => by rw [Bd.returns] at h; cases h)
      refine Rch.fin (u := T4.setFrames fs) (retN X4 hx (t := .boolean) Bd.returns (by simp) (hb hby at_53) hr) ⟨_, hrun, hended, _, _, rfl, ⟨?_, N4, e4⟩, ⟨_, rfl⟩, hW, hsame.mono (by decide) (by decide)⟩
      rw [show F0 p0 p1 w_READ w_EDIT w_CREATE_PROJECT w_ADMINISTER = (0 : Int32) from by unfold F0; rw [if_pos hc1, if_neg hc5]]
  · refine Rch.st (fun _ hr => XS.ifNo X0.here hx rfl (hb hby at_22) rfl ((if0 _ _).trans (feq hc1).1) hr) ?_
    show Rch p.tables e below _ (s₁.setTop (mkF m 25 #[.val (.int p0), .val (.int p1), .val (.int (p0 &&& (3 : Int32))), .val (.int (p1 &&& (3 : Int32))), .val (.int (62513 : Int32)), .unset] []))
    refine Rch.st (fun _ hr => XS.iconst X0.here hx rfl (hb hby at_25) hr) ?_
    show Rch p.tables e below _ (s₁.setTop (mkF m 26 #[.val (.int p0), .val (.int p1), .val (.int (p0 &&& (3 : Int32))), .val (.int (p1 &&& (3 : Int32))), .val (.int (62513 : Int32)), .unset] [(.int (1 : Int32))]))
    refine Rch.st (fun _ hr => XS.goto X0.here hx rfl (pc0 := 26) (pc' := 30) rfl (hb hby at_26) (by decide) (by decide) hr) ?_
    show Rch p.tables e below _ (s₁.setTop (mkF m 30 #[.val (.int p0), .val (.int p1), .val (.int (p0 &&& (3 : Int32))), .val (.int (p1 &&& (3 : Int32))), .val (.int (62513 : Int32)), .unset] [(.int (1 : Int32))]))
    refine Rch.st (fun _ hr => XS.istore X0.here hx rfl (hb hby at_30) rfl (l' := #[.val (.int p0), .val (.int p1), .val (.int (p0 &&& (3 : Int32))), .val (.int (p1 &&& (3 : Int32))), .val (.int (62513 : Int32)), .val (.int (1 : Int32))]) rfl hr) ?_
    show Rch p.tables e below _ (s₁.setTop (mkF m 32 #[.val (.int p0), .val (.int p1), .val (.int (p0 &&& (3 : Int32))), .val (.int (p1 &&& (3 : Int32))), .val (.int (62513 : Int32)), .val (.int (1 : Int32))] []))
    refine Rch.st (fun _ hr => XS.iloadN X0.here hx rfl (hb hby at_32) rfl hr) ?_
    show Rch p.tables e below _ (s₁.setTop (mkF m 33 #[.val (.int p0), .val (.int p1), .val (.int (p0 &&& (3 : Int32))), .val (.int (p1 &&& (3 : Int32))), .val (.int (62513 : Int32)), .val (.int (1 : Int32))] [(.int (p0 &&& (3 : Int32)))]))
    obtain ⟨_, _, ⟨T8, L8, k8, n8⟩, -, X8, ⟨Lc8, hQ8, l8, y8, z8⟩, st8⟩ := Jvm.LawKit.callS X0 hx (y := (⟨"com/example/orrery/orrery/server/PermissionIncludesPinLaw", "pick", "(I)Lcom/example/orrery/orrery/server/Permission;"⟩ : MethodName)) hown (mvT hZ (own_w hw 1 rfl)) (mvT hZ (own_w hw 2 rfl)) (mvT hZ (own_w hw 3 rfl)) (mvT hZ (own_w hw 4 rfl)) (by decide) (backOf (W := 0) (b1 l Z a0 hw [] (p0 &&& (3 : Int32)) w_READ w_EDIT w_CREATE_PROJECT w_ADMINISTER h0 n0 H_w_READ H_w_EDIT H_w_CREATE_PROJECT H_w_ADMINISTER) hZ (own_w hw 4 rfl) (own_w hw 3 rfl) (by decide) (by decide)) (g := (mkF m 33 #[.val (.int p0), .val (.int p1), .val (.int (p0 &&& (3 : Int32))), .val (.int (p1 &&& (3 : Int32))), .val (.int (62513 : Int32)), .val (.int (1 : Int32))] [(.int (p0 &&& (3 : Int32)))])) rfl (by rw [hml]; rfl) (argsL := [(.int (p0 &&& (3 : Int32)))]) (rest := []) (lenOf pd_0 rfl) rfl (by show 2 * 0 + _ ≤ _; exact Nat.le_of_eq rfl) (hb hby at_33) (fun _ _ => ⟨rfl, e0, (by decide : 0 + 0 ≤ _), (by decide : 0 + 0 ≤ _)⟩)
    dsimp only [Pt.U, Pt.locs, Pt.cells, Pt.slots] at X8 l8 y8 z8 st8 hQ8
    subst l8 y8 z8
    obtain ⟨rfl, N8q, e8⟩ := hQ8
    have N8 := Fr.app N0 N8q
    refine Rch.st st8 ?_
    show Rch p.tables e below _ (T8.setTop (mkF m 36 #[.val (.int p0), .val (.int p1), .val (.int (p0 &&& (3 : Int32))), .val (.int (p1 &&& (3 : Int32))), .val (.int (62513 : Int32)), .val (.int (1 : Int32))] [(.ref (F1 (p0 &&& (3 : Int32)) w_READ w_EDIT w_CREATE_PROJECT w_ADMINISTER))]))
    refine Rch.st (fun _ hr => XS.iloadN X8.here hx rfl (hb hby at_36) rfl hr) ?_
    show Rch p.tables e below _ (T8.setTop (mkF m 37 #[.val (.int p0), .val (.int p1), .val (.int (p0 &&& (3 : Int32))), .val (.int (p1 &&& (3 : Int32))), .val (.int (62513 : Int32)), .val (.int (1 : Int32))] [(.int (p1 &&& (3 : Int32))), (.ref (F1 (p0 &&& (3 : Int32)) w_READ w_EDIT w_CREATE_PROJECT w_ADMINISTER))]))
    obtain ⟨_, _, ⟨T9, L9, k9, n9⟩, -, X9, ⟨Lc9, hQ9, l9, y9, z9⟩, st9⟩ := Jvm.LawKit.callS X8 hx (y := (⟨"com/example/orrery/orrery/server/PermissionIncludesPinLaw", "pick", "(I)Lcom/example/orrery/orrery/server/Permission;"⟩ : MethodName)) hown (mvT hZ (own_w hw 1 rfl)) (mvT hZ (own_w hw 2 rfl)) (mvT hZ (own_w hw 3 rfl)) (mvT hZ (own_w hw 4 rfl)) (by decide) (backOf (W := 1) (b1 l Z a0 hw [] (p1 &&& (3 : Int32)) w_READ w_EDIT w_CREATE_PROJECT w_ADMINISTER h0 n0 H_w_READ H_w_EDIT H_w_CREATE_PROJECT H_w_ADMINISTER) hZ (own_w hw 4 rfl) (own_w hw 3 rfl) (by decide) (by decide)) (g := (mkF m 37 #[.val (.int p0), .val (.int p1), .val (.int (p0 &&& (3 : Int32))), .val (.int (p1 &&& (3 : Int32))), .val (.int (62513 : Int32)), .val (.int (1 : Int32))] [(.int (p1 &&& (3 : Int32))), (.ref (F1 (p0 &&& (3 : Int32)) w_READ w_EDIT w_CREATE_PROJECT w_ADMINISTER))])) rfl (by rw [hml]; rfl) (argsL := [(.int (p1 &&& (3 : Int32)))]) (rest := [(.ref (F1 (p0 &&& (3 : Int32)) w_READ w_EDIT w_CREATE_PROJECT w_ADMINISTER))]) (lenOf pd_0 rfl) rfl (by show 2 * 0 + _ ≤ _; exact Nat.le_of_eq rfl) (hb hby at_37) (fun _ _ => ⟨rfl, e8, (by decide : 0 + 0 ≤ _), (by decide : 0 + 0 ≤ _)⟩)
    dsimp only [Pt.U, Pt.locs, Pt.cells, Pt.slots] at X9 l9 y9 z9 st9 hQ9
    subst l9 y9 z9
    obtain ⟨rfl, N9q, e9⟩ := hQ9
    have N9 := Fr.app N8 N9q
    refine Rch.st st9 ?_
    show Rch p.tables e below _ (T9.setTop (mkF m 40 #[.val (.int p0), .val (.int p1), .val (.int (p0 &&& (3 : Int32))), .val (.int (p1 &&& (3 : Int32))), .val (.int (62513 : Int32)), .val (.int (1 : Int32))] [(.ref (F1 (p1 &&& (3 : Int32)) w_READ w_EDIT w_CREATE_PROJECT w_ADMINISTER)), (.ref (F1 (p0 &&& (3 : Int32)) w_READ w_EDIT w_CREATE_PROJECT w_ADMINISTER))]))
    obtain ⟨cq10, kq10, q10a, q10b, q10c⟩ := isOf hZ e9 E_x0
    obtain ⟨_, _, ⟨T10, L10, k10, n10⟩, -, X10, ⟨Lc10, hQ10, l10, y10, z10⟩, st10⟩ := X9.virtualBack hx (y := (⟨"com/example/orrery/orrery/server/Permission", "includes", "(Lcom/example/orrery/orrery/server/Permission;)Z"⟩ : MethodName)) (z := (⟨"com/example/orrery/orrery/server/Permission", "includes", "(Lcom/example/orrery/orrery/server/Permission;)Z"⟩ : MethodName)) hown (mvT hZ (own_w hw 10 rfl)) (mvT hZ (own_w hw 11 rfl)) (notFace_of_selects (args := #[]) (mvT hZ (own_w hw 13 rfl))) (mvT hZ (own_w hw 13 rfl)) (mvT hZ (own_w hw 12 rfl)) (by decide) (backOf (W := 0) (b2 l Z a0 hw [] (F1 (p0 &&& (3 : Int32)) w_READ w_EDIT w_CREATE_PROJECT w_ADMINISTER) (F1 (p1 &&& (3 : Int32)) w_READ w_EDIT w_CREATE_PROJECT w_ADMINISTER) w_ADMINISTER w_EDIT w_READ h0 n0 H_w_ADMINISTER H_w_EDIT H_w_READ) hZ (own_w hw 14 rfl) (own_w hw 6 rfl) (by decide) (by decide)) q10a q10c (g := (mkF m 40 #[.val (.int p0), .val (.int p1), .val (.int (p0 &&& (3 : Int32))), .val (.int (p1 &&& (3 : Int32))), .val (.int (62513 : Int32)), .val (.int (1 : Int32))] [(.ref (F1 (p1 &&& (3 : Int32)) w_READ w_EDIT w_CREATE_PROJECT w_ADMINISTER)), (.ref (F1 (p0 &&& (3 : Int32)) w_READ w_EDIT w_CREATE_PROJECT w_ADMINISTER))])) rfl (by rw [hml]; rfl) (Steps.refl _) (argsL := [(.ref (F1 (p1 &&& (3 : Int32)) w_READ w_EDIT w_CREATE_PROJECT w_ADMINISTER))]) (rest := []) (lenOf pd_1 rfl) rfl (by show 2 * 0 + _ ≤ _; exact Nat.le_of_eq rfl) (hb hby at_40) (fun _ _ => ⟨rfl, e9, (by decide : 0 + 0 ≤ _), (by decide : 0 + 0 ≤ _)⟩)
    dsimp only [Pt.U, Pt.locs, Pt.cells, Pt.slots] at X10 l10 y10 z10 st10 hQ10
    subst l10 y10 z10
    obtain ⟨rfl, N10q, e10⟩ := hQ10
    have N10 := Fr.app N9 N10q
    refine Rch.tr st10 ?_
    show Rch p.tables e below _ (T10.setTop (mkF m 43 #[.val (.int p0), .val (.int p1), .val (.int (p0 &&& (3 : Int32))), .val (.int (p1 &&& (3 : Int32))), .val (.int (62513 : Int32)), .val (.int (1 : Int32))] [(.int (F2 (F1 (p0 &&& (3 : Int32)) w_READ w_EDIT w_CREATE_PROJECT w_ADMINISTER) (F1 (p1 &&& (3 : Int32)) w_READ w_EDIT w_CREATE_PROJECT w_ADMINISTER) w_ADMINISTER w_EDIT w_READ))]))
    refine Rch.st (fun _ hr => XS.iload X10.here hx rfl (hb hby at_43) rfl hr) ?_
    show Rch p.tables e below _ (T10.setTop (mkF m 45 #[.val (.int p0), .val (.int p1), .val (.int (p0 &&& (3 : Int32))), .val (.int (p1 &&& (3 : Int32))), .val (.int (62513 : Int32)), .val (.int (1 : Int32))] [(.int (1 : Int32)), (.int (F2 (F1 (p0 &&& (3 : Int32)) w_READ w_EDIT w_CREATE_PROJECT w_ADMINISTER) (F1 (p1 &&& (3 : Int32)) w_READ w_EDIT w_CREATE_PROJECT w_ADMINISTER) w_ADMINISTER w_EDIT w_READ))]))
    by_cases hc11 : (F2 (F1 (p0 &&& (3 : Int32)) w_READ w_EDIT w_CREATE_PROJECT w_ADMINISTER) (F1 (p1 &&& (3 : Int32)) w_READ w_EDIT w_CREATE_PROJECT w_ADMINISTER) w_ADMINISTER w_EDIT w_READ) = (1 : Int32)
    · refine Rch.st (fun _ hr => XS.icmpNo X10.here hx rfl (hb hby at_45) rfl (teq hc11).2 hr) ?_
      show Rch p.tables e below _ (T10.setTop (mkF m 48 #[.val (.int p0), .val (.int p1), .val (.int (p0 &&& (3 : Int32))), .val (.int (p1 &&& (3 : Int32))), .val (.int (62513 : Int32)), .val (.int (1 : Int32))] []))
      refine Rch.st (fun _ hr => XS.iconst X10.here hx rfl (hb hby at_48) hr) ?_
      show Rch p.tables e below _ (T10.setTop (mkF m 49 #[.val (.int p0), .val (.int p1), .val (.int (p0 &&& (3 : Int32))), .val (.int (p1 &&& (3 : Int32))), .val (.int (62513 : Int32)), .val (.int (1 : Int32))] [(.int (1 : Int32))]))
      refine Rch.st (fun _ hr => XS.goto X10.here hx rfl (pc0 := 49) (pc' := 53) rfl (hb hby at_49) (by decide) (by decide) hr) ?_
      show Rch p.tables e below _ (T10.setTop (mkF m 53 #[.val (.int p0), .val (.int p1), .val (.int (p0 &&& (3 : Int32))), .val (.int (p1 &&& (3 : Int32))), .val (.int (62513 : Int32)), .val (.int (1 : Int32))] [(.int (1 : Int32))]))
      obtain ⟨fs, hr, hrun, hended, hW, hsame⟩ := X10.leave (v := some (.int (1 : Int32))) (fun h => by rw [Bd.returns] at h; cases h)
      refine Rch.fin (u := T10.setFrames fs) (retN X10 hx (t := .boolean) Bd.returns (by simp) (hb hby at_53) hr) ⟨_, hrun, hended, _, _, rfl, ⟨?_, N10, e10⟩, ⟨_, rfl⟩, hW, hsame.mono (by decide) (by decide)⟩
      rw [show F0 p0 p1 w_READ w_EDIT w_CREATE_PROJECT w_ADMINISTER = (1 : Int32) from by unfold F0; rw [if_neg hc1, if_pos hc11]]
    · refine Rch.st (fun _ hr => XS.icmpYes X10.here hx rfl (pc0 := 45) (pc' := 52) rfl (hb hby at_45) rfl (feq hc11).2 (by decide) (by decide) hr) ?_
      show Rch p.tables e below _ (T10.setTop (mkF m 52 #[.val (.int p0), .val (.int p1), .val (.int (p0 &&& (3 : Int32))), .val (.int (p1 &&& (3 : Int32))), .val (.int (62513 : Int32)), .val (.int (1 : Int32))] []))
      refine Rch.st (fun _ hr => XS.iconst X10.here hx rfl (hb hby at_52) hr) ?_
      show Rch p.tables e below _ (T10.setTop (mkF m 53 #[.val (.int p0), .val (.int p1), .val (.int (p0 &&& (3 : Int32))), .val (.int (p1 &&& (3 : Int32))), .val (.int (62513 : Int32)), .val (.int (1 : Int32))] [(.int (0 : Int32))]))
      obtain ⟨fs, hr, hrun, hended, hW, hsame⟩ := X10.leave (v := some (.int (0 : Int32))) (fun h => by rw [Bd.returns] at h; cases h)
      refine Rch.fin (u := T10.setFrames fs) (retN X10 hx (t := .boolean) Bd.returns (by simp) (hb hby at_53) hr) ⟨_, hrun, hended, _, _, rfl, ⟨?_, N10, e10⟩, ⟨_, rfl⟩, hW, hsame.mono (by decide) (by decide)⟩
      rw [show F0 p0 p1 w_READ w_EDIT w_CREATE_PROJECT w_ADMINISTER = (0 : Int32) from by unfold F0; rw [if_neg hc1, if_neg hc11]]
theorem own_exa {Z : State} {h : Heap} (k : Int32) (READ EDIT CREATE_PROJECT ADMINISTER : Addr) (e_READ : Exa Z h READ "com/example/orrery/orrery/server/Permission") (e_EDIT : Exa Z h EDIT "com/example/orrery/orrery/server/Permission") (e_CREATE_PROJECT : Exa Z h CREATE_PROJECT "com/example/orrery/orrery/server/Permission") (e_ADMINISTER : Exa Z h ADMINISTER "com/example/orrery/orrery/server/Permission") : Exa Z h (F1 k READ EDIT CREATE_PROJECT ADMINISTER) "com/example/orrery/orrery/server/Permission" := by
  unfold F1
  repeat' split
  all_goals assumption
theorem own_four (x : Int32) : (x &&& 3) = 0 ∨ (x &&& 3) = 1 ∨ (x &&& 3) = 2 ∨ (x &&& 3) = 3 := by
  have h1 := c_mask x 3 2 (by decide) (by decide)
  have h3 : x.toInt % (2 ^ 2 : Nat) = 0 ∨ x.toInt % (2 ^ 2 : Nat) = 1 ∨ x.toInt % (2 ^ 2 : Nat) = 2 ∨ x.toInt % (2 ^ 2 : Nat) = 3 := by omega
  rcases h3 with h | h | h | h
  · exact Or.inl (Int32.toInt_inj.mp (by rw [h1, h]; decide))
  · exact Or.inr (Or.inl (Int32.toInt_inj.mp (by rw [h1, h]; decide)))
  · exact Or.inr (Or.inr (Or.inl (Int32.toInt_inj.mp (by rw [h1, h]; decide))))
  · exact Or.inr (Or.inr (Or.inr (Int32.toInt_inj.mp (by rw [h1, h]; decide))))
theorem own_plain (x y : Int32) (READ EDIT CREATE_PROJECT ADMINISTER : Addr) (n0 : READ ≠ EDIT) (m0 : EDIT ≠ READ) (n1 : READ ≠ CREATE_PROJECT) (m1 : CREATE_PROJECT ≠ READ) (n2 : READ ≠ ADMINISTER) (m2 : ADMINISTER ≠ READ) (n3 : EDIT ≠ CREATE_PROJECT) (m3 : CREATE_PROJECT ≠ EDIT) (n4 : EDIT ≠ ADMINISTER) (m4 : ADMINISTER ≠ EDIT) (n5 : CREATE_PROJECT ≠ ADMINISTER) (m5 : ADMINISTER ≠ CREATE_PROJECT) : F0 x y READ EDIT CREATE_PROJECT ADMINISTER = 1 := by
  have hx := own_four x
  have hy := own_four y
  unfold F0
  generalize x &&& 3 = i at *
  generalize y &&& 3 = j at *
  rcases hx with rfl | rfl | rfl | rfl <;> rcases hy with rfl | rfl | rfl | rfl <;> first | (rw [if_pos (by decide)]; simp [F1, F2, n0, m0, n1, m1, n2, m2, n3, m3, n4, m4, n5, m5]; done) | (rw [if_neg (by decide)]; simp [F1, F2, n0, m0, n1, m1, n2, m2, n3, m3, n4, m4, n5, m5]; done)
set_option maxRecDepth 65536 in
set_option maxHeartbeats 40000000 in
theorem comes_1 {Post : Tables → Env → Array Value → State → Outcome → State → Prop} (hpost : ∀ tb e args s v u, (limb_1_1.after args s (.returned v) u = true ∧ limb_1_2.after args s (.returned v) u = true ∧ True) → FrameEnd s (.returned v) u (Jvm.fieldLocs frame_1_writes args s ++ Jvm.arrayLocs frame_1_arrays args s ++ Jvm.staticLocs frame_1_statics s) 0 0 → Post tb e args s (.returned v) u) :
    ArmFor flags0 classFile x code maxLocals ret World_1 tables_1 room_1 Calls_1 rest_1 Pre_1 Post := by
  intro l hfl _ _ p e ha hc hk s m args below hf hA hF happ hP
  obtain ⟨hcalls, hrest, hpre⟩ := hP
  obtain ⟨-, -, -, hnamed, -, -, -, hat⟩ := (Spec.applies_iff hf).mp happ
  obtain ⟨hg, hn⟩ := and_e (Cond.before_iff.mp (show (Jvm.Cond.and given_1 narrow_1).before args s = true from hpre))
  obtain ⟨g1, g2⟩ := and_e hg
  obtain ⟨g3, g4⟩ := and_e g2
  obtain ⟨g5, g6⟩ := and_e hn
  obtain ⟨g7, g8⟩ := and_e g6
  obtain ⟨g9, g10⟩ := and_e g8
  obtain ⟨g11, g12⟩ := and_e g10
  obtain ⟨g13, g14⟩ := and_e g12
  obtain ⟨g15, g16⟩ := and_e g14
  obtain ⟨g17, g18⟩ := and_e g16
  obtain ⟨v0, v1, rfl⟩ : ∃ v0 v1 : Value, args = #[v0, v1] := by
    have hs : args.size = 2 := by simpa [Cond.value, given_1] using g1
    obtain ⟨L⟩ := args
    match L, hs with
    | [v0, v1], _ => exact ⟨v0, v1, rfl⟩
  have hw := fun d (hd : d ∈ tables_1) => atoms_spec (ws := Jvm.Cond.code x code maxLocals ret :: tables_1) hat d (List.mem_cons_of_mem _ hd)
  obtain ⟨i0, ei0⟩ := is_v g3
  obtain rfl : v0 = (.int i0) := Option.some.inj ei0
  obtain ⟨i1, ei1⟩ := is_v g4
  obtain rfl : v1 = (.int i1) := Option.some.inj ei1
  obtain ⟨w_READ, ev_w_READ⟩ := exa_v g5
  have E_w_READ := Exa.start ev_w_READ g5
  have H_w_READ := Sta.start ev_w_READ (Or.inr ⟨(own_w hw 6 rfl), (own_w hw 7 rfl)⟩)
  obtain ⟨w_ADMINISTER, ev_w_ADMINISTER⟩ := exa_v g7
  have E_w_ADMINISTER := Exa.start ev_w_ADMINISTER g7
  have H_w_ADMINISTER := Sta.start ev_w_ADMINISTER (Or.inr ⟨(own_w hw 6 rfl), (own_w hw 9 rfl)⟩)
  obtain ⟨w_EDIT, ev_w_EDIT⟩ := exa_v g13
  have E_w_EDIT := Exa.start ev_w_EDIT g13
  have H_w_EDIT := Sta.start ev_w_EDIT (Or.inr ⟨(own_w hw 6 rfl), (own_w hw 17 rfl)⟩)
  obtain ⟨w_CREATE_PROJECT, ev_w_CREATE_PROJECT⟩ := exa_v g17
  have E_w_CREATE_PROJECT := Exa.start ev_w_CREATE_PROJECT g17
  have H_w_CREATE_PROJECT := Sta.start ev_w_CREATE_PROJECT (Or.inr ⟨(own_w hw 6 rfl), (own_w hw 19 rfl)⟩)
  have U_ordinal_w_READ : Fld s s.heap w_READ "java/lang/Enum" "ordinal" "I" (.int (0 : Int32)) := Fld.start ((fld_at ev_w_READ).symm.trans (own_eqInt g9))
  have U_ordinal_w_ADMINISTER : Fld s s.heap w_ADMINISTER "java/lang/Enum" "ordinal" "I" (.int (3 : Int32)) := Fld.start ((fld_at ev_w_ADMINISTER).symm.trans (own_eqInt g11))
  have U_ordinal_w_EDIT : Fld s s.heap w_EDIT "java/lang/Enum" "ordinal" "I" (.int (1 : Int32)) := Fld.start ((fld_at ev_w_EDIT).symm.trans (own_eqInt g15))
  have U_ordinal_w_CREATE_PROJECT : Fld s s.heap w_CREATE_PROJECT "java/lang/Enum" "ordinal" "I" (.int (2 : Int32)) := Fld.start ((fld_at ev_w_CREATE_PROJECT).symm.trans (own_eqInt g18))
  have n_w_READ_w_EDIT : w_READ ≠ w_EDIT := Fld.ne U_ordinal_w_READ U_ordinal_w_EDIT (fun q => absurd (Value.int.inj q) (by decide))
  have n_w_READ_w_CREATE_PROJECT : w_READ ≠ w_CREATE_PROJECT := Fld.ne U_ordinal_w_READ U_ordinal_w_CREATE_PROJECT (fun q => absurd (Value.int.inj q) (by decide))
  have n_w_READ_w_ADMINISTER : w_READ ≠ w_ADMINISTER := Fld.ne U_ordinal_w_READ U_ordinal_w_ADMINISTER (fun q => absurd (Value.int.inj q) (by decide))
  have n_w_EDIT_w_CREATE_PROJECT : w_EDIT ≠ w_CREATE_PROJECT := Fld.ne U_ordinal_w_EDIT U_ordinal_w_CREATE_PROJECT (fun q => absurd (Value.int.inj q) (by decide))
  have n_w_EDIT_w_ADMINISTER : w_EDIT ≠ w_ADMINISTER := Fld.ne U_ordinal_w_EDIT U_ordinal_w_ADMINISTER (fun q => absurd (Value.int.inj q) (by decide))
  have n_w_CREATE_PROJECT_w_ADMINISTER : w_CREATE_PROJECT ≠ w_ADMINISTER := Fld.ne U_ordinal_w_CREATE_PROJECT U_ordinal_w_ADMINISTER (fun q => absurd (Value.int.inj q) (by decide))
  have hF1 : F0 i0 i1 w_READ w_EDIT w_CREATE_PROJECT w_ADMINISTER = 1 := own_plain _ _ _ _ _ _ n_w_READ_w_EDIT n_w_READ_w_EDIT.symm n_w_READ_w_CREATE_PROJECT n_w_READ_w_CREATE_PROJECT.symm n_w_READ_w_ADMINISTER n_w_READ_w_ADMINISTER.symm n_w_EDIT_w_CREATE_PROJECT n_w_EDIT_w_CREATE_PROJECT.symm n_w_EDIT_w_ADMINISTER n_w_EDIT_w_ADMINISTER.symm n_w_CREATE_PROJECT_w_ADMINISTER n_w_CREATE_PROJECT_w_ADMINISTER.symm
  have E_x0 := own_exa (i0 &&& 3) w_READ w_EDIT w_CREATE_PROJECT w_ADMINISTER E_w_READ E_w_EDIT E_w_CREATE_PROJECT E_w_ADMINISTER
  obtain ⟨n, o, h1, h2, h3, _, L, rfl, ⟨rfl, N, -⟩, hq⟩ := b0 l s _ hw tables_1 i0 i1 w_READ w_EDIT w_CREATE_PROJECT w_ADMINISTER s.heap s.heap.size H_w_READ H_w_EDIT H_w_CREATE_PROJECT H_w_ADMINISTER E_x0 p e ha hc hk s m _ below hf ((Spec.applies_iff_loose hf).mp happ).1 ⟨rfl, State.Warmed39.refl s, rfl⟩ trivial
  refine ⟨n, _, h1, h2, h3, hpost _ _ _ _ _ _ ⟨Cond.after_iff.mpr rfl, Cond.after_iff.mpr (eq_i res_at (Term.int_eval (1)) (congrArg Value.int hF1)), trivial⟩ ⟨hq.1, hq.2.1, (hq.2.2.sift fun y hy => Or.inr (N y hy)).mono (by decide) (by decide)⟩⟩
theorem main_1_1 : Claimed_1_1 := comes_1 fun _ _ _ _ _ _ h hF => ⟨h.1, hF⟩
theorem main_1_2 : Claimed_1_2 := comes_1 fun _ _ _ _ _ _ h hF => ⟨h.2.1, hF⟩
end Jvm.Pilot.@@N@@
namespace Jvm.Pilot.@@N@@
open Jvm Jvm.ClassFile Sem Op Lib Jvm.Free Jvm.Stand Jvm.Pilot.@@N@@.Jvm.D
/-! MADE BY PROGRAM (witnessworld.py) out of the Statement's table words and the real class files: 10 classes; the members and pool entries that the words name. The judged class is class 1, her method 2. -/
namespace start1
open Jvm.ClassFile
def u (s : String) : CpInfo := .utf8 (stringToUtf16 s)
/-- a pool by its gaps: so many unusable entries, then the entry; so many at the end -/
def gap : Nat → List CpInfo → List CpInfo
  | 0, r => r
  | n + 1, r => .unusable :: gap n r
def poolList (es : List (Nat × CpInfo)) (last : Nat) : List CpInfo := es.foldr (fun e r => gap e.1 (e.2 :: r)) (gap last [])
def pool (es : List (Nat × CpInfo)) (last : Nat) : Array CpInfo := ⟨poolList es last⟩
def fileOf (pool : Array CpInfo) (this : Nat) (attrs : Array Attribute := #[]) (ms : Array MethodInfo := #[]) (fl : Nat := 33) (sup : Nat := 0) (ifs : Array Nat := #[]) (fds : Array FieldInfo := #[]) : ClassFile where
  minorVersion := 0
  majorVersion := 65
  constantPool := pool
  accessFlags := fl
  thisClass := this
  superClass := sup
  interfaces := ifs
  fields := fds
  methods := ms
  attributes := attrs
def plain (name : String) (sup : Option ClassId) : Class where
  name := name
  kind := .ordinary
  loader := none
  accessFlags := 33
  super := sup
  interfaces := #[]
  cf := none
  fields := #[]
  methods := #[]
  instanceTypes := #[]
  staticTypes := #[]
  resolved := #[]
  callSites := []
  init := .initialized
  statics := none
  mirror := none

def pool0 : Array CpInfo := pool [(5, u "<init>"), (0, u "()V"), (1, .class_ 10), (1, u "java/lang/Object")] 113

def k0m0 : Method := { name := "<init>", desc := "()V", sig := { parameters := [], returnType := none }, accessFlags := 1, code := none }
/-- java/lang/Object -/
def k0 : Class := { plain "java/lang/Object" none with
  accessFlags := 33
  interfaces := #[]
  cf := some (fileOf pool0 8 #[] #[{ accessFlags := 1, nameIndex := 5, descriptorIndex := 6, attributes := #[] }] 33 0 #[] #[])
  fields := #[]
  methods := #[k0m0]
  instanceTypes := #[]
  staticTypes := #[]
  resolved := Array.replicate 124 none
  statics := none }

def pool1 : Array CpInfo := pool [(2, .class_ 4), (1, u "java/lang/Object"), (0, u "<init>"), (0, u "()V"), (0, .fieldref 8 9), (0, .class_ 10), (0, .nameAndType 11 12), (0, u "com/example/orrery/orrery/server/Permission"), (0, u "READ"), (0, u "Lcom/example/orrery/orrery/server/Permission;"), (0, .fieldref 8 14), (0, .nameAndType 15 12), (0, u "EDIT"), (0, .fieldref 8 17), (0, .nameAndType 18 12), (0, u "CREATE_PROJECT"), (0, .fieldref 8 20), (0, .nameAndType 21 12), (0, u "ADMINISTER"), (0, .integer 62513), (0, .methodref 24 25), (0, .class_ 26), (0, .nameAndType 27 28), (0, u "com/example/orrery/orrery/server/PermissionIncludesPinLaw"), (0, u "pick"), (0, u "(I)Lcom/example/orrery/orrery/server/Permission;"), (0, .methodref 8 30), (0, .nameAndType 31 32), (0, u "includes"), (0, u "(Lcom/example/orrery/orrery/server/Permission;)Z"), (3, u "law"), (0, u "(II)Z")] 2

def k1m0 : Method := { name := "<init>", desc := "()V", sig := { parameters := [], returnType := none }, accessFlags := 1, code := none }
def k1c1 : Code := { maxStack := 2, maxLocals := 1, code := method_2_code, exceptionTable := #[], attributes := #[] }
def k1m1 : Method := { name := "pick", desc := "(I)Lcom/example/orrery/orrery/server/Permission;", sig := { parameters := [.int], returnType := some (.object "com/example/orrery/orrery/server/Permission") }, accessFlags := 10, code := some k1c1 }
def k1c2 : Code := { maxStack := 3, maxLocals := 6, code := code, exceptionTable := #[], attributes := #[] }
def k1m2 : Method := { name := "law", desc := "(II)Z", sig := { parameters := [.int, .int], returnType := some .boolean }, accessFlags := 9, code := some k1c2 }
/-- com/example/orrery/orrery/server/PermissionIncludesPinLaw -/
def k1 : Class := { plain "com/example/orrery/orrery/server/PermissionIncludesPinLaw" (some 0) with
  accessFlags := 49
  interfaces := #[]
  cf := some (fileOf pool1 24 #[] #[{ accessFlags := 1, nameIndex := 5, descriptorIndex := 6, attributes := #[] }, { accessFlags := 10, nameIndex := 27, descriptorIndex := 28, attributes := #[] }, { accessFlags := 9, nameIndex := 36, descriptorIndex := 37, attributes := #[] }] 49 2 #[] #[])
  fields := #[]
  methods := #[k1m0, k1m1, k1m2]
  instanceTypes := #[]
  staticTypes := #[]
  resolved := Array.replicate 40 none
  statics := none }

def pool2 : Array CpInfo := pool [(1, .class_ 2), (0, u "java/lang/constant/Constable"), (0, .class_ 4), (0, u "java/lang/Object")] 6

/-- java/lang/constant/Constable -/
def k2 : Class := { plain "java/lang/constant/Constable" (some 0) with
  accessFlags := 1537
  interfaces := #[]
  cf := some (fileOf pool2 1 #[] #[] 1537 3 #[] #[])
  fields := #[]
  methods := #[]
  instanceTypes := #[]
  staticTypes := #[]
  resolved := Array.replicate 11 none
  statics := none }

def pool3 : Array CpInfo := pool [(1, .class_ 2), (0, u "java/lang/Comparable"), (0, .class_ 4), (0, u "java/lang/Object")] 7

/-- java/lang/Comparable -/
def k3 : Class := { plain "java/lang/Comparable" (some 0) with
  accessFlags := 1537
  interfaces := #[]
  cf := some (fileOf pool3 1 #[] #[] 1537 3 #[] #[])
  fields := #[]
  methods := #[]
  instanceTypes := #[]
  staticTypes := #[]
  resolved := Array.replicate 12 none
  statics := none }

def pool4 : Array CpInfo := pool [(1, .class_ 2), (0, u "java/io/Serializable"), (0, .class_ 4), (0, u "java/lang/Object")] 2

/-- java/io/Serializable -/
def k4 : Class := { plain "java/io/Serializable" (some 0) with
  accessFlags := 1537
  interfaces := #[]
  cf := some (fileOf pool4 1 #[] #[] 1537 3 #[] #[])
  fields := #[]
  methods := #[]
  instanceTypes := #[]
  staticTypes := #[]
  resolved := Array.replicate 7 none
  statics := none }

def pool5 : Array CpInfo := pool [(2, .class_ 4), (1, u "java/lang/Enum"), (0, u "name"), (0, u "Ljava/lang/String;"), (2, u "ordinal"), (0, u "I"), (1, .class_ 14), (1, u "java/lang/Object"), (4, u "hash"), (86, .class_ 108), (1, u "java/lang/Enum$EnumDesc"), (2, .class_ 112), (0, u "java/lang/constant/Constable"), (0, .class_ 114), (0, u "java/lang/Comparable"), (0, .class_ 116), (0, u "java/io/Serializable")] 87

/-- java/lang/Enum -/
def k5 : Class := { plain "java/lang/Enum" (some 0) with
  accessFlags := 1057
  interfaces := #[2, 3, 4]
  cf := some (fileOf pool5 2 #[.nestMembers #[106]] #[] 1057 12 #[111, 113, 115] #[{ accessFlags := 18, nameIndex := 5, descriptorIndex := 6, attributes := #[] }, { accessFlags := 18, nameIndex := 9, descriptorIndex := 10, attributes := #[] }, { accessFlags := 2, nameIndex := 19, descriptorIndex := 10, attributes := #[] }])
  fields := #[{ name := "name", type := (.object "java/lang/String"), accessFlags := 18, slot := 0, constantValue := 0 }, { name := "ordinal", type := .int, accessFlags := 18, slot := 1, constantValue := 0 }, { name := "hash", type := .int, accessFlags := 2, slot := 2, constantValue := 0 }]
  methods := #[]
  instanceTypes := #[(.object "java/lang/String"), .int, .int]
  staticTypes := #[]
  resolved := Array.replicate 204 none
  statics := none }

def pool6 : Array CpInfo := pool [(1, .class_ 2), (0, u "com/example/orrery/orrery/server/Permission"), (0, .fieldref 1 4), (0, .nameAndType 5 6), (0, u "READ"), (0, u "Lcom/example/orrery/orrery/server/Permission;"), (0, .fieldref 1 8), (0, .nameAndType 9 6), (0, u "EDIT"), (2, u "CREATE_PROJECT"), (0, .fieldref 1 14), (0, .nameAndType 15 6), (0, u "ADMINISTER"), (2, u "$VALUES"), (0, u "[Lcom/example/orrery/orrery/server/Permission;"), (6, .class_ 28), (1, u "java/lang/Enum"), (8, u "word"), (0, u "Ljava/lang/String;"), (2, u "onProject"), (0, u "Z"), (70, u "includes"), (0, u "(Lcom/example/orrery/orrery/server/Permission;)Z")] 5

def k6c0 : Code := { maxStack := 2, maxLocals := 2, code := prog_23_method_8_code, exceptionTable := #[], attributes := #[] }
def k6m0 : Method := { name := "includes", desc := "(Lcom/example/orrery/orrery/server/Permission;)Z", sig := { parameters := [(.object "com/example/orrery/orrery/server/Permission")], returnType := some .boolean }, accessFlags := 0, code := some k6c0 }
/-- com/example/orrery/orrery/server/Permission -/
def k6 : Class := { plain "com/example/orrery/orrery/server/Permission" (some 5) with
  accessFlags := 16432
  interfaces := #[]
  cf := some (fileOf pool6 1 #[] #[{ accessFlags := 0, nameIndex := 113, descriptorIndex := 114, attributes := #[] }] 16432 26 #[] #[{ accessFlags := 16409, nameIndex := 5, descriptorIndex := 6, attributes := #[] }, { accessFlags := 16409, nameIndex := 9, descriptorIndex := 6, attributes := #[] }, { accessFlags := 16409, nameIndex := 12, descriptorIndex := 6, attributes := #[] }, { accessFlags := 16409, nameIndex := 15, descriptorIndex := 6, attributes := #[] }, { accessFlags := 18, nameIndex := 37, descriptorIndex := 38, attributes := #[] }, { accessFlags := 18, nameIndex := 41, descriptorIndex := 42, attributes := #[] }, { accessFlags := 4122, nameIndex := 18, descriptorIndex := 19, attributes := #[] }])
  fields := #[{ name := "READ", type := (.object "com/example/orrery/orrery/server/Permission"), accessFlags := 16409, slot := 0, constantValue := 0 }, { name := "EDIT", type := (.object "com/example/orrery/orrery/server/Permission"), accessFlags := 16409, slot := 1, constantValue := 0 }, { name := "CREATE_PROJECT", type := (.object "com/example/orrery/orrery/server/Permission"), accessFlags := 16409, slot := 2, constantValue := 0 }, { name := "ADMINISTER", type := (.object "com/example/orrery/orrery/server/Permission"), accessFlags := 16409, slot := 3, constantValue := 0 }, { name := "word", type := (.object "java/lang/String"), accessFlags := 18, slot := 3, constantValue := 0 }, { name := "onProject", type := .boolean, accessFlags := 18, slot := 4, constantValue := 0 }, { name := "$VALUES", type := (.array (.object "com/example/orrery/orrery/server/Permission")), accessFlags := 4122, slot := 4, constantValue := 0 }]
  methods := #[k6m0]
  instanceTypes := #[(.object "java/lang/String"), .int, .int, (.object "java/lang/String"), .boolean]
  staticTypes := #[(.object "com/example/orrery/orrery/server/Permission"), (.object "com/example/orrery/orrery/server/Permission"), (.object "com/example/orrery/orrery/server/Permission"), (.object "com/example/orrery/orrery/server/Permission"), (.array (.object "com/example/orrery/orrery/server/Permission"))]
  resolved := Array.replicate 120 none
  statics := some 0 }

def pool7 : Array CpInfo := pool [(1, u "java/lang/Cloneable"), (0, .class_ 1), (0, u "java/lang/Object"), (0, .class_ 3)] 3

/-- java/lang/Cloneable -/
def k7 : Class := { plain "java/lang/Cloneable" (some 0) with
  accessFlags := 1537
  interfaces := #[]
  cf := some (fileOf pool7 2 #[] #[] 1537 4 #[] #[])
  fields := #[]
  methods := #[]
  instanceTypes := #[]
  staticTypes := #[]
  resolved := Array.replicate 8 none
  statics := none }

/-- the primitive byte -/
def k8 : Class := { plain "byte" none with kind := .primitive 'B', accessFlags := 0x411 }
/-- [B -/
def k9 : Class := { plain "[B" (some 0) with kind := .array 8 .byte, interfaces := #[7, 4], accessFlags := 1041 }

def heap : Heap := #[{ cls := 6, slots := #[.ref 1, .ref 3, .ref 4, .ref 2, .null], vm := .statics 6 },
  { cls := 6, slots := #[.null, .int 0, .int 0, .null, .int 0], vm := .none },
  { cls := 6, slots := #[.null, .int 3, .int 0, .null, .int 0], vm := .none },
  { cls := 6, slots := #[.null, .int 1, .int 0, .null, .int 0], vm := .none },
  { cls := 6, slots := #[.null, .int 2, .int 0, .null, .int 0], vm := .none }]
def classes : Array Class := #[k0, k1, k2, k3, k4, k5, k6, k7, k8, k9]
def interned : List (Array UInt16 × Addr) := []
def slotsUsed : Nat := 25
def theMethod : MethodId := ⟨1, 2⟩
def args0 : Array Value := #[.int 5, .int 25]
def aboutOver (below : List Frame) : State where
  vm := { classes := classes, interned := interned.toArray }
  heap := heap
  slotsUsed := slotsUsed
  threads := #[{ frames := .invoking theMethod args0 :: below }]
def below0 : List Frame := [.native { method := ⟨0, 0⟩, args := #[] }]
def about1 : State := aboutOver below0
def p0 : Program := .bare "" "" ""
def e0 : Env := launch0.env 0 0 0
theorem w_frames : about1.frames = Frame.invoking theMethod args0 :: below0 := rfl
set_option maxRecDepth 65536 in
theorem w_args : argsFit about1.vm theMethod args0 = true := by decide +kernel
set_option maxRecDepth 65536 in
theorem w_heap : heapFits about1 = true := by decide +kernel
set_option maxRecDepth 65536 in
theorem w_runnable : about1.curStatus? = some .runnable := by decide +kernel
set_option maxRecDepth 65536 in
theorem w_alone : about1.alone = true := by decide +kernel
set_option maxRecDepth 65536 in
theorem w_named : about1.methodNamed? x = some theMethod := by decide +kernel
set_option maxRecDepth 65536 in
theorem w_hears : about1.hears theMethod below0 = true := by decide +kernel
set_option maxRecDepth 65536 in
theorem w_ripe : about1.ripe theMethod args0 below0 = true := by decide +kernel
theorem w_running : about1.status = .running := rfl
set_option maxRecDepth 65536 in
theorem w_room : about1.hasRoom e0.platform room_1 = true :=
  launch0.hasRoom_least _ room_1 (by decide +kernel) (by decide +kernel) (by decide +kernel) (by decide +kernel) (by decide +kernel) (by decide +kernel)
theorem allAtoms_all (ts : List Jvm.Cond) (a : Array Jvm.Value) (st : Jvm.State) : (allAtoms ts).before a st = ts.all (fun c => c.before a st) := by
  induction ts with
  | nil => rfl
  | cons c t ih =>
    show (Jvm.Cond.and c (allAtoms t)).before a st = _
    rw [Jvm.Cond.before_and, ih, List.all_cons]
def words1 : List Jvm.Cond := Jvm.Cond.code x code maxLocals ret :: tables_1
/-- a 'code' word, met by the world's own term for the bytes: nothing is compared byte by byte -/
theorem code_word {y : MethodName} {bytes : ByteArray} {mx : Nat} {rt : Option FieldType} {a : Array Value} {s : State} {m : MethodId} {meth : Method} {c : Code} (h1 : s.methodNamed? y = some m) (h2 : s.vm.method? m = some meth) (h3 : meth.code = some c) (h4 : c.code = bytes)
    (h5 : (c.maxLocals == mx && c.exceptionTable.isEmpty && decide (c.maxStack ≤ mostOperands) && decide (meth.sig.returnType = rt) && !meth.locks && decide (parseMethodDescriptor y.desc = some meth.sig)) = true) : (Jvm.Cond.code y bytes mx rt).before a s = true := by
  simp only [Bool.and_eq_true, beq_iff_eq, Bool.not_eq_true', decide_eq_true_eq] at h5
  obtain ⟨⟨⟨⟨⟨g1, g2⟩, g3⟩, g4⟩, g5⟩, g6⟩ := h5
  simp [Cond.before, Cond.holds, Cond.value, h1, h2, h3, h4, g1, g2, g3, g4, g5, g6]
def isCode : Jvm.Cond → Bool
  | .code _ _ _ _ => true
  | _ => false
theorem all_split {L : List Jvm.Cond} {P : Jvm.Cond → Bool} (h1 : L.all (fun c => isCode c || P c) = true) (h2 : ∀ c ∈ L.filter isCode, P c = true) : L.all P = true := by
  refine List.all_eq_true.mpr fun c hc => ?_
  have h := List.all_eq_true.mp h1 c hc
  rcases Bool.eq_false_or_eq_true (isCode c) with hi | hi
  · exact h2 c (List.mem_filter.mpr ⟨hc, hi⟩)
  · simpa [hi] using h
set_option maxRecDepth 65536 in
theorem w_c0 : (Jvm.Cond.code x code maxLocals ret).before args0 about1 = true := code_word (m := ⟨1, 2⟩) (meth := k1m2) (c := k1c2) (by decide +kernel) rfl rfl rfl (by decide +kernel)
set_option maxRecDepth 65536 in
theorem w_c1 : (Jvm.Cond.code ({ cls := "com/example/orrery/orrery/server/PermissionIncludesPinLaw", name := "pick", desc := "(I)Lcom/example/orrery/orrery/server/Permission;" } : Jvm.MethodName) method_2_code (1 : Nat) (Option.some (Jvm.ClassFile.FieldType.object "com/example/orrery/orrery/server/Permission"))).before args0 about1 = true := code_word (m := ⟨1, 1⟩) (meth := k1m1) (c := k1c1) (by decide +kernel) rfl rfl rfl (by decide +kernel)
set_option maxRecDepth 65536 in
theorem w_c2 : (Jvm.Cond.code ({ cls := "com/example/orrery/orrery/server/Permission", name := "includes", desc := "(Lcom/example/orrery/orrery/server/Permission;)Z" } : Jvm.MethodName) prog_23_method_8_code (2 : Nat) (Option.some Jvm.ClassFile.FieldType.boolean)).before args0 about1 = true := code_word (m := ⟨6, 0⟩) (meth := k6m0) (c := k6c0) (by decide +kernel) rfl rfl rfl (by decide +kernel)
def codes1 : List Jvm.Cond := [Jvm.Cond.code x code maxLocals ret, Jvm.Cond.code ({ cls := "com/example/orrery/orrery/server/PermissionIncludesPinLaw", name := "pick", desc := "(I)Lcom/example/orrery/orrery/server/Permission;" } : Jvm.MethodName) method_2_code (1 : Nat) (Option.some (Jvm.ClassFile.FieldType.object "com/example/orrery/orrery/server/Permission")), Jvm.Cond.code ({ cls := "com/example/orrery/orrery/server/Permission", name := "includes", desc := "(Lcom/example/orrery/orrery/server/Permission;)Z" } : Jvm.MethodName) prog_23_method_8_code (2 : Nat) (Option.some Jvm.ClassFile.FieldType.boolean)]
set_option maxRecDepth 65536 in
theorem codes_eq : words1.filter isCode = codes1 := rfl
theorem w_codes : ∀ c ∈ words1.filter isCode, c.before args0 about1 = true := by
  rw [codes_eq]
  intro c hc
  simp only [codes1, List.mem_cons, List.not_mem_nil, or_false] at hc
  rcases hc with rfl | rfl | rfl
  · exact w_c0
  · exact w_c1
  · exact w_c2
set_option maxRecDepth 65536 in
theorem w_t1 : words1.all (fun c => isCode c || c.before args0 about1) = true := by decide +kernel
theorem w_tables : (allAtoms (Jvm.Cond.code x code maxLocals ret :: tables_1)).before args0 about1 = true := by
  rw [allAtoms_all]
  show words1.all (fun c => c.before args0 about1) = true
  refine all_split ?_ w_codes
  rw [w_t1]
set_option maxRecDepth 65536 in
theorem w_case : (Jvm.Cond.and given_1 narrow_1).before args0 about1 = true := by decide +kernel
theorem w_applies : (headSpec (Jvm.Cond.code x code maxLocals ret :: tables_1) room_1).applies x e0.platform about1 = true :=
  (Spec.applies_iff w_frames).mpr ⟨w_running, w_runnable, w_alone, w_named, w_hears, w_ripe, w_room, w_tables⟩
theorem atStart : AtStart classFile x code maxLocals ret World_1 tables_1 room_1 Calls_1 rest_1 Pre_1 launch0 p0 e0 about1 theMethod args0 below0 :=
  ⟨lists_1, trivial, launch0.admits_env _ _ _, launch0.least_env, fairChoices_fair.cas, fairChoices_fair.clock, w_frames, w_args, w_heap, w_applies, trivial, trivial, w_case⟩
end start1
theorem witness_1 : WitnessClaimed_1 := ⟨start1.p0, start1.e0, start1.about1, start1.theMethod, start1.args0, start1.below0, start1.atStart⟩
end Jvm.Pilot.@@N@@
