import JvmDerived
import JvmDerived.Pilot.@@N@@Statement
import JvmDerived.Pilot.@@N@@Code
set_option linter.unusedVariables false
set_option linter.unusedSimpArgs false
namespace Jvm.Pilot.@@N@@
open Jvm Jvm.ClassFile Sem Op Lib Jvm.Free Jvm.Stand Jvm.LawKit Jvm.RoadKit Bundle Jvm.Pilot.@@N@@.Jvm.D
theorem own_w {ws : List Jvm.Cond} {a0 : Array Value} {Z : State} (hw : ∀ d ∈ ws, d.before a0 Z = true) (i : Nat) {d : Jvm.Cond} (h : ws[i]? = some d) : d.before a0 Z = true := hw _ (List.mem_of_getElem? h)
/-- the run comes to a state of which P holds -/
def Rch (tb : Tables) (e : Env) (below : List Frame) (P : State → Prop) (t : State) : Prop := ∃ u, Steps tb e below t u ∧ P u
theorem Rch.st {tb : Tables} {e : Env} {below : List Frame} {P : State → Prop} {t t' : State} (h : ∀ target, Steps tb e below t' target → Steps tb e below t target) (k : Rch tb e below P t') : Rch tb e below P t := by
  obtain ⟨u, h1, h2⟩ := k
  exact ⟨u, h u h1, h2⟩
theorem Rch.tr {tb : Tables} {e : Env} {below : List Frame} {P : State → Prop} {t t' : State} (h : Steps tb e below t t') (k : Rch tb e below P t') : Rch tb e below P t := by
  obtain ⟨u, h1, h2⟩ := k
  exact ⟨u, h.trans h1, h2⟩
theorem Rch.fin {tb : Tables} {e : Env} {below : List Frame} {P : State → Prop} {t u : State} (h : Steps tb e below t u) (k : P u) : Rch tb e below P t := ⟨u, h, k⟩
theorem Rch.out {tb : Tables} {e : Env} {below : List Frame} {P : State → Outcome → Prop} {t : State} (h : Rch tb e below (fun u => ∃ o, P u o) t) : ∃ u o, Steps tb e below t u ∧ P u o := by
  obtain ⟨u, h1, o, h2⟩ := h
  exact ⟨u, o, h1, h2⟩
theorem own_eqInt {t : Term} {n : Int32} {args : Array Value} {s : State} (h : (Cond.eq t (.int n)).value args s none s [] = some true) : t.eval args s none [] s = some (.int n) := by
  have hn : (Term.int n).eval args s none [] s = some (.int n) := rfl
  cases hv : t.eval args s none [] s with
  | none => simp [Cond.value, hv] at h
  | some x => cases x <;> simp [Cond.value, hv, hn] at h ⊢; exact h
theorem own_retI {p : Program} {l : Launch} {e : Env} {R : Room} {s : State} {m : MethodId} {args : Array Value} {below : List Frame} {meth : Method} {c : Code} {T : State} {locs : List Loc} {cells slots : Nat} (X : Stand p l e R s m args below meth c T locs cells slots) (hx : p.tables.exec = Jvm.exec) {pc : Nat} {Ls : Array Slot} {z : Int32} {rest : List Value} (hret : meth.sig.returnType = some .int) (hd : decode c.code pc = .ok (.ireturn, 1)) {fs : List Frame}
    (hl : ∀ (f : JFrame) (acts : List Action), f.method = m → f.locked = none → f.entered = [] → (doReturn e (T.setTop f) acts (some (.int z))).1 = T.setFrames fs) : Steps p.tables e below (T.setTop (mkF m pc Ls (.int z :: rest))) (T.setFrames fs) :=
  retOut X hx hret rfl (Or.inl ⟨rfl, Or.inl rfl, z, rfl⟩) hd hl
theorem own_retA {p : Program} {l : Launch} {e : Env} {R : Room} {s : State} {m : MethodId} {args : Array Value} {below : List Frame} {meth : Method} {c : Code} {T : State} {locs : List Loc} {cells slots : Nat} (X : Stand p l e R s m args below meth c T locs cells slots) (hx : p.tables.exec = Jvm.exec) {pc : Nat} {Ls : Array Slot} {w : Value} {t : FieldType} {rest : List Value} (hret : meth.sig.returnType = some t) (hn : narrow t w = w) (ht : t.isReference = true) (hw : w.isRef = true) (hd : decode c.code pc = .ok (.areturn, 1)) {fs : List Frame}
    (hl : ∀ (f : JFrame) (acts : List Action), f.method = m → f.locked = none → f.entered = [] → (doReturn e (T.setTop f) acts (some w)).1 = T.setFrames fs) : Steps p.tables e below (T.setTop (mkF m pc Ls (w :: rest))) (T.setFrames fs) :=
  retOut X hx hret hn (Or.inr (Or.inr (Or.inr (Or.inr ⟨rfl, ht, hw⟩)))) hd hl
theorem own_retJ {p : Program} {l : Launch} {e : Env} {R : Room} {s : State} {m : MethodId} {args : Array Value} {below : List Frame} {meth : Method} {c : Code} {T : State} {locs : List Loc} {cells slots : Nat} (X : Stand p l e R s m args below meth c T locs cells slots) (hx : p.tables.exec = Jvm.exec) {pc : Nat} {Ls : Array Slot} {z : Int64} {rest : List Value} (hret : meth.sig.returnType = some .long) (hd : decode c.code pc = .ok (.lreturn, 1)) {fs : List Frame}
    (hl : ∀ (f : JFrame) (acts : List Action), f.method = m → f.locked = none → f.entered = [] → (doReturn e (T.setTop f) acts (some (.long z))).1 = T.setFrames fs) : Steps p.tables e below (T.setTop (mkF m pc Ls (.long z :: rest))) (T.setFrames fs) :=
  retOut X hx hret rfl (Or.inr (Or.inl ⟨rfl, rfl, z, rfl⟩)) hd hl
theorem own_retD {p : Program} {l : Launch} {e : Env} {R : Room} {s : State} {m : MethodId} {args : Array Value} {below : List Frame} {meth : Method} {c : Code} {T : State} {locs : List Loc} {cells slots : Nat} (X : Stand p l e R s m args below meth c T locs cells slots) (hx : p.tables.exec = Jvm.exec) {pc : Nat} {Ls : Array Slot} {z : UInt64} {rest : List Value} (hret : meth.sig.returnType = some .double) (hd : decode c.code pc = .ok (.dreturn, 1)) {fs : List Frame}
    (hl : ∀ (f : JFrame) (acts : List Action), f.method = m → f.locked = none → f.entered = [] → (doReturn e (T.setTop f) acts (some (.double z))).1 = T.setFrames fs) : Steps p.tables e below (T.setTop (mkF m pc Ls (.double z :: rest))) (T.setFrames fs) :=
  retOut X hx hret rfl (Or.inr (Or.inr (Or.inl ⟨rfl, rfl, z, rfl⟩))) hd hl

theorem d1_0 : decode method_2_code 0 = .ok (.iload_n 0, 1) := by decide +kernel
theorem d1_1 : decode method_2_code 1 = .ok (.ifCond .ne 7, 3) := by decide +kernel
theorem d1_4 : decode method_2_code 4 = .ok (.getstatic 7, 3) := by decide +kernel
theorem d1_7 : decode method_2_code 7 = .ok (.areturn, 1) := by decide +kernel
theorem d1_8 : decode method_2_code 8 = .ok (.iload_n 0, 1) := by decide +kernel
theorem d1_9 : decode method_2_code 9 = .ok (.iconst 1, 1) := by decide +kernel
theorem d1_10 : decode method_2_code 10 = .ok (.if_icmp .ne 7, 3) := by decide +kernel
theorem d1_13 : decode method_2_code 13 = .ok (.getstatic 13, 3) := by decide +kernel
theorem d1_16 : decode method_2_code 16 = .ok (.areturn, 1) := by decide +kernel
theorem d1_17 : decode method_2_code 17 = .ok (.iload_n 0, 1) := by decide +kernel
theorem d1_18 : decode method_2_code 18 = .ok (.iconst 2, 1) := by decide +kernel
theorem d1_19 : decode method_2_code 19 = .ok (.if_icmp .ne 7, 3) := by decide +kernel
theorem d1_22 : decode method_2_code 22 = .ok (.getstatic 16, 3) := by decide +kernel
theorem d1_25 : decode method_2_code 25 = .ok (.areturn, 1) := by decide +kernel
theorem d1_26 : decode method_2_code 26 = .ok (.iload_n 0, 1) := by decide +kernel
theorem d1_27 : decode method_2_code 27 = .ok (.iconst 3, 1) := by decide +kernel
theorem d1_28 : decode method_2_code 28 = .ok (.if_icmp .ne 7, 3) := by decide +kernel
theorem d1_31 : decode method_2_code 31 = .ok (.getstatic 19, 3) := by decide +kernel
theorem d1_34 : decode method_2_code 34 = .ok (.areturn, 1) := by decide +kernel
theorem d1_35 : decode method_2_code 35 = .ok (.iload_n 0, 1) := by decide +kernel
theorem d1_36 : decode method_2_code 36 = .ok (.iconst 4, 1) := by decide +kernel
theorem d1_37 : decode method_2_code 37 = .ok (.if_icmp .ne 7, 3) := by decide +kernel
theorem d1_40 : decode method_2_code 40 = .ok (.getstatic 22, 3) := by decide +kernel
theorem d1_43 : decode method_2_code 43 = .ok (.areturn, 1) := by decide +kernel
theorem d1_44 : decode method_2_code 44 = .ok (.iload_n 0, 1) := by decide +kernel
theorem d1_45 : decode method_2_code 45 = .ok (.iconst 5, 1) := by decide +kernel
theorem d1_46 : decode method_2_code 46 = .ok (.if_icmp .ne 7, 3) := by decide +kernel
theorem d1_49 : decode method_2_code 49 = .ok (.getstatic 25, 3) := by decide +kernel
theorem d1_52 : decode method_2_code 52 = .ok (.areturn, 1) := by decide +kernel
theorem d1_53 : decode method_2_code 53 = .ok (.iload_n 0, 1) := by decide +kernel
theorem d1_54 : decode method_2_code 54 = .ok (.bipush 6, 2) := by decide +kernel
theorem d1_56 : decode method_2_code 56 = .ok (.if_icmp .ne 7, 3) := by decide +kernel
theorem d1_59 : decode method_2_code 59 = .ok (.getstatic 28, 3) := by decide +kernel
theorem d1_62 : decode method_2_code 62 = .ok (.areturn, 1) := by decide +kernel
theorem d1_63 : decode method_2_code 63 = .ok (.iload_n 0, 1) := by decide +kernel
theorem d1_64 : decode method_2_code 64 = .ok (.bipush 7, 2) := by decide +kernel
theorem d1_66 : decode method_2_code 66 = .ok (.if_icmp .ne 7, 3) := by decide +kernel
theorem d1_69 : decode method_2_code 69 = .ok (.getstatic 31, 3) := by decide +kernel
theorem d1_72 : decode method_2_code 72 = .ok (.areturn, 1) := by decide +kernel
theorem d1_73 : decode method_2_code 73 = .ok (.iload_n 0, 1) := by decide +kernel
theorem d1_74 : decode method_2_code 74 = .ok (.bipush 8, 2) := by decide +kernel
theorem d1_76 : decode method_2_code 76 = .ok (.if_icmp .ne 7, 3) := by decide +kernel
theorem d1_79 : decode method_2_code 79 = .ok (.getstatic 34, 3) := by decide +kernel
theorem d1_82 : decode method_2_code 82 = .ok (.areturn, 1) := by decide +kernel
theorem d1_83 : decode method_2_code 83 = .ok (.getstatic 37, 3) := by decide +kernel
theorem d1_86 : decode method_2_code 86 = .ok (.areturn, 1) := by decide +kernel
def F1 (p0 : Int32) (w_PENDING : Addr) (w_QUEUED : Addr) (w_EXECUTING : Addr) (w_COMPLETED : Addr) (w_ERROR : Addr) (w_ABORTED : Addr) (w_UNKNOWN : Addr) (w_HELD : Addr) (w_SUSPENDED : Addr) (w_ARCHIVED : Addr) : Addr := (if p0 = (0 : Int32) then w_PENDING else (if p0 = (1 : Int32) then w_QUEUED else (if p0 = (2 : Int32) then w_EXECUTING else (if p0 = (3 : Int32) then w_COMPLETED else (if p0 = (4 : Int32) then w_ERROR else (if p0 = (5 : Int32) then w_ABORTED else (if p0 = (6 : Int32) then w_UNKNOWN else (if p0 = (7 : Int32) then w_HELD else (if p0 = (8 : Int32) then w_SUSPENDED else w_ARCHIVED)))))))))
def Q1 (p0 : Int32) (w_PENDING : Addr) (w_QUEUED : Addr) (w_EXECUTING : Addr) (w_COMPLETED : Addr) (w_ERROR : Addr) (w_ABORTED : Addr) (w_UNKNOWN : Addr) (w_HELD : Addr) (w_SUSPENDED : Addr) (w_ARCHIVED : Addr) (h0 : Heap) (n0 : Nat) (v : Option Value) (h : Heap) (L : List Loc) : Prop := v = some (.ref (F1 p0 w_PENDING w_QUEUED w_EXECUTING w_COMPLETED w_ERROR w_ABORTED w_UNKNOWN w_HELD w_SUSPENDED w_ARCHIVED)) ∧ Fr n0 L ∧ h = h0
theorem pn_com_example_saanich_saanich_uws_PhaseActivePinLaw : plainName "com/example/saanich/saanich/uws/PhaseActivePinLaw" = true := by first | (simp [plainName, overriddenIn]; done) | decide +kernel
theorem ef_1 (m : MethodId) (p0 : Int32) : entryFrame m #[(.int p0)] 1 = mkF m 0 #[.val (.int p0)] [] := by first | (simp [entryFrame, mkF, argsToLocals, Value.category]; done) | rfl
set_option maxRecDepth 65536 in
set_option maxHeartbeats 40000000 in
theorem b1 (l : Launch) (Z : State) (a0 : Array Value) (hw : ∀ d ∈ tables_1, d.before a0 Z = true) (ws : List Jvm.Cond) (p0 : Int32) (w_PENDING : Addr) (w_QUEUED : Addr) (w_EXECUTING : Addr) (w_COMPLETED : Addr) (w_ERROR : Addr) (w_ABORTED : Addr) (w_UNKNOWN : Addr) (w_HELD : Addr) (w_SUSPENDED : Addr) (w_ARCHIVED : Addr) (h0 : Heap) (n0 : Nat) (H_w_PENDING : Sta Z h0 "com/example/saanich/saanich/uws/Phase" "PENDING" "Lcom/example/saanich/saanich/uws/Phase;" (.ref w_PENDING)) (H_w_QUEUED : Sta Z h0 "com/example/saanich/saanich/uws/Phase" "QUEUED" "Lcom/example/saanich/saanich/uws/Phase;" (.ref w_QUEUED)) (H_w_EXECUTING : Sta Z h0 "com/example/saanich/saanich/uws/Phase" "EXECUTING" "Lcom/example/saanich/saanich/uws/Phase;" (.ref w_EXECUTING)) (H_w_COMPLETED : Sta Z h0 "com/example/saanich/saanich/uws/Phase" "COMPLETED" "Lcom/example/saanich/saanich/uws/Phase;" (.ref w_COMPLETED)) (H_w_ERROR : Sta Z h0 "com/example/saanich/saanich/uws/Phase" "ERROR" "Lcom/example/saanich/saanich/uws/Phase;" (.ref w_ERROR)) (H_w_ABORTED : Sta Z h0 "com/example/saanich/saanich/uws/Phase" "ABORTED" "Lcom/example/saanich/saanich/uws/Phase;" (.ref w_ABORTED)) (H_w_UNKNOWN : Sta Z h0 "com/example/saanich/saanich/uws/Phase" "UNKNOWN" "Lcom/example/saanich/saanich/uws/Phase;" (.ref w_UNKNOWN)) (H_w_HELD : Sta Z h0 "com/example/saanich/saanich/uws/Phase" "HELD" "Lcom/example/saanich/saanich/uws/Phase;" (.ref w_HELD)) (H_w_SUSPENDED : Sta Z h0 "com/example/saanich/saanich/uws/Phase" "SUSPENDED" "Lcom/example/saanich/saanich/uws/Phase;" (.ref w_SUSPENDED)) (H_w_ARCHIVED : Sta Z h0 "com/example/saanich/saanich/uws/Phase" "ARCHIVED" "Lcom/example/saanich/saanich/uws/Phase;" (.ref w_ARCHIVED)) :
    MetFree l (⟨"com/example/saanich/saanich/uws/PhaseActivePinLaw", "pick", "(I)Lcom/example/saanich/saanich/uws/Phase;"⟩ : MethodName) (head1 (Jvm.Cond.code (⟨"com/example/saanich/saanich/uws/PhaseActivePinLaw", "pick", "(I)Lcom/example/saanich/saanich/uws/Phase;"⟩ : MethodName) method_2_code 1 (some (.object "com/example/saanich/saanich/uws/Phase")) :: ws) ({ frames := 0, cells := 0, slots := 0, locals := 0 } : Room)) (fun a U => a = #[(.int p0)] ∧ Z.Warmed39 U.vm ∧ U.heap = h0) (fun _ _ _ _ _ => True) (fun _ U o U' => ∃ v L, o = .returned v ∧ Q1 p0 w_PENDING w_QUEUED w_EXECUTING w_COMPLETED w_ERROR w_ABORTED w_UNKNOWN w_HELD w_SUSPENDED w_ARCHIVED h0 n0 v U'.heap L ∧ FrameEnd U o U' L ({ frames := 0, cells := 0, slots := 0, locals := 0 } : Room).cells ({ frames := 0, cells := 0, slots := 0, locals := 0 } : Room).slots) := by
  refine MetFree.of_bodySF (plainFor_of_name pn_com_example_saanich_saanich_uws_PhaseActivePinLaw) hisR ?_
  intro p e s m args below meth c s₁ Bd hml0 hP hK
  obtain ⟨rfl, hZ, hh⟩ := hP
  have hx := Bd.exec
  have hby := Bd.bytes
  have hml : c.maxLocals = 1 := hml0
  have hown : s.vm.findClass "com/example/saanich/saanich/uws/PhaseActivePinLaw" = some m.cls := findClass_of_methodNamed Bd.named
  have X0 : Stand p l e ({ frames := 0, cells := 0, slots := 0, locals := 0 } : Room) s m #[(.int p0)] below meth c s₁ [] 0 0 := Stand.of_body Bd
  have e0 : s₁.heap = h0 := by rw [← hh, Bd.state]; rfl
  have N0 := Fr.nil n0
  refine Rch.out (Rch.st (fun t k => castTop (ef_1 m p0) k) ?_)
  show Rch p.tables e below _ (s₁.setTop (mkF m 0 #[.val (.int p0)] []))
  refine Rch.st (fun _ hr => XS.iloadN X0.here hx rfl (hb hby d1_0) rfl hr) ?_
  show Rch p.tables e below _ (s₁.setTop (mkF m 1 #[.val (.int p0)] [(.int p0)]))
  by_cases hc1 : p0 = (0 : Int32)
  · refine Rch.st (fun _ hr => XS.ifNo X0.here hx rfl (hb hby d1_1) rfl ((if0 _ _).trans (teq hc1).2) hr) ?_
    show Rch p.tables e below _ (s₁.setTop (mkF m 4 #[.val (.int p0)] []))
    obtain ⟨T2, X2, e2, st2⟩ := getS2 X0 hx hZ hown (host := "") (Or.inl (own_w hw 5 rfl)) Via.refl e0 H_w_PENDING (g := (mkF m 4 #[.val (.int p0)] [])) rfl (hb hby d1_4)
    refine Rch.st st2 ?_
    show Rch p.tables e below _ (T2.setTop (mkF m 7 #[.val (.int p0)] [(.ref w_PENDING)]))
    obtain ⟨fs, hr, hrun, hended, hW, hsame⟩ := X2.leave (v := some (.ref w_PENDING)) (fun h => by rw [Bd.returns] at h; cases h)
    refine Rch.fin (u := T2.setFrames fs) (own_retA X2 hx Bd.returns rfl rfl rfl (hb hby d1_7) hr) ⟨_, hrun, hended, _, _, rfl, ⟨?_, N0, e2⟩, ⟨_, rfl⟩, hW, hsame.mono (by decide) (by decide)⟩
    rw [show F1 p0 w_PENDING w_QUEUED w_EXECUTING w_COMPLETED w_ERROR w_ABORTED w_UNKNOWN w_HELD w_SUSPENDED w_ARCHIVED = w_PENDING from by unfold F1; rw [if_pos hc1]]
  · refine Rch.st (fun _ hr => XS.ifYes X0.here hx rfl (pc0 := 1) (pc' := 8) rfl (hb hby d1_1) rfl ((if0 _ _).trans (feq hc1).2) (by decide) (by decide) hr) ?_
    show Rch p.tables e below _ (s₁.setTop (mkF m 8 #[.val (.int p0)] []))
    refine Rch.st (fun _ hr => XS.iloadN X0.here hx rfl (hb hby d1_8) rfl hr) ?_
    show Rch p.tables e below _ (s₁.setTop (mkF m 9 #[.val (.int p0)] [(.int p0)]))
    refine Rch.st (fun _ hr => XS.iconst X0.here hx rfl (hb hby d1_9) hr) ?_
    show Rch p.tables e below _ (s₁.setTop (mkF m 10 #[.val (.int p0)] [(.int (1 : Int32)), (.int p0)]))
    by_cases hc4 : p0 = (1 : Int32)
    · refine Rch.st (fun _ hr => XS.icmpNo X0.here hx rfl (hb hby d1_10) rfl (teq hc4).2 hr) ?_
      show Rch p.tables e below _ (s₁.setTop (mkF m 13 #[.val (.int p0)] []))
      obtain ⟨T5, X5, e5, st5⟩ := getS2 X0 hx hZ hown (host := "") (Or.inl (own_w hw 20 rfl)) Via.refl e0 H_w_QUEUED (g := (mkF m 13 #[.val (.int p0)] [])) rfl (hb hby d1_13)
      refine Rch.st st5 ?_
      show Rch p.tables e below _ (T5.setTop (mkF m 16 #[.val (.int p0)] [(.ref w_QUEUED)]))
      obtain ⟨fs, hr, hrun, hended, hW, hsame⟩ := X5.leave (v := some (.ref w_QUEUED)) (fun h => by rw [Bd.returns] at h; cases h)
      refine Rch.fin (u := T5.setFrames fs) (own_retA X5 hx Bd.returns rfl rfl rfl (hb hby d1_16) hr) ⟨_, hrun, hended, _, _, rfl, ⟨?_, N0, e5⟩, ⟨_, rfl⟩, hW, hsame.mono (by decide) (by decide)⟩
      rw [show F1 p0 w_PENDING w_QUEUED w_EXECUTING w_COMPLETED w_ERROR w_ABORTED w_UNKNOWN w_HELD w_SUSPENDED w_ARCHIVED = w_QUEUED from by unfold F1; rw [if_neg hc1, if_pos hc4]]
    · refine Rch.st (fun _ hr => XS.icmpYes X0.here hx rfl (pc0 := 10) (pc' := 17) rfl (hb hby d1_10) rfl (feq hc4).2 (by decide) (by decide) hr) ?_
      show Rch p.tables e below _ (s₁.setTop (mkF m 17 #[.val (.int p0)] []))
      refine Rch.st (fun _ hr => XS.iloadN X0.here hx rfl (hb hby d1_17) rfl hr) ?_
      show Rch p.tables e below _ (s₁.setTop (mkF m 18 #[.val (.int p0)] [(.int p0)]))
      refine Rch.st (fun _ hr => XS.iconst X0.here hx rfl (hb hby d1_18) hr) ?_
      show Rch p.tables e below _ (s₁.setTop (mkF m 19 #[.val (.int p0)] [(.int (2 : Int32)), (.int p0)]))
      by_cases hc7 : p0 = (2 : Int32)
      · refine Rch.st (fun _ hr => XS.icmpNo X0.here hx rfl (hb hby d1_19) rfl (teq hc7).2 hr) ?_
        show Rch p.tables e below _ (s₁.setTop (mkF m 22 #[.val (.int p0)] []))
        obtain ⟨T8, X8, e8, st8⟩ := getS2 X0 hx hZ hown (host := "") (Or.inl (own_w hw 25 rfl)) Via.refl e0 H_w_EXECUTING (g := (mkF m 22 #[.val (.int p0)] [])) rfl (hb hby d1_22)
        refine Rch.st st8 ?_
        show Rch p.tables e below _ (T8.setTop (mkF m 25 #[.val (.int p0)] [(.ref w_EXECUTING)]))
        obtain ⟨fs, hr, hrun, hended, hW, hsame⟩ := X8.leave (v := some (.ref w_EXECUTING)) (fun h => by rw [Bd.returns] at h; cases h)
        refine Rch.fin (u := T8.setFrames fs) (own_retA X8 hx Bd.returns rfl rfl rfl (hb hby d1_25) hr) ⟨_, hrun, hended, _, _, rfl, ⟨?_, N0, e8⟩, ⟨_, rfl⟩, hW, hsame.mono (by decide) (by decide)⟩
        rw [show F1 p0 w_PENDING w_QUEUED w_EXECUTING w_COMPLETED w_ERROR w_ABORTED w_UNKNOWN w_HELD w_SUSPENDED w_ARCHIVED = w_EXECUTING from by unfold F1; rw [if_neg hc1, if_neg hc4, if_pos hc7]]
      · refine Rch.st (fun _ hr => XS.icmpYes X0.here hx rfl (pc0 := 19) (pc' := 26) rfl (hb hby d1_19) rfl (feq hc7).2 (by decide) (by decide) hr) ?_
        show Rch p.tables e below _ (s₁.setTop (mkF m 26 #[.val (.int p0)] []))
        refine Rch.st (fun _ hr => XS.iloadN X0.here hx rfl (hb hby d1_26) rfl hr) ?_
        show Rch p.tables e below _ (s₁.setTop (mkF m 27 #[.val (.int p0)] [(.int p0)]))
        refine Rch.st (fun _ hr => XS.iconst X0.here hx rfl (hb hby d1_27) hr) ?_
        show Rch p.tables e below _ (s₁.setTop (mkF m 28 #[.val (.int p0)] [(.int (3 : Int32)), (.int p0)]))
        by_cases hc10 : p0 = (3 : Int32)
        · refine Rch.st (fun _ hr => XS.icmpNo X0.here hx rfl (hb hby d1_28) rfl (teq hc10).2 hr) ?_
          show Rch p.tables e below _ (s₁.setTop (mkF m 31 #[.val (.int p0)] []))
          obtain ⟨T11, X11, e11, st11⟩ := getS2 X0 hx hZ hown (host := "") (Or.inl (own_w hw 14 rfl)) Via.refl e0 H_w_COMPLETED (g := (mkF m 31 #[.val (.int p0)] [])) rfl (hb hby d1_31)
          refine Rch.st st11 ?_
          show Rch p.tables e below _ (T11.setTop (mkF m 34 #[.val (.int p0)] [(.ref w_COMPLETED)]))
          obtain ⟨fs, hr, hrun, hended, hW, hsame⟩ := X11.leave (v := some (.ref w_COMPLETED)) (fun h => by rw [Bd.returns] at h; cases h)
          refine Rch.fin (u := T11.setFrames fs) (own_retA X11 hx Bd.returns rfl rfl rfl (hb hby d1_34) hr) ⟨_, hrun, hended, _, _, rfl, ⟨?_, N0, e11⟩, ⟨_, rfl⟩, hW, hsame.mono (by decide) (by decide)⟩
          rw [show F1 p0 w_PENDING w_QUEUED w_EXECUTING w_COMPLETED w_ERROR w_ABORTED w_UNKNOWN w_HELD w_SUSPENDED w_ARCHIVED = w_COMPLETED from by unfold F1; rw [if_neg hc1, if_neg hc4, if_neg hc7, if_pos hc10]]
        · refine Rch.st (fun _ hr => XS.icmpYes X0.here hx rfl (pc0 := 28) (pc' := 35) rfl (hb hby d1_28) rfl (feq hc10).2 (by decide) (by decide) hr) ?_
          show Rch p.tables e below _ (s₁.setTop (mkF m 35 #[.val (.int p0)] []))
          refine Rch.st (fun _ hr => XS.iloadN X0.here hx rfl (hb hby d1_35) rfl hr) ?_
          show Rch p.tables e below _ (s₁.setTop (mkF m 36 #[.val (.int p0)] [(.int p0)]))
          refine Rch.st (fun _ hr => XS.iconst X0.here hx rfl (hb hby d1_36) hr) ?_
          show Rch p.tables e below _ (s₁.setTop (mkF m 37 #[.val (.int p0)] [(.int (4 : Int32)), (.int p0)]))
          by_cases hc13 : p0 = (4 : Int32)
          · refine Rch.st (fun _ hr => XS.icmpNo X0.here hx rfl (hb hby d1_37) rfl (teq hc13).2 hr) ?_
            show Rch p.tables e below _ (s₁.setTop (mkF m 40 #[.val (.int p0)] []))
            obtain ⟨T14, X14, e14, st14⟩ := getS2 X0 hx hZ hown (host := "") (Or.inl (own_w hw 21 rfl)) Via.refl e0 H_w_ERROR (g := (mkF m 40 #[.val (.int p0)] [])) rfl (hb hby d1_40)
            refine Rch.st st14 ?_
            show Rch p.tables e below _ (T14.setTop (mkF m 43 #[.val (.int p0)] [(.ref w_ERROR)]))
            obtain ⟨fs, hr, hrun, hended, hW, hsame⟩ := X14.leave (v := some (.ref w_ERROR)) (fun h => by rw [Bd.returns] at h; cases h)
            refine Rch.fin (u := T14.setFrames fs) (own_retA X14 hx Bd.returns rfl rfl rfl (hb hby d1_43) hr) ⟨_, hrun, hended, _, _, rfl, ⟨?_, N0, e14⟩, ⟨_, rfl⟩, hW, hsame.mono (by decide) (by decide)⟩
            rw [show F1 p0 w_PENDING w_QUEUED w_EXECUTING w_COMPLETED w_ERROR w_ABORTED w_UNKNOWN w_HELD w_SUSPENDED w_ARCHIVED = w_ERROR from by unfold F1; rw [if_neg hc1, if_neg hc4, if_neg hc7, if_neg hc10, if_pos hc13]]
          · refine Rch.st (fun _ hr => XS.icmpYes X0.here hx rfl (pc0 := 37) (pc' := 44) rfl (hb hby d1_37) rfl (feq hc13).2 (by decide) (by decide) hr) ?_
            show Rch p.tables e below _ (s₁.setTop (mkF m 44 #[.val (.int p0)] []))
            refine Rch.st (fun _ hr => XS.iloadN X0.here hx rfl (hb hby d1_44) rfl hr) ?_
            show Rch p.tables e below _ (s₁.setTop (mkF m 45 #[.val (.int p0)] [(.int p0)]))
            refine Rch.st (fun _ hr => XS.iconst X0.here hx rfl (hb hby d1_45) hr) ?_
            show Rch p.tables e below _ (s₁.setTop (mkF m 46 #[.val (.int p0)] [(.int (5 : Int32)), (.int p0)]))
            by_cases hc16 : p0 = (5 : Int32)
            · refine Rch.st (fun _ hr => XS.icmpNo X0.here hx rfl (hb hby d1_46) rfl (teq hc16).2 hr) ?_
              show Rch p.tables e below _ (s₁.setTop (mkF m 49 #[.val (.int p0)] []))
              obtain ⟨T17, X17, e17, st17⟩ := getS2 X0 hx hZ hown (host := "") (Or.inl (own_w hw 30 rfl)) Via.refl e0 H_w_ABORTED (g := (mkF m 49 #[.val (.int p0)] [])) rfl (hb hby d1_49)
              refine Rch.st st17 ?_
              show Rch p.tables e below _ (T17.setTop (mkF m 52 #[.val (.int p0)] [(.ref w_ABORTED)]))
              obtain ⟨fs, hr, hrun, hended, hW, hsame⟩ := X17.leave (v := some (.ref w_ABORTED)) (fun h => by rw [Bd.returns] at h; cases h)
              refine Rch.fin (u := T17.setFrames fs) (own_retA X17 hx Bd.returns rfl rfl rfl (hb hby d1_52) hr) ⟨_, hrun, hended, _, _, rfl, ⟨?_, N0, e17⟩, ⟨_, rfl⟩, hW, hsame.mono (by decide) (by decide)⟩
              rw [show F1 p0 w_PENDING w_QUEUED w_EXECUTING w_COMPLETED w_ERROR w_ABORTED w_UNKNOWN w_HELD w_SUSPENDED w_ARCHIVED = w_ABORTED from by unfold F1; rw [if_neg hc1, if_neg hc4, if_neg hc7, if_neg hc10, if_neg hc13, if_pos hc16]]
            · refine Rch.st (fun _ hr => XS.icmpYes X0.here hx rfl (pc0 := 46) (pc' := 53) rfl (hb hby d1_46) rfl (feq hc16).2 (by decide) (by decide) hr) ?_
              show Rch p.tables e below _ (s₁.setTop (mkF m 53 #[.val (.int p0)] []))
              refine Rch.st (fun _ hr => XS.iloadN X0.here hx rfl (hb hby d1_53) rfl hr) ?_
              show Rch p.tables e below _ (s₁.setTop (mkF m 54 #[.val (.int p0)] [(.int p0)]))
              refine Rch.st (fun _ hr => XS.bipush X0.here hx rfl (hb hby d1_54) hr) ?_
              show Rch p.tables e below _ (s₁.setTop (mkF m 56 #[.val (.int p0)] [(.int (6 : Int32)), (.int p0)]))
              by_cases hc19 : p0 = (6 : Int32)
              · refine Rch.st (fun _ hr => XS.icmpNo X0.here hx rfl (hb hby d1_56) rfl (teq hc19).2 hr) ?_
                show Rch p.tables e below _ (s₁.setTop (mkF m 59 #[.val (.int p0)] []))
                obtain ⟨T20, X20, e20, st20⟩ := getS2 X0 hx hZ hown (host := "") (Or.inl (own_w hw 32 rfl)) Via.refl e0 H_w_UNKNOWN (g := (mkF m 59 #[.val (.int p0)] [])) rfl (hb hby d1_59)
                refine Rch.st st20 ?_
                show Rch p.tables e below _ (T20.setTop (mkF m 62 #[.val (.int p0)] [(.ref w_UNKNOWN)]))
                obtain ⟨fs, hr, hrun, hended, hW, hsame⟩ := X20.leave (v := some (.ref w_UNKNOWN)) (fun h => by rw [Bd.returns] at h; cases h)
                refine Rch.fin (u := T20.setFrames fs) (own_retA X20 hx Bd.returns rfl rfl rfl (hb hby d1_62) hr) ⟨_, hrun, hended, _, _, rfl, ⟨?_, N0, e20⟩, ⟨_, rfl⟩, hW, hsame.mono (by decide) (by decide)⟩
                rw [show F1 p0 w_PENDING w_QUEUED w_EXECUTING w_COMPLETED w_ERROR w_ABORTED w_UNKNOWN w_HELD w_SUSPENDED w_ARCHIVED = w_UNKNOWN from by unfold F1; rw [if_neg hc1, if_neg hc4, if_neg hc7, if_neg hc10, if_neg hc13, if_neg hc16, if_pos hc19]]
              · refine Rch.st (fun _ hr => XS.icmpYes X0.here hx rfl (pc0 := 56) (pc' := 63) rfl (hb hby d1_56) rfl (feq hc19).2 (by decide) (by decide) hr) ?_
                show Rch p.tables e below _ (s₁.setTop (mkF m 63 #[.val (.int p0)] []))
                refine Rch.st (fun _ hr => XS.iloadN X0.here hx rfl (hb hby d1_63) rfl hr) ?_
                show Rch p.tables e below _ (s₁.setTop (mkF m 64 #[.val (.int p0)] [(.int p0)]))
                refine Rch.st (fun _ hr => XS.bipush X0.here hx rfl (hb hby d1_64) hr) ?_
                show Rch p.tables e below _ (s₁.setTop (mkF m 66 #[.val (.int p0)] [(.int (7 : Int32)), (.int p0)]))
                by_cases hc22 : p0 = (7 : Int32)
                · refine Rch.st (fun _ hr => XS.icmpNo X0.here hx rfl (hb hby d1_66) rfl (teq hc22).2 hr) ?_
                  show Rch p.tables e below _ (s₁.setTop (mkF m 69 #[.val (.int p0)] []))
                  obtain ⟨T23, X23, e23, st23⟩ := getS2 X0 hx hZ hown (host := "") (Or.inl (own_w hw 23 rfl)) Via.refl e0 H_w_HELD (g := (mkF m 69 #[.val (.int p0)] [])) rfl (hb hby d1_69)
                  refine Rch.st st23 ?_
                  show Rch p.tables e below _ (T23.setTop (mkF m 72 #[.val (.int p0)] [(.ref w_HELD)]))
                  obtain ⟨fs, hr, hrun, hended, hW, hsame⟩ := X23.leave (v := some (.ref w_HELD)) (fun h => by rw [Bd.returns] at h; cases h)
                  refine Rch.fin (u := T23.setFrames fs) (own_retA X23 hx Bd.returns rfl rfl rfl (hb hby d1_72) hr) ⟨_, hrun, hended, _, _, rfl, ⟨?_, N0, e23⟩, ⟨_, rfl⟩, hW, hsame.mono (by decide) (by decide)⟩
                  rw [show F1 p0 w_PENDING w_QUEUED w_EXECUTING w_COMPLETED w_ERROR w_ABORTED w_UNKNOWN w_HELD w_SUSPENDED w_ARCHIVED = w_HELD from by unfold F1; rw [if_neg hc1, if_neg hc4, if_neg hc7, if_neg hc10, if_neg hc13, if_neg hc16, if_neg hc19, if_pos hc22]]
                · refine Rch.st (fun _ hr => XS.icmpYes X0.here hx rfl (pc0 := 66) (pc' := 73) rfl (hb hby d1_66) rfl (feq hc22).2 (by decide) (by decide) hr) ?_
                  show Rch p.tables e below _ (s₁.setTop (mkF m 73 #[.val (.int p0)] []))
                  refine Rch.st (fun _ hr => XS.iloadN X0.here hx rfl (hb hby d1_73) rfl hr) ?_
                  show Rch p.tables e below _ (s₁.setTop (mkF m 74 #[.val (.int p0)] [(.int p0)]))
                  refine Rch.st (fun _ hr => XS.bipush X0.here hx rfl (hb hby d1_74) hr) ?_
                  show Rch p.tables e below _ (s₁.setTop (mkF m 76 #[.val (.int p0)] [(.int (8 : Int32)), (.int p0)]))
                  by_cases hc25 : p0 = (8 : Int32)
                  · refine Rch.st (fun _ hr => XS.icmpNo X0.here hx rfl (hb hby d1_76) rfl (teq hc25).2 hr) ?_
                    show Rch p.tables e below _ (s₁.setTop (mkF m 79 #[.val (.int p0)] []))
                    obtain ⟨T26, X26, e26, st26⟩ := getS2 X0 hx hZ hown (host := "") (Or.inl (own_w hw 26 rfl)) Via.refl e0 H_w_SUSPENDED (g := (mkF m 79 #[.val (.int p0)] [])) rfl (hb hby d1_79)
                    refine Rch.st st26 ?_
                    show Rch p.tables e below _ (T26.setTop (mkF m 82 #[.val (.int p0)] [(.ref w_SUSPENDED)]))
                    obtain ⟨fs, hr, hrun, hended, hW, hsame⟩ := X26.leave (v := some (.ref w_SUSPENDED)) (fun h => by rw [Bd.returns] at h; cases h)
                    refine Rch.fin (u := T26.setFrames fs) (own_retA X26 hx Bd.returns rfl rfl rfl (hb hby d1_82) hr) ⟨_, hrun, hended, _, _, rfl, ⟨?_, N0, e26⟩, ⟨_, rfl⟩, hW, hsame.mono (by decide) (by decide)⟩
                    rw [show F1 p0 w_PENDING w_QUEUED w_EXECUTING w_COMPLETED w_ERROR w_ABORTED w_UNKNOWN w_HELD w_SUSPENDED w_ARCHIVED = w_SUSPENDED from by unfold F1; rw [if_neg hc1, if_neg hc4, if_neg hc7, if_neg hc10, if_neg hc13, if_neg hc16, if_neg hc19, if_neg hc22, if_pos hc25]]
                  · refine Rch.st (fun _ hr => XS.icmpYes X0.here hx rfl (pc0 := 76) (pc' := 83) rfl (hb hby d1_76) rfl (feq hc25).2 (by decide) (by decide) hr) ?_
                    show Rch p.tables e below _ (s₁.setTop (mkF m 83 #[.val (.int p0)] []))
                    obtain ⟨T28, X28, e28, st28⟩ := getS2 X0 hx hZ hown (host := "") (Or.inl (own_w hw 28 rfl)) Via.refl e0 H_w_ARCHIVED (g := (mkF m 83 #[.val (.int p0)] [])) rfl (hb hby d1_83)
                    refine Rch.st st28 ?_
                    show Rch p.tables e below _ (T28.setTop (mkF m 86 #[.val (.int p0)] [(.ref w_ARCHIVED)]))
                    obtain ⟨fs, hr, hrun, hended, hW, hsame⟩ := X28.leave (v := some (.ref w_ARCHIVED)) (fun h => by rw [Bd.returns] at h; cases h)
                    refine Rch.fin (u := T28.setFrames fs) (own_retA X28 hx Bd.returns rfl rfl rfl (hb hby d1_86) hr) ⟨_, hrun, hended, _, _, rfl, ⟨?_, N0, e28⟩, ⟨_, rfl⟩, hW, hsame.mono (by decide) (by decide)⟩
                    rw [show F1 p0 w_PENDING w_QUEUED w_EXECUTING w_COMPLETED w_ERROR w_ABORTED w_UNKNOWN w_HELD w_SUSPENDED w_ARCHIVED = w_ARCHIVED from by unfold F1; rw [if_neg hc1, if_neg hc4, if_neg hc7, if_neg hc10, if_neg hc13, if_neg hc16, if_neg hc19, if_neg hc22, if_neg hc25]]
theorem d2_0 : decode prog_87_method_4_code 0 = .ok (.aload_n 0, 1) := by decide +kernel
theorem d2_1 : decode prog_87_method_4_code 1 = .ok (.getstatic 3, 3) := by decide +kernel
theorem d2_4 : decode prog_87_method_4_code 4 = .ok (.if_acmp .eq 17, 3) := by decide +kernel
theorem d2_21 : decode prog_87_method_4_code 21 = .ok (.iconst 1, 1) := by decide +kernel
theorem d2_22 : decode prog_87_method_4_code 22 = .ok (.goto 4, 3) := by decide +kernel
theorem d2_26 : decode prog_87_method_4_code 26 = .ok (.ireturn, 1) := by decide +kernel
theorem d2_7 : decode prog_87_method_4_code 7 = .ok (.aload_n 0, 1) := by decide +kernel
theorem d2_8 : decode prog_87_method_4_code 8 = .ok (.getstatic 7, 3) := by decide +kernel
theorem d2_11 : decode prog_87_method_4_code 11 = .ok (.if_acmp .eq 10, 3) := by decide +kernel
theorem d2_14 : decode prog_87_method_4_code 14 = .ok (.aload_n 0, 1) := by decide +kernel
theorem d2_15 : decode prog_87_method_4_code 15 = .ok (.getstatic 10, 3) := by decide +kernel
theorem d2_18 : decode prog_87_method_4_code 18 = .ok (.if_acmp .ne 7, 3) := by decide +kernel
theorem d2_25 : decode prog_87_method_4_code 25 = .ok (.iconst 0, 1) := by decide +kernel
def F2 (a0 : Addr) (w_PENDING : Addr) (w_QUEUED : Addr) (w_EXECUTING : Addr) : Int32 := (if a0 = w_PENDING then (1 : Int32) else (if a0 = w_QUEUED then (1 : Int32) else (if a0 = w_EXECUTING then (1 : Int32) else (0 : Int32))))
def Q2 (a0 : Addr) (w_PENDING : Addr) (w_QUEUED : Addr) (w_EXECUTING : Addr) (h0 : Heap) (n0 : Nat) (v : Option Value) (h : Heap) (L : List Loc) : Prop := v = some (.int (F2 a0 w_PENDING w_QUEUED w_EXECUTING)) ∧ Fr n0 L ∧ h = h0
theorem pn_com_example_saanich_saanich_uws_Phase : plainName "com/example/saanich/saanich/uws/Phase" = true := by first | (simp [plainName, overriddenIn]; done) | decide +kernel
theorem ef_2 (m : MethodId) (a0 : Addr) : entryFrame m #[(.ref a0)] 1 = mkF m 0 #[.val (.ref a0)] [] := by first | (simp [entryFrame, mkF, argsToLocals, Value.category]; done) | rfl
set_option maxRecDepth 65536 in
set_option maxHeartbeats 40000000 in
theorem b2 (l : Launch) (Z : State) (a0 : Array Value) (hw : ∀ d ∈ tables_1, d.before a0 Z = true) (ws : List Jvm.Cond) (a0 : Addr) (w_PENDING : Addr) (w_QUEUED : Addr) (w_EXECUTING : Addr) (h0 : Heap) (n0 : Nat) (H_w_PENDING : Sta Z h0 "com/example/saanich/saanich/uws/Phase" "PENDING" "Lcom/example/saanich/saanich/uws/Phase;" (.ref w_PENDING)) (H_w_QUEUED : Sta Z h0 "com/example/saanich/saanich/uws/Phase" "QUEUED" "Lcom/example/saanich/saanich/uws/Phase;" (.ref w_QUEUED)) (H_w_EXECUTING : Sta Z h0 "com/example/saanich/saanich/uws/Phase" "EXECUTING" "Lcom/example/saanich/saanich/uws/Phase;" (.ref w_EXECUTING)) :
    MetFree l (⟨"com/example/saanich/saanich/uws/Phase", "active", "()Z"⟩ : MethodName) (head1 (Jvm.Cond.code (⟨"com/example/saanich/saanich/uws/Phase", "active", "()Z"⟩ : MethodName) prog_87_method_4_code 1 (some .boolean) :: ws) ({ frames := 0, cells := 0, slots := 0, locals := 0 } : Room)) (fun a U => a = #[(.ref a0)] ∧ Z.Warmed39 U.vm ∧ U.heap = h0) (fun _ _ _ _ _ => True) (fun _ U o U' => ∃ v L, o = .returned v ∧ Q2 a0 w_PENDING w_QUEUED w_EXECUTING h0 n0 v U'.heap L ∧ FrameEnd U o U' L ({ frames := 0, cells := 0, slots := 0, locals := 0 } : Room).cells ({ frames := 0, cells := 0, slots := 0, locals := 0 } : Room).slots) := by
  refine MetFree.of_bodySF (plainFor_of_name pn_com_example_saanich_saanich_uws_Phase) hisR ?_
  intro p e s m args below meth c s₁ Bd hml0 hP hK
  obtain ⟨rfl, hZ, hh⟩ := hP
  have hx := Bd.exec
  have hby := Bd.bytes
  have hml : c.maxLocals = 1 := hml0
  have hown : s.vm.findClass "com/example/saanich/saanich/uws/Phase" = some m.cls := findClass_of_methodNamed Bd.named
  have X0 : Stand p l e ({ frames := 0, cells := 0, slots := 0, locals := 0 } : Room) s m #[(.ref a0)] below meth c s₁ [] 0 0 := Stand.of_body Bd
  have e0 : s₁.heap = h0 := by rw [← hh, Bd.state]; rfl
  have N0 := Fr.nil n0
  refine Rch.out (Rch.st (fun t k => castTop (ef_2 m a0) k) ?_)
  show Rch p.tables e below _ (s₁.setTop (mkF m 0 #[.val (.ref a0)] []))
  refine Rch.st (fun _ hr => XS.aloadN X0.here hx rfl (hb hby d2_0) rfl rfl hr) ?_
  show Rch p.tables e below _ (s₁.setTop (mkF m 1 #[.val (.ref a0)] [(.ref a0)]))
  obtain ⟨T1, X1, e1, st1⟩ := getS2 X0 hx hZ hown (host := "") (Or.inl (own_w hw 13 rfl)) Via.refl e0 H_w_PENDING (g := (mkF m 1 #[.val (.ref a0)] [(.ref a0)])) rfl (hb hby d2_1)
  refine Rch.st st1 ?_
  show Rch p.tables e below _ (T1.setTop (mkF m 4 #[.val (.ref a0)] [(.ref w_PENDING), (.ref a0)]))
  by_cases hc2 : a0 = w_PENDING
  · refine Rch.st (fun _ hr => Jvm.RoadKit.acmp (g := (mkF m 4 #[.val (.ref a0)] [(.ref w_PENDING), (.ref a0)])) X1 hx rfl rfl rfl (pc0 := 4) (pc' := 21) (same := true) rfl (hb hby d2_4) rfl (decide_eq_true (congrArg Value.ref hc2)) (by decide) (by decide) hr) ?_
    show Rch p.tables e below _ (T1.setTop (mkF m 21 #[.val (.ref a0)] []))
    refine Rch.st (fun _ hr => XS.iconst X1.here hx rfl (hb hby d2_21) hr) ?_
    show Rch p.tables e below _ (T1.setTop (mkF m 22 #[.val (.ref a0)] [(.int (1 : Int32))]))
    refine Rch.st (fun _ hr => XS.goto X1.here hx rfl (pc0 := 22) (pc' := 26) rfl (hb hby d2_22) (by decide) (by decide) hr) ?_
    show Rch p.tables e below _ (T1.setTop (mkF m 26 #[.val (.ref a0)] [(.int (1 : Int32))]))
    obtain ⟨fs, hr, hrun, hended, hW, hsame⟩ := X1.leave (v := some (.int (1 : Int32))) (fun h => by rw [Bd.returns] at h; cases h)
    refine Rch.fin (u := T1.setFrames fs) (retN X1 hx (t := .boolean) Bd.returns (by simp) (hb hby d2_26) hr) ⟨_, hrun, hended, _, _, rfl, ⟨?_, N0, e1⟩, ⟨_, rfl⟩, hW, hsame.mono (by decide) (by decide)⟩
    rw [show F2 a0 w_PENDING w_QUEUED w_EXECUTING = (1 : Int32) from by unfold F2; rw [if_pos hc2]]
  · refine Rch.st (fun _ hr => Jvm.RoadKit.acmp (g := (mkF m 4 #[.val (.ref a0)] [(.ref w_PENDING), (.ref a0)])) X1 hx rfl rfl rfl (pc0 := 4) (pc' := 7) (same := false) rfl (hb hby d2_4) rfl (decide_eq_false fun q => hc2 (Value.ref.inj q)) (by decide) (by decide) hr) ?_
    show Rch p.tables e below _ (T1.setTop (mkF m 7 #[.val (.ref a0)] []))
    refine Rch.st (fun _ hr => XS.aloadN X1.here hx rfl (hb hby d2_7) rfl rfl hr) ?_
    show Rch p.tables e below _ (T1.setTop (mkF m 8 #[.val (.ref a0)] [(.ref a0)]))
    obtain ⟨T4, X4, e4, st4⟩ := getS2 X1 hx hZ hown (host := "") (Or.inl (own_w hw 16 rfl)) Via.refl e1 H_w_QUEUED (g := (mkF m 8 #[.val (.ref a0)] [(.ref a0)])) rfl (hb hby d2_8)
    refine Rch.st st4 ?_
    show Rch p.tables e below _ (T4.setTop (mkF m 11 #[.val (.ref a0)] [(.ref w_QUEUED), (.ref a0)]))
    by_cases hc5 : a0 = w_QUEUED
    · refine Rch.st (fun _ hr => Jvm.RoadKit.acmp (g := (mkF m 11 #[.val (.ref a0)] [(.ref w_QUEUED), (.ref a0)])) X4 hx rfl rfl rfl (pc0 := 11) (pc' := 21) (same := true) rfl (hb hby d2_11) rfl (decide_eq_true (congrArg Value.ref hc5)) (by decide) (by decide) hr) ?_
      show Rch p.tables e below _ (T4.setTop (mkF m 21 #[.val (.ref a0)] []))
      refine Rch.st (fun _ hr => XS.iconst X4.here hx rfl (hb hby d2_21) hr) ?_
      show Rch p.tables e below _ (T4.setTop (mkF m 22 #[.val (.ref a0)] [(.int (1 : Int32))]))
      refine Rch.st (fun _ hr => XS.goto X4.here hx rfl (pc0 := 22) (pc' := 26) rfl (hb hby d2_22) (by decide) (by decide) hr) ?_
      show Rch p.tables e below _ (T4.setTop (mkF m 26 #[.val (.ref a0)] [(.int (1 : Int32))]))
      obtain ⟨fs, hr, hrun, hended, hW, hsame⟩ := X4.leave (v := some (.int (1 : Int32))) (fun h => by rw [Bd.returns] at h; cases h)
      refine Rch.fin (u := T4.setFrames fs) (retN X4 hx (t := .boolean) Bd.returns (by simp) (hb hby d2_26) hr) ⟨_, hrun, hended, _, _, rfl, ⟨?_, N0, e4⟩, ⟨_, rfl⟩, hW, hsame.mono (by decide) (by decide)⟩
      rw [show F2 a0 w_PENDING w_QUEUED w_EXECUTING = (1 : Int32) from by unfold F2; rw [if_neg hc2, if_pos hc5]]
    · refine Rch.st (fun _ hr => Jvm.RoadKit.acmp (g := (mkF m 11 #[.val (.ref a0)] [(.ref w_QUEUED), (.ref a0)])) X4 hx rfl rfl rfl (pc0 := 11) (pc' := 14) (same := false) rfl (hb hby d2_11) rfl (decide_eq_false fun q => hc5 (Value.ref.inj q)) (by decide) (by decide) hr) ?_
      show Rch p.tables e below _ (T4.setTop (mkF m 14 #[.val (.ref a0)] []))
      refine Rch.st (fun _ hr => XS.aloadN X4.here hx rfl (hb hby d2_14) rfl rfl hr) ?_
      show Rch p.tables e below _ (T4.setTop (mkF m 15 #[.val (.ref a0)] [(.ref a0)]))
      obtain ⟨T7, X7, e7, st7⟩ := getS2 X4 hx hZ hown (host := "") (Or.inl (own_w hw 18 rfl)) Via.refl e4 H_w_EXECUTING (g := (mkF m 15 #[.val (.ref a0)] [(.ref a0)])) rfl (hb hby d2_15)
      refine Rch.st st7 ?_
      show Rch p.tables e below _ (T7.setTop (mkF m 18 #[.val (.ref a0)] [(.ref w_EXECUTING), (.ref a0)]))
      by_cases hc8 : a0 = w_EXECUTING
      · refine Rch.st (fun _ hr => Jvm.RoadKit.acmp (g := (mkF m 18 #[.val (.ref a0)] [(.ref w_EXECUTING), (.ref a0)])) X7 hx rfl rfl rfl (pc0 := 18) (pc' := 21) (same := true) rfl (hb hby d2_18) rfl (decide_eq_true (congrArg Value.ref hc8)) (by decide) (by decide) hr) ?_
        show Rch p.tables e below _ (T7.setTop (mkF m 21 #[.val (.ref a0)] []))
        refine Rch.st (fun _ hr => XS.iconst X7.here hx rfl (hb hby d2_21) hr) ?_
        show Rch p.tables e below _ (T7.setTop (mkF m 22 #[.val (.ref a0)] [(.int (1 : Int32))]))
        refine Rch.st (fun _ hr => XS.goto X7.here hx rfl (pc0 := 22) (pc' := 26) rfl (hb hby d2_22) (by decide) (by decide) hr) ?_
        show Rch p.tables e below _ (T7.setTop (mkF m 26 #[.val (.ref a0)] [(.int (1 : Int32))]))
        obtain ⟨fs, hr, hrun, hended, hW, hsame⟩ := X7.leave (v := some (.int (1 : Int32))) (fun h => by rw [Bd.returns] at h; cases h)
        refine Rch.fin (u := T7.setFrames fs) (retN X7 hx (t := .boolean) Bd.returns (by simp) (hb hby d2_26) hr) ⟨_, hrun, hended, _, _, rfl, ⟨?_, N0, e7⟩, ⟨_, rfl⟩, hW, hsame.mono (by decide) (by decide)⟩
        rw [show F2 a0 w_PENDING w_QUEUED w_EXECUTING = (1 : Int32) from by unfold F2; rw [if_neg hc2, if_neg hc5, if_pos hc8]]
      · refine Rch.st (fun _ hr => Jvm.RoadKit.acmp (g := (mkF m 18 #[.val (.ref a0)] [(.ref w_EXECUTING), (.ref a0)])) X7 hx rfl rfl rfl (pc0 := 18) (pc' := 25) (same := false) rfl (hb hby d2_18) rfl (decide_eq_false fun q => hc8 (Value.ref.inj q)) (by decide) (by decide) hr) ?_
        show Rch p.tables e below _ (T7.setTop (mkF m 25 #[.val (.ref a0)] []))
        refine Rch.st (fun _ hr => XS.iconst X7.here hx rfl (hb hby d2_25) hr) ?_
        show Rch p.tables e below _ (T7.setTop (mkF m 26 #[.val (.ref a0)] [(.int (0 : Int32))]))
        obtain ⟨fs, hr, hrun, hended, hW, hsame⟩ := X7.leave (v := some (.int (0 : Int32))) (fun h => by rw [Bd.returns] at h; cases h)
        refine Rch.fin (u := T7.setFrames fs) (retN X7 hx (t := .boolean) Bd.returns (by simp) (hb hby d2_26) hr) ⟨_, hrun, hended, _, _, rfl, ⟨?_, N0, e7⟩, ⟨_, rfl⟩, hW, hsame.mono (by decide) (by decide)⟩
        rw [show F2 a0 w_PENDING w_QUEUED w_EXECUTING = (0 : Int32) from by unfold F2; rw [if_neg hc2, if_neg hc5, if_neg hc8]]
theorem pd_0 : parseMethodDescriptor "(I)Lcom/example/saanich/saanich/uws/Phase;" = some ⟨[.int], some (.object "com/example/saanich/saanich/uws/Phase")⟩ := by decide +kernel
theorem pd_1 : parseMethodDescriptor "()Z" = some ⟨[], some .boolean⟩ := by decide +kernel
def F0 (p0 : Int32) (w_PENDING : Addr) (w_QUEUED : Addr) (w_EXECUTING : Addr) (w_COMPLETED : Addr) (w_ERROR : Addr) (w_ABORTED : Addr) (w_UNKNOWN : Addr) (w_HELD : Addr) (w_SUSPENDED : Addr) (w_ARCHIVED : Addr) : Int32 := (if ((p0 &&& (2147483647 : Int32)) % (10 : Int32)) < (3 : Int32) then (if (F2 (F1 ((p0 &&& (2147483647 : Int32)) % (10 : Int32)) w_PENDING w_QUEUED w_EXECUTING w_COMPLETED w_ERROR w_ABORTED w_UNKNOWN w_HELD w_SUSPENDED w_ARCHIVED) w_PENDING w_QUEUED w_EXECUTING) = (1 : Int32) then (1 : Int32) else (0 : Int32)) else (if (F2 (F1 ((p0 &&& (2147483647 : Int32)) % (10 : Int32)) w_PENDING w_QUEUED w_EXECUTING w_COMPLETED w_ERROR w_ABORTED w_UNKNOWN w_HELD w_SUSPENDED w_ARCHIVED) w_PENDING w_QUEUED w_EXECUTING) = (0 : Int32) then (1 : Int32) else (0 : Int32)))
def Q0 (p0 : Int32) (w_PENDING : Addr) (w_QUEUED : Addr) (w_EXECUTING : Addr) (w_COMPLETED : Addr) (w_ERROR : Addr) (w_ABORTED : Addr) (w_UNKNOWN : Addr) (w_HELD : Addr) (w_SUSPENDED : Addr) (w_ARCHIVED : Addr) (h0 : Heap) (n0 : Nat) (v : Option Value) (h : Heap) (L : List Loc) : Prop := v = some (.int (F0 p0 w_PENDING w_QUEUED w_EXECUTING w_COMPLETED w_ERROR w_ABORTED w_UNKNOWN w_HELD w_SUSPENDED w_ARCHIVED)) ∧ Fr n0 L ∧ h = h0
theorem ef_0 (m : MethodId) (p0 : Int32) : entryFrame m #[(.int p0)] maxLocals = mkF m 0 #[.val (.int p0), .unset, .unset, .unset] [] := by first | (simp [entryFrame, mkF, argsToLocals, Value.category, maxLocals]; done) | rfl
set_option maxRecDepth 65536 in
set_option maxHeartbeats 40000000 in
theorem b0 (l : Launch) (Z : State) (a0 : Array Value) (hw : ∀ d ∈ tables_1, d.before a0 Z = true) (ws : List Jvm.Cond) (p0 : Int32) (w_PENDING : Addr) (w_QUEUED : Addr) (w_EXECUTING : Addr) (w_COMPLETED : Addr) (w_ERROR : Addr) (w_ABORTED : Addr) (w_UNKNOWN : Addr) (w_HELD : Addr) (w_SUSPENDED : Addr) (w_ARCHIVED : Addr) (h0 : Heap) (n0 : Nat) (H_w_PENDING : Sta Z h0 "com/example/saanich/saanich/uws/Phase" "PENDING" "Lcom/example/saanich/saanich/uws/Phase;" (.ref w_PENDING)) (H_w_QUEUED : Sta Z h0 "com/example/saanich/saanich/uws/Phase" "QUEUED" "Lcom/example/saanich/saanich/uws/Phase;" (.ref w_QUEUED)) (H_w_EXECUTING : Sta Z h0 "com/example/saanich/saanich/uws/Phase" "EXECUTING" "Lcom/example/saanich/saanich/uws/Phase;" (.ref w_EXECUTING)) (H_w_COMPLETED : Sta Z h0 "com/example/saanich/saanich/uws/Phase" "COMPLETED" "Lcom/example/saanich/saanich/uws/Phase;" (.ref w_COMPLETED)) (H_w_ERROR : Sta Z h0 "com/example/saanich/saanich/uws/Phase" "ERROR" "Lcom/example/saanich/saanich/uws/Phase;" (.ref w_ERROR)) (H_w_ABORTED : Sta Z h0 "com/example/saanich/saanich/uws/Phase" "ABORTED" "Lcom/example/saanich/saanich/uws/Phase;" (.ref w_ABORTED)) (H_w_UNKNOWN : Sta Z h0 "com/example/saanich/saanich/uws/Phase" "UNKNOWN" "Lcom/example/saanich/saanich/uws/Phase;" (.ref w_UNKNOWN)) (H_w_HELD : Sta Z h0 "com/example/saanich/saanich/uws/Phase" "HELD" "Lcom/example/saanich/saanich/uws/Phase;" (.ref w_HELD)) (H_w_SUSPENDED : Sta Z h0 "com/example/saanich/saanich/uws/Phase" "SUSPENDED" "Lcom/example/saanich/saanich/uws/Phase;" (.ref w_SUSPENDED)) (H_w_ARCHIVED : Sta Z h0 "com/example/saanich/saanich/uws/Phase" "ARCHIVED" "Lcom/example/saanich/saanich/uws/Phase;" (.ref w_ARCHIVED)) (E_x0 : Exa Z h0 (F1 ((p0 &&& (2147483647 : Int32)) % (10 : Int32)) w_PENDING w_QUEUED w_EXECUTING w_COMPLETED w_ERROR w_ABORTED w_UNKNOWN w_HELD w_SUSPENDED w_ARCHIVED) "com/example/saanich/saanich/uws/Phase") :
    MetFree l x (head1 (Jvm.Cond.code x code maxLocals ret :: ws) room_1) (fun a U => a = #[(.int p0)] ∧ Z.Warmed39 U.vm ∧ U.heap = h0) (fun _ _ _ _ _ => True) (fun _ U o U' => ∃ v L, o = .returned v ∧ Q0 p0 w_PENDING w_QUEUED w_EXECUTING w_COMPLETED w_ERROR w_ABORTED w_UNKNOWN w_HELD w_SUSPENDED w_ARCHIVED h0 n0 v U'.heap L ∧ FrameEnd U o U' L room_1.cells room_1.slots) := by
  refine MetFree.of_bodySF (plainFor_of_name pn_com_example_saanich_saanich_uws_PhaseActivePinLaw) hisR ?_
  intro p e s m args below meth c s₁ Bd hml0 hP hK
  obtain ⟨rfl, hZ, hh⟩ := hP
  have hx := Bd.exec
  have hby := Bd.bytes
  have hml : c.maxLocals = 4 := hml0
  have hown : s.vm.findClass "com/example/saanich/saanich/uws/PhaseActivePinLaw" = some m.cls := findClass_of_methodNamed Bd.named
  have X0 : Stand p l e room_1 s m #[(.int p0)] below meth c s₁ [] 0 0 := Stand.of_body Bd
  have e0 : s₁.heap = h0 := by rw [← hh, Bd.state]; rfl
  have N0 := Fr.nil n0
  refine Rch.out (Rch.st (fun t k => castTop (ef_0 m p0) k) ?_)
  show Rch p.tables e below _ (s₁.setTop (mkF m 0 #[.val (.int p0), .unset, .unset, .unset] []))
  refine Rch.st (fun _ hr => XS.iloadN X0.here hx rfl (hb hby at_0) rfl hr) ?_
  show Rch p.tables e below _ (s₁.setTop (mkF m 1 #[.val (.int p0), .unset, .unset, .unset] [(.int p0)]))
  refine Rch.st (fun _ hr => Jvm.Stand.ldcI (g := (mkF m 1 #[.val (.int p0), .unset, .unset, .unset] [(.int p0)])) X0 hx hown (mvT hZ (own_w hw 0 rfl)) rfl (hb hby at_1) hr) ?_
  show Rch p.tables e below _ (s₁.setTop (mkF m 3 #[.val (.int p0), .unset, .unset, .unset] [(.int (2147483647 : Int32)), (.int p0)]))
  refine Rch.st (fun _ hr => XS.iand X0.here hx rfl (hb hby at_3) rfl hr) ?_
  show Rch p.tables e below _ (s₁.setTop (mkF m 4 #[.val (.int p0), .unset, .unset, .unset] [(.int (p0 &&& (2147483647 : Int32)))]))
  refine Rch.st (fun _ hr => XS.bipush X0.here hx rfl (hb hby at_4) hr) ?_
  show Rch p.tables e below _ (s₁.setTop (mkF m 6 #[.val (.int p0), .unset, .unset, .unset] [(.int (10 : Int32)), (.int (p0 &&& (2147483647 : Int32)))]))
  refine Rch.st (fun _ hr => Jvm.RoadKit.iremM (g := (mkF m 6 #[.val (.int p0), .unset, .unset, .unset] [(.int (10 : Int32)), (.int (p0 &&& (2147483647 : Int32)))])) X0 hx rfl (hb hby at_6) rfl (by decide) hr) ?_
  show Rch p.tables e below _ (s₁.setTop (mkF m 7 #[.val (.int p0), .unset, .unset, .unset] [(.int ((p0 &&& (2147483647 : Int32)) % (10 : Int32)))]))
  refine Rch.st (fun _ hr => XS.istoreN X0.here hx rfl (hb hby at_7) rfl (l' := #[.val (.int p0), .val (.int ((p0 &&& (2147483647 : Int32)) % (10 : Int32))), .unset, .unset]) rfl hr) ?_
  show Rch p.tables e below _ (s₁.setTop (mkF m 8 #[.val (.int p0), .val (.int ((p0 &&& (2147483647 : Int32)) % (10 : Int32))), .unset, .unset] []))
  refine Rch.st (fun _ hr => XS.iloadN X0.here hx rfl (hb hby at_8) rfl hr) ?_
  show Rch p.tables e below _ (s₁.setTop (mkF m 9 #[.val (.int p0), .val (.int ((p0 &&& (2147483647 : Int32)) % (10 : Int32))), .unset, .unset] [(.int ((p0 &&& (2147483647 : Int32)) % (10 : Int32)))]))
  obtain ⟨_, _, ⟨T1, L1, k1, n1⟩, -, X1, ⟨Lc1, hQ1, l1, y1, z1⟩, st1⟩ := Jvm.LawKit.callS X0 hx (y := (⟨"com/example/saanich/saanich/uws/PhaseActivePinLaw", "pick", "(I)Lcom/example/saanich/saanich/uws/Phase;"⟩ : MethodName)) hown (mvT hZ (own_w hw 1 rfl)) (mvT hZ (own_w hw 2 rfl)) (mvT hZ (own_w hw 3 rfl)) (mvT hZ (own_w hw 4 rfl)) (by decide) (backOf (W := 0) (b1 l Z a0 hw [] ((p0 &&& (2147483647 : Int32)) % (10 : Int32)) w_PENDING w_QUEUED w_EXECUTING w_COMPLETED w_ERROR w_ABORTED w_UNKNOWN w_HELD w_SUSPENDED w_ARCHIVED h0 n0 H_w_PENDING H_w_QUEUED H_w_EXECUTING H_w_COMPLETED H_w_ERROR H_w_ABORTED H_w_UNKNOWN H_w_HELD H_w_SUSPENDED H_w_ARCHIVED) hZ (own_w hw 4 rfl) (own_w hw 3 rfl) (by decide) (by decide)) (g := (mkF m 9 #[.val (.int p0), .val (.int ((p0 &&& (2147483647 : Int32)) % (10 : Int32))), .unset, .unset] [(.int ((p0 &&& (2147483647 : Int32)) % (10 : Int32)))])) rfl (by rw [hml]; rfl) (argsL := [(.int ((p0 &&& (2147483647 : Int32)) % (10 : Int32)))]) (rest := []) (lenOf pd_0 rfl) rfl (by show 2 * 0 + _ ≤ _; exact Nat.le_of_eq rfl) (hb hby at_9) (fun _ _ => ⟨rfl, e0, (by decide : 0 + 0 ≤ _), (by decide : 0 + 0 ≤ _)⟩)
  dsimp only [Pt.U, Pt.locs, Pt.cells, Pt.slots] at X1 l1 y1 z1 st1 hQ1
  subst l1 y1 z1
  obtain ⟨rfl, N1q, e1⟩ := hQ1
  have N1 := Fr.app N0 N1q
  refine Rch.st st1 ?_
  show Rch p.tables e below _ (T1.setTop (mkF m 12 #[.val (.int p0), .val (.int ((p0 &&& (2147483647 : Int32)) % (10 : Int32))), .unset, .unset] [(.ref (F1 ((p0 &&& (2147483647 : Int32)) % (10 : Int32)) w_PENDING w_QUEUED w_EXECUTING w_COMPLETED w_ERROR w_ABORTED w_UNKNOWN w_HELD w_SUSPENDED w_ARCHIVED))]))
  refine Rch.st (fun _ hr => XS.astoreN X1.here hx rfl (hb hby at_12) rfl rfl (l' := #[.val (.int p0), .val (.int ((p0 &&& (2147483647 : Int32)) % (10 : Int32))), .val (.ref (F1 ((p0 &&& (2147483647 : Int32)) % (10 : Int32)) w_PENDING w_QUEUED w_EXECUTING w_COMPLETED w_ERROR w_ABORTED w_UNKNOWN w_HELD w_SUSPENDED w_ARCHIVED)), .unset]) rfl hr) ?_
  show Rch p.tables e below _ (T1.setTop (mkF m 13 #[.val (.int p0), .val (.int ((p0 &&& (2147483647 : Int32)) % (10 : Int32))), .val (.ref (F1 ((p0 &&& (2147483647 : Int32)) % (10 : Int32)) w_PENDING w_QUEUED w_EXECUTING w_COMPLETED w_ERROR w_ABORTED w_UNKNOWN w_HELD w_SUSPENDED w_ARCHIVED)), .unset] []))
  refine Rch.st (fun _ hr => XS.iloadN X1.here hx rfl (hb hby at_13) rfl hr) ?_
  show Rch p.tables e below _ (T1.setTop (mkF m 14 #[.val (.int p0), .val (.int ((p0 &&& (2147483647 : Int32)) % (10 : Int32))), .val (.ref (F1 ((p0 &&& (2147483647 : Int32)) % (10 : Int32)) w_PENDING w_QUEUED w_EXECUTING w_COMPLETED w_ERROR w_ABORTED w_UNKNOWN w_HELD w_SUSPENDED w_ARCHIVED)), .unset] [(.int ((p0 &&& (2147483647 : Int32)) % (10 : Int32)))]))
  refine Rch.st (fun _ hr => XS.iconst X1.here hx rfl (hb hby at_14) hr) ?_
  show Rch p.tables e below _ (T1.setTop (mkF m 15 #[.val (.int p0), .val (.int ((p0 &&& (2147483647 : Int32)) % (10 : Int32))), .val (.ref (F1 ((p0 &&& (2147483647 : Int32)) % (10 : Int32)) w_PENDING w_QUEUED w_EXECUTING w_COMPLETED w_ERROR w_ABORTED w_UNKNOWN w_HELD w_SUSPENDED w_ARCHIVED)), .unset] [(.int (3 : Int32)), (.int ((p0 &&& (2147483647 : Int32)) % (10 : Int32)))]))
  by_cases hc2 : ((p0 &&& (2147483647 : Int32)) % (10 : Int32)) < (3 : Int32)
  · refine Rch.st (fun _ hr => XS.icmpNo X1.here hx rfl (hb hby at_15) rfl (tlt hc2).2.1 hr) ?_
    show Rch p.tables e below _ (T1.setTop (mkF m 18 #[.val (.int p0), .val (.int ((p0 &&& (2147483647 : Int32)) % (10 : Int32))), .val (.ref (F1 ((p0 &&& (2147483647 : Int32)) % (10 : Int32)) w_PENDING w_QUEUED w_EXECUTING w_COMPLETED w_ERROR w_ABORTED w_UNKNOWN w_HELD w_SUSPENDED w_ARCHIVED)), .unset] []))
    refine Rch.st (fun _ hr => XS.iconst X1.here hx rfl (hb hby at_18) hr) ?_
    show Rch p.tables e below _ (T1.setTop (mkF m 19 #[.val (.int p0), .val (.int ((p0 &&& (2147483647 : Int32)) % (10 : Int32))), .val (.ref (F1 ((p0 &&& (2147483647 : Int32)) % (10 : Int32)) w_PENDING w_QUEUED w_EXECUTING w_COMPLETED w_ERROR w_ABORTED w_UNKNOWN w_HELD w_SUSPENDED w_ARCHIVED)), .unset] [(.int (1 : Int32))]))
    refine Rch.st (fun _ hr => XS.goto X1.here hx rfl (pc0 := 19) (pc' := 23) rfl (hb hby at_19) (by decide) (by decide) hr) ?_
    show Rch p.tables e below _ (T1.setTop (mkF m 23 #[.val (.int p0), .val (.int ((p0 &&& (2147483647 : Int32)) % (10 : Int32))), .val (.ref (F1 ((p0 &&& (2147483647 : Int32)) % (10 : Int32)) w_PENDING w_QUEUED w_EXECUTING w_COMPLETED w_ERROR w_ABORTED w_UNKNOWN w_HELD w_SUSPENDED w_ARCHIVED)), .unset] [(.int (1 : Int32))]))
    refine Rch.st (fun _ hr => XS.istoreN X1.here hx rfl (hb hby at_23) rfl (l' := #[.val (.int p0), .val (.int ((p0 &&& (2147483647 : Int32)) % (10 : Int32))), .val (.ref (F1 ((p0 &&& (2147483647 : Int32)) % (10 : Int32)) w_PENDING w_QUEUED w_EXECUTING w_COMPLETED w_ERROR w_ABORTED w_UNKNOWN w_HELD w_SUSPENDED w_ARCHIVED)), .val (.int (1 : Int32))]) rfl hr) ?_
    show Rch p.tables e below _ (T1.setTop (mkF m 24 #[.val (.int p0), .val (.int ((p0 &&& (2147483647 : Int32)) % (10 : Int32))), .val (.ref (F1 ((p0 &&& (2147483647 : Int32)) % (10 : Int32)) w_PENDING w_QUEUED w_EXECUTING w_COMPLETED w_ERROR w_ABORTED w_UNKNOWN w_HELD w_SUSPENDED w_ARCHIVED)), .val (.int (1 : Int32))] []))
    refine Rch.st (fun _ hr => XS.aloadN X1.here hx rfl (hb hby at_24) rfl rfl hr) ?_
    show Rch p.tables e below _ (T1.setTop (mkF m 25 #[.val (.int p0), .val (.int ((p0 &&& (2147483647 : Int32)) % (10 : Int32))), .val (.ref (F1 ((p0 &&& (2147483647 : Int32)) % (10 : Int32)) w_PENDING w_QUEUED w_EXECUTING w_COMPLETED w_ERROR w_ABORTED w_UNKNOWN w_HELD w_SUSPENDED w_ARCHIVED)), .val (.int (1 : Int32))] [(.ref (F1 ((p0 &&& (2147483647 : Int32)) % (10 : Int32)) w_PENDING w_QUEUED w_EXECUTING w_COMPLETED w_ERROR w_ABORTED w_UNKNOWN w_HELD w_SUSPENDED w_ARCHIVED))]))
    obtain ⟨cq3, kq3, q3a, q3b, q3c⟩ := isOf hZ e1 E_x0
    obtain ⟨_, _, ⟨T3, L3, k3, n3⟩, -, X3, ⟨Lc3, hQ3, l3, y3, z3⟩, st3⟩ := X1.virtualBack hx (y := (⟨"com/example/saanich/saanich/uws/Phase", "active", "()Z"⟩ : MethodName)) (z := (⟨"com/example/saanich/saanich/uws/Phase", "active", "()Z"⟩ : MethodName)) hown (mvT hZ (own_w hw 8 rfl)) (mvT hZ (own_w hw 9 rfl)) (notFace_of_selects (args := #[]) (mvT hZ (own_w hw 11 rfl))) (mvT hZ (own_w hw 11 rfl)) (mvT hZ (own_w hw 10 rfl)) (by decide) (backOf (W := 0) (b2 l Z a0 hw [] (F1 ((p0 &&& (2147483647 : Int32)) % (10 : Int32)) w_PENDING w_QUEUED w_EXECUTING w_COMPLETED w_ERROR w_ABORTED w_UNKNOWN w_HELD w_SUSPENDED w_ARCHIVED) w_PENDING w_QUEUED w_EXECUTING h0 n0 H_w_PENDING H_w_QUEUED H_w_EXECUTING) hZ (own_w hw 12 rfl) (own_w hw 6 rfl) (by decide) (by decide)) q3a q3c (g := (mkF m 25 #[.val (.int p0), .val (.int ((p0 &&& (2147483647 : Int32)) % (10 : Int32))), .val (.ref (F1 ((p0 &&& (2147483647 : Int32)) % (10 : Int32)) w_PENDING w_QUEUED w_EXECUTING w_COMPLETED w_ERROR w_ABORTED w_UNKNOWN w_HELD w_SUSPENDED w_ARCHIVED)), .val (.int (1 : Int32))] [(.ref (F1 ((p0 &&& (2147483647 : Int32)) % (10 : Int32)) w_PENDING w_QUEUED w_EXECUTING w_COMPLETED w_ERROR w_ABORTED w_UNKNOWN w_HELD w_SUSPENDED w_ARCHIVED))])) rfl (by rw [hml]; rfl) (Steps.refl _) (argsL := []) (rest := []) (lenOf pd_1 rfl) rfl (by show 2 * 0 + _ ≤ _; exact Nat.le_of_eq rfl) (hb hby at_25) (fun _ _ => ⟨rfl, e1, (by decide : 0 + 0 ≤ _), (by decide : 0 + 0 ≤ _)⟩)
    dsimp only [Pt.U, Pt.locs, Pt.cells, Pt.slots] at X3 l3 y3 z3 st3 hQ3
    subst l3 y3 z3
    obtain ⟨rfl, N3q, e3⟩ := hQ3
    have N3 := Fr.app N1 N3q
    refine Rch.tr st3 ?_
    show Rch p.tables e below _ (T3.setTop (mkF m 28 #[.val (.int p0), .val (.int ((p0 &&& (2147483647 : Int32)) % (10 : Int32))), .val (.ref (F1 ((p0 &&& (2147483647 : Int32)) % (10 : Int32)) w_PENDING w_QUEUED w_EXECUTING w_COMPLETED w_ERROR w_ABORTED w_UNKNOWN w_HELD w_SUSPENDED w_ARCHIVED)), .val (.int (1 : Int32))] [(.int (F2 (F1 ((p0 &&& (2147483647 : Int32)) % (10 : Int32)) w_PENDING w_QUEUED w_EXECUTING w_COMPLETED w_ERROR w_ABORTED w_UNKNOWN w_HELD w_SUSPENDED w_ARCHIVED) w_PENDING w_QUEUED w_EXECUTING))]))
    refine Rch.st (fun _ hr => XS.iloadN X3.here hx rfl (hb hby at_28) rfl hr) ?_
    show Rch p.tables e below _ (T3.setTop (mkF m 29 #[.val (.int p0), .val (.int ((p0 &&& (2147483647 : Int32)) % (10 : Int32))), .val (.ref (F1 ((p0 &&& (2147483647 : Int32)) % (10 : Int32)) w_PENDING w_QUEUED w_EXECUTING w_COMPLETED w_ERROR w_ABORTED w_UNKNOWN w_HELD w_SUSPENDED w_ARCHIVED)), .val (.int (1 : Int32))] [(.int (1 : Int32)), (.int (F2 (F1 ((p0 &&& (2147483647 : Int32)) % (10 : Int32)) w_PENDING w_QUEUED w_EXECUTING w_COMPLETED w_ERROR w_ABORTED w_UNKNOWN w_HELD w_SUSPENDED w_ARCHIVED) w_PENDING w_QUEUED w_EXECUTING))]))
    by_cases hc4 : (F2 (F1 ((p0 &&& (2147483647 : Int32)) % (10 : Int32)) w_PENDING w_QUEUED w_EXECUTING w_COMPLETED w_ERROR w_ABORTED w_UNKNOWN w_HELD w_SUSPENDED w_ARCHIVED) w_PENDING w_QUEUED w_EXECUTING) = (1 : Int32)
    · refine Rch.st (fun _ hr => XS.icmpNo X3.here hx rfl (hb hby at_29) rfl (teq hc4).2 hr) ?_
      show Rch p.tables e below _ (T3.setTop (mkF m 32 #[.val (.int p0), .val (.int ((p0 &&& (2147483647 : Int32)) % (10 : Int32))), .val (.ref (F1 ((p0 &&& (2147483647 : Int32)) % (10 : Int32)) w_PENDING w_QUEUED w_EXECUTING w_COMPLETED w_ERROR w_ABORTED w_UNKNOWN w_HELD w_SUSPENDED w_ARCHIVED)), .val (.int (1 : Int32))] []))
      refine Rch.st (fun _ hr => XS.iconst X3.here hx rfl (hb hby at_32) hr) ?_
      show Rch p.tables e below _ (T3.setTop (mkF m 33 #[.val (.int p0), .val (.int ((p0 &&& (2147483647 : Int32)) % (10 : Int32))), .val (.ref (F1 ((p0 &&& (2147483647 : Int32)) % (10 : Int32)) w_PENDING w_QUEUED w_EXECUTING w_COMPLETED w_ERROR w_ABORTED w_UNKNOWN w_HELD w_SUSPENDED w_ARCHIVED)), .val (.int (1 : Int32))] [(.int (1 : Int32))]))
      refine Rch.st (fun _ hr => XS.goto X3.here hx rfl (pc0 := 33) (pc' := 37) rfl (hb hby at_33) (by decide) (by decide) hr) ?_
      show Rch p.tables e below _ (T3.setTop (mkF m 37 #[.val (.int p0), .val (.int ((p0 &&& (2147483647 : Int32)) % (10 : Int32))), .val (.ref (F1 ((p0 &&& (2147483647 : Int32)) % (10 : Int32)) w_PENDING w_QUEUED w_EXECUTING w_COMPLETED w_ERROR w_ABORTED w_UNKNOWN w_HELD w_SUSPENDED w_ARCHIVED)), .val (.int (1 : Int32))] [(.int (1 : Int32))]))
      obtain ⟨fs, hr, hrun, hended, hW, hsame⟩ := X3.leave (v := some (.int (1 : Int32))) (fun h => by rw [Bd.returns] at h; cases h)
      refine Rch.fin (u := T3.setFrames fs) (retN X3 hx (t := .boolean) Bd.returns (by simp) (hb hby at_37) hr) ⟨_, hrun, hended, _, _, rfl, ⟨?_, N3, e3⟩, ⟨_, rfl⟩, hW, hsame.mono (by decide) (by decide)⟩
      rw [show F0 p0 w_PENDING w_QUEUED w_EXECUTING w_COMPLETED w_ERROR w_ABORTED w_UNKNOWN w_HELD w_SUSPENDED w_ARCHIVED = (1 : Int32) from by unfold F0; rw [if_pos hc2, if_pos hc4]]
    · refine Rch.st (fun _ hr => XS.icmpYes X3.here hx rfl (pc0 := 29) (pc' := 36) rfl (hb hby at_29) rfl (feq hc4).2 (by decide) (by decide) hr) ?_
      show Rch p.tables e below _ (T3.setTop (mkF m 36 #[.val (.int p0), .val (.int ((p0 &&& (2147483647 : Int32)) % (10 : Int32))), .val (.ref (F1 ((p0 &&& (2147483647 : Int32)) % (10 : Int32)) w_PENDING w_QUEUED w_EXECUTING w_COMPLETED w_ERROR w_ABORTED w_UNKNOWN w_HELD w_SUSPENDED w_ARCHIVED)), .val (.int (1 : Int32))] []))
      refine Rch.st (fun _ hr => XS.iconst X3.here hx rfl (hb hby at_36) hr) ?_
      show Rch p.tables e below _ (T3.setTop (mkF m 37 #[.val (.int p0), .val (.int ((p0 &&& (2147483647 : Int32)) % (10 : Int32))), .val (.ref (F1 ((p0 &&& (2147483647 : Int32)) % (10 : Int32)) w_PENDING w_QUEUED w_EXECUTING w_COMPLETED w_ERROR w_ABORTED w_UNKNOWN w_HELD w_SUSPENDED w_ARCHIVED)), .val (.int (1 : Int32))] [(.int (0 : Int32))]))
      obtain ⟨fs, hr, hrun, hended, hW, hsame⟩ := X3.leave (v := some (.int (0 : Int32))) (fun h => by rw [Bd.returns] at h; cases h)
      refine Rch.fin (u := T3.setFrames fs) (retN X3 hx (t := .boolean) Bd.returns (by simp) (hb hby at_37) hr) ⟨_, hrun, hended, _, _, rfl, ⟨?_, N3, e3⟩, ⟨_, rfl⟩, hW, hsame.mono (by decide) (by decide)⟩
      rw [show F0 p0 w_PENDING w_QUEUED w_EXECUTING w_COMPLETED w_ERROR w_ABORTED w_UNKNOWN w_HELD w_SUSPENDED w_ARCHIVED = (0 : Int32) from by unfold F0; rw [if_pos hc2, if_neg hc4]]
  · refine Rch.st (fun _ hr => XS.icmpYes X1.here hx rfl (pc0 := 15) (pc' := 22) rfl (hb hby at_15) rfl (flt hc2).2.1 (by decide) (by decide) hr) ?_
    show Rch p.tables e below _ (T1.setTop (mkF m 22 #[.val (.int p0), .val (.int ((p0 &&& (2147483647 : Int32)) % (10 : Int32))), .val (.ref (F1 ((p0 &&& (2147483647 : Int32)) % (10 : Int32)) w_PENDING w_QUEUED w_EXECUTING w_COMPLETED w_ERROR w_ABORTED w_UNKNOWN w_HELD w_SUSPENDED w_ARCHIVED)), .unset] []))
    refine Rch.st (fun _ hr => XS.iconst X1.here hx rfl (hb hby at_22) hr) ?_
    show Rch p.tables e below _ (T1.setTop (mkF m 23 #[.val (.int p0), .val (.int ((p0 &&& (2147483647 : Int32)) % (10 : Int32))), .val (.ref (F1 ((p0 &&& (2147483647 : Int32)) % (10 : Int32)) w_PENDING w_QUEUED w_EXECUTING w_COMPLETED w_ERROR w_ABORTED w_UNKNOWN w_HELD w_SUSPENDED w_ARCHIVED)), .unset] [(.int (0 : Int32))]))
    refine Rch.st (fun _ hr => XS.istoreN X1.here hx rfl (hb hby at_23) rfl (l' := #[.val (.int p0), .val (.int ((p0 &&& (2147483647 : Int32)) % (10 : Int32))), .val (.ref (F1 ((p0 &&& (2147483647 : Int32)) % (10 : Int32)) w_PENDING w_QUEUED w_EXECUTING w_COMPLETED w_ERROR w_ABORTED w_UNKNOWN w_HELD w_SUSPENDED w_ARCHIVED)), .val (.int (0 : Int32))]) rfl hr) ?_
    show Rch p.tables e below _ (T1.setTop (mkF m 24 #[.val (.int p0), .val (.int ((p0 &&& (2147483647 : Int32)) % (10 : Int32))), .val (.ref (F1 ((p0 &&& (2147483647 : Int32)) % (10 : Int32)) w_PENDING w_QUEUED w_EXECUTING w_COMPLETED w_ERROR w_ABORTED w_UNKNOWN w_HELD w_SUSPENDED w_ARCHIVED)), .val (.int (0 : Int32))] []))
    refine Rch.st (fun _ hr => XS.aloadN X1.here hx rfl (hb hby at_24) rfl rfl hr) ?_
    show Rch p.tables e below _ (T1.setTop (mkF m 25 #[.val (.int p0), .val (.int ((p0 &&& (2147483647 : Int32)) % (10 : Int32))), .val (.ref (F1 ((p0 &&& (2147483647 : Int32)) % (10 : Int32)) w_PENDING w_QUEUED w_EXECUTING w_COMPLETED w_ERROR w_ABORTED w_UNKNOWN w_HELD w_SUSPENDED w_ARCHIVED)), .val (.int (0 : Int32))] [(.ref (F1 ((p0 &&& (2147483647 : Int32)) % (10 : Int32)) w_PENDING w_QUEUED w_EXECUTING w_COMPLETED w_ERROR w_ABORTED w_UNKNOWN w_HELD w_SUSPENDED w_ARCHIVED))]))
    obtain ⟨cq7, kq7, q7a, q7b, q7c⟩ := isOf hZ e1 E_x0
    obtain ⟨_, _, ⟨T7, L7, k7, n7⟩, -, X7, ⟨Lc7, hQ7, l7, y7, z7⟩, st7⟩ := X1.virtualBack hx (y := (⟨"com/example/saanich/saanich/uws/Phase", "active", "()Z"⟩ : MethodName)) (z := (⟨"com/example/saanich/saanich/uws/Phase", "active", "()Z"⟩ : MethodName)) hown (mvT hZ (own_w hw 8 rfl)) (mvT hZ (own_w hw 9 rfl)) (notFace_of_selects (args := #[]) (mvT hZ (own_w hw 11 rfl))) (mvT hZ (own_w hw 11 rfl)) (mvT hZ (own_w hw 10 rfl)) (by decide) (backOf (W := 0) (b2 l Z a0 hw [] (F1 ((p0 &&& (2147483647 : Int32)) % (10 : Int32)) w_PENDING w_QUEUED w_EXECUTING w_COMPLETED w_ERROR w_ABORTED w_UNKNOWN w_HELD w_SUSPENDED w_ARCHIVED) w_PENDING w_QUEUED w_EXECUTING h0 n0 H_w_PENDING H_w_QUEUED H_w_EXECUTING) hZ (own_w hw 12 rfl) (own_w hw 6 rfl) (by decide) (by decide)) q7a q7c (g := (mkF m 25 #[.val (.int p0), .val (.int ((p0 &&& (2147483647 : Int32)) % (10 : Int32))), .val (.ref (F1 ((p0 &&& (2147483647 : Int32)) % (10 : Int32)) w_PENDING w_QUEUED w_EXECUTING w_COMPLETED w_ERROR w_ABORTED w_UNKNOWN w_HELD w_SUSPENDED w_ARCHIVED)), .val (.int (0 : Int32))] [(.ref (F1 ((p0 &&& (2147483647 : Int32)) % (10 : Int32)) w_PENDING w_QUEUED w_EXECUTING w_COMPLETED w_ERROR w_ABORTED w_UNKNOWN w_HELD w_SUSPENDED w_ARCHIVED))])) rfl (by rw [hml]; rfl) (Steps.refl _) (argsL := []) (rest := []) (lenOf pd_1 rfl) rfl (by show 2 * 0 + _ ≤ _; exact Nat.le_of_eq rfl) (hb hby at_25) (fun _ _ => ⟨rfl, e1, (by decide : 0 + 0 ≤ _), (by decide : 0 + 0 ≤ _)⟩)
    dsimp only [Pt.U, Pt.locs, Pt.cells, Pt.slots] at X7 l7 y7 z7 st7 hQ7
    subst l7 y7 z7
    obtain ⟨rfl, N7q, e7⟩ := hQ7
    have N7 := Fr.app N1 N7q
    refine Rch.tr st7 ?_
    show Rch p.tables e below _ (T7.setTop (mkF m 28 #[.val (.int p0), .val (.int ((p0 &&& (2147483647 : Int32)) % (10 : Int32))), .val (.ref (F1 ((p0 &&& (2147483647 : Int32)) % (10 : Int32)) w_PENDING w_QUEUED w_EXECUTING w_COMPLETED w_ERROR w_ABORTED w_UNKNOWN w_HELD w_SUSPENDED w_ARCHIVED)), .val (.int (0 : Int32))] [(.int (F2 (F1 ((p0 &&& (2147483647 : Int32)) % (10 : Int32)) w_PENDING w_QUEUED w_EXECUTING w_COMPLETED w_ERROR w_ABORTED w_UNKNOWN w_HELD w_SUSPENDED w_ARCHIVED) w_PENDING w_QUEUED w_EXECUTING))]))
    refine Rch.st (fun _ hr => XS.iloadN X7.here hx rfl (hb hby at_28) rfl hr) ?_
    show Rch p.tables e below _ (T7.setTop (mkF m 29 #[.val (.int p0), .val (.int ((p0 &&& (2147483647 : Int32)) % (10 : Int32))), .val (.ref (F1 ((p0 &&& (2147483647 : Int32)) % (10 : Int32)) w_PENDING w_QUEUED w_EXECUTING w_COMPLETED w_ERROR w_ABORTED w_UNKNOWN w_HELD w_SUSPENDED w_ARCHIVED)), .val (.int (0 : Int32))] [(.int (0 : Int32)), (.int (F2 (F1 ((p0 &&& (2147483647 : Int32)) % (10 : Int32)) w_PENDING w_QUEUED w_EXECUTING w_COMPLETED w_ERROR w_ABORTED w_UNKNOWN w_HELD w_SUSPENDED w_ARCHIVED) w_PENDING w_QUEUED w_EXECUTING))]))
    by_cases hc8 : (F2 (F1 ((p0 &&& (2147483647 : Int32)) % (10 : Int32)) w_PENDING w_QUEUED w_EXECUTING w_COMPLETED w_ERROR w_ABORTED w_UNKNOWN w_HELD w_SUSPENDED w_ARCHIVED) w_PENDING w_QUEUED w_EXECUTING) = (0 : Int32)
    · refine Rch.st (fun _ hr => XS.icmpNo X7.here hx rfl (hb hby at_29) rfl (teq hc8).2 hr) ?_
      show Rch p.tables e below _ (T7.setTop (mkF m 32 #[.val (.int p0), .val (.int ((p0 &&& (2147483647 : Int32)) % (10 : Int32))), .val (.ref (F1 ((p0 &&& (2147483647 : Int32)) % (10 : Int32)) w_PENDING w_QUEUED w_EXECUTING w_COMPLETED w_ERROR w_ABORTED w_UNKNOWN w_HELD w_SUSPENDED w_ARCHIVED)), .val (.int (0 : Int32))] []))
      refine Rch.st (fun _ hr => XS.iconst X7.here hx rfl (hb hby at_32) hr) ?_
      show Rch p.tables e below _ (T7.setTop (mkF m 33 #[.val (.int p0), .val (.int ((p0 &&& (2147483647 : Int32)) % (10 : Int32))), .val (.ref (F1 ((p0 &&& (2147483647 : Int32)) % (10 : Int32)) w_PENDING w_QUEUED w_EXECUTING w_COMPLETED w_ERROR w_ABORTED w_UNKNOWN w_HELD w_SUSPENDED w_ARCHIVED)), .val (.int (0 : Int32))] [(.int (1 : Int32))]))
      refine Rch.st (fun _ hr => XS.goto X7.here hx rfl (pc0 := 33) (pc' := 37) rfl (hb hby at_33) (by decide) (by decide) hr) ?_
      show Rch p.tables e below _ (T7.setTop (mkF m 37 #[.val (.int p0), .val (.int ((p0 &&& (2147483647 : Int32)) % (10 : Int32))), .val (.ref (F1 ((p0 &&& (2147483647 : Int32)) % (10 : Int32)) w_PENDING w_QUEUED w_EXECUTING w_COMPLETED w_ERROR w_ABORTED w_UNKNOWN w_HELD w_SUSPENDED w_ARCHIVED)), .val (.int (0 : Int32))] [(.int (1 : Int32))]))
      obtain ⟨fs, hr, hrun, hended, hW, hsame⟩ := X7.leave (v := some (.int (1 : Int32))) (fun h => by rw [Bd.returns] at h; cases h)
      refine Rch.fin (u := T7.setFrames fs) (retN X7 hx (t := .boolean) Bd.returns (by simp) (hb hby at_37) hr) ⟨_, hrun, hended, _, _, rfl, ⟨?_, N7, e7⟩, ⟨_, rfl⟩, hW, hsame.mono (by decide) (by decide)⟩
      rw [show F0 p0 w_PENDING w_QUEUED w_EXECUTING w_COMPLETED w_ERROR w_ABORTED w_UNKNOWN w_HELD w_SUSPENDED w_ARCHIVED = (1 : Int32) from by unfold F0; rw [if_neg hc2, if_pos hc8]]
    · refine Rch.st (fun _ hr => XS.icmpYes X7.here hx rfl (pc0 := 29) (pc' := 36) rfl (hb hby at_29) rfl (feq hc8).2 (by decide) (by decide) hr) ?_
      show Rch p.tables e below _ (T7.setTop (mkF m 36 #[.val (.int p0), .val (.int ((p0 &&& (2147483647 : Int32)) % (10 : Int32))), .val (.ref (F1 ((p0 &&& (2147483647 : Int32)) % (10 : Int32)) w_PENDING w_QUEUED w_EXECUTING w_COMPLETED w_ERROR w_ABORTED w_UNKNOWN w_HELD w_SUSPENDED w_ARCHIVED)), .val (.int (0 : Int32))] []))
      refine Rch.st (fun _ hr => XS.iconst X7.here hx rfl (hb hby at_36) hr) ?_
      show Rch p.tables e below _ (T7.setTop (mkF m 37 #[.val (.int p0), .val (.int ((p0 &&& (2147483647 : Int32)) % (10 : Int32))), .val (.ref (F1 ((p0 &&& (2147483647 : Int32)) % (10 : Int32)) w_PENDING w_QUEUED w_EXECUTING w_COMPLETED w_ERROR w_ABORTED w_UNKNOWN w_HELD w_SUSPENDED w_ARCHIVED)), .val (.int (0 : Int32))] [(.int (0 : Int32))]))
      obtain ⟨fs, hr, hrun, hended, hW, hsame⟩ := X7.leave (v := some (.int (0 : Int32))) (fun h => by rw [Bd.returns] at h; cases h)
      refine Rch.fin (u := T7.setFrames fs) (retN X7 hx (t := .boolean) Bd.returns (by simp) (hb hby at_37) hr) ⟨_, hrun, hended, _, _, rfl, ⟨?_, N7, e7⟩, ⟨_, rfl⟩, hW, hsame.mono (by decide) (by decide)⟩
      rw [show F0 p0 w_PENDING w_QUEUED w_EXECUTING w_COMPLETED w_ERROR w_ABORTED w_UNKNOWN w_HELD w_SUSPENDED w_ARCHIVED = (0 : Int32) from by unfold F0; rw [if_neg hc2, if_neg hc8]]
theorem own_exa {Z : State} {h : Heap} (k : Int32) (PENDING QUEUED EXECUTING COMPLETED ERROR ABORTED UNKNOWN HELD SUSPENDED ARCHIVED : Addr) (e_PENDING : Exa Z h PENDING "com/example/saanich/saanich/uws/Phase") (e_QUEUED : Exa Z h QUEUED "com/example/saanich/saanich/uws/Phase") (e_EXECUTING : Exa Z h EXECUTING "com/example/saanich/saanich/uws/Phase") (e_COMPLETED : Exa Z h COMPLETED "com/example/saanich/saanich/uws/Phase") (e_ERROR : Exa Z h ERROR "com/example/saanich/saanich/uws/Phase") (e_ABORTED : Exa Z h ABORTED "com/example/saanich/saanich/uws/Phase") (e_UNKNOWN : Exa Z h UNKNOWN "com/example/saanich/saanich/uws/Phase") (e_HELD : Exa Z h HELD "com/example/saanich/saanich/uws/Phase") (e_SUSPENDED : Exa Z h SUSPENDED "com/example/saanich/saanich/uws/Phase") (e_ARCHIVED : Exa Z h ARCHIVED "com/example/saanich/saanich/uws/Phase") : Exa Z h (F1 k PENDING QUEUED EXECUTING COMPLETED ERROR ABORTED UNKNOWN HELD SUSPENDED ARCHIVED) "com/example/saanich/saanich/uws/Phase" := by
  unfold F1
  repeat' split
  all_goals assumption
theorem own_nn (x : Int32) : ¬ (x &&& 2147483647) % 10 < 0 := by
  have h1 := c_mask x 2147483647 31 (by decide) (by decide)
  have h2 := (c_irem (x &&& 2147483647) 10 10 (by decide)).1 (by rw [h1]; omega)
  have h0 : (0 : Int32).toInt = 0 := rfl
  rw [Int32.lt_iff_toInt_lt, h2, h1, h0]
  omega
theorem own_three (k : Int32) (h : ¬ k < 0) (h0 : ¬ k = 0) (h1 : ¬ k = 1) (h2 : ¬ k = 2) : ¬ k < 3 := by
  rw [Int32.lt_iff_toInt_lt] at *
  rw [← Int32.toInt_inj] at h0 h1 h2
  have e0 : (0 : Int32).toInt = 0 := rfl
  have e1 : (1 : Int32).toInt = 1 := rfl
  have e2 : (2 : Int32).toInt = 2 := rfl
  have e3 : (3 : Int32).toInt = 3 := rfl
  omega
theorem own_plain (x : Int32) (PENDING QUEUED EXECUTING COMPLETED ERROR ABORTED UNKNOWN HELD SUSPENDED ARCHIVED : Addr) (n0 : PENDING ≠ QUEUED) (n1 : PENDING ≠ EXECUTING) (n2 : QUEUED ≠ PENDING) (n3 : QUEUED ≠ EXECUTING) (n4 : EXECUTING ≠ PENDING) (n5 : EXECUTING ≠ QUEUED) (n6 : COMPLETED ≠ PENDING) (n7 : COMPLETED ≠ QUEUED) (n8 : COMPLETED ≠ EXECUTING) (n9 : ERROR ≠ PENDING) (n10 : ERROR ≠ QUEUED) (n11 : ERROR ≠ EXECUTING) (n12 : ABORTED ≠ PENDING) (n13 : ABORTED ≠ QUEUED) (n14 : ABORTED ≠ EXECUTING) (n15 : UNKNOWN ≠ PENDING) (n16 : UNKNOWN ≠ QUEUED) (n17 : UNKNOWN ≠ EXECUTING) (n18 : HELD ≠ PENDING) (n19 : HELD ≠ QUEUED) (n20 : HELD ≠ EXECUTING) (n21 : SUSPENDED ≠ PENDING) (n22 : SUSPENDED ≠ QUEUED) (n23 : SUSPENDED ≠ EXECUTING) (n24 : ARCHIVED ≠ PENDING) (n25 : ARCHIVED ≠ QUEUED) (n26 : ARCHIVED ≠ EXECUTING) : F0 x PENDING QUEUED EXECUTING COMPLETED ERROR ABORTED UNKNOWN HELD SUSPENDED ARCHIVED = 1 := by
  have h := own_nn x
  unfold F0
  generalize (x &&& 2147483647) % 10 = k at h
  by_cases h0 : k = 0
  · subst h0; simp [F1, F2, n0, n1, n2, n3, n4, n5, n6, n7, n8, n9, n10, n11, n12, n13, n14, n15, n16, n17, n18, n19, n20, n21, n22, n23, n24, n25, n26]
  by_cases h1 : k = 1
  · subst h1; simp [F1, F2, n0, n1, n2, n3, n4, n5, n6, n7, n8, n9, n10, n11, n12, n13, n14, n15, n16, n17, n18, n19, n20, n21, n22, n23, n24, n25, n26]
  by_cases h2 : k = 2
  · subst h2; simp [F1, F2, n0, n1, n2, n3, n4, n5, n6, n7, n8, n9, n10, n11, n12, n13, n14, n15, n16, n17, n18, n19, n20, n21, n22, n23, n24, n25, n26]
  rw [if_neg (own_three k h h0 h1 h2)]
  have hx : F1 k PENDING QUEUED EXECUTING COMPLETED ERROR ABORTED UNKNOWN HELD SUSPENDED ARCHIVED ≠ PENDING ∧ F1 k PENDING QUEUED EXECUTING COMPLETED ERROR ABORTED UNKNOWN HELD SUSPENDED ARCHIVED ≠ QUEUED ∧ F1 k PENDING QUEUED EXECUTING COMPLETED ERROR ABORTED UNKNOWN HELD SUSPENDED ARCHIVED ≠ EXECUTING := by
    unfold F1; rw [if_neg h0, if_neg h1, if_neg h2]
    repeat' split
    all_goals exact ⟨by assumption, by assumption, by assumption⟩
  simp [F2, hx]
set_option maxRecDepth 65536 in
set_option maxHeartbeats 40000000 in
theorem comes_1 {Post : Tables → Env → Array Value → State → Outcome → State → Prop} (hpost : ∀ tb e args s v u, (limb_1_1.after args s (.returned v) u = true ∧ limb_1_2.after args s (.returned v) u = true ∧ True) → FrameEnd s (.returned v) u (Jvm.fieldLocs frame_1_writes args s ++ Jvm.arrayLocs frame_1_arrays args s ++ Jvm.staticLocs frame_1_statics s) 0 0 → Post tb e args s (.returned v) u) :
    ArmFor flags0 classFile x code maxLocals ret World_1 tables_1 room_1 Calls_1 rest_1 Pre_1 Post := by
  intro l hfl _ _ p e ha hc hk s m args below hf hA hF happ hP
  obtain ⟨hcalls, hrest, hpre⟩ := hP
  obtain ⟨-, -, -, hnamed, -, -, -, hat⟩ := (Spec.applies_iff hf).mp happ
  obtain ⟨hg, hn⟩ := and_e (Cond.before_iff.mp (show (Jvm.Cond.and given_1 narrow_1).before args s = true from hpre))
  obtain ⟨g1, g2⟩ := and_e hg
  obtain ⟨g3, g4⟩ := and_e hn
  obtain ⟨g5, g6⟩ := and_e g4
  obtain ⟨g7, g8⟩ := and_e g6
  obtain ⟨g9, g10⟩ := and_e g8
  obtain ⟨g11, g12⟩ := and_e g10
  obtain ⟨g13, g14⟩ := and_e g12
  obtain ⟨g15, g16⟩ := and_e g14
  obtain ⟨g17, g18⟩ := and_e g16
  obtain ⟨g19, g20⟩ := and_e g18
  obtain ⟨g21, g22⟩ := and_e g20
  obtain ⟨g23, g24⟩ := and_e g22
  obtain ⟨g25, g26⟩ := and_e g24
  obtain ⟨g27, g28⟩ := and_e g26
  obtain ⟨g29, g30⟩ := and_e g28
  obtain ⟨g31, g32⟩ := and_e g30
  obtain ⟨g33, g34⟩ := and_e g32
  obtain ⟨g35, g36⟩ := and_e g34
  obtain ⟨g37, g38⟩ := and_e g36
  obtain ⟨g39, g40⟩ := and_e g38
  obtain ⟨v0, rfl⟩ : ∃ v0 : Value, args = #[v0] := by
    have hs : args.size = 1 := by simpa [Cond.value, given_1] using g1
    obtain ⟨L⟩ := args
    match L, hs with
    | [v0], _ => exact ⟨v0, rfl⟩
  have hw := fun d (hd : d ∈ tables_1) => atoms_spec (ws := Jvm.Cond.code x code maxLocals ret :: tables_1) hat d (List.mem_cons_of_mem _ hd)
  obtain ⟨i0, ei0⟩ := is_v g2
  obtain rfl : v0 = (.int i0) := Option.some.inj ei0
  obtain ⟨w_PENDING, ev_w_PENDING⟩ := exa_v g3
  have E_w_PENDING := Exa.start ev_w_PENDING g3
  have H_w_PENDING := Sta.start ev_w_PENDING (Or.inr ⟨(own_w hw 6 rfl), (own_w hw 7 rfl)⟩)
  obtain ⟨w_COMPLETED, ev_w_COMPLETED⟩ := exa_v g5
  have E_w_COMPLETED := Exa.start ev_w_COMPLETED g5
  have H_w_COMPLETED := Sta.start ev_w_COMPLETED (Or.inr ⟨(own_w hw 6 rfl), (own_w hw 15 rfl)⟩)
  obtain ⟨w_QUEUED, ev_w_QUEUED⟩ := exa_v g11
  have E_w_QUEUED := Exa.start ev_w_QUEUED g11
  have H_w_QUEUED := Sta.start ev_w_QUEUED (Or.inr ⟨(own_w hw 6 rfl), (own_w hw 17 rfl)⟩)
  obtain ⟨w_EXECUTING, ev_w_EXECUTING⟩ := exa_v g15
  have E_w_EXECUTING := Exa.start ev_w_EXECUTING g15
  have H_w_EXECUTING := Sta.start ev_w_EXECUTING (Or.inr ⟨(own_w hw 6 rfl), (own_w hw 19 rfl)⟩)
  obtain ⟨w_ERROR, ev_w_ERROR⟩ := exa_v g19
  have E_w_ERROR := Exa.start ev_w_ERROR g19
  have H_w_ERROR := Sta.start ev_w_ERROR (Or.inr ⟨(own_w hw 6 rfl), (own_w hw 22 rfl)⟩)
  obtain ⟨w_HELD, ev_w_HELD⟩ := exa_v g23
  have E_w_HELD := Exa.start ev_w_HELD g23
  have H_w_HELD := Sta.start ev_w_HELD (Or.inr ⟨(own_w hw 6 rfl), (own_w hw 24 rfl)⟩)
  obtain ⟨w_SUSPENDED, ev_w_SUSPENDED⟩ := exa_v g27
  have E_w_SUSPENDED := Exa.start ev_w_SUSPENDED g27
  have H_w_SUSPENDED := Sta.start ev_w_SUSPENDED (Or.inr ⟨(own_w hw 6 rfl), (own_w hw 27 rfl)⟩)
  obtain ⟨w_ARCHIVED, ev_w_ARCHIVED⟩ := exa_v g31
  have E_w_ARCHIVED := Exa.start ev_w_ARCHIVED g31
  have H_w_ARCHIVED := Sta.start ev_w_ARCHIVED (Or.inr ⟨(own_w hw 6 rfl), (own_w hw 29 rfl)⟩)
  obtain ⟨w_ABORTED, ev_w_ABORTED⟩ := exa_v g35
  have E_w_ABORTED := Exa.start ev_w_ABORTED g35
  have H_w_ABORTED := Sta.start ev_w_ABORTED (Or.inr ⟨(own_w hw 6 rfl), (own_w hw 31 rfl)⟩)
  obtain ⟨w_UNKNOWN, ev_w_UNKNOWN⟩ := exa_v g39
  have E_w_UNKNOWN := Exa.start ev_w_UNKNOWN g39
  have H_w_UNKNOWN := Sta.start ev_w_UNKNOWN (Or.inr ⟨(own_w hw 6 rfl), (own_w hw 33 rfl)⟩)
  have U_ordinal_w_COMPLETED : Fld s s.heap w_COMPLETED "java/lang/Enum" "ordinal" "I" (.int (3 : Int32)) := Fld.start ((fld_at ev_w_COMPLETED).symm.trans (own_eqInt g7))
  have U_ordinal_w_PENDING : Fld s s.heap w_PENDING "java/lang/Enum" "ordinal" "I" (.int (0 : Int32)) := Fld.start ((fld_at ev_w_PENDING).symm.trans (own_eqInt g9))
  have U_ordinal_w_QUEUED : Fld s s.heap w_QUEUED "java/lang/Enum" "ordinal" "I" (.int (1 : Int32)) := Fld.start ((fld_at ev_w_QUEUED).symm.trans (own_eqInt g13))
  have U_ordinal_w_EXECUTING : Fld s s.heap w_EXECUTING "java/lang/Enum" "ordinal" "I" (.int (2 : Int32)) := Fld.start ((fld_at ev_w_EXECUTING).symm.trans (own_eqInt g17))
  have U_ordinal_w_ERROR : Fld s s.heap w_ERROR "java/lang/Enum" "ordinal" "I" (.int (4 : Int32)) := Fld.start ((fld_at ev_w_ERROR).symm.trans (own_eqInt g21))
  have U_ordinal_w_HELD : Fld s s.heap w_HELD "java/lang/Enum" "ordinal" "I" (.int (7 : Int32)) := Fld.start ((fld_at ev_w_HELD).symm.trans (own_eqInt g25))
  have U_ordinal_w_SUSPENDED : Fld s s.heap w_SUSPENDED "java/lang/Enum" "ordinal" "I" (.int (8 : Int32)) := Fld.start ((fld_at ev_w_SUSPENDED).symm.trans (own_eqInt g29))
  have U_ordinal_w_ARCHIVED : Fld s s.heap w_ARCHIVED "java/lang/Enum" "ordinal" "I" (.int (9 : Int32)) := Fld.start ((fld_at ev_w_ARCHIVED).symm.trans (own_eqInt g33))
  have U_ordinal_w_ABORTED : Fld s s.heap w_ABORTED "java/lang/Enum" "ordinal" "I" (.int (5 : Int32)) := Fld.start ((fld_at ev_w_ABORTED).symm.trans (own_eqInt g37))
  have U_ordinal_w_UNKNOWN : Fld s s.heap w_UNKNOWN "java/lang/Enum" "ordinal" "I" (.int (6 : Int32)) := Fld.start ((fld_at ev_w_UNKNOWN).symm.trans (own_eqInt g40))
  have n_w_PENDING_w_QUEUED : w_PENDING ≠ w_QUEUED := Fld.ne U_ordinal_w_PENDING U_ordinal_w_QUEUED (fun q => absurd (Value.int.inj q) (by decide))
  have n_w_PENDING_w_EXECUTING : w_PENDING ≠ w_EXECUTING := Fld.ne U_ordinal_w_PENDING U_ordinal_w_EXECUTING (fun q => absurd (Value.int.inj q) (by decide))
  have n_w_QUEUED_w_PENDING : w_QUEUED ≠ w_PENDING := Fld.ne U_ordinal_w_QUEUED U_ordinal_w_PENDING (fun q => absurd (Value.int.inj q) (by decide))
  have n_w_QUEUED_w_EXECUTING : w_QUEUED ≠ w_EXECUTING := Fld.ne U_ordinal_w_QUEUED U_ordinal_w_EXECUTING (fun q => absurd (Value.int.inj q) (by decide))
  have n_w_EXECUTING_w_PENDING : w_EXECUTING ≠ w_PENDING := Fld.ne U_ordinal_w_EXECUTING U_ordinal_w_PENDING (fun q => absurd (Value.int.inj q) (by decide))
  have n_w_EXECUTING_w_QUEUED : w_EXECUTING ≠ w_QUEUED := Fld.ne U_ordinal_w_EXECUTING U_ordinal_w_QUEUED (fun q => absurd (Value.int.inj q) (by decide))
  have n_w_COMPLETED_w_PENDING : w_COMPLETED ≠ w_PENDING := Fld.ne U_ordinal_w_COMPLETED U_ordinal_w_PENDING (fun q => absurd (Value.int.inj q) (by decide))
  have n_w_COMPLETED_w_QUEUED : w_COMPLETED ≠ w_QUEUED := Fld.ne U_ordinal_w_COMPLETED U_ordinal_w_QUEUED (fun q => absurd (Value.int.inj q) (by decide))
  have n_w_COMPLETED_w_EXECUTING : w_COMPLETED ≠ w_EXECUTING := Fld.ne U_ordinal_w_COMPLETED U_ordinal_w_EXECUTING (fun q => absurd (Value.int.inj q) (by decide))
  have n_w_ERROR_w_PENDING : w_ERROR ≠ w_PENDING := Fld.ne U_ordinal_w_ERROR U_ordinal_w_PENDING (fun q => absurd (Value.int.inj q) (by decide))
  have n_w_ERROR_w_QUEUED : w_ERROR ≠ w_QUEUED := Fld.ne U_ordinal_w_ERROR U_ordinal_w_QUEUED (fun q => absurd (Value.int.inj q) (by decide))
  have n_w_ERROR_w_EXECUTING : w_ERROR ≠ w_EXECUTING := Fld.ne U_ordinal_w_ERROR U_ordinal_w_EXECUTING (fun q => absurd (Value.int.inj q) (by decide))
  have n_w_ABORTED_w_PENDING : w_ABORTED ≠ w_PENDING := Fld.ne U_ordinal_w_ABORTED U_ordinal_w_PENDING (fun q => absurd (Value.int.inj q) (by decide))
  have n_w_ABORTED_w_QUEUED : w_ABORTED ≠ w_QUEUED := Fld.ne U_ordinal_w_ABORTED U_ordinal_w_QUEUED (fun q => absurd (Value.int.inj q) (by decide))
  have n_w_ABORTED_w_EXECUTING : w_ABORTED ≠ w_EXECUTING := Fld.ne U_ordinal_w_ABORTED U_ordinal_w_EXECUTING (fun q => absurd (Value.int.inj q) (by decide))
  have n_w_UNKNOWN_w_PENDING : w_UNKNOWN ≠ w_PENDING := Fld.ne U_ordinal_w_UNKNOWN U_ordinal_w_PENDING (fun q => absurd (Value.int.inj q) (by decide))
  have n_w_UNKNOWN_w_QUEUED : w_UNKNOWN ≠ w_QUEUED := Fld.ne U_ordinal_w_UNKNOWN U_ordinal_w_QUEUED (fun q => absurd (Value.int.inj q) (by decide))
  have n_w_UNKNOWN_w_EXECUTING : w_UNKNOWN ≠ w_EXECUTING := Fld.ne U_ordinal_w_UNKNOWN U_ordinal_w_EXECUTING (fun q => absurd (Value.int.inj q) (by decide))
  have n_w_HELD_w_PENDING : w_HELD ≠ w_PENDING := Fld.ne U_ordinal_w_HELD U_ordinal_w_PENDING (fun q => absurd (Value.int.inj q) (by decide))
  have n_w_HELD_w_QUEUED : w_HELD ≠ w_QUEUED := Fld.ne U_ordinal_w_HELD U_ordinal_w_QUEUED (fun q => absurd (Value.int.inj q) (by decide))
  have n_w_HELD_w_EXECUTING : w_HELD ≠ w_EXECUTING := Fld.ne U_ordinal_w_HELD U_ordinal_w_EXECUTING (fun q => absurd (Value.int.inj q) (by decide))
  have n_w_SUSPENDED_w_PENDING : w_SUSPENDED ≠ w_PENDING := Fld.ne U_ordinal_w_SUSPENDED U_ordinal_w_PENDING (fun q => absurd (Value.int.inj q) (by decide))
  have n_w_SUSPENDED_w_QUEUED : w_SUSPENDED ≠ w_QUEUED := Fld.ne U_ordinal_w_SUSPENDED U_ordinal_w_QUEUED (fun q => absurd (Value.int.inj q) (by decide))
  have n_w_SUSPENDED_w_EXECUTING : w_SUSPENDED ≠ w_EXECUTING := Fld.ne U_ordinal_w_SUSPENDED U_ordinal_w_EXECUTING (fun q => absurd (Value.int.inj q) (by decide))
  have n_w_ARCHIVED_w_PENDING : w_ARCHIVED ≠ w_PENDING := Fld.ne U_ordinal_w_ARCHIVED U_ordinal_w_PENDING (fun q => absurd (Value.int.inj q) (by decide))
  have n_w_ARCHIVED_w_QUEUED : w_ARCHIVED ≠ w_QUEUED := Fld.ne U_ordinal_w_ARCHIVED U_ordinal_w_QUEUED (fun q => absurd (Value.int.inj q) (by decide))
  have n_w_ARCHIVED_w_EXECUTING : w_ARCHIVED ≠ w_EXECUTING := Fld.ne U_ordinal_w_ARCHIVED U_ordinal_w_EXECUTING (fun q => absurd (Value.int.inj q) (by decide))
  have hF1 : F0 i0 w_PENDING w_QUEUED w_EXECUTING w_COMPLETED w_ERROR w_ABORTED w_UNKNOWN w_HELD w_SUSPENDED w_ARCHIVED = 1 := own_plain _ _ _ _ _ _ _ _ _ _ _ n_w_PENDING_w_QUEUED n_w_PENDING_w_EXECUTING n_w_QUEUED_w_PENDING n_w_QUEUED_w_EXECUTING n_w_EXECUTING_w_PENDING n_w_EXECUTING_w_QUEUED n_w_COMPLETED_w_PENDING n_w_COMPLETED_w_QUEUED n_w_COMPLETED_w_EXECUTING n_w_ERROR_w_PENDING n_w_ERROR_w_QUEUED n_w_ERROR_w_EXECUTING n_w_ABORTED_w_PENDING n_w_ABORTED_w_QUEUED n_w_ABORTED_w_EXECUTING n_w_UNKNOWN_w_PENDING n_w_UNKNOWN_w_QUEUED n_w_UNKNOWN_w_EXECUTING n_w_HELD_w_PENDING n_w_HELD_w_QUEUED n_w_HELD_w_EXECUTING n_w_SUSPENDED_w_PENDING n_w_SUSPENDED_w_QUEUED n_w_SUSPENDED_w_EXECUTING n_w_ARCHIVED_w_PENDING n_w_ARCHIVED_w_QUEUED n_w_ARCHIVED_w_EXECUTING
  have E_x0 := own_exa ((i0 &&& 2147483647) % 10) w_PENDING w_QUEUED w_EXECUTING w_COMPLETED w_ERROR w_ABORTED w_UNKNOWN w_HELD w_SUSPENDED w_ARCHIVED E_w_PENDING E_w_QUEUED E_w_EXECUTING E_w_COMPLETED E_w_ERROR E_w_ABORTED E_w_UNKNOWN E_w_HELD E_w_SUSPENDED E_w_ARCHIVED
  obtain ⟨n, o, h1, h2, h3, _, L, rfl, ⟨rfl, N, -⟩, hq⟩ := b0 l s _ hw tables_1 i0 w_PENDING w_QUEUED w_EXECUTING w_COMPLETED w_ERROR w_ABORTED w_UNKNOWN w_HELD w_SUSPENDED w_ARCHIVED s.heap s.heap.size H_w_PENDING H_w_QUEUED H_w_EXECUTING H_w_COMPLETED H_w_ERROR H_w_ABORTED H_w_UNKNOWN H_w_HELD H_w_SUSPENDED H_w_ARCHIVED E_x0 p e ha hc hk s m _ below hf ((Spec.applies_iff_loose hf).mp happ).1 ⟨rfl, State.Warmed39.refl s, rfl⟩ trivial
  refine ⟨n, _, h1, h2, h3, hpost _ _ _ _ _ _ ⟨Cond.after_iff.mpr rfl, Cond.after_iff.mpr (eq_i res_at (Term.int_eval (1)) (congrArg Value.int hF1)), trivial⟩ ⟨hq.1, hq.2.1, (hq.2.2.sift fun y hy => Or.inr (N y hy)).mono (by decide) (by decide)⟩⟩
theorem main_1_1 : Claimed_1_1 := comes_1 fun _ _ _ _ _ _ h hF => ⟨h.1, hF⟩
theorem main_1_2 : Claimed_1_2 := comes_1 fun _ _ _ _ _ _ h hF => ⟨h.2.1, hF⟩
end Jvm.Pilot.@@N@@
namespace Jvm.Pilot.@@N@@
open Jvm Jvm.ClassFile Sem Op Lib Jvm.Free Jvm.Stand Jvm.Pilot.@@N@@.Jvm.D
/-! MADE BY PROGRAM (witnessworld.py) out of the Statement's table words and the real class files: 10 classes; the members and pool entries that the words name. The judged class is class 1, her method 2. -/
namespace start1
open Jvm.ClassFile
def u (s : String) : CpInfo := .utf8 (stringToUtf16 s)
/-- a pool by its gaps: so many unusable entries, then the entry; so many at the end -/
def gap : Nat → List CpInfo → List CpInfo
  | 0, r => r
  | n + 1, r => .unusable :: gap n r
def poolList (es : List (Nat × CpInfo)) (last : Nat) : List CpInfo := es.foldr (fun e r => gap e.1 (e.2 :: r)) (gap last [])
def pool (es : List (Nat × CpInfo)) (last : Nat) : Array CpInfo := ⟨poolList es last⟩
def fileOf (pool : Array CpInfo) (this : Nat) (attrs : Array Attribute := #[]) (ms : Array MethodInfo := #[]) (fl : Nat := 33) (sup : Nat := 0) (ifs : Array Nat := #[]) (fds : Array FieldInfo := #[]) : ClassFile where
  minorVersion := 0
  majorVersion := 65
  constantPool := pool
  accessFlags := fl
  thisClass := this
  superClass := sup
  interfaces := ifs
  fields := fds
  methods := ms
  attributes := attrs
def plain (name : String) (sup : Option ClassId) : Class where
  name := name
  kind := .ordinary
  loader := none
  accessFlags := 33
  super := sup
  interfaces := #[]
  cf := none
  fields := #[]
  methods := #[]
  instanceTypes := #[]
  staticTypes := #[]
  resolved := #[]
  callSites := []
  init := .initialized
  statics := none
  mirror := none

def pool0 : Array CpInfo := pool [(5, u "<init>"), (0, u "()V"), (1, .class_ 10), (1, u "java/lang/Object")] 113

def k0m0 : Method := { name := "<init>", desc := "()V", sig := { parameters := [], returnType := none }, accessFlags := 1, code := none }
/-- java/lang/Object -/
def k0 : Class := { plain "java/lang/Object" none with
  accessFlags := 33
  interfaces := #[]
  cf := some (fileOf pool0 8 #[] #[{ accessFlags := 1, nameIndex := 5, descriptorIndex := 6, attributes := #[] }] 33 0 #[] #[])
  fields := #[]
  methods := #[k0m0]
  instanceTypes := #[]
  staticTypes := #[]
  resolved := Array.replicate 124 none
  statics := none }

def pool1 : Array CpInfo := pool [(2, .class_ 4), (1, u "java/lang/Object"), (0, u "<init>"), (0, u "()V"), (0, .fieldref 8 9), (0, .class_ 10), (0, .nameAndType 11 12), (0, u "com/example/saanich/saanich/uws/Phase"), (0, u "PENDING"), (0, u "Lcom/example/saanich/saanich/uws/Phase;"), (0, .fieldref 8 14), (0, .nameAndType 15 12), (0, u "QUEUED"), (0, .fieldref 8 17), (0, .nameAndType 18 12), (0, u "EXECUTING"), (0, .fieldref 8 20), (0, .nameAndType 21 12), (0, u "COMPLETED"), (0, .fieldref 8 23), (0, .nameAndType 24 12), (0, u "ERROR"), (0, .fieldref 8 26), (0, .nameAndType 27 12), (0, u "ABORTED"), (0, .fieldref 8 29), (0, .nameAndType 30 12), (0, u "UNKNOWN"), (0, .fieldref 8 32), (0, .nameAndType 33 12), (0, u "HELD"), (0, .fieldref 8 35), (0, .nameAndType 36 12), (0, u "SUSPENDED"), (0, .fieldref 8 38), (0, .nameAndType 39 12), (0, u "ARCHIVED"), (0, .integer 2147483647), (0, .methodref 42 43), (0, .class_ 44), (0, .nameAndType 45 46), (0, u "com/example/saanich/saanich/uws/PhaseActivePinLaw"), (0, u "pick"), (0, u "(I)Lcom/example/saanich/saanich/uws/Phase;"), (0, .methodref 8 48), (0, .nameAndType 49 50), (0, u "active"), (0, u "()Z"), (3, u "law"), (0, u "(I)Z")] 2

def k1m0 : Method := { name := "<init>", desc := "()V", sig := { parameters := [], returnType := none }, accessFlags := 2, code := none }
def k1c1 : Code := { maxStack := 2, maxLocals := 1, code := method_2_code, exceptionTable := #[], attributes := #[] }
def k1m1 : Method := { name := "pick", desc := "(I)Lcom/example/saanich/saanich/uws/Phase;", sig := { parameters := [.int], returnType := some (.object "com/example/saanich/saanich/uws/Phase") }, accessFlags := 10, code := some k1c1 }
def k1c2 : Code := { maxStack := 2, maxLocals := 4, code := code, exceptionTable := #[], attributes := #[] }
def k1m2 : Method := { name := "law", desc := "(I)Z", sig := { parameters := [.int], returnType := some .boolean }, accessFlags := 9, code := some k1c2 }
/-- com/example/saanich/saanich/uws/PhaseActivePinLaw -/
def k1 : Class := { plain "com/example/saanich/saanich/uws/PhaseActivePinLaw" (some 0) with
  accessFlags := 49
  interfaces := #[]
  cf := some (fileOf pool1 42 #[] #[{ accessFlags := 2, nameIndex := 5, descriptorIndex := 6, attributes := #[] }, { accessFlags := 10, nameIndex := 45, descriptorIndex := 46, attributes := #[] }, { accessFlags := 9, nameIndex := 54, descriptorIndex := 55, attributes := #[] }] 49 2 #[] #[])
  fields := #[]
  methods := #[k1m0, k1m1, k1m2]
  instanceTypes := #[]
  staticTypes := #[]
  resolved := Array.replicate 58 none
  statics := none }

def pool2 : Array CpInfo := pool [(1, .class_ 2), (0, u "java/lang/constant/Constable"), (0, .class_ 4), (0, u "java/lang/Object")] 6

/-- java/lang/constant/Constable -/
def k2 : Class := { plain "java/lang/constant/Constable" (some 0) with
  accessFlags := 1537
  interfaces := #[]
  cf := some (fileOf pool2 1 #[] #[] 1537 3 #[] #[])
  fields := #[]
  methods := #[]
  instanceTypes := #[]
  staticTypes := #[]
  resolved := Array.replicate 11 none
  statics := none }

def pool3 : Array CpInfo := pool [(1, .class_ 2), (0, u "java/lang/Comparable"), (0, .class_ 4), (0, u "java/lang/Object")] 7

/-- java/lang/Comparable -/
def k3 : Class := { plain "java/lang/Comparable" (some 0) with
  accessFlags := 1537
  interfaces := #[]
  cf := some (fileOf pool3 1 #[] #[] 1537 3 #[] #[])
  fields := #[]
  methods := #[]
  instanceTypes := #[]
  staticTypes := #[]
  resolved := Array.replicate 12 none
  statics := none }

def pool4 : Array CpInfo := pool [(1, .class_ 2), (0, u "java/io/Serializable"), (0, .class_ 4), (0, u "java/lang/Object")] 2

/-- java/io/Serializable -/
def k4 : Class := { plain "java/io/Serializable" (some 0) with
  accessFlags := 1537
  interfaces := #[]
  cf := some (fileOf pool4 1 #[] #[] 1537 3 #[] #[])
  fields := #[]
  methods := #[]
  instanceTypes := #[]
  staticTypes := #[]
  resolved := Array.replicate 7 none
  statics := none }

def pool5 : Array CpInfo := pool [(2, .class_ 4), (1, u "java/lang/Enum"), (0, u "name"), (0, u "Ljava/lang/String;"), (2, u "ordinal"), (0, u "I"), (1, .class_ 14), (1, u "java/lang/Object"), (4, u "hash"), (86, .class_ 108), (1, u "java/lang/Enum$EnumDesc"), (2, .class_ 112), (0, u "java/lang/constant/Constable"), (0, .class_ 114), (0, u "java/lang/Comparable"), (0, .class_ 116), (0, u "java/io/Serializable")] 87

/-- java/lang/Enum -/
def k5 : Class := { plain "java/lang/Enum" (some 0) with
  accessFlags := 1057
  interfaces := #[2, 3, 4]
  cf := some (fileOf pool5 2 #[.nestMembers #[106]] #[] 1057 12 #[111, 113, 115] #[{ accessFlags := 18, nameIndex := 5, descriptorIndex := 6, attributes := #[] }, { accessFlags := 18, nameIndex := 9, descriptorIndex := 10, attributes := #[] }, { accessFlags := 2, nameIndex := 19, descriptorIndex := 10, attributes := #[] }])
  fields := #[{ name := "name", type := (.object "java/lang/String"), accessFlags := 18, slot := 0, constantValue := 0 }, { name := "ordinal", type := .int, accessFlags := 18, slot := 1, constantValue := 0 }, { name := "hash", type := .int, accessFlags := 2, slot := 2, constantValue := 0 }]
  methods := #[]
  instanceTypes := #[(.object "java/lang/String"), .int, .int]
  staticTypes := #[]
  resolved := Array.replicate 204 none
  statics := none }

def pool6 : Array CpInfo := pool [(1, .class_ 2), (0, u "com/example/saanich/saanich/uws/Phase"), (0, .fieldref 1 4), (0, .nameAndType 5 6), (0, u "PENDING"), (0, u "Lcom/example/saanich/saanich/uws/Phase;"), (0, .fieldref 1 8), (0, .nameAndType 9 6), (0, u "QUEUED"), (0, .fieldref 1 11), (0, .nameAndType 12 6), (0, u "EXECUTING"), (2, u "COMPLETED"), (2, u "ERROR"), (2, u "ABORTED"), (2, u "UNKNOWN"), (2, u "HELD"), (2, u "SUSPENDED"), (2, u "ARCHIVED"), (2, u "$VALUES"), (0, u "[Lcom/example/saanich/saanich/uws/Phase;"), (6, .class_ 46), (1, u "java/lang/Enum"), (28, u "active"), (0, u "()Z")] 5

def k6c0 : Code := { maxStack := 2, maxLocals := 1, code := prog_87_method_4_code, exceptionTable := #[], attributes := #[] }
def k6m0 : Method := { name := "active", desc := "()Z", sig := { parameters := [], returnType := some .boolean }, accessFlags := 1, code := some k6c0 }
/-- com/example/saanich/saanich/uws/Phase -/
def k6 : Class := { plain "com/example/saanich/saanich/uws/Phase" (some 5) with
  accessFlags := 16433
  interfaces := #[]
  cf := some (fileOf pool6 1 #[] #[{ accessFlags := 1, nameIndex := 75, descriptorIndex := 76, attributes := #[] }] 16433 44 #[] #[{ accessFlags := 16409, nameIndex := 5, descriptorIndex := 6, attributes := #[] }, { accessFlags := 16409, nameIndex := 9, descriptorIndex := 6, attributes := #[] }, { accessFlags := 16409, nameIndex := 12, descriptorIndex := 6, attributes := #[] }, { accessFlags := 16409, nameIndex := 15, descriptorIndex := 6, attributes := #[] }, { accessFlags := 16409, nameIndex := 18, descriptorIndex := 6, attributes := #[] }, { accessFlags := 16409, nameIndex := 21, descriptorIndex := 6, attributes := #[] }, { accessFlags := 16409, nameIndex := 24, descriptorIndex := 6, attributes := #[] }, { accessFlags := 16409, nameIndex := 27, descriptorIndex := 6, attributes := #[] }, { accessFlags := 16409, nameIndex := 30, descriptorIndex := 6, attributes := #[] }, { accessFlags := 16409, nameIndex := 33, descriptorIndex := 6, attributes := #[] }, { accessFlags := 4122, nameIndex := 36, descriptorIndex := 37, attributes := #[] }])
  fields := #[{ name := "PENDING", type := (.object "com/example/saanich/saanich/uws/Phase"), accessFlags := 16409, slot := 0, constantValue := 0 }, { name := "QUEUED", type := (.object "com/example/saanich/saanich/uws/Phase"), accessFlags := 16409, slot := 1, constantValue := 0 }, { name := "EXECUTING", type := (.object "com/example/saanich/saanich/uws/Phase"), accessFlags := 16409, slot := 2, constantValue := 0 }, { name := "COMPLETED", type := (.object "com/example/saanich/saanich/uws/Phase"), accessFlags := 16409, slot := 3, constantValue := 0 }, { name := "ERROR", type := (.object "com/example/saanich/saanich/uws/Phase"), accessFlags := 16409, slot := 4, constantValue := 0 }, { name := "ABORTED", type := (.object "com/example/saanich/saanich/uws/Phase"), accessFlags := 16409, slot := 5, constantValue := 0 }, { name := "UNKNOWN", type := (.object "com/example/saanich/saanich/uws/Phase"), accessFlags := 16409, slot := 6, constantValue := 0 }, { name := "HELD", type := (.object "com/example/saanich/saanich/uws/Phase"), accessFlags := 16409, slot := 7, constantValue := 0 }, { name := "SUSPENDED", type := (.object "com/example/saanich/saanich/uws/Phase"), accessFlags := 16409, slot := 8, constantValue := 0 }, { name := "ARCHIVED", type := (.object "com/example/saanich/saanich/uws/Phase"), accessFlags := 16409, slot := 9, constantValue := 0 }, { name := "$VALUES", type := (.array (.object "com/example/saanich/saanich/uws/Phase")), accessFlags := 4122, slot := 10, constantValue := 0 }]
  methods := #[k6m0]
  instanceTypes := #[(.object "java/lang/String"), .int, .int]
  staticTypes := #[(.object "com/example/saanich/saanich/uws/Phase"), (.object "com/example/saanich/saanich/uws/Phase"), (.object "com/example/saanich/saanich/uws/Phase"), (.object "com/example/saanich/saanich/uws/Phase"), (.object "com/example/saanich/saanich/uws/Phase"), (.object "com/example/saanich/saanich/uws/Phase"), (.object "com/example/saanich/saanich/uws/Phase"), (.object "com/example/saanich/saanich/uws/Phase"), (.object "com/example/saanich/saanich/uws/Phase"), (.object "com/example/saanich/saanich/uws/Phase"), (.array (.object "com/example/saanich/saanich/uws/Phase"))]
  resolved := Array.replicate 82 none
  statics := some 0 }

def pool7 : Array CpInfo := pool [(1, u "java/lang/Cloneable"), (0, .class_ 1), (0, u "java/lang/Object"), (0, .class_ 3)] 3

/-- java/lang/Cloneable -/
def k7 : Class := { plain "java/lang/Cloneable" (some 0) with
  accessFlags := 1537
  interfaces := #[]
  cf := some (fileOf pool7 2 #[] #[] 1537 4 #[] #[])
  fields := #[]
  methods := #[]
  instanceTypes := #[]
  staticTypes := #[]
  resolved := Array.replicate 8 none
  statics := none }

/-- the primitive byte -/
def k8 : Class := { plain "byte" none with kind := .primitive 'B', accessFlags := 0x411 }
/-- [B -/
def k9 : Class := { plain "[B" (some 0) with kind := .array 8 .byte, interfaces := #[7, 4], accessFlags := 1041 }

def heap : Heap := #[{ cls := 6, slots := #[.ref 1, .ref 3, .ref 4, .ref 2, .ref 5, .ref 9, .ref 10, .ref 6, .ref 7, .ref 8, .null], vm := .statics 6 },
  { cls := 6, slots := #[.null, .int 0, .int 0], vm := .none },
  { cls := 6, slots := #[.null, .int 3, .int 0], vm := .none },
  { cls := 6, slots := #[.null, .int 1, .int 0], vm := .none },
  { cls := 6, slots := #[.null, .int 2, .int 0], vm := .none },
  { cls := 6, slots := #[.null, .int 4, .int 0], vm := .none },
  { cls := 6, slots := #[.null, .int 7, .int 0], vm := .none },
  { cls := 6, slots := #[.null, .int 8, .int 0], vm := .none },
  { cls := 6, slots := #[.null, .int 9, .int 0], vm := .none },
  { cls := 6, slots := #[.null, .int 5, .int 0], vm := .none },
  { cls := 6, slots := #[.null, .int 6, .int 0], vm := .none }]
def classes : Array Class := #[k0, k1, k2, k3, k4, k5, k6, k7, k8, k9]
def interned : List (Array UInt16 × Addr) := []
def slotsUsed : Nat := 41
def theMethod : MethodId := ⟨1, 2⟩
def args0 : Array Value := #[.int 5]
def aboutOver (below : List Frame) : State where
  vm := { classes := classes, interned := interned.toArray }
  heap := heap
  slotsUsed := slotsUsed
  threads := #[{ frames := .invoking theMethod args0 :: below }]
def below0 : List Frame := [.native { method := ⟨0, 0⟩, args := #[] }]
def about1 : State := aboutOver below0
def p0 : Program := .bare "" "" ""
def e0 : Env := launch0.env 0 0 0
theorem w_frames : about1.frames = Frame.invoking theMethod args0 :: below0 := rfl
set_option maxRecDepth 65536 in
theorem w_args : argsFit about1.vm theMethod args0 = true := by decide +kernel
set_option maxRecDepth 65536 in
theorem w_heap : heapFits about1 = true := by decide +kernel
set_option maxRecDepth 65536 in
theorem w_runnable : about1.curStatus? = some .runnable := by decide +kernel
set_option maxRecDepth 65536 in
theorem w_alone : about1.alone = true := by decide +kernel
set_option maxRecDepth 65536 in
theorem w_named : about1.methodNamed? x = some theMethod := by decide +kernel
set_option maxRecDepth 65536 in
theorem w_hears : about1.hears theMethod below0 = true := by decide +kernel
set_option maxRecDepth 65536 in
theorem w_ripe : about1.ripe theMethod args0 below0 = true := by decide +kernel
theorem w_running : about1.status = .running := rfl
set_option maxRecDepth 65536 in
theorem w_room : about1.hasRoom e0.platform room_1 = true :=
  launch0.hasRoom_least _ room_1 (by decide +kernel) (by decide +kernel) (by decide +kernel) (by decide +kernel) (by decide +kernel) (by decide +kernel)
theorem allAtoms_all (ts : List Jvm.Cond) (a : Array Jvm.Value) (st : Jvm.State) : (allAtoms ts).before a st = ts.all (fun c => c.before a st) := by
  induction ts with
  | nil => rfl
  | cons c t ih =>
    show (Jvm.Cond.and c (allAtoms t)).before a st = _
    rw [Jvm.Cond.before_and, ih, List.all_cons]
def words1 : List Jvm.Cond := Jvm.Cond.code x code maxLocals ret :: tables_1
/-- a 'code' word, met by the world's own term for the bytes: nothing is compared byte by byte -/
theorem code_word {y : MethodName} {bytes : ByteArray} {mx : Nat} {rt : Option FieldType} {a : Array Value} {s : State} {m : MethodId} {meth : Method} {c : Code} (h1 : s.methodNamed? y = some m) (h2 : s.vm.method? m = some meth) (h3 : meth.code = some c) (h4 : c.code = bytes)
    (h5 : (c.maxLocals == mx && c.exceptionTable.isEmpty && decide (c.maxStack ≤ mostOperands) && decide (meth.sig.returnType = rt) && !meth.locks && decide (parseMethodDescriptor y.desc = some meth.sig)) = true) : (Jvm.Cond.code y bytes mx rt).before a s = true := by
  simp only [Bool.and_eq_true, beq_iff_eq, Bool.not_eq_true', decide_eq_true_eq] at h5
  obtain ⟨⟨⟨⟨⟨g1, g2⟩, g3⟩, g4⟩, g5⟩, g6⟩ := h5
  simp [Cond.before, Cond.holds, Cond.value, h1, h2, h3, h4, g1, g2, g3, g4, g5, g6]
def isCode : Jvm.Cond → Bool
  | .code _ _ _ _ => true
  | _ => false
theorem all_split {L : List Jvm.Cond} {P : Jvm.Cond → Bool} (h1 : L.all (fun c => isCode c || P c) = true) (h2 : ∀ c ∈ L.filter isCode, P c = true) : L.all P = true := by
  refine List.all_eq_true.mpr fun c hc => ?_
  have h := List.all_eq_true.mp h1 c hc
  rcases Bool.eq_false_or_eq_true (isCode c) with hi | hi
  · exact h2 c (List.mem_filter.mpr ⟨hc, hi⟩)
  · simpa [hi] using h
set_option maxRecDepth 65536 in
theorem w_c0 : (Jvm.Cond.code x code maxLocals ret).before args0 about1 = true := code_word (m := ⟨1, 2⟩) (meth := k1m2) (c := k1c2) (by decide +kernel) rfl rfl rfl (by decide +kernel)
set_option maxRecDepth 65536 in
theorem w_c1 : (Jvm.Cond.code ({ cls := "com/example/saanich/saanich/uws/PhaseActivePinLaw", name := "pick", desc := "(I)Lcom/example/saanich/saanich/uws/Phase;" } : Jvm.MethodName) method_2_code (1 : Nat) (Option.some (Jvm.ClassFile.FieldType.object "com/example/saanich/saanich/uws/Phase"))).before args0 about1 = true := code_word (m := ⟨1, 1⟩) (meth := k1m1) (c := k1c1) (by decide +kernel) rfl rfl rfl (by decide +kernel)
set_option maxRecDepth 65536 in
theorem w_c2 : (Jvm.Cond.code ({ cls := "com/example/saanich/saanich/uws/Phase", name := "active", desc := "()Z" } : Jvm.MethodName) prog_87_method_4_code (1 : Nat) (Option.some Jvm.ClassFile.FieldType.boolean)).before args0 about1 = true := code_word (m := ⟨6, 0⟩) (meth := k6m0) (c := k6c0) (by decide +kernel) rfl rfl rfl (by decide +kernel)
def codes1 : List Jvm.Cond := [Jvm.Cond.code x code maxLocals ret, Jvm.Cond.code ({ cls := "com/example/saanich/saanich/uws/PhaseActivePinLaw", name := "pick", desc := "(I)Lcom/example/saanich/saanich/uws/Phase;" } : Jvm.MethodName) method_2_code (1 : Nat) (Option.some (Jvm.ClassFile.FieldType.object "com/example/saanich/saanich/uws/Phase")), Jvm.Cond.code ({ cls := "com/example/saanich/saanich/uws/Phase", name := "active", desc := "()Z" } : Jvm.MethodName) prog_87_method_4_code (1 : Nat) (Option.some Jvm.ClassFile.FieldType.boolean)]
set_option maxRecDepth 65536 in
theorem codes_eq : words1.filter isCode = codes1 := rfl
theorem w_codes : ∀ c ∈ words1.filter isCode, c.before args0 about1 = true := by
  rw [codes_eq]
  intro c hc
  simp only [codes1, List.mem_cons, List.not_mem_nil, or_false] at hc
  rcases hc with rfl | rfl | rfl
  · exact w_c0
  · exact w_c1
  · exact w_c2
set_option maxRecDepth 65536 in
theorem w_t1 : (words1.take 24).all (fun c => isCode c || c.before args0 about1) = true := by decide +kernel
set_option maxRecDepth 65536 in
theorem w_t2 : (words1.drop 24).all (fun c => isCode c || c.before args0 about1) = true := by decide +kernel
theorem w_tables : (allAtoms (Jvm.Cond.code x code maxLocals ret :: tables_1)).before args0 about1 = true := by
  rw [allAtoms_all]
  show words1.all (fun c => c.before args0 about1) = true
  refine all_split ?_ w_codes
  rw [← List.take_append_drop 24 words1, List.all_append, w_t1, w_t2]
  rfl
set_option maxRecDepth 65536 in
theorem w_case : (Jvm.Cond.and given_1 narrow_1).before args0 about1 = true := by decide +kernel
theorem w_applies : (headSpec (Jvm.Cond.code x code maxLocals ret :: tables_1) room_1).applies x e0.platform about1 = true :=
  (Spec.applies_iff w_frames).mpr ⟨w_running, w_runnable, w_alone, w_named, w_hears, w_ripe, w_room, w_tables⟩
theorem atStart : AtStart classFile x code maxLocals ret World_1 tables_1 room_1 Calls_1 rest_1 Pre_1 launch0 p0 e0 about1 theMethod args0 below0 :=
  ⟨lists_1, trivial, launch0.admits_env _ _ _, launch0.least_env, fairChoices_fair.cas, fairChoices_fair.clock, w_frames, w_args, w_heap, w_applies, trivial, trivial, w_case⟩
end start1
theorem witness_1 : WitnessClaimed_1 := ⟨start1.p0, start1.e0, start1.about1, start1.theMethod, start1.args0, start1.below0, start1.atStart⟩
end Jvm.Pilot.@@N@@
