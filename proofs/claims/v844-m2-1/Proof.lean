import JvmDerived
import JvmDerived.Pilot.@@N@@Statement
import JvmDerived.Pilot.@@N@@Code
set_option linter.unusedVariables false
set_option linter.unusedSimpArgs false
namespace Jvm.Pilot.@@N@@
open Jvm Jvm.ClassFile Sem Op Lib Jvm.Free Jvm.Stand Jvm.LawKit Jvm.RoadKit Bundle Jvm.Pilot.@@N@@.Jvm.D
theorem own_w {ws : List Jvm.Cond} {a0 : Array Value} {Z : State} (hw : ∀ d ∈ ws, d.before a0 Z = true) (i : Nat) {d : Jvm.Cond} (h : ws[i]? = some d) : d.before a0 Z = true := hw _ (List.mem_of_getElem? h)
/-- the run comes to a state of which P holds -/
def Rch (tb : Tables) (e : Env) (below : List Frame) (P : State → Prop) (t : State) : Prop := ∃ u, Steps tb e below t u ∧ P u
theorem Rch.st {tb : Tables} {e : Env} {below : List Frame} {P : State → Prop} {t t' : State} (h : ∀ target, Steps tb e below t' target → Steps tb e below t target) (k : Rch tb e below P t') : Rch tb e below P t := by
  obtain ⟨u, h1, h2⟩ := k
  exact ⟨u, h u h1, h2⟩
theorem Rch.tr {tb : Tables} {e : Env} {below : List Frame} {P : State → Prop} {t t' : State} (h : Steps tb e below t t') (k : Rch tb e below P t') : Rch tb e below P t := by
  obtain ⟨u, h1, h2⟩ := k
  exact ⟨u, h.trans h1, h2⟩
theorem Rch.fin {tb : Tables} {e : Env} {below : List Frame} {P : State → Prop} {t u : State} (h : Steps tb e below t u) (k : P u) : Rch tb e below P t := ⟨u, h, k⟩
theorem Rch.out {tb : Tables} {e : Env} {below : List Frame} {P : State → Outcome → Prop} {t : State} (h : Rch tb e below (fun u => ∃ o, P u o) t) : ∃ u o, Steps tb e below t u ∧ P u o := by
  obtain ⟨u, h1, o, h2⟩ := h
  exact ⟨u, o, h1, h2⟩
theorem own_eqInt {t : Term} {n : Int32} {args : Array Value} {s : State} (h : (Cond.eq t (.int n)).value args s none s [] = some true) : t.eval args s none [] s = some (.int n) := by
  have hn : (Term.int n).eval args s none [] s = some (.int n) := rfl
  cases hv : t.eval args s none [] s with
  | none => simp [Cond.value, hv] at h
  | some x => cases x <;> simp [Cond.value, hv, hn] at h ⊢; exact h
theorem own_retI {p : Program} {l : Launch} {e : Env} {R : Room} {s : State} {m : MethodId} {args : Array Value} {below : List Frame} {meth : Method} {c : Code} {T : State} {locs : List Loc} {cells slots : Nat} (X : Stand p l e R s m args below meth c T locs cells slots) (hx : p.tables.exec = Jvm.exec) {pc : Nat} {Ls : Array Slot} {z : Int32} {rest : List Value} (hret : meth.sig.returnType = some .int) (hd : decode c.code pc = .ok (.ireturn, 1)) {fs : List Frame}
    (hl : ∀ (f : JFrame) (acts : List Action), f.method = m → f.locked = none → f.entered = [] → (doReturn e (T.setTop f) acts (some (.int z))).1 = T.setFrames fs) : Steps p.tables e below (T.setTop (mkF m pc Ls (.int z :: rest))) (T.setFrames fs) :=
  retOut X hx hret rfl (Or.inl ⟨rfl, Or.inl rfl, z, rfl⟩) hd hl
theorem own_retA {p : Program} {l : Launch} {e : Env} {R : Room} {s : State} {m : MethodId} {args : Array Value} {below : List Frame} {meth : Method} {c : Code} {T : State} {locs : List Loc} {cells slots : Nat} (X : Stand p l e R s m args below meth c T locs cells slots) (hx : p.tables.exec = Jvm.exec) {pc : Nat} {Ls : Array Slot} {w : Value} {t : FieldType} {rest : List Value} (hret : meth.sig.returnType = some t) (hn : narrow t w = w) (ht : t.isReference = true) (hw : w.isRef = true) (hd : decode c.code pc = .ok (.areturn, 1)) {fs : List Frame}
    (hl : ∀ (f : JFrame) (acts : List Action), f.method = m → f.locked = none → f.entered = [] → (doReturn e (T.setTop f) acts (some w)).1 = T.setFrames fs) : Steps p.tables e below (T.setTop (mkF m pc Ls (w :: rest))) (T.setFrames fs) :=
  retOut X hx hret hn (Or.inr (Or.inr (Or.inr (Or.inr ⟨rfl, ht, hw⟩)))) hd hl
theorem own_retJ {p : Program} {l : Launch} {e : Env} {R : Room} {s : State} {m : MethodId} {args : Array Value} {below : List Frame} {meth : Method} {c : Code} {T : State} {locs : List Loc} {cells slots : Nat} (X : Stand p l e R s m args below meth c T locs cells slots) (hx : p.tables.exec = Jvm.exec) {pc : Nat} {Ls : Array Slot} {z : Int64} {rest : List Value} (hret : meth.sig.returnType = some .long) (hd : decode c.code pc = .ok (.lreturn, 1)) {fs : List Frame}
    (hl : ∀ (f : JFrame) (acts : List Action), f.method = m → f.locked = none → f.entered = [] → (doReturn e (T.setTop f) acts (some (.long z))).1 = T.setFrames fs) : Steps p.tables e below (T.setTop (mkF m pc Ls (.long z :: rest))) (T.setFrames fs) :=
  retOut X hx hret rfl (Or.inr (Or.inl ⟨rfl, rfl, z, rfl⟩)) hd hl
theorem own_retD {p : Program} {l : Launch} {e : Env} {R : Room} {s : State} {m : MethodId} {args : Array Value} {below : List Frame} {meth : Method} {c : Code} {T : State} {locs : List Loc} {cells slots : Nat} (X : Stand p l e R s m args below meth c T locs cells slots) (hx : p.tables.exec = Jvm.exec) {pc : Nat} {Ls : Array Slot} {z : UInt64} {rest : List Value} (hret : meth.sig.returnType = some .double) (hd : decode c.code pc = .ok (.dreturn, 1)) {fs : List Frame}
    (hl : ∀ (f : JFrame) (acts : List Action), f.method = m → f.locked = none → f.entered = [] → (doReturn e (T.setTop f) acts (some (.double z))).1 = T.setFrames fs) : Steps p.tables e below (T.setTop (mkF m pc Ls (.double z :: rest))) (T.setFrames fs) :=
  retOut X hx hret rfl (Or.inr (Or.inr (Or.inl ⟨rfl, rfl, z, rfl⟩))) hd hl

theorem d1_0 : decode method_2_code 0 = .ok (.iload_n 0, 1) := by decide +kernel
theorem d1_1 : decode method_2_code 1 = .ok (.ifCond .ne 7, 3) := by decide +kernel
theorem d1_4 : decode method_2_code 4 = .ok (.getstatic 7, 3) := by decide +kernel
theorem d1_7 : decode method_2_code 7 = .ok (.areturn, 1) := by decide +kernel
theorem d1_8 : decode method_2_code 8 = .ok (.iload_n 0, 1) := by decide +kernel
theorem d1_9 : decode method_2_code 9 = .ok (.iconst 1, 1) := by decide +kernel
theorem d1_10 : decode method_2_code 10 = .ok (.if_icmp .ne 7, 3) := by decide +kernel
theorem d1_13 : decode method_2_code 13 = .ok (.getstatic 13, 3) := by decide +kernel
theorem d1_16 : decode method_2_code 16 = .ok (.areturn, 1) := by decide +kernel
theorem d1_17 : decode method_2_code 17 = .ok (.iload_n 0, 1) := by decide +kernel
theorem d1_18 : decode method_2_code 18 = .ok (.iconst 2, 1) := by decide +kernel
theorem d1_19 : decode method_2_code 19 = .ok (.if_icmp .ne 7, 3) := by decide +kernel
theorem d1_22 : decode method_2_code 22 = .ok (.getstatic 16, 3) := by decide +kernel
theorem d1_25 : decode method_2_code 25 = .ok (.areturn, 1) := by decide +kernel
theorem d1_26 : decode method_2_code 26 = .ok (.iload_n 0, 1) := by decide +kernel
theorem d1_27 : decode method_2_code 27 = .ok (.iconst 3, 1) := by decide +kernel
theorem d1_28 : decode method_2_code 28 = .ok (.if_icmp .ne 7, 3) := by decide +kernel
theorem d1_31 : decode method_2_code 31 = .ok (.getstatic 19, 3) := by decide +kernel
theorem d1_34 : decode method_2_code 34 = .ok (.areturn, 1) := by decide +kernel
theorem d1_35 : decode method_2_code 35 = .ok (.iload_n 0, 1) := by decide +kernel
theorem d1_36 : decode method_2_code 36 = .ok (.iconst 4, 1) := by decide +kernel
theorem d1_37 : decode method_2_code 37 = .ok (.if_icmp .ne 7, 3) := by decide +kernel
theorem d1_40 : decode method_2_code 40 = .ok (.getstatic 22, 3) := by decide +kernel
theorem d1_43 : decode method_2_code 43 = .ok (.areturn, 1) := by decide +kernel
theorem d1_44 : decode method_2_code 44 = .ok (.iload_n 0, 1) := by decide +kernel
theorem d1_45 : decode method_2_code 45 = .ok (.iconst 5, 1) := by decide +kernel
theorem d1_46 : decode method_2_code 46 = .ok (.if_icmp .ne 7, 3) := by decide +kernel
theorem d1_49 : decode method_2_code 49 = .ok (.getstatic 25, 3) := by decide +kernel
theorem d1_52 : decode method_2_code 52 = .ok (.areturn, 1) := by decide +kernel
theorem d1_53 : decode method_2_code 53 = .ok (.iload_n 0, 1) := by decide +kernel
theorem d1_54 : decode method_2_code 54 = .ok (.bipush 6, 2) := by decide +kernel
theorem d1_56 : decode method_2_code 56 = .ok (.if_icmp .ne 7, 3) := by decide +kernel
theorem d1_59 : decode method_2_code 59 = .ok (.getstatic 28, 3) := by decide +kernel
theorem d1_62 : decode method_2_code 62 = .ok (.areturn, 1) := by decide +kernel
theorem d1_63 : decode method_2_code 63 = .ok (.getstatic 31, 3) := by decide +kernel
theorem d1_66 : decode method_2_code 66 = .ok (.areturn, 1) := by decide +kernel
def F1 (p0 : Int32) (w_BOOLEAN : Addr) (w_SHORT : Addr) (w_INT : Addr) (w_LONG : Addr) (w_FLOAT : Addr) (w_DOUBLE : Addr) (w_CHAR : Addr) (w_UNICODE_CHAR : Addr) : Addr := (if p0 = (0 : Int32) then w_BOOLEAN else (if p0 = (1 : Int32) then w_SHORT else (if p0 = (2 : Int32) then w_INT else (if p0 = (3 : Int32) then w_LONG else (if p0 = (4 : Int32) then w_FLOAT else (if p0 = (5 : Int32) then w_DOUBLE else (if p0 = (6 : Int32) then w_CHAR else w_UNICODE_CHAR)))))))
def Q1 (p0 : Int32) (w_BOOLEAN : Addr) (w_SHORT : Addr) (w_INT : Addr) (w_LONG : Addr) (w_FLOAT : Addr) (w_DOUBLE : Addr) (w_CHAR : Addr) (w_UNICODE_CHAR : Addr) (h0 : Heap) (n0 : Nat) (v : Option Value) (h : Heap) (L : List Loc) : Prop := v = some (.ref (F1 p0 w_BOOLEAN w_SHORT w_INT w_LONG w_FLOAT w_DOUBLE w_CHAR w_UNICODE_CHAR)) ∧ Fr n0 L ∧ h = h0
theorem pn_com_example_saanich_saanich_catalog_DatatypeIsIntegerPinLaw : plainName "com/example/saanich/saanich/catalog/DatatypeIsIntegerPinLaw" = true := by first | (simp [plainName, overriddenIn]; done) | decide +kernel
theorem ef_1 (m : MethodId) (p0 : Int32) : entryFrame m #[(.int p0)] 1 = mkF m 0 #[.val (.int p0)] [] := by first | (simp [entryFrame, mkF, argsToLocals, Value.category]; done) | rfl
set_option maxRecDepth 65536 in
set_option maxHeartbeats 40000000 in
theorem b1 (l : Launch) (Z : State) (a0 : Array Value) (hw : ∀ d ∈ tables_1, d.before a0 Z = true) (ws : List Jvm.Cond) (p0 : Int32) (w_BOOLEAN : Addr) (w_SHORT : Addr) (w_INT : Addr) (w_LONG : Addr) (w_FLOAT : Addr) (w_DOUBLE : Addr) (w_CHAR : Addr) (w_UNICODE_CHAR : Addr) (h0 : Heap) (n0 : Nat) (H_w_BOOLEAN : Sta Z h0 "com/example/saanich/saanich/catalog/Datatype" "BOOLEAN" "Lcom/example/saanich/saanich/catalog/Datatype;" (.ref w_BOOLEAN)) (H_w_SHORT : Sta Z h0 "com/example/saanich/saanich/catalog/Datatype" "SHORT" "Lcom/example/saanich/saanich/catalog/Datatype;" (.ref w_SHORT)) (H_w_INT : Sta Z h0 "com/example/saanich/saanich/catalog/Datatype" "INT" "Lcom/example/saanich/saanich/catalog/Datatype;" (.ref w_INT)) (H_w_LONG : Sta Z h0 "com/example/saanich/saanich/catalog/Datatype" "LONG" "Lcom/example/saanich/saanich/catalog/Datatype;" (.ref w_LONG)) (H_w_FLOAT : Sta Z h0 "com/example/saanich/saanich/catalog/Datatype" "FLOAT" "Lcom/example/saanich/saanich/catalog/Datatype;" (.ref w_FLOAT)) (H_w_DOUBLE : Sta Z h0 "com/example/saanich/saanich/catalog/Datatype" "DOUBLE" "Lcom/example/saanich/saanich/catalog/Datatype;" (.ref w_DOUBLE)) (H_w_CHAR : Sta Z h0 "com/example/saanich/saanich/catalog/Datatype" "CHAR" "Lcom/example/saanich/saanich/catalog/Datatype;" (.ref w_CHAR)) (H_w_UNICODE_CHAR : Sta Z h0 "com/example/saanich/saanich/catalog/Datatype" "UNICODE_CHAR" "Lcom/example/saanich/saanich/catalog/Datatype;" (.ref w_UNICODE_CHAR)) :
    MetFree l (⟨"com/example/saanich/saanich/catalog/DatatypeIsIntegerPinLaw", "pick", "(I)Lcom/example/saanich/saanich/catalog/Datatype;"⟩ : MethodName) (head1 (Jvm.Cond.code (⟨"com/example/saanich/saanich/catalog/DatatypeIsIntegerPinLaw", "pick", "(I)Lcom/example/saanich/saanich/catalog/Datatype;"⟩ : MethodName) method_2_code 1 (some (.object "com/example/saanich/saanich/catalog/Datatype")) :: ws) ({ frames := 0, cells := 0, slots := 0, locals := 0 } : Room)) (fun a U => a = #[(.int p0)] ∧ Z.Warmed39 U.vm ∧ U.heap = h0) (fun _ _ _ _ _ => True) (fun _ U o U' => ∃ v L, o = .returned v ∧ Q1 p0 w_BOOLEAN w_SHORT w_INT w_LONG w_FLOAT w_DOUBLE w_CHAR w_UNICODE_CHAR h0 n0 v U'.heap L ∧ FrameEnd U o U' L ({ frames := 0, cells := 0, slots := 0, locals := 0 } : Room).cells ({ frames := 0, cells := 0, slots := 0, locals := 0 } : Room).slots) := by
  refine MetFree.of_bodySF (plainFor_of_name pn_com_example_saanich_saanich_catalog_DatatypeIsIntegerPinLaw) hisR ?_
  intro p e s m args below meth c s₁ Bd hml0 hP hK
  obtain ⟨rfl, hZ, hh⟩ := hP
  have hx := Bd.exec
  have hby := Bd.bytes
  have hml : c.maxLocals = 1 := hml0
  have hown : s.vm.findClass "com/example/saanich/saanich/catalog/DatatypeIsIntegerPinLaw" = some m.cls := findClass_of_methodNamed Bd.named
  have X0 : Stand p l e ({ frames := 0, cells := 0, slots := 0, locals := 0 } : Room) s m #[(.int p0)] below meth c s₁ [] 0 0 := Stand.of_body Bd
  have e0 : s₁.heap = h0 := by rw [← hh, Bd.state]; rfl
  have N0 := Fr.nil n0
  refine Rch.out (Rch.st (fun t k => castTop (ef_1 m p0) k) ?_)
  show Rch p.tables e below _ (s₁.setTop (mkF m 0 #[.val (.int p0)] []))
  refine Rch.st (fun _ hr => XS.iloadN X0.here hx rfl (hb hby d1_0) rfl hr) ?_
  show Rch p.tables e below _ (s₁.setTop (mkF m 1 #[.val (.int p0)] [(.int p0)]))
  by_cases hc1 : p0 = (0 : Int32)
  · refine Rch.st (fun _ hr => XS.ifNo X0.here hx rfl (hb hby d1_1) rfl ((if0 _ _).trans (teq hc1).2) hr) ?_
    show Rch p.tables e below _ (s₁.setTop (mkF m 4 #[.val (.int p0)] []))
    obtain ⟨T2, X2, e2, st2⟩ := getS2 X0 hx hZ hown (host := "") (Or.inl (own_w hw 4 rfl)) Via.refl e0 H_w_BOOLEAN (g := (mkF m 4 #[.val (.int p0)] [])) rfl (hb hby d1_4)
    refine Rch.st st2 ?_
    show Rch p.tables e below _ (T2.setTop (mkF m 7 #[.val (.int p0)] [(.ref w_BOOLEAN)]))
    obtain ⟨fs, hr, hrun, hended, hW, hsame⟩ := X2.leave (v := some (.ref w_BOOLEAN)) (fun h => by rw [Bd.returns] at h; cases h)
    refine Rch.fin (u := T2.setFrames fs) (own_retA X2 hx Bd.returns rfl rfl rfl (hb hby d1_7) hr) ⟨_, hrun, hended, _, _, rfl, ⟨?_, N0, e2⟩, ⟨_, rfl⟩, hW, hsame.mono (by decide) (by decide)⟩
    rw [show F1 p0 w_BOOLEAN w_SHORT w_INT w_LONG w_FLOAT w_DOUBLE w_CHAR w_UNICODE_CHAR = w_BOOLEAN from by unfold F1; rw [if_pos hc1]]
  · refine Rch.st (fun _ hr => XS.ifYes X0.here hx rfl (pc0 := 1) (pc' := 8) rfl (hb hby d1_1) rfl ((if0 _ _).trans (feq hc1).2) (by decide) (by decide) hr) ?_
    show Rch p.tables e below _ (s₁.setTop (mkF m 8 #[.val (.int p0)] []))
    refine Rch.st (fun _ hr => XS.iloadN X0.here hx rfl (hb hby d1_8) rfl hr) ?_
    show Rch p.tables e below _ (s₁.setTop (mkF m 9 #[.val (.int p0)] [(.int p0)]))
    refine Rch.st (fun _ hr => XS.iconst X0.here hx rfl (hb hby d1_9) hr) ?_
    show Rch p.tables e below _ (s₁.setTop (mkF m 10 #[.val (.int p0)] [(.int (1 : Int32)), (.int p0)]))
    by_cases hc4 : p0 = (1 : Int32)
    · refine Rch.st (fun _ hr => XS.icmpNo X0.here hx rfl (hb hby d1_10) rfl (teq hc4).2 hr) ?_
      show Rch p.tables e below _ (s₁.setTop (mkF m 13 #[.val (.int p0)] []))
      obtain ⟨T5, X5, e5, st5⟩ := getS2 X0 hx hZ hown (host := "") (Or.inl (own_w hw 24 rfl)) Via.refl e0 H_w_SHORT (g := (mkF m 13 #[.val (.int p0)] [])) rfl (hb hby d1_13)
      refine Rch.st st5 ?_
      show Rch p.tables e below _ (T5.setTop (mkF m 16 #[.val (.int p0)] [(.ref w_SHORT)]))
      obtain ⟨fs, hr, hrun, hended, hW, hsame⟩ := X5.leave (v := some (.ref w_SHORT)) (fun h => by rw [Bd.returns] at h; cases h)
      refine Rch.fin (u := T5.setFrames fs) (own_retA X5 hx Bd.returns rfl rfl rfl (hb hby d1_16) hr) ⟨_, hrun, hended, _, _, rfl, ⟨?_, N0, e5⟩, ⟨_, rfl⟩, hW, hsame.mono (by decide) (by decide)⟩
      rw [show F1 p0 w_BOOLEAN w_SHORT w_INT w_LONG w_FLOAT w_DOUBLE w_CHAR w_UNICODE_CHAR = w_SHORT from by unfold F1; rw [if_neg hc1, if_pos hc4]]
    · refine Rch.st (fun _ hr => XS.icmpYes X0.here hx rfl (pc0 := 10) (pc' := 17) rfl (hb hby d1_10) rfl (feq hc4).2 (by decide) (by decide) hr) ?_
      show Rch p.tables e below _ (s₁.setTop (mkF m 17 #[.val (.int p0)] []))
      refine Rch.st (fun _ hr => XS.iloadN X0.here hx rfl (hb hby d1_17) rfl hr) ?_
      show Rch p.tables e below _ (s₁.setTop (mkF m 18 #[.val (.int p0)] [(.int p0)]))
      refine Rch.st (fun _ hr => XS.iconst X0.here hx rfl (hb hby d1_18) hr) ?_
      show Rch p.tables e below _ (s₁.setTop (mkF m 19 #[.val (.int p0)] [(.int (2 : Int32)), (.int p0)]))
      by_cases hc7 : p0 = (2 : Int32)
      · refine Rch.st (fun _ hr => XS.icmpNo X0.here hx rfl (hb hby d1_19) rfl (teq hc7).2 hr) ?_
        show Rch p.tables e below _ (s₁.setTop (mkF m 22 #[.val (.int p0)] []))
        obtain ⟨T8, X8, e8, st8⟩ := getS2 X0 hx hZ hown (host := "") (Or.inl (own_w hw 23 rfl)) Via.refl e0 H_w_INT (g := (mkF m 22 #[.val (.int p0)] [])) rfl (hb hby d1_22)
        refine Rch.st st8 ?_
        show Rch p.tables e below _ (T8.setTop (mkF m 25 #[.val (.int p0)] [(.ref w_INT)]))
        obtain ⟨fs, hr, hrun, hended, hW, hsame⟩ := X8.leave (v := some (.ref w_INT)) (fun h => by rw [Bd.returns] at h; cases h)
        refine Rch.fin (u := T8.setFrames fs) (own_retA X8 hx Bd.returns rfl rfl rfl (hb hby d1_25) hr) ⟨_, hrun, hended, _, _, rfl, ⟨?_, N0, e8⟩, ⟨_, rfl⟩, hW, hsame.mono (by decide) (by decide)⟩
        rw [show F1 p0 w_BOOLEAN w_SHORT w_INT w_LONG w_FLOAT w_DOUBLE w_CHAR w_UNICODE_CHAR = w_INT from by unfold F1; rw [if_neg hc1, if_neg hc4, if_pos hc7]]
      · refine Rch.st (fun _ hr => XS.icmpYes X0.here hx rfl (pc0 := 19) (pc' := 26) rfl (hb hby d1_19) rfl (feq hc7).2 (by decide) (by decide) hr) ?_
        show Rch p.tables e below _ (s₁.setTop (mkF m 26 #[.val (.int p0)] []))
        refine Rch.st (fun _ hr => XS.iloadN X0.here hx rfl (hb hby d1_26) rfl hr) ?_
        show Rch p.tables e below _ (s₁.setTop (mkF m 27 #[.val (.int p0)] [(.int p0)]))
        refine Rch.st (fun _ hr => XS.iconst X0.here hx rfl (hb hby d1_27) hr) ?_
        show Rch p.tables e below _ (s₁.setTop (mkF m 28 #[.val (.int p0)] [(.int (3 : Int32)), (.int p0)]))
        by_cases hc10 : p0 = (3 : Int32)
        · refine Rch.st (fun _ hr => XS.icmpNo X0.here hx rfl (hb hby d1_28) rfl (teq hc10).2 hr) ?_
          show Rch p.tables e below _ (s₁.setTop (mkF m 31 #[.val (.int p0)] []))
          obtain ⟨T11, X11, e11, st11⟩ := getS2 X0 hx hZ hown (host := "") (Or.inl (own_w hw 18 rfl)) Via.refl e0 H_w_LONG (g := (mkF m 31 #[.val (.int p0)] [])) rfl (hb hby d1_31)
          refine Rch.st st11 ?_
          show Rch p.tables e below _ (T11.setTop (mkF m 34 #[.val (.int p0)] [(.ref w_LONG)]))
          obtain ⟨fs, hr, hrun, hended, hW, hsame⟩ := X11.leave (v := some (.ref w_LONG)) (fun h => by rw [Bd.returns] at h; cases h)
          refine Rch.fin (u := T11.setFrames fs) (own_retA X11 hx Bd.returns rfl rfl rfl (hb hby d1_34) hr) ⟨_, hrun, hended, _, _, rfl, ⟨?_, N0, e11⟩, ⟨_, rfl⟩, hW, hsame.mono (by decide) (by decide)⟩
          rw [show F1 p0 w_BOOLEAN w_SHORT w_INT w_LONG w_FLOAT w_DOUBLE w_CHAR w_UNICODE_CHAR = w_LONG from by unfold F1; rw [if_neg hc1, if_neg hc4, if_neg hc7, if_pos hc10]]
        · refine Rch.st (fun _ hr => XS.icmpYes X0.here hx rfl (pc0 := 28) (pc' := 35) rfl (hb hby d1_28) rfl (feq hc10).2 (by decide) (by decide) hr) ?_
          show Rch p.tables e below _ (s₁.setTop (mkF m 35 #[.val (.int p0)] []))
          refine Rch.st (fun _ hr => XS.iloadN X0.here hx rfl (hb hby d1_35) rfl hr) ?_
          show Rch p.tables e below _ (s₁.setTop (mkF m 36 #[.val (.int p0)] [(.int p0)]))
          refine Rch.st (fun _ hr => XS.iconst X0.here hx rfl (hb hby d1_36) hr) ?_
          show Rch p.tables e below _ (s₁.setTop (mkF m 37 #[.val (.int p0)] [(.int (4 : Int32)), (.int p0)]))
          by_cases hc13 : p0 = (4 : Int32)
          · refine Rch.st (fun _ hr => XS.icmpNo X0.here hx rfl (hb hby d1_37) rfl (teq hc13).2 hr) ?_
            show Rch p.tables e below _ (s₁.setTop (mkF m 40 #[.val (.int p0)] []))
            obtain ⟨T14, X14, e14, st14⟩ := getS2 X0 hx hZ hown (host := "") (Or.inl (own_w hw 25 rfl)) Via.refl e0 H_w_FLOAT (g := (mkF m 40 #[.val (.int p0)] [])) rfl (hb hby d1_40)
            refine Rch.st st14 ?_
            show Rch p.tables e below _ (T14.setTop (mkF m 43 #[.val (.int p0)] [(.ref w_FLOAT)]))
            obtain ⟨fs, hr, hrun, hended, hW, hsame⟩ := X14.leave (v := some (.ref w_FLOAT)) (fun h => by rw [Bd.returns] at h; cases h)
            refine Rch.fin (u := T14.setFrames fs) (own_retA X14 hx Bd.returns rfl rfl rfl (hb hby d1_43) hr) ⟨_, hrun, hended, _, _, rfl, ⟨?_, N0, e14⟩, ⟨_, rfl⟩, hW, hsame.mono (by decide) (by decide)⟩
            rw [show F1 p0 w_BOOLEAN w_SHORT w_INT w_LONG w_FLOAT w_DOUBLE w_CHAR w_UNICODE_CHAR = w_FLOAT from by unfold F1; rw [if_neg hc1, if_neg hc4, if_neg hc7, if_neg hc10, if_pos hc13]]
          · refine Rch.st (fun _ hr => XS.icmpYes X0.here hx rfl (pc0 := 37) (pc' := 44) rfl (hb hby d1_37) rfl (feq hc13).2 (by decide) (by decide) hr) ?_
            show Rch p.tables e below _ (s₁.setTop (mkF m 44 #[.val (.int p0)] []))
            refine Rch.st (fun _ hr => XS.iloadN X0.here hx rfl (hb hby d1_44) rfl hr) ?_
            show Rch p.tables e below _ (s₁.setTop (mkF m 45 #[.val (.int p0)] [(.int p0)]))
            refine Rch.st (fun _ hr => XS.iconst X0.here hx rfl (hb hby d1_45) hr) ?_
            show Rch p.tables e below _ (s₁.setTop (mkF m 46 #[.val (.int p0)] [(.int (5 : Int32)), (.int p0)]))
            by_cases hc16 : p0 = (5 : Int32)
            · refine Rch.st (fun _ hr => XS.icmpNo X0.here hx rfl (hb hby d1_46) rfl (teq hc16).2 hr) ?_
              show Rch p.tables e below _ (s₁.setTop (mkF m 49 #[.val (.int p0)] []))
              obtain ⟨T17, X17, e17, st17⟩ := getS2 X0 hx hZ hown (host := "") (Or.inl (own_w hw 27 rfl)) Via.refl e0 H_w_DOUBLE (g := (mkF m 49 #[.val (.int p0)] [])) rfl (hb hby d1_49)
              refine Rch.st st17 ?_
              show Rch p.tables e below _ (T17.setTop (mkF m 52 #[.val (.int p0)] [(.ref w_DOUBLE)]))
              obtain ⟨fs, hr, hrun, hended, hW, hsame⟩ := X17.leave (v := some (.ref w_DOUBLE)) (fun h => by rw [Bd.returns] at h; cases h)
              refine Rch.fin (u := T17.setFrames fs) (own_retA X17 hx Bd.returns rfl rfl rfl (hb hby d1_52) hr) ⟨_, hrun, hended, _, _, rfl, ⟨?_, N0, e17⟩, ⟨_, rfl⟩, hW, hsame.mono (by decide) (by decide)⟩
              rw [show F1 p0 w_BOOLEAN w_SHORT w_INT w_LONG w_FLOAT w_DOUBLE w_CHAR w_UNICODE_CHAR = w_DOUBLE from by unfold F1; rw [if_neg hc1, if_neg hc4, if_neg hc7, if_neg hc10, if_neg hc13, if_pos hc16]]
            · refine Rch.st (fun _ hr => XS.icmpYes X0.here hx rfl (pc0 := 46) (pc' := 53) rfl (hb hby d1_46) rfl (feq hc16).2 (by decide) (by decide) hr) ?_
              show Rch p.tables e below _ (s₁.setTop (mkF m 53 #[.val (.int p0)] []))
              refine Rch.st (fun _ hr => XS.iloadN X0.here hx rfl (hb hby d1_53) rfl hr) ?_
              show Rch p.tables e below _ (s₁.setTop (mkF m 54 #[.val (.int p0)] [(.int p0)]))
              refine Rch.st (fun _ hr => XS.bipush X0.here hx rfl (hb hby d1_54) hr) ?_
              show Rch p.tables e below _ (s₁.setTop (mkF m 56 #[.val (.int p0)] [(.int (6 : Int32)), (.int p0)]))
              by_cases hc19 : p0 = (6 : Int32)
              · refine Rch.st (fun _ hr => XS.icmpNo X0.here hx rfl (hb hby d1_56) rfl (teq hc19).2 hr) ?_
                show Rch p.tables e below _ (s₁.setTop (mkF m 59 #[.val (.int p0)] []))
                obtain ⟨T20, X20, e20, st20⟩ := getS2 X0 hx hZ hown (host := "") (Or.inl (own_w hw 19 rfl)) Via.refl e0 H_w_CHAR (g := (mkF m 59 #[.val (.int p0)] [])) rfl (hb hby d1_59)
                refine Rch.st st20 ?_
                show Rch p.tables e below _ (T20.setTop (mkF m 62 #[.val (.int p0)] [(.ref w_CHAR)]))
                obtain ⟨fs, hr, hrun, hended, hW, hsame⟩ := X20.leave (v := some (.ref w_CHAR)) (fun h => by rw [Bd.returns] at h; cases h)
                refine Rch.fin (u := T20.setFrames fs) (own_retA X20 hx Bd.returns rfl rfl rfl (hb hby d1_62) hr) ⟨_, hrun, hended, _, _, rfl, ⟨?_, N0, e20⟩, ⟨_, rfl⟩, hW, hsame.mono (by decide) (by decide)⟩
                rw [show F1 p0 w_BOOLEAN w_SHORT w_INT w_LONG w_FLOAT w_DOUBLE w_CHAR w_UNICODE_CHAR = w_CHAR from by unfold F1; rw [if_neg hc1, if_neg hc4, if_neg hc7, if_neg hc10, if_neg hc13, if_neg hc16, if_pos hc19]]
              · refine Rch.st (fun _ hr => XS.icmpYes X0.here hx rfl (pc0 := 56) (pc' := 63) rfl (hb hby d1_56) rfl (feq hc19).2 (by decide) (by decide) hr) ?_
                show Rch p.tables e below _ (s₁.setTop (mkF m 63 #[.val (.int p0)] []))
                obtain ⟨T22, X22, e22, st22⟩ := getS2 X0 hx hZ hown (host := "") (Or.inl (own_w hw 21 rfl)) Via.refl e0 H_w_UNICODE_CHAR (g := (mkF m 63 #[.val (.int p0)] [])) rfl (hb hby d1_63)
                refine Rch.st st22 ?_
                show Rch p.tables e below _ (T22.setTop (mkF m 66 #[.val (.int p0)] [(.ref w_UNICODE_CHAR)]))
                obtain ⟨fs, hr, hrun, hended, hW, hsame⟩ := X22.leave (v := some (.ref w_UNICODE_CHAR)) (fun h => by rw [Bd.returns] at h; cases h)
                refine Rch.fin (u := T22.setFrames fs) (own_retA X22 hx Bd.returns rfl rfl rfl (hb hby d1_66) hr) ⟨_, hrun, hended, _, _, rfl, ⟨?_, N0, e22⟩, ⟨_, rfl⟩, hW, hsame.mono (by decide) (by decide)⟩
                rw [show F1 p0 w_BOOLEAN w_SHORT w_INT w_LONG w_FLOAT w_DOUBLE w_CHAR w_UNICODE_CHAR = w_UNICODE_CHAR from by unfold F1; rw [if_neg hc1, if_neg hc4, if_neg hc7, if_neg hc10, if_neg hc13, if_neg hc16, if_neg hc19]]
theorem d2_0 : decode prog_9_method_10_code 0 = .ok (.aload_n 0, 1) := by decide +kernel
theorem d2_1 : decode prog_9_method_10_code 1 = .ok (.getstatic 7, 3) := by decide +kernel
theorem d2_4 : decode prog_9_method_10_code 4 = .ok (.if_acmp .eq 17, 3) := by decide +kernel
theorem d2_21 : decode prog_9_method_10_code 21 = .ok (.iconst 1, 1) := by decide +kernel
theorem d2_22 : decode prog_9_method_10_code 22 = .ok (.goto 4, 3) := by decide +kernel
theorem d2_26 : decode prog_9_method_10_code 26 = .ok (.ireturn, 1) := by decide +kernel
theorem d2_7 : decode prog_9_method_10_code 7 = .ok (.aload_n 0, 1) := by decide +kernel
theorem d2_8 : decode prog_9_method_10_code 8 = .ok (.getstatic 10, 3) := by decide +kernel
theorem d2_11 : decode prog_9_method_10_code 11 = .ok (.if_acmp .eq 10, 3) := by decide +kernel
theorem d2_14 : decode prog_9_method_10_code 14 = .ok (.aload_n 0, 1) := by decide +kernel
theorem d2_15 : decode prog_9_method_10_code 15 = .ok (.getstatic 13, 3) := by decide +kernel
theorem d2_18 : decode prog_9_method_10_code 18 = .ok (.if_acmp .ne 7, 3) := by decide +kernel
theorem d2_25 : decode prog_9_method_10_code 25 = .ok (.iconst 0, 1) := by decide +kernel
def F2 (a0 : Addr) (w_SHORT : Addr) (w_INT : Addr) (w_LONG : Addr) : Int32 := (if a0 = w_SHORT then (1 : Int32) else (if a0 = w_INT then (1 : Int32) else (if a0 = w_LONG then (1 : Int32) else (0 : Int32))))
def Q2 (a0 : Addr) (w_SHORT : Addr) (w_INT : Addr) (w_LONG : Addr) (h0 : Heap) (n0 : Nat) (v : Option Value) (h : Heap) (L : List Loc) : Prop := v = some (.int (F2 a0 w_SHORT w_INT w_LONG)) ∧ Fr n0 L ∧ h = h0
theorem pn_com_example_saanich_saanich_catalog_Datatype : plainName "com/example/saanich/saanich/catalog/Datatype" = true := by first | (simp [plainName, overriddenIn]; done) | decide +kernel
theorem ef_2 (m : MethodId) (a0 : Addr) : entryFrame m #[(.ref a0)] 1 = mkF m 0 #[.val (.ref a0)] [] := by first | (simp [entryFrame, mkF, argsToLocals, Value.category]; done) | rfl
set_option maxRecDepth 65536 in
set_option maxHeartbeats 40000000 in
theorem b2 (l : Launch) (Z : State) (a0 : Array Value) (hw : ∀ d ∈ tables_1, d.before a0 Z = true) (ws : List Jvm.Cond) (a0 : Addr) (w_SHORT : Addr) (w_INT : Addr) (w_LONG : Addr) (h0 : Heap) (n0 : Nat) (H_w_SHORT : Sta Z h0 "com/example/saanich/saanich/catalog/Datatype" "SHORT" "Lcom/example/saanich/saanich/catalog/Datatype;" (.ref w_SHORT)) (H_w_INT : Sta Z h0 "com/example/saanich/saanich/catalog/Datatype" "INT" "Lcom/example/saanich/saanich/catalog/Datatype;" (.ref w_INT)) (H_w_LONG : Sta Z h0 "com/example/saanich/saanich/catalog/Datatype" "LONG" "Lcom/example/saanich/saanich/catalog/Datatype;" (.ref w_LONG)) :
    MetFree l (⟨"com/example/saanich/saanich/catalog/Datatype", "isInteger", "()Z"⟩ : MethodName) (head1 (Jvm.Cond.code (⟨"com/example/saanich/saanich/catalog/Datatype", "isInteger", "()Z"⟩ : MethodName) prog_9_method_10_code 1 (some .boolean) :: ws) ({ frames := 0, cells := 0, slots := 0, locals := 0 } : Room)) (fun a U => a = #[(.ref a0)] ∧ Z.Warmed39 U.vm ∧ U.heap = h0) (fun _ _ _ _ _ => True) (fun _ U o U' => ∃ v L, o = .returned v ∧ Q2 a0 w_SHORT w_INT w_LONG h0 n0 v U'.heap L ∧ FrameEnd U o U' L ({ frames := 0, cells := 0, slots := 0, locals := 0 } : Room).cells ({ frames := 0, cells := 0, slots := 0, locals := 0 } : Room).slots) := by
  refine MetFree.of_bodySF (plainFor_of_name pn_com_example_saanich_saanich_catalog_Datatype) hisR ?_
  intro p e s m args below meth c s₁ Bd hml0 hP hK
  obtain ⟨rfl, hZ, hh⟩ := hP
  have hx := Bd.exec
  have hby := Bd.bytes
  have hml : c.maxLocals = 1 := hml0
  have hown : s.vm.findClass "com/example/saanich/saanich/catalog/Datatype" = some m.cls := findClass_of_methodNamed Bd.named
  have X0 : Stand p l e ({ frames := 0, cells := 0, slots := 0, locals := 0 } : Room) s m #[(.ref a0)] below meth c s₁ [] 0 0 := Stand.of_body Bd
  have e0 : s₁.heap = h0 := by rw [← hh, Bd.state]; rfl
  have N0 := Fr.nil n0
  refine Rch.out (Rch.st (fun t k => castTop (ef_2 m a0) k) ?_)
  show Rch p.tables e below _ (s₁.setTop (mkF m 0 #[.val (.ref a0)] []))
  refine Rch.st (fun _ hr => XS.aloadN X0.here hx rfl (hb hby d2_0) rfl rfl hr) ?_
  show Rch p.tables e below _ (s₁.setTop (mkF m 1 #[.val (.ref a0)] [(.ref a0)]))
  obtain ⟨T1, X1, e1, st1⟩ := getS2 X0 hx hZ hown (host := "") (Or.inl (own_w hw 12 rfl)) Via.refl e0 H_w_SHORT (g := (mkF m 1 #[.val (.ref a0)] [(.ref a0)])) rfl (hb hby d2_1)
  refine Rch.st st1 ?_
  show Rch p.tables e below _ (T1.setTop (mkF m 4 #[.val (.ref a0)] [(.ref w_SHORT), (.ref a0)]))
  by_cases hc2 : a0 = w_SHORT
  · refine Rch.st (fun _ hr => Jvm.RoadKit.acmp (g := (mkF m 4 #[.val (.ref a0)] [(.ref w_SHORT), (.ref a0)])) X1 hx rfl rfl rfl (pc0 := 4) (pc' := 21) (same := true) rfl (hb hby d2_4) rfl (decide_eq_true (congrArg Value.ref hc2)) (by decide) (by decide) hr) ?_
    show Rch p.tables e below _ (T1.setTop (mkF m 21 #[.val (.ref a0)] []))
    refine Rch.st (fun _ hr => XS.iconst X1.here hx rfl (hb hby d2_21) hr) ?_
    show Rch p.tables e below _ (T1.setTop (mkF m 22 #[.val (.ref a0)] [(.int (1 : Int32))]))
    refine Rch.st (fun _ hr => XS.goto X1.here hx rfl (pc0 := 22) (pc' := 26) rfl (hb hby d2_22) (by decide) (by decide) hr) ?_
    show Rch p.tables e below _ (T1.setTop (mkF m 26 #[.val (.ref a0)] [(.int (1 : Int32))]))
    obtain ⟨fs, hr, hrun, hended, hW, hsame⟩ := X1.leave (v := some (.int (1 : Int32))) (fun h => by rw [Bd.returns] at h; cases h)
    refine Rch.fin (u := T1.setFrames fs) (retN X1 hx (t := .boolean) Bd.returns (by simp) (hb hby d2_26) hr) ⟨_, hrun, hended, _, _, rfl, ⟨?_, N0, e1⟩, ⟨_, rfl⟩, hW, hsame.mono (by decide) (by decide)⟩
    rw [show F2 a0 w_SHORT w_INT w_LONG = (1 : Int32) from by unfold F2; rw [if_pos hc2]]
  · refine Rch.st (fun _ hr => Jvm.RoadKit.acmp (g := (mkF m 4 #[.val (.ref a0)] [(.ref w_SHORT), (.ref a0)])) X1 hx rfl rfl rfl (pc0 := 4) (pc' := 7) (same := false) rfl (hb hby d2_4) rfl (decide_eq_false fun q => hc2 (Value.ref.inj q)) (by decide) (by decide) hr) ?_
    show Rch p.tables e below _ (T1.setTop (mkF m 7 #[.val (.ref a0)] []))
    refine Rch.st (fun _ hr => XS.aloadN X1.here hx rfl (hb hby d2_7) rfl rfl hr) ?_
    show Rch p.tables e below _ (T1.setTop (mkF m 8 #[.val (.ref a0)] [(.ref a0)]))
    obtain ⟨T4, X4, e4, st4⟩ := getS2 X1 hx hZ hown (host := "") (Or.inl (own_w hw 14 rfl)) Via.refl e1 H_w_INT (g := (mkF m 8 #[.val (.ref a0)] [(.ref a0)])) rfl (hb hby d2_8)
    refine Rch.st st4 ?_
    show Rch p.tables e below _ (T4.setTop (mkF m 11 #[.val (.ref a0)] [(.ref w_INT), (.ref a0)]))
    by_cases hc5 : a0 = w_INT
    · refine Rch.st (fun _ hr => Jvm.RoadKit.acmp (g := (mkF m 11 #[.val (.ref a0)] [(.ref w_INT), (.ref a0)])) X4 hx rfl rfl rfl (pc0 := 11) (pc' := 21) (same := true) rfl (hb hby d2_11) rfl (decide_eq_true (congrArg Value.ref hc5)) (by decide) (by decide) hr) ?_
      show Rch p.tables e below _ (T4.setTop (mkF m 21 #[.val (.ref a0)] []))
      refine Rch.st (fun _ hr => XS.iconst X4.here hx rfl (hb hby d2_21) hr) ?_
      show Rch p.tables e below _ (T4.setTop (mkF m 22 #[.val (.ref a0)] [(.int (1 : Int32))]))
      refine Rch.st (fun _ hr => XS.goto X4.here hx rfl (pc0 := 22) (pc' := 26) rfl (hb hby d2_22) (by decide) (by decide) hr) ?_
      show Rch p.tables e below _ (T4.setTop (mkF m 26 #[.val (.ref a0)] [(.int (1 : Int32))]))
      obtain ⟨fs, hr, hrun, hended, hW, hsame⟩ := X4.leave (v := some (.int (1 : Int32))) (fun h => by rw [Bd.returns] at h; cases h)
      refine Rch.fin (u := T4.setFrames fs) (retN X4 hx (t := .boolean) Bd.returns (by simp) (hb hby d2_26) hr) ⟨_, hrun, hended, _, _, rfl, ⟨?_, N0, e4⟩, ⟨_, rfl⟩, hW, hsame.mono (by decide) (by decide)⟩
      rw [show F2 a0 w_SHORT w_INT w_LONG = (1 : Int32) from by unfold F2; rw [if_neg hc2, if_pos hc5]]
    · refine Rch.st (fun _ hr => Jvm.RoadKit.acmp (g := (mkF m 11 #[.val (.ref a0)] [(.ref w_INT), (.ref a0)])) X4 hx rfl rfl rfl (pc0 := 11) (pc' := 14) (same := false) rfl (hb hby d2_11) rfl (decide_eq_false fun q => hc5 (Value.ref.inj q)) (by decide) (by decide) hr) ?_
      show Rch p.tables e below _ (T4.setTop (mkF m 14 #[.val (.ref a0)] []))
      refine Rch.st (fun _ hr => XS.aloadN X4.here hx rfl (hb hby d2_14) rfl rfl hr) ?_
      show Rch p.tables e below _ (T4.setTop (mkF m 15 #[.val (.ref a0)] [(.ref a0)]))
      obtain ⟨T7, X7, e7, st7⟩ := getS2 X4 hx hZ hown (host := "") (Or.inl (own_w hw 16 rfl)) Via.refl e4 H_w_LONG (g := (mkF m 15 #[.val (.ref a0)] [(.ref a0)])) rfl (hb hby d2_15)
      refine Rch.st st7 ?_
      show Rch p.tables e below _ (T7.setTop (mkF m 18 #[.val (.ref a0)] [(.ref w_LONG), (.ref a0)]))
      by_cases hc8 : a0 = w_LONG
      · refine Rch.st (fun _ hr => Jvm.RoadKit.acmp (g := (mkF m 18 #[.val (.ref a0)] [(.ref w_LONG), (.ref a0)])) X7 hx rfl rfl rfl (pc0 := 18) (pc' := 21) (same := true) rfl (hb hby d2_18) rfl (decide_eq_true (congrArg Value.ref hc8)) (by decide) (by decide) hr) ?_
        show Rch p.tables e below _ (T7.setTop (mkF m 21 #[.val (.ref a0)] []))
        refine Rch.st (fun _ hr => XS.iconst X7.here hx rfl (hb hby d2_21) hr) ?_
        show Rch p.tables e below _ (T7.setTop (mkF m 22 #[.val (.ref a0)] [(.int (1 : Int32))]))
        refine Rch.st (fun _ hr => XS.goto X7.here hx rfl (pc0 := 22) (pc' := 26) rfl (hb hby d2_22) (by decide) (by decide) hr) ?_
        show Rch p.tables e below _ (T7.setTop (mkF m 26 #[.val (.ref a0)] [(.int (1 : Int32))]))
        obtain ⟨fs, hr, hrun, hended, hW, hsame⟩ := X7.leave (v := some (.int (1 : Int32))) (fun h => by rw [Bd.returns] at h; cases h)
        refine Rch.fin (u := T7.setFrames fs) (retN X7 hx (t := .boolean) Bd.returns (by simp) (hb hby d2_26) hr) ⟨_, hrun, hended, _, _, rfl, ⟨?_, N0, e7⟩, ⟨_, rfl⟩, hW, hsame.mono (by decide) (by decide)⟩
        rw [show F2 a0 w_SHORT w_INT w_LONG = (1 : Int32) from by unfold F2; rw [if_neg hc2, if_neg hc5, if_pos hc8]]
      · refine Rch.st (fun _ hr => Jvm.RoadKit.acmp (g := (mkF m 18 #[.val (.ref a0)] [(.ref w_LONG), (.ref a0)])) X7 hx rfl rfl rfl (pc0 := 18) (pc' := 25) (same := false) rfl (hb hby d2_18) rfl (decide_eq_false fun q => hc8 (Value.ref.inj q)) (by decide) (by decide) hr) ?_
        show Rch p.tables e below _ (T7.setTop (mkF m 25 #[.val (.ref a0)] []))
        refine Rch.st (fun _ hr => XS.iconst X7.here hx rfl (hb hby d2_25) hr) ?_
        show Rch p.tables e below _ (T7.setTop (mkF m 26 #[.val (.ref a0)] [(.int (0 : Int32))]))
        obtain ⟨fs, hr, hrun, hended, hW, hsame⟩ := X7.leave (v := some (.int (0 : Int32))) (fun h => by rw [Bd.returns] at h; cases h)
        refine Rch.fin (u := T7.setFrames fs) (retN X7 hx (t := .boolean) Bd.returns (by simp) (hb hby d2_26) hr) ⟨_, hrun, hended, _, _, rfl, ⟨?_, N0, e7⟩, ⟨_, rfl⟩, hW, hsame.mono (by decide) (by decide)⟩
        rw [show F2 a0 w_SHORT w_INT w_LONG = (0 : Int32) from by unfold F2; rw [if_neg hc2, if_neg hc5, if_neg hc8]]
theorem pd_0 : parseMethodDescriptor "(I)Lcom/example/saanich/saanich/catalog/Datatype;" = some ⟨[.int], some (.object "com/example/saanich/saanich/catalog/Datatype")⟩ := by decide +kernel
theorem pd_1 : parseMethodDescriptor "()Z" = some ⟨[], some .boolean⟩ := by decide +kernel
def F0 (p0 : Int32) (w_BOOLEAN : Addr) (w_SHORT : Addr) (w_INT : Addr) (w_LONG : Addr) (w_FLOAT : Addr) (w_DOUBLE : Addr) (w_CHAR : Addr) (w_UNICODE_CHAR : Addr) : Int32 := (if (p0 &&& (7 : Int32)) = (1 : Int32) then (if (F2 (F1 (p0 &&& (7 : Int32)) w_BOOLEAN w_SHORT w_INT w_LONG w_FLOAT w_DOUBLE w_CHAR w_UNICODE_CHAR) w_SHORT w_INT w_LONG) = (1 : Int32) then (1 : Int32) else (0 : Int32)) else (if (p0 &&& (7 : Int32)) = (2 : Int32) then (if (F2 (F1 (p0 &&& (7 : Int32)) w_BOOLEAN w_SHORT w_INT w_LONG w_FLOAT w_DOUBLE w_CHAR w_UNICODE_CHAR) w_SHORT w_INT w_LONG) = (1 : Int32) then (1 : Int32) else (0 : Int32)) else (if (p0 &&& (7 : Int32)) = (3 : Int32) then (if (F2 (F1 (p0 &&& (7 : Int32)) w_BOOLEAN w_SHORT w_INT w_LONG w_FLOAT w_DOUBLE w_CHAR w_UNICODE_CHAR) w_SHORT w_INT w_LONG) = (1 : Int32) then (1 : Int32) else (0 : Int32)) else (if (F2 (F1 (p0 &&& (7 : Int32)) w_BOOLEAN w_SHORT w_INT w_LONG w_FLOAT w_DOUBLE w_CHAR w_UNICODE_CHAR) w_SHORT w_INT w_LONG) = (0 : Int32) then (1 : Int32) else (0 : Int32)))))
def Q0 (p0 : Int32) (w_BOOLEAN : Addr) (w_SHORT : Addr) (w_INT : Addr) (w_LONG : Addr) (w_FLOAT : Addr) (w_DOUBLE : Addr) (w_CHAR : Addr) (w_UNICODE_CHAR : Addr) (h0 : Heap) (n0 : Nat) (v : Option Value) (h : Heap) (L : List Loc) : Prop := v = some (.int (F0 p0 w_BOOLEAN w_SHORT w_INT w_LONG w_FLOAT w_DOUBLE w_CHAR w_UNICODE_CHAR)) ∧ Fr n0 L ∧ h = h0
theorem ef_0 (m : MethodId) (p0 : Int32) : entryFrame m #[(.int p0)] maxLocals = mkF m 0 #[.val (.int p0), .unset, .unset, .unset] [] := by first | (simp [entryFrame, mkF, argsToLocals, Value.category, maxLocals]; done) | rfl
set_option maxRecDepth 65536 in
set_option maxHeartbeats 40000000 in
theorem b0 (l : Launch) (Z : State) (a0 : Array Value) (hw : ∀ d ∈ tables_1, d.before a0 Z = true) (ws : List Jvm.Cond) (p0 : Int32) (w_BOOLEAN : Addr) (w_SHORT : Addr) (w_INT : Addr) (w_LONG : Addr) (w_FLOAT : Addr) (w_DOUBLE : Addr) (w_CHAR : Addr) (w_UNICODE_CHAR : Addr) (h0 : Heap) (n0 : Nat) (H_w_BOOLEAN : Sta Z h0 "com/example/saanich/saanich/catalog/Datatype" "BOOLEAN" "Lcom/example/saanich/saanich/catalog/Datatype;" (.ref w_BOOLEAN)) (H_w_SHORT : Sta Z h0 "com/example/saanich/saanich/catalog/Datatype" "SHORT" "Lcom/example/saanich/saanich/catalog/Datatype;" (.ref w_SHORT)) (H_w_INT : Sta Z h0 "com/example/saanich/saanich/catalog/Datatype" "INT" "Lcom/example/saanich/saanich/catalog/Datatype;" (.ref w_INT)) (H_w_LONG : Sta Z h0 "com/example/saanich/saanich/catalog/Datatype" "LONG" "Lcom/example/saanich/saanich/catalog/Datatype;" (.ref w_LONG)) (H_w_FLOAT : Sta Z h0 "com/example/saanich/saanich/catalog/Datatype" "FLOAT" "Lcom/example/saanich/saanich/catalog/Datatype;" (.ref w_FLOAT)) (H_w_DOUBLE : Sta Z h0 "com/example/saanich/saanich/catalog/Datatype" "DOUBLE" "Lcom/example/saanich/saanich/catalog/Datatype;" (.ref w_DOUBLE)) (H_w_CHAR : Sta Z h0 "com/example/saanich/saanich/catalog/Datatype" "CHAR" "Lcom/example/saanich/saanich/catalog/Datatype;" (.ref w_CHAR)) (H_w_UNICODE_CHAR : Sta Z h0 "com/example/saanich/saanich/catalog/Datatype" "UNICODE_CHAR" "Lcom/example/saanich/saanich/catalog/Datatype;" (.ref w_UNICODE_CHAR)) (E_x0 : Exa Z h0 (F1 (p0 &&& (7 : Int32)) w_BOOLEAN w_SHORT w_INT w_LONG w_FLOAT w_DOUBLE w_CHAR w_UNICODE_CHAR) "com/example/saanich/saanich/catalog/Datatype") :
    MetFree l x (head1 (Jvm.Cond.code x code maxLocals ret :: ws) room_1) (fun a U => a = #[(.int p0)] ∧ Z.Warmed39 U.vm ∧ U.heap = h0) (fun _ _ _ _ _ => True) (fun _ U o U' => ∃ v L, o = .returned v ∧ Q0 p0 w_BOOLEAN w_SHORT w_INT w_LONG w_FLOAT w_DOUBLE w_CHAR w_UNICODE_CHAR h0 n0 v U'.heap L ∧ FrameEnd U o U' L room_1.cells room_1.slots) := by
  refine MetFree.of_bodySF (plainFor_of_name pn_com_example_saanich_saanich_catalog_DatatypeIsIntegerPinLaw) hisR ?_
  intro p e s m args below meth c s₁ Bd hml0 hP hK
  obtain ⟨rfl, hZ, hh⟩ := hP
  have hx := Bd.exec
  have hby := Bd.bytes
  have hml : c.maxLocals = 4 := hml0
  have hown : s.vm.findClass "com/example/saanich/saanich/catalog/DatatypeIsIntegerPinLaw" = some m.cls := findClass_of_methodNamed Bd.named
  have X0 : Stand p l e room_1 s m #[(.int p0)] below meth c s₁ [] 0 0 := Stand.of_body Bd
  have e0 : s₁.heap = h0 := by rw [← hh, Bd.state]; rfl
  have N0 := Fr.nil n0
  refine Rch.out (Rch.st (fun t k => castTop (ef_0 m p0) k) ?_)
  show Rch p.tables e below _ (s₁.setTop (mkF m 0 #[.val (.int p0), .unset, .unset, .unset] []))
  refine Rch.st (fun _ hr => XS.iloadN X0.here hx rfl (hb hby at_0) rfl hr) ?_
  show Rch p.tables e below _ (s₁.setTop (mkF m 1 #[.val (.int p0), .unset, .unset, .unset] [(.int p0)]))
  refine Rch.st (fun _ hr => XS.bipush X0.here hx rfl (hb hby at_1) hr) ?_
  show Rch p.tables e below _ (s₁.setTop (mkF m 3 #[.val (.int p0), .unset, .unset, .unset] [(.int (7 : Int32)), (.int p0)]))
  refine Rch.st (fun _ hr => XS.iand X0.here hx rfl (hb hby at_3) rfl hr) ?_
  show Rch p.tables e below _ (s₁.setTop (mkF m 4 #[.val (.int p0), .unset, .unset, .unset] [(.int (p0 &&& (7 : Int32)))]))
  refine Rch.st (fun _ hr => XS.istoreN X0.here hx rfl (hb hby at_4) rfl (l' := #[.val (.int p0), .val (.int (p0 &&& (7 : Int32))), .unset, .unset]) rfl hr) ?_
  show Rch p.tables e below _ (s₁.setTop (mkF m 5 #[.val (.int p0), .val (.int (p0 &&& (7 : Int32))), .unset, .unset] []))
  refine Rch.st (fun _ hr => XS.iloadN X0.here hx rfl (hb hby at_5) rfl hr) ?_
  show Rch p.tables e below _ (s₁.setTop (mkF m 6 #[.val (.int p0), .val (.int (p0 &&& (7 : Int32))), .unset, .unset] [(.int (p0 &&& (7 : Int32)))]))
  obtain ⟨_, _, ⟨T1, L1, k1, n1⟩, -, X1, ⟨Lc1, hQ1, l1, y1, z1⟩, st1⟩ := Jvm.LawKit.callS X0 hx (y := (⟨"com/example/saanich/saanich/catalog/DatatypeIsIntegerPinLaw", "pick", "(I)Lcom/example/saanich/saanich/catalog/Datatype;"⟩ : MethodName)) hown (mvT hZ (own_w hw 0 rfl)) (mvT hZ (own_w hw 1 rfl)) (mvT hZ (own_w hw 2 rfl)) (mvT hZ (own_w hw 3 rfl)) (by decide) (backOf (W := 0) (b1 l Z a0 hw [] (p0 &&& (7 : Int32)) w_BOOLEAN w_SHORT w_INT w_LONG w_FLOAT w_DOUBLE w_CHAR w_UNICODE_CHAR h0 n0 H_w_BOOLEAN H_w_SHORT H_w_INT H_w_LONG H_w_FLOAT H_w_DOUBLE H_w_CHAR H_w_UNICODE_CHAR) hZ (own_w hw 3 rfl) (own_w hw 2 rfl) (by decide) (by decide)) (g := (mkF m 6 #[.val (.int p0), .val (.int (p0 &&& (7 : Int32))), .unset, .unset] [(.int (p0 &&& (7 : Int32)))])) rfl (by rw [hml]; rfl) (argsL := [(.int (p0 &&& (7 : Int32)))]) (rest := []) (lenOf pd_0 rfl) rfl (by show 2 * 0 + _ ≤ _; exact Nat.le_of_eq rfl) (hb hby at_6) (fun _ _ => ⟨rfl, e0, (by decide : 0 + 0 ≤ _), (by decide : 0 + 0 ≤ _)⟩)
  dsimp only [Pt.U, Pt.locs, Pt.cells, Pt.slots] at X1 l1 y1 z1 st1 hQ1
  subst l1 y1 z1
  obtain ⟨rfl, N1q, e1⟩ := hQ1
  have N1 := Fr.app N0 N1q
  refine Rch.st st1 ?_
  show Rch p.tables e below _ (T1.setTop (mkF m 9 #[.val (.int p0), .val (.int (p0 &&& (7 : Int32))), .unset, .unset] [(.ref (F1 (p0 &&& (7 : Int32)) w_BOOLEAN w_SHORT w_INT w_LONG w_FLOAT w_DOUBLE w_CHAR w_UNICODE_CHAR))]))
  refine Rch.st (fun _ hr => XS.astoreN X1.here hx rfl (hb hby at_9) rfl rfl (l' := #[.val (.int p0), .val (.int (p0 &&& (7 : Int32))), .val (.ref (F1 (p0 &&& (7 : Int32)) w_BOOLEAN w_SHORT w_INT w_LONG w_FLOAT w_DOUBLE w_CHAR w_UNICODE_CHAR)), .unset]) rfl hr) ?_
  show Rch p.tables e below _ (T1.setTop (mkF m 10 #[.val (.int p0), .val (.int (p0 &&& (7 : Int32))), .val (.ref (F1 (p0 &&& (7 : Int32)) w_BOOLEAN w_SHORT w_INT w_LONG w_FLOAT w_DOUBLE w_CHAR w_UNICODE_CHAR)), .unset] []))
  refine Rch.st (fun _ hr => XS.iloadN X1.here hx rfl (hb hby at_10) rfl hr) ?_
  show Rch p.tables e below _ (T1.setTop (mkF m 11 #[.val (.int p0), .val (.int (p0 &&& (7 : Int32))), .val (.ref (F1 (p0 &&& (7 : Int32)) w_BOOLEAN w_SHORT w_INT w_LONG w_FLOAT w_DOUBLE w_CHAR w_UNICODE_CHAR)), .unset] [(.int (p0 &&& (7 : Int32)))]))
  refine Rch.st (fun _ hr => XS.iconst X1.here hx rfl (hb hby at_11) hr) ?_
  show Rch p.tables e below _ (T1.setTop (mkF m 12 #[.val (.int p0), .val (.int (p0 &&& (7 : Int32))), .val (.ref (F1 (p0 &&& (7 : Int32)) w_BOOLEAN w_SHORT w_INT w_LONG w_FLOAT w_DOUBLE w_CHAR w_UNICODE_CHAR)), .unset] [(.int (1 : Int32)), (.int (p0 &&& (7 : Int32)))]))
  by_cases hc2 : (p0 &&& (7 : Int32)) = (1 : Int32)
  · refine Rch.st (fun _ hr => XS.icmpYes X1.here hx rfl (pc0 := 12) (pc' := 25) rfl (hb hby at_12) rfl (teq hc2).1 (by decide) (by decide) hr) ?_
    show Rch p.tables e below _ (T1.setTop (mkF m 25 #[.val (.int p0), .val (.int (p0 &&& (7 : Int32))), .val (.ref (F1 (p0 &&& (7 : Int32)) w_BOOLEAN w_SHORT w_INT w_LONG w_FLOAT w_DOUBLE w_CHAR w_UNICODE_CHAR)), .unset] []))
    refine Rch.st (fun _ hr => XS.iconst X1.here hx rfl (hb hby at_25) hr) ?_
    show Rch p.tables e below _ (T1.setTop (mkF m 26 #[.val (.int p0), .val (.int (p0 &&& (7 : Int32))), .val (.ref (F1 (p0 &&& (7 : Int32)) w_BOOLEAN w_SHORT w_INT w_LONG w_FLOAT w_DOUBLE w_CHAR w_UNICODE_CHAR)), .unset] [(.int (1 : Int32))]))
    refine Rch.st (fun _ hr => XS.goto X1.here hx rfl (pc0 := 26) (pc' := 30) rfl (hb hby at_26) (by decide) (by decide) hr) ?_
    show Rch p.tables e below _ (T1.setTop (mkF m 30 #[.val (.int p0), .val (.int (p0 &&& (7 : Int32))), .val (.ref (F1 (p0 &&& (7 : Int32)) w_BOOLEAN w_SHORT w_INT w_LONG w_FLOAT w_DOUBLE w_CHAR w_UNICODE_CHAR)), .unset] [(.int (1 : Int32))]))
    refine Rch.st (fun _ hr => XS.istoreN X1.here hx rfl (hb hby at_30) rfl (l' := #[.val (.int p0), .val (.int (p0 &&& (7 : Int32))), .val (.ref (F1 (p0 &&& (7 : Int32)) w_BOOLEAN w_SHORT w_INT w_LONG w_FLOAT w_DOUBLE w_CHAR w_UNICODE_CHAR)), .val (.int (1 : Int32))]) rfl hr) ?_
    show Rch p.tables e below _ (T1.setTop (mkF m 31 #[.val (.int p0), .val (.int (p0 &&& (7 : Int32))), .val (.ref (F1 (p0 &&& (7 : Int32)) w_BOOLEAN w_SHORT w_INT w_LONG w_FLOAT w_DOUBLE w_CHAR w_UNICODE_CHAR)), .val (.int (1 : Int32))] []))
    refine Rch.st (fun _ hr => XS.aloadN X1.here hx rfl (hb hby at_31) rfl rfl hr) ?_
    show Rch p.tables e below _ (T1.setTop (mkF m 32 #[.val (.int p0), .val (.int (p0 &&& (7 : Int32))), .val (.ref (F1 (p0 &&& (7 : Int32)) w_BOOLEAN w_SHORT w_INT w_LONG w_FLOAT w_DOUBLE w_CHAR w_UNICODE_CHAR)), .val (.int (1 : Int32))] [(.ref (F1 (p0 &&& (7 : Int32)) w_BOOLEAN w_SHORT w_INT w_LONG w_FLOAT w_DOUBLE w_CHAR w_UNICODE_CHAR))]))
    obtain ⟨cq3, kq3, q3a, q3b, q3c⟩ := isOf hZ e1 E_x0
    obtain ⟨_, _, ⟨T3, L3, k3, n3⟩, -, X3, ⟨Lc3, hQ3, l3, y3, z3⟩, st3⟩ := X1.virtualBack hx (y := (⟨"com/example/saanich/saanich/catalog/Datatype", "isInteger", "()Z"⟩ : MethodName)) (z := (⟨"com/example/saanich/saanich/catalog/Datatype", "isInteger", "()Z"⟩ : MethodName)) hown (mvT hZ (own_w hw 7 rfl)) (mvT hZ (own_w hw 8 rfl)) (notFace_of_selects (args := #[]) (mvT hZ (own_w hw 10 rfl))) (mvT hZ (own_w hw 10 rfl)) (mvT hZ (own_w hw 9 rfl)) (by decide) (backOf (W := 0) (b2 l Z a0 hw [] (F1 (p0 &&& (7 : Int32)) w_BOOLEAN w_SHORT w_INT w_LONG w_FLOAT w_DOUBLE w_CHAR w_UNICODE_CHAR) w_SHORT w_INT w_LONG h0 n0 H_w_SHORT H_w_INT H_w_LONG) hZ (own_w hw 11 rfl) (own_w hw 5 rfl) (by decide) (by decide)) q3a q3c (g := (mkF m 32 #[.val (.int p0), .val (.int (p0 &&& (7 : Int32))), .val (.ref (F1 (p0 &&& (7 : Int32)) w_BOOLEAN w_SHORT w_INT w_LONG w_FLOAT w_DOUBLE w_CHAR w_UNICODE_CHAR)), .val (.int (1 : Int32))] [(.ref (F1 (p0 &&& (7 : Int32)) w_BOOLEAN w_SHORT w_INT w_LONG w_FLOAT w_DOUBLE w_CHAR w_UNICODE_CHAR))])) rfl (by rw [hml]; rfl) (Steps.refl _) (argsL := []) (rest := []) (lenOf pd_1 rfl) rfl (by show 2 * 0 + _ ≤ _; exact Nat.le_of_eq rfl) (hb hby at_32) (fun _ _ => ⟨rfl, e1, (by decide : 0 + 0 ≤ _), (by decide : 0 + 0 ≤ _)⟩)
    dsimp only [Pt.U, Pt.locs, Pt.cells, Pt.slots] at X3 l3 y3 z3 st3 hQ3
    subst l3 y3 z3
    obtain ⟨rfl, N3q, e3⟩ := hQ3
    have N3 := Fr.app N1 N3q
    refine Rch.tr st3 ?_
    show Rch p.tables e below _ (T3.setTop (mkF m 35 #[.val (.int p0), .val (.int (p0 &&& (7 : Int32))), .val (.ref (F1 (p0 &&& (7 : Int32)) w_BOOLEAN w_SHORT w_INT w_LONG w_FLOAT w_DOUBLE w_CHAR w_UNICODE_CHAR)), .val (.int (1 : Int32))] [(.int (F2 (F1 (p0 &&& (7 : Int32)) w_BOOLEAN w_SHORT w_INT w_LONG w_FLOAT w_DOUBLE w_CHAR w_UNICODE_CHAR) w_SHORT w_INT w_LONG))]))
    refine Rch.st (fun _ hr => XS.iloadN X3.here hx rfl (hb hby at_35) rfl hr) ?_
    show Rch p.tables e below _ (T3.setTop (mkF m 36 #[.val (.int p0), .val (.int (p0 &&& (7 : Int32))), .val (.ref (F1 (p0 &&& (7 : Int32)) w_BOOLEAN w_SHORT w_INT w_LONG w_FLOAT w_DOUBLE w_CHAR w_UNICODE_CHAR)), .val (.int (1 : Int32))] [(.int (1 : Int32)), (.int (F2 (F1 (p0 &&& (7 : Int32)) w_BOOLEAN w_SHORT w_INT w_LONG w_FLOAT w_DOUBLE w_CHAR w_UNICODE_CHAR) w_SHORT w_INT w_LONG))]))
    by_cases hc4 : (F2 (F1 (p0 &&& (7 : Int32)) w_BOOLEAN w_SHORT w_INT w_LONG w_FLOAT w_DOUBLE w_CHAR w_UNICODE_CHAR) w_SHORT w_INT w_LONG) = (1 : Int32)
    · refine Rch.st (fun _ hr => XS.icmpNo X3.here hx rfl (hb hby at_36) rfl (teq hc4).2 hr) ?_
      show Rch p.tables e below _ (T3.setTop (mkF m 39 #[.val (.int p0), .val (.int (p0 &&& (7 : Int32))), .val (.ref (F1 (p0 &&& (7 : Int32)) w_BOOLEAN w_SHORT w_INT w_LONG w_FLOAT w_DOUBLE w_CHAR w_UNICODE_CHAR)), .val (.int (1 : Int32))] []))
      refine Rch.st (fun _ hr => XS.iconst X3.here hx rfl (hb hby at_39) hr) ?_
      show Rch p.tables e below _ (T3.setTop (mkF m 40 #[.val (.int p0), .val (.int (p0 &&& (7 : Int32))), .val (.ref (F1 (p0 &&& (7 : Int32)) w_BOOLEAN w_SHORT w_INT w_LONG w_FLOAT w_DOUBLE w_CHAR w_UNICODE_CHAR)), .val (.int (1 : Int32))] [(.int (1 : Int32))]))
      refine Rch.st (fun _ hr => XS.goto X3.here hx rfl (pc0 := 40) (pc' := 44) rfl (hb hby at_40) (by decide) (by decide) hr) ?_
      show Rch p.tables e below _ (T3.setTop (mkF m 44 #[.val (.int p0), .val (.int (p0 &&& (7 : Int32))), .val (.ref (F1 (p0 &&& (7 : Int32)) w_BOOLEAN w_SHORT w_INT w_LONG w_FLOAT w_DOUBLE w_CHAR w_UNICODE_CHAR)), .val (.int (1 : Int32))] [(.int (1 : Int32))]))
      obtain ⟨fs, hr, hrun, hended, hW, hsame⟩ := X3.leave (v := some (.int (1 : Int32))) (fun h => by rw [Bd.returns] at h; cases h)
      refine Rch.fin (u := T3.setFrames fs) (retN X3 hx (t := .boolean) Bd.returns (by simp) (hb hby at_44) hr) ⟨_, hrun, hended, _, _, rfl, ⟨?_, N3, e3⟩, ⟨_, rfl⟩, hW, hsame.mono (by decide) (by decide)⟩
      rw [show F0 p0 w_BOOLEAN w_SHORT w_INT w_LONG w_FLOAT w_DOUBLE w_CHAR w_UNICODE_CHAR = (1 : Int32) from by unfold F0; rw [if_pos hc2, if_pos hc4]]
    · refine Rch.st (fun _ hr => XS.icmpYes X3.here hx rfl (pc0 := 36) (pc' := 43) rfl (hb hby at_36) rfl (feq hc4).2 (by decide) (by decide) hr) ?_
      show Rch p.tables e below _ (T3.setTop (mkF m 43 #[.val (.int p0), .val (.int (p0 &&& (7 : Int32))), .val (.ref (F1 (p0 &&& (7 : Int32)) w_BOOLEAN w_SHORT w_INT w_LONG w_FLOAT w_DOUBLE w_CHAR w_UNICODE_CHAR)), .val (.int (1 : Int32))] []))
      refine Rch.st (fun _ hr => XS.iconst X3.here hx rfl (hb hby at_43) hr) ?_
      show Rch p.tables e below _ (T3.setTop (mkF m 44 #[.val (.int p0), .val (.int (p0 &&& (7 : Int32))), .val (.ref (F1 (p0 &&& (7 : Int32)) w_BOOLEAN w_SHORT w_INT w_LONG w_FLOAT w_DOUBLE w_CHAR w_UNICODE_CHAR)), .val (.int (1 : Int32))] [(.int (0 : Int32))]))
      obtain ⟨fs, hr, hrun, hended, hW, hsame⟩ := X3.leave (v := some (.int (0 : Int32))) (fun h => by rw [Bd.returns] at h; cases h)
      refine Rch.fin (u := T3.setFrames fs) (retN X3 hx (t := .boolean) Bd.returns (by simp) (hb hby at_44) hr) ⟨_, hrun, hended, _, _, rfl, ⟨?_, N3, e3⟩, ⟨_, rfl⟩, hW, hsame.mono (by decide) (by decide)⟩
      rw [show F0 p0 w_BOOLEAN w_SHORT w_INT w_LONG w_FLOAT w_DOUBLE w_CHAR w_UNICODE_CHAR = (0 : Int32) from by unfold F0; rw [if_pos hc2, if_neg hc4]]
  · refine Rch.st (fun _ hr => XS.icmpNo X1.here hx rfl (hb hby at_12) rfl (feq hc2).1 hr) ?_
    show Rch p.tables e below _ (T1.setTop (mkF m 15 #[.val (.int p0), .val (.int (p0 &&& (7 : Int32))), .val (.ref (F1 (p0 &&& (7 : Int32)) w_BOOLEAN w_SHORT w_INT w_LONG w_FLOAT w_DOUBLE w_CHAR w_UNICODE_CHAR)), .unset] []))
    refine Rch.st (fun _ hr => XS.iloadN X1.here hx rfl (hb hby at_15) rfl hr) ?_
    show Rch p.tables e below _ (T1.setTop (mkF m 16 #[.val (.int p0), .val (.int (p0 &&& (7 : Int32))), .val (.ref (F1 (p0 &&& (7 : Int32)) w_BOOLEAN w_SHORT w_INT w_LONG w_FLOAT w_DOUBLE w_CHAR w_UNICODE_CHAR)), .unset] [(.int (p0 &&& (7 : Int32)))]))
    refine Rch.st (fun _ hr => XS.iconst X1.here hx rfl (hb hby at_16) hr) ?_
    show Rch p.tables e below _ (T1.setTop (mkF m 17 #[.val (.int p0), .val (.int (p0 &&& (7 : Int32))), .val (.ref (F1 (p0 &&& (7 : Int32)) w_BOOLEAN w_SHORT w_INT w_LONG w_FLOAT w_DOUBLE w_CHAR w_UNICODE_CHAR)), .unset] [(.int (2 : Int32)), (.int (p0 &&& (7 : Int32)))]))
    by_cases hc7 : (p0 &&& (7 : Int32)) = (2 : Int32)
    · refine Rch.st (fun _ hr => XS.icmpYes X1.here hx rfl (pc0 := 17) (pc' := 25) rfl (hb hby at_17) rfl (teq hc7).1 (by decide) (by decide) hr) ?_
      show Rch p.tables e below _ (T1.setTop (mkF m 25 #[.val (.int p0), .val (.int (p0 &&& (7 : Int32))), .val (.ref (F1 (p0 &&& (7 : Int32)) w_BOOLEAN w_SHORT w_INT w_LONG w_FLOAT w_DOUBLE w_CHAR w_UNICODE_CHAR)), .unset] []))
      refine Rch.st (fun _ hr => XS.iconst X1.here hx rfl (hb hby at_25) hr) ?_
      show Rch p.tables e below _ (T1.setTop (mkF m 26 #[.val (.int p0), .val (.int (p0 &&& (7 : Int32))), .val (.ref (F1 (p0 &&& (7 : Int32)) w_BOOLEAN w_SHORT w_INT w_LONG w_FLOAT w_DOUBLE w_CHAR w_UNICODE_CHAR)), .unset] [(.int (1 : Int32))]))
      refine Rch.st (fun _ hr => XS.goto X1.here hx rfl (pc0 := 26) (pc' := 30) rfl (hb hby at_26) (by decide) (by decide) hr) ?_
      show Rch p.tables e below _ (T1.setTop (mkF m 30 #[.val (.int p0), .val (.int (p0 &&& (7 : Int32))), .val (.ref (F1 (p0 &&& (7 : Int32)) w_BOOLEAN w_SHORT w_INT w_LONG w_FLOAT w_DOUBLE w_CHAR w_UNICODE_CHAR)), .unset] [(.int (1 : Int32))]))
      refine Rch.st (fun _ hr => XS.istoreN X1.here hx rfl (hb hby at_30) rfl (l' := #[.val (.int p0), .val (.int (p0 &&& (7 : Int32))), .val (.ref (F1 (p0 &&& (7 : Int32)) w_BOOLEAN w_SHORT w_INT w_LONG w_FLOAT w_DOUBLE w_CHAR w_UNICODE_CHAR)), .val (.int (1 : Int32))]) rfl hr) ?_
      show Rch p.tables e below _ (T1.setTop (mkF m 31 #[.val (.int p0), .val (.int (p0 &&& (7 : Int32))), .val (.ref (F1 (p0 &&& (7 : Int32)) w_BOOLEAN w_SHORT w_INT w_LONG w_FLOAT w_DOUBLE w_CHAR w_UNICODE_CHAR)), .val (.int (1 : Int32))] []))
      refine Rch.st (fun _ hr => XS.aloadN X1.here hx rfl (hb hby at_31) rfl rfl hr) ?_
      show Rch p.tables e below _ (T1.setTop (mkF m 32 #[.val (.int p0), .val (.int (p0 &&& (7 : Int32))), .val (.ref (F1 (p0 &&& (7 : Int32)) w_BOOLEAN w_SHORT w_INT w_LONG w_FLOAT w_DOUBLE w_CHAR w_UNICODE_CHAR)), .val (.int (1 : Int32))] [(.ref (F1 (p0 &&& (7 : Int32)) w_BOOLEAN w_SHORT w_INT w_LONG w_FLOAT w_DOUBLE w_CHAR w_UNICODE_CHAR))]))
      obtain ⟨cq8, kq8, q8a, q8b, q8c⟩ := isOf hZ e1 E_x0
      obtain ⟨_, _, ⟨T8, L8, k8, n8⟩, -, X8, ⟨Lc8, hQ8, l8, y8, z8⟩, st8⟩ := X1.virtualBack hx (y := (⟨"com/example/saanich/saanich/catalog/Datatype", "isInteger", "()Z"⟩ : MethodName)) (z := (⟨"com/example/saanich/saanich/catalog/Datatype", "isInteger", "()Z"⟩ : MethodName)) hown (mvT hZ (own_w hw 7 rfl)) (mvT hZ (own_w hw 8 rfl)) (notFace_of_selects (args := #[]) (mvT hZ (own_w hw 10 rfl))) (mvT hZ (own_w hw 10 rfl)) (mvT hZ (own_w hw 9 rfl)) (by decide) (backOf (W := 0) (b2 l Z a0 hw [] (F1 (p0 &&& (7 : Int32)) w_BOOLEAN w_SHORT w_INT w_LONG w_FLOAT w_DOUBLE w_CHAR w_UNICODE_CHAR) w_SHORT w_INT w_LONG h0 n0 H_w_SHORT H_w_INT H_w_LONG) hZ (own_w hw 11 rfl) (own_w hw 5 rfl) (by decide) (by decide)) q8a q8c (g := (mkF m 32 #[.val (.int p0), .val (.int (p0 &&& (7 : Int32))), .val (.ref (F1 (p0 &&& (7 : Int32)) w_BOOLEAN w_SHORT w_INT w_LONG w_FLOAT w_DOUBLE w_CHAR w_UNICODE_CHAR)), .val (.int (1 : Int32))] [(.ref (F1 (p0 &&& (7 : Int32)) w_BOOLEAN w_SHORT w_INT w_LONG w_FLOAT w_DOUBLE w_CHAR w_UNICODE_CHAR))])) rfl (by rw [hml]; rfl) (Steps.refl _) (argsL := []) (rest := []) (lenOf pd_1 rfl) rfl (by show 2 * 0 + _ ≤ _; exact Nat.le_of_eq rfl) (hb hby at_32) (fun _ _ => ⟨rfl, e1, (by decide : 0 + 0 ≤ _), (by decide : 0 + 0 ≤ _)⟩)
      dsimp only [Pt.U, Pt.locs, Pt.cells, Pt.slots] at X8 l8 y8 z8 st8 hQ8
      subst l8 y8 z8
      obtain ⟨rfl, N8q, e8⟩ := hQ8
      have N8 := Fr.app N1 N8q
      refine Rch.tr st8 ?_
      show Rch p.tables e below _ (T8.setTop (mkF m 35 #[.val (.int p0), .val (.int (p0 &&& (7 : Int32))), .val (.ref (F1 (p0 &&& (7 : Int32)) w_BOOLEAN w_SHORT w_INT w_LONG w_FLOAT w_DOUBLE w_CHAR w_UNICODE_CHAR)), .val (.int (1 : Int32))] [(.int (F2 (F1 (p0 &&& (7 : Int32)) w_BOOLEAN w_SHORT w_INT w_LONG w_FLOAT w_DOUBLE w_CHAR w_UNICODE_CHAR) w_SHORT w_INT w_LONG))]))
      refine Rch.st (fun _ hr => XS.iloadN X8.here hx rfl (hb hby at_35) rfl hr) ?_
      show Rch p.tables e below _ (T8.setTop (mkF m 36 #[.val (.int p0), .val (.int (p0 &&& (7 : Int32))), .val (.ref (F1 (p0 &&& (7 : Int32)) w_BOOLEAN w_SHORT w_INT w_LONG w_FLOAT w_DOUBLE w_CHAR w_UNICODE_CHAR)), .val (.int (1 : Int32))] [(.int (1 : Int32)), (.int (F2 (F1 (p0 &&& (7 : Int32)) w_BOOLEAN w_SHORT w_INT w_LONG w_FLOAT w_DOUBLE w_CHAR w_UNICODE_CHAR) w_SHORT w_INT w_LONG))]))
      by_cases hc9 : (F2 (F1 (p0 &&& (7 : Int32)) w_BOOLEAN w_SHORT w_INT w_LONG w_FLOAT w_DOUBLE w_CHAR w_UNICODE_CHAR) w_SHORT w_INT w_LONG) = (1 : Int32)
      · refine Rch.st (fun _ hr => XS.icmpNo X8.here hx rfl (hb hby at_36) rfl (teq hc9).2 hr) ?_
        show Rch p.tables e below _ (T8.setTop (mkF m 39 #[.val (.int p0), .val (.int (p0 &&& (7 : Int32))), .val (.ref (F1 (p0 &&& (7 : Int32)) w_BOOLEAN w_SHORT w_INT w_LONG w_FLOAT w_DOUBLE w_CHAR w_UNICODE_CHAR)), .val (.int (1 : Int32))] []))
        refine Rch.st (fun _ hr => XS.iconst X8.here hx rfl (hb hby at_39) hr) ?_
        show Rch p.tables e below _ (T8.setTop (mkF m 40 #[.val (.int p0), .val (.int (p0 &&& (7 : Int32))), .val (.ref (F1 (p0 &&& (7 : Int32)) w_BOOLEAN w_SHORT w_INT w_LONG w_FLOAT w_DOUBLE w_CHAR w_UNICODE_CHAR)), .val (.int (1 : Int32))] [(.int (1 : Int32))]))
        refine Rch.st (fun _ hr => XS.goto X8.here hx rfl (pc0 := 40) (pc' := 44) rfl (hb hby at_40) (by decide) (by decide) hr) ?_
        show Rch p.tables e below _ (T8.setTop (mkF m 44 #[.val (.int p0), .val (.int (p0 &&& (7 : Int32))), .val (.ref (F1 (p0 &&& (7 : Int32)) w_BOOLEAN w_SHORT w_INT w_LONG w_FLOAT w_DOUBLE w_CHAR w_UNICODE_CHAR)), .val (.int (1 : Int32))] [(.int (1 : Int32))]))
        obtain ⟨fs, hr, hrun, hended, hW, hsame⟩ := X8.leave (v := some (.int (1 : Int32))) (fun h => by rw [Bd.returns] at h; cases h)
        refine Rch.fin (u := T8.setFrames fs) (retN X8 hx (t := .boolean) Bd.returns (by simp) (hb hby at_44) hr) ⟨_, hrun, hended, _, _, rfl, ⟨?_, N8, e8⟩, ⟨_, rfl⟩, hW, hsame.mono (by decide) (by decide)⟩
        rw [show F0 p0 w_BOOLEAN w_SHORT w_INT w_LONG w_FLOAT w_DOUBLE w_CHAR w_UNICODE_CHAR = (1 : Int32) from by unfold F0; rw [if_neg hc2, if_pos hc7, if_pos hc9]]
      · refine Rch.st (fun _ hr => XS.icmpYes X8.here hx rfl (pc0 := 36) (pc' := 43) rfl (hb hby at_36) rfl (feq hc9).2 (by decide) (by decide) hr) ?_
        show Rch p.tables e below _ (T8.setTop (mkF m 43 #[.val (.int p0), .val (.int (p0 &&& (7 : Int32))), .val (.ref (F1 (p0 &&& (7 : Int32)) w_BOOLEAN w_SHORT w_INT w_LONG w_FLOAT w_DOUBLE w_CHAR w_UNICODE_CHAR)), .val (.int (1 : Int32))] []))
        refine Rch.st (fun _ hr => XS.iconst X8.here hx rfl (hb hby at_43) hr) ?_
        show Rch p.tables e below _ (T8.setTop (mkF m 44 #[.val (.int p0), .val (.int (p0 &&& (7 : Int32))), .val (.ref (F1 (p0 &&& (7 : Int32)) w_BOOLEAN w_SHORT w_INT w_LONG w_FLOAT w_DOUBLE w_CHAR w_UNICODE_CHAR)), .val (.int (1 : Int32))] [(.int (0 : Int32))]))
        obtain ⟨fs, hr, hrun, hended, hW, hsame⟩ := X8.leave (v := some (.int (0 : Int32))) (fun h => by rw [Bd.returns] at h; cases h)
        refine Rch.fin (u := T8.setFrames fs) (retN X8 hx (t := .boolean) Bd.returns (by simp) (hb hby at_44) hr) ⟨_, hrun, hended, _, _, rfl, ⟨?_, N8, e8⟩, ⟨_, rfl⟩, hW, hsame.mono (by decide) (by decide)⟩
        rw [show F0 p0 w_BOOLEAN w_SHORT w_INT w_LONG w_FLOAT w_DOUBLE w_CHAR w_UNICODE_CHAR = (0 : Int32) from by unfold F0; rw [if_neg hc2, if_pos hc7, if_neg hc9]]
    · refine Rch.st (fun _ hr => XS.icmpNo X1.here hx rfl (hb hby at_17) rfl (feq hc7).1 hr) ?_
      show Rch p.tables e below _ (T1.setTop (mkF m 20 #[.val (.int p0), .val (.int (p0 &&& (7 : Int32))), .val (.ref (F1 (p0 &&& (7 : Int32)) w_BOOLEAN w_SHORT w_INT w_LONG w_FLOAT w_DOUBLE w_CHAR w_UNICODE_CHAR)), .unset] []))
      refine Rch.st (fun _ hr => XS.iloadN X1.here hx rfl (hb hby at_20) rfl hr) ?_
      show Rch p.tables e below _ (T1.setTop (mkF m 21 #[.val (.int p0), .val (.int (p0 &&& (7 : Int32))), .val (.ref (F1 (p0 &&& (7 : Int32)) w_BOOLEAN w_SHORT w_INT w_LONG w_FLOAT w_DOUBLE w_CHAR w_UNICODE_CHAR)), .unset] [(.int (p0 &&& (7 : Int32)))]))
      refine Rch.st (fun _ hr => XS.iconst X1.here hx rfl (hb hby at_21) hr) ?_
      show Rch p.tables e below _ (T1.setTop (mkF m 22 #[.val (.int p0), .val (.int (p0 &&& (7 : Int32))), .val (.ref (F1 (p0 &&& (7 : Int32)) w_BOOLEAN w_SHORT w_INT w_LONG w_FLOAT w_DOUBLE w_CHAR w_UNICODE_CHAR)), .unset] [(.int (3 : Int32)), (.int (p0 &&& (7 : Int32)))]))
      by_cases hc12 : (p0 &&& (7 : Int32)) = (3 : Int32)
      · refine Rch.st (fun _ hr => XS.icmpNo X1.here hx rfl (hb hby at_22) rfl (teq hc12).2 hr) ?_
        show Rch p.tables e below _ (T1.setTop (mkF m 25 #[.val (.int p0), .val (.int (p0 &&& (7 : Int32))), .val (.ref (F1 (p0 &&& (7 : Int32)) w_BOOLEAN w_SHORT w_INT w_LONG w_FLOAT w_DOUBLE w_CHAR w_UNICODE_CHAR)), .unset] []))
        refine Rch.st (fun _ hr => XS.iconst X1.here hx rfl (hb hby at_25) hr) ?_
        show Rch p.tables e below _ (T1.setTop (mkF m 26 #[.val (.int p0), .val (.int (p0 &&& (7 : Int32))), .val (.ref (F1 (p0 &&& (7 : Int32)) w_BOOLEAN w_SHORT w_INT w_LONG w_FLOAT w_DOUBLE w_CHAR w_UNICODE_CHAR)), .unset] [(.int (1 : Int32))]))
        refine Rch.st (fun _ hr => XS.goto X1.here hx rfl (pc0 := 26) (pc' := 30) rfl (hb hby at_26) (by decide) (by decide) hr) ?_
        show Rch p.tables e below _ (T1.setTop (mkF m 30 #[.val (.int p0), .val (.int (p0 &&& (7 : Int32))), .val (.ref (F1 (p0 &&& (7 : Int32)) w_BOOLEAN w_SHORT w_INT w_LONG w_FLOAT w_DOUBLE w_CHAR w_UNICODE_CHAR)), .unset] [(.int (1 : Int32))]))
        refine Rch.st (fun _ hr => XS.istoreN X1.here hx rfl (hb hby at_30) rfl (l' := #[.val (.int p0), .val (.int (p0 &&& (7 : Int32))), .val (.ref (F1 (p0 &&& (7 : Int32)) w_BOOLEAN w_SHORT w_INT w_LONG w_FLOAT w_DOUBLE w_CHAR w_UNICODE_CHAR)), .val (.int (1 : Int32))]) rfl hr) ?_
        show Rch p.tables e below _ (T1.setTop (mkF m 31 #[.val (.int p0), .val (.int (p0 &&& (7 : Int32))), .val (.ref (F1 (p0 &&& (7 : Int32)) w_BOOLEAN w_SHORT w_INT w_LONG w_FLOAT w_DOUBLE w_CHAR w_UNICODE_CHAR)), .val (.int (1 : Int32))] []))
        refine Rch.st (fun _ hr => XS.aloadN X1.here hx rfl (hb hby at_31) rfl rfl hr) ?_
        show Rch p.tables e below _ (T1.setTop (mkF m 32 #[.val (.int p0), .val (.int (p0 &&& (7 : Int32))), .val (.ref (F1 (p0 &&& (7 : Int32)) w_BOOLEAN w_SHORT w_INT w_LONG w_FLOAT w_DOUBLE w_CHAR w_UNICODE_CHAR)), .val (.int (1 : Int32))] [(.ref (F1 (p0 &&& (7 : Int32)) w_BOOLEAN w_SHORT w_INT w_LONG w_FLOAT w_DOUBLE w_CHAR w_UNICODE_CHAR))]))
        obtain ⟨cq13, kq13, q13a, q13b, q13c⟩ := isOf hZ e1 E_x0
        obtain ⟨_, _, ⟨T13, L13, k13, n13⟩, -, X13, ⟨Lc13, hQ13, l13, y13, z13⟩, st13⟩ := X1.virtualBack hx (y := (⟨"com/example/saanich/saanich/catalog/Datatype", "isInteger", "()Z"⟩ : MethodName)) (z := (⟨"com/example/saanich/saanich/catalog/Datatype", "isInteger", "()Z"⟩ : MethodName)) hown (mvT hZ (own_w hw 7 rfl)) (mvT hZ (own_w hw 8 rfl)) (notFace_of_selects (args := #[]) (mvT hZ (own_w hw 10 rfl))) (mvT hZ (own_w hw 10 rfl)) (mvT hZ (own_w hw 9 rfl)) (by decide) (backOf (W := 0) (b2 l Z a0 hw [] (F1 (p0 &&& (7 : Int32)) w_BOOLEAN w_SHORT w_INT w_LONG w_FLOAT w_DOUBLE w_CHAR w_UNICODE_CHAR) w_SHORT w_INT w_LONG h0 n0 H_w_SHORT H_w_INT H_w_LONG) hZ (own_w hw 11 rfl) (own_w hw 5 rfl) (by decide) (by decide)) q13a q13c (g := (mkF m 32 #[.val (.int p0), .val (.int (p0 &&& (7 : Int32))), .val (.ref (F1 (p0 &&& (7 : Int32)) w_BOOLEAN w_SHORT w_INT w_LONG w_FLOAT w_DOUBLE w_CHAR w_UNICODE_CHAR)), .val (.int (1 : Int32))] [(.ref (F1 (p0 &&& (7 : Int32)) w_BOOLEAN w_SHORT w_INT w_LONG w_FLOAT w_DOUBLE w_CHAR w_UNICODE_CHAR))])) rfl (by rw [hml]; rfl) (Steps.refl _) (argsL := []) (rest := []) (lenOf pd_1 rfl) rfl (by show 2 * 0 + _ ≤ _; exact Nat.le_of_eq rfl) (hb hby at_32) (fun _ _ => ⟨rfl, e1, (by decide : 0 + 0 ≤ _), (by decide : 0 + 0 ≤ _)⟩)
        dsimp only [Pt.U, Pt.locs, Pt.cells, Pt.slots] at X13 l13 y13 z13 st13 hQ13
        subst l13 y13 z13
        obtain ⟨rfl, N13q, e13⟩ := hQ13
        have N13 := Fr.app N1 N13q
        refine Rch.tr st13 ?_
        show Rch p.tables e below _ (T13.setTop (mkF m 35 #[.val (.int p0), .val (.int (p0 &&& (7 : Int32))), .val (.ref (F1 (p0 &&& (7 : Int32)) w_BOOLEAN w_SHORT w_INT w_LONG w_FLOAT w_DOUBLE w_CHAR w_UNICODE_CHAR)), .val (.int (1 : Int32))] [(.int (F2 (F1 (p0 &&& (7 : Int32)) w_BOOLEAN w_SHORT w_INT w_LONG w_FLOAT w_DOUBLE w_CHAR w_UNICODE_CHAR) w_SHORT w_INT w_LONG))]))
        refine Rch.st (fun _ hr => XS.iloadN X13.here hx rfl (hb hby at_35) rfl hr) ?_
        show Rch p.tables e below _ (T13.setTop (mkF m 36 #[.val (.int p0), .val (.int (p0 &&& (7 : Int32))), .val (.ref (F1 (p0 &&& (7 : Int32)) w_BOOLEAN w_SHORT w_INT w_LONG w_FLOAT w_DOUBLE w_CHAR w_UNICODE_CHAR)), .val (.int (1 : Int32))] [(.int (1 : Int32)), (.int (F2 (F1 (p0 &&& (7 : Int32)) w_BOOLEAN w_SHORT w_INT w_LONG w_FLOAT w_DOUBLE w_CHAR w_UNICODE_CHAR) w_SHORT w_INT w_LONG))]))
        by_cases hc14 : (F2 (F1 (p0 &&& (7 : Int32)) w_BOOLEAN w_SHORT w_INT w_LONG w_FLOAT w_DOUBLE w_CHAR w_UNICODE_CHAR) w_SHORT w_INT w_LONG) = (1 : Int32)
        · refine Rch.st (fun _ hr => XS.icmpNo X13.here hx rfl (hb hby at_36) rfl (teq hc14).2 hr) ?_
          show Rch p.tables e below _ (T13.setTop (mkF m 39 #[.val (.int p0), .val (.int (p0 &&& (7 : Int32))), .val (.ref (F1 (p0 &&& (7 : Int32)) w_BOOLEAN w_SHORT w_INT w_LONG w_FLOAT w_DOUBLE w_CHAR w_UNICODE_CHAR)), .val (.int (1 : Int32))] []))
          refine Rch.st (fun _ hr => XS.iconst X13.here hx rfl (hb hby at_39) hr) ?_
          show Rch p.tables e below _ (T13.setTop (mkF m 40 #[.val (.int p0), .val (.int (p0 &&& (7 : Int32))), .val (.ref (F1 (p0 &&& (7 : Int32)) w_BOOLEAN w_SHORT w_INT w_LONG w_FLOAT w_DOUBLE w_CHAR w_UNICODE_CHAR)), .val (.int (1 : Int32))] [(.int (1 : Int32))]))
          refine Rch.st (fun _ hr => XS.goto X13.here hx rfl (pc0 := 40) (pc' := 44) rfl (hb hby at_40) (by decide) (by decide) hr) ?_
          show Rch p.tables e below _ (T13.setTop (mkF m 44 #[.val (.int p0), .val (.int (p0 &&& (7 : Int32))), .val (.ref (F1 (p0 &&& (7 : Int32)) w_BOOLEAN w_SHORT w_INT w_LONG w_FLOAT w_DOUBLE w_CHAR w_UNICODE_CHAR)), .val (.int (1 : Int32))] [(.int (1 : Int32))]))
          obtain ⟨fs, hr, hrun, hended, hW, hsame⟩ := X13.leave (v := some (.int (1 : Int32))) (fun h => by rw [Bd.returns] at h; cases h)
          refine Rch.fin (u := T13.setFrames fs) (retN X13 hx (t := .boolean) Bd.returns (by simp) (hb hby at_44) hr) ⟨_, hrun, hended, _, _, rfl, ⟨?_, N13, e13⟩, ⟨_, rfl⟩, hW, hsame.mono (by decide) (by decide)⟩
          rw [show F0 p0 w_BOOLEAN w_SHORT w_INT w_LONG w_FLOAT w_DOUBLE w_CHAR w_UNICODE_CHAR = (1 : Int32) from by unfold F0; rw [if_neg hc2, if_neg hc7, if_pos hc12, if_pos hc14]]
        · refine Rch.st (fun _ hr => XS.icmpYes X13.here hx rfl (pc0 := 36) (pc' := 43) rfl (hb hby at_36) rfl (feq hc14).2 (by decide) (by decide) hr) ?_
          show Rch p.tables e below _ (T13.setTop (mkF m 43 #[.val (.int p0), .val (.int (p0 &&& (7 : Int32))), .val (.ref (F1 (p0 &&& (7 : Int32)) w_BOOLEAN w_SHORT w_INT w_LONG w_FLOAT w_DOUBLE w_CHAR w_UNICODE_CHAR)), .val (.int (1 : Int32))] []))
          refine Rch.st (fun _ hr => XS.iconst X13.here hx rfl (hb hby at_43) hr) ?_
          show Rch p.tables e below _ (T13.setTop (mkF m 44 #[.val (.int p0), .val (.int (p0 &&& (7 : Int32))), .val (.ref (F1 (p0 &&& (7 : Int32)) w_BOOLEAN w_SHORT w_INT w_LONG w_FLOAT w_DOUBLE w_CHAR w_UNICODE_CHAR)), .val (.int (1 : Int32))] [(.int (0 : Int32))]))
          obtain ⟨fs, hr, hrun, hended, hW, hsame⟩ := X13.leave (v := some (.int (0 : Int32))) (fun h => by rw [Bd.returns] at h; cases h)
          refine Rch.fin (u := T13.setFrames fs) (retN X13 hx (t := .boolean) Bd.returns (by simp) (hb hby at_44) hr) ⟨_, hrun, hended, _, _, rfl, ⟨?_, N13, e13⟩, ⟨_, rfl⟩, hW, hsame.mono (by decide) (by decide)⟩
          rw [show F0 p0 w_BOOLEAN w_SHORT w_INT w_LONG w_FLOAT w_DOUBLE w_CHAR w_UNICODE_CHAR = (0 : Int32) from by unfold F0; rw [if_neg hc2, if_neg hc7, if_pos hc12, if_neg hc14]]
      · refine Rch.st (fun _ hr => XS.icmpYes X1.here hx rfl (pc0 := 22) (pc' := 29) rfl (hb hby at_22) rfl (feq hc12).2 (by decide) (by decide) hr) ?_
        show Rch p.tables e below _ (T1.setTop (mkF m 29 #[.val (.int p0), .val (.int (p0 &&& (7 : Int32))), .val (.ref (F1 (p0 &&& (7 : Int32)) w_BOOLEAN w_SHORT w_INT w_LONG w_FLOAT w_DOUBLE w_CHAR w_UNICODE_CHAR)), .unset] []))
        refine Rch.st (fun _ hr => XS.iconst X1.here hx rfl (hb hby at_29) hr) ?_
        show Rch p.tables e below _ (T1.setTop (mkF m 30 #[.val (.int p0), .val (.int (p0 &&& (7 : Int32))), .val (.ref (F1 (p0 &&& (7 : Int32)) w_BOOLEAN w_SHORT w_INT w_LONG w_FLOAT w_DOUBLE w_CHAR w_UNICODE_CHAR)), .unset] [(.int (0 : Int32))]))
        refine Rch.st (fun _ hr => XS.istoreN X1.here hx rfl (hb hby at_30) rfl (l' := #[.val (.int p0), .val (.int (p0 &&& (7 : Int32))), .val (.ref (F1 (p0 &&& (7 : Int32)) w_BOOLEAN w_SHORT w_INT w_LONG w_FLOAT w_DOUBLE w_CHAR w_UNICODE_CHAR)), .val (.int (0 : Int32))]) rfl hr) ?_
        show Rch p.tables e below _ (T1.setTop (mkF m 31 #[.val (.int p0), .val (.int (p0 &&& (7 : Int32))), .val (.ref (F1 (p0 &&& (7 : Int32)) w_BOOLEAN w_SHORT w_INT w_LONG w_FLOAT w_DOUBLE w_CHAR w_UNICODE_CHAR)), .val (.int (0 : Int32))] []))
        refine Rch.st (fun _ hr => XS.aloadN X1.here hx rfl (hb hby at_31) rfl rfl hr) ?_
        show Rch p.tables e below _ (T1.setTop (mkF m 32 #[.val (.int p0), .val (.int (p0 &&& (7 : Int32))), .val (.ref (F1 (p0 &&& (7 : Int32)) w_BOOLEAN w_SHORT w_INT w_LONG w_FLOAT w_DOUBLE w_CHAR w_UNICODE_CHAR)), .val (.int (0 : Int32))] [(.ref (F1 (p0 &&& (7 : Int32)) w_BOOLEAN w_SHORT w_INT w_LONG w_FLOAT w_DOUBLE w_CHAR w_UNICODE_CHAR))]))
        obtain ⟨cq17, kq17, q17a, q17b, q17c⟩ := isOf hZ e1 E_x0
        obtain ⟨_, _, ⟨T17, L17, k17, n17⟩, -, X17, ⟨Lc17, hQ17, l17, y17, z17⟩, st17⟩ := X1.virtualBack hx (y := (⟨"com/example/saanich/saanich/catalog/Datatype", "isInteger", "()Z"⟩ : MethodName)) (z := (⟨"com/example/saanich/saanich/catalog/Datatype", "isInteger", "()Z"⟩ : MethodName)) hown (mvT hZ (own_w hw 7 rfl)) (mvT hZ (own_w hw 8 rfl)) (notFace_of_selects (args := #[]) (mvT hZ (own_w hw 10 rfl))) (mvT hZ (own_w hw 10 rfl)) (mvT hZ (own_w hw 9 rfl)) (by decide) (backOf (W := 0) (b2 l Z a0 hw [] (F1 (p0 &&& (7 : Int32)) w_BOOLEAN w_SHORT w_INT w_LONG w_FLOAT w_DOUBLE w_CHAR w_UNICODE_CHAR) w_SHORT w_INT w_LONG h0 n0 H_w_SHORT H_w_INT H_w_LONG) hZ (own_w hw 11 rfl) (own_w hw 5 rfl) (by decide) (by decide)) q17a q17c (g := (mkF m 32 #[.val (.int p0), .val (.int (p0 &&& (7 : Int32))), .val (.ref (F1 (p0 &&& (7 : Int32)) w_BOOLEAN w_SHORT w_INT w_LONG w_FLOAT w_DOUBLE w_CHAR w_UNICODE_CHAR)), .val (.int (0 : Int32))] [(.ref (F1 (p0 &&& (7 : Int32)) w_BOOLEAN w_SHORT w_INT w_LONG w_FLOAT w_DOUBLE w_CHAR w_UNICODE_CHAR))])) rfl (by rw [hml]; rfl) (Steps.refl _) (argsL := []) (rest := []) (lenOf pd_1 rfl) rfl (by show 2 * 0 + _ ≤ _; exact Nat.le_of_eq rfl) (hb hby at_32) (fun _ _ => ⟨rfl, e1, (by decide : 0 + 0 ≤ _), (by decide : 0 + 0 ≤ _)⟩)
        dsimp only [Pt.U, Pt.locs, Pt.cells, Pt.slots] at X17 l17 y17 z17 st17 hQ17
        subst l17 y17 z17
        obtain ⟨rfl, N17q, e17⟩ := hQ17
        have N17 := Fr.app N1 N17q
        refine Rch.tr st17 ?_
        show Rch p.tables e below _ (T17.setTop (mkF m 35 #[.val (.int p0), .val (.int (p0 &&& (7 : Int32))), .val (.ref (F1 (p0 &&& (7 : Int32)) w_BOOLEAN w_SHORT w_INT w_LONG w_FLOAT w_DOUBLE w_CHAR w_UNICODE_CHAR)), .val (.int (0 : Int32))] [(.int (F2 (F1 (p0 &&& (7 : Int32)) w_BOOLEAN w_SHORT w_INT w_LONG w_FLOAT w_DOUBLE w_CHAR w_UNICODE_CHAR) w_SHORT w_INT w_LONG))]))
        refine Rch.st (fun _ hr => XS.iloadN X17.here hx rfl (hb hby at_35) rfl hr) ?_
        show Rch p.tables e below _ (T17.setTop (mkF m 36 #[.val (.int p0), .val (.int (p0 &&& (7 : Int32))), .val (.ref (F1 (p0 &&& (7 : Int32)) w_BOOLEAN w_SHORT w_INT w_LONG w_FLOAT w_DOUBLE w_CHAR w_UNICODE_CHAR)), .val (.int (0 : Int32))] [(.int (0 : Int32)), (.int (F2 (F1 (p0 &&& (7 : Int32)) w_BOOLEAN w_SHORT w_INT w_LONG w_FLOAT w_DOUBLE w_CHAR w_UNICODE_CHAR) w_SHORT w_INT w_LONG))]))
        by_cases hc18 : (F2 (F1 (p0 &&& (7 : Int32)) w_BOOLEAN w_SHORT w_INT w_LONG w_FLOAT w_DOUBLE w_CHAR w_UNICODE_CHAR) w_SHORT w_INT w_LONG) = (0 : Int32)
        · refine Rch.st (fun _ hr => XS.icmpNo X17.here hx rfl (hb hby at_36) rfl (teq hc18).2 hr) ?_
          show Rch p.tables e below _ (T17.setTop (mkF m 39 #[.val (.int p0), .val (.int (p0 &&& (7 : Int32))), .val (.ref (F1 (p0 &&& (7 : Int32)) w_BOOLEAN w_SHORT w_INT w_LONG w_FLOAT w_DOUBLE w_CHAR w_UNICODE_CHAR)), .val (.int (0 : Int32))] []))
          refine Rch.st (fun _ hr => XS.iconst X17.here hx rfl (hb hby at_39) hr) ?_
          show Rch p.tables e below _ (T17.setTop (mkF m 40 #[.val (.int p0), .val (.int (p0 &&& (7 : Int32))), .val (.ref (F1 (p0 &&& (7 : Int32)) w_BOOLEAN w_SHORT w_INT w_LONG w_FLOAT w_DOUBLE w_CHAR w_UNICODE_CHAR)), .val (.int (0 : Int32))] [(.int (1 : Int32))]))
          refine Rch.st (fun _ hr => XS.goto X17.here hx rfl (pc0 := 40) (pc' := 44) rfl (hb hby at_40) (by decide) (by decide) hr) ?_
          show Rch p.tables e below _ (T17.setTop (mkF m 44 #[.val (.int p0), .val (.int (p0 &&& (7 : Int32))), .val (.ref (F1 (p0 &&& (7 : Int32)) w_BOOLEAN w_SHORT w_INT w_LONG w_FLOAT w_DOUBLE w_CHAR w_UNICODE_CHAR)), .val (.int (0 : Int32))] [(.int (1 : Int32))]))
          obtain ⟨fs, hr, hrun, hended, hW, hsame⟩ := X17.leave (v := some (.int (1 : Int32))) (fun h => by rw [Bd.returns] at h; cases h)
          refine Rch.fin (u := T17.setFrames fs) (retN X17 hx (t := .boolean) Bd.returns (by simp) (hb hby at_44) hr) ⟨_, hrun, hended, _, _, rfl, ⟨?_, N17, e17⟩, ⟨_, rfl⟩, hW, hsame.mono (by decide) (by decide)⟩
          rw [show F0 p0 w_BOOLEAN w_SHORT w_INT w_LONG w_FLOAT w_DOUBLE w_CHAR w_UNICODE_CHAR = (1 : Int32) from by unfold F0; rw [if_neg hc2, if_neg hc7, if_neg hc12, if_pos hc18]]
        · refine Rch.st (fun _ hr => XS.icmpYes X17.here hx rfl (pc0 := 36) (pc' := 43) rfl (hb hby at_36) rfl (feq hc18).2 (by decide) (by decide) hr) ?_
          show Rch p.tables e below _ (T17.setTop (mkF m 43 #[.val (.int p0), .val (.int (p0 &&& (7 : Int32))), .val (.ref (F1 (p0 &&& (7 : Int32)) w_BOOLEAN w_SHORT w_INT w_LONG w_FLOAT w_DOUBLE w_CHAR w_UNICODE_CHAR)), .val (.int (0 : Int32))] []))
          refine Rch.st (fun _ hr => XS.iconst X17.here hx rfl (hb hby at_43) hr) ?_
          show Rch p.tables e below _ (T17.setTop (mkF m 44 #[.val (.int p0), .val (.int (p0 &&& (7 : Int32))), .val (.ref (F1 (p0 &&& (7 : Int32)) w_BOOLEAN w_SHORT w_INT w_LONG w_FLOAT w_DOUBLE w_CHAR w_UNICODE_CHAR)), .val (.int (0 : Int32))] [(.int (0 : Int32))]))
          obtain ⟨fs, hr, hrun, hended, hW, hsame⟩ := X17.leave (v := some (.int (0 : Int32))) (fun h => by rw [Bd.returns] at h; cases h)
          refine Rch.fin (u := T17.setFrames fs) (retN X17 hx (t := .boolean) Bd.returns (by simp) (hb hby at_44) hr) ⟨_, hrun, hended, _, _, rfl, ⟨?_, N17, e17⟩, ⟨_, rfl⟩, hW, hsame.mono (by decide) (by decide)⟩
          rw [show F0 p0 w_BOOLEAN w_SHORT w_INT w_LONG w_FLOAT w_DOUBLE w_CHAR w_UNICODE_CHAR = (0 : Int32) from by unfold F0; rw [if_neg hc2, if_neg hc7, if_neg hc12, if_neg hc18]]
theorem own_exa {Z : State} {h : Heap} (k : Int32) (BOOLEAN SHORT INT LONG FLOAT DOUBLE CHAR UNICODE_CHAR : Addr) (e_BOOLEAN : Exa Z h BOOLEAN "com/example/saanich/saanich/catalog/Datatype") (e_SHORT : Exa Z h SHORT "com/example/saanich/saanich/catalog/Datatype") (e_INT : Exa Z h INT "com/example/saanich/saanich/catalog/Datatype") (e_LONG : Exa Z h LONG "com/example/saanich/saanich/catalog/Datatype") (e_FLOAT : Exa Z h FLOAT "com/example/saanich/saanich/catalog/Datatype") (e_DOUBLE : Exa Z h DOUBLE "com/example/saanich/saanich/catalog/Datatype") (e_CHAR : Exa Z h CHAR "com/example/saanich/saanich/catalog/Datatype") (e_UNICODE_CHAR : Exa Z h UNICODE_CHAR "com/example/saanich/saanich/catalog/Datatype") : Exa Z h (F1 k BOOLEAN SHORT INT LONG FLOAT DOUBLE CHAR UNICODE_CHAR) "com/example/saanich/saanich/catalog/Datatype" := by
  unfold F1
  repeat' split
  all_goals assumption
theorem own_plain (x : Int32) (BOOLEAN SHORT INT LONG FLOAT DOUBLE CHAR UNICODE_CHAR : Addr) (n0 : BOOLEAN ≠ SHORT) (n1 : BOOLEAN ≠ INT) (n2 : BOOLEAN ≠ LONG) (n3 : SHORT ≠ INT) (n4 : SHORT ≠ LONG) (n5 : INT ≠ SHORT) (n6 : INT ≠ LONG) (n7 : LONG ≠ SHORT) (n8 : LONG ≠ INT) (n9 : FLOAT ≠ SHORT) (n10 : FLOAT ≠ INT) (n11 : FLOAT ≠ LONG) (n12 : DOUBLE ≠ SHORT) (n13 : DOUBLE ≠ INT) (n14 : DOUBLE ≠ LONG) (n15 : CHAR ≠ SHORT) (n16 : CHAR ≠ INT) (n17 : CHAR ≠ LONG) (n18 : UNICODE_CHAR ≠ SHORT) (n19 : UNICODE_CHAR ≠ INT) (n20 : UNICODE_CHAR ≠ LONG) : F0 x BOOLEAN SHORT INT LONG FLOAT DOUBLE CHAR UNICODE_CHAR = 1 := by
  unfold F0
  generalize x &&& 7 = k
  by_cases h1 : k = 1
  · subst h1; simp [F1, F2, n0, n1, n2, n3, n4, n5, n6, n7, n8, n9, n10, n11, n12, n13, n14, n15, n16, n17, n18, n19, n20]
  by_cases h2 : k = 2
  · subst h2; simp [F1, F2, n0, n1, n2, n3, n4, n5, n6, n7, n8, n9, n10, n11, n12, n13, n14, n15, n16, n17, n18, n19, n20]
  by_cases h3 : k = 3
  · subst h3; simp [F1, F2, n0, n1, n2, n3, n4, n5, n6, n7, n8, n9, n10, n11, n12, n13, n14, n15, n16, n17, n18, n19, n20]
  rw [if_neg h1, if_neg h2, if_neg h3]
  have hx : F1 k BOOLEAN SHORT INT LONG FLOAT DOUBLE CHAR UNICODE_CHAR ≠ SHORT ∧ F1 k BOOLEAN SHORT INT LONG FLOAT DOUBLE CHAR UNICODE_CHAR ≠ INT ∧ F1 k BOOLEAN SHORT INT LONG FLOAT DOUBLE CHAR UNICODE_CHAR ≠ LONG := by
    unfold F1; rw [if_neg h1, if_neg h2, if_neg h3]
    repeat' split
    all_goals exact ⟨by assumption, by assumption, by assumption⟩
  simp [F2, hx]
set_option maxRecDepth 65536 in
set_option maxHeartbeats 40000000 in
theorem comes_1 {Post : Tables → Env → Array Value → State → Outcome → State → Prop} (hpost : ∀ tb e args s v u, (limb_1_1.after args s (.returned v) u = true ∧ limb_1_2.after args s (.returned v) u = true ∧ True) → FrameEnd s (.returned v) u (Jvm.fieldLocs frame_1_writes args s ++ Jvm.arrayLocs frame_1_arrays args s ++ Jvm.staticLocs frame_1_statics s) 0 0 → Post tb e args s (.returned v) u) :
    ArmFor flags0 classFile x code maxLocals ret World_1 tables_1 room_1 Calls_1 rest_1 Pre_1 Post := by
  intro l hfl _ _ p e ha hc hk s m args below hf hA hF happ hP
  obtain ⟨hcalls, hrest, hpre⟩ := hP
  obtain ⟨-, -, -, hnamed, -, -, -, hat⟩ := (Spec.applies_iff hf).mp happ
  obtain ⟨hg, hn⟩ := and_e (Cond.before_iff.mp (show (Jvm.Cond.and given_1 narrow_1).before args s = true from hpre))
  obtain ⟨g1, g2⟩ := and_e hg
  obtain ⟨g3, g4⟩ := and_e hn
  obtain ⟨g5, g6⟩ := and_e g4
  obtain ⟨g7, g8⟩ := and_e g6
  obtain ⟨g9, g10⟩ := and_e g8
  obtain ⟨g11, g12⟩ := and_e g10
  obtain ⟨g13, g14⟩ := and_e g12
  obtain ⟨g15, g16⟩ := and_e g14
  obtain ⟨g17, g18⟩ := and_e g16
  obtain ⟨g19, g20⟩ := and_e g18
  obtain ⟨g21, g22⟩ := and_e g20
  obtain ⟨g23, g24⟩ := and_e g22
  obtain ⟨g25, g26⟩ := and_e g24
  obtain ⟨g27, g28⟩ := and_e g26
  obtain ⟨g29, g30⟩ := and_e g28
  obtain ⟨g31, g32⟩ := and_e g30
  obtain ⟨v0, rfl⟩ : ∃ v0 : Value, args = #[v0] := by
    have hs : args.size = 1 := by simpa [Cond.value, given_1] using g1
    obtain ⟨L⟩ := args
    match L, hs with
    | [v0], _ => exact ⟨v0, rfl⟩
  have hw := fun d (hd : d ∈ tables_1) => atoms_spec (ws := Jvm.Cond.code x code maxLocals ret :: tables_1) hat d (List.mem_cons_of_mem _ hd)
  obtain ⟨i0, ei0⟩ := is_v g2
  obtain rfl : v0 = (.int i0) := Option.some.inj ei0
  obtain ⟨w_BOOLEAN, ev_w_BOOLEAN⟩ := exa_v g3
  have E_w_BOOLEAN := Exa.start ev_w_BOOLEAN g3
  have H_w_BOOLEAN := Sta.start ev_w_BOOLEAN (Or.inr ⟨(own_w hw 5 rfl), (own_w hw 6 rfl)⟩)
  obtain ⟨w_SHORT, ev_w_SHORT⟩ := exa_v g5
  have E_w_SHORT := Exa.start ev_w_SHORT g5
  have H_w_SHORT := Sta.start ev_w_SHORT (Or.inr ⟨(own_w hw 5 rfl), (own_w hw 13 rfl)⟩)
  obtain ⟨w_INT, ev_w_INT⟩ := exa_v g11
  have E_w_INT := Exa.start ev_w_INT g11
  have H_w_INT := Sta.start ev_w_INT (Or.inr ⟨(own_w hw 5 rfl), (own_w hw 15 rfl)⟩)
  obtain ⟨w_LONG, ev_w_LONG⟩ := exa_v g15
  have E_w_LONG := Exa.start ev_w_LONG g15
  have H_w_LONG := Sta.start ev_w_LONG (Or.inr ⟨(own_w hw 5 rfl), (own_w hw 17 rfl)⟩)
  obtain ⟨w_CHAR, ev_w_CHAR⟩ := exa_v g19
  have E_w_CHAR := Exa.start ev_w_CHAR g19
  have H_w_CHAR := Sta.start ev_w_CHAR (Or.inr ⟨(own_w hw 5 rfl), (own_w hw 20 rfl)⟩)
  obtain ⟨w_UNICODE_CHAR, ev_w_UNICODE_CHAR⟩ := exa_v g23
  have E_w_UNICODE_CHAR := Exa.start ev_w_UNICODE_CHAR g23
  have H_w_UNICODE_CHAR := Sta.start ev_w_UNICODE_CHAR (Or.inr ⟨(own_w hw 5 rfl), (own_w hw 22 rfl)⟩)
  obtain ⟨w_FLOAT, ev_w_FLOAT⟩ := exa_v g27
  have E_w_FLOAT := Exa.start ev_w_FLOAT g27
  have H_w_FLOAT := Sta.start ev_w_FLOAT (Or.inr ⟨(own_w hw 5 rfl), (own_w hw 26 rfl)⟩)
  obtain ⟨w_DOUBLE, ev_w_DOUBLE⟩ := exa_v g31
  have E_w_DOUBLE := Exa.start ev_w_DOUBLE g31
  have H_w_DOUBLE := Sta.start ev_w_DOUBLE (Or.inr ⟨(own_w hw 5 rfl), (own_w hw 28 rfl)⟩)
  have U_ordinal_w_BOOLEAN : Fld s s.heap w_BOOLEAN "java/lang/Enum" "ordinal" "I" (.int (0 : Int32)) := Fld.start ((fld_at ev_w_BOOLEAN).symm.trans (own_eqInt g7))
  have U_ordinal_w_SHORT : Fld s s.heap w_SHORT "java/lang/Enum" "ordinal" "I" (.int (1 : Int32)) := Fld.start ((fld_at ev_w_SHORT).symm.trans (own_eqInt g9))
  have U_ordinal_w_INT : Fld s s.heap w_INT "java/lang/Enum" "ordinal" "I" (.int (2 : Int32)) := Fld.start ((fld_at ev_w_INT).symm.trans (own_eqInt g13))
  have U_ordinal_w_LONG : Fld s s.heap w_LONG "java/lang/Enum" "ordinal" "I" (.int (3 : Int32)) := Fld.start ((fld_at ev_w_LONG).symm.trans (own_eqInt g17))
  have U_ordinal_w_CHAR : Fld s s.heap w_CHAR "java/lang/Enum" "ordinal" "I" (.int (6 : Int32)) := Fld.start ((fld_at ev_w_CHAR).symm.trans (own_eqInt g21))
  have U_ordinal_w_UNICODE_CHAR : Fld s s.heap w_UNICODE_CHAR "java/lang/Enum" "ordinal" "I" (.int (7 : Int32)) := Fld.start ((fld_at ev_w_UNICODE_CHAR).symm.trans (own_eqInt g25))
  have U_ordinal_w_FLOAT : Fld s s.heap w_FLOAT "java/lang/Enum" "ordinal" "I" (.int (4 : Int32)) := Fld.start ((fld_at ev_w_FLOAT).symm.trans (own_eqInt g29))
  have U_ordinal_w_DOUBLE : Fld s s.heap w_DOUBLE "java/lang/Enum" "ordinal" "I" (.int (5 : Int32)) := Fld.start ((fld_at ev_w_DOUBLE).symm.trans (own_eqInt g32))
  have n_w_BOOLEAN_w_SHORT : w_BOOLEAN ≠ w_SHORT := Fld.ne U_ordinal_w_BOOLEAN U_ordinal_w_SHORT (fun q => absurd (Value.int.inj q) (by decide))
  have n_w_BOOLEAN_w_INT : w_BOOLEAN ≠ w_INT := Fld.ne U_ordinal_w_BOOLEAN U_ordinal_w_INT (fun q => absurd (Value.int.inj q) (by decide))
  have n_w_BOOLEAN_w_LONG : w_BOOLEAN ≠ w_LONG := Fld.ne U_ordinal_w_BOOLEAN U_ordinal_w_LONG (fun q => absurd (Value.int.inj q) (by decide))
  have n_w_SHORT_w_INT : w_SHORT ≠ w_INT := Fld.ne U_ordinal_w_SHORT U_ordinal_w_INT (fun q => absurd (Value.int.inj q) (by decide))
  have n_w_SHORT_w_LONG : w_SHORT ≠ w_LONG := Fld.ne U_ordinal_w_SHORT U_ordinal_w_LONG (fun q => absurd (Value.int.inj q) (by decide))
  have n_w_INT_w_SHORT : w_INT ≠ w_SHORT := Fld.ne U_ordinal_w_INT U_ordinal_w_SHORT (fun q => absurd (Value.int.inj q) (by decide))
  have n_w_INT_w_LONG : w_INT ≠ w_LONG := Fld.ne U_ordinal_w_INT U_ordinal_w_LONG (fun q => absurd (Value.int.inj q) (by decide))
  have n_w_LONG_w_SHORT : w_LONG ≠ w_SHORT := Fld.ne U_ordinal_w_LONG U_ordinal_w_SHORT (fun q => absurd (Value.int.inj q) (by decide))
  have n_w_LONG_w_INT : w_LONG ≠ w_INT := Fld.ne U_ordinal_w_LONG U_ordinal_w_INT (fun q => absurd (Value.int.inj q) (by decide))
  have n_w_FLOAT_w_SHORT : w_FLOAT ≠ w_SHORT := Fld.ne U_ordinal_w_FLOAT U_ordinal_w_SHORT (fun q => absurd (Value.int.inj q) (by decide))
  have n_w_FLOAT_w_INT : w_FLOAT ≠ w_INT := Fld.ne U_ordinal_w_FLOAT U_ordinal_w_INT (fun q => absurd (Value.int.inj q) (by decide))
  have n_w_FLOAT_w_LONG : w_FLOAT ≠ w_LONG := Fld.ne U_ordinal_w_FLOAT U_ordinal_w_LONG (fun q => absurd (Value.int.inj q) (by decide))
  have n_w_DOUBLE_w_SHORT : w_DOUBLE ≠ w_SHORT := Fld.ne U_ordinal_w_DOUBLE U_ordinal_w_SHORT (fun q => absurd (Value.int.inj q) (by decide))
  have n_w_DOUBLE_w_INT : w_DOUBLE ≠ w_INT := Fld.ne U_ordinal_w_DOUBLE U_ordinal_w_INT (fun q => absurd (Value.int.inj q) (by decide))
  have n_w_DOUBLE_w_LONG : w_DOUBLE ≠ w_LONG := Fld.ne U_ordinal_w_DOUBLE U_ordinal_w_LONG (fun q => absurd (Value.int.inj q) (by decide))
  have n_w_CHAR_w_SHORT : w_CHAR ≠ w_SHORT := Fld.ne U_ordinal_w_CHAR U_ordinal_w_SHORT (fun q => absurd (Value.int.inj q) (by decide))
  have n_w_CHAR_w_INT : w_CHAR ≠ w_INT := Fld.ne U_ordinal_w_CHAR U_ordinal_w_INT (fun q => absurd (Value.int.inj q) (by decide))
  have n_w_CHAR_w_LONG : w_CHAR ≠ w_LONG := Fld.ne U_ordinal_w_CHAR U_ordinal_w_LONG (fun q => absurd (Value.int.inj q) (by decide))
  have n_w_UNICODE_CHAR_w_SHORT : w_UNICODE_CHAR ≠ w_SHORT := Fld.ne U_ordinal_w_UNICODE_CHAR U_ordinal_w_SHORT (fun q => absurd (Value.int.inj q) (by decide))
  have n_w_UNICODE_CHAR_w_INT : w_UNICODE_CHAR ≠ w_INT := Fld.ne U_ordinal_w_UNICODE_CHAR U_ordinal_w_INT (fun q => absurd (Value.int.inj q) (by decide))
  have n_w_UNICODE_CHAR_w_LONG : w_UNICODE_CHAR ≠ w_LONG := Fld.ne U_ordinal_w_UNICODE_CHAR U_ordinal_w_LONG (fun q => absurd (Value.int.inj q) (by decide))
  have hF1 : F0 i0 w_BOOLEAN w_SHORT w_INT w_LONG w_FLOAT w_DOUBLE w_CHAR w_UNICODE_CHAR = 1 := own_plain _ _ _ _ _ _ _ _ _ n_w_BOOLEAN_w_SHORT n_w_BOOLEAN_w_INT n_w_BOOLEAN_w_LONG n_w_SHORT_w_INT n_w_SHORT_w_LONG n_w_INT_w_SHORT n_w_INT_w_LONG n_w_LONG_w_SHORT n_w_LONG_w_INT n_w_FLOAT_w_SHORT n_w_FLOAT_w_INT n_w_FLOAT_w_LONG n_w_DOUBLE_w_SHORT n_w_DOUBLE_w_INT n_w_DOUBLE_w_LONG n_w_CHAR_w_SHORT n_w_CHAR_w_INT n_w_CHAR_w_LONG n_w_UNICODE_CHAR_w_SHORT n_w_UNICODE_CHAR_w_INT n_w_UNICODE_CHAR_w_LONG
  have E_x0 := own_exa (i0 &&& 7) w_BOOLEAN w_SHORT w_INT w_LONG w_FLOAT w_DOUBLE w_CHAR w_UNICODE_CHAR E_w_BOOLEAN E_w_SHORT E_w_INT E_w_LONG E_w_FLOAT E_w_DOUBLE E_w_CHAR E_w_UNICODE_CHAR
  obtain ⟨n, o, h1, h2, h3, _, L, rfl, ⟨rfl, N, -⟩, hq⟩ := b0 l s _ hw tables_1 i0 w_BOOLEAN w_SHORT w_INT w_LONG w_FLOAT w_DOUBLE w_CHAR w_UNICODE_CHAR s.heap s.heap.size H_w_BOOLEAN H_w_SHORT H_w_INT H_w_LONG H_w_FLOAT H_w_DOUBLE H_w_CHAR H_w_UNICODE_CHAR E_x0 p e ha hc hk s m _ below hf ((Spec.applies_iff_loose hf).mp happ).1 ⟨rfl, State.Warmed39.refl s, rfl⟩ trivial
  refine ⟨n, _, h1, h2, h3, hpost _ _ _ _ _ _ ⟨Cond.after_iff.mpr rfl, Cond.after_iff.mpr (eq_i res_at (Term.int_eval (1)) (congrArg Value.int hF1)), trivial⟩ ⟨hq.1, hq.2.1, (hq.2.2.sift fun y hy => Or.inr (N y hy)).mono (by decide) (by decide)⟩⟩
theorem main_1_1 : Claimed_1_1 := comes_1 fun _ _ _ _ _ _ h hF => ⟨h.1, hF⟩
theorem main_1_2 : Claimed_1_2 := comes_1 fun _ _ _ _ _ _ h hF => ⟨h.2.1, hF⟩
end Jvm.Pilot.@@N@@
namespace Jvm.Pilot.@@N@@
open Jvm Jvm.ClassFile Sem Op Lib Jvm.Free Jvm.Stand Jvm.Pilot.@@N@@.Jvm.D
/-! MADE BY PROGRAM (witnessworld.py) out of the Statement's table words and the real class files: 10 classes; the members and pool entries that the words name. The judged class is class 1, her method 2. -/
namespace start1
open Jvm.ClassFile
def u (s : String) : CpInfo := .utf8 (stringToUtf16 s)
/-- a pool by its gaps: so many unusable entries, then the entry; so many at the end -/
def gap : Nat → List CpInfo → List CpInfo
  | 0, r => r
  | n + 1, r => .unusable :: gap n r
def poolList (es : List (Nat × CpInfo)) (last : Nat) : List CpInfo := es.foldr (fun e r => gap e.1 (e.2 :: r)) (gap last [])
def pool (es : List (Nat × CpInfo)) (last : Nat) : Array CpInfo := ⟨poolList es last⟩
def fileOf (pool : Array CpInfo) (this : Nat) (attrs : Array Attribute := #[]) (ms : Array MethodInfo := #[]) (fl : Nat := 33) (sup : Nat := 0) (ifs : Array Nat := #[]) (fds : Array FieldInfo := #[]) : ClassFile where
  minorVersion := 0
  majorVersion := 65
  constantPool := pool
  accessFlags := fl
  thisClass := this
  superClass := sup
  interfaces := ifs
  fields := fds
  methods := ms
  attributes := attrs
def plain (name : String) (sup : Option ClassId) : Class where
  name := name
  kind := .ordinary
  loader := none
  accessFlags := 33
  super := sup
  interfaces := #[]
  cf := none
  fields := #[]
  methods := #[]
  instanceTypes := #[]
  staticTypes := #[]
  resolved := #[]
  callSites := []
  init := .initialized
  statics := none
  mirror := none

def pool0 : Array CpInfo := pool [(5, u "<init>"), (0, u "()V"), (1, .class_ 10), (1, u "java/lang/Object")] 113

def k0m0 : Method := { name := "<init>", desc := "()V", sig := { parameters := [], returnType := none }, accessFlags := 1, code := none }
/-- java/lang/Object -/
def k0 : Class := { plain "java/lang/Object" none with
  accessFlags := 33
  interfaces := #[]
  cf := some (fileOf pool0 8 #[] #[{ accessFlags := 1, nameIndex := 5, descriptorIndex := 6, attributes := #[] }] 33 0 #[] #[])
  fields := #[]
  methods := #[k0m0]
  instanceTypes := #[]
  staticTypes := #[]
  resolved := Array.replicate 124 none
  statics := none }

def pool1 : Array CpInfo := pool [(2, .class_ 4), (1, u "java/lang/Object"), (0, u "<init>"), (0, u "()V"), (0, .fieldref 8 9), (0, .class_ 10), (0, .nameAndType 11 12), (0, u "com/example/saanich/saanich/catalog/Datatype"), (0, u "BOOLEAN"), (0, u "Lcom/example/saanich/saanich/catalog/Datatype;"), (0, .fieldref 8 14), (0, .nameAndType 15 12), (0, u "SHORT"), (0, .fieldref 8 17), (0, .nameAndType 18 12), (0, u "INT"), (0, .fieldref 8 20), (0, .nameAndType 21 12), (0, u "LONG"), (0, .fieldref 8 23), (0, .nameAndType 24 12), (0, u "FLOAT"), (0, .fieldref 8 26), (0, .nameAndType 27 12), (0, u "DOUBLE"), (0, .fieldref 8 29), (0, .nameAndType 30 12), (0, u "CHAR"), (0, .fieldref 8 32), (0, .nameAndType 33 12), (0, u "UNICODE_CHAR"), (0, .methodref 35 36), (0, .class_ 37), (0, .nameAndType 38 39), (0, u "com/example/saanich/saanich/catalog/DatatypeIsIntegerPinLaw"), (0, u "pick"), (0, u "(I)Lcom/example/saanich/saanich/catalog/Datatype;"), (0, .methodref 8 41), (0, .nameAndType 42 43), (0, u "isInteger"), (0, u "()Z"), (3, u "law"), (0, u "(I)Z")] 2

def k1m0 : Method := { name := "<init>", desc := "()V", sig := { parameters := [], returnType := none }, accessFlags := 1, code := none }
def k1c1 : Code := { maxStack := 2, maxLocals := 1, code := method_2_code, exceptionTable := #[], attributes := #[] }
def k1m1 : Method := { name := "pick", desc := "(I)Lcom/example/saanich/saanich/catalog/Datatype;", sig := { parameters := [.int], returnType := some (.object "com/example/saanich/saanich/catalog/Datatype") }, accessFlags := 10, code := some k1c1 }
def k1c2 : Code := { maxStack := 2, maxLocals := 4, code := code, exceptionTable := #[], attributes := #[] }
def k1m2 : Method := { name := "law", desc := "(I)Z", sig := { parameters := [.int], returnType := some .boolean }, accessFlags := 9, code := some k1c2 }
/-- com/example/saanich/saanich/catalog/DatatypeIsIntegerPinLaw -/
def k1 : Class := { plain "com/example/saanich/saanich/catalog/DatatypeIsIntegerPinLaw" (some 0) with
  accessFlags := 49
  interfaces := #[]
  cf := some (fileOf pool1 35 #[] #[{ accessFlags := 1, nameIndex := 5, descriptorIndex := 6, attributes := #[] }, { accessFlags := 10, nameIndex := 38, descriptorIndex := 39, attributes := #[] }, { accessFlags := 9, nameIndex := 47, descriptorIndex := 48, attributes := #[] }] 49 2 #[] #[])
  fields := #[]
  methods := #[k1m0, k1m1, k1m2]
  instanceTypes := #[]
  staticTypes := #[]
  resolved := Array.replicate 51 none
  statics := none }

def pool2 : Array CpInfo := pool [(1, .class_ 2), (0, u "java/lang/constant/Constable"), (0, .class_ 4), (0, u "java/lang/Object")] 6

/-- java/lang/constant/Constable -/
def k2 : Class := { plain "java/lang/constant/Constable" (some 0) with
  accessFlags := 1537
  interfaces := #[]
  cf := some (fileOf pool2 1 #[] #[] 1537 3 #[] #[])
  fields := #[]
  methods := #[]
  instanceTypes := #[]
  staticTypes := #[]
  resolved := Array.replicate 11 none
  statics := none }

def pool3 : Array CpInfo := pool [(1, .class_ 2), (0, u "java/lang/Comparable"), (0, .class_ 4), (0, u "java/lang/Object")] 7

/-- java/lang/Comparable -/
def k3 : Class := { plain "java/lang/Comparable" (some 0) with
  accessFlags := 1537
  interfaces := #[]
  cf := some (fileOf pool3 1 #[] #[] 1537 3 #[] #[])
  fields := #[]
  methods := #[]
  instanceTypes := #[]
  staticTypes := #[]
  resolved := Array.replicate 12 none
  statics := none }

def pool4 : Array CpInfo := pool [(1, .class_ 2), (0, u "java/io/Serializable"), (0, .class_ 4), (0, u "java/lang/Object")] 2

/-- java/io/Serializable -/
def k4 : Class := { plain "java/io/Serializable" (some 0) with
  accessFlags := 1537
  interfaces := #[]
  cf := some (fileOf pool4 1 #[] #[] 1537 3 #[] #[])
  fields := #[]
  methods := #[]
  instanceTypes := #[]
  staticTypes := #[]
  resolved := Array.replicate 7 none
  statics := none }

def pool5 : Array CpInfo := pool [(2, .class_ 4), (1, u "java/lang/Enum"), (0, u "name"), (0, u "Ljava/lang/String;"), (2, u "ordinal"), (0, u "I"), (1, .class_ 14), (1, u "java/lang/Object"), (4, u "hash"), (86, .class_ 108), (1, u "java/lang/Enum$EnumDesc"), (2, .class_ 112), (0, u "java/lang/constant/Constable"), (0, .class_ 114), (0, u "java/lang/Comparable"), (0, .class_ 116), (0, u "java/io/Serializable")] 87

/-- java/lang/Enum -/
def k5 : Class := { plain "java/lang/Enum" (some 0) with
  accessFlags := 1057
  interfaces := #[2, 3, 4]
  cf := some (fileOf pool5 2 #[.nestMembers #[106]] #[] 1057 12 #[111, 113, 115] #[{ accessFlags := 18, nameIndex := 5, descriptorIndex := 6, attributes := #[] }, { accessFlags := 18, nameIndex := 9, descriptorIndex := 10, attributes := #[] }, { accessFlags := 2, nameIndex := 19, descriptorIndex := 10, attributes := #[] }])
  fields := #[{ name := "name", type := (.object "java/lang/String"), accessFlags := 18, slot := 0, constantValue := 0 }, { name := "ordinal", type := .int, accessFlags := 18, slot := 1, constantValue := 0 }, { name := "hash", type := .int, accessFlags := 2, slot := 2, constantValue := 0 }]
  methods := #[]
  instanceTypes := #[(.object "java/lang/String"), .int, .int]
  staticTypes := #[]
  resolved := Array.replicate 204 none
  statics := none }

def pool6 : Array CpInfo := pool [(1, .class_ 2), (0, u "com/example/saanich/saanich/catalog/Datatype"), (2, u "BOOLEAN"), (0, u "Lcom/example/saanich/saanich/catalog/Datatype;"), (0, .fieldref 1 8), (0, .nameAndType 9 6), (0, u "SHORT"), (0, .fieldref 1 11), (0, .nameAndType 12 6), (0, u "INT"), (0, .fieldref 1 14), (0, .nameAndType 15 6), (0, u "LONG"), (2, u "FLOAT"), (2, u "DOUBLE"), (2, u "CHAR"), (2, u "UNICODE_CHAR"), (2, u "$VALUES"), (0, u "[Lcom/example/saanich/saanich/catalog/Datatype;"), (6, .class_ 40), (1, u "java/lang/Enum"), (8, u "votableName"), (0, u "Ljava/lang/String;"), (2, u "sqlType"), (2, u "valueClass"), (0, u "Ljava/lang/Class;"), (115, u "()Z"), (96, u "DECIMAL"), (0, u "Ljava/util/regex/Pattern;"), (85, u "isInteger")] 40

def k6c0 : Code := { maxStack := 2, maxLocals := 1, code := prog_9_method_10_code, exceptionTable := #[], attributes := #[] }
def k6m0 : Method := { name := "isInteger", desc := "()Z", sig := { parameters := [], returnType := some .boolean }, accessFlags := 1, code := some k6c0 }
/-- com/example/saanich/saanich/catalog/Datatype -/
def k6 : Class := { plain "com/example/saanich/saanich/catalog/Datatype" (some 5) with
  accessFlags := 16433
  interfaces := #[]
  cf := some (fileOf pool6 1 #[] #[{ accessFlags := 1, nameIndex := 357, descriptorIndex := 173, attributes := #[] }] 16433 38 #[] #[{ accessFlags := 16409, nameIndex := 5, descriptorIndex := 6, attributes := #[] }, { accessFlags := 16409, nameIndex := 9, descriptorIndex := 6, attributes := #[] }, { accessFlags := 16409, nameIndex := 12, descriptorIndex := 6, attributes := #[] }, { accessFlags := 16409, nameIndex := 15, descriptorIndex := 6, attributes := #[] }, { accessFlags := 16409, nameIndex := 18, descriptorIndex := 6, attributes := #[] }, { accessFlags := 16409, nameIndex := 21, descriptorIndex := 6, attributes := #[] }, { accessFlags := 16409, nameIndex := 24, descriptorIndex := 6, attributes := #[] }, { accessFlags := 16409, nameIndex := 27, descriptorIndex := 6, attributes := #[] }, { accessFlags := 26, nameIndex := 270, descriptorIndex := 271, attributes := #[] }, { accessFlags := 18, nameIndex := 49, descriptorIndex := 50, attributes := #[] }, { accessFlags := 18, nameIndex := 53, descriptorIndex := 50, attributes := #[] }, { accessFlags := 18, nameIndex := 56, descriptorIndex := 57, attributes := #[] }, { accessFlags := 4122, nameIndex := 30, descriptorIndex := 31, attributes := #[] }])
  fields := #[{ name := "BOOLEAN", type := (.object "com/example/saanich/saanich/catalog/Datatype"), accessFlags := 16409, slot := 0, constantValue := 0 }, { name := "SHORT", type := (.object "com/example/saanich/saanich/catalog/Datatype"), accessFlags := 16409, slot := 1, constantValue := 0 }, { name := "INT", type := (.object "com/example/saanich/saanich/catalog/Datatype"), accessFlags := 16409, slot := 2, constantValue := 0 }, { name := "LONG", type := (.object "com/example/saanich/saanich/catalog/Datatype"), accessFlags := 16409, slot := 3, constantValue := 0 }, { name := "FLOAT", type := (.object "com/example/saanich/saanich/catalog/Datatype"), accessFlags := 16409, slot := 4, constantValue := 0 }, { name := "DOUBLE", type := (.object "com/example/saanich/saanich/catalog/Datatype"), accessFlags := 16409, slot := 5, constantValue := 0 }, { name := "CHAR", type := (.object "com/example/saanich/saanich/catalog/Datatype"), accessFlags := 16409, slot := 6, constantValue := 0 }, { name := "UNICODE_CHAR", type := (.object "com/example/saanich/saanich/catalog/Datatype"), accessFlags := 16409, slot := 7, constantValue := 0 }, { name := "DECIMAL", type := (.object "java/util/regex/Pattern"), accessFlags := 26, slot := 8, constantValue := 0 }, { name := "votableName", type := (.object "java/lang/String"), accessFlags := 18, slot := 3, constantValue := 0 }, { name := "sqlType", type := (.object "java/lang/String"), accessFlags := 18, slot := 4, constantValue := 0 }, { name := "valueClass", type := (.object "java/lang/Class"), accessFlags := 18, slot := 5, constantValue := 0 }, { name := "$VALUES", type := (.array (.object "com/example/saanich/saanich/catalog/Datatype")), accessFlags := 4122, slot := 9, constantValue := 0 }]
  methods := #[k6m0]
  instanceTypes := #[(.object "java/lang/String"), .int, .int, (.object "java/lang/String"), (.object "java/lang/String"), (.object "java/lang/Class")]
  staticTypes := #[(.object "com/example/saanich/saanich/catalog/Datatype"), (.object "com/example/saanich/saanich/catalog/Datatype"), (.object "com/example/saanich/saanich/catalog/Datatype"), (.object "com/example/saanich/saanich/catalog/Datatype"), (.object "com/example/saanich/saanich/catalog/Datatype"), (.object "com/example/saanich/saanich/catalog/Datatype"), (.object "com/example/saanich/saanich/catalog/Datatype"), (.object "com/example/saanich/saanich/catalog/Datatype"), (.object "java/util/regex/Pattern"), (.array (.object "com/example/saanich/saanich/catalog/Datatype"))]
  resolved := Array.replicate 398 none
  statics := some 0 }

def pool7 : Array CpInfo := pool [(1, u "java/lang/Cloneable"), (0, .class_ 1), (0, u "java/lang/Object"), (0, .class_ 3)] 3

/-- java/lang/Cloneable -/
def k7 : Class := { plain "java/lang/Cloneable" (some 0) with
  accessFlags := 1537
  interfaces := #[]
  cf := some (fileOf pool7 2 #[] #[] 1537 4 #[] #[])
  fields := #[]
  methods := #[]
  instanceTypes := #[]
  staticTypes := #[]
  resolved := Array.replicate 8 none
  statics := none }

/-- the primitive byte -/
def k8 : Class := { plain "byte" none with kind := .primitive 'B', accessFlags := 0x411 }
/-- [B -/
def k9 : Class := { plain "[B" (some 0) with kind := .array 8 .byte, interfaces := #[7, 4], accessFlags := 1041 }

def heap : Heap := #[{ cls := 6, slots := #[.ref 1, .ref 2, .ref 3, .ref 4, .ref 7, .ref 8, .ref 5, .ref 6, .null, .null], vm := .statics 6 },
  { cls := 6, slots := #[.null, .int 0, .int 0, .null, .null, .null], vm := .none },
  { cls := 6, slots := #[.null, .int 1, .int 0, .null, .null, .null], vm := .none },
  { cls := 6, slots := #[.null, .int 2, .int 0, .null, .null, .null], vm := .none },
  { cls := 6, slots := #[.null, .int 3, .int 0, .null, .null, .null], vm := .none },
  { cls := 6, slots := #[.null, .int 6, .int 0, .null, .null, .null], vm := .none },
  { cls := 6, slots := #[.null, .int 7, .int 0, .null, .null, .null], vm := .none },
  { cls := 6, slots := #[.null, .int 4, .int 0, .null, .null, .null], vm := .none },
  { cls := 6, slots := #[.null, .int 5, .int 0, .null, .null, .null], vm := .none }]
def classes : Array Class := #[k0, k1, k2, k3, k4, k5, k6, k7, k8, k9]
def interned : List (Array UInt16 × Addr) := []
def slotsUsed : Nat := 58
def theMethod : MethodId := ⟨1, 2⟩
def args0 : Array Value := #[.int 5]
def aboutOver (below : List Frame) : State where
  vm := { classes := classes, interned := interned.toArray }
  heap := heap
  slotsUsed := slotsUsed
  threads := #[{ frames := .invoking theMethod args0 :: below }]
def below0 : List Frame := [.native { method := ⟨0, 0⟩, args := #[] }]
def about1 : State := aboutOver below0
def p0 : Program := .bare "" "" ""
def e0 : Env := launch0.env 0 0 0
theorem w_frames : about1.frames = Frame.invoking theMethod args0 :: below0 := rfl
set_option maxRecDepth 65536 in
theorem w_args : argsFit about1.vm theMethod args0 = true := by decide +kernel
set_option maxRecDepth 65536 in
theorem w_heap : heapFits about1 = true := by decide +kernel
set_option maxRecDepth 65536 in
theorem w_runnable : about1.curStatus? = some .runnable := by decide +kernel
set_option maxRecDepth 65536 in
theorem w_alone : about1.alone = true := by decide +kernel
set_option maxRecDepth 65536 in
theorem w_named : about1.methodNamed? x = some theMethod := by decide +kernel
set_option maxRecDepth 65536 in
theorem w_hears : about1.hears theMethod below0 = true := by decide +kernel
set_option maxRecDepth 65536 in
theorem w_ripe : about1.ripe theMethod args0 below0 = true := by decide +kernel
theorem w_running : about1.status = .running := rfl
set_option maxRecDepth 65536 in
theorem w_room : about1.hasRoom e0.platform room_1 = true :=
  launch0.hasRoom_least _ room_1 (by decide +kernel) (by decide +kernel) (by decide +kernel) (by decide +kernel) (by decide +kernel) (by decide +kernel)
theorem allAtoms_all (ts : List Jvm.Cond) (a : Array Jvm.Value) (st : Jvm.State) : (allAtoms ts).before a st = ts.all (fun c => c.before a st) := by
  induction ts with
  | nil => rfl
  | cons c t ih =>
    show (Jvm.Cond.and c (allAtoms t)).before a st = _
    rw [Jvm.Cond.before_and, ih, List.all_cons]
def words1 : List Jvm.Cond := Jvm.Cond.code x code maxLocals ret :: tables_1
/-- a 'code' word, met by the world's own term for the bytes: nothing is compared byte by byte -/
theorem code_word {y : MethodName} {bytes : ByteArray} {mx : Nat} {rt : Option FieldType} {a : Array Value} {s : State} {m : MethodId} {meth : Method} {c : Code} (h1 : s.methodNamed? y = some m) (h2 : s.vm.method? m = some meth) (h3 : meth.code = some c) (h4 : c.code = bytes)
    (h5 : (c.maxLocals == mx && c.exceptionTable.isEmpty && decide (c.maxStack ≤ mostOperands) && decide (meth.sig.returnType = rt) && !meth.locks && decide (parseMethodDescriptor y.desc = some meth.sig)) = true) : (Jvm.Cond.code y bytes mx rt).before a s = true := by
  simp only [Bool.and_eq_true, beq_iff_eq, Bool.not_eq_true', decide_eq_true_eq] at h5
  obtain ⟨⟨⟨⟨⟨g1, g2⟩, g3⟩, g4⟩, g5⟩, g6⟩ := h5
  simp [Cond.before, Cond.holds, Cond.value, h1, h2, h3, h4, g1, g2, g3, g4, g5, g6]
def isCode : Jvm.Cond → Bool
  | .code _ _ _ _ => true
  | _ => false
theorem all_split {L : List Jvm.Cond} {P : Jvm.Cond → Bool} (h1 : L.all (fun c => isCode c || P c) = true) (h2 : ∀ c ∈ L.filter isCode, P c = true) : L.all P = true := by
  refine List.all_eq_true.mpr fun c hc => ?_
  have h := List.all_eq_true.mp h1 c hc
  rcases Bool.eq_false_or_eq_true (isCode c) with hi | hi
  · exact h2 c (List.mem_filter.mpr ⟨hc, hi⟩)
  · simpa [hi] using h
set_option maxRecDepth 65536 in
theorem w_c0 : (Jvm.Cond.code x code maxLocals ret).before args0 about1 = true := code_word (m := ⟨1, 2⟩) (meth := k1m2) (c := k1c2) (by decide +kernel) rfl rfl rfl (by decide +kernel)
set_option maxRecDepth 65536 in
theorem w_c1 : (Jvm.Cond.code ({ cls := "com/example/saanich/saanich/catalog/DatatypeIsIntegerPinLaw", name := "pick", desc := "(I)Lcom/example/saanich/saanich/catalog/Datatype;" } : Jvm.MethodName) method_2_code (1 : Nat) (Option.some (Jvm.ClassFile.FieldType.object "com/example/saanich/saanich/catalog/Datatype"))).before args0 about1 = true := code_word (m := ⟨1, 1⟩) (meth := k1m1) (c := k1c1) (by decide +kernel) rfl rfl rfl (by decide +kernel)
set_option maxRecDepth 65536 in
theorem w_c2 : (Jvm.Cond.code ({ cls := "com/example/saanich/saanich/catalog/Datatype", name := "isInteger", desc := "()Z" } : Jvm.MethodName) prog_9_method_10_code (1 : Nat) (Option.some Jvm.ClassFile.FieldType.boolean)).before args0 about1 = true := code_word (m := ⟨6, 0⟩) (meth := k6m0) (c := k6c0) (by decide +kernel) rfl rfl rfl (by decide +kernel)
def codes1 : List Jvm.Cond := [Jvm.Cond.code x code maxLocals ret, Jvm.Cond.code ({ cls := "com/example/saanich/saanich/catalog/DatatypeIsIntegerPinLaw", name := "pick", desc := "(I)Lcom/example/saanich/saanich/catalog/Datatype;" } : Jvm.MethodName) method_2_code (1 : Nat) (Option.some (Jvm.ClassFile.FieldType.object "com/example/saanich/saanich/catalog/Datatype")), Jvm.Cond.code ({ cls := "com/example/saanich/saanich/catalog/Datatype", name := "isInteger", desc := "()Z" } : Jvm.MethodName) prog_9_method_10_code (1 : Nat) (Option.some Jvm.ClassFile.FieldType.boolean)]
set_option maxRecDepth 65536 in
theorem codes_eq : words1.filter isCode = codes1 := rfl
theorem w_codes : ∀ c ∈ words1.filter isCode, c.before args0 about1 = true := by
  rw [codes_eq]
  intro c hc
  simp only [codes1, List.mem_cons, List.not_mem_nil, or_false] at hc
  rcases hc with rfl | rfl | rfl
  · exact w_c0
  · exact w_c1
  · exact w_c2
set_option maxRecDepth 65536 in
theorem w_t1 : (words1.take 24).all (fun c => isCode c || c.before args0 about1) = true := by decide +kernel
set_option maxRecDepth 65536 in
theorem w_t2 : (words1.drop 24).all (fun c => isCode c || c.before args0 about1) = true := by decide +kernel
theorem w_tables : (allAtoms (Jvm.Cond.code x code maxLocals ret :: tables_1)).before args0 about1 = true := by
  rw [allAtoms_all]
  show words1.all (fun c => c.before args0 about1) = true
  refine all_split ?_ w_codes
  rw [← List.take_append_drop 24 words1, List.all_append, w_t1, w_t2]
  rfl
set_option maxRecDepth 65536 in
theorem w_case : (Jvm.Cond.and given_1 narrow_1).before args0 about1 = true := by decide +kernel
theorem w_applies : (headSpec (Jvm.Cond.code x code maxLocals ret :: tables_1) room_1).applies x e0.platform about1 = true :=
  (Spec.applies_iff w_frames).mpr ⟨w_running, w_runnable, w_alone, w_named, w_hears, w_ripe, w_room, w_tables⟩
theorem atStart : AtStart classFile x code maxLocals ret World_1 tables_1 room_1 Calls_1 rest_1 Pre_1 launch0 p0 e0 about1 theMethod args0 below0 :=
  ⟨lists_1, trivial, launch0.admits_env _ _ _, launch0.least_env, fairChoices_fair.cas, fairChoices_fair.clock, w_frames, w_args, w_heap, w_applies, trivial, trivial, w_case⟩
end start1
theorem witness_1 : WitnessClaimed_1 := ⟨start1.p0, start1.e0, start1.about1, start1.theMethod, start1.args0, start1.below0, start1.atStart⟩
end Jvm.Pilot.@@N@@
