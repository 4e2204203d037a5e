import JvmDerived
import JvmDerived.Pilot.@@N@@Statement
import JvmDerived.Pilot.@@N@@Code
set_option linter.unusedVariables false
set_option linter.unusedSimpArgs false
namespace Jvm.Pilot.@@N@@
open Jvm Jvm.ClassFile Sem Op Lib Jvm.Free Jvm.Stand Jvm.LawKit Jvm.RoadKit Bundle Jvm.Pilot.@@N@@.Jvm.D
theorem own_w {ws : List Jvm.Cond} {a0 : Array Value} {Z : State} (hw : ∀ d ∈ ws, d.before a0 Z = true) (i : Nat) {d : Jvm.Cond} (h : ws[i]? = some d) : d.before a0 Z = true := hw _ (List.mem_of_getElem? h)
/-- the run comes to a state of which P holds -/
def Rch (tb : Tables) (e : Env) (below : List Frame) (P : State → Prop) (t : State) : Prop := ∃ u, Steps tb e below t u ∧ P u
theorem Rch.st {tb : Tables} {e : Env} {below : List Frame} {P : State → Prop} {t t' : State} (h : ∀ target, Steps tb e below t' target → Steps tb e below t target) (k : Rch tb e below P t') : Rch tb e below P t := by
  obtain ⟨u, h1, h2⟩ := k
  exact ⟨u, h u h1, h2⟩
theorem Rch.tr {tb : Tables} {e : Env} {below : List Frame} {P : State → Prop} {t t' : State} (h : Steps tb e below t t') (k : Rch tb e below P t') : Rch tb e below P t := by
  obtain ⟨u, h1, h2⟩ := k
  exact ⟨u, h.trans h1, h2⟩
theorem Rch.fin {tb : Tables} {e : Env} {below : List Frame} {P : State → Prop} {t u : State} (h : Steps tb e below t u) (k : P u) : Rch tb e below P t := ⟨u, h, k⟩
theorem Rch.out {tb : Tables} {e : Env} {below : List Frame} {P : State → Outcome → Prop} {t : State} (h : Rch tb e below (fun u => ∃ o, P u o) t) : ∃ u o, Steps tb e below t u ∧ P u o := by
  obtain ⟨u, h1, o, h2⟩ := h
  exact ⟨u, o, h1, h2⟩
theorem own_eqInt {t : Term} {n : Int32} {args : Array Value} {s : State} (h : (Cond.eq t (.int n)).value args s none s [] = some true) : t.eval args s none [] s = some (.int n) := by
  have hn : (Term.int n).eval args s none [] s = some (.int n) := rfl
  cases hv : t.eval args s none [] s with
  | none => simp [Cond.value, hv] at h
  | some x => cases x <;> simp [Cond.value, hv, hn] at h ⊢; exact h
theorem own_retI {p : Program} {l : Launch} {e : Env} {R : Room} {s : State} {m : MethodId} {args : Array Value} {below : List Frame} {meth : Method} {c : Code} {T : State} {locs : List Loc} {cells slots : Nat} (X : Stand p l e R s m args below meth c T locs cells slots) (hx : p.tables.exec = Jvm.exec) {pc : Nat} {Ls : Array Slot} {z : Int32} {rest : List Value} (hret : meth.sig.returnType = some .int) (hd : decode c.code pc = .ok (.ireturn, 1)) {fs : List Frame}
    (hl : ∀ (f : JFrame) (acts : List Action), f.method = m → f.locked = none → f.entered = [] → (doReturn e (T.setTop f) acts (some (.int z))).1 = T.setFrames fs) : Steps p.tables e below (T.setTop (mkF m pc Ls (.int z :: rest))) (T.setFrames fs) :=
  retOut X hx hret rfl (Or.inl ⟨rfl, Or.inl rfl, z, rfl⟩) hd hl
theorem own_retA {p : Program} {l : Launch} {e : Env} {R : Room} {s : State} {m : MethodId} {args : Array Value} {below : List Frame} {meth : Method} {c : Code} {T : State} {locs : List Loc} {cells slots : Nat} (X : Stand p l e R s m args below meth c T locs cells slots) (hx : p.tables.exec = Jvm.exec) {pc : Nat} {Ls : Array Slot} {w : Value} {t : FieldType} {rest : List Value} (hret : meth.sig.returnType = some t) (hn : narrow t w = w) (ht : t.isReference = true) (hw : w.isRef = true) (hd : decode c.code pc = .ok (.areturn, 1)) {fs : List Frame}
    (hl : ∀ (f : JFrame) (acts : List Action), f.method = m → f.locked = none → f.entered = [] → (doReturn e (T.setTop f) acts (some w)).1 = T.setFrames fs) : Steps p.tables e below (T.setTop (mkF m pc Ls (w :: rest))) (T.setFrames fs) :=
  retOut X hx hret hn (Or.inr (Or.inr (Or.inr (Or.inr ⟨rfl, ht, hw⟩)))) hd hl
theorem own_retJ {p : Program} {l : Launch} {e : Env} {R : Room} {s : State} {m : MethodId} {args : Array Value} {below : List Frame} {meth : Method} {c : Code} {T : State} {locs : List Loc} {cells slots : Nat} (X : Stand p l e R s m args below meth c T locs cells slots) (hx : p.tables.exec = Jvm.exec) {pc : Nat} {Ls : Array Slot} {z : Int64} {rest : List Value} (hret : meth.sig.returnType = some .long) (hd : decode c.code pc = .ok (.lreturn, 1)) {fs : List Frame}
    (hl : ∀ (f : JFrame) (acts : List Action), f.method = m → f.locked = none → f.entered = [] → (doReturn e (T.setTop f) acts (some (.long z))).1 = T.setFrames fs) : Steps p.tables e below (T.setTop (mkF m pc Ls (.long z :: rest))) (T.setFrames fs) :=
  retOut X hx hret rfl (Or.inr (Or.inl ⟨rfl, rfl, z, rfl⟩)) hd hl
theorem own_retD {p : Program} {l : Launch} {e : Env} {R : Room} {s : State} {m : MethodId} {args : Array Value} {below : List Frame} {meth : Method} {c : Code} {T : State} {locs : List Loc} {cells slots : Nat} (X : Stand p l e R s m args below meth c T locs cells slots) (hx : p.tables.exec = Jvm.exec) {pc : Nat} {Ls : Array Slot} {z : UInt64} {rest : List Value} (hret : meth.sig.returnType = some .double) (hd : decode c.code pc = .ok (.dreturn, 1)) {fs : List Frame}
    (hl : ∀ (f : JFrame) (acts : List Action), f.method = m → f.locked = none → f.entered = [] → (doReturn e (T.setTop f) acts (some (.double z))).1 = T.setFrames fs) : Steps p.tables e below (T.setTop (mkF m pc Ls (.double z :: rest))) (T.setFrames fs) :=
  retOut X hx hret rfl (Or.inr (Or.inr (Or.inl ⟨rfl, rfl, z, rfl⟩))) hd hl

theorem d1_0 : decode prog_39_method_5_code 0 = .ok (.iload_n 1, 1) := by decide +kernel
theorem d1_1 : decode prog_39_method_5_code 1 = .ok (.aload_n 0, 1) := by decide +kernel
theorem d1_2 : decode prog_39_method_5_code 2 = .ok (.getfield 36, 3) := by decide +kernel
theorem d1_5 : decode prog_39_method_5_code 5 = .ok (.if_icmp .lt 7, 3) := by decide +kernel
theorem d1_12 : decode prog_39_method_5_code 12 = .ok (.iconst 0, 1) := by decide +kernel
theorem d1_13 : decode prog_39_method_5_code 13 = .ok (.ireturn, 1) := by decide +kernel
theorem d1_8 : decode prog_39_method_5_code 8 = .ok (.iconst 1, 1) := by decide +kernel
theorem d1_9 : decode prog_39_method_5_code 9 = .ok (.goto 4, 3) := by decide +kernel
def F1 (a0 : Addr) (p1 : Int32) (u_firstLevel_a0 : Int32) : Int32 := (if p1 < u_firstLevel_a0 then (0 : Int32) else (1 : Int32))
def Q1 (a0 : Addr) (p1 : Int32) (u_firstLevel_a0 : Int32) (h0 : Heap) (n0 : Nat) (v : Option Value) (h : Heap) (L : List Loc) : Prop := v = some (.int (F1 a0 p1 u_firstLevel_a0)) ∧ Fr n0 L ∧ h = h0
theorem pn_com_example_hangar_deck_hangardeck_apk_SignatureScheme : plainName "com/example/hangar_deck/hangardeck/apk/SignatureScheme" = true := by first | (simp [plainName, overriddenIn]; done) | decide +kernel
theorem ef_1 (m : MethodId) (a0 : Addr) (p1 : Int32) : entryFrame m #[(.ref a0), (.int p1)] 2 = mkF m 0 #[.val (.ref a0), .val (.int p1)] [] := by first | (simp [entryFrame, mkF, argsToLocals, Value.category]; done) | rfl
set_option maxRecDepth 65536 in
set_option maxHeartbeats 40000000 in
theorem b1 (l : Launch) (Z : State) (a0 : Array Value) (hw : ∀ d ∈ tables_1, d.before a0 Z = true) (ws : List Jvm.Cond) (a0 : Addr) (p1 : Int32) (u_firstLevel_a0 : Int32) (h0 : Heap) (n0 : Nat) (H_u_firstLevel_a0 : Fld Z h0 a0 "com/example/hangar_deck/hangardeck/apk/SignatureScheme" "firstLevel" "I" (.int u_firstLevel_a0)) :
    MetFree l (⟨"com/example/hangar_deck/hangardeck/apk/SignatureScheme", "isReadAt", "(I)Z"⟩ : MethodName) (head1 (Jvm.Cond.code (⟨"com/example/hangar_deck/hangardeck/apk/SignatureScheme", "isReadAt", "(I)Z"⟩ : MethodName) prog_39_method_5_code 2 (some .boolean) :: ws) ({ frames := 0, cells := 0, slots := 0, locals := 0 } : Room)) (fun a U => a = #[(.ref a0), (.int p1)] ∧ Z.Warmed39 U.vm ∧ U.heap = h0) (fun _ _ _ _ _ => True) (fun _ U o U' => ∃ v L, o = .returned v ∧ Q1 a0 p1 u_firstLevel_a0 h0 n0 v U'.heap L ∧ FrameEnd U o U' L ({ frames := 0, cells := 0, slots := 0, locals := 0 } : Room).cells ({ frames := 0, cells := 0, slots := 0, locals := 0 } : Room).slots) := by
  refine MetFree.of_bodySF (plainFor_of_name pn_com_example_hangar_deck_hangardeck_apk_SignatureScheme) hisR ?_
  intro p e s m args below meth c s₁ Bd hml0 hP hK
  obtain ⟨rfl, hZ, hh⟩ := hP
  have hx := Bd.exec
  have hby := Bd.bytes
  have hml : c.maxLocals = 2 := hml0
  have hown : s.vm.findClass "com/example/hangar_deck/hangardeck/apk/SignatureScheme" = some m.cls := findClass_of_methodNamed Bd.named
  have X0 : Stand p l e ({ frames := 0, cells := 0, slots := 0, locals := 0 } : Room) s m #[(.ref a0), (.int p1)] below meth c s₁ [] 0 0 := Stand.of_body Bd
  have e0 : s₁.heap = h0 := by rw [← hh, Bd.state]; rfl
  have N0 := Fr.nil n0
  refine Rch.out (Rch.st (fun t k => castTop (ef_1 m a0 p1) k) ?_)
  show Rch p.tables e below _ (s₁.setTop (mkF m 0 #[.val (.ref a0), .val (.int p1)] []))
  refine Rch.st (fun _ hr => XS.iloadN X0.here hx rfl (hb hby d1_0) rfl hr) ?_
  show Rch p.tables e below _ (s₁.setTop (mkF m 1 #[.val (.ref a0), .val (.int p1)] [(.int p1)]))
  refine Rch.st (fun _ hr => XS.aloadN X0.here hx rfl (hb hby d1_1) rfl rfl hr) ?_
  show Rch p.tables e below _ (s₁.setTop (mkF m 2 #[.val (.ref a0), .val (.int p1)] [(.ref a0), (.int p1)]))
  obtain ⟨T1, X1, e1, st1⟩ := getF X0 hx hZ hown (host := "") (Or.inl (own_w hw 9 rfl)) Via.refl e0 H_u_firstLevel_a0 (g := (mkF m 2 #[.val (.ref a0), .val (.int p1)] [(.ref a0), (.int p1)])) rfl rfl (hb hby d1_2)
  refine Rch.st st1 ?_
  show Rch p.tables e below _ (T1.setTop (mkF m 5 #[.val (.ref a0), .val (.int p1)] [(.int u_firstLevel_a0), (.int p1)]))
  by_cases hc2 : p1 < u_firstLevel_a0
  · refine Rch.st (fun _ hr => XS.icmpYes X1.here hx rfl (pc0 := 5) (pc' := 12) rfl (hb hby d1_5) rfl (tlt hc2).1 (by decide) (by decide) hr) ?_
    show Rch p.tables e below _ (T1.setTop (mkF m 12 #[.val (.ref a0), .val (.int p1)] []))
    refine Rch.st (fun _ hr => XS.iconst X1.here hx rfl (hb hby d1_12) hr) ?_
    show Rch p.tables e below _ (T1.setTop (mkF m 13 #[.val (.ref a0), .val (.int p1)] [(.int (0 : Int32))]))
    obtain ⟨fs, hr, hrun, hended, hW, hsame⟩ := X1.leave (v := some (.int (0 : Int32))) (fun h => by rw [Bd.returns] at h; cases h)
    refine Rch.fin (u := T1.setFrames fs) (retN X1 hx (t := .boolean) Bd.returns (by simp) (hb hby d1_13) hr) ⟨_, hrun, hended, _, _, rfl, ⟨?_, N0, e1⟩, ⟨_, rfl⟩, hW, hsame.mono (by decide) (by decide)⟩
    rw [show F1 a0 p1 u_firstLevel_a0 = (0 : Int32) from by unfold F1; rw [if_pos hc2]]
  · refine Rch.st (fun _ hr => XS.icmpNo X1.here hx rfl (hb hby d1_5) rfl (flt hc2).1 hr) ?_
    show Rch p.tables e below _ (T1.setTop (mkF m 8 #[.val (.ref a0), .val (.int p1)] []))
    refine Rch.st (fun _ hr => XS.iconst X1.here hx rfl (hb hby d1_8) hr) ?_
    show Rch p.tables e below _ (T1.setTop (mkF m 9 #[.val (.ref a0), .val (.int p1)] [(.int (1 : Int32))]))
    refine Rch.st (fun _ hr => XS.goto X1.here hx rfl (pc0 := 9) (pc' := 13) rfl (hb hby d1_9) (by decide) (by decide) hr) ?_
    show Rch p.tables e below _ (T1.setTop (mkF m 13 #[.val (.ref a0), .val (.int p1)] [(.int (1 : Int32))]))
    obtain ⟨fs, hr, hrun, hended, hW, hsame⟩ := X1.leave (v := some (.int (1 : Int32))) (fun h => by rw [Bd.returns] at h; cases h)
    refine Rch.fin (u := T1.setFrames fs) (retN X1 hx (t := .boolean) Bd.returns (by simp) (hb hby d1_13) hr) ⟨_, hrun, hended, _, _, rfl, ⟨?_, N0, e1⟩, ⟨_, rfl⟩, hW, hsame.mono (by decide) (by decide)⟩
    rw [show F1 a0 p1 u_firstLevel_a0 = (1 : Int32) from by unfold F1; rw [if_neg hc2]]
theorem pd_0 : parseMethodDescriptor "(I)Z" = some ⟨[.int], some .boolean⟩ := by decide +kernel
def F0 (p0 : Int32) (p1 : Int32) (w_V1 : Addr) (u_firstLevel_w_V1 : Int32) (w_V2 : Addr) (u_firstLevel_w_V2 : Int32) (w_V3 : Addr) (u_firstLevel_w_V3 : Int32) : Int32 := (if ((p0 &&& (2147483647 : Int32)) % (3 : Int32)) = (0 : Int32) then (if p1 < (28 : Int32) then (if p1 < (24 : Int32) then (if p1 < (1 : Int32) then (if (0 : Int32) < (((p0 &&& (2147483647 : Int32)) % (3 : Int32)) + (1 : Int32)) then (if (F1 w_V1 p1 u_firstLevel_w_V1) = (0 : Int32) then (1 : Int32) else (0 : Int32)) else (if (F1 w_V1 p1 u_firstLevel_w_V1) = (1 : Int32) then (1 : Int32) else (0 : Int32))) else (if (1 : Int32) < (((p0 &&& (2147483647 : Int32)) % (3 : Int32)) + (1 : Int32)) then (if (F1 w_V1 p1 u_firstLevel_w_V1) = (0 : Int32) then (1 : Int32) else (0 : Int32)) else (if (F1 w_V1 p1 u_firstLevel_w_V1) = (1 : Int32) then (1 : Int32) else (0 : Int32)))) else (if (2 : Int32) < (((p0 &&& (2147483647 : Int32)) % (3 : Int32)) + (1 : Int32)) then (if (F1 w_V1 p1 u_firstLevel_w_V1) = (0 : Int32) then (1 : Int32) else (0 : Int32)) else (if (F1 w_V1 p1 u_firstLevel_w_V1) = (1 : Int32) then (1 : Int32) else (0 : Int32)))) else (if (3 : Int32) < (((p0 &&& (2147483647 : Int32)) % (3 : Int32)) + (1 : Int32)) then (if (F1 w_V1 p1 u_firstLevel_w_V1) = (0 : Int32) then (1 : Int32) else (0 : Int32)) else (if (F1 w_V1 p1 u_firstLevel_w_V1) = (1 : Int32) then (1 : Int32) else (0 : Int32)))) else (if ((p0 &&& (2147483647 : Int32)) % (3 : Int32)) = (1 : Int32) then (if p1 < (28 : Int32) then (if p1 < (24 : Int32) then (if p1 < (1 : Int32) then (if (0 : Int32) < (((p0 &&& (2147483647 : Int32)) % (3 : Int32)) + (1 : Int32)) then (if (F1 w_V2 p1 u_firstLevel_w_V2) = (0 : Int32) then (1 : Int32) else (0 : Int32)) else (if (F1 w_V2 p1 u_firstLevel_w_V2) = (1 : Int32) then (1 : Int32) else (0 : Int32))) else (if (1 : Int32) < (((p0 &&& (2147483647 : Int32)) % (3 : Int32)) + (1 : Int32)) then (if (F1 w_V2 p1 u_firstLevel_w_V2) = (0 : Int32) then (1 : Int32) else (0 : Int32)) else (if (F1 w_V2 p1 u_firstLevel_w_V2) = (1 : Int32) then (1 : Int32) else (0 : Int32)))) else (if (2 : Int32) < (((p0 &&& (2147483647 : Int32)) % (3 : Int32)) + (1 : Int32)) then (if (F1 w_V2 p1 u_firstLevel_w_V2) = (0 : Int32) then (1 : Int32) else (0 : Int32)) else (if (F1 w_V2 p1 u_firstLevel_w_V2) = (1 : Int32) then (1 : Int32) else (0 : Int32)))) else (if (3 : Int32) < (((p0 &&& (2147483647 : Int32)) % (3 : Int32)) + (1 : Int32)) then (if (F1 w_V2 p1 u_firstLevel_w_V2) = (0 : Int32) then (1 : Int32) else (0 : Int32)) else (if (F1 w_V2 p1 u_firstLevel_w_V2) = (1 : Int32) then (1 : Int32) else (0 : Int32)))) else (if p1 < (28 : Int32) then (if p1 < (24 : Int32) then (if p1 < (1 : Int32) then (if (0 : Int32) < (((p0 &&& (2147483647 : Int32)) % (3 : Int32)) + (1 : Int32)) then (if (F1 w_V3 p1 u_firstLevel_w_V3) = (0 : Int32) then (1 : Int32) else (0 : Int32)) else (if (F1 w_V3 p1 u_firstLevel_w_V3) = (1 : Int32) then (1 : Int32) else (0 : Int32))) else (if (1 : Int32) < (((p0 &&& (2147483647 : Int32)) % (3 : Int32)) + (1 : Int32)) then (if (F1 w_V3 p1 u_firstLevel_w_V3) = (0 : Int32) then (1 : Int32) else (0 : Int32)) else (if (F1 w_V3 p1 u_firstLevel_w_V3) = (1 : Int32) then (1 : Int32) else (0 : Int32)))) else (if (2 : Int32) < (((p0 &&& (2147483647 : Int32)) % (3 : Int32)) + (1 : Int32)) then (if (F1 w_V3 p1 u_firstLevel_w_V3) = (0 : Int32) then (1 : Int32) else (0 : Int32)) else (if (F1 w_V3 p1 u_firstLevel_w_V3) = (1 : Int32) then (1 : Int32) else (0 : Int32)))) else (if (3 : Int32) < (((p0 &&& (2147483647 : Int32)) % (3 : Int32)) + (1 : Int32)) then (if (F1 w_V3 p1 u_firstLevel_w_V3) = (0 : Int32) then (1 : Int32) else (0 : Int32)) else (if (F1 w_V3 p1 u_firstLevel_w_V3) = (1 : Int32) then (1 : Int32) else (0 : Int32))))))
def Q0 (p0 : Int32) (p1 : Int32) (w_V1 : Addr) (u_firstLevel_w_V1 : Int32) (w_V2 : Addr) (u_firstLevel_w_V2 : Int32) (w_V3 : Addr) (u_firstLevel_w_V3 : Int32) (h0 : Heap) (n0 : Nat) (v : Option Value) (h : Heap) (L : List Loc) : Prop := v = some (.int (F0 p0 p1 w_V1 u_firstLevel_w_V1 w_V2 u_firstLevel_w_V2 w_V3 u_firstLevel_w_V3)) ∧ Fr n0 L ∧ h = h0
theorem pn_com_example_hangar_deck_hangardeck_apk_SignatureSchemeIsReadAtPinLaw : plainName "com/example/hangar_deck/hangardeck/apk/SignatureSchemeIsReadAtPinLaw" = true := by first | (simp [plainName, overriddenIn]; done) | decide +kernel
theorem ef_0 (m : MethodId) (p0 : Int32) (p1 : Int32) : entryFrame m #[(.int p0), (.int p1)] maxLocals = mkF m 0 #[.val (.int p0), .val (.int p1), .unset, .unset, .unset, .unset] [] := by first | (simp [entryFrame, mkF, argsToLocals, Value.category, maxLocals]; done) | rfl
set_option maxRecDepth 65536 in
set_option maxHeartbeats 40000000 in
theorem b0 (l : Launch) (Z : State) (a0 : Array Value) (hw : ∀ d ∈ tables_1, d.before a0 Z = true) (ws : List Jvm.Cond) (p0 : Int32) (p1 : Int32) (w_V1 : Addr) (u_firstLevel_w_V1 : Int32) (w_V2 : Addr) (u_firstLevel_w_V2 : Int32) (w_V3 : Addr) (u_firstLevel_w_V3 : Int32) (h0 : Heap) (n0 : Nat) (H_w_V1 : Sta Z h0 "com/example/hangar_deck/hangardeck/apk/SignatureScheme" "V1" "Lcom/example/hangar_deck/hangardeck/apk/SignatureScheme;" (.ref w_V1)) (H_u_firstLevel_w_V1 : Fld Z h0 w_V1 "com/example/hangar_deck/hangardeck/apk/SignatureScheme" "firstLevel" "I" (.int u_firstLevel_w_V1)) (E_w_V1 : Exa Z h0 w_V1 "com/example/hangar_deck/hangardeck/apk/SignatureScheme") (H_w_V2 : Sta Z h0 "com/example/hangar_deck/hangardeck/apk/SignatureScheme" "V2" "Lcom/example/hangar_deck/hangardeck/apk/SignatureScheme;" (.ref w_V2)) (H_u_firstLevel_w_V2 : Fld Z h0 w_V2 "com/example/hangar_deck/hangardeck/apk/SignatureScheme" "firstLevel" "I" (.int u_firstLevel_w_V2)) (E_w_V2 : Exa Z h0 w_V2 "com/example/hangar_deck/hangardeck/apk/SignatureScheme") (H_w_V3 : Sta Z h0 "com/example/hangar_deck/hangardeck/apk/SignatureScheme" "V3" "Lcom/example/hangar_deck/hangardeck/apk/SignatureScheme;" (.ref w_V3)) (H_u_firstLevel_w_V3 : Fld Z h0 w_V3 "com/example/hangar_deck/hangardeck/apk/SignatureScheme" "firstLevel" "I" (.int u_firstLevel_w_V3)) (E_w_V3 : Exa Z h0 w_V3 "com/example/hangar_deck/hangardeck/apk/SignatureScheme") :
    MetFree l x (head1 (Jvm.Cond.code x code maxLocals ret :: ws) room_1) (fun a U => a = #[(.int p0), (.int p1)] ∧ Z.Warmed39 U.vm ∧ U.heap = h0) (fun _ _ _ _ _ => True) (fun _ U o U' => ∃ v L, o = .returned v ∧ Q0 p0 p1 w_V1 u_firstLevel_w_V1 w_V2 u_firstLevel_w_V2 w_V3 u_firstLevel_w_V3 h0 n0 v U'.heap L ∧ FrameEnd U o U' L room_1.cells room_1.slots) := by
  refine MetFree.of_bodySF (plainFor_of_name pn_com_example_hangar_deck_hangardeck_apk_SignatureSchemeIsReadAtPinLaw) hisR ?_
  intro p e s m args below meth c s₁ Bd hml0 hP hK
  obtain ⟨rfl, hZ, hh⟩ := hP
  have hx := Bd.exec
  have hby := Bd.bytes
  have hml : c.maxLocals = 6 := hml0
  have hown : s.vm.findClass "com/example/hangar_deck/hangardeck/apk/SignatureSchemeIsReadAtPinLaw" = some m.cls := findClass_of_methodNamed Bd.named
  have X0 : Stand p l e room_1 s m #[(.int p0), (.int p1)] below meth c s₁ [] 0 0 := Stand.of_body Bd
  have e0 : s₁.heap = h0 := by rw [← hh, Bd.state]; rfl
  have N0 := Fr.nil n0
  refine Rch.out (Rch.st (fun t k => castTop (ef_0 m p0 p1) k) ?_)
  show Rch p.tables e below _ (s₁.setTop (mkF m 0 #[.val (.int p0), .val (.int p1), .unset, .unset, .unset, .unset] []))
  refine Rch.st (fun _ hr => XS.iloadN X0.here hx rfl (hb hby at_0) rfl hr) ?_
  show Rch p.tables e below _ (s₁.setTop (mkF m 1 #[.val (.int p0), .val (.int p1), .unset, .unset, .unset, .unset] [(.int p0)]))
  refine Rch.st (fun _ hr => Jvm.Stand.ldcI (g := (mkF m 1 #[.val (.int p0), .val (.int p1), .unset, .unset, .unset, .unset] [(.int p0)])) X0 hx hown (mvT hZ (own_w hw 0 rfl)) rfl (hb hby at_1) hr) ?_
  show Rch p.tables e below _ (s₁.setTop (mkF m 3 #[.val (.int p0), .val (.int p1), .unset, .unset, .unset, .unset] [(.int (2147483647 : Int32)), (.int p0)]))
  refine Rch.st (fun _ hr => XS.iand X0.here hx rfl (hb hby at_3) rfl hr) ?_
  show Rch p.tables e below _ (s₁.setTop (mkF m 4 #[.val (.int p0), .val (.int p1), .unset, .unset, .unset, .unset] [(.int (p0 &&& (2147483647 : Int32)))]))
  refine Rch.st (fun _ hr => XS.iconst X0.here hx rfl (hb hby at_4) hr) ?_
  show Rch p.tables e below _ (s₁.setTop (mkF m 5 #[.val (.int p0), .val (.int p1), .unset, .unset, .unset, .unset] [(.int (3 : Int32)), (.int (p0 &&& (2147483647 : Int32)))]))
  refine Rch.st (fun _ hr => Jvm.RoadKit.iremM (g := (mkF m 5 #[.val (.int p0), .val (.int p1), .unset, .unset, .unset, .unset] [(.int (3 : Int32)), (.int (p0 &&& (2147483647 : Int32)))])) X0 hx rfl (hb hby at_5) rfl (by decide) hr) ?_
  show Rch p.tables e below _ (s₁.setTop (mkF m 6 #[.val (.int p0), .val (.int p1), .unset, .unset, .unset, .unset] [(.int ((p0 &&& (2147483647 : Int32)) % (3 : Int32)))]))
  refine Rch.st (fun _ hr => XS.istoreN X0.here hx rfl (hb hby at_6) rfl (l' := #[.val (.int p0), .val (.int p1), .val (.int ((p0 &&& (2147483647 : Int32)) % (3 : Int32))), .unset, .unset, .unset]) rfl hr) ?_
  show Rch p.tables e below _ (s₁.setTop (mkF m 7 #[.val (.int p0), .val (.int p1), .val (.int ((p0 &&& (2147483647 : Int32)) % (3 : Int32))), .unset, .unset, .unset] []))
  refine Rch.st (fun _ hr => XS.iloadN X0.here hx rfl (hb hby at_7) rfl hr) ?_
  show Rch p.tables e below _ (s₁.setTop (mkF m 8 #[.val (.int p0), .val (.int p1), .val (.int ((p0 &&& (2147483647 : Int32)) % (3 : Int32))), .unset, .unset, .unset] [(.int ((p0 &&& (2147483647 : Int32)) % (3 : Int32)))]))
  by_cases hc1 : ((p0 &&& (2147483647 : Int32)) % (3 : Int32)) = (0 : Int32)
  · refine Rch.st (fun _ hr => XS.ifNo X0.here hx rfl (hb hby at_8) rfl ((if0 _ _).trans (teq hc1).2) hr) ?_
    show Rch p.tables e below _ (s₁.setTop (mkF m 11 #[.val (.int p0), .val (.int p1), .val (.int ((p0 &&& (2147483647 : Int32)) % (3 : Int32))), .unset, .unset, .unset] []))
    obtain ⟨T2, X2, e2, st2⟩ := getS2 X0 hx hZ hown (host := "") (Or.inl (own_w hw 1 rfl)) Via.refl e0 H_w_V1 (g := (mkF m 11 #[.val (.int p0), .val (.int p1), .val (.int ((p0 &&& (2147483647 : Int32)) % (3 : Int32))), .unset, .unset, .unset] [])) rfl (hb hby at_11)
    refine Rch.st st2 ?_
    show Rch p.tables e below _ (T2.setTop (mkF m 14 #[.val (.int p0), .val (.int p1), .val (.int ((p0 &&& (2147483647 : Int32)) % (3 : Int32))), .unset, .unset, .unset] [(.ref w_V1)]))
    refine Rch.st (fun _ hr => XS.astoreN X2.here hx rfl (hb hby at_14) rfl rfl (l' := #[.val (.int p0), .val (.int p1), .val (.int ((p0 &&& (2147483647 : Int32)) % (3 : Int32))), .val (.ref w_V1), .unset, .unset]) rfl hr) ?_
    show Rch p.tables e below _ (T2.setTop (mkF m 15 #[.val (.int p0), .val (.int p1), .val (.int ((p0 &&& (2147483647 : Int32)) % (3 : Int32))), .val (.ref w_V1), .unset, .unset] []))
    refine Rch.st (fun _ hr => XS.goto X2.here hx rfl (pc0 := 15) (pc' := 34) rfl (hb hby at_15) (by decide) (by decide) hr) ?_
    show Rch p.tables e below _ (T2.setTop (mkF m 34 #[.val (.int p0), .val (.int p1), .val (.int ((p0 &&& (2147483647 : Int32)) % (3 : Int32))), .val (.ref w_V1), .unset, .unset] []))
    refine Rch.st (fun _ hr => XS.iloadN X2.here hx rfl (hb hby at_34) rfl hr) ?_
    show Rch p.tables e below _ (T2.setTop (mkF m 35 #[.val (.int p0), .val (.int p1), .val (.int ((p0 &&& (2147483647 : Int32)) % (3 : Int32))), .val (.ref w_V1), .unset, .unset] [(.int p1)]))
    refine Rch.st (fun _ hr => XS.bipush X2.here hx rfl (hb hby at_35) hr) ?_
    show Rch p.tables e below _ (T2.setTop (mkF m 37 #[.val (.int p0), .val (.int p1), .val (.int ((p0 &&& (2147483647 : Int32)) % (3 : Int32))), .val (.ref w_V1), .unset, .unset] [(.int (28 : Int32)), (.int p1)]))
    by_cases hc3 : p1 < (28 : Int32)
    · refine Rch.st (fun _ hr => XS.icmpYes X2.here hx rfl (pc0 := 37) (pc' := 46) rfl (hb hby at_37) rfl (tlt hc3).1 (by decide) (by decide) hr) ?_
      show Rch p.tables e below _ (T2.setTop (mkF m 46 #[.val (.int p0), .val (.int p1), .val (.int ((p0 &&& (2147483647 : Int32)) % (3 : Int32))), .val (.ref w_V1), .unset, .unset] []))
      refine Rch.st (fun _ hr => XS.iloadN X2.here hx rfl (hb hby at_46) rfl hr) ?_
      show Rch p.tables e below _ (T2.setTop (mkF m 47 #[.val (.int p0), .val (.int p1), .val (.int ((p0 &&& (2147483647 : Int32)) % (3 : Int32))), .val (.ref w_V1), .unset, .unset] [(.int p1)]))
      refine Rch.st (fun _ hr => XS.bipush X2.here hx rfl (hb hby at_47) hr) ?_
      show Rch p.tables e below _ (T2.setTop (mkF m 49 #[.val (.int p0), .val (.int p1), .val (.int ((p0 &&& (2147483647 : Int32)) % (3 : Int32))), .val (.ref w_V1), .unset, .unset] [(.int (24 : Int32)), (.int p1)]))
      by_cases hc4 : p1 < (24 : Int32)
      · refine Rch.st (fun _ hr => XS.icmpYes X2.here hx rfl (pc0 := 49) (pc' := 58) rfl (hb hby at_49) rfl (tlt hc4).1 (by decide) (by decide) hr) ?_
        show Rch p.tables e below _ (T2.setTop (mkF m 58 #[.val (.int p0), .val (.int p1), .val (.int ((p0 &&& (2147483647 : Int32)) % (3 : Int32))), .val (.ref w_V1), .unset, .unset] []))
        refine Rch.st (fun _ hr => XS.iloadN X2.here hx rfl (hb hby at_58) rfl hr) ?_
        show Rch p.tables e below _ (T2.setTop (mkF m 59 #[.val (.int p0), .val (.int p1), .val (.int ((p0 &&& (2147483647 : Int32)) % (3 : Int32))), .val (.ref w_V1), .unset, .unset] [(.int p1)]))
        refine Rch.st (fun _ hr => XS.iconst X2.here hx rfl (hb hby at_59) hr) ?_
        show Rch p.tables e below _ (T2.setTop (mkF m 60 #[.val (.int p0), .val (.int p1), .val (.int ((p0 &&& (2147483647 : Int32)) % (3 : Int32))), .val (.ref w_V1), .unset, .unset] [(.int (1 : Int32)), (.int p1)]))
        by_cases hc5 : p1 < (1 : Int32)
        · refine Rch.st (fun _ hr => XS.icmpYes X2.here hx rfl (pc0 := 60) (pc' := 69) rfl (hb hby at_60) rfl (tlt hc5).1 (by decide) (by decide) hr) ?_
          show Rch p.tables e below _ (T2.setTop (mkF m 69 #[.val (.int p0), .val (.int p1), .val (.int ((p0 &&& (2147483647 : Int32)) % (3 : Int32))), .val (.ref w_V1), .unset, .unset] []))
          refine Rch.st (fun _ hr => XS.iconst X2.here hx rfl (hb hby at_69) hr) ?_
          show Rch p.tables e below _ (T2.setTop (mkF m 70 #[.val (.int p0), .val (.int p1), .val (.int ((p0 &&& (2147483647 : Int32)) % (3 : Int32))), .val (.ref w_V1), .unset, .unset] [(.int (0 : Int32))]))
          refine Rch.st (fun _ hr => XS.istore X2.here hx rfl (hb hby at_70) rfl (l' := #[.val (.int p0), .val (.int p1), .val (.int ((p0 &&& (2147483647 : Int32)) % (3 : Int32))), .val (.ref w_V1), .val (.int (0 : Int32)), .unset]) rfl hr) ?_
          show Rch p.tables e below _ (T2.setTop (mkF m 72 #[.val (.int p0), .val (.int p1), .val (.int ((p0 &&& (2147483647 : Int32)) % (3 : Int32))), .val (.ref w_V1), .val (.int (0 : Int32)), .unset] []))
          refine Rch.st (fun _ hr => XS.iloadN X2.here hx rfl (hb hby at_72) rfl hr) ?_
          show Rch p.tables e below _ (T2.setTop (mkF m 73 #[.val (.int p0), .val (.int p1), .val (.int ((p0 &&& (2147483647 : Int32)) % (3 : Int32))), .val (.ref w_V1), .val (.int (0 : Int32)), .unset] [(.int ((p0 &&& (2147483647 : Int32)) % (3 : Int32)))]))
          refine Rch.st (fun _ hr => XS.iconst X2.here hx rfl (hb hby at_73) hr) ?_
          show Rch p.tables e below _ (T2.setTop (mkF m 74 #[.val (.int p0), .val (.int p1), .val (.int ((p0 &&& (2147483647 : Int32)) % (3 : Int32))), .val (.ref w_V1), .val (.int (0 : Int32)), .unset] [(.int (1 : Int32)), (.int ((p0 &&& (2147483647 : Int32)) % (3 : Int32)))]))
          refine Rch.st (fun _ hr => XS.iadd X2.here hx rfl (hb hby at_74) rfl hr) ?_
          show Rch p.tables e below _ (T2.setTop (mkF m 75 #[.val (.int p0), .val (.int p1), .val (.int ((p0 &&& (2147483647 : Int32)) % (3 : Int32))), .val (.ref w_V1), .val (.int (0 : Int32)), .unset] [(.int (((p0 &&& (2147483647 : Int32)) % (3 : Int32)) + (1 : Int32)))]))
          refine Rch.st (fun _ hr => XS.iload X2.here hx rfl (hb hby at_75) rfl hr) ?_
          show Rch p.tables e below _ (T2.setTop (mkF m 77 #[.val (.int p0), .val (.int p1), .val (.int ((p0 &&& (2147483647 : Int32)) % (3 : Int32))), .val (.ref w_V1), .val (.int (0 : Int32)), .unset] [(.int (0 : Int32)), (.int (((p0 &&& (2147483647 : Int32)) % (3 : Int32)) + (1 : Int32)))]))
          by_cases hc6 : (0 : Int32) < (((p0 &&& (2147483647 : Int32)) % (3 : Int32)) + (1 : Int32))
          · refine Rch.st (fun _ hr => XS.icmpYes X2.here hx rfl (pc0 := 77) (pc' := 84) rfl (hb hby at_77) rfl (tlt hc6).2.2.1 (by decide) (by decide) hr) ?_
            show Rch p.tables e below _ (T2.setTop (mkF m 84 #[.val (.int p0), .val (.int p1), .val (.int ((p0 &&& (2147483647 : Int32)) % (3 : Int32))), .val (.ref w_V1), .val (.int (0 : Int32)), .unset] []))
            refine Rch.st (fun _ hr => XS.iconst X2.here hx rfl (hb hby at_84) hr) ?_
            show Rch p.tables e below _ (T2.setTop (mkF m 85 #[.val (.int p0), .val (.int p1), .val (.int ((p0 &&& (2147483647 : Int32)) % (3 : Int32))), .val (.ref w_V1), .val (.int (0 : Int32)), .unset] [(.int (0 : Int32))]))
            refine Rch.st (fun _ hr => XS.istore X2.here hx rfl (hb hby at_85) rfl (l' := #[.val (.int p0), .val (.int p1), .val (.int ((p0 &&& (2147483647 : Int32)) % (3 : Int32))), .val (.ref w_V1), .val (.int (0 : Int32)), .val (.int (0 : Int32))]) rfl hr) ?_
            show Rch p.tables e below _ (T2.setTop (mkF m 87 #[.val (.int p0), .val (.int p1), .val (.int ((p0 &&& (2147483647 : Int32)) % (3 : Int32))), .val (.ref w_V1), .val (.int (0 : Int32)), .val (.int (0 : Int32))] []))
            refine Rch.st (fun _ hr => XS.aloadN X2.here hx rfl (hb hby at_87) rfl rfl hr) ?_
            show Rch p.tables e below _ (T2.setTop (mkF m 88 #[.val (.int p0), .val (.int p1), .val (.int ((p0 &&& (2147483647 : Int32)) % (3 : Int32))), .val (.ref w_V1), .val (.int (0 : Int32)), .val (.int (0 : Int32))] [(.ref w_V1)]))
            refine Rch.st (fun _ hr => XS.iloadN X2.here hx rfl (hb hby at_88) rfl hr) ?_
            show Rch p.tables e below _ (T2.setTop (mkF m 89 #[.val (.int p0), .val (.int p1), .val (.int ((p0 &&& (2147483647 : Int32)) % (3 : Int32))), .val (.ref w_V1), .val (.int (0 : Int32)), .val (.int (0 : Int32))] [(.int p1), (.ref w_V1)]))
            obtain ⟨cq7, kq7, q7a, q7b, q7c⟩ := isOf hZ e2 E_w_V1
            obtain ⟨_, _, ⟨T7, L7, k7, n7⟩, -, X7, ⟨Lc7, hQ7, l7, y7, z7⟩, st7⟩ := X2.virtualBack hx (y := (⟨"com/example/hangar_deck/hangardeck/apk/SignatureScheme", "isReadAt", "(I)Z"⟩ : MethodName)) (z := (⟨"com/example/hangar_deck/hangardeck/apk/SignatureScheme", "isReadAt", "(I)Z"⟩ : MethodName)) hown (mvT hZ (own_w hw 4 rfl)) (mvT hZ (own_w hw 5 rfl)) (notFace_of_selects (args := #[]) (mvT hZ (own_w hw 7 rfl))) (mvT hZ (own_w hw 7 rfl)) (mvT hZ (own_w hw 6 rfl)) (by decide) (backOf (W := 0) (b1 l Z a0 hw [] w_V1 p1 u_firstLevel_w_V1 h0 n0 H_u_firstLevel_w_V1) hZ (own_w hw 8 rfl) (own_w hw 2 rfl) (by decide) (by decide)) q7a q7c (g := (mkF m 89 #[.val (.int p0), .val (.int p1), .val (.int ((p0 &&& (2147483647 : Int32)) % (3 : Int32))), .val (.ref w_V1), .val (.int (0 : Int32)), .val (.int (0 : Int32))] [(.int p1), (.ref w_V1)])) rfl (by rw [hml]; rfl) (Steps.refl _) (argsL := [(.int p1)]) (rest := []) (lenOf pd_0 rfl) rfl (by show 2 * 0 + _ ≤ _; exact Nat.le_of_eq rfl) (hb hby at_89) (fun _ _ => ⟨rfl, e2, (by decide : 0 + 0 ≤ _), (by decide : 0 + 0 ≤ _)⟩)
            dsimp only [Pt.U, Pt.locs, Pt.cells, Pt.slots] at X7 l7 y7 z7 st7 hQ7
            subst l7 y7 z7
            obtain ⟨rfl, N7q, e7⟩ := hQ7
            have N7 := Fr.app N0 N7q
            refine Rch.tr st7 ?_
            show Rch p.tables e below _ (T7.setTop (mkF m 92 #[.val (.int p0), .val (.int p1), .val (.int ((p0 &&& (2147483647 : Int32)) % (3 : Int32))), .val (.ref w_V1), .val (.int (0 : Int32)), .val (.int (0 : Int32))] [(.int (F1 w_V1 p1 u_firstLevel_w_V1))]))
            refine Rch.st (fun _ hr => XS.iload X7.here hx rfl (hb hby at_92) rfl hr) ?_
            show Rch p.tables e below _ (T7.setTop (mkF m 94 #[.val (.int p0), .val (.int p1), .val (.int ((p0 &&& (2147483647 : Int32)) % (3 : Int32))), .val (.ref w_V1), .val (.int (0 : Int32)), .val (.int (0 : Int32))] [(.int (0 : Int32)), (.int (F1 w_V1 p1 u_firstLevel_w_V1))]))
            by_cases hc8 : (F1 w_V1 p1 u_firstLevel_w_V1) = (0 : Int32)
            · refine Rch.st (fun _ hr => XS.icmpNo X7.here hx rfl (hb hby at_94) rfl (teq hc8).2 hr) ?_
              show Rch p.tables e below _ (T7.setTop (mkF m 97 #[.val (.int p0), .val (.int p1), .val (.int ((p0 &&& (2147483647 : Int32)) % (3 : Int32))), .val (.ref w_V1), .val (.int (0 : Int32)), .val (.int (0 : Int32))] []))
              refine Rch.st (fun _ hr => XS.iconst X7.here hx rfl (hb hby at_97) hr) ?_
              show Rch p.tables e below _ (T7.setTop (mkF m 98 #[.val (.int p0), .val (.int p1), .val (.int ((p0 &&& (2147483647 : Int32)) % (3 : Int32))), .val (.ref w_V1), .val (.int (0 : Int32)), .val (.int (0 : Int32))] [(.int (1 : Int32))]))
              refine Rch.st (fun _ hr => XS.goto X7.here hx rfl (pc0 := 98) (pc' := 102) rfl (hb hby at_98) (by decide) (by decide) hr) ?_
              show Rch p.tables e below _ (T7.setTop (mkF m 102 #[.val (.int p0), .val (.int p1), .val (.int ((p0 &&& (2147483647 : Int32)) % (3 : Int32))), .val (.ref w_V1), .val (.int (0 : Int32)), .val (.int (0 : Int32))] [(.int (1 : Int32))]))
              obtain ⟨fs, hr, hrun, hended, hW, hsame⟩ := X7.leave (v := some (.int (1 : Int32))) (fun h => by rw [Bd.returns] at h; cases h)
              refine Rch.fin (u := T7.setFrames fs) (retN X7 hx (t := .boolean) Bd.returns (by simp) (hb hby at_102) hr) ⟨_, hrun, hended, _, _, rfl, ⟨?_, N7, e7⟩, ⟨_, rfl⟩, hW, hsame.mono (by decide) (by decide)⟩
              rw [show F0 p0 p1 w_V1 u_firstLevel_w_V1 w_V2 u_firstLevel_w_V2 w_V3 u_firstLevel_w_V3 = (1 : Int32) from by unfold F0; rw [if_pos hc1, if_pos hc3, if_pos hc4, if_pos hc5, if_pos hc6, if_pos hc8]]
            · refine Rch.st (fun _ hr => XS.icmpYes X7.here hx rfl (pc0 := 94) (pc' := 101) rfl (hb hby at_94) rfl (feq hc8).2 (by decide) (by decide) hr) ?_
              show Rch p.tables e below _ (T7.setTop (mkF m 101 #[.val (.int p0), .val (.int p1), .val (.int ((p0 &&& (2147483647 : Int32)) % (3 : Int32))), .val (.ref w_V1), .val (.int (0 : Int32)), .val (.int (0 : Int32))] []))
              refine Rch.st (fun _ hr => XS.iconst X7.here hx rfl (hb hby at_101) hr) ?_
              show Rch p.tables e below _ (T7.setTop (mkF m 102 #[.val (.int p0), .val (.int p1), .val (.int ((p0 &&& (2147483647 : Int32)) % (3 : Int32))), .val (.ref w_V1), .val (.int (0 : Int32)), .val (.int (0 : Int32))] [(.int (0 : Int32))]))
              obtain ⟨fs, hr, hrun, hended, hW, hsame⟩ := X7.leave (v := some (.int (0 : Int32))) (fun h => by rw [Bd.returns] at h; cases h)
              refine Rch.fin (u := T7.setFrames fs) (retN X7 hx (t := .boolean) Bd.returns (by simp) (hb hby at_102) hr) ⟨_, hrun, hended, _, _, rfl, ⟨?_, N7, e7⟩, ⟨_, rfl⟩, hW, hsame.mono (by decide) (by decide)⟩
              rw [show F0 p0 p1 w_V1 u_firstLevel_w_V1 w_V2 u_firstLevel_w_V2 w_V3 u_firstLevel_w_V3 = (0 : Int32) from by unfold F0; rw [if_pos hc1, if_pos hc3, if_pos hc4, if_pos hc5, if_pos hc6, if_neg hc8]]
          · refine Rch.st (fun _ hr => XS.icmpNo X2.here hx rfl (hb hby at_77) rfl (flt hc6).2.2.1 hr) ?_
            show Rch p.tables e below _ (T2.setTop (mkF m 80 #[.val (.int p0), .val (.int p1), .val (.int ((p0 &&& (2147483647 : Int32)) % (3 : Int32))), .val (.ref w_V1), .val (.int (0 : Int32)), .unset] []))
            refine Rch.st (fun _ hr => XS.iconst X2.here hx rfl (hb hby at_80) hr) ?_
            show Rch p.tables e below _ (T2.setTop (mkF m 81 #[.val (.int p0), .val (.int p1), .val (.int ((p0 &&& (2147483647 : Int32)) % (3 : Int32))), .val (.ref w_V1), .val (.int (0 : Int32)), .unset] [(.int (1 : Int32))]))
            refine Rch.st (fun _ hr => XS.goto X2.here hx rfl (pc0 := 81) (pc' := 85) rfl (hb hby at_81) (by decide) (by decide) hr) ?_
            show Rch p.tables e below _ (T2.setTop (mkF m 85 #[.val (.int p0), .val (.int p1), .val (.int ((p0 &&& (2147483647 : Int32)) % (3 : Int32))), .val (.ref w_V1), .val (.int (0 : Int32)), .unset] [(.int (1 : Int32))]))
            refine Rch.st (fun _ hr => XS.istore X2.here hx rfl (hb hby at_85) rfl (l' := #[.val (.int p0), .val (.int p1), .val (.int ((p0 &&& (2147483647 : Int32)) % (3 : Int32))), .val (.ref w_V1), .val (.int (0 : Int32)), .val (.int (1 : Int32))]) rfl hr) ?_
            show Rch p.tables e below _ (T2.setTop (mkF m 87 #[.val (.int p0), .val (.int p1), .val (.int ((p0 &&& (2147483647 : Int32)) % (3 : Int32))), .val (.ref w_V1), .val (.int (0 : Int32)), .val (.int (1 : Int32))] []))
            refine Rch.st (fun _ hr => XS.aloadN X2.here hx rfl (hb hby at_87) rfl rfl hr) ?_
            show Rch p.tables e below _ (T2.setTop (mkF m 88 #[.val (.int p0), .val (.int p1), .val (.int ((p0 &&& (2147483647 : Int32)) % (3 : Int32))), .val (.ref w_V1), .val (.int (0 : Int32)), .val (.int (1 : Int32))] [(.ref w_V1)]))
            refine Rch.st (fun _ hr => XS.iloadN X2.here hx rfl (hb hby at_88) rfl hr) ?_
            show Rch p.tables e below _ (T2.setTop (mkF m 89 #[.val (.int p0), .val (.int p1), .val (.int ((p0 &&& (2147483647 : Int32)) % (3 : Int32))), .val (.ref w_V1), .val (.int (0 : Int32)), .val (.int (1 : Int32))] [(.int p1), (.ref w_V1)]))
            obtain ⟨cq11, kq11, q11a, q11b, q11c⟩ := isOf hZ e2 E_w_V1
            obtain ⟨_, _, ⟨T11, L11, k11, n11⟩, -, X11, ⟨Lc11, hQ11, l11, y11, z11⟩, st11⟩ := X2.virtualBack hx (y := (⟨"com/example/hangar_deck/hangardeck/apk/SignatureScheme", "isReadAt", "(I)Z"⟩ : MethodName)) (z := (⟨"com/example/hangar_deck/hangardeck/apk/SignatureScheme", "isReadAt", "(I)Z"⟩ : MethodName)) hown (mvT hZ (own_w hw 4 rfl)) (mvT hZ (own_w hw 5 rfl)) (notFace_of_selects (args := #[]) (mvT hZ (own_w hw 7 rfl))) (mvT hZ (own_w hw 7 rfl)) (mvT hZ (own_w hw 6 rfl)) (by decide) (backOf (W := 0) (b1 l Z a0 hw [] w_V1 p1 u_firstLevel_w_V1 h0 n0 H_u_firstLevel_w_V1) hZ (own_w hw 8 rfl) (own_w hw 2 rfl) (by decide) (by decide)) q11a q11c (g := (mkF m 89 #[.val (.int p0), .val (.int p1), .val (.int ((p0 &&& (2147483647 : Int32)) % (3 : Int32))), .val (.ref w_V1), .val (.int (0 : Int32)), .val (.int (1 : Int32))] [(.int p1), (.ref w_V1)])) rfl (by rw [hml]; rfl) (Steps.refl _) (argsL := [(.int p1)]) (rest := []) (lenOf pd_0 rfl) rfl (by show 2 * 0 + _ ≤ _; exact Nat.le_of_eq rfl) (hb hby at_89) (fun _ _ => ⟨rfl, e2, (by decide : 0 + 0 ≤ _), (by decide : 0 + 0 ≤ _)⟩)
            dsimp only [Pt.U, Pt.locs, Pt.cells, Pt.slots] at X11 l11 y11 z11 st11 hQ11
            subst l11 y11 z11
            obtain ⟨rfl, N11q, e11⟩ := hQ11
            have N11 := Fr.app N0 N11q
            refine Rch.tr st11 ?_
            show Rch p.tables e below _ (T11.setTop (mkF m 92 #[.val (.int p0), .val (.int p1), .val (.int ((p0 &&& (2147483647 : Int32)) % (3 : Int32))), .val (.ref w_V1), .val (.int (0 : Int32)), .val (.int (1 : Int32))] [(.int (F1 w_V1 p1 u_firstLevel_w_V1))]))
            refine Rch.st (fun _ hr => XS.iload X11.here hx rfl (hb hby at_92) rfl hr) ?_
            show Rch p.tables e below _ (T11.setTop (mkF m 94 #[.val (.int p0), .val (.int p1), .val (.int ((p0 &&& (2147483647 : Int32)) % (3 : Int32))), .val (.ref w_V1), .val (.int (0 : Int32)), .val (.int (1 : Int32))] [(.int (1 : Int32)), (.int (F1 w_V1 p1 u_firstLevel_w_V1))]))
            by_cases hc12 : (F1 w_V1 p1 u_firstLevel_w_V1) = (1 : Int32)
            · refine Rch.st (fun _ hr => XS.icmpNo X11.here hx rfl (hb hby at_94) rfl (teq hc12).2 hr) ?_
              show Rch p.tables e below _ (T11.setTop (mkF m 97 #[.val (.int p0), .val (.int p1), .val (.int ((p0 &&& (2147483647 : Int32)) % (3 : Int32))), .val (.ref w_V1), .val (.int (0 : Int32)), .val (.int (1 : Int32))] []))
              refine Rch.st (fun _ hr => XS.iconst X11.here hx rfl (hb hby at_97) hr) ?_
              show Rch p.tables e below _ (T11.setTop (mkF m 98 #[.val (.int p0), .val (.int p1), .val (.int ((p0 &&& (2147483647 : Int32)) % (3 : Int32))), .val (.ref w_V1), .val (.int (0 : Int32)), .val (.int (1 : Int32))] [(.int (1 : Int32))]))
              refine Rch.st (fun _ hr => XS.goto X11.here hx rfl (pc0 := 98) (pc' := 102) rfl (hb hby at_98) (by decide) (by decide) hr) ?_
              show Rch p.tables e below _ (T11.setTop (mkF m 102 #[.val (.int p0), .val (.int p1), .val (.int ((p0 &&& (2147483647 : Int32)) % (3 : Int32))), .val (.ref w_V1), .val (.int (0 : Int32)), .val (.int (1 : Int32))] [(.int (1 : Int32))]))
              obtain ⟨fs, hr, hrun, hended, hW, hsame⟩ := X11.leave (v := some (.int (1 : Int32))) (fun h => by rw [Bd.returns] at h; cases h)
              refine Rch.fin (u := T11.setFrames fs) (retN X11 hx (t := .boolean) Bd.returns (by simp) (hb hby at_102) hr) ⟨_, hrun, hended, _, _, rfl, ⟨?_, N11, e11⟩, ⟨_, rfl⟩, hW, hsame.mono (by decide) (by decide)⟩
              rw [show F0 p0 p1 w_V1 u_firstLevel_w_V1 w_V2 u_firstLevel_w_V2 w_V3 u_firstLevel_w_V3 = (1 : Int32) from by unfold F0; rw [if_pos hc1, if_pos hc3, if_pos hc4, if_pos hc5, if_neg hc6, if_pos hc12]]
            · refine Rch.st (fun _ hr => XS.icmpYes X11.here hx rfl (pc0 := 94) (pc' := 101) rfl (hb hby at_94) rfl (feq hc12).2 (by decide) (by decide) hr) ?_
              show Rch p.tables e below _ (T11.setTop (mkF m 101 #[.val (.int p0), .val (.int p1), .val (.int ((p0 &&& (2147483647 : Int32)) % (3 : Int32))), .val (.ref w_V1), .val (.int (0 : Int32)), .val (.int (1 : Int32))] []))
              refine Rch.st (fun _ hr => XS.iconst X11.here hx rfl (hb hby at_101) hr) ?_
              show Rch p.tables e below _ (T11.setTop (mkF m 102 #[.val (.int p0), .val (.int p1), .val (.int ((p0 &&& (2147483647 : Int32)) % (3 : Int32))), .val (.ref w_V1), .val (.int (0 : Int32)), .val (.int (1 : Int32))] [(.int (0 : Int32))]))
              obtain ⟨fs, hr, hrun, hended, hW, hsame⟩ := X11.leave (v := some (.int (0 : Int32))) (fun h => by rw [Bd.returns] at h; cases h)
              refine Rch.fin (u := T11.setFrames fs) (retN X11 hx (t := .boolean) Bd.returns (by simp) (hb hby at_102) hr) ⟨_, hrun, hended, _, _, rfl, ⟨?_, N11, e11⟩, ⟨_, rfl⟩, hW, hsame.mono (by decide) (by decide)⟩
              rw [show F0 p0 p1 w_V1 u_firstLevel_w_V1 w_V2 u_firstLevel_w_V2 w_V3 u_firstLevel_w_V3 = (0 : Int32) from by unfold F0; rw [if_pos hc1, if_pos hc3, if_pos hc4, if_pos hc5, if_neg hc6, if_neg hc12]]
        · refine Rch.st (fun _ hr => XS.icmpNo X2.here hx rfl (hb hby at_60) rfl (flt hc5).1 hr) ?_
          show Rch p.tables e below _ (T2.setTop (mkF m 63 #[.val (.int p0), .val (.int p1), .val (.int ((p0 &&& (2147483647 : Int32)) % (3 : Int32))), .val (.ref w_V1), .unset, .unset] []))
          refine Rch.st (fun _ hr => XS.iconst X2.here hx rfl (hb hby at_63) hr) ?_
          show Rch p.tables e below _ (T2.setTop (mkF m 64 #[.val (.int p0), .val (.int p1), .val (.int ((p0 &&& (2147483647 : Int32)) % (3 : Int32))), .val (.ref w_V1), .unset, .unset] [(.int (1 : Int32))]))
          refine Rch.st (fun _ hr => XS.istore X2.here hx rfl (hb hby at_64) rfl (l' := #[.val (.int p0), .val (.int p1), .val (.int ((p0 &&& (2147483647 : Int32)) % (3 : Int32))), .val (.ref w_V1), .val (.int (1 : Int32)), .unset]) rfl hr) ?_
          show Rch p.tables e below _ (T2.setTop (mkF m 66 #[.val (.int p0), .val (.int p1), .val (.int ((p0 &&& (2147483647 : Int32)) % (3 : Int32))), .val (.ref w_V1), .val (.int (1 : Int32)), .unset] []))
          refine Rch.st (fun _ hr => XS.goto X2.here hx rfl (pc0 := 66) (pc' := 72) rfl (hb hby at_66) (by decide) (by decide) hr) ?_
          show Rch p.tables e below _ (T2.setTop (mkF m 72 #[.val (.int p0), .val (.int p1), .val (.int ((p0 &&& (2147483647 : Int32)) % (3 : Int32))), .val (.ref w_V1), .val (.int (1 : Int32)), .unset] []))
          refine Rch.st (fun _ hr => XS.iloadN X2.here hx rfl (hb hby at_72) rfl hr) ?_
          show Rch p.tables e below _ (T2.setTop (mkF m 73 #[.val (.int p0), .val (.int p1), .val (.int ((p0 &&& (2147483647 : Int32)) % (3 : Int32))), .val (.ref w_V1), .val (.int (1 : Int32)), .unset] [(.int ((p0 &&& (2147483647 : Int32)) % (3 : Int32)))]))
          refine Rch.st (fun _ hr => XS.iconst X2.here hx rfl (hb hby at_73) hr) ?_
          show Rch p.tables e below _ (T2.setTop (mkF m 74 #[.val (.int p0), .val (.int p1), .val (.int ((p0 &&& (2147483647 : Int32)) % (3 : Int32))), .val (.ref w_V1), .val (.int (1 : Int32)), .unset] [(.int (1 : Int32)), (.int ((p0 &&& (2147483647 : Int32)) % (3 : Int32)))]))
          refine Rch.st (fun _ hr => XS.iadd X2.here hx rfl (hb hby at_74) rfl hr) ?_
          show Rch p.tables e below _ (T2.setTop (mkF m 75 #[.val (.int p0), .val (.int p1), .val (.int ((p0 &&& (2147483647 : Int32)) % (3 : Int32))), .val (.ref w_V1), .val (.int (1 : Int32)), .unset] [(.int (((p0 &&& (2147483647 : Int32)) % (3 : Int32)) + (1 : Int32)))]))
          refine Rch.st (fun _ hr => XS.iload X2.here hx rfl (hb hby at_75) rfl hr) ?_
          show Rch p.tables e below _ (T2.setTop (mkF m 77 #[.val (.int p0), .val (.int p1), .val (.int ((p0 &&& (2147483647 : Int32)) % (3 : Int32))), .val (.ref w_V1), .val (.int (1 : Int32)), .unset] [(.int (1 : Int32)), (.int (((p0 &&& (2147483647 : Int32)) % (3 : Int32)) + (1 : Int32)))]))
          by_cases hc15 : (1 : Int32) < (((p0 &&& (2147483647 : Int32)) % (3 : Int32)) + (1 : Int32))
          · refine Rch.st (fun _ hr => XS.icmpYes X2.here hx rfl (pc0 := 77) (pc' := 84) rfl (hb hby at_77) rfl (tlt hc15).2.2.1 (by decide) (by decide) hr) ?_
            show Rch p.tables e below _ (T2.setTop (mkF m 84 #[.val (.int p0), .val (.int p1), .val (.int ((p0 &&& (2147483647 : Int32)) % (3 : Int32))), .val (.ref w_V1), .val (.int (1 : Int32)), .unset] []))
            refine Rch.st (fun _ hr => XS.iconst X2.here hx rfl (hb hby at_84) hr) ?_
            show Rch p.tables e below _ (T2.setTop (mkF m 85 #[.val (.int p0), .val (.int p1), .val (.int ((p0 &&& (2147483647 : Int32)) % (3 : Int32))), .val (.ref w_V1), .val (.int (1 : Int32)), .unset] [(.int (0 : Int32))]))
            refine Rch.st (fun _ hr => XS.istore X2.here hx rfl (hb hby at_85) rfl (l' := #[.val (.int p0), .val (.int p1), .val (.int ((p0 &&& (2147483647 : Int32)) % (3 : Int32))), .val (.ref w_V1), .val (.int (1 : Int32)), .val (.int (0 : Int32))]) rfl hr) ?_
            show Rch p.tables e below _ (T2.setTop (mkF m 87 #[.val (.int p0), .val (.int p1), .val (.int ((p0 &&& (2147483647 : Int32)) % (3 : Int32))), .val (.ref w_V1), .val (.int (1 : Int32)), .val (.int (0 : Int32))] []))
            refine Rch.st (fun _ hr => XS.aloadN X2.here hx rfl (hb hby at_87) rfl rfl hr) ?_
            show Rch p.tables e below _ (T2.setTop (mkF m 88 #[.val (.int p0), .val (.int p1), .val (.int ((p0 &&& (2147483647 : Int32)) % (3 : Int32))), .val (.ref w_V1), .val (.int (1 : Int32)), .val (.int (0 : Int32))] [(.ref w_V1)]))
            refine Rch.st (fun _ hr => XS.iloadN X2.here hx rfl (hb hby at_88) rfl hr) ?_
            show Rch p.tables e below _ (T2.setTop (mkF m 89 #[.val (.int p0), .val (.int p1), .val (.int ((p0 &&& (2147483647 : Int32)) % (3 : Int32))), .val (.ref w_V1), .val (.int (1 : Int32)), .val (.int (0 : Int32))] [(.int p1), (.ref w_V1)]))
            obtain ⟨cq16, kq16, q16a, q16b, q16c⟩ := isOf hZ e2 E_w_V1
            obtain ⟨_, _, ⟨T16, L16, k16, n16⟩, -, X16, ⟨Lc16, hQ16, l16, y16, z16⟩, st16⟩ := X2.virtualBack hx (y := (⟨"com/example/hangar_deck/hangardeck/apk/SignatureScheme", "isReadAt", "(I)Z"⟩ : MethodName)) (z := (⟨"com/example/hangar_deck/hangardeck/apk/SignatureScheme", "isReadAt", "(I)Z"⟩ : MethodName)) hown (mvT hZ (own_w hw 4 rfl)) (mvT hZ (own_w hw 5 rfl)) (notFace_of_selects (args := #[]) (mvT hZ (own_w hw 7 rfl))) (mvT hZ (own_w hw 7 rfl)) (mvT hZ (own_w hw 6 rfl)) (by decide) (backOf (W := 0) (b1 l Z a0 hw [] w_V1 p1 u_firstLevel_w_V1 h0 n0 H_u_firstLevel_w_V1) hZ (own_w hw 8 rfl) (own_w hw 2 rfl) (by decide) (by decide)) q16a q16c (g := (mkF m 89 #[.val (.int p0), .val (.int p1), .val (.int ((p0 &&& (2147483647 : Int32)) % (3 : Int32))), .val (.ref w_V1), .val (.int (1 : Int32)), .val (.int (0 : Int32))] [(.int p1), (.ref w_V1)])) rfl (by rw [hml]; rfl) (Steps.refl _) (argsL := [(.int p1)]) (rest := []) (lenOf pd_0 rfl) rfl (by show 2 * 0 + _ ≤ _; exact Nat.le_of_eq rfl) (hb hby at_89) (fun _ _ => ⟨rfl, e2, (by decide : 0 + 0 ≤ _), (by decide : 0 + 0 ≤ _)⟩)
            dsimp only [Pt.U, Pt.locs, Pt.cells, Pt.slots] at X16 l16 y16 z16 st16 hQ16
            subst l16 y16 z16
            obtain ⟨rfl, N16q, e16⟩ := hQ16
            have N16 := Fr.app N0 N16q
            refine Rch.tr st16 ?_
            show Rch p.tables e below _ (T16.setTop (mkF m 92 #[.val (.int p0), .val (.int p1), .val (.int ((p0 &&& (2147483647 : Int32)) % (3 : Int32))), .val (.ref w_V1), .val (.int (1 : Int32)), .val (.int (0 : Int32))] [(.int (F1 w_V1 p1 u_firstLevel_w_V1))]))
            refine Rch.st (fun _ hr => XS.iload X16.here hx rfl (hb hby at_92) rfl hr) ?_
            show Rch p.tables e below _ (T16.setTop (mkF m 94 #[.val (.int p0), .val (.int p1), .val (.int ((p0 &&& (2147483647 : Int32)) % (3 : Int32))), .val (.ref w_V1), .val (.int (1 : Int32)), .val (.int (0 : Int32))] [(.int (0 : Int32)), (.int (F1 w_V1 p1 u_firstLevel_w_V1))]))
            by_cases hc17 : (F1 w_V1 p1 u_firstLevel_w_V1) = (0 : Int32)
            · refine Rch.st (fun _ hr => XS.icmpNo X16.here hx rfl (hb hby at_94) rfl (teq hc17).2 hr) ?_
              show Rch p.tables e below _ (T16.setTop (mkF m 97 #[.val (.int p0), .val (.int p1), .val (.int ((p0 &&& (2147483647 : Int32)) % (3 : Int32))), .val (.ref w_V1), .val (.int (1 : Int32)), .val (.int (0 : Int32))] []))
              refine Rch.st (fun _ hr => XS.iconst X16.here hx rfl (hb hby at_97) hr) ?_
              show Rch p.tables e below _ (T16.setTop (mkF m 98 #[.val (.int p0), .val (.int p1), .val (.int ((p0 &&& (2147483647 : Int32)) % (3 : Int32))), .val (.ref w_V1), .val (.int (1 : Int32)), .val (.int (0 : Int32))] [(.int (1 : Int32))]))
              refine Rch.st (fun _ hr => XS.goto X16.here hx rfl (pc0 := 98) (pc' := 102) rfl (hb hby at_98) (by decide) (by decide) hr) ?_
              show Rch p.tables e below _ (T16.setTop (mkF m 102 #[.val (.int p0), .val (.int p1), .val (.int ((p0 &&& (2147483647 : Int32)) % (3 : Int32))), .val (.ref w_V1), .val (.int (1 : Int32)), .val (.int (0 : Int32))] [(.int (1 : Int32))]))
              obtain ⟨fs, hr, hrun, hended, hW, hsame⟩ := X16.leave (v := some (.int (1 : Int32))) (fun h => by rw [Bd.returns] at h; cases h)
              refine Rch.fin (u := T16.setFrames fs) (retN X16 hx (t := .boolean) Bd.returns (by simp) (hb hby at_102) hr) ⟨_, hrun, hended, _, _, rfl, ⟨?_, N16, e16⟩, ⟨_, rfl⟩, hW, hsame.mono (by decide) (by decide)⟩
              rw [show F0 p0 p1 w_V1 u_firstLevel_w_V1 w_V2 u_firstLevel_w_V2 w_V3 u_firstLevel_w_V3 = (1 : Int32) from by unfold F0; rw [if_pos hc1, if_pos hc3, if_pos hc4, if_neg hc5, if_pos hc15, if_pos hc17]]
            · refine Rch.st (fun _ hr => XS.icmpYes X16.here hx rfl (pc0 := 94) (pc' := 101) rfl (hb hby at_94) rfl (feq hc17).2 (by decide) (by decide) hr) ?_
              show Rch p.tables e below _ (T16.setTop (mkF m 101 #[.val (.int p0), .val (.int p1), .val (.int ((p0 &&& (2147483647 : Int32)) % (3 : Int32))), .val (.ref w_V1), .val (.int (1 : Int32)), .val (.int (0 : Int32))] []))
              refine Rch.st (fun _ hr => XS.iconst X16.here hx rfl (hb hby at_101) hr) ?_
              show Rch p.tables e below _ (T16.setTop (mkF m 102 #[.val (.int p0), .val (.int p1), .val (.int ((p0 &&& (2147483647 : Int32)) % (3 : Int32))), .val (.ref w_V1), .val (.int (1 : Int32)), .val (.int (0 : Int32))] [(.int (0 : Int32))]))
              obtain ⟨fs, hr, hrun, hended, hW, hsame⟩ := X16.leave (v := some (.int (0 : Int32))) (fun h => by rw [Bd.returns] at h; cases h)
              refine Rch.fin (u := T16.setFrames fs) (retN X16 hx (t := .boolean) Bd.returns (by simp) (hb hby at_102) hr) ⟨_, hrun, hended, _, _, rfl, ⟨?_, N16, e16⟩, ⟨_, rfl⟩, hW, hsame.mono (by decide) (by decide)⟩
              rw [show F0 p0 p1 w_V1 u_firstLevel_w_V1 w_V2 u_firstLevel_w_V2 w_V3 u_firstLevel_w_V3 = (0 : Int32) from by unfold F0; rw [if_pos hc1, if_pos hc3, if_pos hc4, if_neg hc5, if_pos hc15, if_neg hc17]]
          · refine Rch.st (fun _ hr => XS.icmpNo X2.here hx rfl (hb hby at_77) rfl (flt hc15).2.2.1 hr) ?_
            show Rch p.tables e below _ (T2.setTop (mkF m 80 #[.val (.int p0), .val (.int p1), .val (.int ((p0 &&& (2147483647 : Int32)) % (3 : Int32))), .val (.ref w_V1), .val (.int (1 : Int32)), .unset] []))
            refine Rch.st (fun _ hr => XS.iconst X2.here hx rfl (hb hby at_80) hr) ?_
            show Rch p.tables e below _ (T2.setTop (mkF m 81 #[.val (.int p0), .val (.int p1), .val (.int ((p0 &&& (2147483647 : Int32)) % (3 : Int32))), .val (.ref w_V1), .val (.int (1 : Int32)), .unset] [(.int (1 : Int32))]))
            refine Rch.st (fun _ hr => XS.goto X2.here hx rfl (pc0 := 81) (pc' := 85) rfl (hb hby at_81) (by decide) (by decide) hr) ?_
            show Rch p.tables e below _ (T2.setTop (mkF m 85 #[.val (.int p0), .val (.int p1), .val (.int ((p0 &&& (2147483647 : Int32)) % (3 : Int32))), .val (.ref w_V1), .val (.int (1 : Int32)), .unset] [(.int (1 : Int32))]))
            refine Rch.st (fun _ hr => XS.istore X2.here hx rfl (hb hby at_85) rfl (l' := #[.val (.int p0), .val (.int p1), .val (.int ((p0 &&& (2147483647 : Int32)) % (3 : Int32))), .val (.ref w_V1), .val (.int (1 : Int32)), .val (.int (1 : Int32))]) rfl hr) ?_
            show Rch p.tables e below _ (T2.setTop (mkF m 87 #[.val (.int p0), .val (.int p1), .val (.int ((p0 &&& (2147483647 : Int32)) % (3 : Int32))), .val (.ref w_V1), .val (.int (1 : Int32)), .val (.int (1 : Int32))] []))
            refine Rch.st (fun _ hr => XS.aloadN X2.here hx rfl (hb hby at_87) rfl rfl hr) ?_
            show Rch p.tables e below _ (T2.setTop (mkF m 88 #[.val (.int p0), .val (.int p1), .val (.int ((p0 &&& (2147483647 : Int32)) % (3 : Int32))), .val (.ref w_V1), .val (.int (1 : Int32)), .val (.int (1 : Int32))] [(.ref w_V1)]))
            refine Rch.st (fun _ hr => XS.iloadN X2.here hx rfl (hb hby at_88) rfl hr) ?_
            show Rch p.tables e below _ (T2.setTop (mkF m 89 #[.val (.int p0), .val (.int p1), .val (.int ((p0 &&& (2147483647 : Int32)) % (3 : Int32))), .val (.ref w_V1), .val (.int (1 : Int32)), .val (.int (1 : Int32))] [(.int p1), (.ref w_V1)]))
            obtain ⟨cq20, kq20, q20a, q20b, q20c⟩ := isOf hZ e2 E_w_V1
            obtain ⟨_, _, ⟨T20, L20, k20, n20⟩, -, X20, ⟨Lc20, hQ20, l20, y20, z20⟩, st20⟩ := X2.virtualBack hx (y := (⟨"com/example/hangar_deck/hangardeck/apk/SignatureScheme", "isReadAt", "(I)Z"⟩ : MethodName)) (z := (⟨"com/example/hangar_deck/hangardeck/apk/SignatureScheme", "isReadAt", "(I)Z"⟩ : MethodName)) hown (mvT hZ (own_w hw 4 rfl)) (mvT hZ (own_w hw 5 rfl)) (notFace_of_selects (args := #[]) (mvT hZ (own_w hw 7 rfl))) (mvT hZ (own_w hw 7 rfl)) (mvT hZ (own_w hw 6 rfl)) (by decide) (backOf (W := 0) (b1 l Z a0 hw [] w_V1 p1 u_firstLevel_w_V1 h0 n0 H_u_firstLevel_w_V1) hZ (own_w hw 8 rfl) (own_w hw 2 rfl) (by decide) (by decide)) q20a q20c (g := (mkF m 89 #[.val (.int p0), .val (.int p1), .val (.int ((p0 &&& (2147483647 : Int32)) % (3 : Int32))), .val (.ref w_V1), .val (.int (1 : Int32)), .val (.int (1 : Int32))] [(.int p1), (.ref w_V1)])) rfl (by rw [hml]; rfl) (Steps.refl _) (argsL := [(.int p1)]) (rest := []) (lenOf pd_0 rfl) rfl (by show 2 * 0 + _ ≤ _; exact Nat.le_of_eq rfl) (hb hby at_89) (fun _ _ => ⟨rfl, e2, (by decide : 0 + 0 ≤ _), (by decide : 0 + 0 ≤ _)⟩)
            dsimp only [Pt.U, Pt.locs, Pt.cells, Pt.slots] at X20 l20 y20 z20 st20 hQ20
            subst l20 y20 z20
            obtain ⟨rfl, N20q, e20⟩ := hQ20
            have N20 := Fr.app N0 N20q
            refine Rch.tr st20 ?_
            show Rch p.tables e below _ (T20.setTop (mkF m 92 #[.val (.int p0), .val (.int p1), .val (.int ((p0 &&& (2147483647 : Int32)) % (3 : Int32))), .val (.ref w_V1), .val (.int (1 : Int32)), .val (.int (1 : Int32))] [(.int (F1 w_V1 p1 u_firstLevel_w_V1))]))
            refine Rch.st (fun _ hr => XS.iload X20.here hx rfl (hb hby at_92) rfl hr) ?_
            show Rch p.tables e below _ (T20.setTop (mkF m 94 #[.val (.int p0), .val (.int p1), .val (.int ((p0 &&& (2147483647 : Int32)) % (3 : Int32))), .val (.ref w_V1), .val (.int (1 : Int32)), .val (.int (1 : Int32))] [(.int (1 : Int32)), (.int (F1 w_V1 p1 u_firstLevel_w_V1))]))
            by_cases hc21 : (F1 w_V1 p1 u_firstLevel_w_V1) = (1 : Int32)
            · refine Rch.st (fun _ hr => XS.icmpNo X20.here hx rfl (hb hby at_94) rfl (teq hc21).2 hr) ?_
              show Rch p.tables e below _ (T20.setTop (mkF m 97 #[.val (.int p0), .val (.int p1), .val (.int ((p0 &&& (2147483647 : Int32)) % (3 : Int32))), .val (.ref w_V1), .val (.int (1 : Int32)), .val (.int (1 : Int32))] []))
              refine Rch.st (fun _ hr => XS.iconst X20.here hx rfl (hb hby at_97) hr) ?_
              show Rch p.tables e below _ (T20.setTop (mkF m 98 #[.val (.int p0), .val (.int p1), .val (.int ((p0 &&& (2147483647 : Int32)) % (3 : Int32))), .val (.ref w_V1), .val (.int (1 : Int32)), .val (.int (1 : Int32))] [(.int (1 : Int32))]))
              refine Rch.st (fun _ hr => XS.goto X20.here hx rfl (pc0 := 98) (pc' := 102) rfl (hb hby at_98) (by decide) (by decide) hr) ?_
              show Rch p.tables e below _ (T20.setTop (mkF m 102 #[.val (.int p0), .val (.int p1), .val (.int ((p0 &&& (2147483647 : Int32)) % (3 : Int32))), .val (.ref w_V1), .val (.int (1 : Int32)), .val (.int (1 : Int32))] [(.int (1 : Int32))]))
              obtain ⟨fs, hr, hrun, hended, hW, hsame⟩ := X20.leave (v := some (.int (1 : Int32))) (fun h => by rw [Bd.returns] at h; cases h)
              refine Rch.fin (u := T20.setFrames fs) (retN X20 hx (t := .boolean) Bd.returns (by simp) (hb hby at_102) hr) ⟨_, hrun, hended, _, _, rfl, ⟨?_, N20, e20⟩, ⟨_, rfl⟩, hW, hsame.mono (by decide) (by decide)⟩
              rw [show F0 p0 p1 w_V1 u_firstLevel_w_V1 w_V2 u_firstLevel_w_V2 w_V3 u_firstLevel_w_V3 = (1 : Int32) from by unfold F0; rw [if_pos hc1, if_pos hc3, if_pos hc4, if_neg hc5, if_neg hc15, if_pos hc21]]
            · refine Rch.st (fun _ hr => XS.icmpYes X20.here hx rfl (pc0 := 94) (pc' := 101) rfl (hb hby at_94) rfl (feq hc21).2 (by decide) (by decide) hr) ?_
              show Rch p.tables e below _ (T20.setTop (mkF m 101 #[.val (.int p0), .val (.int p1), .val (.int ((p0 &&& (2147483647 : Int32)) % (3 : Int32))), .val (.ref w_V1), .val (.int (1 : Int32)), .val (.int (1 : Int32))] []))
              refine Rch.st (fun _ hr => XS.iconst X20.here hx rfl (hb hby at_101) hr) ?_
              show Rch p.tables e below _ (T20.setTop (mkF m 102 #[.val (.int p0), .val (.int p1), .val (.int ((p0 &&& (2147483647 : Int32)) % (3 : Int32))), .val (.ref w_V1), .val (.int (1 : Int32)), .val (.int (1 : Int32))] [(.int (0 : Int32))]))
              obtain ⟨fs, hr, hrun, hended, hW, hsame⟩ := X20.leave (v := some (.int (0 : Int32))) (fun h => by rw [Bd.returns] at h; cases h)
              refine Rch.fin (u := T20.setFrames fs) (retN X20 hx (t := .boolean) Bd.returns (by simp) (hb hby at_102) hr) ⟨_, hrun, hended, _, _, rfl, ⟨?_, N20, e20⟩, ⟨_, rfl⟩, hW, hsame.mono (by decide) (by decide)⟩
              rw [show F0 p0 p1 w_V1 u_firstLevel_w_V1 w_V2 u_firstLevel_w_V2 w_V3 u_firstLevel_w_V3 = (0 : Int32) from by unfold F0; rw [if_pos hc1, if_pos hc3, if_pos hc4, if_neg hc5, if_neg hc15, if_neg hc21]]
      · refine Rch.st (fun _ hr => XS.icmpNo X2.here hx rfl (hb hby at_49) rfl (flt hc4).1 hr) ?_
        show Rch p.tables e below _ (T2.setTop (mkF m 52 #[.val (.int p0), .val (.int p1), .val (.int ((p0 &&& (2147483647 : Int32)) % (3 : Int32))), .val (.ref w_V1), .unset, .unset] []))
        refine Rch.st (fun _ hr => XS.iconst X2.here hx rfl (hb hby at_52) hr) ?_
        show Rch p.tables e below _ (T2.setTop (mkF m 53 #[.val (.int p0), .val (.int p1), .val (.int ((p0 &&& (2147483647 : Int32)) % (3 : Int32))), .val (.ref w_V1), .unset, .unset] [(.int (2 : Int32))]))
        refine Rch.st (fun _ hr => XS.istore X2.here hx rfl (hb hby at_53) rfl (l' := #[.val (.int p0), .val (.int p1), .val (.int ((p0 &&& (2147483647 : Int32)) % (3 : Int32))), .val (.ref w_V1), .val (.int (2 : Int32)), .unset]) rfl hr) ?_
        show Rch p.tables e below _ (T2.setTop (mkF m 55 #[.val (.int p0), .val (.int p1), .val (.int ((p0 &&& (2147483647 : Int32)) % (3 : Int32))), .val (.ref w_V1), .val (.int (2 : Int32)), .unset] []))
        refine Rch.st (fun _ hr => XS.goto X2.here hx rfl (pc0 := 55) (pc' := 72) rfl (hb hby at_55) (by decide) (by decide) hr) ?_
        show Rch p.tables e below _ (T2.setTop (mkF m 72 #[.val (.int p0), .val (.int p1), .val (.int ((p0 &&& (2147483647 : Int32)) % (3 : Int32))), .val (.ref w_V1), .val (.int (2 : Int32)), .unset] []))
        refine Rch.st (fun _ hr => XS.iloadN X2.here hx rfl (hb hby at_72) rfl hr) ?_
        show Rch p.tables e below _ (T2.setTop (mkF m 73 #[.val (.int p0), .val (.int p1), .val (.int ((p0 &&& (2147483647 : Int32)) % (3 : Int32))), .val (.ref w_V1), .val (.int (2 : Int32)), .unset] [(.int ((p0 &&& (2147483647 : Int32)) % (3 : Int32)))]))
        refine Rch.st (fun _ hr => XS.iconst X2.here hx rfl (hb hby at_73) hr) ?_
        show Rch p.tables e below _ (T2.setTop (mkF m 74 #[.val (.int p0), .val (.int p1), .val (.int ((p0 &&& (2147483647 : Int32)) % (3 : Int32))), .val (.ref w_V1), .val (.int (2 : Int32)), .unset] [(.int (1 : Int32)), (.int ((p0 &&& (2147483647 : Int32)) % (3 : Int32)))]))
        refine Rch.st (fun _ hr => XS.iadd X2.here hx rfl (hb hby at_74) rfl hr) ?_
        show Rch p.tables e below _ (T2.setTop (mkF m 75 #[.val (.int p0), .val (.int p1), .val (.int ((p0 &&& (2147483647 : Int32)) % (3 : Int32))), .val (.ref w_V1), .val (.int (2 : Int32)), .unset] [(.int (((p0 &&& (2147483647 : Int32)) % (3 : Int32)) + (1 : Int32)))]))
        refine Rch.st (fun _ hr => XS.iload X2.here hx rfl (hb hby at_75) rfl hr) ?_
        show Rch p.tables e below _ (T2.setTop (mkF m 77 #[.val (.int p0), .val (.int p1), .val (.int ((p0 &&& (2147483647 : Int32)) % (3 : Int32))), .val (.ref w_V1), .val (.int (2 : Int32)), .unset] [(.int (2 : Int32)), (.int (((p0 &&& (2147483647 : Int32)) % (3 : Int32)) + (1 : Int32)))]))
        by_cases hc24 : (2 : Int32) < (((p0 &&& (2147483647 : Int32)) % (3 : Int32)) + (1 : Int32))
        · refine Rch.st (fun _ hr => XS.icmpYes X2.here hx rfl (pc0 := 77) (pc' := 84) rfl (hb hby at_77) rfl (tlt hc24).2.2.1 (by decide) (by decide) hr) ?_
          show Rch p.tables e below _ (T2.setTop (mkF m 84 #[.val (.int p0), .val (.int p1), .val (.int ((p0 &&& (2147483647 : Int32)) % (3 : Int32))), .val (.ref w_V1), .val (.int (2 : Int32)), .unset] []))
          refine Rch.st (fun _ hr => XS.iconst X2.here hx rfl (hb hby at_84) hr) ?_
          show Rch p.tables e below _ (T2.setTop (mkF m 85 #[.val (.int p0), .val (.int p1), .val (.int ((p0 &&& (2147483647 : Int32)) % (3 : Int32))), .val (.ref w_V1), .val (.int (2 : Int32)), .unset] [(.int (0 : Int32))]))
          refine Rch.st (fun _ hr => XS.istore X2.here hx rfl (hb hby at_85) rfl (l' := #[.val (.int p0), .val (.int p1), .val (.int ((p0 &&& (2147483647 : Int32)) % (3 : Int32))), .val (.ref w_V1), .val (.int (2 : Int32)), .val (.int (0 : Int32))]) rfl hr) ?_
          show Rch p.tables e below _ (T2.setTop (mkF m 87 #[.val (.int p0), .val (.int p1), .val (.int ((p0 &&& (2147483647 : Int32)) % (3 : Int32))), .val (.ref w_V1), .val (.int (2 : Int32)), .val (.int (0 : Int32))] []))
          refine Rch.st (fun _ hr => XS.aloadN X2.here hx rfl (hb hby at_87) rfl rfl hr) ?_
          show Rch p.tables e below _ (T2.setTop (mkF m 88 #[.val (.int p0), .val (.int p1), .val (.int ((p0 &&& (2147483647 : Int32)) % (3 : Int32))), .val (.ref w_V1), .val (.int (2 : Int32)), .val (.int (0 : Int32))] [(.ref w_V1)]))
          refine Rch.st (fun _ hr => XS.iloadN X2.here hx rfl (hb hby at_88) rfl hr) ?_
          show Rch p.tables e below _ (T2.setTop (mkF m 89 #[.val (.int p0), .val (.int p1), .val (.int ((p0 &&& (2147483647 : Int32)) % (3 : Int32))), .val (.ref w_V1), .val (.int (2 : Int32)), .val (.int (0 : Int32))] [(.int p1), (.ref w_V1)]))
          obtain ⟨cq25, kq25, q25a, q25b, q25c⟩ := isOf hZ e2 E_w_V1
          obtain ⟨_, _, ⟨T25, L25, k25, n25⟩, -, X25, ⟨Lc25, hQ25, l25, y25, z25⟩, st25⟩ := X2.virtualBack hx (y := (⟨"com/example/hangar_deck/hangardeck/apk/SignatureScheme", "isReadAt", "(I)Z"⟩ : MethodName)) (z := (⟨"com/example/hangar_deck/hangardeck/apk/SignatureScheme", "isReadAt", "(I)Z"⟩ : MethodName)) hown (mvT hZ (own_w hw 4 rfl)) (mvT hZ (own_w hw 5 rfl)) (notFace_of_selects (args := #[]) (mvT hZ (own_w hw 7 rfl))) (mvT hZ (own_w hw 7 rfl)) (mvT hZ (own_w hw 6 rfl)) (by decide) (backOf (W := 0) (b1 l Z a0 hw [] w_V1 p1 u_firstLevel_w_V1 h0 n0 H_u_firstLevel_w_V1) hZ (own_w hw 8 rfl) (own_w hw 2 rfl) (by decide) (by decide)) q25a q25c (g := (mkF m 89 #[.val (.int p0), .val (.int p1), .val (.int ((p0 &&& (2147483647 : Int32)) % (3 : Int32))), .val (.ref w_V1), .val (.int (2 : Int32)), .val (.int (0 : Int32))] [(.int p1), (.ref w_V1)])) rfl (by rw [hml]; rfl) (Steps.refl _) (argsL := [(.int p1)]) (rest := []) (lenOf pd_0 rfl) rfl (by show 2 * 0 + _ ≤ _; exact Nat.le_of_eq rfl) (hb hby at_89) (fun _ _ => ⟨rfl, e2, (by decide : 0 + 0 ≤ _), (by decide : 0 + 0 ≤ _)⟩)
          dsimp only [Pt.U, Pt.locs, Pt.cells, Pt.slots] at X25 l25 y25 z25 st25 hQ25
          subst l25 y25 z25
          obtain ⟨rfl, N25q, e25⟩ := hQ25
          have N25 := Fr.app N0 N25q
          refine Rch.tr st25 ?_
          show Rch p.tables e below _ (T25.setTop (mkF m 92 #[.val (.int p0), .val (.int p1), .val (.int ((p0 &&& (2147483647 : Int32)) % (3 : Int32))), .val (.ref w_V1), .val (.int (2 : Int32)), .val (.int (0 : Int32))] [(.int (F1 w_V1 p1 u_firstLevel_w_V1))]))
          refine Rch.st (fun _ hr => XS.iload X25.here hx rfl (hb hby at_92) rfl hr) ?_
          show Rch p.tables e below _ (T25.setTop (mkF m 94 #[.val (.int p0), .val (.int p1), .val (.int ((p0 &&& (2147483647 : Int32)) % (3 : Int32))), .val (.ref w_V1), .val (.int (2 : Int32)), .val (.int (0 : Int32))] [(.int (0 : Int32)), (.int (F1 w_V1 p1 u_firstLevel_w_V1))]))
          by_cases hc26 : (F1 w_V1 p1 u_firstLevel_w_V1) = (0 : Int32)
          · refine Rch.st (fun _ hr => XS.icmpNo X25.here hx rfl (hb hby at_94) rfl (teq hc26).2 hr) ?_
            show Rch p.tables e below _ (T25.setTop (mkF m 97 #[.val (.int p0), .val (.int p1), .val (.int ((p0 &&& (2147483647 : Int32)) % (3 : Int32))), .val (.ref w_V1), .val (.int (2 : Int32)), .val (.int (0 : Int32))] []))
            refine Rch.st (fun _ hr => XS.iconst X25.here hx rfl (hb hby at_97) hr) ?_
            show Rch p.tables e below _ (T25.setTop (mkF m 98 #[.val (.int p0), .val (.int p1), .val (.int ((p0 &&& (2147483647 : Int32)) % (3 : Int32))), .val (.ref w_V1), .val (.int (2 : Int32)), .val (.int (0 : Int32))] [(.int (1 : Int32))]))
            refine Rch.st (fun _ hr => XS.goto X25.here hx rfl (pc0 := 98) (pc' := 102) rfl (hb hby at_98) (by decide) (by decide) hr) ?_
            show Rch p.tables e below _ (T25.setTop (mkF m 102 #[.val (.int p0), .val (.int p1), .val (.int ((p0 &&& (2147483647 : Int32)) % (3 : Int32))), .val (.ref w_V1), .val (.int (2 : Int32)), .val (.int (0 : Int32))] [(.int (1 : Int32))]))
            obtain ⟨fs, hr, hrun, hended, hW, hsame⟩ := X25.leave (v := some (.int (1 : Int32))) (fun h => by rw [Bd.returns] at h; cases h)
            refine Rch.fin (u := T25.setFrames fs) (retN X25 hx (t := .boolean) Bd.returns (by simp) (hb hby at_102) hr) ⟨_, hrun, hended, _, _, rfl, ⟨?_, N25, e25⟩, ⟨_, rfl⟩, hW, hsame.mono (by decide) (by decide)⟩
            rw [show F0 p0 p1 w_V1 u_firstLevel_w_V1 w_V2 u_firstLevel_w_V2 w_V3 u_firstLevel_w_V3 = (1 : Int32) from by unfold F0; rw [if_pos hc1, if_pos hc3, if_neg hc4, if_pos hc24, if_pos hc26]]
          · refine Rch.st (fun _ hr => XS.icmpYes X25.here hx rfl (pc0 := 94) (pc' := 101) rfl (hb hby at_94) rfl (feq hc26).2 (by decide) (by decide) hr) ?_
            show Rch p.tables e below _ (T25.setTop (mkF m 101 #[.val (.int p0), .val (.int p1), .val (.int ((p0 &&& (2147483647 : Int32)) % (3 : Int32))), .val (.ref w_V1), .val (.int (2 : Int32)), .val (.int (0 : Int32))] []))
            refine Rch.st (fun _ hr => XS.iconst X25.here hx rfl (hb hby at_101) hr) ?_
            show Rch p.tables e below _ (T25.setTop (mkF m 102 #[.val (.int p0), .val (.int p1), .val (.int ((p0 &&& (2147483647 : Int32)) % (3 : Int32))), .val (.ref w_V1), .val (.int (2 : Int32)), .val (.int (0 : Int32))] [(.int (0 : Int32))]))
            obtain ⟨fs, hr, hrun, hended, hW, hsame⟩ := X25.leave (v := some (.int (0 : Int32))) (fun h => by rw [Bd.returns] at h; cases h)
            refine Rch.fin (u := T25.setFrames fs) (retN X25 hx (t := .boolean) Bd.returns (by simp) (hb hby at_102) hr) ⟨_, hrun, hended, _, _, rfl, ⟨?_, N25, e25⟩, ⟨_, rfl⟩, hW, hsame.mono (by decide) (by decide)⟩
            rw [show F0 p0 p1 w_V1 u_firstLevel_w_V1 w_V2 u_firstLevel_w_V2 w_V3 u_firstLevel_w_V3 = (0 : Int32) from by unfold F0; rw [if_pos hc1, if_pos hc3, if_neg hc4, if_pos hc24, if_neg hc26]]
        · refine Rch.st (fun _ hr => XS.icmpNo X2.here hx rfl (hb hby at_77) rfl (flt hc24).2.2.1 hr) ?_
          show Rch p.tables e below _ (T2.setTop (mkF m 80 #[.val (.int p0), .val (.int p1), .val (.int ((p0 &&& (2147483647 : Int32)) % (3 : Int32))), .val (.ref w_V1), .val (.int (2 : Int32)), .unset] []))
          refine Rch.st (fun _ hr => XS.iconst X2.here hx rfl (hb hby at_80) hr) ?_
          show Rch p.tables e below _ (T2.setTop (mkF m 81 #[.val (.int p0), .val (.int p1), .val (.int ((p0 &&& (2147483647 : Int32)) % (3 : Int32))), .val (.ref w_V1), .val (.int (2 : Int32)), .unset] [(.int (1 : Int32))]))
          refine Rch.st (fun _ hr => XS.goto X2.here hx rfl (pc0 := 81) (pc' := 85) rfl (hb hby at_81) (by decide) (by decide) hr) ?_
          show Rch p.tables e below _ (T2.setTop (mkF m 85 #[.val (.int p0), .val (.int p1), .val (.int ((p0 &&& (2147483647 : Int32)) % (3 : Int32))), .val (.ref w_V1), .val (.int (2 : Int32)), .unset] [(.int (1 : Int32))]))
          refine Rch.st (fun _ hr => XS.istore X2.here hx rfl (hb hby at_85) rfl (l' := #[.val (.int p0), .val (.int p1), .val (.int ((p0 &&& (2147483647 : Int32)) % (3 : Int32))), .val (.ref w_V1), .val (.int (2 : Int32)), .val (.int (1 : Int32))]) rfl hr) ?_
          show Rch p.tables e below _ (T2.setTop (mkF m 87 #[.val (.int p0), .val (.int p1), .val (.int ((p0 &&& (2147483647 : Int32)) % (3 : Int32))), .val (.ref w_V1), .val (.int (2 : Int32)), .val (.int (1 : Int32))] []))
          refine Rch.st (fun _ hr => XS.aloadN X2.here hx rfl (hb hby at_87) rfl rfl hr) ?_
          show Rch p.tables e below _ (T2.setTop (mkF m 88 #[.val (.int p0), .val (.int p1), .val (.int ((p0 &&& (2147483647 : Int32)) % (3 : Int32))), .val (.ref w_V1), .val (.int (2 : Int32)), .val (.int (1 : Int32))] [(.ref w_V1)]))
          refine Rch.st (fun _ hr => XS.iloadN X2.here hx rfl (hb hby at_88) rfl hr) ?_
          show Rch p.tables e below _ (T2.setTop (mkF m 89 #[.val (.int p0), .val (.int p1), .val (.int ((p0 &&& (2147483647 : Int32)) % (3 : Int32))), .val (.ref w_V1), .val (.int (2 : Int32)), .val (.int (1 : Int32))] [(.int p1), (.ref w_V1)]))
          obtain ⟨cq29, kq29, q29a, q29b, q29c⟩ := isOf hZ e2 E_w_V1
          obtain ⟨_, _, ⟨T29, L29, k29, n29⟩, -, X29, ⟨Lc29, hQ29, l29, y29, z29⟩, st29⟩ := X2.virtualBack hx (y := (⟨"com/example/hangar_deck/hangardeck/apk/SignatureScheme", "isReadAt", "(I)Z"⟩ : MethodName)) (z := (⟨"com/example/hangar_deck/hangardeck/apk/SignatureScheme", "isReadAt", "(I)Z"⟩ : MethodName)) hown (mvT hZ (own_w hw 4 rfl)) (mvT hZ (own_w hw 5 rfl)) (notFace_of_selects (args := #[]) (mvT hZ (own_w hw 7 rfl))) (mvT hZ (own_w hw 7 rfl)) (mvT hZ (own_w hw 6 rfl)) (by decide) (backOf (W := 0) (b1 l Z a0 hw [] w_V1 p1 u_firstLevel_w_V1 h0 n0 H_u_firstLevel_w_V1) hZ (own_w hw 8 rfl) (own_w hw 2 rfl) (by decide) (by decide)) q29a q29c (g := (mkF m 89 #[.val (.int p0), .val (.int p1), .val (.int ((p0 &&& (2147483647 : Int32)) % (3 : Int32))), .val (.ref w_V1), .val (.int (2 : Int32)), .val (.int (1 : Int32))] [(.int p1), (.ref w_V1)])) rfl (by rw [hml]; rfl) (Steps.refl _) (argsL := [(.int p1)]) (rest := []) (lenOf pd_0 rfl) rfl (by show 2 * 0 + _ ≤ _; exact Nat.le_of_eq rfl) (hb hby at_89) (fun _ _ => ⟨rfl, e2, (by decide : 0 + 0 ≤ _), (by decide : 0 + 0 ≤ _)⟩)
          dsimp only [Pt.U, Pt.locs, Pt.cells, Pt.slots] at X29 l29 y29 z29 st29 hQ29
          subst l29 y29 z29
          obtain ⟨rfl, N29q, e29⟩ := hQ29
          have N29 := Fr.app N0 N29q
          refine Rch.tr st29 ?_
          show Rch p.tables e below _ (T29.setTop (mkF m 92 #[.val (.int p0), .val (.int p1), .val (.int ((p0 &&& (2147483647 : Int32)) % (3 : Int32))), .val (.ref w_V1), .val (.int (2 : Int32)), .val (.int (1 : Int32))] [(.int (F1 w_V1 p1 u_firstLevel_w_V1))]))
          refine Rch.st (fun _ hr => XS.iload X29.here hx rfl (hb hby at_92) rfl hr) ?_
          show Rch p.tables e below _ (T29.setTop (mkF m 94 #[.val (.int p0), .val (.int p1), .val (.int ((p0 &&& (2147483647 : Int32)) % (3 : Int32))), .val (.ref w_V1), .val (.int (2 : Int32)), .val (.int (1 : Int32))] [(.int (1 : Int32)), (.int (F1 w_V1 p1 u_firstLevel_w_V1))]))
          by_cases hc30 : (F1 w_V1 p1 u_firstLevel_w_V1) = (1 : Int32)
          · refine Rch.st (fun _ hr => XS.icmpNo X29.here hx rfl (hb hby at_94) rfl (teq hc30).2 hr) ?_
            show Rch p.tables e below _ (T29.setTop (mkF m 97 #[.val (.int p0), .val (.int p1), .val (.int ((p0 &&& (2147483647 : Int32)) % (3 : Int32))), .val (.ref w_V1), .val (.int (2 : Int32)), .val (.int (1 : Int32))] []))
            refine Rch.st (fun _ hr => XS.iconst X29.here hx rfl (hb hby at_97) hr) ?_
            show Rch p.tables e below _ (T29.setTop (mkF m 98 #[.val (.int p0), .val (.int p1), .val (.int ((p0 &&& (2147483647 : Int32)) % (3 : Int32))), .val (.ref w_V1), .val (.int (2 : Int32)), .val (.int (1 : Int32))] [(.int (1 : Int32))]))
            refine Rch.st (fun _ hr => XS.goto X29.here hx rfl (pc0 := 98) (pc' := 102) rfl (hb hby at_98) (by decide) (by decide) hr) ?_
            show Rch p.tables e below _ (T29.setTop (mkF m 102 #[.val (.int p0), .val (.int p1), .val (.int ((p0 &&& (2147483647 : Int32)) % (3 : Int32))), .val (.ref w_V1), .val (.int (2 : Int32)), .val (.int (1 : Int32))] [(.int (1 : Int32))]))
            obtain ⟨fs, hr, hrun, hended, hW, hsame⟩ := X29.leave (v := some (.int (1 : Int32))) (fun h => by rw [Bd.returns] at h; cases h)
            refine Rch.fin (u := T29.setFrames fs) (retN X29 hx (t := .boolean) Bd.returns (by simp) (hb hby at_102) hr) ⟨_, hrun, hended, _, _, rfl, ⟨?_, N29, e29⟩, ⟨_, rfl⟩, hW, hsame.mono (by decide) (by decide)⟩
            rw [show F0 p0 p1 w_V1 u_firstLevel_w_V1 w_V2 u_firstLevel_w_V2 w_V3 u_firstLevel_w_V3 = (1 : Int32) from by unfold F0; rw [if_pos hc1, if_pos hc3, if_neg hc4, if_neg hc24, if_pos hc30]]
          · refine Rch.st (fun _ hr => XS.icmpYes X29.here hx rfl (pc0 := 94) (pc' := 101) rfl (hb hby at_94) rfl (feq hc30).2 (by decide) (by decide) hr) ?_
            show Rch p.tables e below _ (T29.setTop (mkF m 101 #[.val (.int p0), .val (.int p1), .val (.int ((p0 &&& (2147483647 : Int32)) % (3 : Int32))), .val (.ref w_V1), .val (.int (2 : Int32)), .val (.int (1 : Int32))] []))
            refine Rch.st (fun _ hr => XS.iconst X29.here hx rfl (hb hby at_101) hr) ?_
            show Rch p.tables e below _ (T29.setTop (mkF m 102 #[.val (.int p0), .val (.int p1), .val (.int ((p0 &&& (2147483647 : Int32)) % (3 : Int32))), .val (.ref w_V1), .val (.int (2 : Int32)), .val (.int (1 : Int32))] [(.int (0 : Int32))]))
            obtain ⟨fs, hr, hrun, hended, hW, hsame⟩ := X29.leave (v := some (.int (0 : Int32))) (fun h => by rw [Bd.returns] at h; cases h)
            refine Rch.fin (u := T29.setFrames fs) (retN X29 hx (t := .boolean) Bd.returns (by simp) (hb hby at_102) hr) ⟨_, hrun, hended, _, _, rfl, ⟨?_, N29, e29⟩, ⟨_, rfl⟩, hW, hsame.mono (by decide) (by decide)⟩
            rw [show F0 p0 p1 w_V1 u_firstLevel_w_V1 w_V2 u_firstLevel_w_V2 w_V3 u_firstLevel_w_V3 = (0 : Int32) from by unfold F0; rw [if_pos hc1, if_pos hc3, if_neg hc4, if_neg hc24, if_neg hc30]]
    · refine Rch.st (fun _ hr => XS.icmpNo X2.here hx rfl (hb hby at_37) rfl (flt hc3).1 hr) ?_
      show Rch p.tables e below _ (T2.setTop (mkF m 40 #[.val (.int p0), .val (.int p1), .val (.int ((p0 &&& (2147483647 : Int32)) % (3 : Int32))), .val (.ref w_V1), .unset, .unset] []))
      refine Rch.st (fun _ hr => XS.iconst X2.here hx rfl (hb hby at_40) hr) ?_
      show Rch p.tables e below _ (T2.setTop (mkF m 41 #[.val (.int p0), .val (.int p1), .val (.int ((p0 &&& (2147483647 : Int32)) % (3 : Int32))), .val (.ref w_V1), .unset, .unset] [(.int (3 : Int32))]))
      refine Rch.st (fun _ hr => XS.istore X2.here hx rfl (hb hby at_41) rfl (l' := #[.val (.int p0), .val (.int p1), .val (.int ((p0 &&& (2147483647 : Int32)) % (3 : Int32))), .val (.ref w_V1), .val (.int (3 : Int32)), .unset]) rfl hr) ?_
      show Rch p.tables e below _ (T2.setTop (mkF m 43 #[.val (.int p0), .val (.int p1), .val (.int ((p0 &&& (2147483647 : Int32)) % (3 : Int32))), .val (.ref w_V1), .val (.int (3 : Int32)), .unset] []))
      refine Rch.st (fun _ hr => XS.goto X2.here hx rfl (pc0 := 43) (pc' := 72) rfl (hb hby at_43) (by decide) (by decide) hr) ?_
      show Rch p.tables e below _ (T2.setTop (mkF m 72 #[.val (.int p0), .val (.int p1), .val (.int ((p0 &&& (2147483647 : Int32)) % (3 : Int32))), .val (.ref w_V1), .val (.int (3 : Int32)), .unset] []))
      refine Rch.st (fun _ hr => XS.iloadN X2.here hx rfl (hb hby at_72) rfl hr) ?_
      show Rch p.tables e below _ (T2.setTop (mkF m 73 #[.val (.int p0), .val (.int p1), .val (.int ((p0 &&& (2147483647 : Int32)) % (3 : Int32))), .val (.ref w_V1), .val (.int (3 : Int32)), .unset] [(.int ((p0 &&& (2147483647 : Int32)) % (3 : Int32)))]))
      refine Rch.st (fun _ hr => XS.iconst X2.here hx rfl (hb hby at_73) hr) ?_
      show Rch p.tables e below _ (T2.setTop (mkF m 74 #[.val (.int p0), .val (.int p1), .val (.int ((p0 &&& (2147483647 : Int32)) % (3 : Int32))), .val (.ref w_V1), .val (.int (3 : Int32)), .unset] [(.int (1 : Int32)), (.int ((p0 &&& (2147483647 : Int32)) % (3 : Int32)))]))
      refine Rch.st (fun _ hr => XS.iadd X2.here hx rfl (hb hby at_74) rfl hr) ?_
      show Rch p.tables e below _ (T2.setTop (mkF m 75 #[.val (.int p0), .val (.int p1), .val (.int ((p0 &&& (2147483647 : Int32)) % (3 : Int32))), .val (.ref w_V1), .val (.int (3 : Int32)), .unset] [(.int (((p0 &&& (2147483647 : Int32)) % (3 : Int32)) + (1 : Int32)))]))
      refine Rch.st (fun _ hr => XS.iload X2.here hx rfl (hb hby at_75) rfl hr) ?_
      show Rch p.tables e below _ (T2.setTop (mkF m 77 #[.val (.int p0), .val (.int p1), .val (.int ((p0 &&& (2147483647 : Int32)) % (3 : Int32))), .val (.ref w_V1), .val (.int (3 : Int32)), .unset] [(.int (3 : Int32)), (.int (((p0 &&& (2147483647 : Int32)) % (3 : Int32)) + (1 : Int32)))]))
      by_cases hc33 : (3 : Int32) < (((p0 &&& (2147483647 : Int32)) % (3 : Int32)) + (1 : Int32))
      · refine Rch.st (fun _ hr => XS.icmpYes X2.here hx rfl (pc0 := 77) (pc' := 84) rfl (hb hby at_77) rfl (tlt hc33).2.2.1 (by decide) (by decide) hr) ?_
        show Rch p.tables e below _ (T2.setTop (mkF m 84 #[.val (.int p0), .val (.int p1), .val (.int ((p0 &&& (2147483647 : Int32)) % (3 : Int32))), .val (.ref w_V1), .val (.int (3 : Int32)), .unset] []))
        refine Rch.st (fun _ hr => XS.iconst X2.here hx rfl (hb hby at_84) hr) ?_
        show Rch p.tables e below _ (T2.setTop (mkF m 85 #[.val (.int p0), .val (.int p1), .val (.int ((p0 &&& (2147483647 : Int32)) % (3 : Int32))), .val (.ref w_V1), .val (.int (3 : Int32)), .unset] [(.int (0 : Int32))]))
        refine Rch.st (fun _ hr => XS.istore X2.here hx rfl (hb hby at_85) rfl (l' := #[.val (.int p0), .val (.int p1), .val (.int ((p0 &&& (2147483647 : Int32)) % (3 : Int32))), .val (.ref w_V1), .val (.int (3 : Int32)), .val (.int (0 : Int32))]) rfl hr) ?_
        show Rch p.tables e below _ (T2.setTop (mkF m 87 #[.val (.int p0), .val (.int p1), .val (.int ((p0 &&& (2147483647 : Int32)) % (3 : Int32))), .val (.ref w_V1), .val (.int (3 : Int32)), .val (.int (0 : Int32))] []))
        refine Rch.st (fun _ hr => XS.aloadN X2.here hx rfl (hb hby at_87) rfl rfl hr) ?_
        show Rch p.tables e below _ (T2.setTop (mkF m 88 #[.val (.int p0), .val (.int p1), .val (.int ((p0 &&& (2147483647 : Int32)) % (3 : Int32))), .val (.ref w_V1), .val (.int (3 : Int32)), .val (.int (0 : Int32))] [(.ref w_V1)]))
        refine Rch.st (fun _ hr => XS.iloadN X2.here hx rfl (hb hby at_88) rfl hr) ?_
        show Rch p.tables e below _ (T2.setTop (mkF m 89 #[.val (.int p0), .val (.int p1), .val (.int ((p0 &&& (2147483647 : Int32)) % (3 : Int32))), .val (.ref w_V1), .val (.int (3 : Int32)), .val (.int (0 : Int32))] [(.int p1), (.ref w_V1)]))
        obtain ⟨cq34, kq34, q34a, q34b, q34c⟩ := isOf hZ e2 E_w_V1
        obtain ⟨_, _, ⟨T34, L34, k34, n34⟩, -, X34, ⟨Lc34, hQ34, l34, y34, z34⟩, st34⟩ := X2.virtualBack hx (y := (⟨"com/example/hangar_deck/hangardeck/apk/SignatureScheme", "isReadAt", "(I)Z"⟩ : MethodName)) (z := (⟨"com/example/hangar_deck/hangardeck/apk/SignatureScheme", "isReadAt", "(I)Z"⟩ : MethodName)) hown (mvT hZ (own_w hw 4 rfl)) (mvT hZ (own_w hw 5 rfl)) (notFace_of_selects (args := #[]) (mvT hZ (own_w hw 7 rfl))) (mvT hZ (own_w hw 7 rfl)) (mvT hZ (own_w hw 6 rfl)) (by decide) (backOf (W := 0) (b1 l Z a0 hw [] w_V1 p1 u_firstLevel_w_V1 h0 n0 H_u_firstLevel_w_V1) hZ (own_w hw 8 rfl) (own_w hw 2 rfl) (by decide) (by decide)) q34a q34c (g := (mkF m 89 #[.val (.int p0), .val (.int p1), .val (.int ((p0 &&& (2147483647 : Int32)) % (3 : Int32))), .val (.ref w_V1), .val (.int (3 : Int32)), .val (.int (0 : Int32))] [(.int p1), (.ref w_V1)])) rfl (by rw [hml]; rfl) (Steps.refl _) (argsL := [(.int p1)]) (rest := []) (lenOf pd_0 rfl) rfl (by show 2 * 0 + _ ≤ _; exact Nat.le_of_eq rfl) (hb hby at_89) (fun _ _ => ⟨rfl, e2, (by decide : 0 + 0 ≤ _), (by decide : 0 + 0 ≤ _)⟩)
        dsimp only [Pt.U, Pt.locs, Pt.cells, Pt.slots] at X34 l34 y34 z34 st34 hQ34
        subst l34 y34 z34
        obtain ⟨rfl, N34q, e34⟩ := hQ34
        have N34 := Fr.app N0 N34q
        refine Rch.tr st34 ?_
        show Rch p.tables e below _ (T34.setTop (mkF m 92 #[.val (.int p0), .val (.int p1), .val (.int ((p0 &&& (2147483647 : Int32)) % (3 : Int32))), .val (.ref w_V1), .val (.int (3 : Int32)), .val (.int (0 : Int32))] [(.int (F1 w_V1 p1 u_firstLevel_w_V1))]))
        refine Rch.st (fun _ hr => XS.iload X34.here hx rfl (hb hby at_92) rfl hr) ?_
        show Rch p.tables e below _ (T34.setTop (mkF m 94 #[.val (.int p0), .val (.int p1), .val (.int ((p0 &&& (2147483647 : Int32)) % (3 : Int32))), .val (.ref w_V1), .val (.int (3 : Int32)), .val (.int (0 : Int32))] [(.int (0 : Int32)), (.int (F1 w_V1 p1 u_firstLevel_w_V1))]))
        by_cases hc35 : (F1 w_V1 p1 u_firstLevel_w_V1) = (0 : Int32)
        · refine Rch.st (fun _ hr => XS.icmpNo X34.here hx rfl (hb hby at_94) rfl (teq hc35).2 hr) ?_
          show Rch p.tables e below _ (T34.setTop (mkF m 97 #[.val (.int p0), .val (.int p1), .val (.int ((p0 &&& (2147483647 : Int32)) % (3 : Int32))), .val (.ref w_V1), .val (.int (3 : Int32)), .val (.int (0 : Int32))] []))
          refine Rch.st (fun _ hr => XS.iconst X34.here hx rfl (hb hby at_97) hr) ?_
          show Rch p.tables e below _ (T34.setTop (mkF m 98 #[.val (.int p0), .val (.int p1), .val (.int ((p0 &&& (2147483647 : Int32)) % (3 : Int32))), .val (.ref w_V1), .val (.int (3 : Int32)), .val (.int (0 : Int32))] [(.int (1 : Int32))]))
          refine Rch.st (fun _ hr => XS.goto X34.here hx rfl (pc0 := 98) (pc' := 102) rfl (hb hby at_98) (by decide) (by decide) hr) ?_
          show Rch p.tables e below _ (T34.setTop (mkF m 102 #[.val (.int p0), .val (.int p1), .val (.int ((p0 &&& (2147483647 : Int32)) % (3 : Int32))), .val (.ref w_V1), .val (.int (3 : Int32)), .val (.int (0 : Int32))] [(.int (1 : Int32))]))
          obtain ⟨fs, hr, hrun, hended, hW, hsame⟩ := X34.leave (v := some (.int (1 : Int32))) (fun h => by rw [Bd.returns] at h; cases h)
          refine Rch.fin (u := T34.setFrames fs) (retN X34 hx (t := .boolean) Bd.returns (by simp) (hb hby at_102) hr) ⟨_, hrun, hended, _, _, rfl, ⟨?_, N34, e34⟩, ⟨_, rfl⟩, hW, hsame.mono (by decide) (by decide)⟩
          rw [show F0 p0 p1 w_V1 u_firstLevel_w_V1 w_V2 u_firstLevel_w_V2 w_V3 u_firstLevel_w_V3 = (1 : Int32) from by unfold F0; rw [if_pos hc1, if_neg hc3, if_pos hc33, if_pos hc35]]
        · refine Rch.st (fun _ hr => XS.icmpYes X34.here hx rfl (pc0 := 94) (pc' := 101) rfl (hb hby at_94) rfl (feq hc35).2 (by decide) (by decide) hr) ?_
          show Rch p.tables e below _ (T34.setTop (mkF m 101 #[.val (.int p0), .val (.int p1), .val (.int ((p0 &&& (2147483647 : Int32)) % (3 : Int32))), .val (.ref w_V1), .val (.int (3 : Int32)), .val (.int (0 : Int32))] []))
          refine Rch.st (fun _ hr => XS.iconst X34.here hx rfl (hb hby at_101) hr) ?_
          show Rch p.tables e below _ (T34.setTop (mkF m 102 #[.val (.int p0), .val (.int p1), .val (.int ((p0 &&& (2147483647 : Int32)) % (3 : Int32))), .val (.ref w_V1), .val (.int (3 : Int32)), .val (.int (0 : Int32))] [(.int (0 : Int32))]))
          obtain ⟨fs, hr, hrun, hended, hW, hsame⟩ := X34.leave (v := some (.int (0 : Int32))) (fun h => by rw [Bd.returns] at h; cases h)
          refine Rch.fin (u := T34.setFrames fs) (retN X34 hx (t := .boolean) Bd.returns (by simp) (hb hby at_102) hr) ⟨_, hrun, hended, _, _, rfl, ⟨?_, N34, e34⟩, ⟨_, rfl⟩, hW, hsame.mono (by decide) (by decide)⟩
          rw [show F0 p0 p1 w_V1 u_firstLevel_w_V1 w_V2 u_firstLevel_w_V2 w_V3 u_firstLevel_w_V3 = (0 : Int32) from by unfold F0; rw [if_pos hc1, if_neg hc3, if_pos hc33, if_neg hc35]]
      · refine Rch.st (fun _ hr => XS.icmpNo X2.here hx rfl (hb hby at_77) rfl (flt hc33).2.2.1 hr) ?_
        show Rch p.tables e below _ (T2.setTop (mkF m 80 #[.val (.int p0), .val (.int p1), .val (.int ((p0 &&& (2147483647 : Int32)) % (3 : Int32))), .val (.ref w_V1), .val (.int (3 : Int32)), .unset] []))
        refine Rch.st (fun _ hr => XS.iconst X2.here hx rfl (hb hby at_80) hr) ?_
        show Rch p.tables e below _ (T2.setTop (mkF m 81 #[.val (.int p0), .val (.int p1), .val (.int ((p0 &&& (2147483647 : Int32)) % (3 : Int32))), .val (.ref w_V1), .val (.int (3 : Int32)), .unset] [(.int (1 : Int32))]))
        refine Rch.st (fun _ hr => XS.goto X2.here hx rfl (pc0 := 81) (pc' := 85) rfl (hb hby at_81) (by decide) (by decide) hr) ?_
        show Rch p.tables e below _ (T2.setTop (mkF m 85 #[.val (.int p0), .val (.int p1), .val (.int ((p0 &&& (2147483647 : Int32)) % (3 : Int32))), .val (.ref w_V1), .val (.int (3 : Int32)), .unset] [(.int (1 : Int32))]))
        refine Rch.st (fun _ hr => XS.istore X2.here hx rfl (hb hby at_85) rfl (l' := #[.val (.int p0), .val (.int p1), .val (.int ((p0 &&& (2147483647 : Int32)) % (3 : Int32))), .val (.ref w_V1), .val (.int (3 : Int32)), .val (.int (1 : Int32))]) rfl hr) ?_
        show Rch p.tables e below _ (T2.setTop (mkF m 87 #[.val (.int p0), .val (.int p1), .val (.int ((p0 &&& (2147483647 : Int32)) % (3 : Int32))), .val (.ref w_V1), .val (.int (3 : Int32)), .val (.int (1 : Int32))] []))
        refine Rch.st (fun _ hr => XS.aloadN X2.here hx rfl (hb hby at_87) rfl rfl hr) ?_
        show Rch p.tables e below _ (T2.setTop (mkF m 88 #[.val (.int p0), .val (.int p1), .val (.int ((p0 &&& (2147483647 : Int32)) % (3 : Int32))), .val (.ref w_V1), .val (.int (3 : Int32)), .val (.int (1 : Int32))] [(.ref w_V1)]))
        refine Rch.st (fun _ hr => XS.iloadN X2.here hx rfl (hb hby at_88) rfl hr) ?_
        show Rch p.tables e below _ (T2.setTop (mkF m 89 #[.val (.int p0), .val (.int p1), .val (.int ((p0 &&& (2147483647 : Int32)) % (3 : Int32))), .val (.ref w_V1), .val (.int (3 : Int32)), .val (.int (1 : Int32))] [(.int p1), (.ref w_V1)]))
        obtain ⟨cq38, kq38, q38a, q38b, q38c⟩ := isOf hZ e2 E_w_V1
        obtain ⟨_, _, ⟨T38, L38, k38, n38⟩, -, X38, ⟨Lc38, hQ38, l38, y38, z38⟩, st38⟩ := X2.virtualBack hx (y := (⟨"com/example/hangar_deck/hangardeck/apk/SignatureScheme", "isReadAt", "(I)Z"⟩ : MethodName)) (z := (⟨"com/example/hangar_deck/hangardeck/apk/SignatureScheme", "isReadAt", "(I)Z"⟩ : MethodName)) hown (mvT hZ (own_w hw 4 rfl)) (mvT hZ (own_w hw 5 rfl)) (notFace_of_selects (args := #[]) (mvT hZ (own_w hw 7 rfl))) (mvT hZ (own_w hw 7 rfl)) (mvT hZ (own_w hw 6 rfl)) (by decide) (backOf (W := 0) (b1 l Z a0 hw [] w_V1 p1 u_firstLevel_w_V1 h0 n0 H_u_firstLevel_w_V1) hZ (own_w hw 8 rfl) (own_w hw 2 rfl) (by decide) (by decide)) q38a q38c (g := (mkF m 89 #[.val (.int p0), .val (.int p1), .val (.int ((p0 &&& (2147483647 : Int32)) % (3 : Int32))), .val (.ref w_V1), .val (.int (3 : Int32)), .val (.int (1 : Int32))] [(.int p1), (.ref w_V1)])) rfl (by rw [hml]; rfl) (Steps.refl _) (argsL := [(.int p1)]) (rest := []) (lenOf pd_0 rfl) rfl (by show 2 * 0 + _ ≤ _; exact Nat.le_of_eq rfl) (hb hby at_89) (fun _ _ => ⟨rfl, e2, (by decide : 0 + 0 ≤ _), (by decide : 0 + 0 ≤ _)⟩)
        dsimp only [Pt.U, Pt.locs, Pt.cells, Pt.slots] at X38 l38 y38 z38 st38 hQ38
        subst l38 y38 z38
        obtain ⟨rfl, N38q, e38⟩ := hQ38
        have N38 := Fr.app N0 N38q
        refine Rch.tr st38 ?_
        show Rch p.tables e below _ (T38.setTop (mkF m 92 #[.val (.int p0), .val (.int p1), .val (.int ((p0 &&& (2147483647 : Int32)) % (3 : Int32))), .val (.ref w_V1), .val (.int (3 : Int32)), .val (.int (1 : Int32))] [(.int (F1 w_V1 p1 u_firstLevel_w_V1))]))
        refine Rch.st (fun _ hr => XS.iload X38.here hx rfl (hb hby at_92) rfl hr) ?_
        show Rch p.tables e below _ (T38.setTop (mkF m 94 #[.val (.int p0), .val (.int p1), .val (.int ((p0 &&& (2147483647 : Int32)) % (3 : Int32))), .val (.ref w_V1), .val (.int (3 : Int32)), .val (.int (1 : Int32))] [(.int (1 : Int32)), (.int (F1 w_V1 p1 u_firstLevel_w_V1))]))
        by_cases hc39 : (F1 w_V1 p1 u_firstLevel_w_V1) = (1 : Int32)
        · refine Rch.st (fun _ hr => XS.icmpNo X38.here hx rfl (hb hby at_94) rfl (teq hc39).2 hr) ?_
          show Rch p.tables e below _ (T38.setTop (mkF m 97 #[.val (.int p0), .val (.int p1), .val (.int ((p0 &&& (2147483647 : Int32)) % (3 : Int32))), .val (.ref w_V1), .val (.int (3 : Int32)), .val (.int (1 : Int32))] []))
          refine Rch.st (fun _ hr => XS.iconst X38.here hx rfl (hb hby at_97) hr) ?_
          show Rch p.tables e below _ (T38.setTop (mkF m 98 #[.val (.int p0), .val (.int p1), .val (.int ((p0 &&& (2147483647 : Int32)) % (3 : Int32))), .val (.ref w_V1), .val (.int (3 : Int32)), .val (.int (1 : Int32))] [(.int (1 : Int32))]))
          refine Rch.st (fun _ hr => XS.goto X38.here hx rfl (pc0 := 98) (pc' := 102) rfl (hb hby at_98) (by decide) (by decide) hr) ?_
          show Rch p.tables e below _ (T38.setTop (mkF m 102 #[.val (.int p0), .val (.int p1), .val (.int ((p0 &&& (2147483647 : Int32)) % (3 : Int32))), .val (.ref w_V1), .val (.int (3 : Int32)), .val (.int (1 : Int32))] [(.int (1 : Int32))]))
          obtain ⟨fs, hr, hrun, hended, hW, hsame⟩ := X38.leave (v := some (.int (1 : Int32))) (fun h => by rw [Bd.returns] at h; cases h)
          refine Rch.fin (u := T38.setFrames fs) (retN X38 hx (t := .boolean) Bd.returns (by simp) (hb hby at_102) hr) ⟨_, hrun, hended, _, _, rfl, ⟨?_, N38, e38⟩, ⟨_, rfl⟩, hW, hsame.mono (by decide) (by decide)⟩
          rw [show F0 p0 p1 w_V1 u_firstLevel_w_V1 w_V2 u_firstLevel_w_V2 w_V3 u_firstLevel_w_V3 = (1 : Int32) from by unfold F0; rw [if_pos hc1, if_neg hc3, if_neg hc33, if_pos hc39]]
        · refine Rch.st (fun _ hr => XS.icmpYes X38.here hx rfl (pc0 := 94) (pc' := 101) rfl (hb hby at_94) rfl (feq hc39).2 (by decide) (by decide) hr) ?_
          show Rch p.tables e below _ (T38.setTop (mkF m 101 #[.val (.int p0), .val (.int p1), .val (.int ((p0 &&& (2147483647 : Int32)) % (3 : Int32))), .val (.ref w_V1), .val (.int (3 : Int32)), .val (.int (1 : Int32))] []))
          refine Rch.st (fun _ hr => XS.iconst X38.here hx rfl (hb hby at_101) hr) ?_
          show Rch p.tables e below _ (T38.setTop (mkF m 102 #[.val (.int p0), .val (.int p1), .val (.int ((p0 &&& (2147483647 : Int32)) % (3 : Int32))), .val (.ref w_V1), .val (.int (3 : Int32)), .val (.int (1 : Int32))] [(.int (0 : Int32))]))
          obtain ⟨fs, hr, hrun, hended, hW, hsame⟩ := X38.leave (v := some (.int (0 : Int32))) (fun h => by rw [Bd.returns] at h; cases h)
          refine Rch.fin (u := T38.setFrames fs) (retN X38 hx (t := .boolean) Bd.returns (by simp) (hb hby at_102) hr) ⟨_, hrun, hended, _, _, rfl, ⟨?_, N38, e38⟩, ⟨_, rfl⟩, hW, hsame.mono (by decide) (by decide)⟩
          rw [show F0 p0 p1 w_V1 u_firstLevel_w_V1 w_V2 u_firstLevel_w_V2 w_V3 u_firstLevel_w_V3 = (0 : Int32) from by unfold F0; rw [if_pos hc1, if_neg hc3, if_neg hc33, if_neg hc39]]
  · refine Rch.st (fun _ hr => XS.ifYes X0.here hx rfl (pc0 := 8) (pc' := 18) rfl (hb hby at_8) rfl ((if0 _ _).trans (feq hc1).2) (by decide) (by decide) hr) ?_
    show Rch p.tables e below _ (s₁.setTop (mkF m 18 #[.val (.int p0), .val (.int p1), .val (.int ((p0 &&& (2147483647 : Int32)) % (3 : Int32))), .unset, .unset, .unset] []))
    refine Rch.st (fun _ hr => XS.iloadN X0.here hx rfl (hb hby at_18) rfl hr) ?_
    show Rch p.tables e below _ (s₁.setTop (mkF m 19 #[.val (.int p0), .val (.int p1), .val (.int ((p0 &&& (2147483647 : Int32)) % (3 : Int32))), .unset, .unset, .unset] [(.int ((p0 &&& (2147483647 : Int32)) % (3 : Int32)))]))
    refine Rch.st (fun _ hr => XS.iconst X0.here hx rfl (hb hby at_19) hr) ?_
    show Rch p.tables e below _ (s₁.setTop (mkF m 20 #[.val (.int p0), .val (.int p1), .val (.int ((p0 &&& (2147483647 : Int32)) % (3 : Int32))), .unset, .unset, .unset] [(.int (1 : Int32)), (.int ((p0 &&& (2147483647 : Int32)) % (3 : Int32)))]))
    by_cases hc42 : ((p0 &&& (2147483647 : Int32)) % (3 : Int32)) = (1 : Int32)
    · refine Rch.st (fun _ hr => XS.icmpNo X0.here hx rfl (hb hby at_20) rfl (teq hc42).2 hr) ?_
      show Rch p.tables e below _ (s₁.setTop (mkF m 23 #[.val (.int p0), .val (.int p1), .val (.int ((p0 &&& (2147483647 : Int32)) % (3 : Int32))), .unset, .unset, .unset] []))
      obtain ⟨T43, X43, e43, st43⟩ := getS2 X0 hx hZ hown (host := "") (Or.inl (own_w hw 13 rfl)) Via.refl e0 H_w_V2 (g := (mkF m 23 #[.val (.int p0), .val (.int p1), .val (.int ((p0 &&& (2147483647 : Int32)) % (3 : Int32))), .unset, .unset, .unset] [])) rfl (hb hby at_23)
      refine Rch.st st43 ?_
      show Rch p.tables e below _ (T43.setTop (mkF m 26 #[.val (.int p0), .val (.int p1), .val (.int ((p0 &&& (2147483647 : Int32)) % (3 : Int32))), .unset, .unset, .unset] [(.ref w_V2)]))
      refine Rch.st (fun _ hr => XS.astoreN X43.here hx rfl (hb hby at_26) rfl rfl (l' := #[.val (.int p0), .val (.int p1), .val (.int ((p0 &&& (2147483647 : Int32)) % (3 : Int32))), .val (.ref w_V2), .unset, .unset]) rfl hr) ?_
      show Rch p.tables e below _ (T43.setTop (mkF m 27 #[.val (.int p0), .val (.int p1), .val (.int ((p0 &&& (2147483647 : Int32)) % (3 : Int32))), .val (.ref w_V2), .unset, .unset] []))
      refine Rch.st (fun _ hr => XS.goto X43.here hx rfl (pc0 := 27) (pc' := 34) rfl (hb hby at_27) (by decide) (by decide) hr) ?_
      show Rch p.tables e below _ (T43.setTop (mkF m 34 #[.val (.int p0), .val (.int p1), .val (.int ((p0 &&& (2147483647 : Int32)) % (3 : Int32))), .val (.ref w_V2), .unset, .unset] []))
      refine Rch.st (fun _ hr => XS.iloadN X43.here hx rfl (hb hby at_34) rfl hr) ?_
      show Rch p.tables e below _ (T43.setTop (mkF m 35 #[.val (.int p0), .val (.int p1), .val (.int ((p0 &&& (2147483647 : Int32)) % (3 : Int32))), .val (.ref w_V2), .unset, .unset] [(.int p1)]))
      refine Rch.st (fun _ hr => XS.bipush X43.here hx rfl (hb hby at_35) hr) ?_
      show Rch p.tables e below _ (T43.setTop (mkF m 37 #[.val (.int p0), .val (.int p1), .val (.int ((p0 &&& (2147483647 : Int32)) % (3 : Int32))), .val (.ref w_V2), .unset, .unset] [(.int (28 : Int32)), (.int p1)]))
      by_cases hc44 : p1 < (28 : Int32)
      · refine Rch.st (fun _ hr => XS.icmpYes X43.here hx rfl (pc0 := 37) (pc' := 46) rfl (hb hby at_37) rfl (tlt hc44).1 (by decide) (by decide) hr) ?_
        show Rch p.tables e below _ (T43.setTop (mkF m 46 #[.val (.int p0), .val (.int p1), .val (.int ((p0 &&& (2147483647 : Int32)) % (3 : Int32))), .val (.ref w_V2), .unset, .unset] []))
        refine Rch.st (fun _ hr => XS.iloadN X43.here hx rfl (hb hby at_46) rfl hr) ?_
        show Rch p.tables e below _ (T43.setTop (mkF m 47 #[.val (.int p0), .val (.int p1), .val (.int ((p0 &&& (2147483647 : Int32)) % (3 : Int32))), .val (.ref w_V2), .unset, .unset] [(.int p1)]))
        refine Rch.st (fun _ hr => XS.bipush X43.here hx rfl (hb hby at_47) hr) ?_
        show Rch p.tables e below _ (T43.setTop (mkF m 49 #[.val (.int p0), .val (.int p1), .val (.int ((p0 &&& (2147483647 : Int32)) % (3 : Int32))), .val (.ref w_V2), .unset, .unset] [(.int (24 : Int32)), (.int p1)]))
        by_cases hc45 : p1 < (24 : Int32)
        · refine Rch.st (fun _ hr => XS.icmpYes X43.here hx rfl (pc0 := 49) (pc' := 58) rfl (hb hby at_49) rfl (tlt hc45).1 (by decide) (by decide) hr) ?_
          show Rch p.tables e below _ (T43.setTop (mkF m 58 #[.val (.int p0), .val (.int p1), .val (.int ((p0 &&& (2147483647 : Int32)) % (3 : Int32))), .val (.ref w_V2), .unset, .unset] []))
          refine Rch.st (fun _ hr => XS.iloadN X43.here hx rfl (hb hby at_58) rfl hr) ?_
          show Rch p.tables e below _ (T43.setTop (mkF m 59 #[.val (.int p0), .val (.int p1), .val (.int ((p0 &&& (2147483647 : Int32)) % (3 : Int32))), .val (.ref w_V2), .unset, .unset] [(.int p1)]))
          refine Rch.st (fun _ hr => XS.iconst X43.here hx rfl (hb hby at_59) hr) ?_
          show Rch p.tables e below _ (T43.setTop (mkF m 60 #[.val (.int p0), .val (.int p1), .val (.int ((p0 &&& (2147483647 : Int32)) % (3 : Int32))), .val (.ref w_V2), .unset, .unset] [(.int (1 : Int32)), (.int p1)]))
          by_cases hc46 : p1 < (1 : Int32)
          · refine Rch.st (fun _ hr => XS.icmpYes X43.here hx rfl (pc0 := 60) (pc' := 69) rfl (hb hby at_60) rfl (tlt hc46).1 (by decide) (by decide) hr) ?_
            show Rch p.tables e below _ (T43.setTop (mkF m 69 #[.val (.int p0), .val (.int p1), .val (.int ((p0 &&& (2147483647 : Int32)) % (3 : Int32))), .val (.ref w_V2), .unset, .unset] []))
            refine Rch.st (fun _ hr => XS.iconst X43.here hx rfl (hb hby at_69) hr) ?_
            show Rch p.tables e below _ (T43.setTop (mkF m 70 #[.val (.int p0), .val (.int p1), .val (.int ((p0 &&& (2147483647 : Int32)) % (3 : Int32))), .val (.ref w_V2), .unset, .unset] [(.int (0 : Int32))]))
            refine Rch.st (fun _ hr => XS.istore X43.here hx rfl (hb hby at_70) rfl (l' := #[.val (.int p0), .val (.int p1), .val (.int ((p0 &&& (2147483647 : Int32)) % (3 : Int32))), .val (.ref w_V2), .val (.int (0 : Int32)), .unset]) rfl hr) ?_
            show Rch p.tables e below _ (T43.setTop (mkF m 72 #[.val (.int p0), .val (.int p1), .val (.int ((p0 &&& (2147483647 : Int32)) % (3 : Int32))), .val (.ref w_V2), .val (.int (0 : Int32)), .unset] []))
            refine Rch.st (fun _ hr => XS.iloadN X43.here hx rfl (hb hby at_72) rfl hr) ?_
            show Rch p.tables e below _ (T43.setTop (mkF m 73 #[.val (.int p0), .val (.int p1), .val (.int ((p0 &&& (2147483647 : Int32)) % (3 : Int32))), .val (.ref w_V2), .val (.int (0 : Int32)), .unset] [(.int ((p0 &&& (2147483647 : Int32)) % (3 : Int32)))]))
            refine Rch.st (fun _ hr => XS.iconst X43.here hx rfl (hb hby at_73) hr) ?_
            show Rch p.tables e below _ (T43.setTop (mkF m 74 #[.val (.int p0), .val (.int p1), .val (.int ((p0 &&& (2147483647 : Int32)) % (3 : Int32))), .val (.ref w_V2), .val (.int (0 : Int32)), .unset] [(.int (1 : Int32)), (.int ((p0 &&& (2147483647 : Int32)) % (3 : Int32)))]))
            refine Rch.st (fun _ hr => XS.iadd X43.here hx rfl (hb hby at_74) rfl hr) ?_
            show Rch p.tables e below _ (T43.setTop (mkF m 75 #[.val (.int p0), .val (.int p1), .val (.int ((p0 &&& (2147483647 : Int32)) % (3 : Int32))), .val (.ref w_V2), .val (.int (0 : Int32)), .unset] [(.int (((p0 &&& (2147483647 : Int32)) % (3 : Int32)) + (1 : Int32)))]))
            refine Rch.st (fun _ hr => XS.iload X43.here hx rfl (hb hby at_75) rfl hr) ?_
            show Rch p.tables e below _ (T43.setTop (mkF m 77 #[.val (.int p0), .val (.int p1), .val (.int ((p0 &&& (2147483647 : Int32)) % (3 : Int32))), .val (.ref w_V2), .val (.int (0 : Int32)), .unset] [(.int (0 : Int32)), (.int (((p0 &&& (2147483647 : Int32)) % (3 : Int32)) + (1 : Int32)))]))
            by_cases hc47 : (0 : Int32) < (((p0 &&& (2147483647 : Int32)) % (3 : Int32)) + (1 : Int32))
            · refine Rch.st (fun _ hr => XS.icmpYes X43.here hx rfl (pc0 := 77) (pc' := 84) rfl (hb hby at_77) rfl (tlt hc47).2.2.1 (by decide) (by decide) hr) ?_
              show Rch p.tables e below _ (T43.setTop (mkF m 84 #[.val (.int p0), .val (.int p1), .val (.int ((p0 &&& (2147483647 : Int32)) % (3 : Int32))), .val (.ref w_V2), .val (.int (0 : Int32)), .unset] []))
              refine Rch.st (fun _ hr => XS.iconst X43.here hx rfl (hb hby at_84) hr) ?_
              show Rch p.tables e below _ (T43.setTop (mkF m 85 #[.val (.int p0), .val (.int p1), .val (.int ((p0 &&& (2147483647 : Int32)) % (3 : Int32))), .val (.ref w_V2), .val (.int (0 : Int32)), .unset] [(.int (0 : Int32))]))
              refine Rch.st (fun _ hr => XS.istore X43.here hx rfl (hb hby at_85) rfl (l' := #[.val (.int p0), .val (.int p1), .val (.int ((p0 &&& (2147483647 : Int32)) % (3 : Int32))), .val (.ref w_V2), .val (.int (0 : Int32)), .val (.int (0 : Int32))]) rfl hr) ?_
              show Rch p.tables e below _ (T43.setTop (mkF m 87 #[.val (.int p0), .val (.int p1), .val (.int ((p0 &&& (2147483647 : Int32)) % (3 : Int32))), .val (.ref w_V2), .val (.int (0 : Int32)), .val (.int (0 : Int32))] []))
              refine Rch.st (fun _ hr => XS.aloadN X43.here hx rfl (hb hby at_87) rfl rfl hr) ?_
              show Rch p.tables e below _ (T43.setTop (mkF m 88 #[.val (.int p0), .val (.int p1), .val (.int ((p0 &&& (2147483647 : Int32)) % (3 : Int32))), .val (.ref w_V2), .val (.int (0 : Int32)), .val (.int (0 : Int32))] [(.ref w_V2)]))
              refine Rch.st (fun _ hr => XS.iloadN X43.here hx rfl (hb hby at_88) rfl hr) ?_
              show Rch p.tables e below _ (T43.setTop (mkF m 89 #[.val (.int p0), .val (.int p1), .val (.int ((p0 &&& (2147483647 : Int32)) % (3 : Int32))), .val (.ref w_V2), .val (.int (0 : Int32)), .val (.int (0 : Int32))] [(.int p1), (.ref w_V2)]))
              obtain ⟨cq48, kq48, q48a, q48b, q48c⟩ := isOf hZ e43 E_w_V2
              obtain ⟨_, _, ⟨T48, L48, k48, n48⟩, -, X48, ⟨Lc48, hQ48, l48, y48, z48⟩, st48⟩ := X43.virtualBack hx (y := (⟨"com/example/hangar_deck/hangardeck/apk/SignatureScheme", "isReadAt", "(I)Z"⟩ : MethodName)) (z := (⟨"com/example/hangar_deck/hangardeck/apk/SignatureScheme", "isReadAt", "(I)Z"⟩ : MethodName)) hown (mvT hZ (own_w hw 4 rfl)) (mvT hZ (own_w hw 5 rfl)) (notFace_of_selects (args := #[]) (mvT hZ (own_w hw 7 rfl))) (mvT hZ (own_w hw 7 rfl)) (mvT hZ (own_w hw 6 rfl)) (by decide) (backOf (W := 0) (b1 l Z a0 hw [] w_V2 p1 u_firstLevel_w_V2 h0 n0 H_u_firstLevel_w_V2) hZ (own_w hw 8 rfl) (own_w hw 2 rfl) (by decide) (by decide)) q48a q48c (g := (mkF m 89 #[.val (.int p0), .val (.int p1), .val (.int ((p0 &&& (2147483647 : Int32)) % (3 : Int32))), .val (.ref w_V2), .val (.int (0 : Int32)), .val (.int (0 : Int32))] [(.int p1), (.ref w_V2)])) rfl (by rw [hml]; rfl) (Steps.refl _) (argsL := [(.int p1)]) (rest := []) (lenOf pd_0 rfl) rfl (by show 2 * 0 + _ ≤ _; exact Nat.le_of_eq rfl) (hb hby at_89) (fun _ _ => ⟨rfl, e43, (by decide : 0 + 0 ≤ _), (by decide : 0 + 0 ≤ _)⟩)
              dsimp only [Pt.U, Pt.locs, Pt.cells, Pt.slots] at X48 l48 y48 z48 st48 hQ48
              subst l48 y48 z48
              obtain ⟨rfl, N48q, e48⟩ := hQ48
              have N48 := Fr.app N0 N48q
              refine Rch.tr st48 ?_
              show Rch p.tables e below _ (T48.setTop (mkF m 92 #[.val (.int p0), .val (.int p1), .val (.int ((p0 &&& (2147483647 : Int32)) % (3 : Int32))), .val (.ref w_V2), .val (.int (0 : Int32)), .val (.int (0 : Int32))] [(.int (F1 w_V2 p1 u_firstLevel_w_V2))]))
              refine Rch.st (fun _ hr => XS.iload X48.here hx rfl (hb hby at_92) rfl hr) ?_
              show Rch p.tables e below _ (T48.setTop (mkF m 94 #[.val (.int p0), .val (.int p1), .val (.int ((p0 &&& (2147483647 : Int32)) % (3 : Int32))), .val (.ref w_V2), .val (.int (0 : Int32)), .val (.int (0 : Int32))] [(.int (0 : Int32)), (.int (F1 w_V2 p1 u_firstLevel_w_V2))]))
              by_cases hc49 : (F1 w_V2 p1 u_firstLevel_w_V2) = (0 : Int32)
              · refine Rch.st (fun _ hr => XS.icmpNo X48.here hx rfl (hb hby at_94) rfl (teq hc49).2 hr) ?_
                show Rch p.tables e below _ (T48.setTop (mkF m 97 #[.val (.int p0), .val (.int p1), .val (.int ((p0 &&& (2147483647 : Int32)) % (3 : Int32))), .val (.ref w_V2), .val (.int (0 : Int32)), .val (.int (0 : Int32))] []))
                refine Rch.st (fun _ hr => XS.iconst X48.here hx rfl (hb hby at_97) hr) ?_
                show Rch p.tables e below _ (T48.setTop (mkF m 98 #[.val (.int p0), .val (.int p1), .val (.int ((p0 &&& (2147483647 : Int32)) % (3 : Int32))), .val (.ref w_V2), .val (.int (0 : Int32)), .val (.int (0 : Int32))] [(.int (1 : Int32))]))
                refine Rch.st (fun _ hr => XS.goto X48.here hx rfl (pc0 := 98) (pc' := 102) rfl (hb hby at_98) (by decide) (by decide) hr) ?_
                show Rch p.tables e below _ (T48.setTop (mkF m 102 #[.val (.int p0), .val (.int p1), .val (.int ((p0 &&& (2147483647 : Int32)) % (3 : Int32))), .val (.ref w_V2), .val (.int (0 : Int32)), .val (.int (0 : Int32))] [(.int (1 : Int32))]))
                obtain ⟨fs, hr, hrun, hended, hW, hsame⟩ := X48.leave (v := some (.int (1 : Int32))) (fun h => by rw [Bd.returns] at h; cases h)
                refine Rch.fin (u := T48.setFrames fs) (retN X48 hx (t := .boolean) Bd.returns (by simp) (hb hby at_102) hr) ⟨_, hrun, hended, _, _, rfl, ⟨?_, N48, e48⟩, ⟨_, rfl⟩, hW, hsame.mono (by decide) (by decide)⟩
                rw [show F0 p0 p1 w_V1 u_firstLevel_w_V1 w_V2 u_firstLevel_w_V2 w_V3 u_firstLevel_w_V3 = (1 : Int32) from by unfold F0; rw [if_neg hc1, if_pos hc42, if_pos hc44, if_pos hc45, if_pos hc46, if_pos hc47, if_pos hc49]]
              · refine Rch.st (fun _ hr => XS.icmpYes X48.here hx rfl (pc0 := 94) (pc' := 101) rfl (hb hby at_94) rfl (feq hc49).2 (by decide) (by decide) hr) ?_
                show Rch p.tables e below _ (T48.setTop (mkF m 101 #[.val (.int p0), .val (.int p1), .val (.int ((p0 &&& (2147483647 : Int32)) % (3 : Int32))), .val (.ref w_V2), .val (.int (0 : Int32)), .val (.int (0 : Int32))] []))
                refine Rch.st (fun _ hr => XS.iconst X48.here hx rfl (hb hby at_101) hr) ?_
                show Rch p.tables e below _ (T48.setTop (mkF m 102 #[.val (.int p0), .val (.int p1), .val (.int ((p0 &&& (2147483647 : Int32)) % (3 : Int32))), .val (.ref w_V2), .val (.int (0 : Int32)), .val (.int (0 : Int32))] [(.int (0 : Int32))]))
                obtain ⟨fs, hr, hrun, hended, hW, hsame⟩ := X48.leave (v := some (.int (0 : Int32))) (fun h => by rw [Bd.returns] at h; cases h)
                refine Rch.fin (u := T48.setFrames fs) (retN X48 hx (t := .boolean) Bd.returns (by simp) (hb hby at_102) hr) ⟨_, hrun, hended, _, _, rfl, ⟨?_, N48, e48⟩, ⟨_, rfl⟩, hW, hsame.mono (by decide) (by decide)⟩
                rw [show F0 p0 p1 w_V1 u_firstLevel_w_V1 w_V2 u_firstLevel_w_V2 w_V3 u_firstLevel_w_V3 = (0 : Int32) from by unfold F0; rw [if_neg hc1, if_pos hc42, if_pos hc44, if_pos hc45, if_pos hc46, if_pos hc47, if_neg hc49]]
            · refine Rch.st (fun _ hr => XS.icmpNo X43.here hx rfl (hb hby at_77) rfl (flt hc47).2.2.1 hr) ?_
              show Rch p.tables e below _ (T43.setTop (mkF m 80 #[.val (.int p0), .val (.int p1), .val (.int ((p0 &&& (2147483647 : Int32)) % (3 : Int32))), .val (.ref w_V2), .val (.int (0 : Int32)), .unset] []))
              refine Rch.st (fun _ hr => XS.iconst X43.here hx rfl (hb hby at_80) hr) ?_
              show Rch p.tables e below _ (T43.setTop (mkF m 81 #[.val (.int p0), .val (.int p1), .val (.int ((p0 &&& (2147483647 : Int32)) % (3 : Int32))), .val (.ref w_V2), .val (.int (0 : Int32)), .unset] [(.int (1 : Int32))]))
              refine Rch.st (fun _ hr => XS.goto X43.here hx rfl (pc0 := 81) (pc' := 85) rfl (hb hby at_81) (by decide) (by decide) hr) ?_
              show Rch p.tables e below _ (T43.setTop (mkF m 85 #[.val (.int p0), .val (.int p1), .val (.int ((p0 &&& (2147483647 : Int32)) % (3 : Int32))), .val (.ref w_V2), .val (.int (0 : Int32)), .unset] [(.int (1 : Int32))]))
              refine Rch.st (fun _ hr => XS.istore X43.here hx rfl (hb hby at_85) rfl (l' := #[.val (.int p0), .val (.int p1), .val (.int ((p0 &&& (2147483647 : Int32)) % (3 : Int32))), .val (.ref w_V2), .val (.int (0 : Int32)), .val (.int (1 : Int32))]) rfl hr) ?_
              show Rch p.tables e below _ (T43.setTop (mkF m 87 #[.val (.int p0), .val (.int p1), .val (.int ((p0 &&& (2147483647 : Int32)) % (3 : Int32))), .val (.ref w_V2), .val (.int (0 : Int32)), .val (.int (1 : Int32))] []))
              refine Rch.st (fun _ hr => XS.aloadN X43.here hx rfl (hb hby at_87) rfl rfl hr) ?_
              show Rch p.tables e below _ (T43.setTop (mkF m 88 #[.val (.int p0), .val (.int p1), .val (.int ((p0 &&& (2147483647 : Int32)) % (3 : Int32))), .val (.ref w_V2), .val (.int (0 : Int32)), .val (.int (1 : Int32))] [(.ref w_V2)]))
              refine Rch.st (fun _ hr => XS.iloadN X43.here hx rfl (hb hby at_88) rfl hr) ?_
              show Rch p.tables e below _ (T43.setTop (mkF m 89 #[.val (.int p0), .val (.int p1), .val (.int ((p0 &&& (2147483647 : Int32)) % (3 : Int32))), .val (.ref w_V2), .val (.int (0 : Int32)), .val (.int (1 : Int32))] [(.int p1), (.ref w_V2)]))
              obtain ⟨cq52, kq52, q52a, q52b, q52c⟩ := isOf hZ e43 E_w_V2
              obtain ⟨_, _, ⟨T52, L52, k52, n52⟩, -, X52, ⟨Lc52, hQ52, l52, y52, z52⟩, st52⟩ := X43.virtualBack hx (y := (⟨"com/example/hangar_deck/hangardeck/apk/SignatureScheme", "isReadAt", "(I)Z"⟩ : MethodName)) (z := (⟨"com/example/hangar_deck/hangardeck/apk/SignatureScheme", "isReadAt", "(I)Z"⟩ : MethodName)) hown (mvT hZ (own_w hw 4 rfl)) (mvT hZ (own_w hw 5 rfl)) (notFace_of_selects (args := #[]) (mvT hZ (own_w hw 7 rfl))) (mvT hZ (own_w hw 7 rfl)) (mvT hZ (own_w hw 6 rfl)) (by decide) (backOf (W := 0) (b1 l Z a0 hw [] w_V2 p1 u_firstLevel_w_V2 h0 n0 H_u_firstLevel_w_V2) hZ (own_w hw 8 rfl) (own_w hw 2 rfl) (by decide) (by decide)) q52a q52c (g := (mkF m 89 #[.val (.int p0), .val (.int p1), .val (.int ((p0 &&& (2147483647 : Int32)) % (3 : Int32))), .val (.ref w_V2), .val (.int (0 : Int32)), .val (.int (1 : Int32))] [(.int p1), (.ref w_V2)])) rfl (by rw [hml]; rfl) (Steps.refl _) (argsL := [(.int p1)]) (rest := []) (lenOf pd_0 rfl) rfl (by show 2 * 0 + _ ≤ _; exact Nat.le_of_eq rfl) (hb hby at_89) (fun _ _ => ⟨rfl, e43, (by decide : 0 + 0 ≤ _), (by decide : 0 + 0 ≤ _)⟩)
              dsimp only [Pt.U, Pt.locs, Pt.cells, Pt.slots] at X52 l52 y52 z52 st52 hQ52
              subst l52 y52 z52
              obtain ⟨rfl, N52q, e52⟩ := hQ52
              have N52 := Fr.app N0 N52q
              refine Rch.tr st52 ?_
              show Rch p.tables e below _ (T52.setTop (mkF m 92 #[.val (.int p0), .val (.int p1), .val (.int ((p0 &&& (2147483647 : Int32)) % (3 : Int32))), .val (.ref w_V2), .val (.int (0 : Int32)), .val (.int (1 : Int32))] [(.int (F1 w_V2 p1 u_firstLevel_w_V2))]))
              refine Rch.st (fun _ hr => XS.iload X52.here hx rfl (hb hby at_92) rfl hr) ?_
              show Rch p.tables e below _ (T52.setTop (mkF m 94 #[.val (.int p0), .val (.int p1), .val (.int ((p0 &&& (2147483647 : Int32)) % (3 : Int32))), .val (.ref w_V2), .val (.int (0 : Int32)), .val (.int (1 : Int32))] [(.int (1 : Int32)), (.int (F1 w_V2 p1 u_firstLevel_w_V2))]))
              by_cases hc53 : (F1 w_V2 p1 u_firstLevel_w_V2) = (1 : Int32)
              · refine Rch.st (fun _ hr => XS.icmpNo X52.here hx rfl (hb hby at_94) rfl (teq hc53).2 hr) ?_
                show Rch p.tables e below _ (T52.setTop (mkF m 97 #[.val (.int p0), .val (.int p1), .val (.int ((p0 &&& (2147483647 : Int32)) % (3 : Int32))), .val (.ref w_V2), .val (.int (0 : Int32)), .val (.int (1 : Int32))] []))
                refine Rch.st (fun _ hr => XS.iconst X52.here hx rfl (hb hby at_97) hr) ?_
                show Rch p.tables e below _ (T52.setTop (mkF m 98 #[.val (.int p0), .val (.int p1), .val (.int ((p0 &&& (2147483647 : Int32)) % (3 : Int32))), .val (.ref w_V2), .val (.int (0 : Int32)), .val (.int (1 : Int32))] [(.int (1 : Int32))]))
                refine Rch.st (fun _ hr => XS.goto X52.here hx rfl (pc0 := 98) (pc' := 102) rfl (hb hby at_98) (by decide) (by decide) hr) ?_
                show Rch p.tables e below _ (T52.setTop (mkF m 102 #[.val (.int p0), .val (.int p1), .val (.int ((p0 &&& (2147483647 : Int32)) % (3 : Int32))), .val (.ref w_V2), .val (.int (0 : Int32)), .val (.int (1 : Int32))] [(.int (1 : Int32))]))
                obtain ⟨fs, hr, hrun, hended, hW, hsame⟩ := X52.leave (v := some (.int (1 : Int32))) (fun h => by rw [Bd.returns] at h; cases h)
                refine Rch.fin (u := T52.setFrames fs) (retN X52 hx (t := .boolean) Bd.returns (by simp) (hb hby at_102) hr) ⟨_, hrun, hended, _, _, rfl, ⟨?_, N52, e52⟩, ⟨_, rfl⟩, hW, hsame.mono (by decide) (by decide)⟩
                rw [show F0 p0 p1 w_V1 u_firstLevel_w_V1 w_V2 u_firstLevel_w_V2 w_V3 u_firstLevel_w_V3 = (1 : Int32) from by unfold F0; rw [if_neg hc1, if_pos hc42, if_pos hc44, if_pos hc45, if_pos hc46, if_neg hc47, if_pos hc53]]
              · refine Rch.st (fun _ hr => XS.icmpYes X52.here hx rfl (pc0 := 94) (pc' := 101) rfl (hb hby at_94) rfl (feq hc53).2 (by decide) (by decide) hr) ?_
                show Rch p.tables e below _ (T52.setTop (mkF m 101 #[.val (.int p0), .val (.int p1), .val (.int ((p0 &&& (2147483647 : Int32)) % (3 : Int32))), .val (.ref w_V2), .val (.int (0 : Int32)), .val (.int (1 : Int32))] []))
                refine Rch.st (fun _ hr => XS.iconst X52.here hx rfl (hb hby at_101) hr) ?_
                show Rch p.tables e below _ (T52.setTop (mkF m 102 #[.val (.int p0), .val (.int p1), .val (.int ((p0 &&& (2147483647 : Int32)) % (3 : Int32))), .val (.ref w_V2), .val (.int (0 : Int32)), .val (.int (1 : Int32))] [(.int (0 : Int32))]))
                obtain ⟨fs, hr, hrun, hended, hW, hsame⟩ := X52.leave (v := some (.int (0 : Int32))) (fun h => by rw [Bd.returns] at h; cases h)
                refine Rch.fin (u := T52.setFrames fs) (retN X52 hx (t := .boolean) Bd.returns (by simp) (hb hby at_102) hr) ⟨_, hrun, hended, _, _, rfl, ⟨?_, N52, e52⟩, ⟨_, rfl⟩, hW, hsame.mono (by decide) (by decide)⟩
                rw [show F0 p0 p1 w_V1 u_firstLevel_w_V1 w_V2 u_firstLevel_w_V2 w_V3 u_firstLevel_w_V3 = (0 : Int32) from by unfold F0; rw [if_neg hc1, if_pos hc42, if_pos hc44, if_pos hc45, if_pos hc46, if_neg hc47, if_neg hc53]]
          · refine Rch.st (fun _ hr => XS.icmpNo X43.here hx rfl (hb hby at_60) rfl (flt hc46).1 hr) ?_
            show Rch p.tables e below _ (T43.setTop (mkF m 63 #[.val (.int p0), .val (.int p1), .val (.int ((p0 &&& (2147483647 : Int32)) % (3 : Int32))), .val (.ref w_V2), .unset, .unset] []))
            refine Rch.st (fun _ hr => XS.iconst X43.here hx rfl (hb hby at_63) hr) ?_
            show Rch p.tables e below _ (T43.setTop (mkF m 64 #[.val (.int p0), .val (.int p1), .val (.int ((p0 &&& (2147483647 : Int32)) % (3 : Int32))), .val (.ref w_V2), .unset, .unset] [(.int (1 : Int32))]))
            refine Rch.st (fun _ hr => XS.istore X43.here hx rfl (hb hby at_64) rfl (l' := #[.val (.int p0), .val (.int p1), .val (.int ((p0 &&& (2147483647 : Int32)) % (3 : Int32))), .val (.ref w_V2), .val (.int (1 : Int32)), .unset]) rfl hr) ?_
            show Rch p.tables e below _ (T43.setTop (mkF m 66 #[.val (.int p0), .val (.int p1), .val (.int ((p0 &&& (2147483647 : Int32)) % (3 : Int32))), .val (.ref w_V2), .val (.int (1 : Int32)), .unset] []))
            refine Rch.st (fun _ hr => XS.goto X43.here hx rfl (pc0 := 66) (pc' := 72) rfl (hb hby at_66) (by decide) (by decide) hr) ?_
            show Rch p.tables e below _ (T43.setTop (mkF m 72 #[.val (.int p0), .val (.int p1), .val (.int ((p0 &&& (2147483647 : Int32)) % (3 : Int32))), .val (.ref w_V2), .val (.int (1 : Int32)), .unset] []))
            refine Rch.st (fun _ hr => XS.iloadN X43.here hx rfl (hb hby at_72) rfl hr) ?_
            show Rch p.tables e below _ (T43.setTop (mkF m 73 #[.val (.int p0), .val (.int p1), .val (.int ((p0 &&& (2147483647 : Int32)) % (3 : Int32))), .val (.ref w_V2), .val (.int (1 : Int32)), .unset] [(.int ((p0 &&& (2147483647 : Int32)) % (3 : Int32)))]))
            refine Rch.st (fun _ hr => XS.iconst X43.here hx rfl (hb hby at_73) hr) ?_
            show Rch p.tables e below _ (T43.setTop (mkF m 74 #[.val (.int p0), .val (.int p1), .val (.int ((p0 &&& (2147483647 : Int32)) % (3 : Int32))), .val (.ref w_V2), .val (.int (1 : Int32)), .unset] [(.int (1 : Int32)), (.int ((p0 &&& (2147483647 : Int32)) % (3 : Int32)))]))
            refine Rch.st (fun _ hr => XS.iadd X43.here hx rfl (hb hby at_74) rfl hr) ?_
            show Rch p.tables e below _ (T43.setTop (mkF m 75 #[.val (.int p0), .val (.int p1), .val (.int ((p0 &&& (2147483647 : Int32)) % (3 : Int32))), .val (.ref w_V2), .val (.int (1 : Int32)), .unset] [(.int (((p0 &&& (2147483647 : Int32)) % (3 : Int32)) + (1 : Int32)))]))
            refine Rch.st (fun _ hr => XS.iload X43.here hx rfl (hb hby at_75) rfl hr) ?_
            show Rch p.tables e below _ (T43.setTop (mkF m 77 #[.val (.int p0), .val (.int p1), .val (.int ((p0 &&& (2147483647 : Int32)) % (3 : Int32))), .val (.ref w_V2), .val (.int (1 : Int32)), .unset] [(.int (1 : Int32)), (.int (((p0 &&& (2147483647 : Int32)) % (3 : Int32)) + (1 : Int32)))]))
            by_cases hc56 : (1 : Int32) < (((p0 &&& (2147483647 : Int32)) % (3 : Int32)) + (1 : Int32))
            · refine Rch.st (fun _ hr => XS.icmpYes X43.here hx rfl (pc0 := 77) (pc' := 84) rfl (hb hby at_77) rfl (tlt hc56).2.2.1 (by decide) (by decide) hr) ?_
              show Rch p.tables e below _ (T43.setTop (mkF m 84 #[.val (.int p0), .val (.int p1), .val (.int ((p0 &&& (2147483647 : Int32)) % (3 : Int32))), .val (.ref w_V2), .val (.int (1 : Int32)), .unset] []))
              refine Rch.st (fun _ hr => XS.iconst X43.here hx rfl (hb hby at_84) hr) ?_
              show Rch p.tables e below _ (T43.setTop (mkF m 85 #[.val (.int p0), .val (.int p1), .val (.int ((p0 &&& (2147483647 : Int32)) % (3 : Int32))), .val (.ref w_V2), .val (.int (1 : Int32)), .unset] [(.int (0 : Int32))]))
              refine Rch.st (fun _ hr => XS.istore X43.here hx rfl (hb hby at_85) rfl (l' := #[.val (.int p0), .val (.int p1), .val (.int ((p0 &&& (2147483647 : Int32)) % (3 : Int32))), .val (.ref w_V2), .val (.int (1 : Int32)), .val (.int (0 : Int32))]) rfl hr) ?_
              show Rch p.tables e below _ (T43.setTop (mkF m 87 #[.val (.int p0), .val (.int p1), .val (.int ((p0 &&& (2147483647 : Int32)) % (3 : Int32))), .val (.ref w_V2), .val (.int (1 : Int32)), .val (.int (0 : Int32))] []))
              refine Rch.st (fun _ hr => XS.aloadN X43.here hx rfl (hb hby at_87) rfl rfl hr) ?_
              show Rch p.tables e below _ (T43.setTop (mkF m 88 #[.val (.int p0), .val (.int p1), .val (.int ((p0 &&& (2147483647 : Int32)) % (3 : Int32))), .val (.ref w_V2), .val (.int (1 : Int32)), .val (.int (0 : Int32))] [(.ref w_V2)]))
              refine Rch.st (fun _ hr => XS.iloadN X43.here hx rfl (hb hby at_88) rfl hr) ?_
              show Rch p.tables e below _ (T43.setTop (mkF m 89 #[.val (.int p0), .val (.int p1), .val (.int ((p0 &&& (2147483647 : Int32)) % (3 : Int32))), .val (.ref w_V2), .val (.int (1 : Int32)), .val (.int (0 : Int32))] [(.int p1), (.ref w_V2)]))
              obtain ⟨cq57, kq57, q57a, q57b, q57c⟩ := isOf hZ e43 E_w_V2
              obtain ⟨_, _, ⟨T57, L57, k57, n57⟩, -, X57, ⟨Lc57, hQ57, l57, y57, z57⟩, st57⟩ := X43.virtualBack hx (y := (⟨"com/example/hangar_deck/hangardeck/apk/SignatureScheme", "isReadAt", "(I)Z"⟩ : MethodName)) (z := (⟨"com/example/hangar_deck/hangardeck/apk/SignatureScheme", "isReadAt", "(I)Z"⟩ : MethodName)) hown (mvT hZ (own_w hw 4 rfl)) (mvT hZ (own_w hw 5 rfl)) (notFace_of_selects (args := #[]) (mvT hZ (own_w hw 7 rfl))) (mvT hZ (own_w hw 7 rfl)) (mvT hZ (own_w hw 6 rfl)) (by decide) (backOf (W := 0) (b1 l Z a0 hw [] w_V2 p1 u_firstLevel_w_V2 h0 n0 H_u_firstLevel_w_V2) hZ (own_w hw 8 rfl) (own_w hw 2 rfl) (by decide) (by decide)) q57a q57c (g := (mkF m 89 #[.val (.int p0), .val (.int p1), .val (.int ((p0 &&& (2147483647 : Int32)) % (3 : Int32))), .val (.ref w_V2), .val (.int (1 : Int32)), .val (.int (0 : Int32))] [(.int p1), (.ref w_V2)])) rfl (by rw [hml]; rfl) (Steps.refl _) (argsL := [(.int p1)]) (rest := []) (lenOf pd_0 rfl) rfl (by show 2 * 0 + _ ≤ _; exact Nat.le_of_eq rfl) (hb hby at_89) (fun _ _ => ⟨rfl, e43, (by decide : 0 + 0 ≤ _), (by decide : 0 + 0 ≤ _)⟩)
              dsimp only [Pt.U, Pt.locs, Pt.cells, Pt.slots] at X57 l57 y57 z57 st57 hQ57
              subst l57 y57 z57
              obtain ⟨rfl, N57q, e57⟩ := hQ57
              have N57 := Fr.app N0 N57q
              refine Rch.tr st57 ?_
              show Rch p.tables e below _ (T57.setTop (mkF m 92 #[.val (.int p0), .val (.int p1), .val (.int ((p0 &&& (2147483647 : Int32)) % (3 : Int32))), .val (.ref w_V2), .val (.int (1 : Int32)), .val (.int (0 : Int32))] [(.int (F1 w_V2 p1 u_firstLevel_w_V2))]))
              refine Rch.st (fun _ hr => XS.iload X57.here hx rfl (hb hby at_92) rfl hr) ?_
              show Rch p.tables e below _ (T57.setTop (mkF m 94 #[.val (.int p0), .val (.int p1), .val (.int ((p0 &&& (2147483647 : Int32)) % (3 : Int32))), .val (.ref w_V2), .val (.int (1 : Int32)), .val (.int (0 : Int32))] [(.int (0 : Int32)), (.int (F1 w_V2 p1 u_firstLevel_w_V2))]))
              by_cases hc58 : (F1 w_V2 p1 u_firstLevel_w_V2) = (0 : Int32)
              · refine Rch.st (fun _ hr => XS.icmpNo X57.here hx rfl (hb hby at_94) rfl (teq hc58).2 hr) ?_
                show Rch p.tables e below _ (T57.setTop (mkF m 97 #[.val (.int p0), .val (.int p1), .val (.int ((p0 &&& (2147483647 : Int32)) % (3 : Int32))), .val (.ref w_V2), .val (.int (1 : Int32)), .val (.int (0 : Int32))] []))
                refine Rch.st (fun _ hr => XS.iconst X57.here hx rfl (hb hby at_97) hr) ?_
                show Rch p.tables e below _ (T57.setTop (mkF m 98 #[.val (.int p0), .val (.int p1), .val (.int ((p0 &&& (2147483647 : Int32)) % (3 : Int32))), .val (.ref w_V2), .val (.int (1 : Int32)), .val (.int (0 : Int32))] [(.int (1 : Int32))]))
                refine Rch.st (fun _ hr => XS.goto X57.here hx rfl (pc0 := 98) (pc' := 102) rfl (hb hby at_98) (by decide) (by decide) hr) ?_
                show Rch p.tables e below _ (T57.setTop (mkF m 102 #[.val (.int p0), .val (.int p1), .val (.int ((p0 &&& (2147483647 : Int32)) % (3 : Int32))), .val (.ref w_V2), .val (.int (1 : Int32)), .val (.int (0 : Int32))] [(.int (1 : Int32))]))
                obtain ⟨fs, hr, hrun, hended, hW, hsame⟩ := X57.leave (v := some (.int (1 : Int32))) (fun h => by rw [Bd.returns] at h; cases h)
                refine Rch.fin (u := T57.setFrames fs) (retN X57 hx (t := .boolean) Bd.returns (by simp) (hb hby at_102) hr) ⟨_, hrun, hended, _, _, rfl, ⟨?_, N57, e57⟩, ⟨_, rfl⟩, hW, hsame.mono (by decide) (by decide)⟩
                rw [show F0 p0 p1 w_V1 u_firstLevel_w_V1 w_V2 u_firstLevel_w_V2 w_V3 u_firstLevel_w_V3 = (1 : Int32) from by unfold F0; rw [if_neg hc1, if_pos hc42, if_pos hc44, if_pos hc45, if_neg hc46, if_pos hc56, if_pos hc58]]
              · refine Rch.st (fun _ hr => XS.icmpYes X57.here hx rfl (pc0 := 94) (pc' := 101) rfl (hb hby at_94) rfl (feq hc58).2 (by decide) (by decide) hr) ?_
                show Rch p.tables e below _ (T57.setTop (mkF m 101 #[.val (.int p0), .val (.int p1), .val (.int ((p0 &&& (2147483647 : Int32)) % (3 : Int32))), .val (.ref w_V2), .val (.int (1 : Int32)), .val (.int (0 : Int32))] []))
                refine Rch.st (fun _ hr => XS.iconst X57.here hx rfl (hb hby at_101) hr) ?_
                show Rch p.tables e below _ (T57.setTop (mkF m 102 #[.val (.int p0), .val (.int p1), .val (.int ((p0 &&& (2147483647 : Int32)) % (3 : Int32))), .val (.ref w_V2), .val (.int (1 : Int32)), .val (.int (0 : Int32))] [(.int (0 : Int32))]))
                obtain ⟨fs, hr, hrun, hended, hW, hsame⟩ := X57.leave (v := some (.int (0 : Int32))) (fun h => by rw [Bd.returns] at h; cases h)
                refine Rch.fin (u := T57.setFrames fs) (retN X57 hx (t := .boolean) Bd.returns (by simp) (hb hby at_102) hr) ⟨_, hrun, hended, _, _, rfl, ⟨?_, N57, e57⟩, ⟨_, rfl⟩, hW, hsame.mono (by decide) (by decide)⟩
                rw [show F0 p0 p1 w_V1 u_firstLevel_w_V1 w_V2 u_firstLevel_w_V2 w_V3 u_firstLevel_w_V3 = (0 : Int32) from by unfold F0; rw [if_neg hc1, if_pos hc42, if_pos hc44, if_pos hc45, if_neg hc46, if_pos hc56, if_neg hc58]]
            · refine Rch.st (fun _ hr => XS.icmpNo X43.here hx rfl (hb hby at_77) rfl (flt hc56).2.2.1 hr) ?_
              show Rch p.tables e below _ (T43.setTop (mkF m 80 #[.val (.int p0), .val (.int p1), .val (.int ((p0 &&& (2147483647 : Int32)) % (3 : Int32))), .val (.ref w_V2), .val (.int (1 : Int32)), .unset] []))
              refine Rch.st (fun _ hr => XS.iconst X43.here hx rfl (hb hby at_80) hr) ?_
              show Rch p.tables e below _ (T43.setTop (mkF m 81 #[.val (.int p0), .val (.int p1), .val (.int ((p0 &&& (2147483647 : Int32)) % (3 : Int32))), .val (.ref w_V2), .val (.int (1 : Int32)), .unset] [(.int (1 : Int32))]))
              refine Rch.st (fun _ hr => XS.goto X43.here hx rfl (pc0 := 81) (pc' := 85) rfl (hb hby at_81) (by decide) (by decide) hr) ?_
              show Rch p.tables e below _ (T43.setTop (mkF m 85 #[.val (.int p0), .val (.int p1), .val (.int ((p0 &&& (2147483647 : Int32)) % (3 : Int32))), .val (.ref w_V2), .val (.int (1 : Int32)), .unset] [(.int (1 : Int32))]))
              refine Rch.st (fun _ hr => XS.istore X43.here hx rfl (hb hby at_85) rfl (l' := #[.val (.int p0), .val (.int p1), .val (.int ((p0 &&& (2147483647 : Int32)) % (3 : Int32))), .val (.ref w_V2), .val (.int (1 : Int32)), .val (.int (1 : Int32))]) rfl hr) ?_
              show Rch p.tables e below _ (T43.setTop (mkF m 87 #[.val (.int p0), .val (.int p1), .val (.int ((p0 &&& (2147483647 : Int32)) % (3 : Int32))), .val (.ref w_V2), .val (.int (1 : Int32)), .val (.int (1 : Int32))] []))
              refine Rch.st (fun _ hr => XS.aloadN X43.here hx rfl (hb hby at_87) rfl rfl hr) ?_
              show Rch p.tables e below _ (T43.setTop (mkF m 88 #[.val (.int p0), .val (.int p1), .val (.int ((p0 &&& (2147483647 : Int32)) % (3 : Int32))), .val (.ref w_V2), .val (.int (1 : Int32)), .val (.int (1 : Int32))] [(.ref w_V2)]))
              refine Rch.st (fun _ hr => XS.iloadN X43.here hx rfl (hb hby at_88) rfl hr) ?_
              show Rch p.tables e below _ (T43.setTop (mkF m 89 #[.val (.int p0), .val (.int p1), .val (.int ((p0 &&& (2147483647 : Int32)) % (3 : Int32))), .val (.ref w_V2), .val (.int (1 : Int32)), .val (.int (1 : Int32))] [(.int p1), (.ref w_V2)]))
              obtain ⟨cq61, kq61, q61a, q61b, q61c⟩ := isOf hZ e43 E_w_V2
              obtain ⟨_, _, ⟨T61, L61, k61, n61⟩, -, X61, ⟨Lc61, hQ61, l61, y61, z61⟩, st61⟩ := X43.virtualBack hx (y := (⟨"com/example/hangar_deck/hangardeck/apk/SignatureScheme", "isReadAt", "(I)Z"⟩ : MethodName)) (z := (⟨"com/example/hangar_deck/hangardeck/apk/SignatureScheme", "isReadAt", "(I)Z"⟩ : MethodName)) hown (mvT hZ (own_w hw 4 rfl)) (mvT hZ (own_w hw 5 rfl)) (notFace_of_selects (args := #[]) (mvT hZ (own_w hw 7 rfl))) (mvT hZ (own_w hw 7 rfl)) (mvT hZ (own_w hw 6 rfl)) (by decide) (backOf (W := 0) (b1 l Z a0 hw [] w_V2 p1 u_firstLevel_w_V2 h0 n0 H_u_firstLevel_w_V2) hZ (own_w hw 8 rfl) (own_w hw 2 rfl) (by decide) (by decide)) q61a q61c (g := (mkF m 89 #[.val (.int p0), .val (.int p1), .val (.int ((p0 &&& (2147483647 : Int32)) % (3 : Int32))), .val (.ref w_V2), .val (.int (1 : Int32)), .val (.int (1 : Int32))] [(.int p1), (.ref w_V2)])) rfl (by rw [hml]; rfl) (Steps.refl _) (argsL := [(.int p1)]) (rest := []) (lenOf pd_0 rfl) rfl (by show 2 * 0 + _ ≤ _; exact Nat.le_of_eq rfl) (hb hby at_89) (fun _ _ => ⟨rfl, e43, (by decide : 0 + 0 ≤ _), (by decide : 0 + 0 ≤ _)⟩)
              dsimp only [Pt.U, Pt.locs, Pt.cells, Pt.slots] at X61 l61 y61 z61 st61 hQ61
              subst l61 y61 z61
              obtain ⟨rfl, N61q, e61⟩ := hQ61
              have N61 := Fr.app N0 N61q
              refine Rch.tr st61 ?_
              show Rch p.tables e below _ (T61.setTop (mkF m 92 #[.val (.int p0), .val (.int p1), .val (.int ((p0 &&& (2147483647 : Int32)) % (3 : Int32))), .val (.ref w_V2), .val (.int (1 : Int32)), .val (.int (1 : Int32))] [(.int (F1 w_V2 p1 u_firstLevel_w_V2))]))
              refine Rch.st (fun _ hr => XS.iload X61.here hx rfl (hb hby at_92) rfl hr) ?_
              show Rch p.tables e below _ (T61.setTop (mkF m 94 #[.val (.int p0), .val (.int p1), .val (.int ((p0 &&& (2147483647 : Int32)) % (3 : Int32))), .val (.ref w_V2), .val (.int (1 : Int32)), .val (.int (1 : Int32))] [(.int (1 : Int32)), (.int (F1 w_V2 p1 u_firstLevel_w_V2))]))
              by_cases hc62 : (F1 w_V2 p1 u_firstLevel_w_V2) = (1 : Int32)
              · refine Rch.st (fun _ hr => XS.icmpNo X61.here hx rfl (hb hby at_94) rfl (teq hc62).2 hr) ?_
                show Rch p.tables e below _ (T61.setTop (mkF m 97 #[.val (.int p0), .val (.int p1), .val (.int ((p0 &&& (2147483647 : Int32)) % (3 : Int32))), .val (.ref w_V2), .val (.int (1 : Int32)), .val (.int (1 : Int32))] []))
                refine Rch.st (fun _ hr => XS.iconst X61.here hx rfl (hb hby at_97) hr) ?_
                show Rch p.tables e below _ (T61.setTop (mkF m 98 #[.val (.int p0), .val (.int p1), .val (.int ((p0 &&& (2147483647 : Int32)) % (3 : Int32))), .val (.ref w_V2), .val (.int (1 : Int32)), .val (.int (1 : Int32))] [(.int (1 : Int32))]))
                refine Rch.st (fun _ hr => XS.goto X61.here hx rfl (pc0 := 98) (pc' := 102) rfl (hb hby at_98) (by decide) (by decide) hr) ?_
                show Rch p.tables e below _ (T61.setTop (mkF m 102 #[.val (.int p0), .val (.int p1), .val (.int ((p0 &&& (2147483647 : Int32)) % (3 : Int32))), .val (.ref w_V2), .val (.int (1 : Int32)), .val (.int (1 : Int32))] [(.int (1 : Int32))]))
                obtain ⟨fs, hr, hrun, hended, hW, hsame⟩ := X61.leave (v := some (.int (1 : Int32))) (fun h => by rw [Bd.returns] at h; cases h)
                refine Rch.fin (u := T61.setFrames fs) (retN X61 hx (t := .boolean) Bd.returns (by simp) (hb hby at_102) hr) ⟨_, hrun, hended, _, _, rfl, ⟨?_, N61, e61⟩, ⟨_, rfl⟩, hW, hsame.mono (by decide) (by decide)⟩
                rw [show F0 p0 p1 w_V1 u_firstLevel_w_V1 w_V2 u_firstLevel_w_V2 w_V3 u_firstLevel_w_V3 = (1 : Int32) from by unfold F0; rw [if_neg hc1, if_pos hc42, if_pos hc44, if_pos hc45, if_neg hc46, if_neg hc56, if_pos hc62]]
              · refine Rch.st (fun _ hr => XS.icmpYes X61.here hx rfl (pc0 := 94) (pc' := 101) rfl (hb hby at_94) rfl (feq hc62).2 (by decide) (by decide) hr) ?_
                show Rch p.tables e below _ (T61.setTop (mkF m 101 #[.val (.int p0), .val (.int p1), .val (.int ((p0 &&& (2147483647 : Int32)) % (3 : Int32))), .val (.ref w_V2), .val (.int (1 : Int32)), .val (.int (1 : Int32))] []))
                refine Rch.st (fun _ hr => XS.iconst X61.here hx rfl (hb hby at_101) hr) ?_
                show Rch p.tables e below _ (T61.setTop (mkF m 102 #[.val (.int p0), .val (.int p1), .val (.int ((p0 &&& (2147483647 : Int32)) % (3 : Int32))), .val (.ref w_V2), .val (.int (1 : Int32)), .val (.int (1 : Int32))] [(.int (0 : Int32))]))
                obtain ⟨fs, hr, hrun, hended, hW, hsame⟩ := X61.leave (v := some (.int (0 : Int32))) (fun h => by rw [Bd.returns] at h; cases h)
                refine Rch.fin (u := T61.setFrames fs) (retN X61 hx (t := .boolean) Bd.returns (by simp) (hb hby at_102) hr) ⟨_, hrun, hended, _, _, rfl, ⟨?_, N61, e61⟩, ⟨_, rfl⟩, hW, hsame.mono (by decide) (by decide)⟩
                rw [show F0 p0 p1 w_V1 u_firstLevel_w_V1 w_V2 u_firstLevel_w_V2 w_V3 u_firstLevel_w_V3 = (0 : Int32) from by unfold F0; rw [if_neg hc1, if_pos hc42, if_pos hc44, if_pos hc45, if_neg hc46, if_neg hc56, if_neg hc62]]
        · refine Rch.st (fun _ hr => XS.icmpNo X43.here hx rfl (hb hby at_49) rfl (flt hc45).1 hr) ?_
          show Rch p.tables e below _ (T43.setTop (mkF m 52 #[.val (.int p0), .val (.int p1), .val (.int ((p0 &&& (2147483647 : Int32)) % (3 : Int32))), .val (.ref w_V2), .unset, .unset] []))
          refine Rch.st (fun _ hr => XS.iconst X43.here hx rfl (hb hby at_52) hr) ?_
          show Rch p.tables e below _ (T43.setTop (mkF m 53 #[.val (.int p0), .val (.int p1), .val (.int ((p0 &&& (2147483647 : Int32)) % (3 : Int32))), .val (.ref w_V2), .unset, .unset] [(.int (2 : Int32))]))
          refine Rch.st (fun _ hr => XS.istore X43.here hx rfl (hb hby at_53) rfl (l' := #[.val (.int p0), .val (.int p1), .val (.int ((p0 &&& (2147483647 : Int32)) % (3 : Int32))), .val (.ref w_V2), .val (.int (2 : Int32)), .unset]) rfl hr) ?_
          show Rch p.tables e below _ (T43.setTop (mkF m 55 #[.val (.int p0), .val (.int p1), .val (.int ((p0 &&& (2147483647 : Int32)) % (3 : Int32))), .val (.ref w_V2), .val (.int (2 : Int32)), .unset] []))
          refine Rch.st (fun _ hr => XS.goto X43.here hx rfl (pc0 := 55) (pc' := 72) rfl (hb hby at_55) (by decide) (by decide) hr) ?_
          show Rch p.tables e below _ (T43.setTop (mkF m 72 #[.val (.int p0), .val (.int p1), .val (.int ((p0 &&& (2147483647 : Int32)) % (3 : Int32))), .val (.ref w_V2), .val (.int (2 : Int32)), .unset] []))
          refine Rch.st (fun _ hr => XS.iloadN X43.here hx rfl (hb hby at_72) rfl hr) ?_
          show Rch p.tables e below _ (T43.setTop (mkF m 73 #[.val (.int p0), .val (.int p1), .val (.int ((p0 &&& (2147483647 : Int32)) % (3 : Int32))), .val (.ref w_V2), .val (.int (2 : Int32)), .unset] [(.int ((p0 &&& (2147483647 : Int32)) % (3 : Int32)))]))
          refine Rch.st (fun _ hr => XS.iconst X43.here hx rfl (hb hby at_73) hr) ?_
          show Rch p.tables e below _ (T43.setTop (mkF m 74 #[.val (.int p0), .val (.int p1), .val (.int ((p0 &&& (2147483647 : Int32)) % (3 : Int32))), .val (.ref w_V2), .val (.int (2 : Int32)), .unset] [(.int (1 : Int32)), (.int ((p0 &&& (2147483647 : Int32)) % (3 : Int32)))]))
          refine Rch.st (fun _ hr => XS.iadd X43.here hx rfl (hb hby at_74) rfl hr) ?_
          show Rch p.tables e below _ (T43.setTop (mkF m 75 #[.val (.int p0), .val (.int p1), .val (.int ((p0 &&& (2147483647 : Int32)) % (3 : Int32))), .val (.ref w_V2), .val (.int (2 : Int32)), .unset] [(.int (((p0 &&& (2147483647 : Int32)) % (3 : Int32)) + (1 : Int32)))]))
          refine Rch.st (fun _ hr => XS.iload X43.here hx rfl (hb hby at_75) rfl hr) ?_
          show Rch p.tables e below _ (T43.setTop (mkF m 77 #[.val (.int p0), .val (.int p1), .val (.int ((p0 &&& (2147483647 : Int32)) % (3 : Int32))), .val (.ref w_V2), .val (.int (2 : Int32)), .unset] [(.int (2 : Int32)), (.int (((p0 &&& (2147483647 : Int32)) % (3 : Int32)) + (1 : Int32)))]))
          by_cases hc65 : (2 : Int32) < (((p0 &&& (2147483647 : Int32)) % (3 : Int32)) + (1 : Int32))
          · refine Rch.st (fun _ hr => XS.icmpYes X43.here hx rfl (pc0 := 77) (pc' := 84) rfl (hb hby at_77) rfl (tlt hc65).2.2.1 (by decide) (by decide) hr) ?_
            show Rch p.tables e below _ (T43.setTop (mkF m 84 #[.val (.int p0), .val (.int p1), .val (.int ((p0 &&& (2147483647 : Int32)) % (3 : Int32))), .val (.ref w_V2), .val (.int (2 : Int32)), .unset] []))
            refine Rch.st (fun _ hr => XS.iconst X43.here hx rfl (hb hby at_84) hr) ?_
            show Rch p.tables e below _ (T43.setTop (mkF m 85 #[.val (.int p0), .val (.int p1), .val (.int ((p0 &&& (2147483647 : Int32)) % (3 : Int32))), .val (.ref w_V2), .val (.int (2 : Int32)), .unset] [(.int (0 : Int32))]))
            refine Rch.st (fun _ hr => XS.istore X43.here hx rfl (hb hby at_85) rfl (l' := #[.val (.int p0), .val (.int p1), .val (.int ((p0 &&& (2147483647 : Int32)) % (3 : Int32))), .val (.ref w_V2), .val (.int (2 : Int32)), .val (.int (0 : Int32))]) rfl hr) ?_
            show Rch p.tables e below _ (T43.setTop (mkF m 87 #[.val (.int p0), .val (.int p1), .val (.int ((p0 &&& (2147483647 : Int32)) % (3 : Int32))), .val (.ref w_V2), .val (.int (2 : Int32)), .val (.int (0 : Int32))] []))
            refine Rch.st (fun _ hr => XS.aloadN X43.here hx rfl (hb hby at_87) rfl rfl hr) ?_
            show Rch p.tables e below _ (T43.setTop (mkF m 88 #[.val (.int p0), .val (.int p1), .val (.int ((p0 &&& (2147483647 : Int32)) % (3 : Int32))), .val (.ref w_V2), .val (.int (2 : Int32)), .val (.int (0 : Int32))] [(.ref w_V2)]))
            refine Rch.st (fun _ hr => XS.iloadN X43.here hx rfl (hb hby at_88) rfl hr) ?_
            show Rch p.tables e below _ (T43.setTop (mkF m 89 #[.val (.int p0), .val (.int p1), .val (.int ((p0 &&& (2147483647 : Int32)) % (3 : Int32))), .val (.ref w_V2), .val (.int (2 : Int32)), .val (.int (0 : Int32))] [(.int p1), (.ref w_V2)]))
            obtain ⟨cq66, kq66, q66a, q66b, q66c⟩ := isOf hZ e43 E_w_V2
            obtain ⟨_, _, ⟨T66, L66, k66, n66⟩, -, X66, ⟨Lc66, hQ66, l66, y66, z66⟩, st66⟩ := X43.virtualBack hx (y := (⟨"com/example/hangar_deck/hangardeck/apk/SignatureScheme", "isReadAt", "(I)Z"⟩ : MethodName)) (z := (⟨"com/example/hangar_deck/hangardeck/apk/SignatureScheme", "isReadAt", "(I)Z"⟩ : MethodName)) hown (mvT hZ (own_w hw 4 rfl)) (mvT hZ (own_w hw 5 rfl)) (notFace_of_selects (args := #[]) (mvT hZ (own_w hw 7 rfl))) (mvT hZ (own_w hw 7 rfl)) (mvT hZ (own_w hw 6 rfl)) (by decide) (backOf (W := 0) (b1 l Z a0 hw [] w_V2 p1 u_firstLevel_w_V2 h0 n0 H_u_firstLevel_w_V2) hZ (own_w hw 8 rfl) (own_w hw 2 rfl) (by decide) (by decide)) q66a q66c (g := (mkF m 89 #[.val (.int p0), .val (.int p1), .val (.int ((p0 &&& (2147483647 : Int32)) % (3 : Int32))), .val (.ref w_V2), .val (.int (2 : Int32)), .val (.int (0 : Int32))] [(.int p1), (.ref w_V2)])) rfl (by rw [hml]; rfl) (Steps.refl _) (argsL := [(.int p1)]) (rest := []) (lenOf pd_0 rfl) rfl (by show 2 * 0 + _ ≤ _; exact Nat.le_of_eq rfl) (hb hby at_89) (fun _ _ => ⟨rfl, e43, (by decide : 0 + 0 ≤ _), (by decide : 0 + 0 ≤ _)⟩)
            dsimp only [Pt.U, Pt.locs, Pt.cells, Pt.slots] at X66 l66 y66 z66 st66 hQ66
            subst l66 y66 z66
            obtain ⟨rfl, N66q, e66⟩ := hQ66
            have N66 := Fr.app N0 N66q
            refine Rch.tr st66 ?_
            show Rch p.tables e below _ (T66.setTop (mkF m 92 #[.val (.int p0), .val (.int p1), .val (.int ((p0 &&& (2147483647 : Int32)) % (3 : Int32))), .val (.ref w_V2), .val (.int (2 : Int32)), .val (.int (0 : Int32))] [(.int (F1 w_V2 p1 u_firstLevel_w_V2))]))
            refine Rch.st (fun _ hr => XS.iload X66.here hx rfl (hb hby at_92) rfl hr) ?_
            show Rch p.tables e below _ (T66.setTop (mkF m 94 #[.val (.int p0), .val (.int p1), .val (.int ((p0 &&& (2147483647 : Int32)) % (3 : Int32))), .val (.ref w_V2), .val (.int (2 : Int32)), .val (.int (0 : Int32))] [(.int (0 : Int32)), (.int (F1 w_V2 p1 u_firstLevel_w_V2))]))
            by_cases hc67 : (F1 w_V2 p1 u_firstLevel_w_V2) = (0 : Int32)
            · refine Rch.st (fun _ hr => XS.icmpNo X66.here hx rfl (hb hby at_94) rfl (teq hc67).2 hr) ?_
              show Rch p.tables e below _ (T66.setTop (mkF m 97 #[.val (.int p0), .val (.int p1), .val (.int ((p0 &&& (2147483647 : Int32)) % (3 : Int32))), .val (.ref w_V2), .val (.int (2 : Int32)), .val (.int (0 : Int32))] []))
              refine Rch.st (fun _ hr => XS.iconst X66.here hx rfl (hb hby at_97) hr) ?_
              show Rch p.tables e below _ (T66.setTop (mkF m 98 #[.val (.int p0), .val (.int p1), .val (.int ((p0 &&& (2147483647 : Int32)) % (3 : Int32))), .val (.ref w_V2), .val (.int (2 : Int32)), .val (.int (0 : Int32))] [(.int (1 : Int32))]))
              refine Rch.st (fun _ hr => XS.goto X66.here hx rfl (pc0 := 98) (pc' := 102) rfl (hb hby at_98) (by decide) (by decide) hr) ?_
              show Rch p.tables e below _ (T66.setTop (mkF m 102 #[.val (.int p0), .val (.int p1), .val (.int ((p0 &&& (2147483647 : Int32)) % (3 : Int32))), .val (.ref w_V2), .val (.int (2 : Int32)), .val (.int (0 : Int32))] [(.int (1 : Int32))]))
              obtain ⟨fs, hr, hrun, hended, hW, hsame⟩ := X66.leave (v := some (.int (1 : Int32))) (fun h => by rw [Bd.returns] at h; cases h)
              refine Rch.fin (u := T66.setFrames fs) (retN X66 hx (t := .boolean) Bd.returns (by simp) (hb hby at_102) hr) ⟨_, hrun, hended, _, _, rfl, ⟨?_, N66, e66⟩, ⟨_, rfl⟩, hW, hsame.mono (by decide) (by decide)⟩
              rw [show F0 p0 p1 w_V1 u_firstLevel_w_V1 w_V2 u_firstLevel_w_V2 w_V3 u_firstLevel_w_V3 = (1 : Int32) from by unfold F0; rw [if_neg hc1, if_pos hc42, if_pos hc44, if_neg hc45, if_pos hc65, if_pos hc67]]
            · refine Rch.st (fun _ hr => XS.icmpYes X66.here hx rfl (pc0 := 94) (pc' := 101) rfl (hb hby at_94) rfl (feq hc67).2 (by decide) (by decide) hr) ?_
              show Rch p.tables e below _ (T66.setTop (mkF m 101 #[.val (.int p0), .val (.int p1), .val (.int ((p0 &&& (2147483647 : Int32)) % (3 : Int32))), .val (.ref w_V2), .val (.int (2 : Int32)), .val (.int (0 : Int32))] []))
              refine Rch.st (fun _ hr => XS.iconst X66.here hx rfl (hb hby at_101) hr) ?_
              show Rch p.tables e below _ (T66.setTop (mkF m 102 #[.val (.int p0), .val (.int p1), .val (.int ((p0 &&& (2147483647 : Int32)) % (3 : Int32))), .val (.ref w_V2), .val (.int (2 : Int32)), .val (.int (0 : Int32))] [(.int (0 : Int32))]))
              obtain ⟨fs, hr, hrun, hended, hW, hsame⟩ := X66.leave (v := some (.int (0 : Int32))) (fun h => by rw [Bd.returns] at h; cases h)
              refine Rch.fin (u := T66.setFrames fs) (retN X66 hx (t := .boolean) Bd.returns (by simp) (hb hby at_102) hr) ⟨_, hrun, hended, _, _, rfl, ⟨?_, N66, e66⟩, ⟨_, rfl⟩, hW, hsame.mono (by decide) (by decide)⟩
              rw [show F0 p0 p1 w_V1 u_firstLevel_w_V1 w_V2 u_firstLevel_w_V2 w_V3 u_firstLevel_w_V3 = (0 : Int32) from by unfold F0; rw [if_neg hc1, if_pos hc42, if_pos hc44, if_neg hc45, if_pos hc65, if_neg hc67]]
          · refine Rch.st (fun _ hr => XS.icmpNo X43.here hx rfl (hb hby at_77) rfl (flt hc65).2.2.1 hr) ?_
            show Rch p.tables e below _ (T43.setTop (mkF m 80 #[.val (.int p0), .val (.int p1), .val (.int ((p0 &&& (2147483647 : Int32)) % (3 : Int32))), .val (.ref w_V2), .val (.int (2 : Int32)), .unset] []))
            refine Rch.st (fun _ hr => XS.iconst X43.here hx rfl (hb hby at_80) hr) ?_
            show Rch p.tables e below _ (T43.setTop (mkF m 81 #[.val (.int p0), .val (.int p1), .val (.int ((p0 &&& (2147483647 : Int32)) % (3 : Int32))), .val (.ref w_V2), .val (.int (2 : Int32)), .unset] [(.int (1 : Int32))]))
            refine Rch.st (fun _ hr => XS.goto X43.here hx rfl (pc0 := 81) (pc' := 85) rfl (hb hby at_81) (by decide) (by decide) hr) ?_
            show Rch p.tables e below _ (T43.setTop (mkF m 85 #[.val (.int p0), .val (.int p1), .val (.int ((p0 &&& (2147483647 : Int32)) % (3 : Int32))), .val (.ref w_V2), .val (.int (2 : Int32)), .unset] [(.int (1 : Int32))]))
            refine Rch.st (fun _ hr => XS.istore X43.here hx rfl (hb hby at_85) rfl (l' := #[.val (.int p0), .val (.int p1), .val (.int ((p0 &&& (2147483647 : Int32)) % (3 : Int32))), .val (.ref w_V2), .val (.int (2 : Int32)), .val (.int (1 : Int32))]) rfl hr) ?_
            show Rch p.tables e below _ (T43.setTop (mkF m 87 #[.val (.int p0), .val (.int p1), .val (.int ((p0 &&& (2147483647 : Int32)) % (3 : Int32))), .val (.ref w_V2), .val (.int (2 : Int32)), .val (.int (1 : Int32))] []))
            refine Rch.st (fun _ hr => XS.aloadN X43.here hx rfl (hb hby at_87) rfl rfl hr) ?_
            show Rch p.tables e below _ (T43.setTop (mkF m 88 #[.val (.int p0), .val (.int p1), .val (.int ((p0 &&& (2147483647 : Int32)) % (3 : Int32))), .val (.ref w_V2), .val (.int (2 : Int32)), .val (.int (1 : Int32))] [(.ref w_V2)]))
            refine Rch.st (fun _ hr => XS.iloadN X43.here hx rfl (hb hby at_88) rfl hr) ?_
            show Rch p.tables e below _ (T43.setTop (mkF m 89 #[.val (.int p0), .val (.int p1), .val (.int ((p0 &&& (2147483647 : Int32)) % (3 : Int32))), .val (.ref w_V2), .val (.int (2 : Int32)), .val (.int (1 : Int32))] [(.int p1), (.ref w_V2)]))
            obtain ⟨cq70, kq70, q70a, q70b, q70c⟩ := isOf hZ e43 E_w_V2
            obtain ⟨_, _, ⟨T70, L70, k70, n70⟩, -, X70, ⟨Lc70, hQ70, l70, y70, z70⟩, st70⟩ := X43.virtualBack hx (y := (⟨"com/example/hangar_deck/hangardeck/apk/SignatureScheme", "isReadAt", "(I)Z"⟩ : MethodName)) (z := (⟨"com/example/hangar_deck/hangardeck/apk/SignatureScheme", "isReadAt", "(I)Z"⟩ : MethodName)) hown (mvT hZ (own_w hw 4 rfl)) (mvT hZ (own_w hw 5 rfl)) (notFace_of_selects (args := #[]) (mvT hZ (own_w hw 7 rfl))) (mvT hZ (own_w hw 7 rfl)) (mvT hZ (own_w hw 6 rfl)) (by decide) (backOf (W := 0) (b1 l Z a0 hw [] w_V2 p1 u_firstLevel_w_V2 h0 n0 H_u_firstLevel_w_V2) hZ (own_w hw 8 rfl) (own_w hw 2 rfl) (by decide) (by decide)) q70a q70c (g := (mkF m 89 #[.val (.int p0), .val (.int p1), .val (.int ((p0 &&& (2147483647 : Int32)) % (3 : Int32))), .val (.ref w_V2), .val (.int (2 : Int32)), .val (.int (1 : Int32))] [(.int p1), (.ref w_V2)])) rfl (by rw [hml]; rfl) (Steps.refl _) (argsL := [(.int p1)]) (rest := []) (lenOf pd_0 rfl) rfl (by show 2 * 0 + _ ≤ _; exact Nat.le_of_eq rfl) (hb hby at_89) (fun _ _ => ⟨rfl, e43, (by decide : 0 + 0 ≤ _), (by decide : 0 + 0 ≤ _)⟩)
            dsimp only [Pt.U, Pt.locs, Pt.cells, Pt.slots] at X70 l70 y70 z70 st70 hQ70
            subst l70 y70 z70
            obtain ⟨rfl, N70q, e70⟩ := hQ70
            have N70 := Fr.app N0 N70q
            refine Rch.tr st70 ?_
            show Rch p.tables e below _ (T70.setTop (mkF m 92 #[.val (.int p0), .val (.int p1), .val (.int ((p0 &&& (2147483647 : Int32)) % (3 : Int32))), .val (.ref w_V2), .val (.int (2 : Int32)), .val (.int (1 : Int32))] [(.int (F1 w_V2 p1 u_firstLevel_w_V2))]))
            refine Rch.st (fun _ hr => XS.iload X70.here hx rfl (hb hby at_92) rfl hr) ?_
            show Rch p.tables e below _ (T70.setTop (mkF m 94 #[.val (.int p0), .val (.int p1), .val (.int ((p0 &&& (2147483647 : Int32)) % (3 : Int32))), .val (.ref w_V2), .val (.int (2 : Int32)), .val (.int (1 : Int32))] [(.int (1 : Int32)), (.int (F1 w_V2 p1 u_firstLevel_w_V2))]))
            by_cases hc71 : (F1 w_V2 p1 u_firstLevel_w_V2) = (1 : Int32)
            · refine Rch.st (fun _ hr => XS.icmpNo X70.here hx rfl (hb hby at_94) rfl (teq hc71).2 hr) ?_
              show Rch p.tables e below _ (T70.setTop (mkF m 97 #[.val (.int p0), .val (.int p1), .val (.int ((p0 &&& (2147483647 : Int32)) % (3 : Int32))), .val (.ref w_V2), .val (.int (2 : Int32)), .val (.int (1 : Int32))] []))
              refine Rch.st (fun _ hr => XS.iconst X70.here hx rfl (hb hby at_97) hr) ?_
              show Rch p.tables e below _ (T70.setTop (mkF m 98 #[.val (.int p0), .val (.int p1), .val (.int ((p0 &&& (2147483647 : Int32)) % (3 : Int32))), .val (.ref w_V2), .val (.int (2 : Int32)), .val (.int (1 : Int32))] [(.int (1 : Int32))]))
              refine Rch.st (fun _ hr => XS.goto X70.here hx rfl (pc0 := 98) (pc' := 102) rfl (hb hby at_98) (by decide) (by decide) hr) ?_
              show Rch p.tables e below _ (T70.setTop (mkF m 102 #[.val (.int p0), .val (.int p1), .val (.int ((p0 &&& (2147483647 : Int32)) % (3 : Int32))), .val (.ref w_V2), .val (.int (2 : Int32)), .val (.int (1 : Int32))] [(.int (1 : Int32))]))
              obtain ⟨fs, hr, hrun, hended, hW, hsame⟩ := X70.leave (v := some (.int (1 : Int32))) (fun h => by rw [Bd.returns] at h; cases h)
              refine Rch.fin (u := T70.setFrames fs) (retN X70 hx (t := .boolean) Bd.returns (by simp) (hb hby at_102) hr) ⟨_, hrun, hended, _, _, rfl, ⟨?_, N70, e70⟩, ⟨_, rfl⟩, hW, hsame.mono (by decide) (by decide)⟩
              rw [show F0 p0 p1 w_V1 u_firstLevel_w_V1 w_V2 u_firstLevel_w_V2 w_V3 u_firstLevel_w_V3 = (1 : Int32) from by unfold F0; rw [if_neg hc1, if_pos hc42, if_pos hc44, if_neg hc45, if_neg hc65, if_pos hc71]]
            · refine Rch.st (fun _ hr => XS.icmpYes X70.here hx rfl (pc0 := 94) (pc' := 101) rfl (hb hby at_94) rfl (feq hc71).2 (by decide) (by decide) hr) ?_
              show Rch p.tables e below _ (T70.setTop (mkF m 101 #[.val (.int p0), .val (.int p1), .val (.int ((p0 &&& (2147483647 : Int32)) % (3 : Int32))), .val (.ref w_V2), .val (.int (2 : Int32)), .val (.int (1 : Int32))] []))
              refine Rch.st (fun _ hr => XS.iconst X70.here hx rfl (hb hby at_101) hr) ?_
              show Rch p.tables e below _ (T70.setTop (mkF m 102 #[.val (.int p0), .val (.int p1), .val (.int ((p0 &&& (2147483647 : Int32)) % (3 : Int32))), .val (.ref w_V2), .val (.int (2 : Int32)), .val (.int (1 : Int32))] [(.int (0 : Int32))]))
              obtain ⟨fs, hr, hrun, hended, hW, hsame⟩ := X70.leave (v := some (.int (0 : Int32))) (fun h => by rw [Bd.returns] at h; cases h)
              refine Rch.fin (u := T70.setFrames fs) (retN X70 hx (t := .boolean) Bd.returns (by simp) (hb hby at_102) hr) ⟨_, hrun, hended, _, _, rfl, ⟨?_, N70, e70⟩, ⟨_, rfl⟩, hW, hsame.mono (by decide) (by decide)⟩
              rw [show F0 p0 p1 w_V1 u_firstLevel_w_V1 w_V2 u_firstLevel_w_V2 w_V3 u_firstLevel_w_V3 = (0 : Int32) from by unfold F0; rw [if_neg hc1, if_pos hc42, if_pos hc44, if_neg hc45, if_neg hc65, if_neg hc71]]
      · refine Rch.st (fun _ hr => XS.icmpNo X43.here hx rfl (hb hby at_37) rfl (flt hc44).1 hr) ?_
        show Rch p.tables e below _ (T43.setTop (mkF m 40 #[.val (.int p0), .val (.int p1), .val (.int ((p0 &&& (2147483647 : Int32)) % (3 : Int32))), .val (.ref w_V2), .unset, .unset] []))
        refine Rch.st (fun _ hr => XS.iconst X43.here hx rfl (hb hby at_40) hr) ?_
        show Rch p.tables e below _ (T43.setTop (mkF m 41 #[.val (.int p0), .val (.int p1), .val (.int ((p0 &&& (2147483647 : Int32)) % (3 : Int32))), .val (.ref w_V2), .unset, .unset] [(.int (3 : Int32))]))
        refine Rch.st (fun _ hr => XS.istore X43.here hx rfl (hb hby at_41) rfl (l' := #[.val (.int p0), .val (.int p1), .val (.int ((p0 &&& (2147483647 : Int32)) % (3 : Int32))), .val (.ref w_V2), .val (.int (3 : Int32)), .unset]) rfl hr) ?_
        show Rch p.tables e below _ (T43.setTop (mkF m 43 #[.val (.int p0), .val (.int p1), .val (.int ((p0 &&& (2147483647 : Int32)) % (3 : Int32))), .val (.ref w_V2), .val (.int (3 : Int32)), .unset] []))
        refine Rch.st (fun _ hr => XS.goto X43.here hx rfl (pc0 := 43) (pc' := 72) rfl (hb hby at_43) (by decide) (by decide) hr) ?_
        show Rch p.tables e below _ (T43.setTop (mkF m 72 #[.val (.int p0), .val (.int p1), .val (.int ((p0 &&& (2147483647 : Int32)) % (3 : Int32))), .val (.ref w_V2), .val (.int (3 : Int32)), .unset] []))
        refine Rch.st (fun _ hr => XS.iloadN X43.here hx rfl (hb hby at_72) rfl hr) ?_
        show Rch p.tables e below _ (T43.setTop (mkF m 73 #[.val (.int p0), .val (.int p1), .val (.int ((p0 &&& (2147483647 : Int32)) % (3 : Int32))), .val (.ref w_V2), .val (.int (3 : Int32)), .unset] [(.int ((p0 &&& (2147483647 : Int32)) % (3 : Int32)))]))
        refine Rch.st (fun _ hr => XS.iconst X43.here hx rfl (hb hby at_73) hr) ?_
        show Rch p.tables e below _ (T43.setTop (mkF m 74 #[.val (.int p0), .val (.int p1), .val (.int ((p0 &&& (2147483647 : Int32)) % (3 : Int32))), .val (.ref w_V2), .val (.int (3 : Int32)), .unset] [(.int (1 : Int32)), (.int ((p0 &&& (2147483647 : Int32)) % (3 : Int32)))]))
        refine Rch.st (fun _ hr => XS.iadd X43.here hx rfl (hb hby at_74) rfl hr) ?_
        show Rch p.tables e below _ (T43.setTop (mkF m 75 #[.val (.int p0), .val (.int p1), .val (.int ((p0 &&& (2147483647 : Int32)) % (3 : Int32))), .val (.ref w_V2), .val (.int (3 : Int32)), .unset] [(.int (((p0 &&& (2147483647 : Int32)) % (3 : Int32)) + (1 : Int32)))]))
        refine Rch.st (fun _ hr => XS.iload X43.here hx rfl (hb hby at_75) rfl hr) ?_
        show Rch p.tables e below _ (T43.setTop (mkF m 77 #[.val (.int p0), .val (.int p1), .val (.int ((p0 &&& (2147483647 : Int32)) % (3 : Int32))), .val (.ref w_V2), .val (.int (3 : Int32)), .unset] [(.int (3 : Int32)), (.int (((p0 &&& (2147483647 : Int32)) % (3 : Int32)) + (1 : Int32)))]))
        by_cases hc74 : (3 : Int32) < (((p0 &&& (2147483647 : Int32)) % (3 : Int32)) + (1 : Int32))
        · refine Rch.st (fun _ hr => XS.icmpYes X43.here hx rfl (pc0 := 77) (pc' := 84) rfl (hb hby at_77) rfl (tlt hc74).2.2.1 (by decide) (by decide) hr) ?_
          show Rch p.tables e below _ (T43.setTop (mkF m 84 #[.val (.int p0), .val (.int p1), .val (.int ((p0 &&& (2147483647 : Int32)) % (3 : Int32))), .val (.ref w_V2), .val (.int (3 : Int32)), .unset] []))
          refine Rch.st (fun _ hr => XS.iconst X43.here hx rfl (hb hby at_84) hr) ?_
          show Rch p.tables e below _ (T43.setTop (mkF m 85 #[.val (.int p0), .val (.int p1), .val (.int ((p0 &&& (2147483647 : Int32)) % (3 : Int32))), .val (.ref w_V2), .val (.int (3 : Int32)), .unset] [(.int (0 : Int32))]))
          refine Rch.st (fun _ hr => XS.istore X43.here hx rfl (hb hby at_85) rfl (l' := #[.val (.int p0), .val (.int p1), .val (.int ((p0 &&& (2147483647 : Int32)) % (3 : Int32))), .val (.ref w_V2), .val (.int (3 : Int32)), .val (.int (0 : Int32))]) rfl hr) ?_
          show Rch p.tables e below _ (T43.setTop (mkF m 87 #[.val (.int p0), .val (.int p1), .val (.int ((p0 &&& (2147483647 : Int32)) % (3 : Int32))), .val (.ref w_V2), .val (.int (3 : Int32)), .val (.int (0 : Int32))] []))
          refine Rch.st (fun _ hr => XS.aloadN X43.here hx rfl (hb hby at_87) rfl rfl hr) ?_
          show Rch p.tables e below _ (T43.setTop (mkF m 88 #[.val (.int p0), .val (.int p1), .val (.int ((p0 &&& (2147483647 : Int32)) % (3 : Int32))), .val (.ref w_V2), .val (.int (3 : Int32)), .val (.int (0 : Int32))] [(.ref w_V2)]))
          refine Rch.st (fun _ hr => XS.iloadN X43.here hx rfl (hb hby at_88) rfl hr) ?_
          show Rch p.tables e below _ (T43.setTop (mkF m 89 #[.val (.int p0), .val (.int p1), .val (.int ((p0 &&& (2147483647 : Int32)) % (3 : Int32))), .val (.ref w_V2), .val (.int (3 : Int32)), .val (.int (0 : Int32))] [(.int p1), (.ref w_V2)]))
          obtain ⟨cq75, kq75, q75a, q75b, q75c⟩ := isOf hZ e43 E_w_V2
          obtain ⟨_, _, ⟨T75, L75, k75, n75⟩, -, X75, ⟨Lc75, hQ75, l75, y75, z75⟩, st75⟩ := X43.virtualBack hx (y := (⟨"com/example/hangar_deck/hangardeck/apk/SignatureScheme", "isReadAt", "(I)Z"⟩ : MethodName)) (z := (⟨"com/example/hangar_deck/hangardeck/apk/SignatureScheme", "isReadAt", "(I)Z"⟩ : MethodName)) hown (mvT hZ (own_w hw 4 rfl)) (mvT hZ (own_w hw 5 rfl)) (notFace_of_selects (args := #[]) (mvT hZ (own_w hw 7 rfl))) (mvT hZ (own_w hw 7 rfl)) (mvT hZ (own_w hw 6 rfl)) (by decide) (backOf (W := 0) (b1 l Z a0 hw [] w_V2 p1 u_firstLevel_w_V2 h0 n0 H_u_firstLevel_w_V2) hZ (own_w hw 8 rfl) (own_w hw 2 rfl) (by decide) (by decide)) q75a q75c (g := (mkF m 89 #[.val (.int p0), .val (.int p1), .val (.int ((p0 &&& (2147483647 : Int32)) % (3 : Int32))), .val (.ref w_V2), .val (.int (3 : Int32)), .val (.int (0 : Int32))] [(.int p1), (.ref w_V2)])) rfl (by rw [hml]; rfl) (Steps.refl _) (argsL := [(.int p1)]) (rest := []) (lenOf pd_0 rfl) rfl (by show 2 * 0 + _ ≤ _; exact Nat.le_of_eq rfl) (hb hby at_89) (fun _ _ => ⟨rfl, e43, (by decide : 0 + 0 ≤ _), (by decide : 0 + 0 ≤ _)⟩)
          dsimp only [Pt.U, Pt.locs, Pt.cells, Pt.slots] at X75 l75 y75 z75 st75 hQ75
          subst l75 y75 z75
          obtain ⟨rfl, N75q, e75⟩ := hQ75
          have N75 := Fr.app N0 N75q
          refine Rch.tr st75 ?_
          show Rch p.tables e below _ (T75.setTop (mkF m 92 #[.val (.int p0), .val (.int p1), .val (.int ((p0 &&& (2147483647 : Int32)) % (3 : Int32))), .val (.ref w_V2), .val (.int (3 : Int32)), .val (.int (0 : Int32))] [(.int (F1 w_V2 p1 u_firstLevel_w_V2))]))
          refine Rch.st (fun _ hr => XS.iload X75.here hx rfl (hb hby at_92) rfl hr) ?_
          show Rch p.tables e below _ (T75.setTop (mkF m 94 #[.val (.int p0), .val (.int p1), .val (.int ((p0 &&& (2147483647 : Int32)) % (3 : Int32))), .val (.ref w_V2), .val (.int (3 : Int32)), .val (.int (0 : Int32))] [(.int (0 : Int32)), (.int (F1 w_V2 p1 u_firstLevel_w_V2))]))
          by_cases hc76 : (F1 w_V2 p1 u_firstLevel_w_V2) = (0 : Int32)
          · refine Rch.st (fun _ hr => XS.icmpNo X75.here hx rfl (hb hby at_94) rfl (teq hc76).2 hr) ?_
            show Rch p.tables e below _ (T75.setTop (mkF m 97 #[.val (.int p0), .val (.int p1), .val (.int ((p0 &&& (2147483647 : Int32)) % (3 : Int32))), .val (.ref w_V2), .val (.int (3 : Int32)), .val (.int (0 : Int32))] []))
            refine Rch.st (fun _ hr => XS.iconst X75.here hx rfl (hb hby at_97) hr) ?_
            show Rch p.tables e below _ (T75.setTop (mkF m 98 #[.val (.int p0), .val (.int p1), .val (.int ((p0 &&& (2147483647 : Int32)) % (3 : Int32))), .val (.ref w_V2), .val (.int (3 : Int32)), .val (.int (0 : Int32))] [(.int (1 : Int32))]))
            refine Rch.st (fun _ hr => XS.goto X75.here hx rfl (pc0 := 98) (pc' := 102) rfl (hb hby at_98) (by decide) (by decide) hr) ?_
            show Rch p.tables e below _ (T75.setTop (mkF m 102 #[.val (.int p0), .val (.int p1), .val (.int ((p0 &&& (2147483647 : Int32)) % (3 : Int32))), .val (.ref w_V2), .val (.int (3 : Int32)), .val (.int (0 : Int32))] [(.int (1 : Int32))]))
            obtain ⟨fs, hr, hrun, hended, hW, hsame⟩ := X75.leave (v := some (.int (1 : Int32))) (fun h => by rw [Bd.returns] at h; cases h)
            refine Rch.fin (u := T75.setFrames fs) (retN X75 hx (t := .boolean) Bd.returns (by simp) (hb hby at_102) hr) ⟨_, hrun, hended, _, _, rfl, ⟨?_, N75, e75⟩, ⟨_, rfl⟩, hW, hsame.mono (by decide) (by decide)⟩
            rw [show F0 p0 p1 w_V1 u_firstLevel_w_V1 w_V2 u_firstLevel_w_V2 w_V3 u_firstLevel_w_V3 = (1 : Int32) from by unfold F0; rw [if_neg hc1, if_pos hc42, if_neg hc44, if_pos hc74, if_pos hc76]]
          · refine Rch.st (fun _ hr => XS.icmpYes X75.here hx rfl (pc0 := 94) (pc' := 101) rfl (hb hby at_94) rfl (feq hc76).2 (by decide) (by decide) hr) ?_
            show Rch p.tables e below _ (T75.setTop (mkF m 101 #[.val (.int p0), .val (.int p1), .val (.int ((p0 &&& (2147483647 : Int32)) % (3 : Int32))), .val (.ref w_V2), .val (.int (3 : Int32)), .val (.int (0 : Int32))] []))
            refine Rch.st (fun _ hr => XS.iconst X75.here hx rfl (hb hby at_101) hr) ?_
            show Rch p.tables e below _ (T75.setTop (mkF m 102 #[.val (.int p0), .val (.int p1), .val (.int ((p0 &&& (2147483647 : Int32)) % (3 : Int32))), .val (.ref w_V2), .val (.int (3 : Int32)), .val (.int (0 : Int32))] [(.int (0 : Int32))]))
            obtain ⟨fs, hr, hrun, hended, hW, hsame⟩ := X75.leave (v := some (.int (0 : Int32))) (fun h => by rw [Bd.returns] at h; cases h)
            refine Rch.fin (u := T75.setFrames fs) (retN X75 hx (t := .boolean) Bd.returns (by simp) (hb hby at_102) hr) ⟨_, hrun, hended, _, _, rfl, ⟨?_, N75, e75⟩, ⟨_, rfl⟩, hW, hsame.mono (by decide) (by decide)⟩
            rw [show F0 p0 p1 w_V1 u_firstLevel_w_V1 w_V2 u_firstLevel_w_V2 w_V3 u_firstLevel_w_V3 = (0 : Int32) from by unfold F0; rw [if_neg hc1, if_pos hc42, if_neg hc44, if_pos hc74, if_neg hc76]]
        · refine Rch.st (fun _ hr => XS.icmpNo X43.here hx rfl (hb hby at_77) rfl (flt hc74).2.2.1 hr) ?_
          show Rch p.tables e below _ (T43.setTop (mkF m 80 #[.val (.int p0), .val (.int p1), .val (.int ((p0 &&& (2147483647 : Int32)) % (3 : Int32))), .val (.ref w_V2), .val (.int (3 : Int32)), .unset] []))
          refine Rch.st (fun _ hr => XS.iconst X43.here hx rfl (hb hby at_80) hr) ?_
          show Rch p.tables e below _ (T43.setTop (mkF m 81 #[.val (.int p0), .val (.int p1), .val (.int ((p0 &&& (2147483647 : Int32)) % (3 : Int32))), .val (.ref w_V2), .val (.int (3 : Int32)), .unset] [(.int (1 : Int32))]))
          refine Rch.st (fun _ hr => XS.goto X43.here hx rfl (pc0 := 81) (pc' := 85) rfl (hb hby at_81) (by decide) (by decide) hr) ?_
          show Rch p.tables e below _ (T43.setTop (mkF m 85 #[.val (.int p0), .val (.int p1), .val (.int ((p0 &&& (2147483647 : Int32)) % (3 : Int32))), .val (.ref w_V2), .val (.int (3 : Int32)), .unset] [(.int (1 : Int32))]))
          refine Rch.st (fun _ hr => XS.istore X43.here hx rfl (hb hby at_85) rfl (l' := #[.val (.int p0), .val (.int p1), .val (.int ((p0 &&& (2147483647 : Int32)) % (3 : Int32))), .val (.ref w_V2), .val (.int (3 : Int32)), .val (.int (1 : Int32))]) rfl hr) ?_
          show Rch p.tables e below _ (T43.setTop (mkF m 87 #[.val (.int p0), .val (.int p1), .val (.int ((p0 &&& (2147483647 : Int32)) % (3 : Int32))), .val (.ref w_V2), .val (.int (3 : Int32)), .val (.int (1 : Int32))] []))
          refine Rch.st (fun _ hr => XS.aloadN X43.here hx rfl (hb hby at_87) rfl rfl hr) ?_
          show Rch p.tables e below _ (T43.setTop (mkF m 88 #[.val (.int p0), .val (.int p1), .val (.int ((p0 &&& (2147483647 : Int32)) % (3 : Int32))), .val (.ref w_V2), .val (.int (3 : Int32)), .val (.int (1 : Int32))] [(.ref w_V2)]))
          refine Rch.st (fun _ hr => XS.iloadN X43.here hx rfl (hb hby at_88) rfl hr) ?_
          show Rch p.tables e below _ (T43.setTop (mkF m 89 #[.val (.int p0), .val (.int p1), .val (.int ((p0 &&& (2147483647 : Int32)) % (3 : Int32))), .val (.ref w_V2), .val (.int (3 : Int32)), .val (.int (1 : Int32))] [(.int p1), (.ref w_V2)]))
          obtain ⟨cq79, kq79, q79a, q79b, q79c⟩ := isOf hZ e43 E_w_V2
          obtain ⟨_, _, ⟨T79, L79, k79, n79⟩, -, X79, ⟨Lc79, hQ79, l79, y79, z79⟩, st79⟩ := X43.virtualBack hx (y := (⟨"com/example/hangar_deck/hangardeck/apk/SignatureScheme", "isReadAt", "(I)Z"⟩ : MethodName)) (z := (⟨"com/example/hangar_deck/hangardeck/apk/SignatureScheme", "isReadAt", "(I)Z"⟩ : MethodName)) hown (mvT hZ (own_w hw 4 rfl)) (mvT hZ (own_w hw 5 rfl)) (notFace_of_selects (args := #[]) (mvT hZ (own_w hw 7 rfl))) (mvT hZ (own_w hw 7 rfl)) (mvT hZ (own_w hw 6 rfl)) (by decide) (backOf (W := 0) (b1 l Z a0 hw [] w_V2 p1 u_firstLevel_w_V2 h0 n0 H_u_firstLevel_w_V2) hZ (own_w hw 8 rfl) (own_w hw 2 rfl) (by decide) (by decide)) q79a q79c (g := (mkF m 89 #[.val (.int p0), .val (.int p1), .val (.int ((p0 &&& (2147483647 : Int32)) % (3 : Int32))), .val (.ref w_V2), .val (.int (3 : Int32)), .val (.int (1 : Int32))] [(.int p1), (.ref w_V2)])) rfl (by rw [hml]; rfl) (Steps.refl _) (argsL := [(.int p1)]) (rest := []) (lenOf pd_0 rfl) rfl (by show 2 * 0 + _ ≤ _; exact Nat.le_of_eq rfl) (hb hby at_89) (fun _ _ => ⟨rfl, e43, (by decide : 0 + 0 ≤ _), (by decide : 0 + 0 ≤ _)⟩)
          dsimp only [Pt.U, Pt.locs, Pt.cells, Pt.slots] at X79 l79 y79 z79 st79 hQ79
          subst l79 y79 z79
          obtain ⟨rfl, N79q, e79⟩ := hQ79
          have N79 := Fr.app N0 N79q
          refine Rch.tr st79 ?_
          show Rch p.tables e below _ (T79.setTop (mkF m 92 #[.val (.int p0), .val (.int p1), .val (.int ((p0 &&& (2147483647 : Int32)) % (3 : Int32))), .val (.ref w_V2), .val (.int (3 : Int32)), .val (.int (1 : Int32))] [(.int (F1 w_V2 p1 u_firstLevel_w_V2))]))
          refine Rch.st (fun _ hr => XS.iload X79.here hx rfl (hb hby at_92) rfl hr) ?_
          show Rch p.tables e below _ (T79.setTop (mkF m 94 #[.val (.int p0), .val (.int p1), .val (.int ((p0 &&& (2147483647 : Int32)) % (3 : Int32))), .val (.ref w_V2), .val (.int (3 : Int32)), .val (.int (1 : Int32))] [(.int (1 : Int32)), (.int (F1 w_V2 p1 u_firstLevel_w_V2))]))
          by_cases hc80 : (F1 w_V2 p1 u_firstLevel_w_V2) = (1 : Int32)
          · refine Rch.st (fun _ hr => XS.icmpNo X79.here hx rfl (hb hby at_94) rfl (teq hc80).2 hr) ?_
            show Rch p.tables e below _ (T79.setTop (mkF m 97 #[.val (.int p0), .val (.int p1), .val (.int ((p0 &&& (2147483647 : Int32)) % (3 : Int32))), .val (.ref w_V2), .val (.int (3 : Int32)), .val (.int (1 : Int32))] []))
            refine Rch.st (fun _ hr => XS.iconst X79.here hx rfl (hb hby at_97) hr) ?_
            show Rch p.tables e below _ (T79.setTop (mkF m 98 #[.val (.int p0), .val (.int p1), .val (.int ((p0 &&& (2147483647 : Int32)) % (3 : Int32))), .val (.ref w_V2), .val (.int (3 : Int32)), .val (.int (1 : Int32))] [(.int (1 : Int32))]))
            refine Rch.st (fun _ hr => XS.goto X79.here hx rfl (pc0 := 98) (pc' := 102) rfl (hb hby at_98) (by decide) (by decide) hr) ?_
            show Rch p.tables e below _ (T79.setTop (mkF m 102 #[.val (.int p0), .val (.int p1), .val (.int ((p0 &&& (2147483647 : Int32)) % (3 : Int32))), .val (.ref w_V2), .val (.int (3 : Int32)), .val (.int (1 : Int32))] [(.int (1 : Int32))]))
            obtain ⟨fs, hr, hrun, hended, hW, hsame⟩ := X79.leave (v := some (.int (1 : Int32))) (fun h => by rw [Bd.returns] at h; cases h)
            refine Rch.fin (u := T79.setFrames fs) (retN X79 hx (t := .boolean) Bd.returns (by simp) (hb hby at_102) hr) ⟨_, hrun, hended, _, _, rfl, ⟨?_, N79, e79⟩, ⟨_, rfl⟩, hW, hsame.mono (by decide) (by decide)⟩
            rw [show F0 p0 p1 w_V1 u_firstLevel_w_V1 w_V2 u_firstLevel_w_V2 w_V3 u_firstLevel_w_V3 = (1 : Int32) from by unfold F0; rw [if_neg hc1, if_pos hc42, if_neg hc44, if_neg hc74, if_pos hc80]]
          · refine Rch.st (fun _ hr => XS.icmpYes X79.here hx rfl (pc0 := 94) (pc' := 101) rfl (hb hby at_94) rfl (feq hc80).2 (by decide) (by decide) hr) ?_
            show Rch p.tables e below _ (T79.setTop (mkF m 101 #[.val (.int p0), .val (.int p1), .val (.int ((p0 &&& (2147483647 : Int32)) % (3 : Int32))), .val (.ref w_V2), .val (.int (3 : Int32)), .val (.int (1 : Int32))] []))
            refine Rch.st (fun _ hr => XS.iconst X79.here hx rfl (hb hby at_101) hr) ?_
            show Rch p.tables e below _ (T79.setTop (mkF m 102 #[.val (.int p0), .val (.int p1), .val (.int ((p0 &&& (2147483647 : Int32)) % (3 : Int32))), .val (.ref w_V2), .val (.int (3 : Int32)), .val (.int (1 : Int32))] [(.int (0 : Int32))]))
            obtain ⟨fs, hr, hrun, hended, hW, hsame⟩ := X79.leave (v := some (.int (0 : Int32))) (fun h => by rw [Bd.returns] at h; cases h)
            refine Rch.fin (u := T79.setFrames fs) (retN X79 hx (t := .boolean) Bd.returns (by simp) (hb hby at_102) hr) ⟨_, hrun, hended, _, _, rfl, ⟨?_, N79, e79⟩, ⟨_, rfl⟩, hW, hsame.mono (by decide) (by decide)⟩
            rw [show F0 p0 p1 w_V1 u_firstLevel_w_V1 w_V2 u_firstLevel_w_V2 w_V3 u_firstLevel_w_V3 = (0 : Int32) from by unfold F0; rw [if_neg hc1, if_pos hc42, if_neg hc44, if_neg hc74, if_neg hc80]]
    · refine Rch.st (fun _ hr => XS.icmpYes X0.here hx rfl (pc0 := 20) (pc' := 30) rfl (hb hby at_20) rfl (feq hc42).2 (by decide) (by decide) hr) ?_
      show Rch p.tables e below _ (s₁.setTop (mkF m 30 #[.val (.int p0), .val (.int p1), .val (.int ((p0 &&& (2147483647 : Int32)) % (3 : Int32))), .unset, .unset, .unset] []))
      obtain ⟨T83, X83, e83, st83⟩ := getS2 X0 hx hZ hown (host := "") (Or.inl (own_w hw 11 rfl)) Via.refl e0 H_w_V3 (g := (mkF m 30 #[.val (.int p0), .val (.int p1), .val (.int ((p0 &&& (2147483647 : Int32)) % (3 : Int32))), .unset, .unset, .unset] [])) rfl (hb hby at_30)
      refine Rch.st st83 ?_
      show Rch p.tables e below _ (T83.setTop (mkF m 33 #[.val (.int p0), .val (.int p1), .val (.int ((p0 &&& (2147483647 : Int32)) % (3 : Int32))), .unset, .unset, .unset] [(.ref w_V3)]))
      refine Rch.st (fun _ hr => XS.astoreN X83.here hx rfl (hb hby at_33) rfl rfl (l' := #[.val (.int p0), .val (.int p1), .val (.int ((p0 &&& (2147483647 : Int32)) % (3 : Int32))), .val (.ref w_V3), .unset, .unset]) rfl hr) ?_
      show Rch p.tables e below _ (T83.setTop (mkF m 34 #[.val (.int p0), .val (.int p1), .val (.int ((p0 &&& (2147483647 : Int32)) % (3 : Int32))), .val (.ref w_V3), .unset, .unset] []))
      refine Rch.st (fun _ hr => XS.iloadN X83.here hx rfl (hb hby at_34) rfl hr) ?_
      show Rch p.tables e below _ (T83.setTop (mkF m 35 #[.val (.int p0), .val (.int p1), .val (.int ((p0 &&& (2147483647 : Int32)) % (3 : Int32))), .val (.ref w_V3), .unset, .unset] [(.int p1)]))
      refine Rch.st (fun _ hr => XS.bipush X83.here hx rfl (hb hby at_35) hr) ?_
      show Rch p.tables e below _ (T83.setTop (mkF m 37 #[.val (.int p0), .val (.int p1), .val (.int ((p0 &&& (2147483647 : Int32)) % (3 : Int32))), .val (.ref w_V3), .unset, .unset] [(.int (28 : Int32)), (.int p1)]))
      by_cases hc84 : p1 < (28 : Int32)
      · refine Rch.st (fun _ hr => XS.icmpYes X83.here hx rfl (pc0 := 37) (pc' := 46) rfl (hb hby at_37) rfl (tlt hc84).1 (by decide) (by decide) hr) ?_
        show Rch p.tables e below _ (T83.setTop (mkF m 46 #[.val (.int p0), .val (.int p1), .val (.int ((p0 &&& (2147483647 : Int32)) % (3 : Int32))), .val (.ref w_V3), .unset, .unset] []))
        refine Rch.st (fun _ hr => XS.iloadN X83.here hx rfl (hb hby at_46) rfl hr) ?_
        show Rch p.tables e below _ (T83.setTop (mkF m 47 #[.val (.int p0), .val (.int p1), .val (.int ((p0 &&& (2147483647 : Int32)) % (3 : Int32))), .val (.ref w_V3), .unset, .unset] [(.int p1)]))
        refine Rch.st (fun _ hr => XS.bipush X83.here hx rfl (hb hby at_47) hr) ?_
        show Rch p.tables e below _ (T83.setTop (mkF m 49 #[.val (.int p0), .val (.int p1), .val (.int ((p0 &&& (2147483647 : Int32)) % (3 : Int32))), .val (.ref w_V3), .unset, .unset] [(.int (24 : Int32)), (.int p1)]))
        by_cases hc85 : p1 < (24 : Int32)
        · refine Rch.st (fun _ hr => XS.icmpYes X83.here hx rfl (pc0 := 49) (pc' := 58) rfl (hb hby at_49) rfl (tlt hc85).1 (by decide) (by decide) hr) ?_
          show Rch p.tables e below _ (T83.setTop (mkF m 58 #[.val (.int p0), .val (.int p1), .val (.int ((p0 &&& (2147483647 : Int32)) % (3 : Int32))), .val (.ref w_V3), .unset, .unset] []))
          refine Rch.st (fun _ hr => XS.iloadN X83.here hx rfl (hb hby at_58) rfl hr) ?_
          show Rch p.tables e below _ (T83.setTop (mkF m 59 #[.val (.int p0), .val (.int p1), .val (.int ((p0 &&& (2147483647 : Int32)) % (3 : Int32))), .val (.ref w_V3), .unset, .unset] [(.int p1)]))
          refine Rch.st (fun _ hr => XS.iconst X83.here hx rfl (hb hby at_59) hr) ?_
          show Rch p.tables e below _ (T83.setTop (mkF m 60 #[.val (.int p0), .val (.int p1), .val (.int ((p0 &&& (2147483647 : Int32)) % (3 : Int32))), .val (.ref w_V3), .unset, .unset] [(.int (1 : Int32)), (.int p1)]))
          by_cases hc86 : p1 < (1 : Int32)
          · refine Rch.st (fun _ hr => XS.icmpYes X83.here hx rfl (pc0 := 60) (pc' := 69) rfl (hb hby at_60) rfl (tlt hc86).1 (by decide) (by decide) hr) ?_
            show Rch p.tables e below _ (T83.setTop (mkF m 69 #[.val (.int p0), .val (.int p1), .val (.int ((p0 &&& (2147483647 : Int32)) % (3 : Int32))), .val (.ref w_V3), .unset, .unset] []))
            refine Rch.st (fun _ hr => XS.iconst X83.here hx rfl (hb hby at_69) hr) ?_
            show Rch p.tables e below _ (T83.setTop (mkF m 70 #[.val (.int p0), .val (.int p1), .val (.int ((p0 &&& (2147483647 : Int32)) % (3 : Int32))), .val (.ref w_V3), .unset, .unset] [(.int (0 : Int32))]))
            refine Rch.st (fun _ hr => XS.istore X83.here hx rfl (hb hby at_70) rfl (l' := #[.val (.int p0), .val (.int p1), .val (.int ((p0 &&& (2147483647 : Int32)) % (3 : Int32))), .val (.ref w_V3), .val (.int (0 : Int32)), .unset]) rfl hr) ?_
            show Rch p.tables e below _ (T83.setTop (mkF m 72 #[.val (.int p0), .val (.int p1), .val (.int ((p0 &&& (2147483647 : Int32)) % (3 : Int32))), .val (.ref w_V3), .val (.int (0 : Int32)), .unset] []))
            refine Rch.st (fun _ hr => XS.iloadN X83.here hx rfl (hb hby at_72) rfl hr) ?_
            show Rch p.tables e below _ (T83.setTop (mkF m 73 #[.val (.int p0), .val (.int p1), .val (.int ((p0 &&& (2147483647 : Int32)) % (3 : Int32))), .val (.ref w_V3), .val (.int (0 : Int32)), .unset] [(.int ((p0 &&& (2147483647 : Int32)) % (3 : Int32)))]))
            refine Rch.st (fun _ hr => XS.iconst X83.here hx rfl (hb hby at_73) hr) ?_
            show Rch p.tables e below _ (T83.setTop (mkF m 74 #[.val (.int p0), .val (.int p1), .val (.int ((p0 &&& (2147483647 : Int32)) % (3 : Int32))), .val (.ref w_V3), .val (.int (0 : Int32)), .unset] [(.int (1 : Int32)), (.int ((p0 &&& (2147483647 : Int32)) % (3 : Int32)))]))
            refine Rch.st (fun _ hr => XS.iadd X83.here hx rfl (hb hby at_74) rfl hr) ?_
            show Rch p.tables e below _ (T83.setTop (mkF m 75 #[.val (.int p0), .val (.int p1), .val (.int ((p0 &&& (2147483647 : Int32)) % (3 : Int32))), .val (.ref w_V3), .val (.int (0 : Int32)), .unset] [(.int (((p0 &&& (2147483647 : Int32)) % (3 : Int32)) + (1 : Int32)))]))
            refine Rch.st (fun _ hr => XS.iload X83.here hx rfl (hb hby at_75) rfl hr) ?_
            show Rch p.tables e below _ (T83.setTop (mkF m 77 #[.val (.int p0), .val (.int p1), .val (.int ((p0 &&& (2147483647 : Int32)) % (3 : Int32))), .val (.ref w_V3), .val (.int (0 : Int32)), .unset] [(.int (0 : Int32)), (.int (((p0 &&& (2147483647 : Int32)) % (3 : Int32)) + (1 : Int32)))]))
            by_cases hc87 : (0 : Int32) < (((p0 &&& (2147483647 : Int32)) % (3 : Int32)) + (1 : Int32))
            · refine Rch.st (fun _ hr => XS.icmpYes X83.here hx rfl (pc0 := 77) (pc' := 84) rfl (hb hby at_77) rfl (tlt hc87).2.2.1 (by decide) (by decide) hr) ?_
              show Rch p.tables e below _ (T83.setTop (mkF m 84 #[.val (.int p0), .val (.int p1), .val (.int ((p0 &&& (2147483647 : Int32)) % (3 : Int32))), .val (.ref w_V3), .val (.int (0 : Int32)), .unset] []))
              refine Rch.st (fun _ hr => XS.iconst X83.here hx rfl (hb hby at_84) hr) ?_
              show Rch p.tables e below _ (T83.setTop (mkF m 85 #[.val (.int p0), .val (.int p1), .val (.int ((p0 &&& (2147483647 : Int32)) % (3 : Int32))), .val (.ref w_V3), .val (.int (0 : Int32)), .unset] [(.int (0 : Int32))]))
              refine Rch.st (fun _ hr => XS.istore X83.here hx rfl (hb hby at_85) rfl (l' := #[.val (.int p0), .val (.int p1), .val (.int ((p0 &&& (2147483647 : Int32)) % (3 : Int32))), .val (.ref w_V3), .val (.int (0 : Int32)), .val (.int (0 : Int32))]) rfl hr) ?_
              show Rch p.tables e below _ (T83.setTop (mkF m 87 #[.val (.int p0), .val (.int p1), .val (.int ((p0 &&& (2147483647 : Int32)) % (3 : Int32))), .val (.ref w_V3), .val (.int (0 : Int32)), .val (.int (0 : Int32))] []))
              refine Rch.st (fun _ hr => XS.aloadN X83.here hx rfl (hb hby at_87) rfl rfl hr) ?_
              show Rch p.tables e below _ (T83.setTop (mkF m 88 #[.val (.int p0), .val (.int p1), .val (.int ((p0 &&& (2147483647 : Int32)) % (3 : Int32))), .val (.ref w_V3), .val (.int (0 : Int32)), .val (.int (0 : Int32))] [(.ref w_V3)]))
              refine Rch.st (fun _ hr => XS.iloadN X83.here hx rfl (hb hby at_88) rfl hr) ?_
              show Rch p.tables e below _ (T83.setTop (mkF m 89 #[.val (.int p0), .val (.int p1), .val (.int ((p0 &&& (2147483647 : Int32)) % (3 : Int32))), .val (.ref w_V3), .val (.int (0 : Int32)), .val (.int (0 : Int32))] [(.int p1), (.ref w_V3)]))
              obtain ⟨cq88, kq88, q88a, q88b, q88c⟩ := isOf hZ e83 E_w_V3
              obtain ⟨_, _, ⟨T88, L88, k88, n88⟩, -, X88, ⟨Lc88, hQ88, l88, y88, z88⟩, st88⟩ := X83.virtualBack hx (y := (⟨"com/example/hangar_deck/hangardeck/apk/SignatureScheme", "isReadAt", "(I)Z"⟩ : MethodName)) (z := (⟨"com/example/hangar_deck/hangardeck/apk/SignatureScheme", "isReadAt", "(I)Z"⟩ : MethodName)) hown (mvT hZ (own_w hw 4 rfl)) (mvT hZ (own_w hw 5 rfl)) (notFace_of_selects (args := #[]) (mvT hZ (own_w hw 7 rfl))) (mvT hZ (own_w hw 7 rfl)) (mvT hZ (own_w hw 6 rfl)) (by decide) (backOf (W := 0) (b1 l Z a0 hw [] w_V3 p1 u_firstLevel_w_V3 h0 n0 H_u_firstLevel_w_V3) hZ (own_w hw 8 rfl) (own_w hw 2 rfl) (by decide) (by decide)) q88a q88c (g := (mkF m 89 #[.val (.int p0), .val (.int p1), .val (.int ((p0 &&& (2147483647 : Int32)) % (3 : Int32))), .val (.ref w_V3), .val (.int (0 : Int32)), .val (.int (0 : Int32))] [(.int p1), (.ref w_V3)])) rfl (by rw [hml]; rfl) (Steps.refl _) (argsL := [(.int p1)]) (rest := []) (lenOf pd_0 rfl) rfl (by show 2 * 0 + _ ≤ _; exact Nat.le_of_eq rfl) (hb hby at_89) (fun _ _ => ⟨rfl, e83, (by decide : 0 + 0 ≤ _), (by decide : 0 + 0 ≤ _)⟩)
              dsimp only [Pt.U, Pt.locs, Pt.cells, Pt.slots] at X88 l88 y88 z88 st88 hQ88
              subst l88 y88 z88
              obtain ⟨rfl, N88q, e88⟩ := hQ88
              have N88 := Fr.app N0 N88q
              refine Rch.tr st88 ?_
              show Rch p.tables e below _ (T88.setTop (mkF m 92 #[.val (.int p0), .val (.int p1), .val (.int ((p0 &&& (2147483647 : Int32)) % (3 : Int32))), .val (.ref w_V3), .val (.int (0 : Int32)), .val (.int (0 : Int32))] [(.int (F1 w_V3 p1 u_firstLevel_w_V3))]))
              refine Rch.st (fun _ hr => XS.iload X88.here hx rfl (hb hby at_92) rfl hr) ?_
              show Rch p.tables e below _ (T88.setTop (mkF m 94 #[.val (.int p0), .val (.int p1), .val (.int ((p0 &&& (2147483647 : Int32)) % (3 : Int32))), .val (.ref w_V3), .val (.int (0 : Int32)), .val (.int (0 : Int32))] [(.int (0 : Int32)), (.int (F1 w_V3 p1 u_firstLevel_w_V3))]))
              by_cases hc89 : (F1 w_V3 p1 u_firstLevel_w_V3) = (0 : Int32)
              · refine Rch.st (fun _ hr => XS.icmpNo X88.here hx rfl (hb hby at_94) rfl (teq hc89).2 hr) ?_
                show Rch p.tables e below _ (T88.setTop (mkF m 97 #[.val (.int p0), .val (.int p1), .val (.int ((p0 &&& (2147483647 : Int32)) % (3 : Int32))), .val (.ref w_V3), .val (.int (0 : Int32)), .val (.int (0 : Int32))] []))
                refine Rch.st (fun _ hr => XS.iconst X88.here hx rfl (hb hby at_97) hr) ?_
                show Rch p.tables e below _ (T88.setTop (mkF m 98 #[.val (.int p0), .val (.int p1), .val (.int ((p0 &&& (2147483647 : Int32)) % (3 : Int32))), .val (.ref w_V3), .val (.int (0 : Int32)), .val (.int (0 : Int32))] [(.int (1 : Int32))]))
                refine Rch.st (fun _ hr => XS.goto X88.here hx rfl (pc0 := 98) (pc' := 102) rfl (hb hby at_98) (by decide) (by decide) hr) ?_
                show Rch p.tables e below _ (T88.setTop (mkF m 102 #[.val (.int p0), .val (.int p1), .val (.int ((p0 &&& (2147483647 : Int32)) % (3 : Int32))), .val (.ref w_V3), .val (.int (0 : Int32)), .val (.int (0 : Int32))] [(.int (1 : Int32))]))
                obtain ⟨fs, hr, hrun, hended, hW, hsame⟩ := X88.leave (v := some (.int (1 : Int32))) (fun h => by rw [Bd.returns] at h; cases h)
                refine Rch.fin (u := T88.setFrames fs) (retN X88 hx (t := .boolean) Bd.returns (by simp) (hb hby at_102) hr) ⟨_, hrun, hended, _, _, rfl, ⟨?_, N88, e88⟩, ⟨_, rfl⟩, hW, hsame.mono (by decide) (by decide)⟩
                rw [show F0 p0 p1 w_V1 u_firstLevel_w_V1 w_V2 u_firstLevel_w_V2 w_V3 u_firstLevel_w_V3 = (1 : Int32) from by unfold F0; rw [if_neg hc1, if_neg hc42, if_pos hc84, if_pos hc85, if_pos hc86, if_pos hc87, if_pos hc89]]
              · refine Rch.st (fun _ hr => XS.icmpYes X88.here hx rfl (pc0 := 94) (pc' := 101) rfl (hb hby at_94) rfl (feq hc89).2 (by decide) (by decide) hr) ?_
                show Rch p.tables e below _ (T88.setTop (mkF m 101 #[.val (.int p0), .val (.int p1), .val (.int ((p0 &&& (2147483647 : Int32)) % (3 : Int32))), .val (.ref w_V3), .val (.int (0 : Int32)), .val (.int (0 : Int32))] []))
                refine Rch.st (fun _ hr => XS.iconst X88.here hx rfl (hb hby at_101) hr) ?_
                show Rch p.tables e below _ (T88.setTop (mkF m 102 #[.val (.int p0), .val (.int p1), .val (.int ((p0 &&& (2147483647 : Int32)) % (3 : Int32))), .val (.ref w_V3), .val (.int (0 : Int32)), .val (.int (0 : Int32))] [(.int (0 : Int32))]))
                obtain ⟨fs, hr, hrun, hended, hW, hsame⟩ := X88.leave (v := some (.int (0 : Int32))) (fun h => by rw [Bd.returns] at h; cases h)
                refine Rch.fin (u := T88.setFrames fs) (retN X88 hx (t := .boolean) Bd.returns (by simp) (hb hby at_102) hr) ⟨_, hrun, hended, _, _, rfl, ⟨?_, N88, e88⟩, ⟨_, rfl⟩, hW, hsame.mono (by decide) (by decide)⟩
                rw [show F0 p0 p1 w_V1 u_firstLevel_w_V1 w_V2 u_firstLevel_w_V2 w_V3 u_firstLevel_w_V3 = (0 : Int32) from by unfold F0; rw [if_neg hc1, if_neg hc42, if_pos hc84, if_pos hc85, if_pos hc86, if_pos hc87, if_neg hc89]]
            · refine Rch.st (fun _ hr => XS.icmpNo X83.here hx rfl (hb hby at_77) rfl (flt hc87).2.2.1 hr) ?_
              show Rch p.tables e below _ (T83.setTop (mkF m 80 #[.val (.int p0), .val (.int p1), .val (.int ((p0 &&& (2147483647 : Int32)) % (3 : Int32))), .val (.ref w_V3), .val (.int (0 : Int32)), .unset] []))
              refine Rch.st (fun _ hr => XS.iconst X83.here hx rfl (hb hby at_80) hr) ?_
              show Rch p.tables e below _ (T83.setTop (mkF m 81 #[.val (.int p0), .val (.int p1), .val (.int ((p0 &&& (2147483647 : Int32)) % (3 : Int32))), .val (.ref w_V3), .val (.int (0 : Int32)), .unset] [(.int (1 : Int32))]))
              refine Rch.st (fun _ hr => XS.goto X83.here hx rfl (pc0 := 81) (pc' := 85) rfl (hb hby at_81) (by decide) (by decide) hr) ?_
              show Rch p.tables e below _ (T83.setTop (mkF m 85 #[.val (.int p0), .val (.int p1), .val (.int ((p0 &&& (2147483647 : Int32)) % (3 : Int32))), .val (.ref w_V3), .val (.int (0 : Int32)), .unset] [(.int (1 : Int32))]))
              refine Rch.st (fun _ hr => XS.istore X83.here hx rfl (hb hby at_85) rfl (l' := #[.val (.int p0), .val (.int p1), .val (.int ((p0 &&& (2147483647 : Int32)) % (3 : Int32))), .val (.ref w_V3), .val (.int (0 : Int32)), .val (.int (1 : Int32))]) rfl hr) ?_
              show Rch p.tables e below _ (T83.setTop (mkF m 87 #[.val (.int p0), .val (.int p1), .val (.int ((p0 &&& (2147483647 : Int32)) % (3 : Int32))), .val (.ref w_V3), .val (.int (0 : Int32)), .val (.int (1 : Int32))] []))
              refine Rch.st (fun _ hr => XS.aloadN X83.here hx rfl (hb hby at_87) rfl rfl hr) ?_
              show Rch p.tables e below _ (T83.setTop (mkF m 88 #[.val (.int p0), .val (.int p1), .val (.int ((p0 &&& (2147483647 : Int32)) % (3 : Int32))), .val (.ref w_V3), .val (.int (0 : Int32)), .val (.int (1 : Int32))] [(.ref w_V3)]))
              refine Rch.st (fun _ hr => XS.iloadN X83.here hx rfl (hb hby at_88) rfl hr) ?_
              show Rch p.tables e below _ (T83.setTop (mkF m 89 #[.val (.int p0), .val (.int p1), .val (.int ((p0 &&& (2147483647 : Int32)) % (3 : Int32))), .val (.ref w_V3), .val (.int (0 : Int32)), .val (.int (1 : Int32))] [(.int p1), (.ref w_V3)]))
              obtain ⟨cq92, kq92, q92a, q92b, q92c⟩ := isOf hZ e83 E_w_V3
              obtain ⟨_, _, ⟨T92, L92, k92, n92⟩, -, X92, ⟨Lc92, hQ92, l92, y92, z92⟩, st92⟩ := X83.virtualBack hx (y := (⟨"com/example/hangar_deck/hangardeck/apk/SignatureScheme", "isReadAt", "(I)Z"⟩ : MethodName)) (z := (⟨"com/example/hangar_deck/hangardeck/apk/SignatureScheme", "isReadAt", "(I)Z"⟩ : MethodName)) hown (mvT hZ (own_w hw 4 rfl)) (mvT hZ (own_w hw 5 rfl)) (notFace_of_selects (args := #[]) (mvT hZ (own_w hw 7 rfl))) (mvT hZ (own_w hw 7 rfl)) (mvT hZ (own_w hw 6 rfl)) (by decide) (backOf (W := 0) (b1 l Z a0 hw [] w_V3 p1 u_firstLevel_w_V3 h0 n0 H_u_firstLevel_w_V3) hZ (own_w hw 8 rfl) (own_w hw 2 rfl) (by decide) (by decide)) q92a q92c (g := (mkF m 89 #[.val (.int p0), .val (.int p1), .val (.int ((p0 &&& (2147483647 : Int32)) % (3 : Int32))), .val (.ref w_V3), .val (.int (0 : Int32)), .val (.int (1 : Int32))] [(.int p1), (.ref w_V3)])) rfl (by rw [hml]; rfl) (Steps.refl _) (argsL := [(.int p1)]) (rest := []) (lenOf pd_0 rfl) rfl (by show 2 * 0 + _ ≤ _; exact Nat.le_of_eq rfl) (hb hby at_89) (fun _ _ => ⟨rfl, e83, (by decide : 0 + 0 ≤ _), (by decide : 0 + 0 ≤ _)⟩)
              dsimp only [Pt.U, Pt.locs, Pt.cells, Pt.slots] at X92 l92 y92 z92 st92 hQ92
              subst l92 y92 z92
              obtain ⟨rfl, N92q, e92⟩ := hQ92
              have N92 := Fr.app N0 N92q
              refine Rch.tr st92 ?_
              show Rch p.tables e below _ (T92.setTop (mkF m 92 #[.val (.int p0), .val (.int p1), .val (.int ((p0 &&& (2147483647 : Int32)) % (3 : Int32))), .val (.ref w_V3), .val (.int (0 : Int32)), .val (.int (1 : Int32))] [(.int (F1 w_V3 p1 u_firstLevel_w_V3))]))
              refine Rch.st (fun _ hr => XS.iload X92.here hx rfl (hb hby at_92) rfl hr) ?_
              show Rch p.tables e below _ (T92.setTop (mkF m 94 #[.val (.int p0), .val (.int p1), .val (.int ((p0 &&& (2147483647 : Int32)) % (3 : Int32))), .val (.ref w_V3), .val (.int (0 : Int32)), .val (.int (1 : Int32))] [(.int (1 : Int32)), (.int (F1 w_V3 p1 u_firstLevel_w_V3))]))
              by_cases hc93 : (F1 w_V3 p1 u_firstLevel_w_V3) = (1 : Int32)
              · refine Rch.st (fun _ hr => XS.icmpNo X92.here hx rfl (hb hby at_94) rfl (teq hc93).2 hr) ?_
                show Rch p.tables e below _ (T92.setTop (mkF m 97 #[.val (.int p0), .val (.int p1), .val (.int ((p0 &&& (2147483647 : Int32)) % (3 : Int32))), .val (.ref w_V3), .val (.int (0 : Int32)), .val (.int (1 : Int32))] []))
                refine Rch.st (fun _ hr => XS.iconst X92.here hx rfl (hb hby at_97) hr) ?_
                show Rch p.tables e below _ (T92.setTop (mkF m 98 #[.val (.int p0), .val (.int p1), .val (.int ((p0 &&& (2147483647 : Int32)) % (3 : Int32))), .val (.ref w_V3), .val (.int (0 : Int32)), .val (.int (1 : Int32))] [(.int (1 : Int32))]))
                refine Rch.st (fun _ hr => XS.goto X92.here hx rfl (pc0 := 98) (pc' := 102) rfl (hb hby at_98) (by decide) (by decide) hr) ?_
                show Rch p.tables e below _ (T92.setTop (mkF m 102 #[.val (.int p0), .val (.int p1), .val (.int ((p0 &&& (2147483647 : Int32)) % (3 : Int32))), .val (.ref w_V3), .val (.int (0 : Int32)), .val (.int (1 : Int32))] [(.int (1 : Int32))]))
                obtain ⟨fs, hr, hrun, hended, hW, hsame⟩ := X92.leave (v := some (.int (1 : Int32))) (fun h => by rw [Bd.returns] at h; cases h)
                refine Rch.fin (u := T92.setFrames fs) (retN X92 hx (t := .boolean) Bd.returns (by simp) (hb hby at_102) hr) ⟨_, hrun, hended, _, _, rfl, ⟨?_, N92, e92⟩, ⟨_, rfl⟩, hW, hsame.mono (by decide) (by decide)⟩
                rw [show F0 p0 p1 w_V1 u_firstLevel_w_V1 w_V2 u_firstLevel_w_V2 w_V3 u_firstLevel_w_V3 = (1 : Int32) from by unfold F0; rw [if_neg hc1, if_neg hc42, if_pos hc84, if_pos hc85, if_pos hc86, if_neg hc87, if_pos hc93]]
              · refine Rch.st (fun _ hr => XS.icmpYes X92.here hx rfl (pc0 := 94) (pc' := 101) rfl (hb hby at_94) rfl (feq hc93).2 (by decide) (by decide) hr) ?_
                show Rch p.tables e below _ (T92.setTop (mkF m 101 #[.val (.int p0), .val (.int p1), .val (.int ((p0 &&& (2147483647 : Int32)) % (3 : Int32))), .val (.ref w_V3), .val (.int (0 : Int32)), .val (.int (1 : Int32))] []))
                refine Rch.st (fun _ hr => XS.iconst X92.here hx rfl (hb hby at_101) hr) ?_
                show Rch p.tables e below _ (T92.setTop (mkF m 102 #[.val (.int p0), .val (.int p1), .val (.int ((p0 &&& (2147483647 : Int32)) % (3 : Int32))), .val (.ref w_V3), .val (.int (0 : Int32)), .val (.int (1 : Int32))] [(.int (0 : Int32))]))
                obtain ⟨fs, hr, hrun, hended, hW, hsame⟩ := X92.leave (v := some (.int (0 : Int32))) (fun h => by rw [Bd.returns] at h; cases h)
                refine Rch.fin (u := T92.setFrames fs) (retN X92 hx (t := .boolean) Bd.returns (by simp) (hb hby at_102) hr) ⟨_, hrun, hended, _, _, rfl, ⟨?_, N92, e92⟩, ⟨_, rfl⟩, hW, hsame.mono (by decide) (by decide)⟩
                rw [show F0 p0 p1 w_V1 u_firstLevel_w_V1 w_V2 u_firstLevel_w_V2 w_V3 u_firstLevel_w_V3 = (0 : Int32) from by unfold F0; rw [if_neg hc1, if_neg hc42, if_pos hc84, if_pos hc85, if_pos hc86, if_neg hc87, if_neg hc93]]
          · refine Rch.st (fun _ hr => XS.icmpNo X83.here hx rfl (hb hby at_60) rfl (flt hc86).1 hr) ?_
            show Rch p.tables e below _ (T83.setTop (mkF m 63 #[.val (.int p0), .val (.int p1), .val (.int ((p0 &&& (2147483647 : Int32)) % (3 : Int32))), .val (.ref w_V3), .unset, .unset] []))
            refine Rch.st (fun _ hr => XS.iconst X83.here hx rfl (hb hby at_63) hr) ?_
            show Rch p.tables e below _ (T83.setTop (mkF m 64 #[.val (.int p0), .val (.int p1), .val (.int ((p0 &&& (2147483647 : Int32)) % (3 : Int32))), .val (.ref w_V3), .unset, .unset] [(.int (1 : Int32))]))
            refine Rch.st (fun _ hr => XS.istore X83.here hx rfl (hb hby at_64) rfl (l' := #[.val (.int p0), .val (.int p1), .val (.int ((p0 &&& (2147483647 : Int32)) % (3 : Int32))), .val (.ref w_V3), .val (.int (1 : Int32)), .unset]) rfl hr) ?_
            show Rch p.tables e below _ (T83.setTop (mkF m 66 #[.val (.int p0), .val (.int p1), .val (.int ((p0 &&& (2147483647 : Int32)) % (3 : Int32))), .val (.ref w_V3), .val (.int (1 : Int32)), .unset] []))
            refine Rch.st (fun _ hr => XS.goto X83.here hx rfl (pc0 := 66) (pc' := 72) rfl (hb hby at_66) (by decide) (by decide) hr) ?_
            show Rch p.tables e below _ (T83.setTop (mkF m 72 #[.val (.int p0), .val (.int p1), .val (.int ((p0 &&& (2147483647 : Int32)) % (3 : Int32))), .val (.ref w_V3), .val (.int (1 : Int32)), .unset] []))
            refine Rch.st (fun _ hr => XS.iloadN X83.here hx rfl (hb hby at_72) rfl hr) ?_
            show Rch p.tables e below _ (T83.setTop (mkF m 73 #[.val (.int p0), .val (.int p1), .val (.int ((p0 &&& (2147483647 : Int32)) % (3 : Int32))), .val (.ref w_V3), .val (.int (1 : Int32)), .unset] [(.int ((p0 &&& (2147483647 : Int32)) % (3 : Int32)))]))
            refine Rch.st (fun _ hr => XS.iconst X83.here hx rfl (hb hby at_73) hr) ?_
            show Rch p.tables e below _ (T83.setTop (mkF m 74 #[.val (.int p0), .val (.int p1), .val (.int ((p0 &&& (2147483647 : Int32)) % (3 : Int32))), .val (.ref w_V3), .val (.int (1 : Int32)), .unset] [(.int (1 : Int32)), (.int ((p0 &&& (2147483647 : Int32)) % (3 : Int32)))]))
            refine Rch.st (fun _ hr => XS.iadd X83.here hx rfl (hb hby at_74) rfl hr) ?_
            show Rch p.tables e below _ (T83.setTop (mkF m 75 #[.val (.int p0), .val (.int p1), .val (.int ((p0 &&& (2147483647 : Int32)) % (3 : Int32))), .val (.ref w_V3), .val (.int (1 : Int32)), .unset] [(.int (((p0 &&& (2147483647 : Int32)) % (3 : Int32)) + (1 : Int32)))]))
            refine Rch.st (fun _ hr => XS.iload X83.here hx rfl (hb hby at_75) rfl hr) ?_
            show Rch p.tables e below _ (T83.setTop (mkF m 77 #[.val (.int p0), .val (.int p1), .val (.int ((p0 &&& (2147483647 : Int32)) % (3 : Int32))), .val (.ref w_V3), .val (.int (1 : Int32)), .unset] [(.int (1 : Int32)), (.int (((p0 &&& (2147483647 : Int32)) % (3 : Int32)) + (1 : Int32)))]))
            by_cases hc96 : (1 : Int32) < (((p0 &&& (2147483647 : Int32)) % (3 : Int32)) + (1 : Int32))
            · refine Rch.st (fun _ hr => XS.icmpYes X83.here hx rfl (pc0 := 77) (pc' := 84) rfl (hb hby at_77) rfl (tlt hc96).2.2.1 (by decide) (by decide) hr) ?_
              show Rch p.tables e below _ (T83.setTop (mkF m 84 #[.val (.int p0), .val (.int p1), .val (.int ((p0 &&& (2147483647 : Int32)) % (3 : Int32))), .val (.ref w_V3), .val (.int (1 : Int32)), .unset] []))
              refine Rch.st (fun _ hr => XS.iconst X83.here hx rfl (hb hby at_84) hr) ?_
              show Rch p.tables e below _ (T83.setTop (mkF m 85 #[.val (.int p0), .val (.int p1), .val (.int ((p0 &&& (2147483647 : Int32)) % (3 : Int32))), .val (.ref w_V3), .val (.int (1 : Int32)), .unset] [(.int (0 : Int32))]))
              refine Rch.st (fun _ hr => XS.istore X83.here hx rfl (hb hby at_85) rfl (l' := #[.val (.int p0), .val (.int p1), .val (.int ((p0 &&& (2147483647 : Int32)) % (3 : Int32))), .val (.ref w_V3), .val (.int (1 : Int32)), .val (.int (0 : Int32))]) rfl hr) ?_
              show Rch p.tables e below _ (T83.setTop (mkF m 87 #[.val (.int p0), .val (.int p1), .val (.int ((p0 &&& (2147483647 : Int32)) % (3 : Int32))), .val (.ref w_V3), .val (.int (1 : Int32)), .val (.int (0 : Int32))] []))
              refine Rch.st (fun _ hr => XS.aloadN X83.here hx rfl (hb hby at_87) rfl rfl hr) ?_
              show Rch p.tables e below _ (T83.setTop (mkF m 88 #[.val (.int p0), .val (.int p1), .val (.int ((p0 &&& (2147483647 : Int32)) % (3 : Int32))), .val (.ref w_V3), .val (.int (1 : Int32)), .val (.int (0 : Int32))] [(.ref w_V3)]))
              refine Rch.st (fun _ hr => XS.iloadN X83.here hx rfl (hb hby at_88) rfl hr) ?_
              show Rch p.tables e below _ (T83.setTop (mkF m 89 #[.val (.int p0), .val (.int p1), .val (.int ((p0 &&& (2147483647 : Int32)) % (3 : Int32))), .val (.ref w_V3), .val (.int (1 : Int32)), .val (.int (0 : Int32))] [(.int p1), (.ref w_V3)]))
              obtain ⟨cq97, kq97, q97a, q97b, q97c⟩ := isOf hZ e83 E_w_V3
              obtain ⟨_, _, ⟨T97, L97, k97, n97⟩, -, X97, ⟨Lc97, hQ97, l97, y97, z97⟩, st97⟩ := X83.virtualBack hx (y := (⟨"com/example/hangar_deck/hangardeck/apk/SignatureScheme", "isReadAt", "(I)Z"⟩ : MethodName)) (z := (⟨"com/example/hangar_deck/hangardeck/apk/SignatureScheme", "isReadAt", "(I)Z"⟩ : MethodName)) hown (mvT hZ (own_w hw 4 rfl)) (mvT hZ (own_w hw 5 rfl)) (notFace_of_selects (args := #[]) (mvT hZ (own_w hw 7 rfl))) (mvT hZ (own_w hw 7 rfl)) (mvT hZ (own_w hw 6 rfl)) (by decide) (backOf (W := 0) (b1 l Z a0 hw [] w_V3 p1 u_firstLevel_w_V3 h0 n0 H_u_firstLevel_w_V3) hZ (own_w hw 8 rfl) (own_w hw 2 rfl) (by decide) (by decide)) q97a q97c (g := (mkF m 89 #[.val (.int p0), .val (.int p1), .val (.int ((p0 &&& (2147483647 : Int32)) % (3 : Int32))), .val (.ref w_V3), .val (.int (1 : Int32)), .val (.int (0 : Int32))] [(.int p1), (.ref w_V3)])) rfl (by rw [hml]; rfl) (Steps.refl _) (argsL := [(.int p1)]) (rest := []) (lenOf pd_0 rfl) rfl (by show 2 * 0 + _ ≤ _; exact Nat.le_of_eq rfl) (hb hby at_89) (fun _ _ => ⟨rfl, e83, (by decide : 0 + 0 ≤ _), (by decide : 0 + 0 ≤ _)⟩)
              dsimp only [Pt.U, Pt.locs, Pt.cells, Pt.slots] at X97 l97 y97 z97 st97 hQ97
              subst l97 y97 z97
              obtain ⟨rfl, N97q, e97⟩ := hQ97
              have N97 := Fr.app N0 N97q
              refine Rch.tr st97 ?_
              show Rch p.tables e below _ (T97.setTop (mkF m 92 #[.val (.int p0), .val (.int p1), .val (.int ((p0 &&& (2147483647 : Int32)) % (3 : Int32))), .val (.ref w_V3), .val (.int (1 : Int32)), .val (.int (0 : Int32))] [(.int (F1 w_V3 p1 u_firstLevel_w_V3))]))
              refine Rch.st (fun _ hr => XS.iload X97.here hx rfl (hb hby at_92) rfl hr) ?_
              show Rch p.tables e below _ (T97.setTop (mkF m 94 #[.val (.int p0), .val (.int p1), .val (.int ((p0 &&& (2147483647 : Int32)) % (3 : Int32))), .val (.ref w_V3), .val (.int (1 : Int32)), .val (.int (0 : Int32))] [(.int (0 : Int32)), (.int (F1 w_V3 p1 u_firstLevel_w_V3))]))
              by_cases hc98 : (F1 w_V3 p1 u_firstLevel_w_V3) = (0 : Int32)
              · refine Rch.st (fun _ hr => XS.icmpNo X97.here hx rfl (hb hby at_94) rfl (teq hc98).2 hr) ?_
                show Rch p.tables e below _ (T97.setTop (mkF m 97 #[.val (.int p0), .val (.int p1), .val (.int ((p0 &&& (2147483647 : Int32)) % (3 : Int32))), .val (.ref w_V3), .val (.int (1 : Int32)), .val (.int (0 : Int32))] []))
                refine Rch.st (fun _ hr => XS.iconst X97.here hx rfl (hb hby at_97) hr) ?_
                show Rch p.tables e below _ (T97.setTop (mkF m 98 #[.val (.int p0), .val (.int p1), .val (.int ((p0 &&& (2147483647 : Int32)) % (3 : Int32))), .val (.ref w_V3), .val (.int (1 : Int32)), .val (.int (0 : Int32))] [(.int (1 : Int32))]))
                refine Rch.st (fun _ hr => XS.goto X97.here hx rfl (pc0 := 98) (pc' := 102) rfl (hb hby at_98) (by decide) (by decide) hr) ?_
                show Rch p.tables e below _ (T97.setTop (mkF m 102 #[.val (.int p0), .val (.int p1), .val (.int ((p0 &&& (2147483647 : Int32)) % (3 : Int32))), .val (.ref w_V3), .val (.int (1 : Int32)), .val (.int (0 : Int32))] [(.int (1 : Int32))]))
                obtain ⟨fs, hr, hrun, hended, hW, hsame⟩ := X97.leave (v := some (.int (1 : Int32))) (fun h => by rw [Bd.returns] at h; cases h)
                refine Rch.fin (u := T97.setFrames fs) (retN X97 hx (t := .boolean) Bd.returns (by simp) (hb hby at_102) hr) ⟨_, hrun, hended, _, _, rfl, ⟨?_, N97, e97⟩, ⟨_, rfl⟩, hW, hsame.mono (by decide) (by decide)⟩
                rw [show F0 p0 p1 w_V1 u_firstLevel_w_V1 w_V2 u_firstLevel_w_V2 w_V3 u_firstLevel_w_V3 = (1 : Int32) from by unfold F0; rw [if_neg hc1, if_neg hc42, if_pos hc84, if_pos hc85, if_neg hc86, if_pos hc96, if_pos hc98]]
              · refine Rch.st (fun _ hr => XS.icmpYes X97.here hx rfl (pc0 := 94) (pc' := 101) rfl (hb hby at_94) rfl (feq hc98).2 (by decide) (by decide) hr) ?_
                show Rch p.tables e below _ (T97.setTop (mkF m 101 #[.val (.int p0), .val (.int p1), .val (.int ((p0 &&& (2147483647 : Int32)) % (3 : Int32))), .val (.ref w_V3), .val (.int (1 : Int32)), .val (.int (0 : Int32))] []))
                refine Rch.st (fun _ hr => XS.iconst X97.here hx rfl (hb hby at_101) hr) ?_
                show Rch p.tables e below _ (T97.setTop (mkF m 102 #[.val (.int p0), .val (.int p1), .val (.int ((p0 &&& (2147483647 : Int32)) % (3 : Int32))), .val (.ref w_V3), .val (.int (1 : Int32)), .val (.int (0 : Int32))] [(.int (0 : Int32))]))
                obtain ⟨fs, hr, hrun, hended, hW, hsame⟩ := X97.leave (v := some (.int (0 : Int32))) (fun h => by rw [Bd.returns] at h; cases h)
                refine Rch.fin (u := T97.setFrames fs) (retN X97 hx (t := .boolean) Bd.returns (by simp) (hb hby at_102) hr) ⟨_, hrun, hended, _, _, rfl, ⟨?_, N97, e97⟩, ⟨_, rfl⟩, hW, hsame.mono (by decide) (by decide)⟩
                rw [show F0 p0 p1 w_V1 u_firstLevel_w_V1 w_V2 u_firstLevel_w_V2 w_V3 u_firstLevel_w_V3 = (0 : Int32) from by unfold F0; rw [if_neg hc1, if_neg hc42, if_pos hc84, if_pos hc85, if_neg hc86, if_pos hc96, if_neg hc98]]
            · refine Rch.st (fun _ hr => XS.icmpNo X83.here hx rfl (hb hby at_77) rfl (flt hc96).2.2.1 hr) ?_
              show Rch p.tables e below _ (T83.setTop (mkF m 80 #[.val (.int p0), .val (.int p1), .val (.int ((p0 &&& (2147483647 : Int32)) % (3 : Int32))), .val (.ref w_V3), .val (.int (1 : Int32)), .unset] []))
              refine Rch.st (fun _ hr => XS.iconst X83.here hx rfl (hb hby at_80) hr) ?_
              show Rch p.tables e below _ (T83.setTop (mkF m 81 #[.val (.int p0), .val (.int p1), .val (.int ((p0 &&& (2147483647 : Int32)) % (3 : Int32))), .val (.ref w_V3), .val (.int (1 : Int32)), .unset] [(.int (1 : Int32))]))
              refine Rch.st (fun _ hr => XS.goto X83.here hx rfl (pc0 := 81) (pc' := 85) rfl (hb hby at_81) (by decide) (by decide) hr) ?_
              show Rch p.tables e below _ (T83.setTop (mkF m 85 #[.val (.int p0), .val (.int p1), .val (.int ((p0 &&& (2147483647 : Int32)) % (3 : Int32))), .val (.ref w_V3), .val (.int (1 : Int32)), .unset] [(.int (1 : Int32))]))
              refine Rch.st (fun _ hr => XS.istore X83.here hx rfl (hb hby at_85) rfl (l' := #[.val (.int p0), .val (.int p1), .val (.int ((p0 &&& (2147483647 : Int32)) % (3 : Int32))), .val (.ref w_V3), .val (.int (1 : Int32)), .val (.int (1 : Int32))]) rfl hr) ?_
              show Rch p.tables e below _ (T83.setTop (mkF m 87 #[.val (.int p0), .val (.int p1), .val (.int ((p0 &&& (2147483647 : Int32)) % (3 : Int32))), .val (.ref w_V3), .val (.int (1 : Int32)), .val (.int (1 : Int32))] []))
              refine Rch.st (fun _ hr => XS.aloadN X83.here hx rfl (hb hby at_87) rfl rfl hr) ?_
              show Rch p.tables e below _ (T83.setTop (mkF m 88 #[.val (.int p0), .val (.int p1), .val (.int ((p0 &&& (2147483647 : Int32)) % (3 : Int32))), .val (.ref w_V3), .val (.int (1 : Int32)), .val (.int (1 : Int32))] [(.ref w_V3)]))
              refine Rch.st (fun _ hr => XS.iloadN X83.here hx rfl (hb hby at_88) rfl hr) ?_
              show Rch p.tables e below _ (T83.setTop (mkF m 89 #[.val (.int p0), .val (.int p1), .val (.int ((p0 &&& (2147483647 : Int32)) % (3 : Int32))), .val (.ref w_V3), .val (.int (1 : Int32)), .val (.int (1 : Int32))] [(.int p1), (.ref w_V3)]))
              obtain ⟨cq101, kq101, q101a, q101b, q101c⟩ := isOf hZ e83 E_w_V3
              obtain ⟨_, _, ⟨T101, L101, k101, n101⟩, -, X101, ⟨Lc101, hQ101, l101, y101, z101⟩, st101⟩ := X83.virtualBack hx (y := (⟨"com/example/hangar_deck/hangardeck/apk/SignatureScheme", "isReadAt", "(I)Z"⟩ : MethodName)) (z := (⟨"com/example/hangar_deck/hangardeck/apk/SignatureScheme", "isReadAt", "(I)Z"⟩ : MethodName)) hown (mvT hZ (own_w hw 4 rfl)) (mvT hZ (own_w hw 5 rfl)) (notFace_of_selects (args := #[]) (mvT hZ (own_w hw 7 rfl))) (mvT hZ (own_w hw 7 rfl)) (mvT hZ (own_w hw 6 rfl)) (by decide) (backOf (W := 0) (b1 l Z a0 hw [] w_V3 p1 u_firstLevel_w_V3 h0 n0 H_u_firstLevel_w_V3) hZ (own_w hw 8 rfl) (own_w hw 2 rfl) (by decide) (by decide)) q101a q101c (g := (mkF m 89 #[.val (.int p0), .val (.int p1), .val (.int ((p0 &&& (2147483647 : Int32)) % (3 : Int32))), .val (.ref w_V3), .val (.int (1 : Int32)), .val (.int (1 : Int32))] [(.int p1), (.ref w_V3)])) rfl (by rw [hml]; rfl) (Steps.refl _) (argsL := [(.int p1)]) (rest := []) (lenOf pd_0 rfl) rfl (by show 2 * 0 + _ ≤ _; exact Nat.le_of_eq rfl) (hb hby at_89) (fun _ _ => ⟨rfl, e83, (by decide : 0 + 0 ≤ _), (by decide : 0 + 0 ≤ _)⟩)
              dsimp only [Pt.U, Pt.locs, Pt.cells, Pt.slots] at X101 l101 y101 z101 st101 hQ101
              subst l101 y101 z101
              obtain ⟨rfl, N101q, e101⟩ := hQ101
              have N101 := Fr.app N0 N101q
              refine Rch.tr st101 ?_
              show Rch p.tables e below _ (T101.setTop (mkF m 92 #[.val (.int p0), .val (.int p1), .val (.int ((p0 &&& (2147483647 : Int32)) % (3 : Int32))), .val (.ref w_V3), .val (.int (1 : Int32)), .val (.int (1 : Int32))] [(.int (F1 w_V3 p1 u_firstLevel_w_V3))]))
              refine Rch.st (fun _ hr => XS.iload X101.here hx rfl (hb hby at_92) rfl hr) ?_
              show Rch p.tables e below _ (T101.setTop (mkF m 94 #[.val (.int p0), .val (.int p1), .val (.int ((p0 &&& (2147483647 : Int32)) % (3 : Int32))), .val (.ref w_V3), .val (.int (1 : Int32)), .val (.int (1 : Int32))] [(.int (1 : Int32)), (.int (F1 w_V3 p1 u_firstLevel_w_V3))]))
              by_cases hc102 : (F1 w_V3 p1 u_firstLevel_w_V3) = (1 : Int32)
              · refine Rch.st (fun _ hr => XS.icmpNo X101.here hx rfl (hb hby at_94) rfl (teq hc102).2 hr) ?_
                show Rch p.tables e below _ (T101.setTop (mkF m 97 #[.val (.int p0), .val (.int p1), .val (.int ((p0 &&& (2147483647 : Int32)) % (3 : Int32))), .val (.ref w_V3), .val (.int (1 : Int32)), .val (.int (1 : Int32))] []))
                refine Rch.st (fun _ hr => XS.iconst X101.here hx rfl (hb hby at_97) hr) ?_
                show Rch p.tables e below _ (T101.setTop (mkF m 98 #[.val (.int p0), .val (.int p1), .val (.int ((p0 &&& (2147483647 : Int32)) % (3 : Int32))), .val (.ref w_V3), .val (.int (1 : Int32)), .val (.int (1 : Int32))] [(.int (1 : Int32))]))
                refine Rch.st (fun _ hr => XS.goto X101.here hx rfl (pc0 := 98) (pc' := 102) rfl (hb hby at_98) (by decide) (by decide) hr) ?_
                show Rch p.tables e below _ (T101.setTop (mkF m 102 #[.val (.int p0), .val (.int p1), .val (.int ((p0 &&& (2147483647 : Int32)) % (3 : Int32))), .val (.ref w_V3), .val (.int (1 : Int32)), .val (.int (1 : Int32))] [(.int (1 : Int32))]))
                obtain ⟨fs, hr, hrun, hended, hW, hsame⟩ := X101.leave (v := some (.int (1 : Int32))) (fun h => by rw [Bd.returns] at h; cases h)
                refine Rch.fin (u := T101.setFrames fs) (retN X101 hx (t := .boolean) Bd.returns (by simp) (hb hby at_102) hr) ⟨_, hrun, hended, _, _, rfl, ⟨?_, N101, e101⟩, ⟨_, rfl⟩, hW, hsame.mono (by decide) (by decide)⟩
                rw [show F0 p0 p1 w_V1 u_firstLevel_w_V1 w_V2 u_firstLevel_w_V2 w_V3 u_firstLevel_w_V3 = (1 : Int32) from by unfold F0; rw [if_neg hc1, if_neg hc42, if_pos hc84, if_pos hc85, if_neg hc86, if_neg hc96, if_pos hc102]]
              · refine Rch.st (fun _ hr => XS.icmpYes X101.here hx rfl (pc0 := 94) (pc' := 101) rfl (hb hby at_94) rfl (feq hc102).2 (by decide) (by decide) hr) ?_
                show Rch p.tables e below _ (T101.setTop (mkF m 101 #[.val (.int p0), .val (.int p1), .val (.int ((p0 &&& (2147483647 : Int32)) % (3 : Int32))), .val (.ref w_V3), .val (.int (1 : Int32)), .val (.int (1 : Int32))] []))
                refine Rch.st (fun _ hr => XS.iconst X101.here hx rfl (hb hby at_101) hr) ?_
                show Rch p.tables e below _ (T101.setTop (mkF m 102 #[.val (.int p0), .val (.int p1), .val (.int ((p0 &&& (2147483647 : Int32)) % (3 : Int32))), .val (.ref w_V3), .val (.int (1 : Int32)), .val (.int (1 : Int32))] [(.int (0 : Int32))]))
                obtain ⟨fs, hr, hrun, hended, hW, hsame⟩ := X101.leave (v := some (.int (0 : Int32))) (fun h => by rw [Bd.returns] at h; cases h)
                refine Rch.fin (u := T101.setFrames fs) (retN X101 hx (t := .boolean) Bd.returns (by simp) (hb hby at_102) hr) ⟨_, hrun, hended, _, _, rfl, ⟨?_, N101, e101⟩, ⟨_, rfl⟩, hW, hsame.mono (by decide) (by decide)⟩
                rw [show F0 p0 p1 w_V1 u_firstLevel_w_V1 w_V2 u_firstLevel_w_V2 w_V3 u_firstLevel_w_V3 = (0 : Int32) from by unfold F0; rw [if_neg hc1, if_neg hc42, if_pos hc84, if_pos hc85, if_neg hc86, if_neg hc96, if_neg hc102]]
        · refine Rch.st (fun _ hr => XS.icmpNo X83.here hx rfl (hb hby at_49) rfl (flt hc85).1 hr) ?_
          show Rch p.tables e below _ (T83.setTop (mkF m 52 #[.val (.int p0), .val (.int p1), .val (.int ((p0 &&& (2147483647 : Int32)) % (3 : Int32))), .val (.ref w_V3), .unset, .unset] []))
          refine Rch.st (fun _ hr => XS.iconst X83.here hx rfl (hb hby at_52) hr) ?_
          show Rch p.tables e below _ (T83.setTop (mkF m 53 #[.val (.int p0), .val (.int p1), .val (.int ((p0 &&& (2147483647 : Int32)) % (3 : Int32))), .val (.ref w_V3), .unset, .unset] [(.int (2 : Int32))]))
          refine Rch.st (fun _ hr => XS.istore X83.here hx rfl (hb hby at_53) rfl (l' := #[.val (.int p0), .val (.int p1), .val (.int ((p0 &&& (2147483647 : Int32)) % (3 : Int32))), .val (.ref w_V3), .val (.int (2 : Int32)), .unset]) rfl hr) ?_
          show Rch p.tables e below _ (T83.setTop (mkF m 55 #[.val (.int p0), .val (.int p1), .val (.int ((p0 &&& (2147483647 : Int32)) % (3 : Int32))), .val (.ref w_V3), .val (.int (2 : Int32)), .unset] []))
          refine Rch.st (fun _ hr => XS.goto X83.here hx rfl (pc0 := 55) (pc' := 72) rfl (hb hby at_55) (by decide) (by decide) hr) ?_
          show Rch p.tables e below _ (T83.setTop (mkF m 72 #[.val (.int p0), .val (.int p1), .val (.int ((p0 &&& (2147483647 : Int32)) % (3 : Int32))), .val (.ref w_V3), .val (.int (2 : Int32)), .unset] []))
          refine Rch.st (fun _ hr => XS.iloadN X83.here hx rfl (hb hby at_72) rfl hr) ?_
          show Rch p.tables e below _ (T83.setTop (mkF m 73 #[.val (.int p0), .val (.int p1), .val (.int ((p0 &&& (2147483647 : Int32)) % (3 : Int32))), .val (.ref w_V3), .val (.int (2 : Int32)), .unset] [(.int ((p0 &&& (2147483647 : Int32)) % (3 : Int32)))]))
          refine Rch.st (fun _ hr => XS.iconst X83.here hx rfl (hb hby at_73) hr) ?_
          show Rch p.tables e below _ (T83.setTop (mkF m 74 #[.val (.int p0), .val (.int p1), .val (.int ((p0 &&& (2147483647 : Int32)) % (3 : Int32))), .val (.ref w_V3), .val (.int (2 : Int32)), .unset] [(.int (1 : Int32)), (.int ((p0 &&& (2147483647 : Int32)) % (3 : Int32)))]))
          refine Rch.st (fun _ hr => XS.iadd X83.here hx rfl (hb hby at_74) rfl hr) ?_
          show Rch p.tables e below _ (T83.setTop (mkF m 75 #[.val (.int p0), .val (.int p1), .val (.int ((p0 &&& (2147483647 : Int32)) % (3 : Int32))), .val (.ref w_V3), .val (.int (2 : Int32)), .unset] [(.int (((p0 &&& (2147483647 : Int32)) % (3 : Int32)) + (1 : Int32)))]))
          refine Rch.st (fun _ hr => XS.iload X83.here hx rfl (hb hby at_75) rfl hr) ?_
          show Rch p.tables e below _ (T83.setTop (mkF m 77 #[.val (.int p0), .val (.int p1), .val (.int ((p0 &&& (2147483647 : Int32)) % (3 : Int32))), .val (.ref w_V3), .val (.int (2 : Int32)), .unset] [(.int (2 : Int32)), (.int (((p0 &&& (2147483647 : Int32)) % (3 : Int32)) + (1 : Int32)))]))
          by_cases hc105 : (2 : Int32) < (((p0 &&& (2147483647 : Int32)) % (3 : Int32)) + (1 : Int32))
          · refine Rch.st (fun _ hr => XS.icmpYes X83.here hx rfl (pc0 := 77) (pc' := 84) rfl (hb hby at_77) rfl (tlt hc105).2.2.1 (by decide) (by decide) hr) ?_
            show Rch p.tables e below _ (T83.setTop (mkF m 84 #[.val (.int p0), .val (.int p1), .val (.int ((p0 &&& (2147483647 : Int32)) % (3 : Int32))), .val (.ref w_V3), .val (.int (2 : Int32)), .unset] []))
            refine Rch.st (fun _ hr => XS.iconst X83.here hx rfl (hb hby at_84) hr) ?_
            show Rch p.tables e below _ (T83.setTop (mkF m 85 #[.val (.int p0), .val (.int p1), .val (.int ((p0 &&& (2147483647 : Int32)) % (3 : Int32))), .val (.ref w_V3), .val (.int (2 : Int32)), .unset] [(.int (0 : Int32))]))
            refine Rch.st (fun _ hr => XS.istore X83.here hx rfl (hb hby at_85) rfl (l' := #[.val (.int p0), .val (.int p1), .val (.int ((p0 &&& (2147483647 : Int32)) % (3 : Int32))), .val (.ref w_V3), .val (.int (2 : Int32)), .val (.int (0 : Int32))]) rfl hr) ?_
            show Rch p.tables e below _ (T83.setTop (mkF m 87 #[.val (.int p0), .val (.int p1), .val (.int ((p0 &&& (2147483647 : Int32)) % (3 : Int32))), .val (.ref w_V3), .val (.int (2 : Int32)), .val (.int (0 : Int32))] []))
            refine Rch.st (fun _ hr => XS.aloadN X83.here hx rfl (hb hby at_87) rfl rfl hr) ?_
            show Rch p.tables e below _ (T83.setTop (mkF m 88 #[.val (.int p0), .val (.int p1), .val (.int ((p0 &&& (2147483647 : Int32)) % (3 : Int32))), .val (.ref w_V3), .val (.int (2 : Int32)), .val (.int (0 : Int32))] [(.ref w_V3)]))
            refine Rch.st (fun _ hr => XS.iloadN X83.here hx rfl (hb hby at_88) rfl hr) ?_
            show Rch p.tables e below _ (T83.setTop (mkF m 89 #[.val (.int p0), .val (.int p1), .val (.int ((p0 &&& (2147483647 : Int32)) % (3 : Int32))), .val (.ref w_V3), .val (.int (2 : Int32)), .val (.int (0 : Int32))] [(.int p1), (.ref w_V3)]))
            obtain ⟨cq106, kq106, q106a, q106b, q106c⟩ := isOf hZ e83 E_w_V3
            obtain ⟨_, _, ⟨T106, L106, k106, n106⟩, -, X106, ⟨Lc106, hQ106, l106, y106, z106⟩, st106⟩ := X83.virtualBack hx (y := (⟨"com/example/hangar_deck/hangardeck/apk/SignatureScheme", "isReadAt", "(I)Z"⟩ : MethodName)) (z := (⟨"com/example/hangar_deck/hangardeck/apk/SignatureScheme", "isReadAt", "(I)Z"⟩ : MethodName)) hown (mvT hZ (own_w hw 4 rfl)) (mvT hZ (own_w hw 5 rfl)) (notFace_of_selects (args := #[]) (mvT hZ (own_w hw 7 rfl))) (mvT hZ (own_w hw 7 rfl)) (mvT hZ (own_w hw 6 rfl)) (by decide) (backOf (W := 0) (b1 l Z a0 hw [] w_V3 p1 u_firstLevel_w_V3 h0 n0 H_u_firstLevel_w_V3) hZ (own_w hw 8 rfl) (own_w hw 2 rfl) (by decide) (by decide)) q106a q106c (g := (mkF m 89 #[.val (.int p0), .val (.int p1), .val (.int ((p0 &&& (2147483647 : Int32)) % (3 : Int32))), .val (.ref w_V3), .val (.int (2 : Int32)), .val (.int (0 : Int32))] [(.int p1), (.ref w_V3)])) rfl (by rw [hml]; rfl) (Steps.refl _) (argsL := [(.int p1)]) (rest := []) (lenOf pd_0 rfl) rfl (by show 2 * 0 + _ ≤ _; exact Nat.le_of_eq rfl) (hb hby at_89) (fun _ _ => ⟨rfl, e83, (by decide : 0 + 0 ≤ _), (by decide : 0 + 0 ≤ _)⟩)
            dsimp only [Pt.U, Pt.locs, Pt.cells, Pt.slots] at X106 l106 y106 z106 st106 hQ106
            subst l106 y106 z106
            obtain ⟨rfl, N106q, e106⟩ := hQ106
            have N106 := Fr.app N0 N106q
            refine Rch.tr st106 ?_
            show Rch p.tables e below _ (T106.setTop (mkF m 92 #[.val (.int p0), .val (.int p1), .val (.int ((p0 &&& (2147483647 : Int32)) % (3 : Int32))), .val (.ref w_V3), .val (.int (2 : Int32)), .val (.int (0 : Int32))] [(.int (F1 w_V3 p1 u_firstLevel_w_V3))]))
            refine Rch.st (fun _ hr => XS.iload X106.here hx rfl (hb hby at_92) rfl hr) ?_
            show Rch p.tables e below _ (T106.setTop (mkF m 94 #[.val (.int p0), .val (.int p1), .val (.int ((p0 &&& (2147483647 : Int32)) % (3 : Int32))), .val (.ref w_V3), .val (.int (2 : Int32)), .val (.int (0 : Int32))] [(.int (0 : Int32)), (.int (F1 w_V3 p1 u_firstLevel_w_V3))]))
            by_cases hc107 : (F1 w_V3 p1 u_firstLevel_w_V3) = (0 : Int32)
            · refine Rch.st (fun _ hr => XS.icmpNo X106.here hx rfl (hb hby at_94) rfl (teq hc107).2 hr) ?_
              show Rch p.tables e below _ (T106.setTop (mkF m 97 #[.val (.int p0), .val (.int p1), .val (.int ((p0 &&& (2147483647 : Int32)) % (3 : Int32))), .val (.ref w_V3), .val (.int (2 : Int32)), .val (.int (0 : Int32))] []))
              refine Rch.st (fun _ hr => XS.iconst X106.here hx rfl (hb hby at_97) hr) ?_
              show Rch p.tables e below _ (T106.setTop (mkF m 98 #[.val (.int p0), .val (.int p1), .val (.int ((p0 &&& (2147483647 : Int32)) % (3 : Int32))), .val (.ref w_V3), .val (.int (2 : Int32)), .val (.int (0 : Int32))] [(.int (1 : Int32))]))
              refine Rch.st (fun _ hr => XS.goto X106.here hx rfl (pc0 := 98) (pc' := 102) rfl (hb hby at_98) (by decide) (by decide) hr) ?_
              show Rch p.tables e below _ (T106.setTop (mkF m 102 #[.val (.int p0), .val (.int p1), .val (.int ((p0 &&& (2147483647 : Int32)) % (3 : Int32))), .val (.ref w_V3), .val (.int (2 : Int32)), .val (.int (0 : Int32))] [(.int (1 : Int32))]))
              obtain ⟨fs, hr, hrun, hended, hW, hsame⟩ := X106.leave (v := some (.int (1 : Int32))) (fun h => by rw [Bd.returns] at h; cases h)
              refine Rch.fin (u := T106.setFrames fs) (retN X106 hx (t := .boolean) Bd.returns (by simp) (hb hby at_102) hr) ⟨_, hrun, hended, _, _, rfl, ⟨?_, N106, e106⟩, ⟨_, rfl⟩, hW, hsame.mono (by decide) (by decide)⟩
              rw [show F0 p0 p1 w_V1 u_firstLevel_w_V1 w_V2 u_firstLevel_w_V2 w_V3 u_firstLevel_w_V3 = (1 : Int32) from by unfold F0; rw [if_neg hc1, if_neg hc42, if_pos hc84, if_neg hc85, if_pos hc105, if_pos hc107]]
            · refine Rch.st (fun _ hr => XS.icmpYes X106.here hx rfl (pc0 := 94) (pc' := 101) rfl (hb hby at_94) rfl (feq hc107).2 (by decide) (by decide) hr) ?_
              show Rch p.tables e below _ (T106.setTop (mkF m 101 #[.val (.int p0), .val (.int p1), .val (.int ((p0 &&& (2147483647 : Int32)) % (3 : Int32))), .val (.ref w_V3), .val (.int (2 : Int32)), .val (.int (0 : Int32))] []))
              refine Rch.st (fun _ hr => XS.iconst X106.here hx rfl (hb hby at_101) hr) ?_
              show Rch p.tables e below _ (T106.setTop (mkF m 102 #[.val (.int p0), .val (.int p1), .val (.int ((p0 &&& (2147483647 : Int32)) % (3 : Int32))), .val (.ref w_V3), .val (.int (2 : Int32)), .val (.int (0 : Int32))] [(.int (0 : Int32))]))
              obtain ⟨fs, hr, hrun, hended, hW, hsame⟩ := X106.leave (v := some (.int (0 : Int32))) (fun h => by rw [Bd.returns] at h; cases h)
              refine Rch.fin (u := T106.setFrames fs) (retN X106 hx (t := .boolean) Bd.returns (by simp) (hb hby at_102) hr) ⟨_, hrun, hended, _, _, rfl, ⟨?_, N106, e106⟩, ⟨_, rfl⟩, hW, hsame.mono (by decide) (by decide)⟩
              rw [show F0 p0 p1 w_V1 u_firstLevel_w_V1 w_V2 u_firstLevel_w_V2 w_V3 u_firstLevel_w_V3 = (0 : Int32) from by unfold F0; rw [if_neg hc1, if_neg hc42, if_pos hc84, if_neg hc85, if_pos hc105, if_neg hc107]]
          · refine Rch.st (fun _ hr => XS.icmpNo X83.here hx rfl (hb hby at_77) rfl (flt hc105).2.2.1 hr) ?_
            show Rch p.tables e below _ (T83.setTop (mkF m 80 #[.val (.int p0), .val (.int p1), .val (.int ((p0 &&& (2147483647 : Int32)) % (3 : Int32))), .val (.ref w_V3), .val (.int (2 : Int32)), .unset] []))
            refine Rch.st (fun _ hr => XS.iconst X83.here hx rfl (hb hby at_80) hr) ?_
            show Rch p.tables e below _ (T83.setTop (mkF m 81 #[.val (.int p0), .val (.int p1), .val (.int ((p0 &&& (2147483647 : Int32)) % (3 : Int32))), .val (.ref w_V3), .val (.int (2 : Int32)), .unset] [(.int (1 : Int32))]))
            refine Rch.st (fun _ hr => XS.goto X83.here hx rfl (pc0 := 81) (pc' := 85) rfl (hb hby at_81) (by decide) (by decide) hr) ?_
            show Rch p.tables e below _ (T83.setTop (mkF m 85 #[.val (.int p0), .val (.int p1), .val (.int ((p0 &&& (2147483647 : Int32)) % (3 : Int32))), .val (.ref w_V3), .val (.int (2 : Int32)), .unset] [(.int (1 : Int32))]))
            refine Rch.st (fun _ hr => XS.istore X83.here hx rfl (hb hby at_85) rfl (l' := #[.val (.int p0), .val (.int p1), .val (.int ((p0 &&& (2147483647 : Int32)) % (3 : Int32))), .val (.ref w_V3), .val (.int (2 : Int32)), .val (.int (1 : Int32))]) rfl hr) ?_
            show Rch p.tables e below _ (T83.setTop (mkF m 87 #[.val (.int p0), .val (.int p1), .val (.int ((p0 &&& (2147483647 : Int32)) % (3 : Int32))), .val (.ref w_V3), .val (.int (2 : Int32)), .val (.int (1 : Int32))] []))
            refine Rch.st (fun _ hr => XS.aloadN X83.here hx rfl (hb hby at_87) rfl rfl hr) ?_
            show Rch p.tables e below _ (T83.setTop (mkF m 88 #[.val (.int p0), .val (.int p1), .val (.int ((p0 &&& (2147483647 : Int32)) % (3 : Int32))), .val (.ref w_V3), .val (.int (2 : Int32)), .val (.int (1 : Int32))] [(.ref w_V3)]))
            refine Rch.st (fun _ hr => XS.iloadN X83.here hx rfl (hb hby at_88) rfl hr) ?_
            show Rch p.tables e below _ (T83.setTop (mkF m 89 #[.val (.int p0), .val (.int p1), .val (.int ((p0 &&& (2147483647 : Int32)) % (3 : Int32))), .val (.ref w_V3), .val (.int (2 : Int32)), .val (.int (1 : Int32))] [(.int p1), (.ref w_V3)]))
            obtain ⟨cq110, kq110, q110a, q110b, q110c⟩ := isOf hZ e83 E_w_V3
            obtain ⟨_, _, ⟨T110, L110, k110, n110⟩, -, X110, ⟨Lc110, hQ110, l110, y110, z110⟩, st110⟩ := X83.virtualBack hx (y := (⟨"com/example/hangar_deck/hangardeck/apk/SignatureScheme", "isReadAt", "(I)Z"⟩ : MethodName)) (z := (⟨"com/example/hangar_deck/hangardeck/apk/SignatureScheme", "isReadAt", "(I)Z"⟩ : MethodName)) hown (mvT hZ (own_w hw 4 rfl)) (mvT hZ (own_w hw 5 rfl)) (notFace_of_selects (args := #[]) (mvT hZ (own_w hw 7 rfl))) (mvT hZ (own_w hw 7 rfl)) (mvT hZ (own_w hw 6 rfl)) (by decide) (backOf (W := 0) (b1 l Z a0 hw [] w_V3 p1 u_firstLevel_w_V3 h0 n0 H_u_firstLevel_w_V3) hZ (own_w hw 8 rfl) (own_w hw 2 rfl) (by decide) (by decide)) q110a q110c (g := (mkF m 89 #[.val (.int p0), .val (.int p1), .val (.int ((p0 &&& (2147483647 : Int32)) % (3 : Int32))), .val (.ref w_V3), .val (.int (2 : Int32)), .val (.int (1 : Int32))] [(.int p1), (.ref w_V3)])) rfl (by rw [hml]; rfl) (Steps.refl _) (argsL := [(.int p1)]) (rest := []) (lenOf pd_0 rfl) rfl (by show 2 * 0 + _ ≤ _; exact Nat.le_of_eq rfl) (hb hby at_89) (fun _ _ => ⟨rfl, e83, (by decide : 0 + 0 ≤ _), (by decide : 0 + 0 ≤ _)⟩)
            dsimp only [Pt.U, Pt.locs, Pt.cells, Pt.slots] at X110 l110 y110 z110 st110 hQ110
            subst l110 y110 z110
            obtain ⟨rfl, N110q, e110⟩ := hQ110
            have N110 := Fr.app N0 N110q
            refine Rch.tr st110 ?_
            show Rch p.tables e below _ (T110.setTop (mkF m 92 #[.val (.int p0), .val (.int p1), .val (.int ((p0 &&& (2147483647 : Int32)) % (3 : Int32))), .val (.ref w_V3), .val (.int (2 : Int32)), .val (.int (1 : Int32))] [(.int (F1 w_V3 p1 u_firstLevel_w_V3))]))
            refine Rch.st (fun _ hr => XS.iload X110.here hx rfl (hb hby at_92) rfl hr) ?_
            show Rch p.tables e below _ (T110.setTop (mkF m 94 #[.val (.int p0), .val (.int p1), .val (.int ((p0 &&& (2147483647 : Int32)) % (3 : Int32))), .val (.ref w_V3), .val (.int (2 : Int32)), .val (.int (1 : Int32))] [(.int (1 : Int32)), (.int (F1 w_V3 p1 u_firstLevel_w_V3))]))
            by_cases hc111 : (F1 w_V3 p1 u_firstLevel_w_V3) = (1 : Int32)
            · refine Rch.st (fun _ hr => XS.icmpNo X110.here hx rfl (hb hby at_94) rfl (teq hc111).2 hr) ?_
              show Rch p.tables e below _ (T110.setTop (mkF m 97 #[.val (.int p0), .val (.int p1), .val (.int ((p0 &&& (2147483647 : Int32)) % (3 : Int32))), .val (.ref w_V3), .val (.int (2 : Int32)), .val (.int (1 : Int32))] []))
              refine Rch.st (fun _ hr => XS.iconst X110.here hx rfl (hb hby at_97) hr) ?_
              show Rch p.tables e below _ (T110.setTop (mkF m 98 #[.val (.int p0), .val (.int p1), .val (.int ((p0 &&& (2147483647 : Int32)) % (3 : Int32))), .val (.ref w_V3), .val (.int (2 : Int32)), .val (.int (1 : Int32))] [(.int (1 : Int32))]))
              refine Rch.st (fun _ hr => XS.goto X110.here hx rfl (pc0 := 98) (pc' := 102) rfl (hb hby at_98) (by decide) (by decide) hr) ?_
              show Rch p.tables e below _ (T110.setTop (mkF m 102 #[.val (.int p0), .val (.int p1), .val (.int ((p0 &&& (2147483647 : Int32)) % (3 : Int32))), .val (.ref w_V3), .val (.int (2 : Int32)), .val (.int (1 : Int32))] [(.int (1 : Int32))]))
              obtain ⟨fs, hr, hrun, hended, hW, hsame⟩ := X110.leave (v := some (.int (1 : Int32))) (fun h => by rw [Bd.returns] at h; cases h)
              refine Rch.fin (u := T110.setFrames fs) (retN X110 hx (t := .boolean) Bd.returns (by simp) (hb hby at_102) hr) ⟨_, hrun, hended, _, _, rfl, ⟨?_, N110, e110⟩, ⟨_, rfl⟩, hW, hsame.mono (by decide) (by decide)⟩
              rw [show F0 p0 p1 w_V1 u_firstLevel_w_V1 w_V2 u_firstLevel_w_V2 w_V3 u_firstLevel_w_V3 = (1 : Int32) from by unfold F0; rw [if_neg hc1, if_neg hc42, if_pos hc84, if_neg hc85, if_neg hc105, if_pos hc111]]
            · refine Rch.st (fun _ hr => XS.icmpYes X110.here hx rfl (pc0 := 94) (pc' := 101) rfl (hb hby at_94) rfl (feq hc111).2 (by decide) (by decide) hr) ?_
              show Rch p.tables e below _ (T110.setTop (mkF m 101 #[.val (.int p0), .val (.int p1), .val (.int ((p0 &&& (2147483647 : Int32)) % (3 : Int32))), .val (.ref w_V3), .val (.int (2 : Int32)), .val (.int (1 : Int32))] []))
              refine Rch.st (fun _ hr => XS.iconst X110.here hx rfl (hb hby at_101) hr) ?_
              show Rch p.tables e below _ (T110.setTop (mkF m 102 #[.val (.int p0), .val (.int p1), .val (.int ((p0 &&& (2147483647 : Int32)) % (3 : Int32))), .val (.ref w_V3), .val (.int (2 : Int32)), .val (.int (1 : Int32))] [(.int (0 : Int32))]))
              obtain ⟨fs, hr, hrun, hended, hW, hsame⟩ := X110.leave (v := some (.int (0 : Int32))) (fun h => by rw [Bd.returns] at h; cases h)
              refine Rch.fin (u := T110.setFrames fs) (retN X110 hx (t := .boolean) Bd.returns (by simp) (hb hby at_102) hr) ⟨_, hrun, hended, _, _, rfl, ⟨?_, N110, e110⟩, ⟨_, rfl⟩, hW, hsame.mono (by decide) (by decide)⟩
              rw [show F0 p0 p1 w_V1 u_firstLevel_w_V1 w_V2 u_firstLevel_w_V2 w_V3 u_firstLevel_w_V3 = (0 : Int32) from by unfold F0; rw [if_neg hc1, if_neg hc42, if_pos hc84, if_neg hc85, if_neg hc105, if_neg hc111]]
      · refine Rch.st (fun _ hr => XS.icmpNo X83.here hx rfl (hb hby at_37) rfl (flt hc84).1 hr) ?_
        show Rch p.tables e below _ (T83.setTop (mkF m 40 #[.val (.int p0), .val (.int p1), .val (.int ((p0 &&& (2147483647 : Int32)) % (3 : Int32))), .val (.ref w_V3), .unset, .unset] []))
        refine Rch.st (fun _ hr => XS.iconst X83.here hx rfl (hb hby at_40) hr) ?_
        show Rch p.tables e below _ (T83.setTop (mkF m 41 #[.val (.int p0), .val (.int p1), .val (.int ((p0 &&& (2147483647 : Int32)) % (3 : Int32))), .val (.ref w_V3), .unset, .unset] [(.int (3 : Int32))]))
        refine Rch.st (fun _ hr => XS.istore X83.here hx rfl (hb hby at_41) rfl (l' := #[.val (.int p0), .val (.int p1), .val (.int ((p0 &&& (2147483647 : Int32)) % (3 : Int32))), .val (.ref w_V3), .val (.int (3 : Int32)), .unset]) rfl hr) ?_
        show Rch p.tables e below _ (T83.setTop (mkF m 43 #[.val (.int p0), .val (.int p1), .val (.int ((p0 &&& (2147483647 : Int32)) % (3 : Int32))), .val (.ref w_V3), .val (.int (3 : Int32)), .unset] []))
        refine Rch.st (fun _ hr => XS.goto X83.here hx rfl (pc0 := 43) (pc' := 72) rfl (hb hby at_43) (by decide) (by decide) hr) ?_
        show Rch p.tables e below _ (T83.setTop (mkF m 72 #[.val (.int p0), .val (.int p1), .val (.int ((p0 &&& (2147483647 : Int32)) % (3 : Int32))), .val (.ref w_V3), .val (.int (3 : Int32)), .unset] []))
        refine Rch.st (fun _ hr => XS.iloadN X83.here hx rfl (hb hby at_72) rfl hr) ?_
        show Rch p.tables e below _ (T83.setTop (mkF m 73 #[.val (.int p0), .val (.int p1), .val (.int ((p0 &&& (2147483647 : Int32)) % (3 : Int32))), .val (.ref w_V3), .val (.int (3 : Int32)), .unset] [(.int ((p0 &&& (2147483647 : Int32)) % (3 : Int32)))]))
        refine Rch.st (fun _ hr => XS.iconst X83.here hx rfl (hb hby at_73) hr) ?_
        show Rch p.tables e below _ (T83.setTop (mkF m 74 #[.val (.int p0), .val (.int p1), .val (.int ((p0 &&& (2147483647 : Int32)) % (3 : Int32))), .val (.ref w_V3), .val (.int (3 : Int32)), .unset] [(.int (1 : Int32)), (.int ((p0 &&& (2147483647 : Int32)) % (3 : Int32)))]))
        refine Rch.st (fun _ hr => XS.iadd X83.here hx rfl (hb hby at_74) rfl hr) ?_
        show Rch p.tables e below _ (T83.setTop (mkF m 75 #[.val (.int p0), .val (.int p1), .val (.int ((p0 &&& (2147483647 : Int32)) % (3 : Int32))), .val (.ref w_V3), .val (.int (3 : Int32)), .unset] [(.int (((p0 &&& (2147483647 : Int32)) % (3 : Int32)) + (1 : Int32)))]))
        refine Rch.st (fun _ hr => XS.iload X83.here hx rfl (hb hby at_75) rfl hr) ?_
        show Rch p.tables e below _ (T83.setTop (mkF m 77 #[.val (.int p0), .val (.int p1), .val (.int ((p0 &&& (2147483647 : Int32)) % (3 : Int32))), .val (.ref w_V3), .val (.int (3 : Int32)), .unset] [(.int (3 : Int32)), (.int (((p0 &&& (2147483647 : Int32)) % (3 : Int32)) + (1 : Int32)))]))
        by_cases hc114 : (3 : Int32) < (((p0 &&& (2147483647 : Int32)) % (3 : Int32)) + (1 : Int32))
        · refine Rch.st (fun _ hr => XS.icmpYes X83.here hx rfl (pc0 := 77) (pc' := 84) rfl (hb hby at_77) rfl (tlt hc114).2.2.1 (by decide) (by decide) hr) ?_
          show Rch p.tables e below _ (T83.setTop (mkF m 84 #[.val (.int p0), .val (.int p1), .val (.int ((p0 &&& (2147483647 : Int32)) % (3 : Int32))), .val (.ref w_V3), .val (.int (3 : Int32)), .unset] []))
          refine Rch.st (fun _ hr => XS.iconst X83.here hx rfl (hb hby at_84) hr) ?_
          show Rch p.tables e below _ (T83.setTop (mkF m 85 #[.val (.int p0), .val (.int p1), .val (.int ((p0 &&& (2147483647 : Int32)) % (3 : Int32))), .val (.ref w_V3), .val (.int (3 : Int32)), .unset] [(.int (0 : Int32))]))
          refine Rch.st (fun _ hr => XS.istore X83.here hx rfl (hb hby at_85) rfl (l' := #[.val (.int p0), .val (.int p1), .val (.int ((p0 &&& (2147483647 : Int32)) % (3 : Int32))), .val (.ref w_V3), .val (.int (3 : Int32)), .val (.int (0 : Int32))]) rfl hr) ?_
          show Rch p.tables e below _ (T83.setTop (mkF m 87 #[.val (.int p0), .val (.int p1), .val (.int ((p0 &&& (2147483647 : Int32)) % (3 : Int32))), .val (.ref w_V3), .val (.int (3 : Int32)), .val (.int (0 : Int32))] []))
          refine Rch.st (fun _ hr => XS.aloadN X83.here hx rfl (hb hby at_87) rfl rfl hr) ?_
          show Rch p.tables e below _ (T83.setTop (mkF m 88 #[.val (.int p0), .val (.int p1), .val (.int ((p0 &&& (2147483647 : Int32)) % (3 : Int32))), .val (.ref w_V3), .val (.int (3 : Int32)), .val (.int (0 : Int32))] [(.ref w_V3)]))
          refine Rch.st (fun _ hr => XS.iloadN X83.here hx rfl (hb hby at_88) rfl hr) ?_
          show Rch p.tables e below _ (T83.setTop (mkF m 89 #[.val (.int p0), .val (.int p1), .val (.int ((p0 &&& (2147483647 : Int32)) % (3 : Int32))), .val (.ref w_V3), .val (.int (3 : Int32)), .val (.int (0 : Int32))] [(.int p1), (.ref w_V3)]))
          obtain ⟨cq115, kq115, q115a, q115b, q115c⟩ := isOf hZ e83 E_w_V3
          obtain ⟨_, _, ⟨T115, L115, k115, n115⟩, -, X115, ⟨Lc115, hQ115, l115, y115, z115⟩, st115⟩ := X83.virtualBack hx (y := (⟨"com/example/hangar_deck/hangardeck/apk/SignatureScheme", "isReadAt", "(I)Z"⟩ : MethodName)) (z := (⟨"com/example/hangar_deck/hangardeck/apk/SignatureScheme", "isReadAt", "(I)Z"⟩ : MethodName)) hown (mvT hZ (own_w hw 4 rfl)) (mvT hZ (own_w hw 5 rfl)) (notFace_of_selects (args := #[]) (mvT hZ (own_w hw 7 rfl))) (mvT hZ (own_w hw 7 rfl)) (mvT hZ (own_w hw 6 rfl)) (by decide) (backOf (W := 0) (b1 l Z a0 hw [] w_V3 p1 u_firstLevel_w_V3 h0 n0 H_u_firstLevel_w_V3) hZ (own_w hw 8 rfl) (own_w hw 2 rfl) (by decide) (by decide)) q115a q115c (g := (mkF m 89 #[.val (.int p0), .val (.int p1), .val (.int ((p0 &&& (2147483647 : Int32)) % (3 : Int32))), .val (.ref w_V3), .val (.int (3 : Int32)), .val (.int (0 : Int32))] [(.int p1), (.ref w_V3)])) rfl (by rw [hml]; rfl) (Steps.refl _) (argsL := [(.int p1)]) (rest := []) (lenOf pd_0 rfl) rfl (by show 2 * 0 + _ ≤ _; exact Nat.le_of_eq rfl) (hb hby at_89) (fun _ _ => ⟨rfl, e83, (by decide : 0 + 0 ≤ _), (by decide : 0 + 0 ≤ _)⟩)
          dsimp only [Pt.U, Pt.locs, Pt.cells, Pt.slots] at X115 l115 y115 z115 st115 hQ115
          subst l115 y115 z115
          obtain ⟨rfl, N115q, e115⟩ := hQ115
          have N115 := Fr.app N0 N115q
          refine Rch.tr st115 ?_
          show Rch p.tables e below _ (T115.setTop (mkF m 92 #[.val (.int p0), .val (.int p1), .val (.int ((p0 &&& (2147483647 : Int32)) % (3 : Int32))), .val (.ref w_V3), .val (.int (3 : Int32)), .val (.int (0 : Int32))] [(.int (F1 w_V3 p1 u_firstLevel_w_V3))]))
          refine Rch.st (fun _ hr => XS.iload X115.here hx rfl (hb hby at_92) rfl hr) ?_
          show Rch p.tables e below _ (T115.setTop (mkF m 94 #[.val (.int p0), .val (.int p1), .val (.int ((p0 &&& (2147483647 : Int32)) % (3 : Int32))), .val (.ref w_V3), .val (.int (3 : Int32)), .val (.int (0 : Int32))] [(.int (0 : Int32)), (.int (F1 w_V3 p1 u_firstLevel_w_V3))]))
          by_cases hc116 : (F1 w_V3 p1 u_firstLevel_w_V3) = (0 : Int32)
          · refine Rch.st (fun _ hr => XS.icmpNo X115.here hx rfl (hb hby at_94) rfl (teq hc116).2 hr) ?_
            show Rch p.tables e below _ (T115.setTop (mkF m 97 #[.val (.int p0), .val (.int p1), .val (.int ((p0 &&& (2147483647 : Int32)) % (3 : Int32))), .val (.ref w_V3), .val (.int (3 : Int32)), .val (.int (0 : Int32))] []))
            refine Rch.st (fun _ hr => XS.iconst X115.here hx rfl (hb hby at_97) hr) ?_
            show Rch p.tables e below _ (T115.setTop (mkF m 98 #[.val (.int p0), .val (.int p1), .val (.int ((p0 &&& (2147483647 : Int32)) % (3 : Int32))), .val (.ref w_V3), .val (.int (3 : Int32)), .val (.int (0 : Int32))] [(.int (1 : Int32))]))
            refine Rch.st (fun _ hr => XS.goto X115.here hx rfl (pc0 := 98) (pc' := 102) rfl (hb hby at_98) (by decide) (by decide) hr) ?_
            show Rch p.tables e below _ (T115.setTop (mkF m 102 #[.val (.int p0), .val (.int p1), .val (.int ((p0 &&& (2147483647 : Int32)) % (3 : Int32))), .val (.ref w_V3), .val (.int (3 : Int32)), .val (.int (0 : Int32))] [(.int (1 : Int32))]))
            obtain ⟨fs, hr, hrun, hended, hW, hsame⟩ := X115.leave (v := some (.int (1 : Int32))) (fun h => by rw [Bd.returns] at h; cases h)
            refine Rch.fin (u := T115.setFrames fs) (retN X115 hx (t := .boolean) Bd.returns (by simp) (hb hby at_102) hr) ⟨_, hrun, hended, _, _, rfl, ⟨?_, N115, e115⟩, ⟨_, rfl⟩, hW, hsame.mono (by decide) (by decide)⟩
            rw [show F0 p0 p1 w_V1 u_firstLevel_w_V1 w_V2 u_firstLevel_w_V2 w_V3 u_firstLevel_w_V3 = (1 : Int32) from by unfold F0; rw [if_neg hc1, if_neg hc42, if_neg hc84, if_pos hc114, if_pos hc116]]
          · refine Rch.st (fun _ hr => XS.icmpYes X115.here hx rfl (pc0 := 94) (pc' := 101) rfl (hb hby at_94) rfl (feq hc116).2 (by decide) (by decide) hr) ?_
            show Rch p.tables e below _ (T115.setTop (mkF m 101 #[.val (.int p0), .val (.int p1), .val (.int ((p0 &&& (2147483647 : Int32)) % (3 : Int32))), .val (.ref w_V3), .val (.int (3 : Int32)), .val (.int (0 : Int32))] []))
            refine Rch.st (fun _ hr => XS.iconst X115.here hx rfl (hb hby at_101) hr) ?_
            show Rch p.tables e below _ (T115.setTop (mkF m 102 #[.val (.int p0), .val (.int p1), .val (.int ((p0 &&& (2147483647 : Int32)) % (3 : Int32))), .val (.ref w_V3), .val (.int (3 : Int32)), .val (.int (0 : Int32))] [(.int (0 : Int32))]))
            obtain ⟨fs, hr, hrun, hended, hW, hsame⟩ := X115.leave (v := some (.int (0 : Int32))) (fun h => by rw [Bd.returns] at h; cases h)
            refine Rch.fin (u := T115.setFrames fs) (retN X115 hx (t := .boolean) Bd.returns (by simp) (hb hby at_102) hr) ⟨_, hrun, hended, _, _, rfl, ⟨?_, N115, e115⟩, ⟨_, rfl⟩, hW, hsame.mono (by decide) (by decide)⟩
            rw [show F0 p0 p1 w_V1 u_firstLevel_w_V1 w_V2 u_firstLevel_w_V2 w_V3 u_firstLevel_w_V3 = (0 : Int32) from by unfold F0; rw [if_neg hc1, if_neg hc42, if_neg hc84, if_pos hc114, if_neg hc116]]
        · refine Rch.st (fun _ hr => XS.icmpNo X83.here hx rfl (hb hby at_77) rfl (flt hc114).2.2.1 hr) ?_
          show Rch p.tables e below _ (T83.setTop (mkF m 80 #[.val (.int p0), .val (.int p1), .val (.int ((p0 &&& (2147483647 : Int32)) % (3 : Int32))), .val (.ref w_V3), .val (.int (3 : Int32)), .unset] []))
          refine Rch.st (fun _ hr => XS.iconst X83.here hx rfl (hb hby at_80) hr) ?_
          show Rch p.tables e below _ (T83.setTop (mkF m 81 #[.val (.int p0), .val (.int p1), .val (.int ((p0 &&& (2147483647 : Int32)) % (3 : Int32))), .val (.ref w_V3), .val (.int (3 : Int32)), .unset] [(.int (1 : Int32))]))
          refine Rch.st (fun _ hr => XS.goto X83.here hx rfl (pc0 := 81) (pc' := 85) rfl (hb hby at_81) (by decide) (by decide) hr) ?_
          show Rch p.tables e below _ (T83.setTop (mkF m 85 #[.val (.int p0), .val (.int p1), .val (.int ((p0 &&& (2147483647 : Int32)) % (3 : Int32))), .val (.ref w_V3), .val (.int (3 : Int32)), .unset] [(.int (1 : Int32))]))
          refine Rch.st (fun _ hr => XS.istore X83.here hx rfl (hb hby at_85) rfl (l' := #[.val (.int p0), .val (.int p1), .val (.int ((p0 &&& (2147483647 : Int32)) % (3 : Int32))), .val (.ref w_V3), .val (.int (3 : Int32)), .val (.int (1 : Int32))]) rfl hr) ?_
          show Rch p.tables e below _ (T83.setTop (mkF m 87 #[.val (.int p0), .val (.int p1), .val (.int ((p0 &&& (2147483647 : Int32)) % (3 : Int32))), .val (.ref w_V3), .val (.int (3 : Int32)), .val (.int (1 : Int32))] []))
          refine Rch.st (fun _ hr => XS.aloadN X83.here hx rfl (hb hby at_87) rfl rfl hr) ?_
          show Rch p.tables e below _ (T83.setTop (mkF m 88 #[.val (.int p0), .val (.int p1), .val (.int ((p0 &&& (2147483647 : Int32)) % (3 : Int32))), .val (.ref w_V3), .val (.int (3 : Int32)), .val (.int (1 : Int32))] [(.ref w_V3)]))
          refine Rch.st (fun _ hr => XS.iloadN X83.here hx rfl (hb hby at_88) rfl hr) ?_
          show Rch p.tables e below _ (T83.setTop (mkF m 89 #[.val (.int p0), .val (.int p1), .val (.int ((p0 &&& (2147483647 : Int32)) % (3 : Int32))), .val (.ref w_V3), .val (.int (3 : Int32)), .val (.int (1 : Int32))] [(.int p1), (.ref w_V3)]))
          obtain ⟨cq119, kq119, q119a, q119b, q119c⟩ := isOf hZ e83 E_w_V3
          obtain ⟨_, _, ⟨T119, L119, k119, n119⟩, -, X119, ⟨Lc119, hQ119, l119, y119, z119⟩, st119⟩ := X83.virtualBack hx (y := (⟨"com/example/hangar_deck/hangardeck/apk/SignatureScheme", "isReadAt", "(I)Z"⟩ : MethodName)) (z := (⟨"com/example/hangar_deck/hangardeck/apk/SignatureScheme", "isReadAt", "(I)Z"⟩ : MethodName)) hown (mvT hZ (own_w hw 4 rfl)) (mvT hZ (own_w hw 5 rfl)) (notFace_of_selects (args := #[]) (mvT hZ (own_w hw 7 rfl))) (mvT hZ (own_w hw 7 rfl)) (mvT hZ (own_w hw 6 rfl)) (by decide) (backOf (W := 0) (b1 l Z a0 hw [] w_V3 p1 u_firstLevel_w_V3 h0 n0 H_u_firstLevel_w_V3) hZ (own_w hw 8 rfl) (own_w hw 2 rfl) (by decide) (by decide)) q119a q119c (g := (mkF m 89 #[.val (.int p0), .val (.int p1), .val (.int ((p0 &&& (2147483647 : Int32)) % (3 : Int32))), .val (.ref w_V3), .val (.int (3 : Int32)), .val (.int (1 : Int32))] [(.int p1), (.ref w_V3)])) rfl (by rw [hml]; rfl) (Steps.refl _) (argsL := [(.int p1)]) (rest := []) (lenOf pd_0 rfl) rfl (by show 2 * 0 + _ ≤ _; exact Nat.le_of_eq rfl) (hb hby at_89) (fun _ _ => ⟨rfl, e83, (by decide : 0 + 0 ≤ _), (by decide : 0 + 0 ≤ _)⟩)
          dsimp only [Pt.U, Pt.locs, Pt.cells, Pt.slots] at X119 l119 y119 z119 st119 hQ119
          subst l119 y119 z119
          obtain ⟨rfl, N119q, e119⟩ := hQ119
          have N119 := Fr.app N0 N119q
          refine Rch.tr st119 ?_
          show Rch p.tables e below _ (T119.setTop (mkF m 92 #[.val (.int p0), .val (.int p1), .val (.int ((p0 &&& (2147483647 : Int32)) % (3 : Int32))), .val (.ref w_V3), .val (.int (3 : Int32)), .val (.int (1 : Int32))] [(.int (F1 w_V3 p1 u_firstLevel_w_V3))]))
          refine Rch.st (fun _ hr => XS.iload X119.here hx rfl (hb hby at_92) rfl hr) ?_
          show Rch p.tables e below _ (T119.setTop (mkF m 94 #[.val (.int p0), .val (.int p1), .val (.int ((p0 &&& (2147483647 : Int32)) % (3 : Int32))), .val (.ref w_V3), .val (.int (3 : Int32)), .val (.int (1 : Int32))] [(.int (1 : Int32)), (.int (F1 w_V3 p1 u_firstLevel_w_V3))]))
          by_cases hc120 : (F1 w_V3 p1 u_firstLevel_w_V3) = (1 : Int32)
          · refine Rch.st (fun _ hr => XS.icmpNo X119.here hx rfl (hb hby at_94) rfl (teq hc120).2 hr) ?_
            show Rch p.tables e below _ (T119.setTop (mkF m 97 #[.val (.int p0), .val (.int p1), .val (.int ((p0 &&& (2147483647 : Int32)) % (3 : Int32))), .val (.ref w_V3), .val (.int (3 : Int32)), .val (.int (1 : Int32))] []))
            refine Rch.st (fun _ hr => XS.iconst X119.here hx rfl (hb hby at_97) hr) ?_
            show Rch p.tables e below _ (T119.setTop (mkF m 98 #[.val (.int p0), .val (.int p1), .val (.int ((p0 &&& (2147483647 : Int32)) % (3 : Int32))), .val (.ref w_V3), .val (.int (3 : Int32)), .val (.int (1 : Int32))] [(.int (1 : Int32))]))
            refine Rch.st (fun _ hr => XS.goto X119.here hx rfl (pc0 := 98) (pc' := 102) rfl (hb hby at_98) (by decide) (by decide) hr) ?_
            show Rch p.tables e below _ (T119.setTop (mkF m 102 #[.val (.int p0), .val (.int p1), .val (.int ((p0 &&& (2147483647 : Int32)) % (3 : Int32))), .val (.ref w_V3), .val (.int (3 : Int32)), .val (.int (1 : Int32))] [(.int (1 : Int32))]))
            obtain ⟨fs, hr, hrun, hended, hW, hsame⟩ := X119.leave (v := some (.int (1 : Int32))) (fun h => by rw [Bd.returns] at h; cases h)
            refine Rch.fin (u := T119.setFrames fs) (retN X119 hx (t := .boolean) Bd.returns (by simp) (hb hby at_102) hr) ⟨_, hrun, hended, _, _, rfl, ⟨?_, N119, e119⟩, ⟨_, rfl⟩, hW, hsame.mono (by decide) (by decide)⟩
            rw [show F0 p0 p1 w_V1 u_firstLevel_w_V1 w_V2 u_firstLevel_w_V2 w_V3 u_firstLevel_w_V3 = (1 : Int32) from by unfold F0; rw [if_neg hc1, if_neg hc42, if_neg hc84, if_neg hc114, if_pos hc120]]
          · refine Rch.st (fun _ hr => XS.icmpYes X119.here hx rfl (pc0 := 94) (pc' := 101) rfl (hb hby at_94) rfl (feq hc120).2 (by decide) (by decide) hr) ?_
            show Rch p.tables e below _ (T119.setTop (mkF m 101 #[.val (.int p0), .val (.int p1), .val (.int ((p0 &&& (2147483647 : Int32)) % (3 : Int32))), .val (.ref w_V3), .val (.int (3 : Int32)), .val (.int (1 : Int32))] []))
            refine Rch.st (fun _ hr => XS.iconst X119.here hx rfl (hb hby at_101) hr) ?_
            show Rch p.tables e below _ (T119.setTop (mkF m 102 #[.val (.int p0), .val (.int p1), .val (.int ((p0 &&& (2147483647 : Int32)) % (3 : Int32))), .val (.ref w_V3), .val (.int (3 : Int32)), .val (.int (1 : Int32))] [(.int (0 : Int32))]))
            obtain ⟨fs, hr, hrun, hended, hW, hsame⟩ := X119.leave (v := some (.int (0 : Int32))) (fun h => by rw [Bd.returns] at h; cases h)
            refine Rch.fin (u := T119.setFrames fs) (retN X119 hx (t := .boolean) Bd.returns (by simp) (hb hby at_102) hr) ⟨_, hrun, hended, _, _, rfl, ⟨?_, N119, e119⟩, ⟨_, rfl⟩, hW, hsame.mono (by decide) (by decide)⟩
            rw [show F0 p0 p1 w_V1 u_firstLevel_w_V1 w_V2 u_firstLevel_w_V2 w_V3 u_firstLevel_w_V3 = (0 : Int32) from by unfold F0; rw [if_neg hc1, if_neg hc42, if_neg hc84, if_neg hc114, if_neg hc120]]
theorem own_third (x : Int32) : (x &&& 2147483647) % 3 = 0 ∨ (x &&& 2147483647) % 3 = 1 ∨ (x &&& 2147483647) % 3 = 2 := by
  have h1 := c_mask x 2147483647 31 (by decide) (by decide)
  have h2 := (c_irem (x &&& 2147483647) 3 3 (by decide)).1 (by rw [h1]; omega)
  have h3 : (x.toInt % (2 ^ 31 : Nat)) % 3 = 0 ∨ (x.toInt % (2 ^ 31 : Nat)) % 3 = 1 ∨ (x.toInt % (2 ^ 31 : Nat)) % 3 = 2 := by omega
  rw [h1] at h2
  rcases h3 with h | h | h
  · exact Or.inl (Int32.toInt_inj.mp (by rw [h2, h]; decide))
  · exact Or.inr (Or.inl (Int32.toInt_inj.mp (by rw [h2, h]; decide)))
  · exact Or.inr (Or.inr (Int32.toInt_inj.mp (by rw [h2, h]; decide)))
set_option maxHeartbeats 4000000 in
theorem own_plain (x y : Int32) (a b c : Addr) : F0 x y a 1 b 24 c 28 = 1 := by
  have h := own_third x
  have k1 : y < 1 → y < 24 := by
    intro q
    rw [Int32.lt_iff_toInt_lt] at *
    have e1 : (1 : Int32).toInt = 1 := rfl
    have e2 : (24 : Int32).toInt = 24 := rfl
    omega
  have k2 : y < 24 → y < 28 := by
    intro q
    rw [Int32.lt_iff_toInt_lt] at *
    have e1 : (24 : Int32).toInt = 24 := rfl
    have e2 : (28 : Int32).toInt = 28 := rfl
    omega
  unfold F0 F1
  generalize (x &&& 2147483647) % 3 = w at h
  by_cases h1 : y < 1
  · have h24 := k1 h1
    have h28 := k2 h24
    rcases h with rfl | rfl | rfl <;> simp [h1, h24, h28]
  · by_cases h24 : y < 24
    · have h28 := k2 h24
      rcases h with rfl | rfl | rfl <;> simp [h1, h24, h28]
    · by_cases h28 : y < 28 <;> rcases h with rfl | rfl | rfl <;> simp [h1, h24, h28]
set_option maxRecDepth 65536 in
set_option maxHeartbeats 40000000 in
theorem comes_1 {Post : Tables → Env → Array Value → State → Outcome → State → Prop} (hpost : ∀ tb e args s v u, (limb_1_1.after args s (.returned v) u = true ∧ limb_1_2.after args s (.returned v) u = true ∧ True) → FrameEnd s (.returned v) u (Jvm.fieldLocs frame_1_writes args s ++ Jvm.arrayLocs frame_1_arrays args s ++ Jvm.staticLocs frame_1_statics s) 0 0 → Post tb e args s (.returned v) u) :
    ArmFor flags0 classFile x code maxLocals ret World_1 tables_1 room_1 Calls_1 rest_1 Pre_1 Post := by
  intro l hfl _ _ p e ha hc hk s m args below hf hA hF happ hP
  obtain ⟨hcalls, hrest, hpre⟩ := hP
  obtain ⟨-, -, -, hnamed, -, -, -, hat⟩ := (Spec.applies_iff hf).mp happ
  obtain ⟨hg, hn⟩ := and_e (Cond.before_iff.mp (show (Jvm.Cond.and given_1 narrow_1).before args s = true from hpre))
  obtain ⟨g1, g2⟩ := and_e hg
  obtain ⟨g3, g4⟩ := and_e g2
  obtain ⟨g5, g6⟩ := and_e hn
  obtain ⟨g7, g8⟩ := and_e g6
  obtain ⟨g9, g10⟩ := and_e g8
  obtain ⟨g11, g12⟩ := and_e g10
  obtain ⟨g13, g14⟩ := and_e g12
  obtain ⟨v0, v1, rfl⟩ : ∃ v0 v1 : Value, args = #[v0, v1] := by
    have hs : args.size = 2 := by simpa [Cond.value, given_1] using g1
    obtain ⟨L⟩ := args
    match L, hs with
    | [v0, v1], _ => exact ⟨v0, v1, rfl⟩
  have hw := fun d (hd : d ∈ tables_1) => atoms_spec (ws := Jvm.Cond.code x code maxLocals ret :: tables_1) hat d (List.mem_cons_of_mem _ hd)
  obtain ⟨i0, ei0⟩ := is_v g3
  obtain rfl : v0 = (.int i0) := Option.some.inj ei0
  obtain ⟨i1, ei1⟩ := is_v g4
  obtain rfl : v1 = (.int i1) := Option.some.inj ei1
  obtain ⟨w_V1, ev_w_V1⟩ := exa_v g5
  have E_w_V1 := Exa.start ev_w_V1 g5
  have H_w_V1 := Sta.start ev_w_V1 (Or.inr ⟨(own_w hw 2 rfl), (own_w hw 3 rfl)⟩)
  obtain ⟨w_V3, ev_w_V3⟩ := exa_v g9
  have E_w_V3 := Exa.start ev_w_V3 g9
  have H_w_V3 := Sta.start ev_w_V3 (Or.inr ⟨(own_w hw 2 rfl), (own_w hw 12 rfl)⟩)
  obtain ⟨w_V2, ev_w_V2⟩ := exa_v g13
  have E_w_V2 := Exa.start ev_w_V2 g13
  have H_w_V2 := Sta.start ev_w_V2 (Or.inr ⟨(own_w hw 2 rfl), (own_w hw 14 rfl)⟩)
  have U_firstLevel_w_V1 : Fld s s.heap w_V1 "com/example/hangar_deck/hangardeck/apk/SignatureScheme" "firstLevel" "I" (.int (1 : Int32)) := Fld.start ((fld_at ev_w_V1).symm.trans (own_eqInt g7))
  have U_firstLevel_w_V3 : Fld s s.heap w_V3 "com/example/hangar_deck/hangardeck/apk/SignatureScheme" "firstLevel" "I" (.int (28 : Int32)) := Fld.start ((fld_at ev_w_V3).symm.trans (own_eqInt g11))
  have U_firstLevel_w_V2 : Fld s s.heap w_V2 "com/example/hangar_deck/hangardeck/apk/SignatureScheme" "firstLevel" "I" (.int (24 : Int32)) := Fld.start ((fld_at ev_w_V2).symm.trans (own_eqInt g14))
  have hF1 : F0 i0 i1 w_V1 (1 : Int32) w_V2 (24 : Int32) w_V3 (28 : Int32) = 1 := own_plain _ _ _ _ _
  obtain ⟨n, o, h1, h2, h3, _, L, rfl, ⟨rfl, N, -⟩, hq⟩ := b0 l s _ hw tables_1 i0 i1 w_V1 (1 : Int32) w_V2 (24 : Int32) w_V3 (28 : Int32) s.heap s.heap.size H_w_V1 U_firstLevel_w_V1 E_w_V1 H_w_V2 U_firstLevel_w_V2 E_w_V2 H_w_V3 U_firstLevel_w_V3 E_w_V3 p e ha hc hk s m _ below hf ((Spec.applies_iff_loose hf).mp happ).1 ⟨rfl, State.Warmed39.refl s, rfl⟩ trivial
  refine ⟨n, _, h1, h2, h3, hpost _ _ _ _ _ _ ⟨Cond.after_iff.mpr rfl, Cond.after_iff.mpr (eq_i res_at (Term.int_eval (1)) (congrArg Value.int hF1)), trivial⟩ ⟨hq.1, hq.2.1, (hq.2.2.sift fun y hy => Or.inr (N y hy)).mono (by decide) (by decide)⟩⟩
theorem main_1_1 : Claimed_1_1 := comes_1 fun _ _ _ _ _ _ h hF => ⟨h.1, hF⟩
theorem main_1_2 : Claimed_1_2 := comes_1 fun _ _ _ _ _ _ h hF => ⟨h.2.1, hF⟩
end Jvm.Pilot.@@N@@
namespace Jvm.Pilot.@@N@@
open Jvm Jvm.ClassFile Sem Op Lib Jvm.Free Jvm.Stand Jvm.Pilot.@@N@@.Jvm.D
/-! MADE BY PROGRAM (witnessworld.py) out of the Statement's table words and the real class files: 12 classes; the members and pool entries that the words name. The judged class is class 1, her method 1. -/
namespace start1
open Jvm.ClassFile
def u (s : String) : CpInfo := .utf8 (stringToUtf16 s)
/-- a pool by its gaps: so many unusable entries, then the entry; so many at the end -/
def gap : Nat → List CpInfo → List CpInfo
  | 0, r => r
  | n + 1, r => .unusable :: gap n r
def poolList (es : List (Nat × CpInfo)) (last : Nat) : List CpInfo := es.foldr (fun e r => gap e.1 (e.2 :: r)) (gap last [])
def pool (es : List (Nat × CpInfo)) (last : Nat) : Array CpInfo := ⟨poolList es last⟩
def fileOf (pool : Array CpInfo) (this : Nat) (attrs : Array Attribute := #[]) (ms : Array MethodInfo := #[]) (fl : Nat := 33) (sup : Nat := 0) (ifs : Array Nat := #[]) (fds : Array FieldInfo := #[]) : ClassFile where
  minorVersion := 0
  majorVersion := 65
  constantPool := pool
  accessFlags := fl
  thisClass := this
  superClass := sup
  interfaces := ifs
  fields := fds
  methods := ms
  attributes := attrs
def plain (name : String) (sup : Option ClassId) : Class where
  name := name
  kind := .ordinary
  loader := none
  accessFlags := 33
  super := sup
  interfaces := #[]
  cf := none
  fields := #[]
  methods := #[]
  instanceTypes := #[]
  staticTypes := #[]
  resolved := #[]
  callSites := []
  init := .initialized
  statics := none
  mirror := none

def pool0 : Array CpInfo := pool [(5, u "<init>"), (0, u "()V"), (1, .class_ 10), (1, u "java/lang/Object")] 113

def k0m0 : Method := { name := "<init>", desc := "()V", sig := { parameters := [], returnType := none }, accessFlags := 1, code := none }
/-- java/lang/Object -/
def k0 : Class := { plain "java/lang/Object" none with
  accessFlags := 33
  interfaces := #[]
  cf := some (fileOf pool0 8 #[] #[{ accessFlags := 1, nameIndex := 5, descriptorIndex := 6, attributes := #[] }] 33 0 #[] #[])
  fields := #[]
  methods := #[k0m0]
  instanceTypes := #[]
  staticTypes := #[]
  resolved := Array.replicate 124 none
  statics := none }

def pool1 : Array CpInfo := pool [(2, .class_ 4), (1, u "java/lang/Object"), (0, u "<init>"), (0, u "()V"), (0, .integer 2147483647), (0, .fieldref 9 10), (0, .class_ 11), (0, .nameAndType 12 13), (0, u "com/example/hangar_deck/hangardeck/apk/SignatureScheme"), (0, u "V1"), (0, u "Lcom/example/hangar_deck/hangardeck/apk/SignatureScheme;"), (0, .fieldref 9 15), (0, .nameAndType 16 13), (0, u "V2"), (0, .fieldref 9 18), (0, .nameAndType 19 13), (0, u "V3"), (0, .methodref 9 21), (0, .nameAndType 22 23), (0, u "isReadAt"), (0, u "(I)Z"), (0, .class_ 25), (0, u "com/example/hangar_deck/hangardeck/apk/SignatureSchemeIsReadAtPinLaw"), (2, u "law"), (0, u "(II)Z")] 3

def k1m0 : Method := { name := "<init>", desc := "()V", sig := { parameters := [], returnType := none }, accessFlags := 2, code := none }
def k1c1 : Code := { maxStack := 2, maxLocals := 6, code := code, exceptionTable := #[], attributes := #[] }
def k1m1 : Method := { name := "law", desc := "(II)Z", sig := { parameters := [.int, .int], returnType := some .boolean }, accessFlags := 9, code := some k1c1 }
/-- com/example/hangar_deck/hangardeck/apk/SignatureSchemeIsReadAtPinLaw -/
def k1 : Class := { plain "com/example/hangar_deck/hangardeck/apk/SignatureSchemeIsReadAtPinLaw" (some 0) with
  accessFlags := 49
  interfaces := #[]
  cf := some (fileOf pool1 24 #[] #[{ accessFlags := 2, nameIndex := 5, descriptorIndex := 6, attributes := #[] }, { accessFlags := 9, nameIndex := 28, descriptorIndex := 29, attributes := #[] }] 49 2 #[] #[])
  fields := #[]
  methods := #[k1m0, k1m1]
  instanceTypes := #[]
  staticTypes := #[]
  resolved := Array.replicate 33 none
  statics := none }

def pool2 : Array CpInfo := pool [(1, .class_ 2), (0, u "java/lang/constant/Constable"), (0, .class_ 4), (0, u "java/lang/Object")] 6

/-- java/lang/constant/Constable -/
def k2 : Class := { plain "java/lang/constant/Constable" (some 0) with
  accessFlags := 1537
  interfaces := #[]
  cf := some (fileOf pool2 1 #[] #[] 1537 3 #[] #[])
  fields := #[]
  methods := #[]
  instanceTypes := #[]
  staticTypes := #[]
  resolved := Array.replicate 11 none
  statics := none }

def pool3 : Array CpInfo := pool [(1, .class_ 2), (0, u "java/lang/Comparable"), (0, .class_ 4), (0, u "java/lang/Object")] 7

/-- java/lang/Comparable -/
def k3 : Class := { plain "java/lang/Comparable" (some 0) with
  accessFlags := 1537
  interfaces := #[]
  cf := some (fileOf pool3 1 #[] #[] 1537 3 #[] #[])
  fields := #[]
  methods := #[]
  instanceTypes := #[]
  staticTypes := #[]
  resolved := Array.replicate 12 none
  statics := none }

def pool4 : Array CpInfo := pool [(1, .class_ 2), (0, u "java/io/Serializable"), (0, .class_ 4), (0, u "java/lang/Object")] 2

/-- java/io/Serializable -/
def k4 : Class := { plain "java/io/Serializable" (some 0) with
  accessFlags := 1537
  interfaces := #[]
  cf := some (fileOf pool4 1 #[] #[] 1537 3 #[] #[])
  fields := #[]
  methods := #[]
  instanceTypes := #[]
  staticTypes := #[]
  resolved := Array.replicate 7 none
  statics := none }

def pool5 : Array CpInfo := pool [(2, .class_ 4), (1, u "java/lang/Enum"), (0, u "name"), (0, u "Ljava/lang/String;"), (2, u "ordinal"), (0, u "I"), (1, .class_ 14), (1, u "java/lang/Object"), (4, u "hash"), (86, .class_ 108), (1, u "java/lang/Enum$EnumDesc"), (2, .class_ 112), (0, u "java/lang/constant/Constable"), (0, .class_ 114), (0, u "java/lang/Comparable"), (0, .class_ 116), (0, u "java/io/Serializable")] 87

/-- java/lang/Enum -/
def k5 : Class := { plain "java/lang/Enum" (some 0) with
  accessFlags := 1057
  interfaces := #[2, 3, 4]
  cf := some (fileOf pool5 2 #[.nestMembers #[106]] #[] 1057 12 #[111, 113, 115] #[{ accessFlags := 18, nameIndex := 5, descriptorIndex := 6, attributes := #[] }, { accessFlags := 18, nameIndex := 9, descriptorIndex := 10, attributes := #[] }, { accessFlags := 2, nameIndex := 19, descriptorIndex := 10, attributes := #[] }])
  fields := #[{ name := "name", type := (.object "java/lang/String"), accessFlags := 18, slot := 0, constantValue := 0 }, { name := "ordinal", type := .int, accessFlags := 18, slot := 1, constantValue := 0 }, { name := "hash", type := .int, accessFlags := 2, slot := 2, constantValue := 0 }]
  methods := #[]
  instanceTypes := #[(.object "java/lang/String"), .int, .int]
  staticTypes := #[]
  resolved := Array.replicate 204 none
  statics := none }

def pool6 : Array CpInfo := pool [(1, .class_ 2), (0, u "com/example/hangar_deck/hangardeck/apk/SignatureScheme"), (2, u "V1"), (0, u "Lcom/example/hangar_deck/hangardeck/apk/SignatureScheme;"), (2, u "V2"), (2, u "V3"), (2, u "$VALUES"), (0, u "[Lcom/example/hangar_deck/hangardeck/apk/SignatureScheme;"), (6, .class_ 25), (1, u "java/lang/Enum"), (8, u "label"), (0, u "Ljava/lang/String;"), (0, .fieldref 1 37), (0, .nameAndType 38 39), (0, u "firstLevel"), (0, u "I"), (2, u "id"), (2, u "blockId"), (29, u "isReadAt"), (0, u "(I)Z")] 12

def k6c0 : Code := { maxStack := 2, maxLocals := 2, code := prog_39_method_5_code, exceptionTable := #[], attributes := #[] }
def k6m0 : Method := { name := "isReadAt", desc := "(I)Z", sig := { parameters := [.int], returnType := some .boolean }, accessFlags := 0, code := some k6c0 }
/-- com/example/hangar_deck/hangardeck/apk/SignatureScheme -/
def k6 : Class := { plain "com/example/hangar_deck/hangardeck/apk/SignatureScheme" (some 5) with
  accessFlags := 16433
  interfaces := #[]
  cf := some (fileOf pool6 1 #[] #[{ accessFlags := 0, nameIndex := 75, descriptorIndex := 76, attributes := #[] }] 16433 23 #[] #[{ accessFlags := 16409, nameIndex := 5, descriptorIndex := 6, attributes := #[] }, { accessFlags := 16409, nameIndex := 9, descriptorIndex := 6, attributes := #[] }, { accessFlags := 16409, nameIndex := 12, descriptorIndex := 6, attributes := #[] }, { accessFlags := 18, nameIndex := 34, descriptorIndex := 35, attributes := #[] }, { accessFlags := 18, nameIndex := 38, descriptorIndex := 39, attributes := #[] }, { accessFlags := 18, nameIndex := 42, descriptorIndex := 39, attributes := #[] }, { accessFlags := 18, nameIndex := 45, descriptorIndex := 39, attributes := #[] }, { accessFlags := 4122, nameIndex := 15, descriptorIndex := 16, attributes := #[] }])
  fields := #[{ name := "V1", type := (.object "com/example/hangar_deck/hangardeck/apk/SignatureScheme"), accessFlags := 16409, slot := 0, constantValue := 0 }, { name := "V2", type := (.object "com/example/hangar_deck/hangardeck/apk/SignatureScheme"), accessFlags := 16409, slot := 1, constantValue := 0 }, { name := "V3", type := (.object "com/example/hangar_deck/hangardeck/apk/SignatureScheme"), accessFlags := 16409, slot := 2, constantValue := 0 }, { name := "label", type := (.object "java/lang/String"), accessFlags := 18, slot := 3, constantValue := 0 }, { name := "firstLevel", type := .int, accessFlags := 18, slot := 4, constantValue := 0 }, { name := "id", type := .int, accessFlags := 18, slot := 5, constantValue := 0 }, { name := "blockId", type := .int, accessFlags := 18, slot := 6, constantValue := 0 }, { name := "$VALUES", type := (.array (.object "com/example/hangar_deck/hangardeck/apk/SignatureScheme")), accessFlags := 4122, slot := 3, constantValue := 0 }]
  methods := #[k6m0]
  instanceTypes := #[(.object "java/lang/String"), .int, .int, (.object "java/lang/String"), .int, .int, .int]
  staticTypes := #[(.object "com/example/hangar_deck/hangardeck/apk/SignatureScheme"), (.object "com/example/hangar_deck/hangardeck/apk/SignatureScheme"), (.object "com/example/hangar_deck/hangardeck/apk/SignatureScheme"), (.array (.object "com/example/hangar_deck/hangardeck/apk/SignatureScheme"))]
  resolved := Array.replicate 89 none
  statics := some 0 }

def pool7 : Array CpInfo := pool [(1, u "java/lang/Cloneable"), (0, .class_ 1), (0, u "java/lang/Object"), (0, .class_ 3)] 3

/-- java/lang/Cloneable -/
def k7 : Class := { plain "java/lang/Cloneable" (some 0) with
  accessFlags := 1537
  interfaces := #[]
  cf := some (fileOf pool7 2 #[] #[] 1537 4 #[] #[])
  fields := #[]
  methods := #[]
  instanceTypes := #[]
  staticTypes := #[]
  resolved := Array.replicate 8 none
  statics := none }

/-- the primitive byte -/
def k8 : Class := { plain "byte" none with kind := .primitive 'B', accessFlags := 0x411 }
/-- [B -/
def k9 : Class := { plain "[B" (some 0) with kind := .array 8 .byte, interfaces := #[7, 4], accessFlags := 1041 }

/-- the primitive int -/
def k10 : Class := { plain "int" none with kind := .primitive 'I', accessFlags := 0x411 }
/-- [I -/
def k11 : Class := { plain "[I" (some 0) with kind := .array 10 .int, interfaces := #[7, 4], accessFlags := 1041 }

def heap : Heap := #[{ cls := 6, slots := #[.ref 1, .ref 3, .ref 2, .null], vm := .statics 6 },
  { cls := 6, slots := #[.null, .int 0, .int 0, .null, .int 1, .int 0, .int 0], vm := .none },
  { cls := 6, slots := #[.null, .int 0, .int 0, .null, .int 28, .int 0, .int 0], vm := .none },
  { cls := 6, slots := #[.null, .int 0, .int 0, .null, .int 24, .int 0, .int 0], vm := .none }]
def classes : Array Class := #[k0, k1, k2, k3, k4, k5, k6, k7, k8, k9, k10, k11]
def interned : List (Array UInt16 × Addr) := []
def slotsUsed : Nat := 25
def theMethod : MethodId := ⟨1, 1⟩
def args0 : Array Value := #[.int 5, .int 25]
def aboutOver (below : List Frame) : State where
  vm := { classes := classes, interned := interned.toArray }
  heap := heap
  slotsUsed := slotsUsed
  threads := #[{ frames := .invoking theMethod args0 :: below }]
def below0 : List Frame := [.native { method := ⟨0, 0⟩, args := #[] }]
def about1 : State := aboutOver below0
def p0 : Program := .bare "" "" ""
def e0 : Env := launch0.env 0 0 0
theorem w_frames : about1.frames = Frame.invoking theMethod args0 :: below0 := rfl
set_option maxRecDepth 65536 in
theorem w_args : argsFit about1.vm theMethod args0 = true := by decide +kernel
set_option maxRecDepth 65536 in
theorem w_heap : heapFits about1 = true := by decide +kernel
set_option maxRecDepth 65536 in
theorem w_runnable : about1.curStatus? = some .runnable := by decide +kernel
set_option maxRecDepth 65536 in
theorem w_alone : about1.alone = true := by decide +kernel
set_option maxRecDepth 65536 in
theorem w_named : about1.methodNamed? x = some theMethod := by decide +kernel
set_option maxRecDepth 65536 in
theorem w_hears : about1.hears theMethod below0 = true := by decide +kernel
set_option maxRecDepth 65536 in
theorem w_ripe : about1.ripe theMethod args0 below0 = true := by decide +kernel
theorem w_running : about1.status = .running := rfl
set_option maxRecDepth 65536 in
theorem w_room : about1.hasRoom e0.platform room_1 = true :=
  launch0.hasRoom_least _ room_1 (by decide +kernel) (by decide +kernel) (by decide +kernel) (by decide +kernel) (by decide +kernel) (by decide +kernel)
theorem allAtoms_all (ts : List Jvm.Cond) (a : Array Jvm.Value) (st : Jvm.State) : (allAtoms ts).before a st = ts.all (fun c => c.before a st) := by
  induction ts with
  | nil => rfl
  | cons c t ih =>
    show (Jvm.Cond.and c (allAtoms t)).before a st = _
    rw [Jvm.Cond.before_and, ih, List.all_cons]
def words1 : List Jvm.Cond := Jvm.Cond.code x code maxLocals ret :: tables_1
/-- a 'code' word, met by the world's own term for the bytes: nothing is compared byte by byte -/
theorem code_word {y : MethodName} {bytes : ByteArray} {mx : Nat} {rt : Option FieldType} {a : Array Value} {s : State} {m : MethodId} {meth : Method} {c : Code} (h1 : s.methodNamed? y = some m) (h2 : s.vm.method? m = some meth) (h3 : meth.code = some c) (h4 : c.code = bytes)
    (h5 : (c.maxLocals == mx && c.exceptionTable.isEmpty && decide (c.maxStack ≤ mostOperands) && decide (meth.sig.returnType = rt) && !meth.locks && decide (parseMethodDescriptor y.desc = some meth.sig)) = true) : (Jvm.Cond.code y bytes mx rt).before a s = true := by
  simp only [Bool.and_eq_true, beq_iff_eq, Bool.not_eq_true', decide_eq_true_eq] at h5
  obtain ⟨⟨⟨⟨⟨g1, g2⟩, g3⟩, g4⟩, g5⟩, g6⟩ := h5
  simp [Cond.before, Cond.holds, Cond.value, h1, h2, h3, h4, g1, g2, g3, g4, g5, g6]
def isCode : Jvm.Cond → Bool
  | .code _ _ _ _ => true
  | _ => false
theorem all_split {L : List Jvm.Cond} {P : Jvm.Cond → Bool} (h1 : L.all (fun c => isCode c || P c) = true) (h2 : ∀ c ∈ L.filter isCode, P c = true) : L.all P = true := by
  refine List.all_eq_true.mpr fun c hc => ?_
  have h := List.all_eq_true.mp h1 c hc
  rcases Bool.eq_false_or_eq_true (isCode c) with hi | hi
  · exact h2 c (List.mem_filter.mpr ⟨hc, hi⟩)
  · simpa [hi] using h
set_option maxRecDepth 65536 in
theorem w_c0 : (Jvm.Cond.code x code maxLocals ret).before args0 about1 = true := code_word (m := ⟨1, 1⟩) (meth := k1m1) (c := k1c1) (by decide +kernel) rfl rfl rfl (by decide +kernel)
set_option maxRecDepth 65536 in
theorem w_c1 : (Jvm.Cond.code ({ cls := "com/example/hangar_deck/hangardeck/apk/SignatureScheme", name := "isReadAt", desc := "(I)Z" } : Jvm.MethodName) prog_39_method_5_code (2 : Nat) (Option.some Jvm.ClassFile.FieldType.boolean)).before args0 about1 = true := code_word (m := ⟨6, 0⟩) (meth := k6m0) (c := k6c0) (by decide +kernel) rfl rfl rfl (by decide +kernel)
def codes1 : List Jvm.Cond := [Jvm.Cond.code x code maxLocals ret, Jvm.Cond.code ({ cls := "com/example/hangar_deck/hangardeck/apk/SignatureScheme", name := "isReadAt", desc := "(I)Z" } : Jvm.MethodName) prog_39_method_5_code (2 : Nat) (Option.some Jvm.ClassFile.FieldType.boolean)]
set_option maxRecDepth 65536 in
theorem codes_eq : words1.filter isCode = codes1 := rfl
theorem w_codes : ∀ c ∈ words1.filter isCode, c.before args0 about1 = true := by
  rw [codes_eq]
  intro c hc
  simp only [codes1, List.mem_cons, List.not_mem_nil, or_false] at hc
  rcases hc with rfl | rfl
  · exact w_c0
  · exact w_c1
set_option maxRecDepth 65536 in
theorem w_t1 : words1.all (fun c => isCode c || c.before args0 about1) = true := by decide +kernel
theorem w_tables : (allAtoms (Jvm.Cond.code x code maxLocals ret :: tables_1)).before args0 about1 = true := by
  rw [allAtoms_all]
  show words1.all (fun c => c.before args0 about1) = true
  refine all_split ?_ w_codes
  rw [w_t1]
set_option maxRecDepth 65536 in
theorem w_case : (Jvm.Cond.and given_1 narrow_1).before args0 about1 = true := by decide +kernel
theorem w_applies : (headSpec (Jvm.Cond.code x code maxLocals ret :: tables_1) room_1).applies x e0.platform about1 = true :=
  (Spec.applies_iff w_frames).mpr ⟨w_running, w_runnable, w_alone, w_named, w_hears, w_ripe, w_room, w_tables⟩
theorem atStart : AtStart classFile x code maxLocals ret World_1 tables_1 room_1 Calls_1 rest_1 Pre_1 launch0 p0 e0 about1 theMethod args0 below0 :=
  ⟨lists_1, trivial, launch0.admits_env _ _ _, launch0.least_env, fairChoices_fair.cas, fairChoices_fair.clock, w_frames, w_args, w_heap, w_applies, trivial, trivial, w_case⟩
end start1
theorem witness_1 : WitnessClaimed_1 := ⟨start1.p0, start1.e0, start1.about1, start1.theMethod, start1.args0, start1.below0, start1.atStart⟩
end Jvm.Pilot.@@N@@
