import JvmDerived
import JvmDerived.Pilot.@@N@@Statement
import JvmDerived.Pilot.@@N@@Code
set_option linter.unusedVariables false
set_option linter.unusedSimpArgs false
namespace Jvm.Pilot.@@N@@
open Jvm Jvm.ClassFile Sem Op Lib Jvm.Free Jvm.Stand Jvm.LawKit Jvm.RoadKit Bundle Jvm.Pilot.@@N@@.Jvm.D
theorem own_w {ws : List Jvm.Cond} {a0 : Array Value} {Z : State} (hw : ∀ d ∈ ws, d.before a0 Z = true) (i : Nat) {d : Jvm.Cond} (h : ws[i]? = some d) : d.before a0 Z = true := hw _ (List.mem_of_getElem? h)
/-- the run comes to a state of which P holds -/
def Rch (tb : Tables) (e : Env) (below : List Frame) (P : State → Prop) (t : State) : Prop := ∃ u, Steps tb e below t u ∧ P u
theorem Rch.st {tb : Tables} {e : Env} {below : List Frame} {P : State → Prop} {t t' : State} (h : ∀ target, Steps tb e below t' target → Steps tb e below t target) (k : Rch tb e below P t') : Rch tb e below P t := by
  obtain ⟨u, h1, h2⟩ := k
  exact ⟨u, h u h1, h2⟩
theorem Rch.tr {tb : Tables} {e : Env} {below : List Frame} {P : State → Prop} {t t' : State} (h : Steps tb e below t t') (k : Rch tb e below P t') : Rch tb e below P t := by
  obtain ⟨u, h1, h2⟩ := k
  exact ⟨u, h.trans h1, h2⟩
theorem Rch.fin {tb : Tables} {e : Env} {below : List Frame} {P : State → Prop} {t u : State} (h : Steps tb e below t u) (k : P u) : Rch tb e below P t := ⟨u, h, k⟩
theorem Rch.out {tb : Tables} {e : Env} {below : List Frame} {P : State → Outcome → Prop} {t : State} (h : Rch tb e below (fun u => ∃ o, P u o) t) : ∃ u o, Steps tb e below t u ∧ P u o := by
  obtain ⟨u, h1, o, h2⟩ := h
  exact ⟨u, o, h1, h2⟩
theorem own_eqInt {t : Term} {n : Int32} {args : Array Value} {s : State} (h : (Cond.eq t (.int n)).value args s none s [] = some true) : t.eval args s none [] s = some (.int n) := by
  have hn : (Term.int n).eval args s none [] s = some (.int n) := rfl
  cases hv : t.eval args s none [] s with
  | none => simp [Cond.value, hv] at h
  | some x => cases x <;> simp [Cond.value, hv, hn] at h ⊢; exact h
theorem own_retI {p : Program} {l : Launch} {e : Env} {R : Room} {s : State} {m : MethodId} {args : Array Value} {below : List Frame} {meth : Method} {c : Code} {T : State} {locs : List Loc} {cells slots : Nat} (X : Stand p l e R s m args below meth c T locs cells slots) (hx : p.tables.exec = Jvm.exec) {pc : Nat} {Ls : Array Slot} {z : Int32} {rest : List Value} (hret : meth.sig.returnType = some .int) (hd : decode c.code pc = .ok (.ireturn, 1)) {fs : List Frame}
    (hl : ∀ (f : JFrame) (acts : List Action), f.method = m → f.locked = none → f.entered = [] → (doReturn e (T.setTop f) acts (some (.int z))).1 = T.setFrames fs) : Steps p.tables e below (T.setTop (mkF m pc Ls (.int z :: rest))) (T.setFrames fs) :=
  retOut X hx hret rfl (Or.inl ⟨rfl, Or.inl rfl, z, rfl⟩) hd hl
theorem own_retA {p : Program} {l : Launch} {e : Env} {R : Room} {s : State} {m : MethodId} {args : Array Value} {below : List Frame} {meth : Method} {c : Code} {T : State} {locs : List Loc} {cells slots : Nat} (X : Stand p l e R s m args below meth c T locs cells slots) (hx : p.tables.exec = Jvm.exec) {pc : Nat} {Ls : Array Slot} {w : Value} {t : FieldType} {rest : List Value} (hret : meth.sig.returnType = some t) (hn : narrow t w = w) (ht : t.isReference = true) (hw : w.isRef = true) (hd : decode c.code pc = .ok (.areturn, 1)) {fs : List Frame}
    (hl : ∀ (f : JFrame) (acts : List Action), f.method = m → f.locked = none → f.entered = [] → (doReturn e (T.setTop f) acts (some w)).1 = T.setFrames fs) : Steps p.tables e below (T.setTop (mkF m pc Ls (w :: rest))) (T.setFrames fs) :=
  retOut X hx hret hn (Or.inr (Or.inr (Or.inr (Or.inr ⟨rfl, ht, hw⟩)))) hd hl
theorem own_retJ {p : Program} {l : Launch} {e : Env} {R : Room} {s : State} {m : MethodId} {args : Array Value} {below : List Frame} {meth : Method} {c : Code} {T : State} {locs : List Loc} {cells slots : Nat} (X : Stand p l e R s m args below meth c T locs cells slots) (hx : p.tables.exec = Jvm.exec) {pc : Nat} {Ls : Array Slot} {z : Int64} {rest : List Value} (hret : meth.sig.returnType = some .long) (hd : decode c.code pc = .ok (.lreturn, 1)) {fs : List Frame}
    (hl : ∀ (f : JFrame) (acts : List Action), f.method = m → f.locked = none → f.entered = [] → (doReturn e (T.setTop f) acts (some (.long z))).1 = T.setFrames fs) : Steps p.tables e below (T.setTop (mkF m pc Ls (.long z :: rest))) (T.setFrames fs) :=
  retOut X hx hret rfl (Or.inr (Or.inl ⟨rfl, rfl, z, rfl⟩)) hd hl
theorem own_retD {p : Program} {l : Launch} {e : Env} {R : Room} {s : State} {m : MethodId} {args : Array Value} {below : List Frame} {meth : Method} {c : Code} {T : State} {locs : List Loc} {cells slots : Nat} (X : Stand p l e R s m args below meth c T locs cells slots) (hx : p.tables.exec = Jvm.exec) {pc : Nat} {Ls : Array Slot} {z : UInt64} {rest : List Value} (hret : meth.sig.returnType = some .double) (hd : decode c.code pc = .ok (.dreturn, 1)) {fs : List Frame}
    (hl : ∀ (f : JFrame) (acts : List Action), f.method = m → f.locked = none → f.entered = [] → (doReturn e (T.setTop f) acts (some (.double z))).1 = T.setFrames fs) : Steps p.tables e below (T.setTop (mkF m pc Ls (.double z :: rest))) (T.setFrames fs) :=
  retOut X hx hret rfl (Or.inr (Or.inr (Or.inl ⟨rfl, rfl, z, rfl⟩))) hd hl

theorem own_len {args : Array Value} {Z : State} {t : Term} {a : Addr} {cl : Cell} {ty : FieldType} {z : Int32} (ev : t.eval args Z none [] Z = some (.ref a)) (A : Arr Z Z.heap a cl ty) (h : (Term.length t).eval args Z none [] Z = some (.int z)) : cl.slots.size < 2 ^ 31 ∧ cl.slots.size.toInt32 = z := by
  have q := Arr.fin (Vm.Alike.refl _) A
  by_cases hl : cl.slots.size < 2 ^ 31
  · rw [len_f ev q hl] at h
    exact ⟨hl, Value.int.inj (Option.some.inj h)⟩
  · simp [Term.eval, ev, q, hl] at h
theorem own_eqR {args : Array Value} {s : State} {a b : Term} {y : Addr} (hb : b.eval args s none [] s = some (.ref y)) (h : (Cond.eq a b).value args s none s [] = some true) : a.eval args s none [] s = some (.ref y) := by
  cases hv : a.eval args s none [] s with
  | none => simp [Cond.value, hv] at h
  | some x => cases x <;> simp [Cond.value, hv, hb] at h ⊢; exact h
theorem d2_0 : decode prog_39_method_1_code 0 = .ok (.getstatic 13, 3) := by decide +kernel
theorem d2_3 : decode prog_39_method_1_code 3 = .ok (.invokevirtual 17, 3) := by decide +kernel
theorem d2_6 : decode prog_39_method_1_code 6 = .ok (.checkcast 18, 3) := by decide +kernel
theorem d2_9 : decode prog_39_method_1_code 9 = .ok (.areturn, 1) := by decide +kernel
def Q_cvalues (Z : State) (kv : ClassId) (wv : Addr) (v1 : Addr) (v2 : Addr) (v3 : Addr) (h0 : Heap) (n0 : Nat) (v : Option Value) (h : Heap) (L : List Loc) : Prop := ∃ (r : Addr), v = some (.ref r) ∧ Fr n0 L ∧ Keep h0 h [] ∧ Old Z n0 h ∧ h0.size ≤ r ∧ Arv Z h r kv (.object "com/example/hangar_deck/hangardeck/apk/SignatureScheme") (3 : Int32) [(.ref v1), (.ref v2), (.ref v3)] .null ∧ Exa Z h r "[Lcom/example/hangar_deck/hangardeck/apk/SignatureScheme;"
theorem pn_com_example_hangar_deck_hangardeck_apk_SignatureScheme : plainName "com/example/hangar_deck/hangardeck/apk/SignatureScheme" = true := by first | (simp [plainName, overriddenIn]; done) | decide +kernel
theorem ef_cvalues (m : MethodId) (kv : ClassId) (wv : Addr) (v1 : Addr) (v2 : Addr) (v3 : Addr) : entryFrame m #[] 0 = mkF m 0 #[] [] := by first | (simp [entryFrame, mkF, argsToLocals, Value.category]; done) | rfl
set_option maxRecDepth 65536 in
set_option maxHeartbeats 40000000 in
theorem cvalues (l : Launch) (Z : State) (a0 : Array Value) (hw : ∀ d ∈ tables_1, d.before a0 Z = true) (ws : List Jvm.Cond) (kv : ClassId) (wv : Addr) (v1 : Addr) (v2 : Addr) (v3 : Addr) (h0 : Heap) (n0 : Nat) (D0 : Sta Z Z.heap "com/example/hangar_deck/hangardeck/apk/SignatureScheme" "$VALUES" "[Lcom/example/hangar_deck/hangardeck/apk/SignatureScheme;" (.ref wv)) (D1 : Arv Z Z.heap wv kv (.object "com/example/hangar_deck/hangardeck/apk/SignatureScheme") (3 : Int32) [(.ref v1), (.ref v2), (.ref v3)] .null) (D2 : Exa Z Z.heap wv "[Lcom/example/hangar_deck/hangardeck/apk/SignatureScheme;") (P0 : Old Z n0 h0) (hfit : Fit Z) :
    MetFree l (⟨"com/example/hangar_deck/hangardeck/apk/SignatureScheme", "values", "()[Lcom/example/hangar_deck/hangardeck/apk/SignatureScheme;"⟩ : MethodName) (head1 (Jvm.Cond.code (⟨"com/example/hangar_deck/hangardeck/apk/SignatureScheme", "values", "()[Lcom/example/hangar_deck/hangardeck/apk/SignatureScheme;"⟩ : MethodName) prog_39_method_1_code 0 (some (.array (.object "com/example/hangar_deck/hangardeck/apk/SignatureScheme"))) :: ws) ({ frames := 1, cells := 1, slots := 3, locals := 14 } : Room)) (fun aA uU => aA = #[] ∧ Z.Warmed39 uU.vm ∧ uU.heap = h0) (fun _ _ _ _ _ => True) (fun _ uU oO uU' => ∃ vV lL, oO = .returned vV ∧ Q_cvalues Z kv wv v1 v2 v3 h0 n0 vV uU'.heap lL ∧ FrameEnd uU oO uU' lL ({ frames := 1, cells := 1, slots := 3, locals := 14 } : Room).cells ({ frames := 1, cells := 1, slots := 3, locals := 14 } : Room).slots) := by
  refine MetFree.of_bodySF (plainFor_of_name pn_com_example_hangar_deck_hangardeck_apk_SignatureScheme) hisR ?_
  intro p e s m args below meth c s₁ Bd hml0 hP hK
  obtain ⟨rfl, hZ, hh⟩ := hP
  have hx := Bd.exec
  have hby := Bd.bytes
  have hml : c.maxLocals = 0 := hml0
  have hown : s.vm.findClass "com/example/hangar_deck/hangardeck/apk/SignatureScheme" = some m.cls := findClass_of_methodNamed Bd.named
  have hnm := (name_of_methodNamed Bd.named Bd.method).1
  have X0 : Stand p l e ({ frames := 1, cells := 1, slots := 3, locals := 14 } : Room) s m #[] below meth c s₁ [] 0 0 := Stand.of_body Bd
  have e0 : s₁.heap = h0 := by rw [← hh, Bd.state]; rfl
  have N0 := Fr.nil n0
  refine Rch.out (Rch.st (fun t k => castTop (ef_cvalues m kv wv v1 v2 v3) k) ?_)
  show Rch p.tables e below _ (s₁.setTop (mkF m 0 #[] []))
  obtain ⟨T1, X1, e1, st1⟩ := getS2 X0 hx hZ hown (host := "") (Or.inl (own_w hw 7 rfl)) Via.refl e0 (D0.ext P0.2) (g := (mkF m 0 #[] [])) rfl (hb hby d2_0)
  refine Rch.st st1 ?_
  show Rch p.tables e below _ (T1.setTop (mkF m 3 #[] [(.ref wv)]))
  obtain ⟨cl2, Ar2, qk2, Sz2, Ng2, Ha2, Gf2⟩ := D1
  obtain ⟨T2, h2, X2, e2, E2, A2, B2, st2⟩ := cloneA X1 hx hZ hown (own_w hw 9 rfl) (own_w hw 10 rfl) (own_w hw 14 rfl) (own_w hw 12 rfl) (own_w hw 13 rfl) (own_w hw 15 rfl) e1 (Ar2.ext P0.2) (D2.ext P0.2) (FitC.start hfit Ar2) (g := (mkF m 3 #[] [(.ref wv)])) rfl (by rw [hml]; rfl) rfl (hb hby d2_3) (by decide) (W := 0) (cap := 3) (by show 2 * 0 + _ ≤ _; exact Nat.le_of_eq rfl) (by decide) (by rw [Sz2]; decide) (by decide) (by decide)
  obtain ⟨b2, g2⟩ : ∃ z, z = h0.size := ⟨_, rfl⟩
  rw [← g2] at A2 B2 st2
  refine Rch.st st2 ?_
  have q2 : h0.size ≤ b2 := Nat.le_of_eq g2.symm
  have g_b2 : n0 ≤ b2 := Nat.le_trans (Nat.le_trans (Nat.le_of_eq P0.1.symm) P0.2.1) q2
  have sz_b2 : h0.size ≤ b2 := Nat.le_trans (Keep.refl h0 []).1 q2
  have K3 : Keep h0 h2 [] := (Keep.refl h0 []).ext E2
  have V2 : Arv Z h2 b2 kv (.object "com/example/hangar_deck/hangardeck/apk/SignatureScheme") (3 : Int32) [(.ref v1), (.ref v2), (.ref v3)] .null := ⟨_, A2, qk2, Sz2, Ng2, Ha2, Gf2⟩
  show Rch p.tables e below _ (T2.setTop (mkF m 6 #[] [(.ref b2)]))
  obtain ⟨T4, X4, e4, st4⟩ := castY X2 hx hZ hown (own_w hw 20 rfl) e2 (Ins.self B2) (g := (mkF m 6 #[] [(.ref b2)])) rfl rfl (hb hby d2_6)
  refine Rch.st st4 ?_
  show Rch p.tables e below _ (T4.setTop (mkF m 9 #[] [(.ref b2)]))
  obtain ⟨fs, hr, hrun, hended, hW, hsame⟩ := X4.leave (v := some (.ref b2)) (fun h => by rw [Bd.returns] at h; cases h)
  have f5 : Old Z n0 h2 := (P0.ext E2)
  refine Rch.fin (u := T4.setFrames fs) (own_retA X4 hx Bd.returns rfl rfl rfl (hb hby d2_9) hr) ⟨_, hrun, hended, _, _, rfl, ?_, ⟨_, rfl⟩, hW, hsame.mono (by decide) (by decide)⟩
  show Q_cvalues Z kv wv v1 v2 v3 h0 n0 _ T4.heap _
  rw [e4]
  exact ⟨b2, rfl, N0, K3, f5, sz_b2, V2, B2⟩
theorem d1_0 : decode prog_39_method_9_code 0 = .ok (.aconst_null, 1) := by decide +kernel
theorem d1_1 : decode prog_39_method_9_code 1 = .ok (.astore_n 1, 1) := by decide +kernel
theorem d1_2 : decode prog_39_method_9_code 2 = .ok (.invokestatic 46, 3) := by decide +kernel
theorem pd_0 : parseMethodDescriptor "()[Lcom/example/hangar_deck/hangardeck/apk/SignatureScheme;" = some ⟨[], some (.array (.object "com/example/hangar_deck/hangardeck/apk/SignatureScheme"))⟩ := by decide +kernel
theorem d1_5 : decode prog_39_method_9_code 5 = .ok (.astore_n 2, 1) := by decide +kernel
theorem d1_6 : decode prog_39_method_9_code 6 = .ok (.aload_n 2, 1) := by decide +kernel
theorem d1_7 : decode prog_39_method_9_code 7 = .ok (.arraylength, 1) := by decide +kernel
theorem d1_8 : decode prog_39_method_9_code 8 = .ok (.istore_n 3, 1) := by decide +kernel
theorem d1_9 : decode prog_39_method_9_code 9 = .ok (.iconst 0, 1) := by decide +kernel
theorem d1_10 : decode prog_39_method_9_code 10 = .ok (.istore 4, 2) := by decide +kernel
theorem d1_12 : decode prog_39_method_9_code 12 = .ok (.iload 4, 2) := by decide +kernel
theorem d1_14 : decode prog_39_method_9_code 14 = .ok (.iload_n 3, 1) := by decide +kernel
theorem d1_15 : decode prog_39_method_9_code 15 = .ok (.if_icmp .ge 31, 3) := by decide +kernel
theorem d1_18 : decode prog_39_method_9_code 18 = .ok (.aload_n 2, 1) := by decide +kernel
theorem d1_19 : decode prog_39_method_9_code 19 = .ok (.iload 4, 2) := by decide +kernel
theorem d1_21 : decode prog_39_method_9_code 21 = .ok (.aaload, 1) := by decide +kernel
theorem d1_22 : decode prog_39_method_9_code 22 = .ok (.astore 5, 2) := by decide +kernel
theorem d1_24 : decode prog_39_method_9_code 24 = .ok (.iload_n 0, 1) := by decide +kernel
theorem d1_25 : decode prog_39_method_9_code 25 = .ok (.ifCond .eq 15, 3) := by decide +kernel
theorem d1_28 : decode prog_39_method_9_code 28 = .ok (.aload 5, 2) := by decide +kernel
theorem d1_30 : decode prog_39_method_9_code 30 = .ok (.getfield 40, 3) := by decide +kernel
theorem d1_33 : decode prog_39_method_9_code 33 = .ok (.iload_n 0, 1) := by decide +kernel
theorem d1_34 : decode prog_39_method_9_code 34 = .ok (.if_icmp .ne 6, 3) := by decide +kernel
theorem d1_40 : decode prog_39_method_9_code 40 = .ok (.iinc 4 1, 3) := by decide +kernel
theorem d1_43 : decode prog_39_method_9_code 43 = .ok (.goto (-31), 3) := by decide +kernel
theorem d1_37 : decode prog_39_method_9_code 37 = .ok (.aload 5, 2) := by decide +kernel
theorem d1_39 : decode prog_39_method_9_code 39 = .ok (.astore_n 1, 1) := by decide +kernel
theorem d1_46 : decode prog_39_method_9_code 46 = .ok (.aload_n 1, 1) := by decide +kernel
theorem d1_47 : decode prog_39_method_9_code 47 = .ok (.areturn, 1) := by decide +kernel
def Q_cwith2 (Z : State) (pi : Int32) (kv : ClassId) (wv : Addr) (v1 : Addr) (v2 : Addr) (v3 : Addr) (h0 : Heap) (n0 : Nat) (v : Option Value) (h : Heap) (L : List Loc) : Prop := v = some (.ref v2) ∧ Fr n0 L ∧ Keep h0 h [] ∧ Old Z n0 h
theorem ef_cwith2 (m : MethodId) (pi : Int32) (kv : ClassId) (wv : Addr) (v1 : Addr) (v2 : Addr) (v3 : Addr) : entryFrame m #[(.int pi)] 6 = mkF m 0 #[.val (.int pi), .unset, .unset, .unset, .unset, .unset] [] := by first | (simp [entryFrame, mkF, argsToLocals, Value.category]; done) | rfl
set_option maxRecDepth 65536 in
set_option maxHeartbeats 40000000 in
theorem cwith2 (l : Launch) (Z : State) (a0 : Array Value) (hw : ∀ d ∈ tables_1, d.before a0 Z = true) (ws : List Jvm.Cond) (pi : Int32) (kv : ClassId) (wv : Addr) (v1 : Addr) (v2 : Addr) (v3 : Addr) (h0 : Heap) (n0 : Nat) (D0 : Sta Z Z.heap "com/example/hangar_deck/hangardeck/apk/SignatureScheme" "$VALUES" "[Lcom/example/hangar_deck/hangardeck/apk/SignatureScheme;" (.ref wv)) (D1 : Arv Z Z.heap wv kv (.object "com/example/hangar_deck/hangardeck/apk/SignatureScheme") (3 : Int32) [(.ref v1), (.ref v2), (.ref v3)] .null) (D2 : Exa Z Z.heap wv "[Lcom/example/hangar_deck/hangardeck/apk/SignatureScheme;") (D3 : Fld Z Z.heap v1 "com/example/hangar_deck/hangardeck/apk/SignatureScheme" "id" "I" (.int (0 : Int32))) (D4 : Fld Z Z.heap v2 "com/example/hangar_deck/hangardeck/apk/SignatureScheme" "id" "I" (.int (2 : Int32))) (D5 : Fld Z Z.heap v3 "com/example/hangar_deck/hangardeck/apk/SignatureScheme" "id" "I" (.int (3 : Int32))) (P0 : Old Z n0 h0) (hfit : Fit Z) (h0q : ¬ pi = (0 : Int32)) (h1q : ¬ (0 : Int32) = pi) (h2q : (2 : Int32) = pi) (h3q : ¬ (3 : Int32) = pi) :
    MetFree l (⟨"com/example/hangar_deck/hangardeck/apk/SignatureScheme", "withId", "(I)Lcom/example/hangar_deck/hangardeck/apk/SignatureScheme;"⟩ : MethodName) (head1 (Jvm.Cond.code (⟨"com/example/hangar_deck/hangardeck/apk/SignatureScheme", "withId", "(I)Lcom/example/hangar_deck/hangardeck/apk/SignatureScheme;"⟩ : MethodName) prog_39_method_9_code 6 (some (.object "com/example/hangar_deck/hangardeck/apk/SignatureScheme")) :: ws) ({ frames := 2, cells := 1, slots := 3, locals := 25 } : Room)) (fun aA uU => aA = #[(.int pi)] ∧ Z.Warmed39 uU.vm ∧ uU.heap = h0) (fun _ _ _ _ _ => True) (fun _ uU oO uU' => ∃ vV lL, oO = .returned vV ∧ Q_cwith2 Z pi kv wv v1 v2 v3 h0 n0 vV uU'.heap lL ∧ FrameEnd uU oO uU' lL ({ frames := 2, cells := 1, slots := 3, locals := 25 } : Room).cells ({ frames := 2, cells := 1, slots := 3, locals := 25 } : Room).slots) := by
  refine MetFree.of_bodySF (plainFor_of_name pn_com_example_hangar_deck_hangardeck_apk_SignatureScheme) hisR ?_
  intro p e s m args below meth c s₁ Bd hml0 hP hK
  obtain ⟨rfl, hZ, hh⟩ := hP
  have hx := Bd.exec
  have hby := Bd.bytes
  have hml : c.maxLocals = 6 := hml0
  have hown : s.vm.findClass "com/example/hangar_deck/hangardeck/apk/SignatureScheme" = some m.cls := findClass_of_methodNamed Bd.named
  have hnm := (name_of_methodNamed Bd.named Bd.method).1
  have X0 : Stand p l e ({ frames := 2, cells := 1, slots := 3, locals := 25 } : Room) s m #[(.int pi)] below meth c s₁ [] 0 0 := Stand.of_body Bd
  have e0 : s₁.heap = h0 := by rw [← hh, Bd.state]; rfl
  have N0 := Fr.nil n0
  refine Rch.out (Rch.st (fun t k => castTop (ef_cwith2 m pi kv wv v1 v2 v3) k) ?_)
  show Rch p.tables e below _ (s₁.setTop (mkF m 0 #[.val (.int pi), .unset, .unset, .unset, .unset, .unset] []))
  refine Rch.st (fun _ hr => XS.aconstNull X0.here hx rfl (hb hby d1_0) hr) ?_
  show Rch p.tables e below _ (s₁.setTop (mkF m 1 #[.val (.int pi), .unset, .unset, .unset, .unset, .unset] [.null]))
  refine Rch.st (fun _ hr => XS.astoreN X0.here hx rfl (hb hby d1_1) rfl rfl (l' := #[.val (.int pi), .val .null, .unset, .unset, .unset, .unset]) rfl hr) ?_
  show Rch p.tables e below _ (s₁.setTop (mkF m 2 #[.val (.int pi), .val .null, .unset, .unset, .unset, .unset] []))
  obtain ⟨_, _, ⟨T1, L1, k1, n1⟩, -, X1, ⟨Lc1, hQ1, l1, y1, z1⟩, st1⟩ := Jvm.LawKit.callS X0 hx (y := (⟨"com/example/hangar_deck/hangardeck/apk/SignatureScheme", "values", "()[Lcom/example/hangar_deck/hangardeck/apk/SignatureScheme;"⟩ : MethodName)) hown (mvT hZ (own_w hw 4 rfl)) (mvT hZ (own_w hw 5 rfl)) (mvT hZ (own_w hw 2 rfl)) (mvT hZ (own_w hw 6 rfl)) (by decide) (backOf (W := 0) (cvalues l Z a0 hw [] kv wv v1 v2 v3 h0 n0 D0 D1 D2 P0 hfit) hZ (own_w hw 6 rfl) (own_w hw 2 rfl) (by decide) (by decide)) (g := (mkF m 2 #[.val (.int pi), .val .null, .unset, .unset, .unset, .unset] [])) rfl (by rw [hml]; rfl) (argsL := []) (rest := []) (lenOf pd_0 rfl) rfl (by show 2 * 0 + _ ≤ _; exact Nat.le_of_eq rfl) (hb hby d1_2) (fun _ _ => ⟨rfl, e0, (by decide : 0 + 1 ≤ _), (by decide : 0 + 3 ≤ _)⟩)
  dsimp only [Pt.U, Pt.locs, Pt.cells, Pt.slots] at X1 l1 y1 z1 st1 hQ1
  subst l1 y1 z1
  obtain ⟨r_1, rfl, N1q, Kp1, Op1, R1_0, R1_1, R1_2⟩ := hQ1
  have N1 := Fr.app N0 N1q
  refine Rch.st st1 ?_
  have g_r_1 : n0 ≤ r_1 := Nat.le_trans (Nat.le_trans (Nat.le_of_eq P0.1.symm) P0.2.1) R1_0
  have sz_r_1 : h0.size ≤ r_1 := Nat.le_trans (Keep.refl h0 []).1 R1_0
  have K2 : Keep h0 T1.heap [] := (Keep.refl h0 []).trans Kp1 all0
  show Rch p.tables e below _ (T1.setTop (mkF m 5 #[.val (.int pi), .val .null, .unset, .unset, .unset, .unset] [(.ref r_1)]))
  refine Rch.st (fun _ hr => XS.astoreN X1.here hx rfl (hb hby d1_5) rfl rfl (l' := #[.val (.int pi), .val .null, .val (.ref r_1), .unset, .unset, .unset]) rfl hr) ?_
  show Rch p.tables e below _ (T1.setTop (mkF m 6 #[.val (.int pi), .val .null, .val (.ref r_1), .unset, .unset, .unset] []))
  refine Rch.st (fun _ hr => XS.aloadN X1.here hx rfl (hb hby d1_6) rfl rfl hr) ?_
  show Rch p.tables e below _ (T1.setTop (mkF m 7 #[.val (.int pi), .val .null, .val (.ref r_1), .unset, .unset, .unset] [(.ref r_1)]))
  obtain ⟨cl3, Ar3, -, Sz3, Ng3, -, -⟩ := id R1_1
  refine Rch.st (fun t hr => X1.arraylength hx Ar3.1 (State.isArrayOf_alike hZ.alike Ar3.2.1) (g := (mkF m 7 #[.val (.int pi), .val .null, .val (.ref r_1), .unset, .unset, .unset] [(.ref r_1)])) rfl rfl (hb hby d1_7) t hr) ?_
  rw [len_of Sz3 Ng3]
  show Rch p.tables e below _ (T1.setTop (mkF m 8 #[.val (.int pi), .val .null, .val (.ref r_1), .unset, .unset, .unset] [(.int (3 : Int32))]))
  refine Rch.st (fun _ hr => XS.istoreN X1.here hx rfl (hb hby d1_8) rfl (l' := #[.val (.int pi), .val .null, .val (.ref r_1), .val (.int (3 : Int32)), .unset, .unset]) rfl hr) ?_
  show Rch p.tables e below _ (T1.setTop (mkF m 9 #[.val (.int pi), .val .null, .val (.ref r_1), .val (.int (3 : Int32)), .unset, .unset] []))
  refine Rch.st (fun _ hr => XS.iconst X1.here hx rfl (hb hby d1_9) hr) ?_
  show Rch p.tables e below _ (T1.setTop (mkF m 10 #[.val (.int pi), .val .null, .val (.ref r_1), .val (.int (3 : Int32)), .unset, .unset] [(.int (0 : Int32))]))
  refine Rch.st (fun _ hr => XS.istore X1.here hx rfl (hb hby d1_10) rfl (l' := #[.val (.int pi), .val .null, .val (.ref r_1), .val (.int (3 : Int32)), .val (.int (0 : Int32)), .unset]) rfl hr) ?_
  show Rch p.tables e below _ (T1.setTop (mkF m 12 #[.val (.int pi), .val .null, .val (.ref r_1), .val (.int (3 : Int32)), .val (.int (0 : Int32)), .unset] []))
  refine Rch.st (fun _ hr => XS.iload X1.here hx rfl (hb hby d1_12) rfl hr) ?_
  show Rch p.tables e below _ (T1.setTop (mkF m 14 #[.val (.int pi), .val .null, .val (.ref r_1), .val (.int (3 : Int32)), .val (.int (0 : Int32)), .unset] [(.int (0 : Int32))]))
  refine Rch.st (fun _ hr => XS.iloadN X1.here hx rfl (hb hby d1_14) rfl hr) ?_
  show Rch p.tables e below _ (T1.setTop (mkF m 15 #[.val (.int pi), .val .null, .val (.ref r_1), .val (.int (3 : Int32)), .val (.int (0 : Int32)), .unset] [(.int (3 : Int32)), (.int (0 : Int32))]))
  refine Rch.st (fun _ hr => XS.icmpNo X1.here hx rfl (hb hby d1_15) rfl (tlt (by decide : (0 : Int32) < (3 : Int32))).2.1 hr) ?_
  show Rch p.tables e below _ (T1.setTop (mkF m 18 #[.val (.int pi), .val .null, .val (.ref r_1), .val (.int (3 : Int32)), .val (.int (0 : Int32)), .unset] []))
  refine Rch.st (fun _ hr => XS.aloadN X1.here hx rfl (hb hby d1_18) rfl rfl hr) ?_
  show Rch p.tables e below _ (T1.setTop (mkF m 19 #[.val (.int pi), .val .null, .val (.ref r_1), .val (.int (3 : Int32)), .val (.int (0 : Int32)), .unset] [(.ref r_1)]))
  refine Rch.st (fun _ hr => XS.iload X1.here hx rfl (hb hby d1_19) rfl hr) ?_
  show Rch p.tables e below _ (T1.setTop (mkF m 21 #[.val (.int pi), .val .null, .val (.ref r_1), .val (.int (3 : Int32)), .val (.int (0 : Int32)), .unset] [(.int (0 : Int32)), (.ref r_1)]))
  obtain ⟨cl4, Ar4, -, Sz4, Ng4, Ha4, -⟩ := id R1_1
  have hin4 := inb_of (j := (0 : Int32)) Sz4 ⟨by decide, by decide⟩
  have hat4 := Ha4.at hin4 (v := (.ref v1)) rfl
  refine Rch.st (fun t hr => X1.aaload hx (j := (0 : Int32)) (v := (.ref v1)) Ar4.1 (State.isArrayOf_alike hZ.alike Ar4.2.1) rfl Ar4.2.2 hin4 hat4 (g := (mkF m 21 #[.val (.int pi), .val .null, .val (.ref r_1), .val (.int (3 : Int32)), .val (.int (0 : Int32)), .unset] [(.int (0 : Int32)), (.ref r_1)])) rfl rfl (hb hby d1_21) t hr) ?_
  show Rch p.tables e below _ (T1.setTop (mkF m 22 #[.val (.int pi), .val .null, .val (.ref r_1), .val (.int (3 : Int32)), .val (.int (0 : Int32)), .unset] [(.ref v1)]))
  refine Rch.st (fun _ hr => XS.astore X1.here hx rfl (hb hby d1_22) rfl rfl (l' := #[.val (.int pi), .val .null, .val (.ref r_1), .val (.int (3 : Int32)), .val (.int (0 : Int32)), .val (.ref v1)]) rfl hr) ?_
  show Rch p.tables e below _ (T1.setTop (mkF m 24 #[.val (.int pi), .val .null, .val (.ref r_1), .val (.int (3 : Int32)), .val (.int (0 : Int32)), .val (.ref v1)] []))
  refine Rch.st (fun _ hr => XS.iloadN X1.here hx rfl (hb hby d1_24) rfl hr) ?_
  show Rch p.tables e below _ (T1.setTop (mkF m 25 #[.val (.int pi), .val .null, .val (.ref r_1), .val (.int (3 : Int32)), .val (.int (0 : Int32)), .val (.ref v1)] [(.int pi)]))
  refine Rch.st (fun _ hr => XS.ifNo X1.here hx rfl (hb hby d1_25) rfl ((if0 _ _).trans (feq h0q).1) hr) ?_
  show Rch p.tables e below _ (T1.setTop (mkF m 28 #[.val (.int pi), .val .null, .val (.ref r_1), .val (.int (3 : Int32)), .val (.int (0 : Int32)), .val (.ref v1)] []))
  refine Rch.st (fun _ hr => XS.aload X1.here hx rfl (hb hby d1_28) rfl rfl hr) ?_
  show Rch p.tables e below _ (T1.setTop (mkF m 30 #[.val (.int pi), .val .null, .val (.ref r_1), .val (.int (3 : Int32)), .val (.int (0 : Int32)), .val (.ref v1)] [(.ref v1)]))
  obtain ⟨T5, X5, e5, st5⟩ := getF X1 hx hZ hown (host := "") (Or.inl (own_w hw 22 rfl)) Via.refl rfl (D3.ext Op1.2) (g := (mkF m 30 #[.val (.int pi), .val .null, .val (.ref r_1), .val (.int (3 : Int32)), .val (.int (0 : Int32)), .val (.ref v1)] [(.ref v1)])) rfl rfl (hb hby d1_30)
  refine Rch.st st5 ?_
  show Rch p.tables e below _ (T5.setTop (mkF m 33 #[.val (.int pi), .val .null, .val (.ref r_1), .val (.int (3 : Int32)), .val (.int (0 : Int32)), .val (.ref v1)] [(.int (0 : Int32))]))
  refine Rch.st (fun _ hr => XS.iloadN X5.here hx rfl (hb hby d1_33) rfl hr) ?_
  show Rch p.tables e below _ (T5.setTop (mkF m 34 #[.val (.int pi), .val .null, .val (.ref r_1), .val (.int (3 : Int32)), .val (.int (0 : Int32)), .val (.ref v1)] [(.int pi), (.int (0 : Int32))]))
  refine Rch.st (fun _ hr => XS.icmpYes X5.here hx rfl (pc0 := 34) (pc' := 40) rfl (hb hby d1_34) rfl (feq h1q).2 (by decide) (by decide) hr) ?_
  show Rch p.tables e below _ (T5.setTop (mkF m 40 #[.val (.int pi), .val .null, .val (.ref r_1), .val (.int (3 : Int32)), .val (.int (0 : Int32)), .val (.ref v1)] []))
  refine Rch.st (fun _ hr => XS.iinc X5.here hx rfl (hb hby d1_40) rfl (l' := #[.val (.int pi), .val .null, .val (.ref r_1), .val (.int (3 : Int32)), .val (.int (1 : Int32)), .val (.ref v1)]) rfl hr) ?_
  show Rch p.tables e below _ (T5.setTop (mkF m 43 #[.val (.int pi), .val .null, .val (.ref r_1), .val (.int (3 : Int32)), .val (.int (1 : Int32)), .val (.ref v1)] []))
  refine Rch.st (fun _ hr => XS.goto X5.here hx rfl (pc0 := 43) (pc' := 12) rfl (hb hby d1_43) (by decide) (by decide) hr) ?_
  show Rch p.tables e below _ (T5.setTop (mkF m 12 #[.val (.int pi), .val .null, .val (.ref r_1), .val (.int (3 : Int32)), .val (.int (1 : Int32)), .val (.ref v1)] []))
  refine Rch.st (fun _ hr => XS.iload X5.here hx rfl (hb hby d1_12) rfl hr) ?_
  show Rch p.tables e below _ (T5.setTop (mkF m 14 #[.val (.int pi), .val .null, .val (.ref r_1), .val (.int (3 : Int32)), .val (.int (1 : Int32)), .val (.ref v1)] [(.int (1 : Int32))]))
  refine Rch.st (fun _ hr => XS.iloadN X5.here hx rfl (hb hby d1_14) rfl hr) ?_
  show Rch p.tables e below _ (T5.setTop (mkF m 15 #[.val (.int pi), .val .null, .val (.ref r_1), .val (.int (3 : Int32)), .val (.int (1 : Int32)), .val (.ref v1)] [(.int (3 : Int32)), (.int (1 : Int32))]))
  refine Rch.st (fun _ hr => XS.icmpNo X5.here hx rfl (hb hby d1_15) rfl (tlt (by decide : (1 : Int32) < (3 : Int32))).2.1 hr) ?_
  show Rch p.tables e below _ (T5.setTop (mkF m 18 #[.val (.int pi), .val .null, .val (.ref r_1), .val (.int (3 : Int32)), .val (.int (1 : Int32)), .val (.ref v1)] []))
  refine Rch.st (fun _ hr => XS.aloadN X5.here hx rfl (hb hby d1_18) rfl rfl hr) ?_
  show Rch p.tables e below _ (T5.setTop (mkF m 19 #[.val (.int pi), .val .null, .val (.ref r_1), .val (.int (3 : Int32)), .val (.int (1 : Int32)), .val (.ref v1)] [(.ref r_1)]))
  refine Rch.st (fun _ hr => XS.iload X5.here hx rfl (hb hby d1_19) rfl hr) ?_
  show Rch p.tables e below _ (T5.setTop (mkF m 21 #[.val (.int pi), .val .null, .val (.ref r_1), .val (.int (3 : Int32)), .val (.int (1 : Int32)), .val (.ref v1)] [(.int (1 : Int32)), (.ref r_1)]))
  obtain ⟨cl6, Ar6, -, Sz6, Ng6, Ha6, -⟩ := id R1_1
  have hin6 := inb_of (j := (1 : Int32)) Sz6 ⟨by decide, by decide⟩
  have hat6 := Ha6.at hin6 (v := (.ref v2)) rfl
  refine Rch.st (fun t hr => X5.aaload hx (j := (1 : Int32)) (v := (.ref v2)) (by rw [e5]; exact Ar6.1) (State.isArrayOf_alike hZ.alike Ar6.2.1) rfl Ar6.2.2 hin6 hat6 (g := (mkF m 21 #[.val (.int pi), .val .null, .val (.ref r_1), .val (.int (3 : Int32)), .val (.int (1 : Int32)), .val (.ref v1)] [(.int (1 : Int32)), (.ref r_1)])) rfl rfl (hb hby d1_21) t hr) ?_
  show Rch p.tables e below _ (T5.setTop (mkF m 22 #[.val (.int pi), .val .null, .val (.ref r_1), .val (.int (3 : Int32)), .val (.int (1 : Int32)), .val (.ref v1)] [(.ref v2)]))
  refine Rch.st (fun _ hr => XS.astore X5.here hx rfl (hb hby d1_22) rfl rfl (l' := #[.val (.int pi), .val .null, .val (.ref r_1), .val (.int (3 : Int32)), .val (.int (1 : Int32)), .val (.ref v2)]) rfl hr) ?_
  show Rch p.tables e below _ (T5.setTop (mkF m 24 #[.val (.int pi), .val .null, .val (.ref r_1), .val (.int (3 : Int32)), .val (.int (1 : Int32)), .val (.ref v2)] []))
  refine Rch.st (fun _ hr => XS.iloadN X5.here hx rfl (hb hby d1_24) rfl hr) ?_
  show Rch p.tables e below _ (T5.setTop (mkF m 25 #[.val (.int pi), .val .null, .val (.ref r_1), .val (.int (3 : Int32)), .val (.int (1 : Int32)), .val (.ref v2)] [(.int pi)]))
  refine Rch.st (fun _ hr => XS.ifNo X5.here hx rfl (hb hby d1_25) rfl ((if0 _ _).trans (feq h0q).1) hr) ?_
  show Rch p.tables e below _ (T5.setTop (mkF m 28 #[.val (.int pi), .val .null, .val (.ref r_1), .val (.int (3 : Int32)), .val (.int (1 : Int32)), .val (.ref v2)] []))
  refine Rch.st (fun _ hr => XS.aload X5.here hx rfl (hb hby d1_28) rfl rfl hr) ?_
  show Rch p.tables e below _ (T5.setTop (mkF m 30 #[.val (.int pi), .val .null, .val (.ref r_1), .val (.int (3 : Int32)), .val (.int (1 : Int32)), .val (.ref v2)] [(.ref v2)]))
  obtain ⟨T7, X7, e7, st7⟩ := getF X5 hx hZ hown (host := "") (Or.inl (own_w hw 22 rfl)) Via.refl e5 (D4.ext Op1.2) (g := (mkF m 30 #[.val (.int pi), .val .null, .val (.ref r_1), .val (.int (3 : Int32)), .val (.int (1 : Int32)), .val (.ref v2)] [(.ref v2)])) rfl rfl (hb hby d1_30)
  refine Rch.st st7 ?_
  show Rch p.tables e below _ (T7.setTop (mkF m 33 #[.val (.int pi), .val .null, .val (.ref r_1), .val (.int (3 : Int32)), .val (.int (1 : Int32)), .val (.ref v2)] [(.int (2 : Int32))]))
  refine Rch.st (fun _ hr => XS.iloadN X7.here hx rfl (hb hby d1_33) rfl hr) ?_
  show Rch p.tables e below _ (T7.setTop (mkF m 34 #[.val (.int pi), .val .null, .val (.ref r_1), .val (.int (3 : Int32)), .val (.int (1 : Int32)), .val (.ref v2)] [(.int pi), (.int (2 : Int32))]))
  refine Rch.st (fun _ hr => XS.icmpNo X7.here hx rfl (hb hby d1_34) rfl (teq h2q).2 hr) ?_
  show Rch p.tables e below _ (T7.setTop (mkF m 37 #[.val (.int pi), .val .null, .val (.ref r_1), .val (.int (3 : Int32)), .val (.int (1 : Int32)), .val (.ref v2)] []))
  refine Rch.st (fun _ hr => XS.aload X7.here hx rfl (hb hby d1_37) rfl rfl hr) ?_
  show Rch p.tables e below _ (T7.setTop (mkF m 39 #[.val (.int pi), .val .null, .val (.ref r_1), .val (.int (3 : Int32)), .val (.int (1 : Int32)), .val (.ref v2)] [(.ref v2)]))
  refine Rch.st (fun _ hr => XS.astoreN X7.here hx rfl (hb hby d1_39) rfl rfl (l' := #[.val (.int pi), .val (.ref v2), .val (.ref r_1), .val (.int (3 : Int32)), .val (.int (1 : Int32)), .val (.ref v2)]) rfl hr) ?_
  show Rch p.tables e below _ (T7.setTop (mkF m 40 #[.val (.int pi), .val (.ref v2), .val (.ref r_1), .val (.int (3 : Int32)), .val (.int (1 : Int32)), .val (.ref v2)] []))
  refine Rch.st (fun _ hr => XS.iinc X7.here hx rfl (hb hby d1_40) rfl (l' := #[.val (.int pi), .val (.ref v2), .val (.ref r_1), .val (.int (3 : Int32)), .val (.int (2 : Int32)), .val (.ref v2)]) rfl hr) ?_
  show Rch p.tables e below _ (T7.setTop (mkF m 43 #[.val (.int pi), .val (.ref v2), .val (.ref r_1), .val (.int (3 : Int32)), .val (.int (2 : Int32)), .val (.ref v2)] []))
  refine Rch.st (fun _ hr => XS.goto X7.here hx rfl (pc0 := 43) (pc' := 12) rfl (hb hby d1_43) (by decide) (by decide) hr) ?_
  show Rch p.tables e below _ (T7.setTop (mkF m 12 #[.val (.int pi), .val (.ref v2), .val (.ref r_1), .val (.int (3 : Int32)), .val (.int (2 : Int32)), .val (.ref v2)] []))
  refine Rch.st (fun _ hr => XS.iload X7.here hx rfl (hb hby d1_12) rfl hr) ?_
  show Rch p.tables e below _ (T7.setTop (mkF m 14 #[.val (.int pi), .val (.ref v2), .val (.ref r_1), .val (.int (3 : Int32)), .val (.int (2 : Int32)), .val (.ref v2)] [(.int (2 : Int32))]))
  refine Rch.st (fun _ hr => XS.iloadN X7.here hx rfl (hb hby d1_14) rfl hr) ?_
  show Rch p.tables e below _ (T7.setTop (mkF m 15 #[.val (.int pi), .val (.ref v2), .val (.ref r_1), .val (.int (3 : Int32)), .val (.int (2 : Int32)), .val (.ref v2)] [(.int (3 : Int32)), (.int (2 : Int32))]))
  refine Rch.st (fun _ hr => XS.icmpNo X7.here hx rfl (hb hby d1_15) rfl (tlt (by decide : (2 : Int32) < (3 : Int32))).2.1 hr) ?_
  show Rch p.tables e below _ (T7.setTop (mkF m 18 #[.val (.int pi), .val (.ref v2), .val (.ref r_1), .val (.int (3 : Int32)), .val (.int (2 : Int32)), .val (.ref v2)] []))
  refine Rch.st (fun _ hr => XS.aloadN X7.here hx rfl (hb hby d1_18) rfl rfl hr) ?_
  show Rch p.tables e below _ (T7.setTop (mkF m 19 #[.val (.int pi), .val (.ref v2), .val (.ref r_1), .val (.int (3 : Int32)), .val (.int (2 : Int32)), .val (.ref v2)] [(.ref r_1)]))
  refine Rch.st (fun _ hr => XS.iload X7.here hx rfl (hb hby d1_19) rfl hr) ?_
  show Rch p.tables e below _ (T7.setTop (mkF m 21 #[.val (.int pi), .val (.ref v2), .val (.ref r_1), .val (.int (3 : Int32)), .val (.int (2 : Int32)), .val (.ref v2)] [(.int (2 : Int32)), (.ref r_1)]))
  obtain ⟨cl8, Ar8, -, Sz8, Ng8, Ha8, -⟩ := id R1_1
  have hin8 := inb_of (j := (2 : Int32)) Sz8 ⟨by decide, by decide⟩
  have hat8 := Ha8.at hin8 (v := (.ref v3)) rfl
  refine Rch.st (fun t hr => X7.aaload hx (j := (2 : Int32)) (v := (.ref v3)) (by rw [e7]; exact Ar8.1) (State.isArrayOf_alike hZ.alike Ar8.2.1) rfl Ar8.2.2 hin8 hat8 (g := (mkF m 21 #[.val (.int pi), .val (.ref v2), .val (.ref r_1), .val (.int (3 : Int32)), .val (.int (2 : Int32)), .val (.ref v2)] [(.int (2 : Int32)), (.ref r_1)])) rfl rfl (hb hby d1_21) t hr) ?_
  show Rch p.tables e below _ (T7.setTop (mkF m 22 #[.val (.int pi), .val (.ref v2), .val (.ref r_1), .val (.int (3 : Int32)), .val (.int (2 : Int32)), .val (.ref v2)] [(.ref v3)]))
  refine Rch.st (fun _ hr => XS.astore X7.here hx rfl (hb hby d1_22) rfl rfl (l' := #[.val (.int pi), .val (.ref v2), .val (.ref r_1), .val (.int (3 : Int32)), .val (.int (2 : Int32)), .val (.ref v3)]) rfl hr) ?_
  show Rch p.tables e below _ (T7.setTop (mkF m 24 #[.val (.int pi), .val (.ref v2), .val (.ref r_1), .val (.int (3 : Int32)), .val (.int (2 : Int32)), .val (.ref v3)] []))
  refine Rch.st (fun _ hr => XS.iloadN X7.here hx rfl (hb hby d1_24) rfl hr) ?_
  show Rch p.tables e below _ (T7.setTop (mkF m 25 #[.val (.int pi), .val (.ref v2), .val (.ref r_1), .val (.int (3 : Int32)), .val (.int (2 : Int32)), .val (.ref v3)] [(.int pi)]))
  refine Rch.st (fun _ hr => XS.ifNo X7.here hx rfl (hb hby d1_25) rfl ((if0 _ _).trans (feq h0q).1) hr) ?_
  show Rch p.tables e below _ (T7.setTop (mkF m 28 #[.val (.int pi), .val (.ref v2), .val (.ref r_1), .val (.int (3 : Int32)), .val (.int (2 : Int32)), .val (.ref v3)] []))
  refine Rch.st (fun _ hr => XS.aload X7.here hx rfl (hb hby d1_28) rfl rfl hr) ?_
  show Rch p.tables e below _ (T7.setTop (mkF m 30 #[.val (.int pi), .val (.ref v2), .val (.ref r_1), .val (.int (3 : Int32)), .val (.int (2 : Int32)), .val (.ref v3)] [(.ref v3)]))
  obtain ⟨T9, X9, e9, st9⟩ := getF X7 hx hZ hown (host := "") (Or.inl (own_w hw 22 rfl)) Via.refl e7 (D5.ext Op1.2) (g := (mkF m 30 #[.val (.int pi), .val (.ref v2), .val (.ref r_1), .val (.int (3 : Int32)), .val (.int (2 : Int32)), .val (.ref v3)] [(.ref v3)])) rfl rfl (hb hby d1_30)
  refine Rch.st st9 ?_
  show Rch p.tables e below _ (T9.setTop (mkF m 33 #[.val (.int pi), .val (.ref v2), .val (.ref r_1), .val (.int (3 : Int32)), .val (.int (2 : Int32)), .val (.ref v3)] [(.int (3 : Int32))]))
  refine Rch.st (fun _ hr => XS.iloadN X9.here hx rfl (hb hby d1_33) rfl hr) ?_
  show Rch p.tables e below _ (T9.setTop (mkF m 34 #[.val (.int pi), .val (.ref v2), .val (.ref r_1), .val (.int (3 : Int32)), .val (.int (2 : Int32)), .val (.ref v3)] [(.int pi), (.int (3 : Int32))]))
  refine Rch.st (fun _ hr => XS.icmpYes X9.here hx rfl (pc0 := 34) (pc' := 40) rfl (hb hby d1_34) rfl (feq h3q).2 (by decide) (by decide) hr) ?_
  show Rch p.tables e below _ (T9.setTop (mkF m 40 #[.val (.int pi), .val (.ref v2), .val (.ref r_1), .val (.int (3 : Int32)), .val (.int (2 : Int32)), .val (.ref v3)] []))
  refine Rch.st (fun _ hr => XS.iinc X9.here hx rfl (hb hby d1_40) rfl (l' := #[.val (.int pi), .val (.ref v2), .val (.ref r_1), .val (.int (3 : Int32)), .val (.int (3 : Int32)), .val (.ref v3)]) rfl hr) ?_
  show Rch p.tables e below _ (T9.setTop (mkF m 43 #[.val (.int pi), .val (.ref v2), .val (.ref r_1), .val (.int (3 : Int32)), .val (.int (3 : Int32)), .val (.ref v3)] []))
  refine Rch.st (fun _ hr => XS.goto X9.here hx rfl (pc0 := 43) (pc' := 12) rfl (hb hby d1_43) (by decide) (by decide) hr) ?_
  show Rch p.tables e below _ (T9.setTop (mkF m 12 #[.val (.int pi), .val (.ref v2), .val (.ref r_1), .val (.int (3 : Int32)), .val (.int (3 : Int32)), .val (.ref v3)] []))
  refine Rch.st (fun _ hr => XS.iload X9.here hx rfl (hb hby d1_12) rfl hr) ?_
  show Rch p.tables e below _ (T9.setTop (mkF m 14 #[.val (.int pi), .val (.ref v2), .val (.ref r_1), .val (.int (3 : Int32)), .val (.int (3 : Int32)), .val (.ref v3)] [(.int (3 : Int32))]))
  refine Rch.st (fun _ hr => XS.iloadN X9.here hx rfl (hb hby d1_14) rfl hr) ?_
  show Rch p.tables e below _ (T9.setTop (mkF m 15 #[.val (.int pi), .val (.ref v2), .val (.ref r_1), .val (.int (3 : Int32)), .val (.int (3 : Int32)), .val (.ref v3)] [(.int (3 : Int32)), (.int (3 : Int32))]))
  refine Rch.st (fun _ hr => XS.icmpYes X9.here hx rfl (pc0 := 15) (pc' := 46) rfl (hb hby d1_15) rfl (flt (by decide : ¬ ((3 : Int32) < (3 : Int32)))).2.1 (by decide) (by decide) hr) ?_
  show Rch p.tables e below _ (T9.setTop (mkF m 46 #[.val (.int pi), .val (.ref v2), .val (.ref r_1), .val (.int (3 : Int32)), .val (.int (3 : Int32)), .val (.ref v3)] []))
  refine Rch.st (fun _ hr => XS.aloadN X9.here hx rfl (hb hby d1_46) rfl rfl hr) ?_
  show Rch p.tables e below _ (T9.setTop (mkF m 47 #[.val (.int pi), .val (.ref v2), .val (.ref r_1), .val (.int (3 : Int32)), .val (.int (3 : Int32)), .val (.ref v3)] [(.ref v2)]))
  obtain ⟨fs, hr, hrun, hended, hW, hsame⟩ := X9.leave (v := some (.ref v2)) (fun h => by rw [Bd.returns] at h; cases h)
  refine Rch.fin (u := T9.setFrames fs) (own_retA X9 hx Bd.returns rfl rfl rfl (hb hby d1_47) hr) ⟨_, hrun, hended, _, _, rfl, ?_, ⟨_, rfl⟩, hW, hsame.mono (by decide) (by decide)⟩
  show Q_cwith2 Z pi kv wv v1 v2 v3 h0 n0 _ T9.heap _
  rw [e9]
  exact ⟨rfl, N1, K2, Op1⟩
def Q_cwith3 (Z : State) (pi : Int32) (kv : ClassId) (wv : Addr) (v1 : Addr) (v2 : Addr) (v3 : Addr) (h0 : Heap) (n0 : Nat) (v : Option Value) (h : Heap) (L : List Loc) : Prop := v = some (.ref v3) ∧ Fr n0 L ∧ Keep h0 h [] ∧ Old Z n0 h
theorem ef_cwith3 (m : MethodId) (pi : Int32) (kv : ClassId) (wv : Addr) (v1 : Addr) (v2 : Addr) (v3 : Addr) : entryFrame m #[(.int pi)] 6 = mkF m 0 #[.val (.int pi), .unset, .unset, .unset, .unset, .unset] [] := by first | (simp [entryFrame, mkF, argsToLocals, Value.category]; done) | rfl
set_option maxRecDepth 65536 in
set_option maxHeartbeats 40000000 in
theorem cwith3 (l : Launch) (Z : State) (a0 : Array Value) (hw : ∀ d ∈ tables_1, d.before a0 Z = true) (ws : List Jvm.Cond) (pi : Int32) (kv : ClassId) (wv : Addr) (v1 : Addr) (v2 : Addr) (v3 : Addr) (h0 : Heap) (n0 : Nat) (D0 : Sta Z Z.heap "com/example/hangar_deck/hangardeck/apk/SignatureScheme" "$VALUES" "[Lcom/example/hangar_deck/hangardeck/apk/SignatureScheme;" (.ref wv)) (D1 : Arv Z Z.heap wv kv (.object "com/example/hangar_deck/hangardeck/apk/SignatureScheme") (3 : Int32) [(.ref v1), (.ref v2), (.ref v3)] .null) (D2 : Exa Z Z.heap wv "[Lcom/example/hangar_deck/hangardeck/apk/SignatureScheme;") (D3 : Fld Z Z.heap v1 "com/example/hangar_deck/hangardeck/apk/SignatureScheme" "id" "I" (.int (0 : Int32))) (D4 : Fld Z Z.heap v2 "com/example/hangar_deck/hangardeck/apk/SignatureScheme" "id" "I" (.int (2 : Int32))) (D5 : Fld Z Z.heap v3 "com/example/hangar_deck/hangardeck/apk/SignatureScheme" "id" "I" (.int (3 : Int32))) (P0 : Old Z n0 h0) (hfit : Fit Z) (h0q : ¬ pi = (0 : Int32)) (h1q : ¬ (0 : Int32) = pi) (h2q : ¬ (2 : Int32) = pi) (h3q : (3 : Int32) = pi) :
    MetFree l (⟨"com/example/hangar_deck/hangardeck/apk/SignatureScheme", "withId", "(I)Lcom/example/hangar_deck/hangardeck/apk/SignatureScheme;"⟩ : MethodName) (head1 (Jvm.Cond.code (⟨"com/example/hangar_deck/hangardeck/apk/SignatureScheme", "withId", "(I)Lcom/example/hangar_deck/hangardeck/apk/SignatureScheme;"⟩ : MethodName) prog_39_method_9_code 6 (some (.object "com/example/hangar_deck/hangardeck/apk/SignatureScheme")) :: ws) ({ frames := 2, cells := 1, slots := 3, locals := 25 } : Room)) (fun aA uU => aA = #[(.int pi)] ∧ Z.Warmed39 uU.vm ∧ uU.heap = h0) (fun _ _ _ _ _ => True) (fun _ uU oO uU' => ∃ vV lL, oO = .returned vV ∧ Q_cwith3 Z pi kv wv v1 v2 v3 h0 n0 vV uU'.heap lL ∧ FrameEnd uU oO uU' lL ({ frames := 2, cells := 1, slots := 3, locals := 25 } : Room).cells ({ frames := 2, cells := 1, slots := 3, locals := 25 } : Room).slots) := by
  refine MetFree.of_bodySF (plainFor_of_name pn_com_example_hangar_deck_hangardeck_apk_SignatureScheme) hisR ?_
  intro p e s m args below meth c s₁ Bd hml0 hP hK
  obtain ⟨rfl, hZ, hh⟩ := hP
  have hx := Bd.exec
  have hby := Bd.bytes
  have hml : c.maxLocals = 6 := hml0
  have hown : s.vm.findClass "com/example/hangar_deck/hangardeck/apk/SignatureScheme" = some m.cls := findClass_of_methodNamed Bd.named
  have hnm := (name_of_methodNamed Bd.named Bd.method).1
  have X0 : Stand p l e ({ frames := 2, cells := 1, slots := 3, locals := 25 } : Room) s m #[(.int pi)] below meth c s₁ [] 0 0 := Stand.of_body Bd
  have e0 : s₁.heap = h0 := by rw [← hh, Bd.state]; rfl
  have N0 := Fr.nil n0
  refine Rch.out (Rch.st (fun t k => castTop (ef_cwith3 m pi kv wv v1 v2 v3) k) ?_)
  show Rch p.tables e below _ (s₁.setTop (mkF m 0 #[.val (.int pi), .unset, .unset, .unset, .unset, .unset] []))
  refine Rch.st (fun _ hr => XS.aconstNull X0.here hx rfl (hb hby d1_0) hr) ?_
  show Rch p.tables e below _ (s₁.setTop (mkF m 1 #[.val (.int pi), .unset, .unset, .unset, .unset, .unset] [.null]))
  refine Rch.st (fun _ hr => XS.astoreN X0.here hx rfl (hb hby d1_1) rfl rfl (l' := #[.val (.int pi), .val .null, .unset, .unset, .unset, .unset]) rfl hr) ?_
  show Rch p.tables e below _ (s₁.setTop (mkF m 2 #[.val (.int pi), .val .null, .unset, .unset, .unset, .unset] []))
  obtain ⟨_, _, ⟨T1, L1, k1, n1⟩, -, X1, ⟨Lc1, hQ1, l1, y1, z1⟩, st1⟩ := Jvm.LawKit.callS X0 hx (y := (⟨"com/example/hangar_deck/hangardeck/apk/SignatureScheme", "values", "()[Lcom/example/hangar_deck/hangardeck/apk/SignatureScheme;"⟩ : MethodName)) hown (mvT hZ (own_w hw 4 rfl)) (mvT hZ (own_w hw 5 rfl)) (mvT hZ (own_w hw 2 rfl)) (mvT hZ (own_w hw 6 rfl)) (by decide) (backOf (W := 0) (cvalues l Z a0 hw [] kv wv v1 v2 v3 h0 n0 D0 D1 D2 P0 hfit) hZ (own_w hw 6 rfl) (own_w hw 2 rfl) (by decide) (by decide)) (g := (mkF m 2 #[.val (.int pi), .val .null, .unset, .unset, .unset, .unset] [])) rfl (by rw [hml]; rfl) (argsL := []) (rest := []) (lenOf pd_0 rfl) rfl (by show 2 * 0 + _ ≤ _; exact Nat.le_of_eq rfl) (hb hby d1_2) (fun _ _ => ⟨rfl, e0, (by decide : 0 + 1 ≤ _), (by decide : 0 + 3 ≤ _)⟩)
  dsimp only [Pt.U, Pt.locs, Pt.cells, Pt.slots] at X1 l1 y1 z1 st1 hQ1
  subst l1 y1 z1
  obtain ⟨r_1, rfl, N1q, Kp1, Op1, R1_0, R1_1, R1_2⟩ := hQ1
  have N1 := Fr.app N0 N1q
  refine Rch.st st1 ?_
  have g_r_1 : n0 ≤ r_1 := Nat.le_trans (Nat.le_trans (Nat.le_of_eq P0.1.symm) P0.2.1) R1_0
  have sz_r_1 : h0.size ≤ r_1 := Nat.le_trans (Keep.refl h0 []).1 R1_0
  have K2 : Keep h0 T1.heap [] := (Keep.refl h0 []).trans Kp1 all0
  show Rch p.tables e below _ (T1.setTop (mkF m 5 #[.val (.int pi), .val .null, .unset, .unset, .unset, .unset] [(.ref r_1)]))
  refine Rch.st (fun _ hr => XS.astoreN X1.here hx rfl (hb hby d1_5) rfl rfl (l' := #[.val (.int pi), .val .null, .val (.ref r_1), .unset, .unset, .unset]) rfl hr) ?_
  show Rch p.tables e below _ (T1.setTop (mkF m 6 #[.val (.int pi), .val .null, .val (.ref r_1), .unset, .unset, .unset] []))
  refine Rch.st (fun _ hr => XS.aloadN X1.here hx rfl (hb hby d1_6) rfl rfl hr) ?_
  show Rch p.tables e below _ (T1.setTop (mkF m 7 #[.val (.int pi), .val .null, .val (.ref r_1), .unset, .unset, .unset] [(.ref r_1)]))
  obtain ⟨cl3, Ar3, -, Sz3, Ng3, -, -⟩ := id R1_1
  refine Rch.st (fun t hr => X1.arraylength hx Ar3.1 (State.isArrayOf_alike hZ.alike Ar3.2.1) (g := (mkF m 7 #[.val (.int pi), .val .null, .val (.ref r_1), .unset, .unset, .unset] [(.ref r_1)])) rfl rfl (hb hby d1_7) t hr) ?_
  rw [len_of Sz3 Ng3]
  show Rch p.tables e below _ (T1.setTop (mkF m 8 #[.val (.int pi), .val .null, .val (.ref r_1), .unset, .unset, .unset] [(.int (3 : Int32))]))
  refine Rch.st (fun _ hr => XS.istoreN X1.here hx rfl (hb hby d1_8) rfl (l' := #[.val (.int pi), .val .null, .val (.ref r_1), .val (.int (3 : Int32)), .unset, .unset]) rfl hr) ?_
  show Rch p.tables e below _ (T1.setTop (mkF m 9 #[.val (.int pi), .val .null, .val (.ref r_1), .val (.int (3 : Int32)), .unset, .unset] []))
  refine Rch.st (fun _ hr => XS.iconst X1.here hx rfl (hb hby d1_9) hr) ?_
  show Rch p.tables e below _ (T1.setTop (mkF m 10 #[.val (.int pi), .val .null, .val (.ref r_1), .val (.int (3 : Int32)), .unset, .unset] [(.int (0 : Int32))]))
  refine Rch.st (fun _ hr => XS.istore X1.here hx rfl (hb hby d1_10) rfl (l' := #[.val (.int pi), .val .null, .val (.ref r_1), .val (.int (3 : Int32)), .val (.int (0 : Int32)), .unset]) rfl hr) ?_
  show Rch p.tables e below _ (T1.setTop (mkF m 12 #[.val (.int pi), .val .null, .val (.ref r_1), .val (.int (3 : Int32)), .val (.int (0 : Int32)), .unset] []))
  refine Rch.st (fun _ hr => XS.iload X1.here hx rfl (hb hby d1_12) rfl hr) ?_
  show Rch p.tables e below _ (T1.setTop (mkF m 14 #[.val (.int pi), .val .null, .val (.ref r_1), .val (.int (3 : Int32)), .val (.int (0 : Int32)), .unset] [(.int (0 : Int32))]))
  refine Rch.st (fun _ hr => XS.iloadN X1.here hx rfl (hb hby d1_14) rfl hr) ?_
  show Rch p.tables e below _ (T1.setTop (mkF m 15 #[.val (.int pi), .val .null, .val (.ref r_1), .val (.int (3 : Int32)), .val (.int (0 : Int32)), .unset] [(.int (3 : Int32)), (.int (0 : Int32))]))
  refine Rch.st (fun _ hr => XS.icmpNo X1.here hx rfl (hb hby d1_15) rfl (tlt (by decide : (0 : Int32) < (3 : Int32))).2.1 hr) ?_
  show Rch p.tables e below _ (T1.setTop (mkF m 18 #[.val (.int pi), .val .null, .val (.ref r_1), .val (.int (3 : Int32)), .val (.int (0 : Int32)), .unset] []))
  refine Rch.st (fun _ hr => XS.aloadN X1.here hx rfl (hb hby d1_18) rfl rfl hr) ?_
  show Rch p.tables e below _ (T1.setTop (mkF m 19 #[.val (.int pi), .val .null, .val (.ref r_1), .val (.int (3 : Int32)), .val (.int (0 : Int32)), .unset] [(.ref r_1)]))
  refine Rch.st (fun _ hr => XS.iload X1.here hx rfl (hb hby d1_19) rfl hr) ?_
  show Rch p.tables e below _ (T1.setTop (mkF m 21 #[.val (.int pi), .val .null, .val (.ref r_1), .val (.int (3 : Int32)), .val (.int (0 : Int32)), .unset] [(.int (0 : Int32)), (.ref r_1)]))
  obtain ⟨cl4, Ar4, -, Sz4, Ng4, Ha4, -⟩ := id R1_1
  have hin4 := inb_of (j := (0 : Int32)) Sz4 ⟨by decide, by decide⟩
  have hat4 := Ha4.at hin4 (v := (.ref v1)) rfl
  refine Rch.st (fun t hr => X1.aaload hx (j := (0 : Int32)) (v := (.ref v1)) Ar4.1 (State.isArrayOf_alike hZ.alike Ar4.2.1) rfl Ar4.2.2 hin4 hat4 (g := (mkF m 21 #[.val (.int pi), .val .null, .val (.ref r_1), .val (.int (3 : Int32)), .val (.int (0 : Int32)), .unset] [(.int (0 : Int32)), (.ref r_1)])) rfl rfl (hb hby d1_21) t hr) ?_
  show Rch p.tables e below _ (T1.setTop (mkF m 22 #[.val (.int pi), .val .null, .val (.ref r_1), .val (.int (3 : Int32)), .val (.int (0 : Int32)), .unset] [(.ref v1)]))
  refine Rch.st (fun _ hr => XS.astore X1.here hx rfl (hb hby d1_22) rfl rfl (l' := #[.val (.int pi), .val .null, .val (.ref r_1), .val (.int (3 : Int32)), .val (.int (0 : Int32)), .val (.ref v1)]) rfl hr) ?_
  show Rch p.tables e below _ (T1.setTop (mkF m 24 #[.val (.int pi), .val .null, .val (.ref r_1), .val (.int (3 : Int32)), .val (.int (0 : Int32)), .val (.ref v1)] []))
  refine Rch.st (fun _ hr => XS.iloadN X1.here hx rfl (hb hby d1_24) rfl hr) ?_
  show Rch p.tables e below _ (T1.setTop (mkF m 25 #[.val (.int pi), .val .null, .val (.ref r_1), .val (.int (3 : Int32)), .val (.int (0 : Int32)), .val (.ref v1)] [(.int pi)]))
  refine Rch.st (fun _ hr => XS.ifNo X1.here hx rfl (hb hby d1_25) rfl ((if0 _ _).trans (feq h0q).1) hr) ?_
  show Rch p.tables e below _ (T1.setTop (mkF m 28 #[.val (.int pi), .val .null, .val (.ref r_1), .val (.int (3 : Int32)), .val (.int (0 : Int32)), .val (.ref v1)] []))
  refine Rch.st (fun _ hr => XS.aload X1.here hx rfl (hb hby d1_28) rfl rfl hr) ?_
  show Rch p.tables e below _ (T1.setTop (mkF m 30 #[.val (.int pi), .val .null, .val (.ref r_1), .val (.int (3 : Int32)), .val (.int (0 : Int32)), .val (.ref v1)] [(.ref v1)]))
  obtain ⟨T5, X5, e5, st5⟩ := getF X1 hx hZ hown (host := "") (Or.inl (own_w hw 22 rfl)) Via.refl rfl (D3.ext Op1.2) (g := (mkF m 30 #[.val (.int pi), .val .null, .val (.ref r_1), .val (.int (3 : Int32)), .val (.int (0 : Int32)), .val (.ref v1)] [(.ref v1)])) rfl rfl (hb hby d1_30)
  refine Rch.st st5 ?_
  show Rch p.tables e below _ (T5.setTop (mkF m 33 #[.val (.int pi), .val .null, .val (.ref r_1), .val (.int (3 : Int32)), .val (.int (0 : Int32)), .val (.ref v1)] [(.int (0 : Int32))]))
  refine Rch.st (fun _ hr => XS.iloadN X5.here hx rfl (hb hby d1_33) rfl hr) ?_
  show Rch p.tables e below _ (T5.setTop (mkF m 34 #[.val (.int pi), .val .null, .val (.ref r_1), .val (.int (3 : Int32)), .val (.int (0 : Int32)), .val (.ref v1)] [(.int pi), (.int (0 : Int32))]))
  refine Rch.st (fun _ hr => XS.icmpYes X5.here hx rfl (pc0 := 34) (pc' := 40) rfl (hb hby d1_34) rfl (feq h1q).2 (by decide) (by decide) hr) ?_
  show Rch p.tables e below _ (T5.setTop (mkF m 40 #[.val (.int pi), .val .null, .val (.ref r_1), .val (.int (3 : Int32)), .val (.int (0 : Int32)), .val (.ref v1)] []))
  refine Rch.st (fun _ hr => XS.iinc X5.here hx rfl (hb hby d1_40) rfl (l' := #[.val (.int pi), .val .null, .val (.ref r_1), .val (.int (3 : Int32)), .val (.int (1 : Int32)), .val (.ref v1)]) rfl hr) ?_
  show Rch p.tables e below _ (T5.setTop (mkF m 43 #[.val (.int pi), .val .null, .val (.ref r_1), .val (.int (3 : Int32)), .val (.int (1 : Int32)), .val (.ref v1)] []))
  refine Rch.st (fun _ hr => XS.goto X5.here hx rfl (pc0 := 43) (pc' := 12) rfl (hb hby d1_43) (by decide) (by decide) hr) ?_
  show Rch p.tables e below _ (T5.setTop (mkF m 12 #[.val (.int pi), .val .null, .val (.ref r_1), .val (.int (3 : Int32)), .val (.int (1 : Int32)), .val (.ref v1)] []))
  refine Rch.st (fun _ hr => XS.iload X5.here hx rfl (hb hby d1_12) rfl hr) ?_
  show Rch p.tables e below _ (T5.setTop (mkF m 14 #[.val (.int pi), .val .null, .val (.ref r_1), .val (.int (3 : Int32)), .val (.int (1 : Int32)), .val (.ref v1)] [(.int (1 : Int32))]))
  refine Rch.st (fun _ hr => XS.iloadN X5.here hx rfl (hb hby d1_14) rfl hr) ?_
  show Rch p.tables e below _ (T5.setTop (mkF m 15 #[.val (.int pi), .val .null, .val (.ref r_1), .val (.int (3 : Int32)), .val (.int (1 : Int32)), .val (.ref v1)] [(.int (3 : Int32)), (.int (1 : Int32))]))
  refine Rch.st (fun _ hr => XS.icmpNo X5.here hx rfl (hb hby d1_15) rfl (tlt (by decide : (1 : Int32) < (3 : Int32))).2.1 hr) ?_
  show Rch p.tables e below _ (T5.setTop (mkF m 18 #[.val (.int pi), .val .null, .val (.ref r_1), .val (.int (3 : Int32)), .val (.int (1 : Int32)), .val (.ref v1)] []))
  refine Rch.st (fun _ hr => XS.aloadN X5.here hx rfl (hb hby d1_18) rfl rfl hr) ?_
  show Rch p.tables e below _ (T5.setTop (mkF m 19 #[.val (.int pi), .val .null, .val (.ref r_1), .val (.int (3 : Int32)), .val (.int (1 : Int32)), .val (.ref v1)] [(.ref r_1)]))
  refine Rch.st (fun _ hr => XS.iload X5.here hx rfl (hb hby d1_19) rfl hr) ?_
  show Rch p.tables e below _ (T5.setTop (mkF m 21 #[.val (.int pi), .val .null, .val (.ref r_1), .val (.int (3 : Int32)), .val (.int (1 : Int32)), .val (.ref v1)] [(.int (1 : Int32)), (.ref r_1)]))
  obtain ⟨cl6, Ar6, -, Sz6, Ng6, Ha6, -⟩ := id R1_1
  have hin6 := inb_of (j := (1 : Int32)) Sz6 ⟨by decide, by decide⟩
  have hat6 := Ha6.at hin6 (v := (.ref v2)) rfl
  refine Rch.st (fun t hr => X5.aaload hx (j := (1 : Int32)) (v := (.ref v2)) (by rw [e5]; exact Ar6.1) (State.isArrayOf_alike hZ.alike Ar6.2.1) rfl Ar6.2.2 hin6 hat6 (g := (mkF m 21 #[.val (.int pi), .val .null, .val (.ref r_1), .val (.int (3 : Int32)), .val (.int (1 : Int32)), .val (.ref v1)] [(.int (1 : Int32)), (.ref r_1)])) rfl rfl (hb hby d1_21) t hr) ?_
  show Rch p.tables e below _ (T5.setTop (mkF m 22 #[.val (.int pi), .val .null, .val (.ref r_1), .val (.int (3 : Int32)), .val (.int (1 : Int32)), .val (.ref v1)] [(.ref v2)]))
  refine Rch.st (fun _ hr => XS.astore X5.here hx rfl (hb hby d1_22) rfl rfl (l' := #[.val (.int pi), .val .null, .val (.ref r_1), .val (.int (3 : Int32)), .val (.int (1 : Int32)), .val (.ref v2)]) rfl hr) ?_
  show Rch p.tables e below _ (T5.setTop (mkF m 24 #[.val (.int pi), .val .null, .val (.ref r_1), .val (.int (3 : Int32)), .val (.int (1 : Int32)), .val (.ref v2)] []))
  refine Rch.st (fun _ hr => XS.iloadN X5.here hx rfl (hb hby d1_24) rfl hr) ?_
  show Rch p.tables e below _ (T5.setTop (mkF m 25 #[.val (.int pi), .val .null, .val (.ref r_1), .val (.int (3 : Int32)), .val (.int (1 : Int32)), .val (.ref v2)] [(.int pi)]))
  refine Rch.st (fun _ hr => XS.ifNo X5.here hx rfl (hb hby d1_25) rfl ((if0 _ _).trans (feq h0q).1) hr) ?_
  show Rch p.tables e below _ (T5.setTop (mkF m 28 #[.val (.int pi), .val .null, .val (.ref r_1), .val (.int (3 : Int32)), .val (.int (1 : Int32)), .val (.ref v2)] []))
  refine Rch.st (fun _ hr => XS.aload X5.here hx rfl (hb hby d1_28) rfl rfl hr) ?_
  show Rch p.tables e below _ (T5.setTop (mkF m 30 #[.val (.int pi), .val .null, .val (.ref r_1), .val (.int (3 : Int32)), .val (.int (1 : Int32)), .val (.ref v2)] [(.ref v2)]))
  obtain ⟨T7, X7, e7, st7⟩ := getF X5 hx hZ hown (host := "") (Or.inl (own_w hw 22 rfl)) Via.refl e5 (D4.ext Op1.2) (g := (mkF m 30 #[.val (.int pi), .val .null, .val (.ref r_1), .val (.int (3 : Int32)), .val (.int (1 : Int32)), .val (.ref v2)] [(.ref v2)])) rfl rfl (hb hby d1_30)
  refine Rch.st st7 ?_
  show Rch p.tables e below _ (T7.setTop (mkF m 33 #[.val (.int pi), .val .null, .val (.ref r_1), .val (.int (3 : Int32)), .val (.int (1 : Int32)), .val (.ref v2)] [(.int (2 : Int32))]))
  refine Rch.st (fun _ hr => XS.iloadN X7.here hx rfl (hb hby d1_33) rfl hr) ?_
  show Rch p.tables e below _ (T7.setTop (mkF m 34 #[.val (.int pi), .val .null, .val (.ref r_1), .val (.int (3 : Int32)), .val (.int (1 : Int32)), .val (.ref v2)] [(.int pi), (.int (2 : Int32))]))
  refine Rch.st (fun _ hr => XS.icmpYes X7.here hx rfl (pc0 := 34) (pc' := 40) rfl (hb hby d1_34) rfl (feq h2q).2 (by decide) (by decide) hr) ?_
  show Rch p.tables e below _ (T7.setTop (mkF m 40 #[.val (.int pi), .val .null, .val (.ref r_1), .val (.int (3 : Int32)), .val (.int (1 : Int32)), .val (.ref v2)] []))
  refine Rch.st (fun _ hr => XS.iinc X7.here hx rfl (hb hby d1_40) rfl (l' := #[.val (.int pi), .val .null, .val (.ref r_1), .val (.int (3 : Int32)), .val (.int (2 : Int32)), .val (.ref v2)]) rfl hr) ?_
  show Rch p.tables e below _ (T7.setTop (mkF m 43 #[.val (.int pi), .val .null, .val (.ref r_1), .val (.int (3 : Int32)), .val (.int (2 : Int32)), .val (.ref v2)] []))
  refine Rch.st (fun _ hr => XS.goto X7.here hx rfl (pc0 := 43) (pc' := 12) rfl (hb hby d1_43) (by decide) (by decide) hr) ?_
  show Rch p.tables e below _ (T7.setTop (mkF m 12 #[.val (.int pi), .val .null, .val (.ref r_1), .val (.int (3 : Int32)), .val (.int (2 : Int32)), .val (.ref v2)] []))
  refine Rch.st (fun _ hr => XS.iload X7.here hx rfl (hb hby d1_12) rfl hr) ?_
  show Rch p.tables e below _ (T7.setTop (mkF m 14 #[.val (.int pi), .val .null, .val (.ref r_1), .val (.int (3 : Int32)), .val (.int (2 : Int32)), .val (.ref v2)] [(.int (2 : Int32))]))
  refine Rch.st (fun _ hr => XS.iloadN X7.here hx rfl (hb hby d1_14) rfl hr) ?_
  show Rch p.tables e below _ (T7.setTop (mkF m 15 #[.val (.int pi), .val .null, .val (.ref r_1), .val (.int (3 : Int32)), .val (.int (2 : Int32)), .val (.ref v2)] [(.int (3 : Int32)), (.int (2 : Int32))]))
  refine Rch.st (fun _ hr => XS.icmpNo X7.here hx rfl (hb hby d1_15) rfl (tlt (by decide : (2 : Int32) < (3 : Int32))).2.1 hr) ?_
  show Rch p.tables e below _ (T7.setTop (mkF m 18 #[.val (.int pi), .val .null, .val (.ref r_1), .val (.int (3 : Int32)), .val (.int (2 : Int32)), .val (.ref v2)] []))
  refine Rch.st (fun _ hr => XS.aloadN X7.here hx rfl (hb hby d1_18) rfl rfl hr) ?_
  show Rch p.tables e below _ (T7.setTop (mkF m 19 #[.val (.int pi), .val .null, .val (.ref r_1), .val (.int (3 : Int32)), .val (.int (2 : Int32)), .val (.ref v2)] [(.ref r_1)]))
  refine Rch.st (fun _ hr => XS.iload X7.here hx rfl (hb hby d1_19) rfl hr) ?_
  show Rch p.tables e below _ (T7.setTop (mkF m 21 #[.val (.int pi), .val .null, .val (.ref r_1), .val (.int (3 : Int32)), .val (.int (2 : Int32)), .val (.ref v2)] [(.int (2 : Int32)), (.ref r_1)]))
  obtain ⟨cl8, Ar8, -, Sz8, Ng8, Ha8, -⟩ := id R1_1
  have hin8 := inb_of (j := (2 : Int32)) Sz8 ⟨by decide, by decide⟩
  have hat8 := Ha8.at hin8 (v := (.ref v3)) rfl
  refine Rch.st (fun t hr => X7.aaload hx (j := (2 : Int32)) (v := (.ref v3)) (by rw [e7]; exact Ar8.1) (State.isArrayOf_alike hZ.alike Ar8.2.1) rfl Ar8.2.2 hin8 hat8 (g := (mkF m 21 #[.val (.int pi), .val .null, .val (.ref r_1), .val (.int (3 : Int32)), .val (.int (2 : Int32)), .val (.ref v2)] [(.int (2 : Int32)), (.ref r_1)])) rfl rfl (hb hby d1_21) t hr) ?_
  show Rch p.tables e below _ (T7.setTop (mkF m 22 #[.val (.int pi), .val .null, .val (.ref r_1), .val (.int (3 : Int32)), .val (.int (2 : Int32)), .val (.ref v2)] [(.ref v3)]))
  refine Rch.st (fun _ hr => XS.astore X7.here hx rfl (hb hby d1_22) rfl rfl (l' := #[.val (.int pi), .val .null, .val (.ref r_1), .val (.int (3 : Int32)), .val (.int (2 : Int32)), .val (.ref v3)]) rfl hr) ?_
  show Rch p.tables e below _ (T7.setTop (mkF m 24 #[.val (.int pi), .val .null, .val (.ref r_1), .val (.int (3 : Int32)), .val (.int (2 : Int32)), .val (.ref v3)] []))
  refine Rch.st (fun _ hr => XS.iloadN X7.here hx rfl (hb hby d1_24) rfl hr) ?_
  show Rch p.tables e below _ (T7.setTop (mkF m 25 #[.val (.int pi), .val .null, .val (.ref r_1), .val (.int (3 : Int32)), .val (.int (2 : Int32)), .val (.ref v3)] [(.int pi)]))
  refine Rch.st (fun _ hr => XS.ifNo X7.here hx rfl (hb hby d1_25) rfl ((if0 _ _).trans (feq h0q).1) hr) ?_
  show Rch p.tables e below _ (T7.setTop (mkF m 28 #[.val (.int pi), .val .null, .val (.ref r_1), .val (.int (3 : Int32)), .val (.int (2 : Int32)), .val (.ref v3)] []))
  refine Rch.st (fun _ hr => XS.aload X7.here hx rfl (hb hby d1_28) rfl rfl hr) ?_
  show Rch p.tables e below _ (T7.setTop (mkF m 30 #[.val (.int pi), .val .null, .val (.ref r_1), .val (.int (3 : Int32)), .val (.int (2 : Int32)), .val (.ref v3)] [(.ref v3)]))
  obtain ⟨T9, X9, e9, st9⟩ := getF X7 hx hZ hown (host := "") (Or.inl (own_w hw 22 rfl)) Via.refl e7 (D5.ext Op1.2) (g := (mkF m 30 #[.val (.int pi), .val .null, .val (.ref r_1), .val (.int (3 : Int32)), .val (.int (2 : Int32)), .val (.ref v3)] [(.ref v3)])) rfl rfl (hb hby d1_30)
  refine Rch.st st9 ?_
  show Rch p.tables e below _ (T9.setTop (mkF m 33 #[.val (.int pi), .val .null, .val (.ref r_1), .val (.int (3 : Int32)), .val (.int (2 : Int32)), .val (.ref v3)] [(.int (3 : Int32))]))
  refine Rch.st (fun _ hr => XS.iloadN X9.here hx rfl (hb hby d1_33) rfl hr) ?_
  show Rch p.tables e below _ (T9.setTop (mkF m 34 #[.val (.int pi), .val .null, .val (.ref r_1), .val (.int (3 : Int32)), .val (.int (2 : Int32)), .val (.ref v3)] [(.int pi), (.int (3 : Int32))]))
  refine Rch.st (fun _ hr => XS.icmpNo X9.here hx rfl (hb hby d1_34) rfl (teq h3q).2 hr) ?_
  show Rch p.tables e below _ (T9.setTop (mkF m 37 #[.val (.int pi), .val .null, .val (.ref r_1), .val (.int (3 : Int32)), .val (.int (2 : Int32)), .val (.ref v3)] []))
  refine Rch.st (fun _ hr => XS.aload X9.here hx rfl (hb hby d1_37) rfl rfl hr) ?_
  show Rch p.tables e below _ (T9.setTop (mkF m 39 #[.val (.int pi), .val .null, .val (.ref r_1), .val (.int (3 : Int32)), .val (.int (2 : Int32)), .val (.ref v3)] [(.ref v3)]))
  refine Rch.st (fun _ hr => XS.astoreN X9.here hx rfl (hb hby d1_39) rfl rfl (l' := #[.val (.int pi), .val (.ref v3), .val (.ref r_1), .val (.int (3 : Int32)), .val (.int (2 : Int32)), .val (.ref v3)]) rfl hr) ?_
  show Rch p.tables e below _ (T9.setTop (mkF m 40 #[.val (.int pi), .val (.ref v3), .val (.ref r_1), .val (.int (3 : Int32)), .val (.int (2 : Int32)), .val (.ref v3)] []))
  refine Rch.st (fun _ hr => XS.iinc X9.here hx rfl (hb hby d1_40) rfl (l' := #[.val (.int pi), .val (.ref v3), .val (.ref r_1), .val (.int (3 : Int32)), .val (.int (3 : Int32)), .val (.ref v3)]) rfl hr) ?_
  show Rch p.tables e below _ (T9.setTop (mkF m 43 #[.val (.int pi), .val (.ref v3), .val (.ref r_1), .val (.int (3 : Int32)), .val (.int (3 : Int32)), .val (.ref v3)] []))
  refine Rch.st (fun _ hr => XS.goto X9.here hx rfl (pc0 := 43) (pc' := 12) rfl (hb hby d1_43) (by decide) (by decide) hr) ?_
  show Rch p.tables e below _ (T9.setTop (mkF m 12 #[.val (.int pi), .val (.ref v3), .val (.ref r_1), .val (.int (3 : Int32)), .val (.int (3 : Int32)), .val (.ref v3)] []))
  refine Rch.st (fun _ hr => XS.iload X9.here hx rfl (hb hby d1_12) rfl hr) ?_
  show Rch p.tables e below _ (T9.setTop (mkF m 14 #[.val (.int pi), .val (.ref v3), .val (.ref r_1), .val (.int (3 : Int32)), .val (.int (3 : Int32)), .val (.ref v3)] [(.int (3 : Int32))]))
  refine Rch.st (fun _ hr => XS.iloadN X9.here hx rfl (hb hby d1_14) rfl hr) ?_
  show Rch p.tables e below _ (T9.setTop (mkF m 15 #[.val (.int pi), .val (.ref v3), .val (.ref r_1), .val (.int (3 : Int32)), .val (.int (3 : Int32)), .val (.ref v3)] [(.int (3 : Int32)), (.int (3 : Int32))]))
  refine Rch.st (fun _ hr => XS.icmpYes X9.here hx rfl (pc0 := 15) (pc' := 46) rfl (hb hby d1_15) rfl (flt (by decide : ¬ ((3 : Int32) < (3 : Int32)))).2.1 (by decide) (by decide) hr) ?_
  show Rch p.tables e below _ (T9.setTop (mkF m 46 #[.val (.int pi), .val (.ref v3), .val (.ref r_1), .val (.int (3 : Int32)), .val (.int (3 : Int32)), .val (.ref v3)] []))
  refine Rch.st (fun _ hr => XS.aloadN X9.here hx rfl (hb hby d1_46) rfl rfl hr) ?_
  show Rch p.tables e below _ (T9.setTop (mkF m 47 #[.val (.int pi), .val (.ref v3), .val (.ref r_1), .val (.int (3 : Int32)), .val (.int (3 : Int32)), .val (.ref v3)] [(.ref v3)]))
  obtain ⟨fs, hr, hrun, hended, hW, hsame⟩ := X9.leave (v := some (.ref v3)) (fun h => by rw [Bd.returns] at h; cases h)
  refine Rch.fin (u := T9.setFrames fs) (own_retA X9 hx Bd.returns rfl rfl rfl (hb hby d1_47) hr) ⟨_, hrun, hended, _, _, rfl, ?_, ⟨_, rfl⟩, hW, hsame.mono (by decide) (by decide)⟩
  show Q_cwith3 Z pi kv wv v1 v2 v3 h0 n0 _ T9.heap _
  rw [e9]
  exact ⟨rfl, N1, K2, Op1⟩
def Q_cwithn (Z : State) (pi : Int32) (kv : ClassId) (wv : Addr) (v1 : Addr) (v2 : Addr) (v3 : Addr) (h0 : Heap) (n0 : Nat) (v : Option Value) (h : Heap) (L : List Loc) : Prop := v = some .null ∧ Fr n0 L ∧ Keep h0 h [] ∧ Old Z n0 h
theorem ef_cwithn (m : MethodId) (pi : Int32) (kv : ClassId) (wv : Addr) (v1 : Addr) (v2 : Addr) (v3 : Addr) : entryFrame m #[(.int pi)] 6 = mkF m 0 #[.val (.int pi), .unset, .unset, .unset, .unset, .unset] [] := by first | (simp [entryFrame, mkF, argsToLocals, Value.category]; done) | rfl
set_option maxRecDepth 65536 in
set_option maxHeartbeats 40000000 in
theorem cwithn (l : Launch) (Z : State) (a0 : Array Value) (hw : ∀ d ∈ tables_1, d.before a0 Z = true) (ws : List Jvm.Cond) (pi : Int32) (kv : ClassId) (wv : Addr) (v1 : Addr) (v2 : Addr) (v3 : Addr) (h0 : Heap) (n0 : Nat) (D0 : Sta Z Z.heap "com/example/hangar_deck/hangardeck/apk/SignatureScheme" "$VALUES" "[Lcom/example/hangar_deck/hangardeck/apk/SignatureScheme;" (.ref wv)) (D1 : Arv Z Z.heap wv kv (.object "com/example/hangar_deck/hangardeck/apk/SignatureScheme") (3 : Int32) [(.ref v1), (.ref v2), (.ref v3)] .null) (D2 : Exa Z Z.heap wv "[Lcom/example/hangar_deck/hangardeck/apk/SignatureScheme;") (D3 : Fld Z Z.heap v1 "com/example/hangar_deck/hangardeck/apk/SignatureScheme" "id" "I" (.int (0 : Int32))) (D4 : Fld Z Z.heap v2 "com/example/hangar_deck/hangardeck/apk/SignatureScheme" "id" "I" (.int (2 : Int32))) (D5 : Fld Z Z.heap v3 "com/example/hangar_deck/hangardeck/apk/SignatureScheme" "id" "I" (.int (3 : Int32))) (P0 : Old Z n0 h0) (hfit : Fit Z) (h2q : ¬ (2 : Int32) = pi) (h3q : ¬ (3 : Int32) = pi) :
    MetFree l (⟨"com/example/hangar_deck/hangardeck/apk/SignatureScheme", "withId", "(I)Lcom/example/hangar_deck/hangardeck/apk/SignatureScheme;"⟩ : MethodName) (head1 (Jvm.Cond.code (⟨"com/example/hangar_deck/hangardeck/apk/SignatureScheme", "withId", "(I)Lcom/example/hangar_deck/hangardeck/apk/SignatureScheme;"⟩ : MethodName) prog_39_method_9_code 6 (some (.object "com/example/hangar_deck/hangardeck/apk/SignatureScheme")) :: ws) ({ frames := 2, cells := 1, slots := 3, locals := 25 } : Room)) (fun aA uU => aA = #[(.int pi)] ∧ Z.Warmed39 uU.vm ∧ uU.heap = h0) (fun _ _ _ _ _ => True) (fun _ uU oO uU' => ∃ vV lL, oO = .returned vV ∧ Q_cwithn Z pi kv wv v1 v2 v3 h0 n0 vV uU'.heap lL ∧ FrameEnd uU oO uU' lL ({ frames := 2, cells := 1, slots := 3, locals := 25 } : Room).cells ({ frames := 2, cells := 1, slots := 3, locals := 25 } : Room).slots) := by
  refine MetFree.of_bodySF (plainFor_of_name pn_com_example_hangar_deck_hangardeck_apk_SignatureScheme) hisR ?_
  intro p e s m args below meth c s₁ Bd hml0 hP hK
  obtain ⟨rfl, hZ, hh⟩ := hP
  have hx := Bd.exec
  have hby := Bd.bytes
  have hml : c.maxLocals = 6 := hml0
  have hown : s.vm.findClass "com/example/hangar_deck/hangardeck/apk/SignatureScheme" = some m.cls := findClass_of_methodNamed Bd.named
  have hnm := (name_of_methodNamed Bd.named Bd.method).1
  have X0 : Stand p l e ({ frames := 2, cells := 1, slots := 3, locals := 25 } : Room) s m #[(.int pi)] below meth c s₁ [] 0 0 := Stand.of_body Bd
  have e0 : s₁.heap = h0 := by rw [← hh, Bd.state]; rfl
  have N0 := Fr.nil n0
  refine Rch.out (Rch.st (fun t k => castTop (ef_cwithn m pi kv wv v1 v2 v3) k) ?_)
  show Rch p.tables e below _ (s₁.setTop (mkF m 0 #[.val (.int pi), .unset, .unset, .unset, .unset, .unset] []))
  refine Rch.st (fun _ hr => XS.aconstNull X0.here hx rfl (hb hby d1_0) hr) ?_
  show Rch p.tables e below _ (s₁.setTop (mkF m 1 #[.val (.int pi), .unset, .unset, .unset, .unset, .unset] [.null]))
  refine Rch.st (fun _ hr => XS.astoreN X0.here hx rfl (hb hby d1_1) rfl rfl (l' := #[.val (.int pi), .val .null, .unset, .unset, .unset, .unset]) rfl hr) ?_
  show Rch p.tables e below _ (s₁.setTop (mkF m 2 #[.val (.int pi), .val .null, .unset, .unset, .unset, .unset] []))
  obtain ⟨_, _, ⟨T1, L1, k1, n1⟩, -, X1, ⟨Lc1, hQ1, l1, y1, z1⟩, st1⟩ := Jvm.LawKit.callS X0 hx (y := (⟨"com/example/hangar_deck/hangardeck/apk/SignatureScheme", "values", "()[Lcom/example/hangar_deck/hangardeck/apk/SignatureScheme;"⟩ : MethodName)) hown (mvT hZ (own_w hw 4 rfl)) (mvT hZ (own_w hw 5 rfl)) (mvT hZ (own_w hw 2 rfl)) (mvT hZ (own_w hw 6 rfl)) (by decide) (backOf (W := 0) (cvalues l Z a0 hw [] kv wv v1 v2 v3 h0 n0 D0 D1 D2 P0 hfit) hZ (own_w hw 6 rfl) (own_w hw 2 rfl) (by decide) (by decide)) (g := (mkF m 2 #[.val (.int pi), .val .null, .unset, .unset, .unset, .unset] [])) rfl (by rw [hml]; rfl) (argsL := []) (rest := []) (lenOf pd_0 rfl) rfl (by show 2 * 0 + _ ≤ _; exact Nat.le_of_eq rfl) (hb hby d1_2) (fun _ _ => ⟨rfl, e0, (by decide : 0 + 1 ≤ _), (by decide : 0 + 3 ≤ _)⟩)
  dsimp only [Pt.U, Pt.locs, Pt.cells, Pt.slots] at X1 l1 y1 z1 st1 hQ1
  subst l1 y1 z1
  obtain ⟨r_1, rfl, N1q, Kp1, Op1, R1_0, R1_1, R1_2⟩ := hQ1
  have N1 := Fr.app N0 N1q
  refine Rch.st st1 ?_
  have g_r_1 : n0 ≤ r_1 := Nat.le_trans (Nat.le_trans (Nat.le_of_eq P0.1.symm) P0.2.1) R1_0
  have sz_r_1 : h0.size ≤ r_1 := Nat.le_trans (Keep.refl h0 []).1 R1_0
  have K2 : Keep h0 T1.heap [] := (Keep.refl h0 []).trans Kp1 all0
  show Rch p.tables e below _ (T1.setTop (mkF m 5 #[.val (.int pi), .val .null, .unset, .unset, .unset, .unset] [(.ref r_1)]))
  refine Rch.st (fun _ hr => XS.astoreN X1.here hx rfl (hb hby d1_5) rfl rfl (l' := #[.val (.int pi), .val .null, .val (.ref r_1), .unset, .unset, .unset]) rfl hr) ?_
  show Rch p.tables e below _ (T1.setTop (mkF m 6 #[.val (.int pi), .val .null, .val (.ref r_1), .unset, .unset, .unset] []))
  refine Rch.st (fun _ hr => XS.aloadN X1.here hx rfl (hb hby d1_6) rfl rfl hr) ?_
  show Rch p.tables e below _ (T1.setTop (mkF m 7 #[.val (.int pi), .val .null, .val (.ref r_1), .unset, .unset, .unset] [(.ref r_1)]))
  obtain ⟨cl3, Ar3, -, Sz3, Ng3, -, -⟩ := id R1_1
  refine Rch.st (fun t hr => X1.arraylength hx Ar3.1 (State.isArrayOf_alike hZ.alike Ar3.2.1) (g := (mkF m 7 #[.val (.int pi), .val .null, .val (.ref r_1), .unset, .unset, .unset] [(.ref r_1)])) rfl rfl (hb hby d1_7) t hr) ?_
  rw [len_of Sz3 Ng3]
  show Rch p.tables e below _ (T1.setTop (mkF m 8 #[.val (.int pi), .val .null, .val (.ref r_1), .unset, .unset, .unset] [(.int (3 : Int32))]))
  refine Rch.st (fun _ hr => XS.istoreN X1.here hx rfl (hb hby d1_8) rfl (l' := #[.val (.int pi), .val .null, .val (.ref r_1), .val (.int (3 : Int32)), .unset, .unset]) rfl hr) ?_
  show Rch p.tables e below _ (T1.setTop (mkF m 9 #[.val (.int pi), .val .null, .val (.ref r_1), .val (.int (3 : Int32)), .unset, .unset] []))
  refine Rch.st (fun _ hr => XS.iconst X1.here hx rfl (hb hby d1_9) hr) ?_
  show Rch p.tables e below _ (T1.setTop (mkF m 10 #[.val (.int pi), .val .null, .val (.ref r_1), .val (.int (3 : Int32)), .unset, .unset] [(.int (0 : Int32))]))
  refine Rch.st (fun _ hr => XS.istore X1.here hx rfl (hb hby d1_10) rfl (l' := #[.val (.int pi), .val .null, .val (.ref r_1), .val (.int (3 : Int32)), .val (.int (0 : Int32)), .unset]) rfl hr) ?_
  show Rch p.tables e below _ (T1.setTop (mkF m 12 #[.val (.int pi), .val .null, .val (.ref r_1), .val (.int (3 : Int32)), .val (.int (0 : Int32)), .unset] []))
  refine Rch.st (fun _ hr => XS.iload X1.here hx rfl (hb hby d1_12) rfl hr) ?_
  show Rch p.tables e below _ (T1.setTop (mkF m 14 #[.val (.int pi), .val .null, .val (.ref r_1), .val (.int (3 : Int32)), .val (.int (0 : Int32)), .unset] [(.int (0 : Int32))]))
  refine Rch.st (fun _ hr => XS.iloadN X1.here hx rfl (hb hby d1_14) rfl hr) ?_
  show Rch p.tables e below _ (T1.setTop (mkF m 15 #[.val (.int pi), .val .null, .val (.ref r_1), .val (.int (3 : Int32)), .val (.int (0 : Int32)), .unset] [(.int (3 : Int32)), (.int (0 : Int32))]))
  refine Rch.st (fun _ hr => XS.icmpNo X1.here hx rfl (hb hby d1_15) rfl (tlt (by decide : (0 : Int32) < (3 : Int32))).2.1 hr) ?_
  show Rch p.tables e below _ (T1.setTop (mkF m 18 #[.val (.int pi), .val .null, .val (.ref r_1), .val (.int (3 : Int32)), .val (.int (0 : Int32)), .unset] []))
  refine Rch.st (fun _ hr => XS.aloadN X1.here hx rfl (hb hby d1_18) rfl rfl hr) ?_
  show Rch p.tables e below _ (T1.setTop (mkF m 19 #[.val (.int pi), .val .null, .val (.ref r_1), .val (.int (3 : Int32)), .val (.int (0 : Int32)), .unset] [(.ref r_1)]))
  refine Rch.st (fun _ hr => XS.iload X1.here hx rfl (hb hby d1_19) rfl hr) ?_
  show Rch p.tables e below _ (T1.setTop (mkF m 21 #[.val (.int pi), .val .null, .val (.ref r_1), .val (.int (3 : Int32)), .val (.int (0 : Int32)), .unset] [(.int (0 : Int32)), (.ref r_1)]))
  obtain ⟨cl4, Ar4, -, Sz4, Ng4, Ha4, -⟩ := id R1_1
  have hin4 := inb_of (j := (0 : Int32)) Sz4 ⟨by decide, by decide⟩
  have hat4 := Ha4.at hin4 (v := (.ref v1)) rfl
  refine Rch.st (fun t hr => X1.aaload hx (j := (0 : Int32)) (v := (.ref v1)) Ar4.1 (State.isArrayOf_alike hZ.alike Ar4.2.1) rfl Ar4.2.2 hin4 hat4 (g := (mkF m 21 #[.val (.int pi), .val .null, .val (.ref r_1), .val (.int (3 : Int32)), .val (.int (0 : Int32)), .unset] [(.int (0 : Int32)), (.ref r_1)])) rfl rfl (hb hby d1_21) t hr) ?_
  show Rch p.tables e below _ (T1.setTop (mkF m 22 #[.val (.int pi), .val .null, .val (.ref r_1), .val (.int (3 : Int32)), .val (.int (0 : Int32)), .unset] [(.ref v1)]))
  refine Rch.st (fun _ hr => XS.astore X1.here hx rfl (hb hby d1_22) rfl rfl (l' := #[.val (.int pi), .val .null, .val (.ref r_1), .val (.int (3 : Int32)), .val (.int (0 : Int32)), .val (.ref v1)]) rfl hr) ?_
  show Rch p.tables e below _ (T1.setTop (mkF m 24 #[.val (.int pi), .val .null, .val (.ref r_1), .val (.int (3 : Int32)), .val (.int (0 : Int32)), .val (.ref v1)] []))
  refine Rch.st (fun _ hr => XS.iloadN X1.here hx rfl (hb hby d1_24) rfl hr) ?_
  show Rch p.tables e below _ (T1.setTop (mkF m 25 #[.val (.int pi), .val .null, .val (.ref r_1), .val (.int (3 : Int32)), .val (.int (0 : Int32)), .val (.ref v1)] [(.int pi)]))
  by_cases hc5 : pi = (0 : Int32)
  · refine Rch.st (fun _ hr => XS.ifYes X1.here hx rfl (pc0 := 25) (pc' := 40) rfl (hb hby d1_25) rfl ((if0 _ _).trans (teq hc5).1) (by decide) (by decide) hr) ?_
    show Rch p.tables e below _ (T1.setTop (mkF m 40 #[.val (.int pi), .val .null, .val (.ref r_1), .val (.int (3 : Int32)), .val (.int (0 : Int32)), .val (.ref v1)] []))
    refine Rch.st (fun _ hr => XS.iinc X1.here hx rfl (hb hby d1_40) rfl (l' := #[.val (.int pi), .val .null, .val (.ref r_1), .val (.int (3 : Int32)), .val (.int (1 : Int32)), .val (.ref v1)]) rfl hr) ?_
    show Rch p.tables e below _ (T1.setTop (mkF m 43 #[.val (.int pi), .val .null, .val (.ref r_1), .val (.int (3 : Int32)), .val (.int (1 : Int32)), .val (.ref v1)] []))
    refine Rch.st (fun _ hr => XS.goto X1.here hx rfl (pc0 := 43) (pc' := 12) rfl (hb hby d1_43) (by decide) (by decide) hr) ?_
    show Rch p.tables e below _ (T1.setTop (mkF m 12 #[.val (.int pi), .val .null, .val (.ref r_1), .val (.int (3 : Int32)), .val (.int (1 : Int32)), .val (.ref v1)] []))
    refine Rch.st (fun _ hr => XS.iload X1.here hx rfl (hb hby d1_12) rfl hr) ?_
    show Rch p.tables e below _ (T1.setTop (mkF m 14 #[.val (.int pi), .val .null, .val (.ref r_1), .val (.int (3 : Int32)), .val (.int (1 : Int32)), .val (.ref v1)] [(.int (1 : Int32))]))
    refine Rch.st (fun _ hr => XS.iloadN X1.here hx rfl (hb hby d1_14) rfl hr) ?_
    show Rch p.tables e below _ (T1.setTop (mkF m 15 #[.val (.int pi), .val .null, .val (.ref r_1), .val (.int (3 : Int32)), .val (.int (1 : Int32)), .val (.ref v1)] [(.int (3 : Int32)), (.int (1 : Int32))]))
    refine Rch.st (fun _ hr => XS.icmpNo X1.here hx rfl (hb hby d1_15) rfl (tlt (by decide : (1 : Int32) < (3 : Int32))).2.1 hr) ?_
    show Rch p.tables e below _ (T1.setTop (mkF m 18 #[.val (.int pi), .val .null, .val (.ref r_1), .val (.int (3 : Int32)), .val (.int (1 : Int32)), .val (.ref v1)] []))
    refine Rch.st (fun _ hr => XS.aloadN X1.here hx rfl (hb hby d1_18) rfl rfl hr) ?_
    show Rch p.tables e below _ (T1.setTop (mkF m 19 #[.val (.int pi), .val .null, .val (.ref r_1), .val (.int (3 : Int32)), .val (.int (1 : Int32)), .val (.ref v1)] [(.ref r_1)]))
    refine Rch.st (fun _ hr => XS.iload X1.here hx rfl (hb hby d1_19) rfl hr) ?_
    show Rch p.tables e below _ (T1.setTop (mkF m 21 #[.val (.int pi), .val .null, .val (.ref r_1), .val (.int (3 : Int32)), .val (.int (1 : Int32)), .val (.ref v1)] [(.int (1 : Int32)), (.ref r_1)]))
    obtain ⟨cl6, Ar6, -, Sz6, Ng6, Ha6, -⟩ := id R1_1
    have hin6 := inb_of (j := (1 : Int32)) Sz6 ⟨by decide, by decide⟩
    have hat6 := Ha6.at hin6 (v := (.ref v2)) rfl
    refine Rch.st (fun t hr => X1.aaload hx (j := (1 : Int32)) (v := (.ref v2)) Ar6.1 (State.isArrayOf_alike hZ.alike Ar6.2.1) rfl Ar6.2.2 hin6 hat6 (g := (mkF m 21 #[.val (.int pi), .val .null, .val (.ref r_1), .val (.int (3 : Int32)), .val (.int (1 : Int32)), .val (.ref v1)] [(.int (1 : Int32)), (.ref r_1)])) rfl rfl (hb hby d1_21) t hr) ?_
    show Rch p.tables e below _ (T1.setTop (mkF m 22 #[.val (.int pi), .val .null, .val (.ref r_1), .val (.int (3 : Int32)), .val (.int (1 : Int32)), .val (.ref v1)] [(.ref v2)]))
    refine Rch.st (fun _ hr => XS.astore X1.here hx rfl (hb hby d1_22) rfl rfl (l' := #[.val (.int pi), .val .null, .val (.ref r_1), .val (.int (3 : Int32)), .val (.int (1 : Int32)), .val (.ref v2)]) rfl hr) ?_
    show Rch p.tables e below _ (T1.setTop (mkF m 24 #[.val (.int pi), .val .null, .val (.ref r_1), .val (.int (3 : Int32)), .val (.int (1 : Int32)), .val (.ref v2)] []))
    refine Rch.st (fun _ hr => XS.iloadN X1.here hx rfl (hb hby d1_24) rfl hr) ?_
    show Rch p.tables e below _ (T1.setTop (mkF m 25 #[.val (.int pi), .val .null, .val (.ref r_1), .val (.int (3 : Int32)), .val (.int (1 : Int32)), .val (.ref v2)] [(.int pi)]))
    refine Rch.st (fun _ hr => XS.ifYes X1.here hx rfl (pc0 := 25) (pc' := 40) rfl (hb hby d1_25) rfl ((if0 _ _).trans (teq hc5).1) (by decide) (by decide) hr) ?_
    show Rch p.tables e below _ (T1.setTop (mkF m 40 #[.val (.int pi), .val .null, .val (.ref r_1), .val (.int (3 : Int32)), .val (.int (1 : Int32)), .val (.ref v2)] []))
    refine Rch.st (fun _ hr => XS.iinc X1.here hx rfl (hb hby d1_40) rfl (l' := #[.val (.int pi), .val .null, .val (.ref r_1), .val (.int (3 : Int32)), .val (.int (2 : Int32)), .val (.ref v2)]) rfl hr) ?_
    show Rch p.tables e below _ (T1.setTop (mkF m 43 #[.val (.int pi), .val .null, .val (.ref r_1), .val (.int (3 : Int32)), .val (.int (2 : Int32)), .val (.ref v2)] []))
    refine Rch.st (fun _ hr => XS.goto X1.here hx rfl (pc0 := 43) (pc' := 12) rfl (hb hby d1_43) (by decide) (by decide) hr) ?_
    show Rch p.tables e below _ (T1.setTop (mkF m 12 #[.val (.int pi), .val .null, .val (.ref r_1), .val (.int (3 : Int32)), .val (.int (2 : Int32)), .val (.ref v2)] []))
    refine Rch.st (fun _ hr => XS.iload X1.here hx rfl (hb hby d1_12) rfl hr) ?_
    show Rch p.tables e below _ (T1.setTop (mkF m 14 #[.val (.int pi), .val .null, .val (.ref r_1), .val (.int (3 : Int32)), .val (.int (2 : Int32)), .val (.ref v2)] [(.int (2 : Int32))]))
    refine Rch.st (fun _ hr => XS.iloadN X1.here hx rfl (hb hby d1_14) rfl hr) ?_
    show Rch p.tables e below _ (T1.setTop (mkF m 15 #[.val (.int pi), .val .null, .val (.ref r_1), .val (.int (3 : Int32)), .val (.int (2 : Int32)), .val (.ref v2)] [(.int (3 : Int32)), (.int (2 : Int32))]))
    refine Rch.st (fun _ hr => XS.icmpNo X1.here hx rfl (hb hby d1_15) rfl (tlt (by decide : (2 : Int32) < (3 : Int32))).2.1 hr) ?_
    show Rch p.tables e below _ (T1.setTop (mkF m 18 #[.val (.int pi), .val .null, .val (.ref r_1), .val (.int (3 : Int32)), .val (.int (2 : Int32)), .val (.ref v2)] []))
    refine Rch.st (fun _ hr => XS.aloadN X1.here hx rfl (hb hby d1_18) rfl rfl hr) ?_
    show Rch p.tables e below _ (T1.setTop (mkF m 19 #[.val (.int pi), .val .null, .val (.ref r_1), .val (.int (3 : Int32)), .val (.int (2 : Int32)), .val (.ref v2)] [(.ref r_1)]))
    refine Rch.st (fun _ hr => XS.iload X1.here hx rfl (hb hby d1_19) rfl hr) ?_
    show Rch p.tables e below _ (T1.setTop (mkF m 21 #[.val (.int pi), .val .null, .val (.ref r_1), .val (.int (3 : Int32)), .val (.int (2 : Int32)), .val (.ref v2)] [(.int (2 : Int32)), (.ref r_1)]))
    obtain ⟨cl7, Ar7, -, Sz7, Ng7, Ha7, -⟩ := id R1_1
    have hin7 := inb_of (j := (2 : Int32)) Sz7 ⟨by decide, by decide⟩
    have hat7 := Ha7.at hin7 (v := (.ref v3)) rfl
    refine Rch.st (fun t hr => X1.aaload hx (j := (2 : Int32)) (v := (.ref v3)) Ar7.1 (State.isArrayOf_alike hZ.alike Ar7.2.1) rfl Ar7.2.2 hin7 hat7 (g := (mkF m 21 #[.val (.int pi), .val .null, .val (.ref r_1), .val (.int (3 : Int32)), .val (.int (2 : Int32)), .val (.ref v2)] [(.int (2 : Int32)), (.ref r_1)])) rfl rfl (hb hby d1_21) t hr) ?_
    show Rch p.tables e below _ (T1.setTop (mkF m 22 #[.val (.int pi), .val .null, .val (.ref r_1), .val (.int (3 : Int32)), .val (.int (2 : Int32)), .val (.ref v2)] [(.ref v3)]))
    refine Rch.st (fun _ hr => XS.astore X1.here hx rfl (hb hby d1_22) rfl rfl (l' := #[.val (.int pi), .val .null, .val (.ref r_1), .val (.int (3 : Int32)), .val (.int (2 : Int32)), .val (.ref v3)]) rfl hr) ?_
    show Rch p.tables e below _ (T1.setTop (mkF m 24 #[.val (.int pi), .val .null, .val (.ref r_1), .val (.int (3 : Int32)), .val (.int (2 : Int32)), .val (.ref v3)] []))
    refine Rch.st (fun _ hr => XS.iloadN X1.here hx rfl (hb hby d1_24) rfl hr) ?_
    show Rch p.tables e below _ (T1.setTop (mkF m 25 #[.val (.int pi), .val .null, .val (.ref r_1), .val (.int (3 : Int32)), .val (.int (2 : Int32)), .val (.ref v3)] [(.int pi)]))
    refine Rch.st (fun _ hr => XS.ifYes X1.here hx rfl (pc0 := 25) (pc' := 40) rfl (hb hby d1_25) rfl ((if0 _ _).trans (teq hc5).1) (by decide) (by decide) hr) ?_
    show Rch p.tables e below _ (T1.setTop (mkF m 40 #[.val (.int pi), .val .null, .val (.ref r_1), .val (.int (3 : Int32)), .val (.int (2 : Int32)), .val (.ref v3)] []))
    refine Rch.st (fun _ hr => XS.iinc X1.here hx rfl (hb hby d1_40) rfl (l' := #[.val (.int pi), .val .null, .val (.ref r_1), .val (.int (3 : Int32)), .val (.int (3 : Int32)), .val (.ref v3)]) rfl hr) ?_
    show Rch p.tables e below _ (T1.setTop (mkF m 43 #[.val (.int pi), .val .null, .val (.ref r_1), .val (.int (3 : Int32)), .val (.int (3 : Int32)), .val (.ref v3)] []))
    refine Rch.st (fun _ hr => XS.goto X1.here hx rfl (pc0 := 43) (pc' := 12) rfl (hb hby d1_43) (by decide) (by decide) hr) ?_
    show Rch p.tables e below _ (T1.setTop (mkF m 12 #[.val (.int pi), .val .null, .val (.ref r_1), .val (.int (3 : Int32)), .val (.int (3 : Int32)), .val (.ref v3)] []))
    refine Rch.st (fun _ hr => XS.iload X1.here hx rfl (hb hby d1_12) rfl hr) ?_
    show Rch p.tables e below _ (T1.setTop (mkF m 14 #[.val (.int pi), .val .null, .val (.ref r_1), .val (.int (3 : Int32)), .val (.int (3 : Int32)), .val (.ref v3)] [(.int (3 : Int32))]))
    refine Rch.st (fun _ hr => XS.iloadN X1.here hx rfl (hb hby d1_14) rfl hr) ?_
    show Rch p.tables e below _ (T1.setTop (mkF m 15 #[.val (.int pi), .val .null, .val (.ref r_1), .val (.int (3 : Int32)), .val (.int (3 : Int32)), .val (.ref v3)] [(.int (3 : Int32)), (.int (3 : Int32))]))
    refine Rch.st (fun _ hr => XS.icmpYes X1.here hx rfl (pc0 := 15) (pc' := 46) rfl (hb hby d1_15) rfl (flt (by decide : ¬ ((3 : Int32) < (3 : Int32)))).2.1 (by decide) (by decide) hr) ?_
    show Rch p.tables e below _ (T1.setTop (mkF m 46 #[.val (.int pi), .val .null, .val (.ref r_1), .val (.int (3 : Int32)), .val (.int (3 : Int32)), .val (.ref v3)] []))
    refine Rch.st (fun _ hr => XS.aloadN X1.here hx rfl (hb hby d1_46) rfl rfl hr) ?_
    show Rch p.tables e below _ (T1.setTop (mkF m 47 #[.val (.int pi), .val .null, .val (.ref r_1), .val (.int (3 : Int32)), .val (.int (3 : Int32)), .val (.ref v3)] [.null]))
    obtain ⟨fs, hr, hrun, hended, hW, hsame⟩ := X1.leave (v := some .null) (fun h => by rw [Bd.returns] at h; cases h)
    refine Rch.fin (u := T1.setFrames fs) (own_retA X1 hx Bd.returns rfl rfl rfl (hb hby d1_47) hr) ⟨_, hrun, hended, _, _, rfl, ?_, ⟨_, rfl⟩, hW, hsame.mono (by decide) (by decide)⟩
    show Q_cwithn Z pi kv wv v1 v2 v3 h0 n0 _ T1.heap _
    exact ⟨rfl, N1, K2, Op1⟩
  · refine Rch.st (fun _ hr => XS.ifNo X1.here hx rfl (hb hby d1_25) rfl ((if0 _ _).trans (feq hc5).1) hr) ?_
    show Rch p.tables e below _ (T1.setTop (mkF m 28 #[.val (.int pi), .val .null, .val (.ref r_1), .val (.int (3 : Int32)), .val (.int (0 : Int32)), .val (.ref v1)] []))
    refine Rch.st (fun _ hr => XS.aload X1.here hx rfl (hb hby d1_28) rfl rfl hr) ?_
    show Rch p.tables e below _ (T1.setTop (mkF m 30 #[.val (.int pi), .val .null, .val (.ref r_1), .val (.int (3 : Int32)), .val (.int (0 : Int32)), .val (.ref v1)] [(.ref v1)]))
    obtain ⟨T8, X8, e8, st8⟩ := getF X1 hx hZ hown (host := "") (Or.inl (own_w hw 22 rfl)) Via.refl rfl (D3.ext Op1.2) (g := (mkF m 30 #[.val (.int pi), .val .null, .val (.ref r_1), .val (.int (3 : Int32)), .val (.int (0 : Int32)), .val (.ref v1)] [(.ref v1)])) rfl rfl (hb hby d1_30)
    refine Rch.st st8 ?_
    show Rch p.tables e below _ (T8.setTop (mkF m 33 #[.val (.int pi), .val .null, .val (.ref r_1), .val (.int (3 : Int32)), .val (.int (0 : Int32)), .val (.ref v1)] [(.int (0 : Int32))]))
    refine Rch.st (fun _ hr => XS.iloadN X8.here hx rfl (hb hby d1_33) rfl hr) ?_
    show Rch p.tables e below _ (T8.setTop (mkF m 34 #[.val (.int pi), .val .null, .val (.ref r_1), .val (.int (3 : Int32)), .val (.int (0 : Int32)), .val (.ref v1)] [(.int pi), (.int (0 : Int32))]))
    refine Rch.st (fun _ hr => XS.icmpYes X8.here hx rfl (pc0 := 34) (pc' := 40) rfl (hb hby d1_34) rfl (feq (fun q => hc5 q.symm)).2 (by decide) (by decide) hr) ?_
    show Rch p.tables e below _ (T8.setTop (mkF m 40 #[.val (.int pi), .val .null, .val (.ref r_1), .val (.int (3 : Int32)), .val (.int (0 : Int32)), .val (.ref v1)] []))
    refine Rch.st (fun _ hr => XS.iinc X8.here hx rfl (hb hby d1_40) rfl (l' := #[.val (.int pi), .val .null, .val (.ref r_1), .val (.int (3 : Int32)), .val (.int (1 : Int32)), .val (.ref v1)]) rfl hr) ?_
    show Rch p.tables e below _ (T8.setTop (mkF m 43 #[.val (.int pi), .val .null, .val (.ref r_1), .val (.int (3 : Int32)), .val (.int (1 : Int32)), .val (.ref v1)] []))
    refine Rch.st (fun _ hr => XS.goto X8.here hx rfl (pc0 := 43) (pc' := 12) rfl (hb hby d1_43) (by decide) (by decide) hr) ?_
    show Rch p.tables e below _ (T8.setTop (mkF m 12 #[.val (.int pi), .val .null, .val (.ref r_1), .val (.int (3 : Int32)), .val (.int (1 : Int32)), .val (.ref v1)] []))
    refine Rch.st (fun _ hr => XS.iload X8.here hx rfl (hb hby d1_12) rfl hr) ?_
    show Rch p.tables e below _ (T8.setTop (mkF m 14 #[.val (.int pi), .val .null, .val (.ref r_1), .val (.int (3 : Int32)), .val (.int (1 : Int32)), .val (.ref v1)] [(.int (1 : Int32))]))
    refine Rch.st (fun _ hr => XS.iloadN X8.here hx rfl (hb hby d1_14) rfl hr) ?_
    show Rch p.tables e below _ (T8.setTop (mkF m 15 #[.val (.int pi), .val .null, .val (.ref r_1), .val (.int (3 : Int32)), .val (.int (1 : Int32)), .val (.ref v1)] [(.int (3 : Int32)), (.int (1 : Int32))]))
    refine Rch.st (fun _ hr => XS.icmpNo X8.here hx rfl (hb hby d1_15) rfl (tlt (by decide : (1 : Int32) < (3 : Int32))).2.1 hr) ?_
    show Rch p.tables e below _ (T8.setTop (mkF m 18 #[.val (.int pi), .val .null, .val (.ref r_1), .val (.int (3 : Int32)), .val (.int (1 : Int32)), .val (.ref v1)] []))
    refine Rch.st (fun _ hr => XS.aloadN X8.here hx rfl (hb hby d1_18) rfl rfl hr) ?_
    show Rch p.tables e below _ (T8.setTop (mkF m 19 #[.val (.int pi), .val .null, .val (.ref r_1), .val (.int (3 : Int32)), .val (.int (1 : Int32)), .val (.ref v1)] [(.ref r_1)]))
    refine Rch.st (fun _ hr => XS.iload X8.here hx rfl (hb hby d1_19) rfl hr) ?_
    show Rch p.tables e below _ (T8.setTop (mkF m 21 #[.val (.int pi), .val .null, .val (.ref r_1), .val (.int (3 : Int32)), .val (.int (1 : Int32)), .val (.ref v1)] [(.int (1 : Int32)), (.ref r_1)]))
    obtain ⟨cl9, Ar9, -, Sz9, Ng9, Ha9, -⟩ := id R1_1
    have hin9 := inb_of (j := (1 : Int32)) Sz9 ⟨by decide, by decide⟩
    have hat9 := Ha9.at hin9 (v := (.ref v2)) rfl
    refine Rch.st (fun t hr => X8.aaload hx (j := (1 : Int32)) (v := (.ref v2)) (by rw [e8]; exact Ar9.1) (State.isArrayOf_alike hZ.alike Ar9.2.1) rfl Ar9.2.2 hin9 hat9 (g := (mkF m 21 #[.val (.int pi), .val .null, .val (.ref r_1), .val (.int (3 : Int32)), .val (.int (1 : Int32)), .val (.ref v1)] [(.int (1 : Int32)), (.ref r_1)])) rfl rfl (hb hby d1_21) t hr) ?_
    show Rch p.tables e below _ (T8.setTop (mkF m 22 #[.val (.int pi), .val .null, .val (.ref r_1), .val (.int (3 : Int32)), .val (.int (1 : Int32)), .val (.ref v1)] [(.ref v2)]))
    refine Rch.st (fun _ hr => XS.astore X8.here hx rfl (hb hby d1_22) rfl rfl (l' := #[.val (.int pi), .val .null, .val (.ref r_1), .val (.int (3 : Int32)), .val (.int (1 : Int32)), .val (.ref v2)]) rfl hr) ?_
    show Rch p.tables e below _ (T8.setTop (mkF m 24 #[.val (.int pi), .val .null, .val (.ref r_1), .val (.int (3 : Int32)), .val (.int (1 : Int32)), .val (.ref v2)] []))
    refine Rch.st (fun _ hr => XS.iloadN X8.here hx rfl (hb hby d1_24) rfl hr) ?_
    show Rch p.tables e below _ (T8.setTop (mkF m 25 #[.val (.int pi), .val .null, .val (.ref r_1), .val (.int (3 : Int32)), .val (.int (1 : Int32)), .val (.ref v2)] [(.int pi)]))
    refine Rch.st (fun _ hr => XS.ifNo X8.here hx rfl (hb hby d1_25) rfl ((if0 _ _).trans (feq hc5).1) hr) ?_
    show Rch p.tables e below _ (T8.setTop (mkF m 28 #[.val (.int pi), .val .null, .val (.ref r_1), .val (.int (3 : Int32)), .val (.int (1 : Int32)), .val (.ref v2)] []))
    refine Rch.st (fun _ hr => XS.aload X8.here hx rfl (hb hby d1_28) rfl rfl hr) ?_
    show Rch p.tables e below _ (T8.setTop (mkF m 30 #[.val (.int pi), .val .null, .val (.ref r_1), .val (.int (3 : Int32)), .val (.int (1 : Int32)), .val (.ref v2)] [(.ref v2)]))
    obtain ⟨T10, X10, e10, st10⟩ := getF X8 hx hZ hown (host := "") (Or.inl (own_w hw 22 rfl)) Via.refl e8 (D4.ext Op1.2) (g := (mkF m 30 #[.val (.int pi), .val .null, .val (.ref r_1), .val (.int (3 : Int32)), .val (.int (1 : Int32)), .val (.ref v2)] [(.ref v2)])) rfl rfl (hb hby d1_30)
    refine Rch.st st10 ?_
    show Rch p.tables e below _ (T10.setTop (mkF m 33 #[.val (.int pi), .val .null, .val (.ref r_1), .val (.int (3 : Int32)), .val (.int (1 : Int32)), .val (.ref v2)] [(.int (2 : Int32))]))
    refine Rch.st (fun _ hr => XS.iloadN X10.here hx rfl (hb hby d1_33) rfl hr) ?_
    show Rch p.tables e below _ (T10.setTop (mkF m 34 #[.val (.int pi), .val .null, .val (.ref r_1), .val (.int (3 : Int32)), .val (.int (1 : Int32)), .val (.ref v2)] [(.int pi), (.int (2 : Int32))]))
    refine Rch.st (fun _ hr => XS.icmpYes X10.here hx rfl (pc0 := 34) (pc' := 40) rfl (hb hby d1_34) rfl (feq h2q).2 (by decide) (by decide) hr) ?_
    show Rch p.tables e below _ (T10.setTop (mkF m 40 #[.val (.int pi), .val .null, .val (.ref r_1), .val (.int (3 : Int32)), .val (.int (1 : Int32)), .val (.ref v2)] []))
    refine Rch.st (fun _ hr => XS.iinc X10.here hx rfl (hb hby d1_40) rfl (l' := #[.val (.int pi), .val .null, .val (.ref r_1), .val (.int (3 : Int32)), .val (.int (2 : Int32)), .val (.ref v2)]) rfl hr) ?_
    show Rch p.tables e below _ (T10.setTop (mkF m 43 #[.val (.int pi), .val .null, .val (.ref r_1), .val (.int (3 : Int32)), .val (.int (2 : Int32)), .val (.ref v2)] []))
    refine Rch.st (fun _ hr => XS.goto X10.here hx rfl (pc0 := 43) (pc' := 12) rfl (hb hby d1_43) (by decide) (by decide) hr) ?_
    show Rch p.tables e below _ (T10.setTop (mkF m 12 #[.val (.int pi), .val .null, .val (.ref r_1), .val (.int (3 : Int32)), .val (.int (2 : Int32)), .val (.ref v2)] []))
    refine Rch.st (fun _ hr => XS.iload X10.here hx rfl (hb hby d1_12) rfl hr) ?_
    show Rch p.tables e below _ (T10.setTop (mkF m 14 #[.val (.int pi), .val .null, .val (.ref r_1), .val (.int (3 : Int32)), .val (.int (2 : Int32)), .val (.ref v2)] [(.int (2 : Int32))]))
    refine Rch.st (fun _ hr => XS.iloadN X10.here hx rfl (hb hby d1_14) rfl hr) ?_
    show Rch p.tables e below _ (T10.setTop (mkF m 15 #[.val (.int pi), .val .null, .val (.ref r_1), .val (.int (3 : Int32)), .val (.int (2 : Int32)), .val (.ref v2)] [(.int (3 : Int32)), (.int (2 : Int32))]))
    refine Rch.st (fun _ hr => XS.icmpNo X10.here hx rfl (hb hby d1_15) rfl (tlt (by decide : (2 : Int32) < (3 : Int32))).2.1 hr) ?_
    show Rch p.tables e below _ (T10.setTop (mkF m 18 #[.val (.int pi), .val .null, .val (.ref r_1), .val (.int (3 : Int32)), .val (.int (2 : Int32)), .val (.ref v2)] []))
    refine Rch.st (fun _ hr => XS.aloadN X10.here hx rfl (hb hby d1_18) rfl rfl hr) ?_
    show Rch p.tables e below _ (T10.setTop (mkF m 19 #[.val (.int pi), .val .null, .val (.ref r_1), .val (.int (3 : Int32)), .val (.int (2 : Int32)), .val (.ref v2)] [(.ref r_1)]))
    refine Rch.st (fun _ hr => XS.iload X10.here hx rfl (hb hby d1_19) rfl hr) ?_
    show Rch p.tables e below _ (T10.setTop (mkF m 21 #[.val (.int pi), .val .null, .val (.ref r_1), .val (.int (3 : Int32)), .val (.int (2 : Int32)), .val (.ref v2)] [(.int (2 : Int32)), (.ref r_1)]))
    obtain ⟨cl11, Ar11, -, Sz11, Ng11, Ha11, -⟩ := id R1_1
    have hin11 := inb_of (j := (2 : Int32)) Sz11 ⟨by decide, by decide⟩
    have hat11 := Ha11.at hin11 (v := (.ref v3)) rfl
    refine Rch.st (fun t hr => X10.aaload hx (j := (2 : Int32)) (v := (.ref v3)) (by rw [e10]; exact Ar11.1) (State.isArrayOf_alike hZ.alike Ar11.2.1) rfl Ar11.2.2 hin11 hat11 (g := (mkF m 21 #[.val (.int pi), .val .null, .val (.ref r_1), .val (.int (3 : Int32)), .val (.int (2 : Int32)), .val (.ref v2)] [(.int (2 : Int32)), (.ref r_1)])) rfl rfl (hb hby d1_21) t hr) ?_
    show Rch p.tables e below _ (T10.setTop (mkF m 22 #[.val (.int pi), .val .null, .val (.ref r_1), .val (.int (3 : Int32)), .val (.int (2 : Int32)), .val (.ref v2)] [(.ref v3)]))
    refine Rch.st (fun _ hr => XS.astore X10.here hx rfl (hb hby d1_22) rfl rfl (l' := #[.val (.int pi), .val .null, .val (.ref r_1), .val (.int (3 : Int32)), .val (.int (2 : Int32)), .val (.ref v3)]) rfl hr) ?_
    show Rch p.tables e below _ (T10.setTop (mkF m 24 #[.val (.int pi), .val .null, .val (.ref r_1), .val (.int (3 : Int32)), .val (.int (2 : Int32)), .val (.ref v3)] []))
    refine Rch.st (fun _ hr => XS.iloadN X10.here hx rfl (hb hby d1_24) rfl hr) ?_
    show Rch p.tables e below _ (T10.setTop (mkF m 25 #[.val (.int pi), .val .null, .val (.ref r_1), .val (.int (3 : Int32)), .val (.int (2 : Int32)), .val (.ref v3)] [(.int pi)]))
    refine Rch.st (fun _ hr => XS.ifNo X10.here hx rfl (hb hby d1_25) rfl ((if0 _ _).trans (feq hc5).1) hr) ?_
    show Rch p.tables e below _ (T10.setTop (mkF m 28 #[.val (.int pi), .val .null, .val (.ref r_1), .val (.int (3 : Int32)), .val (.int (2 : Int32)), .val (.ref v3)] []))
    refine Rch.st (fun _ hr => XS.aload X10.here hx rfl (hb hby d1_28) rfl rfl hr) ?_
    show Rch p.tables e below _ (T10.setTop (mkF m 30 #[.val (.int pi), .val .null, .val (.ref r_1), .val (.int (3 : Int32)), .val (.int (2 : Int32)), .val (.ref v3)] [(.ref v3)]))
    obtain ⟨T12, X12, e12, st12⟩ := getF X10 hx hZ hown (host := "") (Or.inl (own_w hw 22 rfl)) Via.refl e10 (D5.ext Op1.2) (g := (mkF m 30 #[.val (.int pi), .val .null, .val (.ref r_1), .val (.int (3 : Int32)), .val (.int (2 : Int32)), .val (.ref v3)] [(.ref v3)])) rfl rfl (hb hby d1_30)
    refine Rch.st st12 ?_
    show Rch p.tables e below _ (T12.setTop (mkF m 33 #[.val (.int pi), .val .null, .val (.ref r_1), .val (.int (3 : Int32)), .val (.int (2 : Int32)), .val (.ref v3)] [(.int (3 : Int32))]))
    refine Rch.st (fun _ hr => XS.iloadN X12.here hx rfl (hb hby d1_33) rfl hr) ?_
    show Rch p.tables e below _ (T12.setTop (mkF m 34 #[.val (.int pi), .val .null, .val (.ref r_1), .val (.int (3 : Int32)), .val (.int (2 : Int32)), .val (.ref v3)] [(.int pi), (.int (3 : Int32))]))
    refine Rch.st (fun _ hr => XS.icmpYes X12.here hx rfl (pc0 := 34) (pc' := 40) rfl (hb hby d1_34) rfl (feq h3q).2 (by decide) (by decide) hr) ?_
    show Rch p.tables e below _ (T12.setTop (mkF m 40 #[.val (.int pi), .val .null, .val (.ref r_1), .val (.int (3 : Int32)), .val (.int (2 : Int32)), .val (.ref v3)] []))
    refine Rch.st (fun _ hr => XS.iinc X12.here hx rfl (hb hby d1_40) rfl (l' := #[.val (.int pi), .val .null, .val (.ref r_1), .val (.int (3 : Int32)), .val (.int (3 : Int32)), .val (.ref v3)]) rfl hr) ?_
    show Rch p.tables e below _ (T12.setTop (mkF m 43 #[.val (.int pi), .val .null, .val (.ref r_1), .val (.int (3 : Int32)), .val (.int (3 : Int32)), .val (.ref v3)] []))
    refine Rch.st (fun _ hr => XS.goto X12.here hx rfl (pc0 := 43) (pc' := 12) rfl (hb hby d1_43) (by decide) (by decide) hr) ?_
    show Rch p.tables e below _ (T12.setTop (mkF m 12 #[.val (.int pi), .val .null, .val (.ref r_1), .val (.int (3 : Int32)), .val (.int (3 : Int32)), .val (.ref v3)] []))
    refine Rch.st (fun _ hr => XS.iload X12.here hx rfl (hb hby d1_12) rfl hr) ?_
    show Rch p.tables e below _ (T12.setTop (mkF m 14 #[.val (.int pi), .val .null, .val (.ref r_1), .val (.int (3 : Int32)), .val (.int (3 : Int32)), .val (.ref v3)] [(.int (3 : Int32))]))
    refine Rch.st (fun _ hr => XS.iloadN X12.here hx rfl (hb hby d1_14) rfl hr) ?_
    show Rch p.tables e below _ (T12.setTop (mkF m 15 #[.val (.int pi), .val .null, .val (.ref r_1), .val (.int (3 : Int32)), .val (.int (3 : Int32)), .val (.ref v3)] [(.int (3 : Int32)), (.int (3 : Int32))]))
    refine Rch.st (fun _ hr => XS.icmpYes X12.here hx rfl (pc0 := 15) (pc' := 46) rfl (hb hby d1_15) rfl (flt (by decide : ¬ ((3 : Int32) < (3 : Int32)))).2.1 (by decide) (by decide) hr) ?_
    show Rch p.tables e below _ (T12.setTop (mkF m 46 #[.val (.int pi), .val .null, .val (.ref r_1), .val (.int (3 : Int32)), .val (.int (3 : Int32)), .val (.ref v3)] []))
    refine Rch.st (fun _ hr => XS.aloadN X12.here hx rfl (hb hby d1_46) rfl rfl hr) ?_
    show Rch p.tables e below _ (T12.setTop (mkF m 47 #[.val (.int pi), .val .null, .val (.ref r_1), .val (.int (3 : Int32)), .val (.int (3 : Int32)), .val (.ref v3)] [.null]))
    obtain ⟨fs, hr, hrun, hended, hW, hsame⟩ := X12.leave (v := some .null) (fun h => by rw [Bd.returns] at h; cases h)
    refine Rch.fin (u := T12.setFrames fs) (own_retA X12 hx Bd.returns rfl rfl rfl (hb hby d1_47) hr) ⟨_, hrun, hended, _, _, rfl, ?_, ⟨_, rfl⟩, hW, hsame.mono (by decide) (by decide)⟩
    show Q_cwithn Z pi kv wv v1 v2 v3 h0 n0 _ T12.heap _
    rw [e12]
    exact ⟨rfl, N1, K2, Op1⟩
theorem pd_1 : parseMethodDescriptor "(I)Lcom/example/hangar_deck/hangardeck/apk/SignatureScheme;" = some ⟨[.int], some (.object "com/example/hangar_deck/hangardeck/apk/SignatureScheme")⟩ := by decide +kernel
def Q_claw (Z : State) (p0 : Int32) (p1 : Int32) (kv : ClassId) (wv : Addr) (v1 : Addr) (v2 : Addr) (v3 : Addr) (h0 : Heap) (n0 : Nat) (v : Option Value) (h : Heap) (L : List Loc) : Prop := v = some (.int (1 : Int32)) ∧ Fr n0 L ∧ Keep h0 h [] ∧ Old Z n0 h
theorem pn_com_example_hangar_deck_hangardeck_apk_SignatureSchemeWithIdPinLaw : plainName "com/example/hangar_deck/hangardeck/apk/SignatureSchemeWithIdPinLaw" = true := by first | (simp [plainName, overriddenIn]; done) | decide +kernel
theorem ef_claw (m : MethodId) (p0 : Int32) (p1 : Int32) (kv : ClassId) (wv : Addr) (v1 : Addr) (v2 : Addr) (v3 : Addr) : entryFrame m #[(.int p0), (.int p1)] maxLocals = mkF m 0 #[.val (.int p0), .val (.int p1), .unset, .unset, .unset] [] := by first | (simp [entryFrame, mkF, argsToLocals, Value.category, maxLocals]; done) | rfl
set_option maxRecDepth 65536 in
set_option maxHeartbeats 40000000 in
theorem claw (l : Launch) (Z : State) (a0 : Array Value) (hw : ∀ d ∈ tables_1, d.before a0 Z = true) (ws : List Jvm.Cond) (p0 : Int32) (p1 : Int32) (kv : ClassId) (wv : Addr) (v1 : Addr) (v2 : Addr) (v3 : Addr) (h0 : Heap) (n0 : Nat) (D0 : Sta Z Z.heap "com/example/hangar_deck/hangardeck/apk/SignatureScheme" "$VALUES" "[Lcom/example/hangar_deck/hangardeck/apk/SignatureScheme;" (.ref wv)) (D1 : Arv Z Z.heap wv kv (.object "com/example/hangar_deck/hangardeck/apk/SignatureScheme") (3 : Int32) [(.ref v1), (.ref v2), (.ref v3)] .null) (D2 : Exa Z Z.heap wv "[Lcom/example/hangar_deck/hangardeck/apk/SignatureScheme;") (D3 : Fld Z Z.heap v1 "com/example/hangar_deck/hangardeck/apk/SignatureScheme" "id" "I" (.int (0 : Int32))) (D4 : Fld Z Z.heap v2 "com/example/hangar_deck/hangardeck/apk/SignatureScheme" "id" "I" (.int (2 : Int32))) (D5 : Fld Z Z.heap v3 "com/example/hangar_deck/hangardeck/apk/SignatureScheme" "id" "I" (.int (3 : Int32))) (D6 : Sta Z Z.heap "com/example/hangar_deck/hangardeck/apk/SignatureScheme" "V2" "Lcom/example/hangar_deck/hangardeck/apk/SignatureScheme;" (.ref v2)) (D7 : Sta Z Z.heap "com/example/hangar_deck/hangardeck/apk/SignatureScheme" "V3" "Lcom/example/hangar_deck/hangardeck/apk/SignatureScheme;" (.ref v3)) (P0 : Old Z n0 h0) (hfit : Fit Z) :
    MetFree l x (head1 (Jvm.Cond.code x code maxLocals ret :: ws) room_1) (fun aA uU => aA = #[(.int p0), (.int p1)] ∧ Z.Warmed39 uU.vm ∧ uU.heap = h0) (fun _ _ _ _ _ => True) (fun _ uU oO uU' => ∃ vV lL, oO = .returned vV ∧ Q_claw Z p0 p1 kv wv v1 v2 v3 h0 n0 vV uU'.heap lL ∧ FrameEnd uU oO uU' lL room_1.cells room_1.slots) := by
  refine MetFree.of_bodySF (plainFor_of_name pn_com_example_hangar_deck_hangardeck_apk_SignatureSchemeWithIdPinLaw) hisR ?_
  intro p e s m args below meth c s₁ Bd hml0 hP hK
  obtain ⟨rfl, hZ, hh⟩ := hP
  have hx := Bd.exec
  have hby := Bd.bytes
  have hml : c.maxLocals = 5 := hml0
  have hown : s.vm.findClass "com/example/hangar_deck/hangardeck/apk/SignatureSchemeWithIdPinLaw" = some m.cls := findClass_of_methodNamed Bd.named
  have hnm := (name_of_methodNamed Bd.named Bd.method).1
  have X0 : Stand p l e room_1 s m #[(.int p0), (.int p1)] below meth c s₁ [] 0 0 := Stand.of_body Bd
  have e0 : s₁.heap = h0 := by rw [← hh, Bd.state]; rfl
  have N0 := Fr.nil n0
  refine Rch.out (Rch.st (fun t k => castTop (ef_claw m p0 p1 kv wv v1 v2 v3) k) ?_)
  show Rch p.tables e below _ (s₁.setTop (mkF m 0 #[.val (.int p0), .val (.int p1), .unset, .unset, .unset] []))
  refine Rch.st (fun _ hr => XS.iloadN X0.here hx rfl (hb hby at_0) rfl hr) ?_
  show Rch p.tables e below _ (s₁.setTop (mkF m 1 #[.val (.int p0), .val (.int p1), .unset, .unset, .unset] [(.int p1)]))
  refine Rch.st (fun _ hr => XS.iconst X0.here hx rfl (hb hby at_1) hr) ?_
  show Rch p.tables e below _ (s₁.setTop (mkF m 2 #[.val (.int p0), .val (.int p1), .unset, .unset, .unset] [(.int (1 : Int32)), (.int p1)]))
  refine Rch.st (fun _ hr => XS.iand X0.here hx rfl (hb hby at_2) rfl hr) ?_
  show Rch p.tables e below _ (s₁.setTop (mkF m 3 #[.val (.int p0), .val (.int p1), .unset, .unset, .unset] [(.int (p1 &&& (1 : Int32)))]))
  by_cases hc1 : (p1 &&& (1 : Int32)) = (0 : Int32)
  · refine Rch.st (fun _ hr => XS.ifYes X0.here hx rfl (pc0 := 3) (pc' := 12) rfl (hb hby at_3) rfl ((if0 _ _).trans (teq hc1).1) (by decide) (by decide) hr) ?_
    show Rch p.tables e below _ (s₁.setTop (mkF m 12 #[.val (.int p0), .val (.int p1), .unset, .unset, .unset] []))
    refine Rch.st (fun _ hr => XS.iloadN X0.here hx rfl (hb hby at_12) rfl hr) ?_
    show Rch p.tables e below _ (s₁.setTop (mkF m 13 #[.val (.int p0), .val (.int p1), .unset, .unset, .unset] [(.int p0)]))
    refine Rch.st (fun _ hr => XS.istoreN X0.here hx rfl (hb hby at_13) rfl (l' := #[.val (.int p0), .val (.int p1), .val (.int p0), .unset, .unset]) rfl hr) ?_
    show Rch p.tables e below _ (s₁.setTop (mkF m 14 #[.val (.int p0), .val (.int p1), .val (.int p0), .unset, .unset] []))
    refine Rch.st (fun _ hr => XS.iloadN X0.here hx rfl (hb hby at_14) rfl hr) ?_
    show Rch p.tables e below _ (s₁.setTop (mkF m 15 #[.val (.int p0), .val (.int p1), .val (.int p0), .unset, .unset] [(.int p0)]))
    by_cases hc2 : p0 = (2 : Int32)
    · show Rch p.tables e below _ (s₁.setTop (mkF m 15 #[.val (.int p0), .val (.int p1), .val (.int p0), .unset, .unset] [(.int p0)]))
      obtain ⟨_, _, ⟨T3, L3, k3, n3⟩, -, X3, ⟨Lc3, hQ3, l3, y3, z3⟩, st3⟩ := Jvm.LawKit.callS X0 hx (y := (⟨"com/example/hangar_deck/hangardeck/apk/SignatureScheme", "withId", "(I)Lcom/example/hangar_deck/hangardeck/apk/SignatureScheme;"⟩ : MethodName)) hown (mvT hZ (own_w hw 0 rfl)) (mvT hZ (own_w hw 1 rfl)) (mvT hZ (own_w hw 2 rfl)) (mvT hZ (own_w hw 3 rfl)) (by decide) (backOf (W := 0) (cwith2 l Z a0 hw [] p0 kv wv v1 v2 v3 h0 n0 D0 D1 D2 D3 D4 D5 P0 hfit (by rw [hc2]; decide) (by rw [hc2]; decide) hc2.symm (by rw [hc2]; decide)) hZ (own_w hw 3 rfl) (own_w hw 2 rfl) (by decide) (by decide)) (g := (mkF m 15 #[.val (.int p0), .val (.int p1), .val (.int p0), .unset, .unset] [(.int p0)])) rfl (by rw [hml]; rfl) (argsL := [(.int p0)]) (rest := []) (lenOf pd_1 rfl) rfl (by show 2 * 0 + _ ≤ _; exact Nat.le_of_eq rfl) (hb hby at_15) (fun _ _ => ⟨rfl, e0, (by decide : 0 + 1 ≤ _), (by decide : 0 + 3 ≤ _)⟩)
      dsimp only [Pt.U, Pt.locs, Pt.cells, Pt.slots] at X3 l3 y3 z3 st3 hQ3
      subst l3 y3 z3
      obtain ⟨rfl, N3q, Kp3, Op3⟩ := hQ3
      have N3 := Fr.app N0 N3q
      refine Rch.st st3 ?_
      have K4 : Keep h0 T3.heap [] := (Keep.refl h0 []).trans Kp3 all0
      show Rch p.tables e below _ (T3.setTop (mkF m 18 #[.val (.int p0), .val (.int p1), .val (.int p0), .unset, .unset] [(.ref v2)]))
      refine Rch.st (fun _ hr => XS.astoreN X3.here hx rfl (hb hby at_18) rfl rfl (l' := #[.val (.int p0), .val (.int p1), .val (.int p0), .val (.ref v2), .unset]) rfl hr) ?_
      show Rch p.tables e below _ (T3.setTop (mkF m 19 #[.val (.int p0), .val (.int p1), .val (.int p0), .val (.ref v2), .unset] []))
      refine Rch.st (fun _ hr => XS.iloadN X3.here hx rfl (hb hby at_19) rfl hr) ?_
      show Rch p.tables e below _ (T3.setTop (mkF m 20 #[.val (.int p0), .val (.int p1), .val (.int p0), .val (.ref v2), .unset] [(.int p0)]))
      refine Rch.st (fun _ hr => XS.iconst X3.here hx rfl (hb hby at_20) hr) ?_
      show Rch p.tables e below _ (T3.setTop (mkF m 21 #[.val (.int p0), .val (.int p1), .val (.int p0), .val (.ref v2), .unset] [(.int (2 : Int32)), (.int p0)]))
      refine Rch.st (fun _ hr => XS.icmpNo X3.here hx rfl (hb hby at_21) rfl (teq hc2).2 hr) ?_
      show Rch p.tables e below _ (T3.setTop (mkF m 24 #[.val (.int p0), .val (.int p1), .val (.int p0), .val (.ref v2), .unset] []))
      obtain ⟨T5, X5, e5, st5⟩ := getS2 X3 hx hZ hown (host := "") (Or.inl (own_w hw 24 rfl)) Via.refl rfl (D6.ext Op3.2) (g := (mkF m 24 #[.val (.int p0), .val (.int p1), .val (.int p0), .val (.ref v2), .unset] [])) rfl (hb hby at_24)
      refine Rch.st st5 ?_
      show Rch p.tables e below _ (T5.setTop (mkF m 27 #[.val (.int p0), .val (.int p1), .val (.int p0), .val (.ref v2), .unset] [(.ref v2)]))
      refine Rch.st (fun _ hr => XS.astore X5.here hx rfl (hb hby at_27) rfl rfl (l' := #[.val (.int p0), .val (.int p1), .val (.int p0), .val (.ref v2), .val (.ref v2)]) rfl hr) ?_
      show Rch p.tables e below _ (T5.setTop (mkF m 29 #[.val (.int p0), .val (.int p1), .val (.int p0), .val (.ref v2), .val (.ref v2)] []))
      refine Rch.st (fun _ hr => XS.goto X5.here hx rfl (pc0 := 29) (pc' := 48) rfl (hb hby at_29) (by decide) (by decide) hr) ?_
      show Rch p.tables e below _ (T5.setTop (mkF m 48 #[.val (.int p0), .val (.int p1), .val (.int p0), .val (.ref v2), .val (.ref v2)] []))
      refine Rch.st (fun _ hr => XS.aloadN X5.here hx rfl (hb hby at_48) rfl rfl hr) ?_
      show Rch p.tables e below _ (T5.setTop (mkF m 49 #[.val (.int p0), .val (.int p1), .val (.int p0), .val (.ref v2), .val (.ref v2)] [(.ref v2)]))
      refine Rch.st (fun _ hr => XS.aload X5.here hx rfl (hb hby at_49) rfl rfl hr) ?_
      show Rch p.tables e below _ (T5.setTop (mkF m 51 #[.val (.int p0), .val (.int p1), .val (.int p0), .val (.ref v2), .val (.ref v2)] [(.ref v2), (.ref v2)]))
      refine Rch.st (fun _ hr => Jvm.RoadKit.acmp (g := (mkF m 51 #[.val (.int p0), .val (.int p1), .val (.int p0), .val (.ref v2), .val (.ref v2)] [(.ref v2), (.ref v2)])) X5 hx rfl rfl rfl (pc0 := 51) (pc' := 54) (same := true) rfl (hb hby at_51) rfl (decide_eq_true rfl) (by decide) (by decide) hr) ?_
      show Rch p.tables e below _ (T5.setTop (mkF m 54 #[.val (.int p0), .val (.int p1), .val (.int p0), .val (.ref v2), .val (.ref v2)] []))
      refine Rch.st (fun _ hr => XS.iconst X5.here hx rfl (hb hby at_54) hr) ?_
      show Rch p.tables e below _ (T5.setTop (mkF m 55 #[.val (.int p0), .val (.int p1), .val (.int p0), .val (.ref v2), .val (.ref v2)] [(.int (1 : Int32))]))
      refine Rch.st (fun _ hr => XS.goto X5.here hx rfl (pc0 := 55) (pc' := 59) rfl (hb hby at_55) (by decide) (by decide) hr) ?_
      show Rch p.tables e below _ (T5.setTop (mkF m 59 #[.val (.int p0), .val (.int p1), .val (.int p0), .val (.ref v2), .val (.ref v2)] [(.int (1 : Int32))]))
      obtain ⟨fs, hr, hrun, hended, hW, hsame⟩ := X5.leave (v := some (.int (1 : Int32))) (fun h => by rw [Bd.returns] at h; cases h)
      refine Rch.fin (u := T5.setFrames fs) (retN X5 hx (t := .boolean) Bd.returns (by simp) (hb hby at_59) hr) ⟨_, hrun, hended, _, _, rfl, ?_, ⟨_, rfl⟩, hW, hsame.mono (by decide) (by decide)⟩
      show Q_claw Z p0 p1 kv wv v1 v2 v3 h0 n0 _ T5.heap _
      rw [e5]
      exact ⟨rfl, N3, K4, Op3⟩
    · show Rch p.tables e below _ (s₁.setTop (mkF m 15 #[.val (.int p0), .val (.int p1), .val (.int p0), .unset, .unset] [(.int p0)]))
      by_cases hc6 : p0 = (3 : Int32)
      · show Rch p.tables e below _ (s₁.setTop (mkF m 15 #[.val (.int p0), .val (.int p1), .val (.int p0), .unset, .unset] [(.int p0)]))
        obtain ⟨_, _, ⟨T7, L7, k7, n7⟩, -, X7, ⟨Lc7, hQ7, l7, y7, z7⟩, st7⟩ := Jvm.LawKit.callS X0 hx (y := (⟨"com/example/hangar_deck/hangardeck/apk/SignatureScheme", "withId", "(I)Lcom/example/hangar_deck/hangardeck/apk/SignatureScheme;"⟩ : MethodName)) hown (mvT hZ (own_w hw 0 rfl)) (mvT hZ (own_w hw 1 rfl)) (mvT hZ (own_w hw 2 rfl)) (mvT hZ (own_w hw 3 rfl)) (by decide) (backOf (W := 0) (cwith3 l Z a0 hw [] p0 kv wv v1 v2 v3 h0 n0 D0 D1 D2 D3 D4 D5 P0 hfit (by rw [hc6]; decide) (by rw [hc6]; decide) (by rw [hc6]; decide) hc6.symm) hZ (own_w hw 3 rfl) (own_w hw 2 rfl) (by decide) (by decide)) (g := (mkF m 15 #[.val (.int p0), .val (.int p1), .val (.int p0), .unset, .unset] [(.int p0)])) rfl (by rw [hml]; rfl) (argsL := [(.int p0)]) (rest := []) (lenOf pd_1 rfl) rfl (by show 2 * 0 + _ ≤ _; exact Nat.le_of_eq rfl) (hb hby at_15) (fun _ _ => ⟨rfl, e0, (by decide : 0 + 1 ≤ _), (by decide : 0 + 3 ≤ _)⟩)
        dsimp only [Pt.U, Pt.locs, Pt.cells, Pt.slots] at X7 l7 y7 z7 st7 hQ7
        subst l7 y7 z7
        obtain ⟨rfl, N7q, Kp7, Op7⟩ := hQ7
        have N7 := Fr.app N0 N7q
        refine Rch.st st7 ?_
        have K8 : Keep h0 T7.heap [] := (Keep.refl h0 []).trans Kp7 all0
        show Rch p.tables e below _ (T7.setTop (mkF m 18 #[.val (.int p0), .val (.int p1), .val (.int p0), .unset, .unset] [(.ref v3)]))
        refine Rch.st (fun _ hr => XS.astoreN X7.here hx rfl (hb hby at_18) rfl rfl (l' := #[.val (.int p0), .val (.int p1), .val (.int p0), .val (.ref v3), .unset]) rfl hr) ?_
        show Rch p.tables e below _ (T7.setTop (mkF m 19 #[.val (.int p0), .val (.int p1), .val (.int p0), .val (.ref v3), .unset] []))
        refine Rch.st (fun _ hr => XS.iloadN X7.here hx rfl (hb hby at_19) rfl hr) ?_
        show Rch p.tables e below _ (T7.setTop (mkF m 20 #[.val (.int p0), .val (.int p1), .val (.int p0), .val (.ref v3), .unset] [(.int p0)]))
        refine Rch.st (fun _ hr => XS.iconst X7.here hx rfl (hb hby at_20) hr) ?_
        show Rch p.tables e below _ (T7.setTop (mkF m 21 #[.val (.int p0), .val (.int p1), .val (.int p0), .val (.ref v3), .unset] [(.int (2 : Int32)), (.int p0)]))
        refine Rch.st (fun _ hr => XS.icmpYes X7.here hx rfl (pc0 := 21) (pc' := 32) rfl (hb hby at_21) rfl (feq hc2).2 (by decide) (by decide) hr) ?_
        show Rch p.tables e below _ (T7.setTop (mkF m 32 #[.val (.int p0), .val (.int p1), .val (.int p0), .val (.ref v3), .unset] []))
        refine Rch.st (fun _ hr => XS.iloadN X7.here hx rfl (hb hby at_32) rfl hr) ?_
        show Rch p.tables e below _ (T7.setTop (mkF m 33 #[.val (.int p0), .val (.int p1), .val (.int p0), .val (.ref v3), .unset] [(.int p0)]))
        refine Rch.st (fun _ hr => XS.iconst X7.here hx rfl (hb hby at_33) hr) ?_
        show Rch p.tables e below _ (T7.setTop (mkF m 34 #[.val (.int p0), .val (.int p1), .val (.int p0), .val (.ref v3), .unset] [(.int (3 : Int32)), (.int p0)]))
        refine Rch.st (fun _ hr => XS.icmpNo X7.here hx rfl (hb hby at_34) rfl (teq hc6).2 hr) ?_
        show Rch p.tables e below _ (T7.setTop (mkF m 37 #[.val (.int p0), .val (.int p1), .val (.int p0), .val (.ref v3), .unset] []))
        obtain ⟨T9, X9, e9, st9⟩ := getS2 X7 hx hZ hown (host := "") (Or.inl (own_w hw 25 rfl)) Via.refl rfl (D7.ext Op7.2) (g := (mkF m 37 #[.val (.int p0), .val (.int p1), .val (.int p0), .val (.ref v3), .unset] [])) rfl (hb hby at_37)
        refine Rch.st st9 ?_
        show Rch p.tables e below _ (T9.setTop (mkF m 40 #[.val (.int p0), .val (.int p1), .val (.int p0), .val (.ref v3), .unset] [(.ref v3)]))
        refine Rch.st (fun _ hr => XS.astore X9.here hx rfl (hb hby at_40) rfl rfl (l' := #[.val (.int p0), .val (.int p1), .val (.int p0), .val (.ref v3), .val (.ref v3)]) rfl hr) ?_
        show Rch p.tables e below _ (T9.setTop (mkF m 42 #[.val (.int p0), .val (.int p1), .val (.int p0), .val (.ref v3), .val (.ref v3)] []))
        refine Rch.st (fun _ hr => XS.goto X9.here hx rfl (pc0 := 42) (pc' := 48) rfl (hb hby at_42) (by decide) (by decide) hr) ?_
        show Rch p.tables e below _ (T9.setTop (mkF m 48 #[.val (.int p0), .val (.int p1), .val (.int p0), .val (.ref v3), .val (.ref v3)] []))
        refine Rch.st (fun _ hr => XS.aloadN X9.here hx rfl (hb hby at_48) rfl rfl hr) ?_
        show Rch p.tables e below _ (T9.setTop (mkF m 49 #[.val (.int p0), .val (.int p1), .val (.int p0), .val (.ref v3), .val (.ref v3)] [(.ref v3)]))
        refine Rch.st (fun _ hr => XS.aload X9.here hx rfl (hb hby at_49) rfl rfl hr) ?_
        show Rch p.tables e below _ (T9.setTop (mkF m 51 #[.val (.int p0), .val (.int p1), .val (.int p0), .val (.ref v3), .val (.ref v3)] [(.ref v3), (.ref v3)]))
        refine Rch.st (fun _ hr => Jvm.RoadKit.acmp (g := (mkF m 51 #[.val (.int p0), .val (.int p1), .val (.int p0), .val (.ref v3), .val (.ref v3)] [(.ref v3), (.ref v3)])) X9 hx rfl rfl rfl (pc0 := 51) (pc' := 54) (same := true) rfl (hb hby at_51) rfl (decide_eq_true rfl) (by decide) (by decide) hr) ?_
        show Rch p.tables e below _ (T9.setTop (mkF m 54 #[.val (.int p0), .val (.int p1), .val (.int p0), .val (.ref v3), .val (.ref v3)] []))
        refine Rch.st (fun _ hr => XS.iconst X9.here hx rfl (hb hby at_54) hr) ?_
        show Rch p.tables e below _ (T9.setTop (mkF m 55 #[.val (.int p0), .val (.int p1), .val (.int p0), .val (.ref v3), .val (.ref v3)] [(.int (1 : Int32))]))
        refine Rch.st (fun _ hr => XS.goto X9.here hx rfl (pc0 := 55) (pc' := 59) rfl (hb hby at_55) (by decide) (by decide) hr) ?_
        show Rch p.tables e below _ (T9.setTop (mkF m 59 #[.val (.int p0), .val (.int p1), .val (.int p0), .val (.ref v3), .val (.ref v3)] [(.int (1 : Int32))]))
        obtain ⟨fs, hr, hrun, hended, hW, hsame⟩ := X9.leave (v := some (.int (1 : Int32))) (fun h => by rw [Bd.returns] at h; cases h)
        refine Rch.fin (u := T9.setFrames fs) (retN X9 hx (t := .boolean) Bd.returns (by simp) (hb hby at_59) hr) ⟨_, hrun, hended, _, _, rfl, ?_, ⟨_, rfl⟩, hW, hsame.mono (by decide) (by decide)⟩
        show Q_claw Z p0 p1 kv wv v1 v2 v3 h0 n0 _ T9.heap _
        rw [e9]
        exact ⟨rfl, N7, K8, Op7⟩
      · show Rch p.tables e below _ (s₁.setTop (mkF m 15 #[.val (.int p0), .val (.int p1), .val (.int p0), .unset, .unset] [(.int p0)]))
        obtain ⟨_, _, ⟨T10, L10, k10, n10⟩, -, X10, ⟨Lc10, hQ10, l10, y10, z10⟩, st10⟩ := Jvm.LawKit.callS X0 hx (y := (⟨"com/example/hangar_deck/hangardeck/apk/SignatureScheme", "withId", "(I)Lcom/example/hangar_deck/hangardeck/apk/SignatureScheme;"⟩ : MethodName)) hown (mvT hZ (own_w hw 0 rfl)) (mvT hZ (own_w hw 1 rfl)) (mvT hZ (own_w hw 2 rfl)) (mvT hZ (own_w hw 3 rfl)) (by decide) (backOf (W := 0) (cwithn l Z a0 hw [] p0 kv wv v1 v2 v3 h0 n0 D0 D1 D2 D3 D4 D5 P0 hfit (fun q => hc2 q.symm) (fun q => hc6 q.symm)) hZ (own_w hw 3 rfl) (own_w hw 2 rfl) (by decide) (by decide)) (g := (mkF m 15 #[.val (.int p0), .val (.int p1), .val (.int p0), .unset, .unset] [(.int p0)])) rfl (by rw [hml]; rfl) (argsL := [(.int p0)]) (rest := []) (lenOf pd_1 rfl) rfl (by show 2 * 0 + _ ≤ _; exact Nat.le_of_eq rfl) (hb hby at_15) (fun _ _ => ⟨rfl, e0, (by decide : 0 + 1 ≤ _), (by decide : 0 + 3 ≤ _)⟩)
        dsimp only [Pt.U, Pt.locs, Pt.cells, Pt.slots] at X10 l10 y10 z10 st10 hQ10
        subst l10 y10 z10
        obtain ⟨rfl, N10q, Kp10, Op10⟩ := hQ10
        have N10 := Fr.app N0 N10q
        refine Rch.st st10 ?_
        have K11 : Keep h0 T10.heap [] := (Keep.refl h0 []).trans Kp10 all0
        show Rch p.tables e below _ (T10.setTop (mkF m 18 #[.val (.int p0), .val (.int p1), .val (.int p0), .unset, .unset] [.null]))
        refine Rch.st (fun _ hr => XS.astoreN X10.here hx rfl (hb hby at_18) rfl rfl (l' := #[.val (.int p0), .val (.int p1), .val (.int p0), .val .null, .unset]) rfl hr) ?_
        show Rch p.tables e below _ (T10.setTop (mkF m 19 #[.val (.int p0), .val (.int p1), .val (.int p0), .val .null, .unset] []))
        refine Rch.st (fun _ hr => XS.iloadN X10.here hx rfl (hb hby at_19) rfl hr) ?_
        show Rch p.tables e below _ (T10.setTop (mkF m 20 #[.val (.int p0), .val (.int p1), .val (.int p0), .val .null, .unset] [(.int p0)]))
        refine Rch.st (fun _ hr => XS.iconst X10.here hx rfl (hb hby at_20) hr) ?_
        show Rch p.tables e below _ (T10.setTop (mkF m 21 #[.val (.int p0), .val (.int p1), .val (.int p0), .val .null, .unset] [(.int (2 : Int32)), (.int p0)]))
        refine Rch.st (fun _ hr => XS.icmpYes X10.here hx rfl (pc0 := 21) (pc' := 32) rfl (hb hby at_21) rfl (feq hc2).2 (by decide) (by decide) hr) ?_
        show Rch p.tables e below _ (T10.setTop (mkF m 32 #[.val (.int p0), .val (.int p1), .val (.int p0), .val .null, .unset] []))
        refine Rch.st (fun _ hr => XS.iloadN X10.here hx rfl (hb hby at_32) rfl hr) ?_
        show Rch p.tables e below _ (T10.setTop (mkF m 33 #[.val (.int p0), .val (.int p1), .val (.int p0), .val .null, .unset] [(.int p0)]))
        refine Rch.st (fun _ hr => XS.iconst X10.here hx rfl (hb hby at_33) hr) ?_
        show Rch p.tables e below _ (T10.setTop (mkF m 34 #[.val (.int p0), .val (.int p1), .val (.int p0), .val .null, .unset] [(.int (3 : Int32)), (.int p0)]))
        refine Rch.st (fun _ hr => XS.icmpYes X10.here hx rfl (pc0 := 34) (pc' := 45) rfl (hb hby at_34) rfl (feq hc6).2 (by decide) (by decide) hr) ?_
        show Rch p.tables e below _ (T10.setTop (mkF m 45 #[.val (.int p0), .val (.int p1), .val (.int p0), .val .null, .unset] []))
        refine Rch.st (fun _ hr => XS.aconstNull X10.here hx rfl (hb hby at_45) hr) ?_
        show Rch p.tables e below _ (T10.setTop (mkF m 46 #[.val (.int p0), .val (.int p1), .val (.int p0), .val .null, .unset] [.null]))
        refine Rch.st (fun _ hr => XS.astore X10.here hx rfl (hb hby at_46) rfl rfl (l' := #[.val (.int p0), .val (.int p1), .val (.int p0), .val .null, .val .null]) rfl hr) ?_
        show Rch p.tables e below _ (T10.setTop (mkF m 48 #[.val (.int p0), .val (.int p1), .val (.int p0), .val .null, .val .null] []))
        refine Rch.st (fun _ hr => XS.aloadN X10.here hx rfl (hb hby at_48) rfl rfl hr) ?_
        show Rch p.tables e below _ (T10.setTop (mkF m 49 #[.val (.int p0), .val (.int p1), .val (.int p0), .val .null, .val .null] [.null]))
        refine Rch.st (fun _ hr => XS.aload X10.here hx rfl (hb hby at_49) rfl rfl hr) ?_
        show Rch p.tables e below _ (T10.setTop (mkF m 51 #[.val (.int p0), .val (.int p1), .val (.int p0), .val .null, .val .null] [.null, .null]))
        refine Rch.st (fun _ hr => Jvm.RoadKit.acmp (g := (mkF m 51 #[.val (.int p0), .val (.int p1), .val (.int p0), .val .null, .val .null] [.null, .null])) X10 hx rfl rfl rfl (pc0 := 51) (pc' := 54) (same := true) rfl (hb hby at_51) rfl (decide_eq_true rfl) (by decide) (by decide) hr) ?_
        show Rch p.tables e below _ (T10.setTop (mkF m 54 #[.val (.int p0), .val (.int p1), .val (.int p0), .val .null, .val .null] []))
        refine Rch.st (fun _ hr => XS.iconst X10.here hx rfl (hb hby at_54) hr) ?_
        show Rch p.tables e below _ (T10.setTop (mkF m 55 #[.val (.int p0), .val (.int p1), .val (.int p0), .val .null, .val .null] [(.int (1 : Int32))]))
        refine Rch.st (fun _ hr => XS.goto X10.here hx rfl (pc0 := 55) (pc' := 59) rfl (hb hby at_55) (by decide) (by decide) hr) ?_
        show Rch p.tables e below _ (T10.setTop (mkF m 59 #[.val (.int p0), .val (.int p1), .val (.int p0), .val .null, .val .null] [(.int (1 : Int32))]))
        obtain ⟨fs, hr, hrun, hended, hW, hsame⟩ := X10.leave (v := some (.int (1 : Int32))) (fun h => by rw [Bd.returns] at h; cases h)
        refine Rch.fin (u := T10.setFrames fs) (retN X10 hx (t := .boolean) Bd.returns (by simp) (hb hby at_59) hr) ⟨_, hrun, hended, _, _, rfl, ?_, ⟨_, rfl⟩, hW, hsame.mono (by decide) (by decide)⟩
        show Q_claw Z p0 p1 kv wv v1 v2 v3 h0 n0 _ T10.heap _
        exact ⟨rfl, N10, K11, Op10⟩
  · refine Rch.st (fun _ hr => XS.ifNo X0.here hx rfl (hb hby at_3) rfl ((if0 _ _).trans (feq hc1).1) hr) ?_
    show Rch p.tables e below _ (s₁.setTop (mkF m 6 #[.val (.int p0), .val (.int p1), .unset, .unset, .unset] []))
    refine Rch.st (fun _ hr => XS.iloadN X0.here hx rfl (hb hby at_6) rfl hr) ?_
    show Rch p.tables e below _ (s₁.setTop (mkF m 7 #[.val (.int p0), .val (.int p1), .unset, .unset, .unset] [(.int p0)]))
    refine Rch.st (fun _ hr => XS.iconst X0.here hx rfl (hb hby at_7) hr) ?_
    show Rch p.tables e below _ (s₁.setTop (mkF m 8 #[.val (.int p0), .val (.int p1), .unset, .unset, .unset] [(.int (3 : Int32)), (.int p0)]))
    refine Rch.st (fun _ hr => XS.iand X0.here hx rfl (hb hby at_8) rfl hr) ?_
    show Rch p.tables e below _ (s₁.setTop (mkF m 9 #[.val (.int p0), .val (.int p1), .unset, .unset, .unset] [(.int (p0 &&& (3 : Int32)))]))
    refine Rch.st (fun _ hr => XS.goto X0.here hx rfl (pc0 := 9) (pc' := 13) rfl (hb hby at_9) (by decide) (by decide) hr) ?_
    show Rch p.tables e below _ (s₁.setTop (mkF m 13 #[.val (.int p0), .val (.int p1), .unset, .unset, .unset] [(.int (p0 &&& (3 : Int32)))]))
    refine Rch.st (fun _ hr => XS.istoreN X0.here hx rfl (hb hby at_13) rfl (l' := #[.val (.int p0), .val (.int p1), .val (.int (p0 &&& (3 : Int32))), .unset, .unset]) rfl hr) ?_
    show Rch p.tables e below _ (s₁.setTop (mkF m 14 #[.val (.int p0), .val (.int p1), .val (.int (p0 &&& (3 : Int32))), .unset, .unset] []))
    refine Rch.st (fun _ hr => XS.iloadN X0.here hx rfl (hb hby at_14) rfl hr) ?_
    show Rch p.tables e below _ (s₁.setTop (mkF m 15 #[.val (.int p0), .val (.int p1), .val (.int (p0 &&& (3 : Int32))), .unset, .unset] [(.int (p0 &&& (3 : Int32)))]))
    by_cases hc12 : (p0 &&& (3 : Int32)) = (2 : Int32)
    · show Rch p.tables e below _ (s₁.setTop (mkF m 15 #[.val (.int p0), .val (.int p1), .val (.int (p0 &&& (3 : Int32))), .unset, .unset] [(.int (p0 &&& (3 : Int32)))]))
      obtain ⟨_, _, ⟨T13, L13, k13, n13⟩, -, X13, ⟨Lc13, hQ13, l13, y13, z13⟩, st13⟩ := Jvm.LawKit.callS X0 hx (y := (⟨"com/example/hangar_deck/hangardeck/apk/SignatureScheme", "withId", "(I)Lcom/example/hangar_deck/hangardeck/apk/SignatureScheme;"⟩ : MethodName)) hown (mvT hZ (own_w hw 0 rfl)) (mvT hZ (own_w hw 1 rfl)) (mvT hZ (own_w hw 2 rfl)) (mvT hZ (own_w hw 3 rfl)) (by decide) (backOf (W := 0) (cwith2 l Z a0 hw [] (p0 &&& (3 : Int32)) kv wv v1 v2 v3 h0 n0 D0 D1 D2 D3 D4 D5 P0 hfit (by rw [hc12]; decide) (by rw [hc12]; decide) hc12.symm (by rw [hc12]; decide)) hZ (own_w hw 3 rfl) (own_w hw 2 rfl) (by decide) (by decide)) (g := (mkF m 15 #[.val (.int p0), .val (.int p1), .val (.int (p0 &&& (3 : Int32))), .unset, .unset] [(.int (p0 &&& (3 : Int32)))])) rfl (by rw [hml]; rfl) (argsL := [(.int (p0 &&& (3 : Int32)))]) (rest := []) (lenOf pd_1 rfl) rfl (by show 2 * 0 + _ ≤ _; exact Nat.le_of_eq rfl) (hb hby at_15) (fun _ _ => ⟨rfl, e0, (by decide : 0 + 1 ≤ _), (by decide : 0 + 3 ≤ _)⟩)
      dsimp only [Pt.U, Pt.locs, Pt.cells, Pt.slots] at X13 l13 y13 z13 st13 hQ13
      subst l13 y13 z13
      obtain ⟨rfl, N13q, Kp13, Op13⟩ := hQ13
      have N13 := Fr.app N0 N13q
      refine Rch.st st13 ?_
      have K14 : Keep h0 T13.heap [] := (Keep.refl h0 []).trans Kp13 all0
      show Rch p.tables e below _ (T13.setTop (mkF m 18 #[.val (.int p0), .val (.int p1), .val (.int (p0 &&& (3 : Int32))), .unset, .unset] [(.ref v2)]))
      refine Rch.st (fun _ hr => XS.astoreN X13.here hx rfl (hb hby at_18) rfl rfl (l' := #[.val (.int p0), .val (.int p1), .val (.int (p0 &&& (3 : Int32))), .val (.ref v2), .unset]) rfl hr) ?_
      show Rch p.tables e below _ (T13.setTop (mkF m 19 #[.val (.int p0), .val (.int p1), .val (.int (p0 &&& (3 : Int32))), .val (.ref v2), .unset] []))
      refine Rch.st (fun _ hr => XS.iloadN X13.here hx rfl (hb hby at_19) rfl hr) ?_
      show Rch p.tables e below _ (T13.setTop (mkF m 20 #[.val (.int p0), .val (.int p1), .val (.int (p0 &&& (3 : Int32))), .val (.ref v2), .unset] [(.int (p0 &&& (3 : Int32)))]))
      refine Rch.st (fun _ hr => XS.iconst X13.here hx rfl (hb hby at_20) hr) ?_
      show Rch p.tables e below _ (T13.setTop (mkF m 21 #[.val (.int p0), .val (.int p1), .val (.int (p0 &&& (3 : Int32))), .val (.ref v2), .unset] [(.int (2 : Int32)), (.int (p0 &&& (3 : Int32)))]))
      refine Rch.st (fun _ hr => XS.icmpNo X13.here hx rfl (hb hby at_21) rfl (teq hc12).2 hr) ?_
      show Rch p.tables e below _ (T13.setTop (mkF m 24 #[.val (.int p0), .val (.int p1), .val (.int (p0 &&& (3 : Int32))), .val (.ref v2), .unset] []))
      obtain ⟨T15, X15, e15, st15⟩ := getS2 X13 hx hZ hown (host := "") (Or.inl (own_w hw 24 rfl)) Via.refl rfl (D6.ext Op13.2) (g := (mkF m 24 #[.val (.int p0), .val (.int p1), .val (.int (p0 &&& (3 : Int32))), .val (.ref v2), .unset] [])) rfl (hb hby at_24)
      refine Rch.st st15 ?_
      show Rch p.tables e below _ (T15.setTop (mkF m 27 #[.val (.int p0), .val (.int p1), .val (.int (p0 &&& (3 : Int32))), .val (.ref v2), .unset] [(.ref v2)]))
      refine Rch.st (fun _ hr => XS.astore X15.here hx rfl (hb hby at_27) rfl rfl (l' := #[.val (.int p0), .val (.int p1), .val (.int (p0 &&& (3 : Int32))), .val (.ref v2), .val (.ref v2)]) rfl hr) ?_
      show Rch p.tables e below _ (T15.setTop (mkF m 29 #[.val (.int p0), .val (.int p1), .val (.int (p0 &&& (3 : Int32))), .val (.ref v2), .val (.ref v2)] []))
      refine Rch.st (fun _ hr => XS.goto X15.here hx rfl (pc0 := 29) (pc' := 48) rfl (hb hby at_29) (by decide) (by decide) hr) ?_
      show Rch p.tables e below _ (T15.setTop (mkF m 48 #[.val (.int p0), .val (.int p1), .val (.int (p0 &&& (3 : Int32))), .val (.ref v2), .val (.ref v2)] []))
      refine Rch.st (fun _ hr => XS.aloadN X15.here hx rfl (hb hby at_48) rfl rfl hr) ?_
      show Rch p.tables e below _ (T15.setTop (mkF m 49 #[.val (.int p0), .val (.int p1), .val (.int (p0 &&& (3 : Int32))), .val (.ref v2), .val (.ref v2)] [(.ref v2)]))
      refine Rch.st (fun _ hr => XS.aload X15.here hx rfl (hb hby at_49) rfl rfl hr) ?_
      show Rch p.tables e below _ (T15.setTop (mkF m 51 #[.val (.int p0), .val (.int p1), .val (.int (p0 &&& (3 : Int32))), .val (.ref v2), .val (.ref v2)] [(.ref v2), (.ref v2)]))
      refine Rch.st (fun _ hr => Jvm.RoadKit.acmp (g := (mkF m 51 #[.val (.int p0), .val (.int p1), .val (.int (p0 &&& (3 : Int32))), .val (.ref v2), .val (.ref v2)] [(.ref v2), (.ref v2)])) X15 hx rfl rfl rfl (pc0 := 51) (pc' := 54) (same := true) rfl (hb hby at_51) rfl (decide_eq_true rfl) (by decide) (by decide) hr) ?_
      show Rch p.tables e below _ (T15.setTop (mkF m 54 #[.val (.int p0), .val (.int p1), .val (.int (p0 &&& (3 : Int32))), .val (.ref v2), .val (.ref v2)] []))
      refine Rch.st (fun _ hr => XS.iconst X15.here hx rfl (hb hby at_54) hr) ?_
      show Rch p.tables e below _ (T15.setTop (mkF m 55 #[.val (.int p0), .val (.int p1), .val (.int (p0 &&& (3 : Int32))), .val (.ref v2), .val (.ref v2)] [(.int (1 : Int32))]))
      refine Rch.st (fun _ hr => XS.goto X15.here hx rfl (pc0 := 55) (pc' := 59) rfl (hb hby at_55) (by decide) (by decide) hr) ?_
      show Rch p.tables e below _ (T15.setTop (mkF m 59 #[.val (.int p0), .val (.int p1), .val (.int (p0 &&& (3 : Int32))), .val (.ref v2), .val (.ref v2)] [(.int (1 : Int32))]))
      obtain ⟨fs, hr, hrun, hended, hW, hsame⟩ := X15.leave (v := some (.int (1 : Int32))) (fun h => by rw [Bd.returns] at h; cases h)
      refine Rch.fin (u := T15.setFrames fs) (retN X15 hx (t := .boolean) Bd.returns (by simp) (hb hby at_59) hr) ⟨_, hrun, hended, _, _, rfl, ?_, ⟨_, rfl⟩, hW, hsame.mono (by decide) (by decide)⟩
      show Q_claw Z p0 p1 kv wv v1 v2 v3 h0 n0 _ T15.heap _
      rw [e15]
      exact ⟨rfl, N13, K14, Op13⟩
    · show Rch p.tables e below _ (s₁.setTop (mkF m 15 #[.val (.int p0), .val (.int p1), .val (.int (p0 &&& (3 : Int32))), .unset, .unset] [(.int (p0 &&& (3 : Int32)))]))
      by_cases hc16 : (p0 &&& (3 : Int32)) = (3 : Int32)
      · show Rch p.tables e below _ (s₁.setTop (mkF m 15 #[.val (.int p0), .val (.int p1), .val (.int (p0 &&& (3 : Int32))), .unset, .unset] [(.int (p0 &&& (3 : Int32)))]))
        obtain ⟨_, _, ⟨T17, L17, k17, n17⟩, -, X17, ⟨Lc17, hQ17, l17, y17, z17⟩, st17⟩ := Jvm.LawKit.callS X0 hx (y := (⟨"com/example/hangar_deck/hangardeck/apk/SignatureScheme", "withId", "(I)Lcom/example/hangar_deck/hangardeck/apk/SignatureScheme;"⟩ : MethodName)) hown (mvT hZ (own_w hw 0 rfl)) (mvT hZ (own_w hw 1 rfl)) (mvT hZ (own_w hw 2 rfl)) (mvT hZ (own_w hw 3 rfl)) (by decide) (backOf (W := 0) (cwith3 l Z a0 hw [] (p0 &&& (3 : Int32)) kv wv v1 v2 v3 h0 n0 D0 D1 D2 D3 D4 D5 P0 hfit (by rw [hc16]; decide) (by rw [hc16]; decide) (by rw [hc16]; decide) hc16.symm) hZ (own_w hw 3 rfl) (own_w hw 2 rfl) (by decide) (by decide)) (g := (mkF m 15 #[.val (.int p0), .val (.int p1), .val (.int (p0 &&& (3 : Int32))), .unset, .unset] [(.int (p0 &&& (3 : Int32)))])) rfl (by rw [hml]; rfl) (argsL := [(.int (p0 &&& (3 : Int32)))]) (rest := []) (lenOf pd_1 rfl) rfl (by show 2 * 0 + _ ≤ _; exact Nat.le_of_eq rfl) (hb hby at_15) (fun _ _ => ⟨rfl, e0, (by decide : 0 + 1 ≤ _), (by decide : 0 + 3 ≤ _)⟩)
        dsimp only [Pt.U, Pt.locs, Pt.cells, Pt.slots] at X17 l17 y17 z17 st17 hQ17
        subst l17 y17 z17
        obtain ⟨rfl, N17q, Kp17, Op17⟩ := hQ17
        have N17 := Fr.app N0 N17q
        refine Rch.st st17 ?_
        have K18 : Keep h0 T17.heap [] := (Keep.refl h0 []).trans Kp17 all0
        show Rch p.tables e below _ (T17.setTop (mkF m 18 #[.val (.int p0), .val (.int p1), .val (.int (p0 &&& (3 : Int32))), .unset, .unset] [(.ref v3)]))
        refine Rch.st (fun _ hr => XS.astoreN X17.here hx rfl (hb hby at_18) rfl rfl (l' := #[.val (.int p0), .val (.int p1), .val (.int (p0 &&& (3 : Int32))), .val (.ref v3), .unset]) rfl hr) ?_
        show Rch p.tables e below _ (T17.setTop (mkF m 19 #[.val (.int p0), .val (.int p1), .val (.int (p0 &&& (3 : Int32))), .val (.ref v3), .unset] []))
        refine Rch.st (fun _ hr => XS.iloadN X17.here hx rfl (hb hby at_19) rfl hr) ?_
        show Rch p.tables e below _ (T17.setTop (mkF m 20 #[.val (.int p0), .val (.int p1), .val (.int (p0 &&& (3 : Int32))), .val (.ref v3), .unset] [(.int (p0 &&& (3 : Int32)))]))
        refine Rch.st (fun _ hr => XS.iconst X17.here hx rfl (hb hby at_20) hr) ?_
        show Rch p.tables e below _ (T17.setTop (mkF m 21 #[.val (.int p0), .val (.int p1), .val (.int (p0 &&& (3 : Int32))), .val (.ref v3), .unset] [(.int (2 : Int32)), (.int (p0 &&& (3 : Int32)))]))
        refine Rch.st (fun _ hr => XS.icmpYes X17.here hx rfl (pc0 := 21) (pc' := 32) rfl (hb hby at_21) rfl (feq hc12).2 (by decide) (by decide) hr) ?_
        show Rch p.tables e below _ (T17.setTop (mkF m 32 #[.val (.int p0), .val (.int p1), .val (.int (p0 &&& (3 : Int32))), .val (.ref v3), .unset] []))
        refine Rch.st (fun _ hr => XS.iloadN X17.here hx rfl (hb hby at_32) rfl hr) ?_
        show Rch p.tables e below _ (T17.setTop (mkF m 33 #[.val (.int p0), .val (.int p1), .val (.int (p0 &&& (3 : Int32))), .val (.ref v3), .unset] [(.int (p0 &&& (3 : Int32)))]))
        refine Rch.st (fun _ hr => XS.iconst X17.here hx rfl (hb hby at_33) hr) ?_
        show Rch p.tables e below _ (T17.setTop (mkF m 34 #[.val (.int p0), .val (.int p1), .val (.int (p0 &&& (3 : Int32))), .val (.ref v3), .unset] [(.int (3 : Int32)), (.int (p0 &&& (3 : Int32)))]))
        refine Rch.st (fun _ hr => XS.icmpNo X17.here hx rfl (hb hby at_34) rfl (teq hc16).2 hr) ?_
        show Rch p.tables e below _ (T17.setTop (mkF m 37 #[.val (.int p0), .val (.int p1), .val (.int (p0 &&& (3 : Int32))), .val (.ref v3), .unset] []))
        obtain ⟨T19, X19, e19, st19⟩ := getS2 X17 hx hZ hown (host := "") (Or.inl (own_w hw 25 rfl)) Via.refl rfl (D7.ext Op17.2) (g := (mkF m 37 #[.val (.int p0), .val (.int p1), .val (.int (p0 &&& (3 : Int32))), .val (.ref v3), .unset] [])) rfl (hb hby at_37)
        refine Rch.st st19 ?_
        show Rch p.tables e below _ (T19.setTop (mkF m 40 #[.val (.int p0), .val (.int p1), .val (.int (p0 &&& (3 : Int32))), .val (.ref v3), .unset] [(.ref v3)]))
        refine Rch.st (fun _ hr => XS.astore X19.here hx rfl (hb hby at_40) rfl rfl (l' := #[.val (.int p0), .val (.int p1), .val (.int (p0 &&& (3 : Int32))), .val (.ref v3), .val (.ref v3)]) rfl hr) ?_
        show Rch p.tables e below _ (T19.setTop (mkF m 42 #[.val (.int p0), .val (.int p1), .val (.int (p0 &&& (3 : Int32))), .val (.ref v3), .val (.ref v3)] []))
        refine Rch.st (fun _ hr => XS.goto X19.here hx rfl (pc0 := 42) (pc' := 48) rfl (hb hby at_42) (by decide) (by decide) hr) ?_
        show Rch p.tables e below _ (T19.setTop (mkF m 48 #[.val (.int p0), .val (.int p1), .val (.int (p0 &&& (3 : Int32))), .val (.ref v3), .val (.ref v3)] []))
        refine Rch.st (fun _ hr => XS.aloadN X19.here hx rfl (hb hby at_48) rfl rfl hr) ?_
        show Rch p.tables e below _ (T19.setTop (mkF m 49 #[.val (.int p0), .val (.int p1), .val (.int (p0 &&& (3 : Int32))), .val (.ref v3), .val (.ref v3)] [(.ref v3)]))
        refine Rch.st (fun _ hr => XS.aload X19.here hx rfl (hb hby at_49) rfl rfl hr) ?_
        show Rch p.tables e below _ (T19.setTop (mkF m 51 #[.val (.int p0), .val (.int p1), .val (.int (p0 &&& (3 : Int32))), .val (.ref v3), .val (.ref v3)] [(.ref v3), (.ref v3)]))
        refine Rch.st (fun _ hr => Jvm.RoadKit.acmp (g := (mkF m 51 #[.val (.int p0), .val (.int p1), .val (.int (p0 &&& (3 : Int32))), .val (.ref v3), .val (.ref v3)] [(.ref v3), (.ref v3)])) X19 hx rfl rfl rfl (pc0 := 51) (pc' := 54) (same := true) rfl (hb hby at_51) rfl (decide_eq_true rfl) (by decide) (by decide) hr) ?_
        show Rch p.tables e below _ (T19.setTop (mkF m 54 #[.val (.int p0), .val (.int p1), .val (.int (p0 &&& (3 : Int32))), .val (.ref v3), .val (.ref v3)] []))
        refine Rch.st (fun _ hr => XS.iconst X19.here hx rfl (hb hby at_54) hr) ?_
        show Rch p.tables e below _ (T19.setTop (mkF m 55 #[.val (.int p0), .val (.int p1), .val (.int (p0 &&& (3 : Int32))), .val (.ref v3), .val (.ref v3)] [(.int (1 : Int32))]))
        refine Rch.st (fun _ hr => XS.goto X19.here hx rfl (pc0 := 55) (pc' := 59) rfl (hb hby at_55) (by decide) (by decide) hr) ?_
        show Rch p.tables e below _ (T19.setTop (mkF m 59 #[.val (.int p0), .val (.int p1), .val (.int (p0 &&& (3 : Int32))), .val (.ref v3), .val (.ref v3)] [(.int (1 : Int32))]))
        obtain ⟨fs, hr, hrun, hended, hW, hsame⟩ := X19.leave (v := some (.int (1 : Int32))) (fun h => by rw [Bd.returns] at h; cases h)
        refine Rch.fin (u := T19.setFrames fs) (retN X19 hx (t := .boolean) Bd.returns (by simp) (hb hby at_59) hr) ⟨_, hrun, hended, _, _, rfl, ?_, ⟨_, rfl⟩, hW, hsame.mono (by decide) (by decide)⟩
        show Q_claw Z p0 p1 kv wv v1 v2 v3 h0 n0 _ T19.heap _
        rw [e19]
        exact ⟨rfl, N17, K18, Op17⟩
      · show Rch p.tables e below _ (s₁.setTop (mkF m 15 #[.val (.int p0), .val (.int p1), .val (.int (p0 &&& (3 : Int32))), .unset, .unset] [(.int (p0 &&& (3 : Int32)))]))
        obtain ⟨_, _, ⟨T20, L20, k20, n20⟩, -, X20, ⟨Lc20, hQ20, l20, y20, z20⟩, st20⟩ := Jvm.LawKit.callS X0 hx (y := (⟨"com/example/hangar_deck/hangardeck/apk/SignatureScheme", "withId", "(I)Lcom/example/hangar_deck/hangardeck/apk/SignatureScheme;"⟩ : MethodName)) hown (mvT hZ (own_w hw 0 rfl)) (mvT hZ (own_w hw 1 rfl)) (mvT hZ (own_w hw 2 rfl)) (mvT hZ (own_w hw 3 rfl)) (by decide) (backOf (W := 0) (cwithn l Z a0 hw [] (p0 &&& (3 : Int32)) kv wv v1 v2 v3 h0 n0 D0 D1 D2 D3 D4 D5 P0 hfit (fun q => hc12 q.symm) (fun q => hc16 q.symm)) hZ (own_w hw 3 rfl) (own_w hw 2 rfl) (by decide) (by decide)) (g := (mkF m 15 #[.val (.int p0), .val (.int p1), .val (.int (p0 &&& (3 : Int32))), .unset, .unset] [(.int (p0 &&& (3 : Int32)))])) rfl (by rw [hml]; rfl) (argsL := [(.int (p0 &&& (3 : Int32)))]) (rest := []) (lenOf pd_1 rfl) rfl (by show 2 * 0 + _ ≤ _; exact Nat.le_of_eq rfl) (hb hby at_15) (fun _ _ => ⟨rfl, e0, (by decide : 0 + 1 ≤ _), (by decide : 0 + 3 ≤ _)⟩)
        dsimp only [Pt.U, Pt.locs, Pt.cells, Pt.slots] at X20 l20 y20 z20 st20 hQ20
        subst l20 y20 z20
        obtain ⟨rfl, N20q, Kp20, Op20⟩ := hQ20
        have N20 := Fr.app N0 N20q
        refine Rch.st st20 ?_
        have K21 : Keep h0 T20.heap [] := (Keep.refl h0 []).trans Kp20 all0
        show Rch p.tables e below _ (T20.setTop (mkF m 18 #[.val (.int p0), .val (.int p1), .val (.int (p0 &&& (3 : Int32))), .unset, .unset] [.null]))
        refine Rch.st (fun _ hr => XS.astoreN X20.here hx rfl (hb hby at_18) rfl rfl (l' := #[.val (.int p0), .val (.int p1), .val (.int (p0 &&& (3 : Int32))), .val .null, .unset]) rfl hr) ?_
        show Rch p.tables e below _ (T20.setTop (mkF m 19 #[.val (.int p0), .val (.int p1), .val (.int (p0 &&& (3 : Int32))), .val .null, .unset] []))
        refine Rch.st (fun _ hr => XS.iloadN X20.here hx rfl (hb hby at_19) rfl hr) ?_
        show Rch p.tables e below _ (T20.setTop (mkF m 20 #[.val (.int p0), .val (.int p1), .val (.int (p0 &&& (3 : Int32))), .val .null, .unset] [(.int (p0 &&& (3 : Int32)))]))
        refine Rch.st (fun _ hr => XS.iconst X20.here hx rfl (hb hby at_20) hr) ?_
        show Rch p.tables e below _ (T20.setTop (mkF m 21 #[.val (.int p0), .val (.int p1), .val (.int (p0 &&& (3 : Int32))), .val .null, .unset] [(.int (2 : Int32)), (.int (p0 &&& (3 : Int32)))]))
        refine Rch.st (fun _ hr => XS.icmpYes X20.here hx rfl (pc0 := 21) (pc' := 32) rfl (hb hby at_21) rfl (feq hc12).2 (by decide) (by decide) hr) ?_
        show Rch p.tables e below _ (T20.setTop (mkF m 32 #[.val (.int p0), .val (.int p1), .val (.int (p0 &&& (3 : Int32))), .val .null, .unset] []))
        refine Rch.st (fun _ hr => XS.iloadN X20.here hx rfl (hb hby at_32) rfl hr) ?_
        show Rch p.tables e below _ (T20.setTop (mkF m 33 #[.val (.int p0), .val (.int p1), .val (.int (p0 &&& (3 : Int32))), .val .null, .unset] [(.int (p0 &&& (3 : Int32)))]))
        refine Rch.st (fun _ hr => XS.iconst X20.here hx rfl (hb hby at_33) hr) ?_
        show Rch p.tables e below _ (T20.setTop (mkF m 34 #[.val (.int p0), .val (.int p1), .val (.int (p0 &&& (3 : Int32))), .val .null, .unset] [(.int (3 : Int32)), (.int (p0 &&& (3 : Int32)))]))
        refine Rch.st (fun _ hr => XS.icmpYes X20.here hx rfl (pc0 := 34) (pc' := 45) rfl (hb hby at_34) rfl (feq hc16).2 (by decide) (by decide) hr) ?_
        show Rch p.tables e below _ (T20.setTop (mkF m 45 #[.val (.int p0), .val (.int p1), .val (.int (p0 &&& (3 : Int32))), .val .null, .unset] []))
        refine Rch.st (fun _ hr => XS.aconstNull X20.here hx rfl (hb hby at_45) hr) ?_
        show Rch p.tables e below _ (T20.setTop (mkF m 46 #[.val (.int p0), .val (.int p1), .val (.int (p0 &&& (3 : Int32))), .val .null, .unset] [.null]))
        refine Rch.st (fun _ hr => XS.astore X20.here hx rfl (hb hby at_46) rfl rfl (l' := #[.val (.int p0), .val (.int p1), .val (.int (p0 &&& (3 : Int32))), .val .null, .val .null]) rfl hr) ?_
        show Rch p.tables e below _ (T20.setTop (mkF m 48 #[.val (.int p0), .val (.int p1), .val (.int (p0 &&& (3 : Int32))), .val .null, .val .null] []))
        refine Rch.st (fun _ hr => XS.aloadN X20.here hx rfl (hb hby at_48) rfl rfl hr) ?_
        show Rch p.tables e below _ (T20.setTop (mkF m 49 #[.val (.int p0), .val (.int p1), .val (.int (p0 &&& (3 : Int32))), .val .null, .val .null] [.null]))
        refine Rch.st (fun _ hr => XS.aload X20.here hx rfl (hb hby at_49) rfl rfl hr) ?_
        show Rch p.tables e below _ (T20.setTop (mkF m 51 #[.val (.int p0), .val (.int p1), .val (.int (p0 &&& (3 : Int32))), .val .null, .val .null] [.null, .null]))
        refine Rch.st (fun _ hr => Jvm.RoadKit.acmp (g := (mkF m 51 #[.val (.int p0), .val (.int p1), .val (.int (p0 &&& (3 : Int32))), .val .null, .val .null] [.null, .null])) X20 hx rfl rfl rfl (pc0 := 51) (pc' := 54) (same := true) rfl (hb hby at_51) rfl (decide_eq_true rfl) (by decide) (by decide) hr) ?_
        show Rch p.tables e below _ (T20.setTop (mkF m 54 #[.val (.int p0), .val (.int p1), .val (.int (p0 &&& (3 : Int32))), .val .null, .val .null] []))
        refine Rch.st (fun _ hr => XS.iconst X20.here hx rfl (hb hby at_54) hr) ?_
        show Rch p.tables e below _ (T20.setTop (mkF m 55 #[.val (.int p0), .val (.int p1), .val (.int (p0 &&& (3 : Int32))), .val .null, .val .null] [(.int (1 : Int32))]))
        refine Rch.st (fun _ hr => XS.goto X20.here hx rfl (pc0 := 55) (pc' := 59) rfl (hb hby at_55) (by decide) (by decide) hr) ?_
        show Rch p.tables e below _ (T20.setTop (mkF m 59 #[.val (.int p0), .val (.int p1), .val (.int (p0 &&& (3 : Int32))), .val .null, .val .null] [(.int (1 : Int32))]))
        obtain ⟨fs, hr, hrun, hended, hW, hsame⟩ := X20.leave (v := some (.int (1 : Int32))) (fun h => by rw [Bd.returns] at h; cases h)
        refine Rch.fin (u := T20.setFrames fs) (retN X20 hx (t := .boolean) Bd.returns (by simp) (hb hby at_59) hr) ⟨_, hrun, hended, _, _, rfl, ?_, ⟨_, rfl⟩, hW, hsame.mono (by decide) (by decide)⟩
        show Q_claw Z p0 p1 kv wv v1 v2 v3 h0 n0 _ T20.heap _
        exact ⟨rfl, N20, K21, Op20⟩
set_option maxRecDepth 65536 in
set_option maxHeartbeats 40000000 in
theorem comes_1 {Post : Tables → Env → Array Value → State → Outcome → State → Prop} (hpost : ∀ tb e args s v u, (limb_1_1.after args s (.returned v) u = true ∧ limb_1_2.after args s (.returned v) u = true ∧ True) → FrameEnd s (.returned v) u (Jvm.fieldLocs frame_1_writes args s ++ Jvm.arrayLocs frame_1_arrays args s ++ Jvm.staticLocs frame_1_statics s) 16 128 → Post tb e args s (.returned v) u) :
    ArmFor flags0 classFile x code maxLocals ret World_1 tables_1 room_1 Calls_1 rest_1 Pre_1 Post := by
  intro l hfl _ _ p e ha hc hk s m args below hf hA hF happ hP
  obtain ⟨hcalls, hrest, hpre⟩ := hP
  obtain ⟨-, -, -, hnamed, -, -, -, hat⟩ := (Spec.applies_iff hf).mp happ
  obtain ⟨hg, hn⟩ := and_e (Cond.before_iff.mp (show (Jvm.Cond.and given_1 narrow_1).before args s = true from hpre))
  obtain ⟨g1, g2⟩ := and_e hg
  obtain ⟨g3, g4⟩ := and_e g2
  obtain ⟨g5, g6⟩ := and_e hn
  obtain ⟨g7, g8⟩ := and_e g6
  obtain ⟨g9, g10⟩ := and_e g8
  obtain ⟨g11, g12⟩ := and_e g10
  obtain ⟨g13, g14⟩ := and_e g12
  obtain ⟨g15, g16⟩ := and_e g14
  obtain ⟨g17, g18⟩ := and_e g16
  obtain ⟨g19, g20⟩ := and_e g18
  obtain ⟨g21, g22⟩ := and_e g20
  obtain ⟨g23, g24⟩ := and_e g22
  obtain ⟨g25, g26⟩ := and_e g24
  obtain ⟨v0, v1, rfl⟩ : ∃ v0 v1 : Value, args = #[v0, v1] := by
    have hs : args.size = 2 := by simpa [Cond.value, given_1] using g1
    obtain ⟨L⟩ := args
    match L, hs with
    | [v0, v1], _ => exact ⟨v0, v1, rfl⟩
  have hw := fun d (hd : d ∈ tables_1) => atoms_spec (ws := Jvm.Cond.code x code maxLocals ret :: tables_1) hat d (List.mem_cons_of_mem _ hd)
  have hfit : Fit s := fun {y c} hc i hi => by
    obtain ⟨ha, rfl⟩ := Array.getElem?_eq_some_iff.mp hc
    have q := List.all_eq_true.mp ((Array.all_eq_true_iff_forall_mem.mp hF) _ (Array.getElem_mem ha)) i (List.mem_range.mpr hi)
    simpa [Array.getElem?_eq_getElem hi] using q
  obtain ⟨i0, ei0⟩ := is_v g3
  obtain rfl : v0 = (.int i0) := Option.some.inj ei0
  obtain ⟨i1, ei1⟩ := is_v g4
  obtain rfl : v1 = (.int i1) := Option.some.inj ei1
  obtain ⟨wv, ev_wv⟩ := exa_v g7
  have E_wv := Exa.start ev_wv g7
  have H_wv := Sta.start ev_wv (Or.inr ⟨(own_w hw 2 rfl), (own_w hw 8 rfl)⟩)
  obtain ⟨v1, ev_v1⟩ := exa_v g11
  have E_v1 := Exa.start ev_v1 g11
  have H_v1 := Sta.start ev_v1 (Or.inr ⟨(own_w hw 2 rfl), (own_w hw 16 rfl)⟩)
  obtain ⟨v2, ev_v2⟩ := exa_v g15
  have E_v2 := Exa.start ev_v2 g15
  have H_v2 := Sta.start ev_v2 (Or.inr ⟨(own_w hw 2 rfl), (own_w hw 17 rfl)⟩)
  obtain ⟨v3, ev_v3⟩ := exa_v g19
  have E_v3 := Exa.start ev_v3 g19
  have H_v3 := Sta.start ev_v3 (Or.inr ⟨(own_w hw 2 rfl), (own_w hw 18 rfl)⟩)
  obtain ⟨cv, Acv⟩ := Arr.start ev_wv g5
  obtain ⟨lv1, lv2⟩ := own_len ev_wv Acv (own_eqInt g9)
  have el0 := (elem_in (own_eqR ev_v1 g13) ev_wv (Term.int_eval 0) Acv.1).2
  have el1 := (elem_in (own_eqR ev_v2 g17) ev_wv (Term.int_eval 1) Acv.1).2
  have el2 := (elem_in (own_eqR ev_v3 g21) ev_wv (Term.int_eval 2) Acv.1).2
  have U_v1 : Fld s s.heap v1 "com/example/hangar_deck/hangardeck/apk/SignatureScheme" "id" "I" (.int (0 : Int32)) := Fld.start ((fld_at ev_v1).symm.trans (own_eqInt g23))
  have U_v2 : Fld s s.heap v2 "com/example/hangar_deck/hangardeck/apk/SignatureScheme" "id" "I" (.int (2 : Int32)) := Fld.start ((fld_at ev_v2).symm.trans (own_eqInt g25))
  have U_v3 : Fld s s.heap v3 "com/example/hangar_deck/hangardeck/apk/SignatureScheme" "id" "I" (.int (3 : Int32)) := Fld.start ((fld_at ev_v3).symm.trans (own_eqInt g26))
  have Avv : Arv s s.heap wv cv.cls (.object "com/example/hangar_deck/hangardeck/apk/SignatureScheme") (3 : Int32) [(.ref v1), (.ref v2), (.ref v3)] .null := Arv.start hfit Acv lv1 lv2 (by decide) rfl ⟨el0, el1, el2, trivial⟩
  obtain ⟨kv, hkv⟩ : ∃ z, z = cv.cls := ⟨_, rfl⟩
  rw [← hkv] at Avv
  have D0 := H_wv
  have D1 := Avv
  have D2 := E_wv
  have D3 := U_v1
  have D4 := U_v2
  have D5 := U_v3
  have D6 := H_v2
  have D7 := H_v3
  obtain ⟨n, o, h1, h2, h3, _, L, rfl, hQ, hq⟩ := claw l s _ hw tables_1 i0 i1 kv wv v1 v2 v3 s.heap s.heap.size D0 D1 D2 D3 D4 D5 D6 D7 (Old.start s) hfit p e ha hc hk s m _ below hf ((Spec.applies_iff_loose hf).mp happ).1 ⟨rfl, State.Warmed39.refl s, rfl⟩ trivial
  obtain ⟨rfl, N, -⟩ := hQ
  refine ⟨n, _, h1, h2, h3, hpost _ _ _ _ _ _ ⟨Cond.after_iff.mpr rfl, Cond.after_iff.mpr (eq_i res_at (Term.int_eval (1)) rfl), trivial⟩ ⟨hq.1, hq.2.1, (hq.2.2.sift fun y hy => Or.inr (N y hy)).mono (by decide) (by decide)⟩⟩
theorem main_1_1 : Claimed_1_1 := comes_1 fun _ _ _ _ _ _ h hF => ⟨h.1, hF⟩
theorem main_1_2 : Claimed_1_2 := comes_1 fun _ _ _ _ _ _ h hF => ⟨h.2.1, hF⟩
end Jvm.Pilot.@@N@@
namespace Jvm.Pilot.@@N@@
open Jvm Jvm.ClassFile Sem Op Lib Jvm.Free Jvm.Stand Jvm.Pilot.@@N@@.Jvm.D
/-! MADE BY PROGRAM (witnessworld.py) out of the Statement's table words and the real class files: 13 classes; the members and pool entries that the words name. The judged class is class 1, her method 1. -/
namespace start1
open Jvm.ClassFile
def u (s : String) : CpInfo := .utf8 (stringToUtf16 s)
/-- a pool by its gaps: so many unusable entries, then the entry; so many at the end -/
def gap : Nat → List CpInfo → List CpInfo
  | 0, r => r
  | n + 1, r => .unusable :: gap n r
def poolList (es : List (Nat × CpInfo)) (last : Nat) : List CpInfo := es.foldr (fun e r => gap e.1 (e.2 :: r)) (gap last [])
def pool (es : List (Nat × CpInfo)) (last : Nat) : Array CpInfo := ⟨poolList es last⟩
def fileOf (pool : Array CpInfo) (this : Nat) (attrs : Array Attribute := #[]) (ms : Array MethodInfo := #[]) (fl : Nat := 33) (sup : Nat := 0) (ifs : Array Nat := #[]) (fds : Array FieldInfo := #[]) : ClassFile where
  minorVersion := 0
  majorVersion := 65
  constantPool := pool
  accessFlags := fl
  thisClass := this
  superClass := sup
  interfaces := ifs
  fields := fds
  methods := ms
  attributes := attrs
def plain (name : String) (sup : Option ClassId) : Class where
  name := name
  kind := .ordinary
  loader := none
  accessFlags := 33
  super := sup
  interfaces := #[]
  cf := none
  fields := #[]
  methods := #[]
  instanceTypes := #[]
  staticTypes := #[]
  resolved := #[]
  callSites := []
  init := .initialized
  statics := none
  mirror := none

def pool0 : Array CpInfo := pool [(5, u "<init>"), (0, u "()V"), (1, .class_ 10), (1, u "java/lang/Object"), (85, u "clone"), (0, u "()Ljava/lang/Object;")] 26

def k0m0 : Method := { name := "<init>", desc := "()V", sig := { parameters := [], returnType := none }, accessFlags := 1, code := none }
def k0m1 : Method := { name := "clone", desc := "()Ljava/lang/Object;", sig := { parameters := [], returnType := some (.object "java/lang/Object") }, accessFlags := 260, code := none }
/-- java/lang/Object -/
def k0 : Class := { plain "java/lang/Object" none with
  accessFlags := 33
  interfaces := #[]
  cf := some (fileOf pool0 8 #[] #[{ accessFlags := 1, nameIndex := 5, descriptorIndex := 6, attributes := #[] }, { accessFlags := 260, nameIndex := 96, descriptorIndex := 97, attributes := #[] }] 33 0 #[] #[])
  fields := #[]
  methods := #[k0m0, k0m1]
  instanceTypes := #[]
  staticTypes := #[]
  resolved := Array.replicate 124 none
  statics := none }

def pool1 : Array CpInfo := pool [(2, .class_ 4), (1, u "java/lang/Object"), (0, u "<init>"), (0, u "()V"), (0, .methodref 8 9), (0, .class_ 10), (0, .nameAndType 11 12), (0, u "com/example/hangar_deck/hangardeck/apk/SignatureScheme"), (0, u "withId"), (0, u "(I)Lcom/example/hangar_deck/hangardeck/apk/SignatureScheme;"), (0, .fieldref 8 14), (0, .nameAndType 15 16), (0, u "V2"), (0, u "Lcom/example/hangar_deck/hangardeck/apk/SignatureScheme;"), (0, .fieldref 8 18), (0, .nameAndType 19 16), (0, u "V3"), (0, .class_ 21), (0, u "com/example/hangar_deck/hangardeck/apk/SignatureSchemeWithIdPinLaw"), (2, u "law"), (0, u "(II)Z")] 3

def k1m0 : Method := { name := "<init>", desc := "()V", sig := { parameters := [], returnType := none }, accessFlags := 2, code := none }
def k1c1 : Code := { maxStack := 2, maxLocals := 5, code := code, exceptionTable := #[], attributes := #[] }
def k1m1 : Method := { name := "law", desc := "(II)Z", sig := { parameters := [.int, .int], returnType := some .boolean }, accessFlags := 9, code := some k1c1 }
/-- com/example/hangar_deck/hangardeck/apk/SignatureSchemeWithIdPinLaw -/
def k1 : Class := { plain "com/example/hangar_deck/hangardeck/apk/SignatureSchemeWithIdPinLaw" (some 0) with
  accessFlags := 49
  interfaces := #[]
  cf := some (fileOf pool1 20 #[] #[{ accessFlags := 2, nameIndex := 5, descriptorIndex := 6, attributes := #[] }, { accessFlags := 9, nameIndex := 24, descriptorIndex := 25, attributes := #[] }] 49 2 #[] #[])
  fields := #[]
  methods := #[k1m0, k1m1]
  instanceTypes := #[]
  staticTypes := #[]
  resolved := Array.replicate 29 none
  statics := none }

def pool2 : Array CpInfo := pool [(1, .class_ 2), (0, u "java/lang/constant/Constable"), (0, .class_ 4), (0, u "java/lang/Object")] 6

/-- java/lang/constant/Constable -/
def k2 : Class := { plain "java/lang/constant/Constable" (some 0) with
  accessFlags := 1537
  interfaces := #[]
  cf := some (fileOf pool2 1 #[] #[] 1537 3 #[] #[])
  fields := #[]
  methods := #[]
  instanceTypes := #[]
  staticTypes := #[]
  resolved := Array.replicate 11 none
  statics := none }

def pool3 : Array CpInfo := pool [(1, .class_ 2), (0, u "java/lang/Comparable"), (0, .class_ 4), (0, u "java/lang/Object")] 7

/-- java/lang/Comparable -/
def k3 : Class := { plain "java/lang/Comparable" (some 0) with
  accessFlags := 1537
  interfaces := #[]
  cf := some (fileOf pool3 1 #[] #[] 1537 3 #[] #[])
  fields := #[]
  methods := #[]
  instanceTypes := #[]
  staticTypes := #[]
  resolved := Array.replicate 12 none
  statics := none }

def pool4 : Array CpInfo := pool [(1, .class_ 2), (0, u "java/io/Serializable"), (0, .class_ 4), (0, u "java/lang/Object")] 2

/-- java/io/Serializable -/
def k4 : Class := { plain "java/io/Serializable" (some 0) with
  accessFlags := 1537
  interfaces := #[]
  cf := some (fileOf pool4 1 #[] #[] 1537 3 #[] #[])
  fields := #[]
  methods := #[]
  instanceTypes := #[]
  staticTypes := #[]
  resolved := Array.replicate 7 none
  statics := none }

def pool5 : Array CpInfo := pool [(2, .class_ 4), (1, u "java/lang/Enum"), (0, u "name"), (0, u "Ljava/lang/String;"), (2, u "ordinal"), (0, u "I"), (1, .class_ 14), (1, u "java/lang/Object"), (4, u "hash"), (86, .class_ 108), (1, u "java/lang/Enum$EnumDesc"), (2, .class_ 112), (0, u "java/lang/constant/Constable"), (0, .class_ 114), (0, u "java/lang/Comparable"), (0, .class_ 116), (0, u "java/io/Serializable")] 87

/-- java/lang/Enum -/
def k5 : Class := { plain "java/lang/Enum" (some 0) with
  accessFlags := 1057
  interfaces := #[2, 3, 4]
  cf := some (fileOf pool5 2 #[.nestMembers #[106]] #[] 1057 12 #[111, 113, 115] #[{ accessFlags := 18, nameIndex := 5, descriptorIndex := 6, attributes := #[] }, { accessFlags := 18, nameIndex := 9, descriptorIndex := 10, attributes := #[] }, { accessFlags := 2, nameIndex := 19, descriptorIndex := 10, attributes := #[] }])
  fields := #[{ name := "name", type := (.object "java/lang/String"), accessFlags := 18, slot := 0, constantValue := 0 }, { name := "ordinal", type := .int, accessFlags := 18, slot := 1, constantValue := 0 }, { name := "hash", type := .int, accessFlags := 2, slot := 2, constantValue := 0 }]
  methods := #[]
  instanceTypes := #[(.object "java/lang/String"), .int, .int]
  staticTypes := #[]
  resolved := Array.replicate 204 none
  statics := none }

def pool6 : Array CpInfo := pool [(1, .class_ 2), (0, u "com/example/hangar_deck/hangardeck/apk/SignatureScheme"), (2, u "V1"), (0, u "Lcom/example/hangar_deck/hangardeck/apk/SignatureScheme;"), (2, u "V2"), (2, u "V3"), (0, .fieldref 1 14), (0, .nameAndType 15 16), (0, u "$VALUES"), (0, u "[Lcom/example/hangar_deck/hangardeck/apk/SignatureScheme;"), (0, .methodref 18 19), (0, .class_ 16), (0, .nameAndType 20 21), (0, u "clone"), (0, u "()Ljava/lang/Object;"), (1, .class_ 25), (1, u "java/lang/Enum"), (8, u "label"), (0, u "Ljava/lang/String;"), (2, u "firstLevel"), (0, u "I"), (0, .fieldref 1 41), (0, .nameAndType 42 39), (0, u "id"), (2, u "blockId"), (0, .methodref 1 47), (0, .nameAndType 48 49), (0, u "values"), (0, u "()[Lcom/example/hangar_deck/hangardeck/apk/SignatureScheme;"), (32, u "withId"), (0, u "(I)Lcom/example/hangar_deck/hangardeck/apk/SignatureScheme;")] 5

def k6c0 : Code := { maxStack := 1, maxLocals := 0, code := prog_39_method_1_code, exceptionTable := #[], attributes := #[] }
def k6m0 : Method := { name := "values", desc := "()[Lcom/example/hangar_deck/hangardeck/apk/SignatureScheme;", sig := { parameters := [], returnType := some (.array (.object "com/example/hangar_deck/hangardeck/apk/SignatureScheme")) }, accessFlags := 9, code := some k6c0 }
def k6c1 : Code := { maxStack := 2, maxLocals := 6, code := prog_39_method_9_code, exceptionTable := #[], attributes := #[] }
def k6m1 : Method := { name := "withId", desc := "(I)Lcom/example/hangar_deck/hangardeck/apk/SignatureScheme;", sig := { parameters := [.int], returnType := some (.object "com/example/hangar_deck/hangardeck/apk/SignatureScheme") }, accessFlags := 8, code := some k6c1 }
/-- com/example/hangar_deck/hangardeck/apk/SignatureScheme -/
def k6 : Class := { plain "com/example/hangar_deck/hangardeck/apk/SignatureScheme" (some 5) with
  accessFlags := 16433
  interfaces := #[]
  cf := some (fileOf pool6 1 #[] #[{ accessFlags := 9, nameIndex := 48, descriptorIndex := 49, attributes := #[] }, { accessFlags := 8, nameIndex := 82, descriptorIndex := 83, attributes := #[] }] 16433 23 #[] #[{ accessFlags := 16409, nameIndex := 5, descriptorIndex := 6, attributes := #[] }, { accessFlags := 16409, nameIndex := 9, descriptorIndex := 6, attributes := #[] }, { accessFlags := 16409, nameIndex := 12, descriptorIndex := 6, attributes := #[] }, { accessFlags := 18, nameIndex := 34, descriptorIndex := 35, attributes := #[] }, { accessFlags := 18, nameIndex := 38, descriptorIndex := 39, attributes := #[] }, { accessFlags := 18, nameIndex := 42, descriptorIndex := 39, attributes := #[] }, { accessFlags := 18, nameIndex := 45, descriptorIndex := 39, attributes := #[] }, { accessFlags := 4122, nameIndex := 15, descriptorIndex := 16, attributes := #[] }])
  fields := #[{ name := "V1", type := (.object "com/example/hangar_deck/hangardeck/apk/SignatureScheme"), accessFlags := 16409, slot := 0, constantValue := 0 }, { name := "V2", type := (.object "com/example/hangar_deck/hangardeck/apk/SignatureScheme"), accessFlags := 16409, slot := 1, constantValue := 0 }, { name := "V3", type := (.object "com/example/hangar_deck/hangardeck/apk/SignatureScheme"), accessFlags := 16409, slot := 2, constantValue := 0 }, { name := "label", type := (.object "java/lang/String"), accessFlags := 18, slot := 3, constantValue := 0 }, { name := "firstLevel", type := .int, accessFlags := 18, slot := 4, constantValue := 0 }, { name := "id", type := .int, accessFlags := 18, slot := 5, constantValue := 0 }, { name := "blockId", type := .int, accessFlags := 18, slot := 6, constantValue := 0 }, { name := "$VALUES", type := (.array (.object "com/example/hangar_deck/hangardeck/apk/SignatureScheme")), accessFlags := 4122, slot := 3, constantValue := 0 }]
  methods := #[k6m0, k6m1]
  instanceTypes := #[(.object "java/lang/String"), .int, .int, (.object "java/lang/String"), .int, .int, .int]
  staticTypes := #[(.object "com/example/hangar_deck/hangardeck/apk/SignatureScheme"), (.object "com/example/hangar_deck/hangardeck/apk/SignatureScheme"), (.object "com/example/hangar_deck/hangardeck/apk/SignatureScheme"), (.array (.object "com/example/hangar_deck/hangardeck/apk/SignatureScheme"))]
  resolved := Array.replicate 89 none
  statics := some 0 }

def pool7 : Array CpInfo := pool [(1, .class_ 2), (0, u "java/lang/Cloneable"), (0, .class_ 4), (0, u "java/lang/Object")] 2

/-- java/lang/Cloneable -/
def k7 : Class := { plain "java/lang/Cloneable" (some 0) with
  accessFlags := 1537
  interfaces := #[]
  cf := some (fileOf pool7 1 #[] #[] 1537 3 #[] #[])
  fields := #[]
  methods := #[]
  instanceTypes := #[]
  staticTypes := #[]
  resolved := Array.replicate 7 none
  statics := none }

/-- the primitive byte -/
def k8 : Class := { plain "byte" none with kind := .primitive 'B', accessFlags := 0x411 }
/-- [B -/
def k9 : Class := { plain "[B" (some 0) with kind := .array 8 .byte, interfaces := #[7, 4], accessFlags := 1041 }

/-- the primitive int -/
def k10 : Class := { plain "int" none with kind := .primitive 'I', accessFlags := 0x411 }
/-- [I -/
def k11 : Class := { plain "[I" (some 0) with kind := .array 10 .int, interfaces := #[7, 4], accessFlags := 1041 }

/-- [Lcom/example/hangar_deck/hangardeck/apk/SignatureScheme; -/
def k12 : Class := { plain "[Lcom/example/hangar_deck/hangardeck/apk/SignatureScheme;" (some 0) with kind := .array 6 (.object "com/example/hangar_deck/hangardeck/apk/SignatureScheme"), interfaces := #[7, 4], accessFlags := 1041 }

def heap : Heap := #[{ cls := 6, slots := #[.ref 2, .ref 3, .ref 4, .ref 1], vm := .statics 6 },
  { cls := 12, slots := #[.ref 2, .ref 3, .ref 4], vm := .none },
  { cls := 6, slots := #[.null, .int 0, .int 0, .null, .int 0, .int 0, .int 0], vm := .none },
  { cls := 6, slots := #[.null, .int 0, .int 0, .null, .int 0, .int 2, .int 0], vm := .none },
  { cls := 6, slots := #[.null, .int 0, .int 0, .null, .int 0, .int 3, .int 0], vm := .none }]
def classes : Array Class := #[k0, k1, k2, k3, k4, k5, k6, k7, k8, k9, k10, k11, k12]
def interned : List (Array UInt16 × Addr) := []
def slotsUsed : Nat := 28
def theMethod : MethodId := ⟨1, 1⟩
def args0 : Array Value := #[.int 5, .int 1]
def aboutOver (below : List Frame) : State where
  vm := { classes := classes, interned := interned.toArray }
  heap := heap
  slotsUsed := slotsUsed
  threads := #[{ frames := .invoking theMethod args0 :: below }]
def below0 : List Frame := [.native { method := ⟨0, 0⟩, args := #[] }]
def about1 : State := aboutOver below0
def p0 : Program := .bare "" "" ""
def e0 : Env := launch0.env 0 0 0
theorem w_frames : about1.frames = Frame.invoking theMethod args0 :: below0 := rfl
set_option maxRecDepth 65536 in
theorem w_args : argsFit about1.vm theMethod args0 = true := by decide +kernel
set_option maxRecDepth 65536 in
theorem w_heap : heapFits about1 = true := by decide +kernel
set_option maxRecDepth 65536 in
theorem w_runnable : about1.curStatus? = some .runnable := by decide +kernel
set_option maxRecDepth 65536 in
theorem w_alone : about1.alone = true := by decide +kernel
set_option maxRecDepth 65536 in
theorem w_named : about1.methodNamed? x = some theMethod := by decide +kernel
set_option maxRecDepth 65536 in
theorem w_hears : about1.hears theMethod below0 = true := by decide +kernel
set_option maxRecDepth 65536 in
theorem w_ripe : about1.ripe theMethod args0 below0 = true := by decide +kernel
theorem w_running : about1.status = .running := rfl
set_option maxRecDepth 65536 in
theorem w_room : about1.hasRoom e0.platform room_1 = true :=
  launch0.hasRoom_least _ room_1 (by decide +kernel) (by decide +kernel) (by decide +kernel) (by decide +kernel) (by decide +kernel) (by decide +kernel)
theorem allAtoms_all (ts : List Jvm.Cond) (a : Array Jvm.Value) (st : Jvm.State) : (allAtoms ts).before a st = ts.all (fun c => c.before a st) := by
  induction ts with
  | nil => rfl
  | cons c t ih =>
    show (Jvm.Cond.and c (allAtoms t)).before a st = _
    rw [Jvm.Cond.before_and, ih, List.all_cons]
def words1 : List Jvm.Cond := Jvm.Cond.code x code maxLocals ret :: tables_1
/-- a 'code' word, met by the world's own term for the bytes: nothing is compared byte by byte -/
theorem code_word {y : MethodName} {bytes : ByteArray} {mx : Nat} {rt : Option FieldType} {a : Array Value} {s : State} {m : MethodId} {meth : Method} {c : Code} (h1 : s.methodNamed? y = some m) (h2 : s.vm.method? m = some meth) (h3 : meth.code = some c) (h4 : c.code = bytes)
    (h5 : (c.maxLocals == mx && c.exceptionTable.isEmpty && decide (c.maxStack ≤ mostOperands) && decide (meth.sig.returnType = rt) && !meth.locks && decide (parseMethodDescriptor y.desc = some meth.sig)) = true) : (Jvm.Cond.code y bytes mx rt).before a s = true := by
  simp only [Bool.and_eq_true, beq_iff_eq, Bool.not_eq_true', decide_eq_true_eq] at h5
  obtain ⟨⟨⟨⟨⟨g1, g2⟩, g3⟩, g4⟩, g5⟩, g6⟩ := h5
  simp [Cond.before, Cond.holds, Cond.value, h1, h2, h3, h4, g1, g2, g3, g4, g5, g6]
def isCode : Jvm.Cond → Bool
  | .code _ _ _ _ => true
  | _ => false
theorem all_split {L : List Jvm.Cond} {P : Jvm.Cond → Bool} (h1 : L.all (fun c => isCode c || P c) = true) (h2 : ∀ c ∈ L.filter isCode, P c = true) : L.all P = true := by
  refine List.all_eq_true.mpr fun c hc => ?_
  have h := List.all_eq_true.mp h1 c hc
  rcases Bool.eq_false_or_eq_true (isCode c) with hi | hi
  · exact h2 c (List.mem_filter.mpr ⟨hc, hi⟩)
  · simpa [hi] using h
set_option maxRecDepth 65536 in
theorem w_c0 : (Jvm.Cond.code x code maxLocals ret).before args0 about1 = true := code_word (m := ⟨1, 1⟩) (meth := k1m1) (c := k1c1) (by decide +kernel) rfl rfl rfl (by decide +kernel)
set_option maxRecDepth 65536 in
theorem w_c1 : (Jvm.Cond.code ({ cls := "com/example/hangar_deck/hangardeck/apk/SignatureScheme", name := "withId", desc := "(I)Lcom/example/hangar_deck/hangardeck/apk/SignatureScheme;" } : Jvm.MethodName) prog_39_method_9_code (6 : Nat) (Option.some (Jvm.ClassFile.FieldType.object "com/example/hangar_deck/hangardeck/apk/SignatureScheme"))).before args0 about1 = true := code_word (m := ⟨6, 1⟩) (meth := k6m1) (c := k6c1) (by decide +kernel) rfl rfl rfl (by decide +kernel)
set_option maxRecDepth 65536 in
theorem w_c2 : (Jvm.Cond.code ({ cls := "com/example/hangar_deck/hangardeck/apk/SignatureScheme", name := "values", desc := "()[Lcom/example/hangar_deck/hangardeck/apk/SignatureScheme;" } : Jvm.MethodName) prog_39_method_1_code (0 : Nat) (Option.some (Jvm.ClassFile.FieldType.array (Jvm.ClassFile.FieldType.object "com/example/hangar_deck/hangardeck/apk/SignatureScheme")))).before args0 about1 = true := code_word (m := ⟨6, 0⟩) (meth := k6m0) (c := k6c0) (by decide +kernel) rfl rfl rfl (by decide +kernel)
def codes1 : List Jvm.Cond := [Jvm.Cond.code x code maxLocals ret, Jvm.Cond.code ({ cls := "com/example/hangar_deck/hangardeck/apk/SignatureScheme", name := "withId", desc := "(I)Lcom/example/hangar_deck/hangardeck/apk/SignatureScheme;" } : Jvm.MethodName) prog_39_method_9_code (6 : Nat) (Option.some (Jvm.ClassFile.FieldType.object "com/example/hangar_deck/hangardeck/apk/SignatureScheme")), Jvm.Cond.code ({ cls := "com/example/hangar_deck/hangardeck/apk/SignatureScheme", name := "values", desc := "()[Lcom/example/hangar_deck/hangardeck/apk/SignatureScheme;" } : Jvm.MethodName) prog_39_method_1_code (0 : Nat) (Option.some (Jvm.ClassFile.FieldType.array (Jvm.ClassFile.FieldType.object "com/example/hangar_deck/hangardeck/apk/SignatureScheme")))]
set_option maxRecDepth 65536 in
theorem codes_eq : words1.filter isCode = codes1 := rfl
theorem w_codes : ∀ c ∈ words1.filter isCode, c.before args0 about1 = true := by
  rw [codes_eq]
  intro c hc
  simp only [codes1, List.mem_cons, List.not_mem_nil, or_false] at hc
  rcases hc with rfl | rfl | rfl
  · exact w_c0
  · exact w_c1
  · exact w_c2
set_option maxRecDepth 65536 in
theorem w_t1 : (words1.take 24).all (fun c => isCode c || c.before args0 about1) = true := by decide +kernel
set_option maxRecDepth 65536 in
theorem w_t2 : (words1.drop 24).all (fun c => isCode c || c.before args0 about1) = true := by decide +kernel
theorem w_tables : (allAtoms (Jvm.Cond.code x code maxLocals ret :: tables_1)).before args0 about1 = true := by
  rw [allAtoms_all]
  show words1.all (fun c => c.before args0 about1) = true
  refine all_split ?_ w_codes
  rw [← List.take_append_drop 24 words1, List.all_append, w_t1, w_t2]
  rfl
set_option maxRecDepth 65536 in
theorem w_case : (Jvm.Cond.and given_1 narrow_1).before args0 about1 = true := by decide +kernel
theorem w_applies : (headSpec (Jvm.Cond.code x code maxLocals ret :: tables_1) room_1).applies x e0.platform about1 = true :=
  (Spec.applies_iff w_frames).mpr ⟨w_running, w_runnable, w_alone, w_named, w_hears, w_ripe, w_room, w_tables⟩
theorem atStart : AtStart classFile x code maxLocals ret World_1 tables_1 room_1 Calls_1 rest_1 Pre_1 launch0 p0 e0 about1 theMethod args0 below0 :=
  ⟨lists_1, trivial, launch0.admits_env _ _ _, launch0.least_env, fairChoices_fair.cas, fairChoices_fair.clock, w_frames, w_args, w_heap, w_applies, trivial, trivial, w_case⟩
end start1
theorem witness_1 : WitnessClaimed_1 := ⟨start1.p0, start1.e0, start1.about1, start1.theMethod, start1.args0, start1.below0, start1.atStart⟩
end Jvm.Pilot.@@N@@
