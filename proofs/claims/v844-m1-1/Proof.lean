import JvmDerived
import JvmDerived.Pilot.@@N@@Statement
import JvmDerived.Pilot.@@N@@Code
set_option linter.unusedVariables false
set_option linter.unusedSimpArgs false
namespace Jvm.Pilot.@@N@@
open Jvm Jvm.ClassFile Sem Op Lib Jvm.Free Jvm.Stand Jvm.LawKit Jvm.RoadKit Bundle Jvm.Pilot.@@N@@.Jvm.D
theorem own_w {ws : List Jvm.Cond} {a0 : Array Value} {Z : State} (hw : ∀ d ∈ ws, d.before a0 Z = true) (i : Nat) {d : Jvm.Cond} (h : ws[i]? = some d) : d.before a0 Z = true := hw _ (List.mem_of_getElem? h)
/-- the run comes to a state of which P holds -/
def Rch (tb : Tables) (e : Env) (below : List Frame) (P : State → Prop) (t : State) : Prop := ∃ u, Steps tb e below t u ∧ P u
theorem Rch.st {tb : Tables} {e : Env} {below : List Frame} {P : State → Prop} {t t' : State} (h : ∀ target, Steps tb e below t' target → Steps tb e below t target) (k : Rch tb e below P t') : Rch tb e below P t := by
  obtain ⟨u, h1, h2⟩ := k
  exact ⟨u, h u h1, h2⟩
theorem Rch.tr {tb : Tables} {e : Env} {below : List Frame} {P : State → Prop} {t t' : State} (h : Steps tb e below t t') (k : Rch tb e below P t') : Rch tb e below P t := by
  obtain ⟨u, h1, h2⟩ := k
  exact ⟨u, h.trans h1, h2⟩
theorem Rch.fin {tb : Tables} {e : Env} {below : List Frame} {P : State → Prop} {t u : State} (h : Steps tb e below t u) (k : P u) : Rch tb e below P t := ⟨u, h, k⟩
theorem Rch.out {tb : Tables} {e : Env} {below : List Frame} {P : State → Outcome → Prop} {t : State} (h : Rch tb e below (fun u => ∃ o, P u o) t) : ∃ u o, Steps tb e below t u ∧ P u o := by
  obtain ⟨u, h1, o, h2⟩ := h
  exact ⟨u, o, h1, h2⟩
theorem own_eqInt {t : Term} {n : Int32} {args : Array Value} {s : State} (h : (Cond.eq t (.int n)).value args s none s [] = some true) : t.eval args s none [] s = some (.int n) := by
  have hn : (Term.int n).eval args s none [] s = some (.int n) := rfl
  cases hv : t.eval args s none [] s with
  | none => simp [Cond.value, hv] at h
  | some x => cases x <;> simp [Cond.value, hv, hn] at h ⊢; exact h
theorem own_retI {p : Program} {l : Launch} {e : Env} {R : Room} {s : State} {m : MethodId} {args : Array Value} {below : List Frame} {meth : Method} {c : Code} {T : State} {locs : List Loc} {cells slots : Nat} (X : Stand p l e R s m args below meth c T locs cells slots) (hx : p.tables.exec = Jvm.exec) {pc : Nat} {Ls : Array Slot} {z : Int32} {rest : List Value} (hret : meth.sig.returnType = some .int) (hd : decode c.code pc = .ok (.ireturn, 1)) {fs : List Frame}
    (hl : ∀ (f : JFrame) (acts : List Action), f.method = m → f.locked = none → f.entered = [] → (doReturn e (T.setTop f) acts (some (.int z))).1 = T.setFrames fs) : Steps p.tables e below (T.setTop (mkF m pc Ls (.int z :: rest))) (T.setFrames fs) :=
  retOut X hx hret rfl (Or.inl ⟨rfl, Or.inl rfl, z, rfl⟩) hd hl
theorem own_retA {p : Program} {l : Launch} {e : Env} {R : Room} {s : State} {m : MethodId} {args : Array Value} {below : List Frame} {meth : Method} {c : Code} {T : State} {locs : List Loc} {cells slots : Nat} (X : Stand p l e R s m args below meth c T locs cells slots) (hx : p.tables.exec = Jvm.exec) {pc : Nat} {Ls : Array Slot} {w : Value} {t : FieldType} {rest : List Value} (hret : meth.sig.returnType = some t) (hn : narrow t w = w) (ht : t.isReference = true) (hw : w.isRef = true) (hd : decode c.code pc = .ok (.areturn, 1)) {fs : List Frame}
    (hl : ∀ (f : JFrame) (acts : List Action), f.method = m → f.locked = none → f.entered = [] → (doReturn e (T.setTop f) acts (some w)).1 = T.setFrames fs) : Steps p.tables e below (T.setTop (mkF m pc Ls (w :: rest))) (T.setFrames fs) :=
  retOut X hx hret hn (Or.inr (Or.inr (Or.inr (Or.inr ⟨rfl, ht, hw⟩)))) hd hl
theorem own_retJ {p : Program} {l : Launch} {e : Env} {R : Room} {s : State} {m : MethodId} {args : Array Value} {below : List Frame} {meth : Method} {c : Code} {T : State} {locs : List Loc} {cells slots : Nat} (X : Stand p l e R s m args below meth c T locs cells slots) (hx : p.tables.exec = Jvm.exec) {pc : Nat} {Ls : Array Slot} {z : Int64} {rest : List Value} (hret : meth.sig.returnType = some .long) (hd : decode c.code pc = .ok (.lreturn, 1)) {fs : List Frame}
    (hl : ∀ (f : JFrame) (acts : List Action), f.method = m → f.locked = none → f.entered = [] → (doReturn e (T.setTop f) acts (some (.long z))).1 = T.setFrames fs) : Steps p.tables e below (T.setTop (mkF m pc Ls (.long z :: rest))) (T.setFrames fs) :=
  retOut X hx hret rfl (Or.inr (Or.inl ⟨rfl, rfl, z, rfl⟩)) hd hl
theorem own_retD {p : Program} {l : Launch} {e : Env} {R : Room} {s : State} {m : MethodId} {args : Array Value} {below : List Frame} {meth : Method} {c : Code} {T : State} {locs : List Loc} {cells slots : Nat} (X : Stand p l e R s m args below meth c T locs cells slots) (hx : p.tables.exec = Jvm.exec) {pc : Nat} {Ls : Array Slot} {z : UInt64} {rest : List Value} (hret : meth.sig.returnType = some .double) (hd : decode c.code pc = .ok (.dreturn, 1)) {fs : List Frame}
    (hl : ∀ (f : JFrame) (acts : List Action), f.method = m → f.locked = none → f.entered = [] → (doReturn e (T.setTop f) acts (some (.double z))).1 = T.setFrames fs) : Steps p.tables e below (T.setTop (mkF m pc Ls (.double z :: rest))) (T.setFrames fs) :=
  retOut X hx hret rfl (Or.inr (Or.inr (Or.inl ⟨rfl, rfl, z, rfl⟩))) hd hl

def own_small (p : Int32) : Int32 := ((p <<< ((11 : Int32) &&& 31)) >>> ((11 : Int32) &&& 31))
theorem own_small_b (p : Int32) : -1048576 ≤ (own_small p).toInt ∧ (own_small p).toInt ≤ 1048575 := by
  have h1 := c_ishr (p <<< ((11 : Int32) &&& 31)) 11 11 (by decide)
  have h2 := rng32 (p <<< ((11 : Int32) &&& 31))
  unfold own_small
  rw [h1]
  omega
/-- x is the double of the whole number n, or -0.0 and n is 0 -/
def Wh (x : UInt64) (n : Int64) : Prop := x = FP.l2d n ∨ (n = 0 ∧ x = FP.Core.dzeroNeg)
theorem wh_nn {x : UInt64} {n : Int64} (h : Wh x n) : Jvm.Free.Fl.NoNaN64 x := by
  rcases h with h | ⟨-, rfl⟩
  · exact nn_w h
  · exact (Jvm.Free.Fl.noNaN64_iff _).mpr (by decide)
theorem own_mulb {a b : Int} (a1 : -1048576 ≤ a) (a2 : a ≤ 1048576) (b1 : -1048576 ≤ b) (b2 : b ≤ 1048576) : -1099511627776 ≤ a * b ∧ a * b ≤ 1099511627776 := by
  have h : a.natAbs * b.natAbs ≤ 1048576 * 1048576 := Nat.mul_le_mul (by omega) (by omega)
  rw [← Int.natAbs_mul] at h
  omega
theorem wh_mul {a b : Int64} (a1 : -1048576 ≤ a.toInt) (a2 : a.toInt ≤ 1048576) (b1 : -1048576 ≤ b.toInt) (b2 : b.toInt ≤ 1048576) : Wh (FP.dmul (FP.l2d a) (FP.l2d b)) (a * b) := by
  have ha : B53 a := ⟨by omega, by omega⟩
  have hb : B53 b := ⟨by omega, by omega⟩
  by_cases h : a = 0 ∨ b = 0
  · have e : a * b = 0 := by rcases h with rfl | rfl <;> simp
    rw [dmul_z ha hb h, e]
    split
    · exact Or.inr ⟨rfl, rfl⟩
    · exact Or.inl rfl
  · have hm := own_mulb a1 a2 b1 b2
    exact Or.inl (dmul_w ha hb (fun q => h (Or.inl q)) (fun q => h (Or.inr q)) (by omega) (by omega))
theorem wh_add {x y : UInt64} {a b : Int64} (hx : Wh x a) (hy : Wh y b) (ha : B53 a) (hb : B53 b) : Wh (FP.dadd x y) (a + b) := by
  rcases hx with rfl | ⟨rfl, rfl⟩
  · rcases hy with rfl | ⟨rfl, rfl⟩
    · exact Or.inl (dadd_w ha hb)
    · have e : FP.dadd (FP.l2d a) FP.Core.dzeroNeg = FP.l2d a := FP.Core.dadd_zeroNeg (Jvm.Free.Fl.val64_no.mp (nn_w rfl))
      rw [e]; simp only [Int64.add_zero]; exact Or.inl rfl
  · have e : FP.dadd FP.Core.dzeroNeg y = y := (FP.Core.dadd_comm _ _).trans (FP.Core.dadd_zeroNeg (Jvm.Free.Fl.val64_no.mp (wh_nn hy)))
    rw [e]; simp only [Int64.zero_add]; exact hy
theorem wh_cmp {x : UInt64} {n : Int64} (h : Wh x n) (hn : B53 n) : cmpValue (FP.dcmp x (FP.l2d n)) .l = (0 : Int32) := by
  rcases h with rfl | ⟨rfl, rfl⟩
  · rw [dcmpV_w hn hn]; simp [lcmpW]
  · decide +kernel
theorem own_prod {a b : Int64} (a1 : -1048576 ≤ a.toInt) (a2 : a.toInt ≤ 1048576) (b1 : -1048576 ≤ b.toInt) (b2 : b.toInt ≤ 1048576) : -1099511627776 ≤ (a * b).toInt ∧ (a * b).toInt ≤ 1099511627776 := by
  have hm := own_mulb a1 a2 b1 b2
  have e : (a * b).toInt = a.toInt * b.toInt := by rw [Int64.toInt_mul]; exact Int.bmod_eq_of_le (by omega) (by omega)
  rw [e]; omega
theorem own_dot (x y z p q r : Int32) (hx : -1048576 ≤ x.toInt ∧ x.toInt ≤ 1048575) (hy : -1048576 ≤ y.toInt ∧ y.toInt ≤ 1048575) (hz : -1048576 ≤ z.toInt ∧ z.toInt ≤ 1048575) (hp : -1048576 ≤ p.toInt ∧ p.toInt ≤ 1048575) (hq : -1048576 ≤ q.toInt ∧ q.toInt ≤ 1048575) (hr : -1048576 ≤ r.toInt ∧ r.toInt ≤ 1048575) :
    Jvm.Free.Fl.NoNaN64 (FP.dmul (FP.i2d x) (FP.i2d p)) ∧ Jvm.Free.Fl.NoNaN64 (FP.dmul (FP.i2d y) (FP.i2d q)) ∧ Jvm.Free.Fl.NoNaN64 (FP.dadd (FP.dmul (FP.i2d x) (FP.i2d p)) (FP.dmul (FP.i2d y) (FP.i2d q))) ∧ Jvm.Free.Fl.NoNaN64 (FP.dmul (FP.i2d z) (FP.i2d r)) ∧
    Jvm.Free.Fl.NoNaN64 (FP.dadd (FP.dadd (FP.dmul (FP.i2d x) (FP.i2d p)) (FP.dmul (FP.i2d y) (FP.i2d q))) (FP.dmul (FP.i2d z) (FP.i2d r))) ∧
    cmpValue (FP.dcmp (FP.dadd (FP.dadd (FP.dmul (FP.i2d x) (FP.i2d p)) (FP.dmul (FP.i2d y) (FP.i2d q))) (FP.dmul (FP.i2d z) (FP.i2d r))) (FP.l2d (((x.toInt64) * (p.toInt64)) + ((y.toInt64) * (q.toInt64)) + ((z.toInt64) * (r.toInt64))))) .l = (0 : Int32) := by
  simp only [i2d_w]
  have ex := c_i2l x; have ey := c_i2l y; have ez := c_i2l z; have ep := c_i2l p; have eq := c_i2l q; have er := c_i2l r
  generalize x.toInt64 = a at *; generalize y.toInt64 = b at *; generalize z.toInt64 = c at *; generalize p.toInt64 = d at *; generalize q.toInt64 = e at *; generalize r.toInt64 = f at *
  have m1 := wh_mul (a := a) (b := d) (by omega) (by omega) (by omega) (by omega)
  have m2 := wh_mul (a := b) (b := e) (by omega) (by omega) (by omega) (by omega)
  have m3 := wh_mul (a := c) (b := f) (by omega) (by omega) (by omega) (by omega)
  have b1 := own_prod (a := a) (b := d) (by omega) (by omega) (by omega) (by omega)
  have b2 := own_prod (a := b) (b := e) (by omega) (by omega) (by omega) (by omega)
  have b3 := own_prod (a := c) (b := f) (by omega) (by omega) (by omega) (by omega)
  have B1 : B53 (a * d) := ⟨by omega, by omega⟩
  have B2 : B53 (b * e) := ⟨by omega, by omega⟩
  have B3 : B53 (c * f) := ⟨by omega, by omega⟩
  have s1 := wh_add m1 m2 B1 B2
  have t1 := Jvm.RoadKit.add64 B1 B2
  have B4 : B53 (a * d + b * e) := ⟨by omega, by omega⟩
  have s2 := wh_add s1 m3 B4 B3
  have t2 := Jvm.RoadKit.add64 B4 B3
  have B5 : B53 (a * d + b * e + c * f) := ⟨by omega, by omega⟩
  exact ⟨wh_nn m1, wh_nn m2, wh_nn s1, wh_nn m3, wh_nn s2, wh_cmp s2 B5⟩
theorem d1_0 : decode method_2_code 0 = .ok (.iload_n 0, 1) := by decide +kernel
theorem d1_1 : decode method_2_code 1 = .ok (.bipush 11, 2) := by decide +kernel
theorem d1_3 : decode method_2_code 3 = .ok (.ishl, 1) := by decide +kernel
theorem d1_4 : decode method_2_code 4 = .ok (.bipush 11, 2) := by decide +kernel
theorem d1_6 : decode method_2_code 6 = .ok (.ishr, 1) := by decide +kernel
theorem d1_7 : decode method_2_code 7 = .ok (.ireturn, 1) := by decide +kernel
def Q_csmall (Z : State) (pi : Int32) (h0 : Heap) (n0 : Nat) (v : Option Value) (h : Heap) (L : List Loc) : Prop := v = some (.int (own_small pi)) ∧ Fr n0 L ∧ h = h0
theorem pn_com_example_saanich_saanich_geometry_VectorDotPinLaw : plainName "com/example/saanich/saanich/geometry/VectorDotPinLaw" = true := by first | (simp [plainName, overriddenIn]; done) | decide +kernel
theorem ef_csmall (m : MethodId) (pi : Int32) : entryFrame m #[(.int pi)] 1 = mkF m 0 #[.val (.int pi)] [] := by first | (simp [entryFrame, mkF, argsToLocals, Value.category]; done) | rfl
set_option maxRecDepth 65536 in
set_option maxHeartbeats 40000000 in
theorem csmall (l : Launch) (Z : State) (a0 : Array Value) (hw : ∀ d ∈ tables_1, d.before a0 Z = true) (ws : List Jvm.Cond) (pi : Int32) (h0 : Heap) (n0 : Nat) :
    MetFree l (⟨"com/example/saanich/saanich/geometry/VectorDotPinLaw", "small", "(I)I"⟩ : MethodName) (head1 (Jvm.Cond.code (⟨"com/example/saanich/saanich/geometry/VectorDotPinLaw", "small", "(I)I"⟩ : MethodName) method_2_code 1 (some .int) :: ws) ({ frames := 0, cells := 0, slots := 0, locals := 0 } : Room)) (fun aA uU => aA = #[(.int pi)] ∧ Z.Warmed39 uU.vm ∧ uU.heap = h0) (fun _ _ _ _ _ => True) (fun _ uU oO uU' => ∃ vV lL, oO = .returned vV ∧ Q_csmall Z pi h0 n0 vV uU'.heap lL ∧ FrameEnd uU oO uU' lL ({ frames := 0, cells := 0, slots := 0, locals := 0 } : Room).cells ({ frames := 0, cells := 0, slots := 0, locals := 0 } : Room).slots) := by
  refine MetFree.of_bodySF (plainFor_of_name pn_com_example_saanich_saanich_geometry_VectorDotPinLaw) hisR ?_
  intro p e s m args below meth c s₁ Bd hml0 hP hK
  obtain ⟨rfl, hZ, hh⟩ := hP
  have hx := Bd.exec
  have hby := Bd.bytes
  have hml : c.maxLocals = 1 := hml0
  have hown : s.vm.findClass "com/example/saanich/saanich/geometry/VectorDotPinLaw" = some m.cls := findClass_of_methodNamed Bd.named
  have hnm := (name_of_methodNamed Bd.named Bd.method).1
  have X0 : Stand p l e ({ frames := 0, cells := 0, slots := 0, locals := 0 } : Room) s m #[(.int pi)] below meth c s₁ [] 0 0 := Stand.of_body Bd
  have e0 : s₁.heap = h0 := by rw [← hh, Bd.state]; rfl
  have N0 := Fr.nil n0
  refine Rch.out (Rch.st (fun t k => castTop (ef_csmall m pi) k) ?_)
  show Rch p.tables e below _ (s₁.setTop (mkF m 0 #[.val (.int pi)] []))
  refine Rch.st (fun _ hr => XS.iloadN X0.here hx rfl (hb hby d1_0) rfl hr) ?_
  show Rch p.tables e below _ (s₁.setTop (mkF m 1 #[.val (.int pi)] [(.int pi)]))
  refine Rch.st (fun _ hr => XS.bipush X0.here hx rfl (hb hby d1_1) hr) ?_
  show Rch p.tables e below _ (s₁.setTop (mkF m 3 #[.val (.int pi)] [(.int (11 : Int32)), (.int pi)]))
  refine Rch.st (fun _ hr => XS.ishl X0.here hx rfl (hb hby d1_3) rfl hr) ?_
  show Rch p.tables e below _ (s₁.setTop (mkF m 4 #[.val (.int pi)] [(.int (pi <<< ((11 : Int32) &&& 31)))]))
  refine Rch.st (fun _ hr => XS.bipush X0.here hx rfl (hb hby d1_4) hr) ?_
  show Rch p.tables e below _ (s₁.setTop (mkF m 6 #[.val (.int pi)] [(.int (11 : Int32)), (.int (pi <<< ((11 : Int32) &&& 31)))]))
  refine Rch.st (fun _ hr => XS.ishr X0.here hx rfl (hb hby d1_6) rfl hr) ?_
  show Rch p.tables e below _ (s₁.setTop (mkF m 7 #[.val (.int pi)] [(.int ((pi <<< ((11 : Int32) &&& 31)) >>> ((11 : Int32) &&& 31)))]))
  obtain ⟨fs, hr, hrun, hended, hW, hsame⟩ := X0.leave (v := some (.int ((pi <<< ((11 : Int32) &&& 31)) >>> ((11 : Int32) &&& 31)))) (fun h => by rw [Bd.returns] at h; cases h)
  refine Rch.fin (u := s₁.setFrames fs) (own_retI X0 hx Bd.returns (hb hby d1_7) hr) ⟨_, hrun, hended, _, _, rfl, ?_, ⟨_, rfl⟩, hW, hsame.mono (by decide) (by decide)⟩
  show Q_csmall Z pi h0 n0 _ s₁.heap _
  exact ⟨rfl, N0, e0⟩
theorem d3_0 : decode jdk_30_method_1_code 0 = .ok (.aload_n 0, 1) := by decide +kernel
theorem d3_1 : decode jdk_30_method_1_code 1 = .ok (.invokespecial 1, 3) := by decide +kernel
theorem d3_4 : decode jdk_30_method_1_code 4 = .ok (.return_, 1) := by decide +kernel
def Q_crecord (Z : State) (a : Addr) (h0 : Heap) (n0 : Nat) (v : Option Value) (h : Heap) (L : List Loc) : Prop := v = none ∧ Fr n0 L ∧ h = h0
theorem pn_java_lang_Record : plainName "java/lang/Record" = true := by first | (simp [plainName, overriddenIn]; done) | decide +kernel
theorem ef_crecord (m : MethodId) (a : Addr) : entryFrame m #[(.ref a)] 1 = mkF m 0 #[.val (.ref a)] [] := by first | (simp [entryFrame, mkF, argsToLocals, Value.category]; done) | rfl
set_option maxRecDepth 65536 in
set_option maxHeartbeats 40000000 in
theorem crecord (l : Launch) (Z : State) (a0 : Array Value) (hw : ∀ d ∈ tables_1, d.before a0 Z = true) (ws : List Jvm.Cond) (a : Addr) (h0 : Heap) (n0 : Nat) :
    MetFree l (⟨"java/lang/Record", "<init>", "()V"⟩ : MethodName) (head1 (Jvm.Cond.code (⟨"java/lang/Record", "<init>", "()V"⟩ : MethodName) jdk_30_method_1_code 1 none :: ws) ({ frames := 1, cells := 0, slots := 0, locals := 12 } : Room)) (fun aA uU => aA = #[(.ref a)] ∧ Z.Warmed39 uU.vm ∧ uU.heap = h0) (fun _ _ _ _ _ => True) (fun _ uU oO uU' => ∃ vV lL, oO = .returned vV ∧ Q_crecord Z a h0 n0 vV uU'.heap lL ∧ FrameEnd uU oO uU' lL ({ frames := 1, cells := 0, slots := 0, locals := 12 } : Room).cells ({ frames := 1, cells := 0, slots := 0, locals := 12 } : Room).slots) := by
  refine MetFree.of_bodySF (plainFor_of_name pn_java_lang_Record) hisR ?_
  intro p e s m args below meth c s₁ Bd hml0 hP hK
  obtain ⟨rfl, hZ, hh⟩ := hP
  have hx := Bd.exec
  have hby := Bd.bytes
  have hml : c.maxLocals = 1 := hml0
  have hown : s.vm.findClass "java/lang/Record" = some m.cls := findClass_of_methodNamed Bd.named
  have hnm := (name_of_methodNamed Bd.named Bd.method).1
  have X0 : Stand p l e ({ frames := 1, cells := 0, slots := 0, locals := 12 } : Room) s m #[(.ref a)] below meth c s₁ [] 0 0 := Stand.of_body Bd
  have e0 : s₁.heap = h0 := by rw [← hh, Bd.state]; rfl
  have N0 := Fr.nil n0
  refine Rch.out (Rch.st (fun t k => castTop (ef_crecord m a) k) ?_)
  show Rch p.tables e below _ (s₁.setTop (mkF m 0 #[.val (.ref a)] []))
  refine Rch.st (fun _ hr => XS.aloadN X0.here hx rfl (hb hby d3_0) rfl rfl hr) ?_
  show Rch p.tables e below _ (s₁.setTop (mkF m 1 #[.val (.ref a)] [(.ref a)]))
  obtain ⟨T1, X1, e1, st1⟩ := initO X0 hx hZ hown (own_w hw 15 rfl) (own_w hw 16 rfl) (own_w hw 17 rfl) e0 (g := (mkF m 1 #[.val (.ref a)] [(.ref a)])) rfl (by rw [hml]; rfl) rfl (hb hby d3_1) (by decide) (W := 0) (by show 2 * 0 + _ ≤ _; exact Nat.le_of_eq rfl) (by decide)
  refine Rch.st st1 ?_
  show Rch p.tables e below _ (T1.setTop (mkF m 4 #[.val (.ref a)] []))
  obtain ⟨fs, hr, hrun, hended, hW, hsame⟩ := X1.leave (v := none) (fun _ => rfl)
  refine Rch.fin (u := T1.setFrames fs) (X1.returnOut hx Bd.returns (hb hby d3_4) hr) ⟨_, hrun, hended, _, _, rfl, ?_, ⟨_, rfl⟩, hW, hsame.mono (by decide) (by decide)⟩
  show Q_crecord Z a h0 n0 _ T1.heap _
  exact ⟨rfl, N0, e1⟩
theorem d2_0 : decode prog_35_method_1_code 0 = .ok (.aload_n 0, 1) := by decide +kernel
theorem d2_1 : decode prog_35_method_1_code 1 = .ok (.invokespecial 1, 3) := by decide +kernel
theorem pd_0 : parseMethodDescriptor "()V" = some ⟨[], none⟩ := by decide +kernel
theorem d2_4 : decode prog_35_method_1_code 4 = .ok (.aload_n 0, 1) := by decide +kernel
theorem d2_5 : decode prog_35_method_1_code 5 = .ok (.dload_n 1, 1) := by decide +kernel
theorem d2_6 : decode prog_35_method_1_code 6 = .ok (.putfield 7, 3) := by decide +kernel
theorem d2_9 : decode prog_35_method_1_code 9 = .ok (.aload_n 0, 1) := by decide +kernel
theorem d2_10 : decode prog_35_method_1_code 10 = .ok (.dload_n 3, 1) := by decide +kernel
theorem d2_11 : decode prog_35_method_1_code 11 = .ok (.putfield 13, 3) := by decide +kernel
theorem d2_14 : decode prog_35_method_1_code 14 = .ok (.aload_n 0, 1) := by decide +kernel
theorem d2_15 : decode prog_35_method_1_code 15 = .ok (.dload 5, 2) := by decide +kernel
theorem d2_17 : decode prog_35_method_1_code 17 = .ok (.putfield 16, 3) := by decide +kernel
theorem d2_20 : decode prog_35_method_1_code 20 = .ok (.return_, 1) := by decide +kernel
def Q_cinit (Z : State) (a : Addr) (x : UInt64) (y : UInt64) (z : UInt64) (h0 : Heap) (n0 : Nat) (v : Option Value) (h : Heap) (L : List Loc) : Prop := v = none ∧ Fr n0 L ∧ Keep h0 h [a] ∧ Old Z n0 h ∧ Exa Z h a "com/example/saanich/saanich/geometry/Vector" ∧ Fld Z h a "com/example/saanich/saanich/geometry/Vector" "x" "D" (.double x) ∧ Fld Z h a "com/example/saanich/saanich/geometry/Vector" "y" "D" (.double y) ∧ Fld Z h a "com/example/saanich/saanich/geometry/Vector" "z" "D" (.double z)
theorem pn_com_example_saanich_saanich_geometry_Vector : plainName "com/example/saanich/saanich/geometry/Vector" = true := by first | (simp [plainName, overriddenIn]; done) | decide +kernel
theorem ef_cinit (m : MethodId) (a : Addr) (x : UInt64) (y : UInt64) (z : UInt64) : entryFrame m #[(.ref a), (.double x), (.double y), (.double z)] 7 = mkF m 0 #[.val (.ref a), .val (.double x), .second, .val (.double y), .second, .val (.double z), .second] [] := by first | (simp [entryFrame, mkF, argsToLocals, Value.category]; done) | rfl
set_option maxRecDepth 65536 in
set_option maxHeartbeats 40000000 in
theorem cinit (l : Launch) (Z : State) (a0 : Array Value) (hw : ∀ d ∈ tables_1, d.before a0 Z = true) (ws : List Jvm.Cond) (a : Addr) (x : UInt64) (y : UInt64) (z : UInt64) (h0 : Heap) (n0 : Nat) (P0 : Old Z n0 h0) (P1 : Exa Z h0 a "com/example/saanich/saanich/geometry/Vector") (P2 : Fld Z h0 a "com/example/saanich/saanich/geometry/Vector" "x" "D" (.double (0 : UInt64))) (P3 : Fld Z h0 a "com/example/saanich/saanich/geometry/Vector" "y" "D" (.double (0 : UInt64))) (P4 : Fld Z h0 a "com/example/saanich/saanich/geometry/Vector" "z" "D" (.double (0 : UInt64))) (P5 : n0 ≤ a) :
    MetFree l (⟨"com/example/saanich/saanich/geometry/Vector", "<init>", "(DDD)V"⟩ : MethodName) (head1 (Jvm.Cond.code (⟨"com/example/saanich/saanich/geometry/Vector", "<init>", "(DDD)V"⟩ : MethodName) prog_35_method_1_code 7 none :: ws) ({ frames := 2, cells := 0, slots := 0, locals := 24 } : Room)) (fun aA uU => aA = #[(.ref a), (.double x), (.double y), (.double z)] ∧ Z.Warmed39 uU.vm ∧ uU.heap = h0) (fun _ _ _ _ _ => True) (fun _ uU oO uU' => ∃ vV lL, oO = .returned vV ∧ Q_cinit Z a x y z h0 n0 vV uU'.heap lL ∧ FrameEnd uU oO uU' lL ({ frames := 2, cells := 0, slots := 0, locals := 24 } : Room).cells ({ frames := 2, cells := 0, slots := 0, locals := 24 } : Room).slots) := by
  refine MetFree.of_bodySF (plainFor_of_name pn_com_example_saanich_saanich_geometry_Vector) hisR ?_
  intro p e s m args below meth c s₁ Bd hml0 hP hK
  obtain ⟨rfl, hZ, hh⟩ := hP
  have hx := Bd.exec
  have hby := Bd.bytes
  have hml : c.maxLocals = 7 := hml0
  have hown : s.vm.findClass "com/example/saanich/saanich/geometry/Vector" = some m.cls := findClass_of_methodNamed Bd.named
  have hnm := (name_of_methodNamed Bd.named Bd.method).1
  have X0 : Stand p l e ({ frames := 2, cells := 0, slots := 0, locals := 24 } : Room) s m #[(.ref a), (.double x), (.double y), (.double z)] below meth c s₁ [] 0 0 := Stand.of_body Bd
  have e0 : s₁.heap = h0 := by rw [← hh, Bd.state]; rfl
  have N0 := Fr.nil n0
  refine Rch.out (Rch.st (fun t k => castTop (ef_cinit m a x y z) k) ?_)
  show Rch p.tables e below _ (s₁.setTop (mkF m 0 #[.val (.ref a), .val (.double x), .second, .val (.double y), .second, .val (.double z), .second] []))
  refine Rch.st (fun _ hr => XS.aloadN X0.here hx rfl (hb hby d2_0) rfl rfl hr) ?_
  show Rch p.tables e below _ (s₁.setTop (mkF m 1 #[.val (.ref a), .val (.double x), .second, .val (.double y), .second, .val (.double z), .second] [(.ref a)]))
  obtain ⟨_, _, ⟨T1, L1, k1, n1⟩, -, X1, ⟨Lc1, hQ1, l1, y1, z1⟩, st1⟩ := X0.specialBack hx (y := (⟨"java/lang/Record", "<init>", "()V"⟩ : MethodName)) rfl hown (mvT hZ (own_w hw 10 rfl)) (mvT hZ (own_w hw 11 rfl)) (mvT hZ (own_w hw 14 rfl)) (by decide) (backOf (W := 0) (crecord l Z a0 hw [] a h0 n0 ) hZ (own_w hw 14 rfl) (own_w hw 13 rfl) (by decide) (by decide)) (g := (mkF m 1 #[.val (.ref a), .val (.double x), .second, .val (.double y), .second, .val (.double z), .second] [(.ref a)])) rfl (by rw [hml]; rfl) (Steps.refl _) (a := a) (argsL := []) (rest := []) (lenOf pd_0 rfl) rfl (by show 2 * 0 + _ ≤ _; exact Nat.le_of_eq rfl) (hb hby d2_1) (fun _ _ => ⟨rfl, e0, (by decide : 0 + 0 ≤ _), (by decide : 0 + 0 ≤ _)⟩)
  dsimp only [Pt.U, Pt.locs, Pt.cells, Pt.slots] at X1 l1 y1 z1 st1 hQ1
  subst l1 y1 z1
  obtain ⟨rfl, N1q, e1⟩ := hQ1
  have N1 := Fr.app N0 N1q
  refine Rch.tr st1 ?_
  show Rch p.tables e below _ (T1.setTop (mkF m 4 #[.val (.ref a), .val (.double x), .second, .val (.double y), .second, .val (.double z), .second] []))
  refine Rch.st (fun _ hr => XS.aloadN X1.here hx rfl (hb hby d2_4) rfl rfl hr) ?_
  show Rch p.tables e below _ (T1.setTop (mkF m 5 #[.val (.ref a), .val (.double x), .second, .val (.double y), .second, .val (.double z), .second] [(.ref a)]))
  refine Rch.st (fun _ hr => XS.dloadN X1.here hx rfl (hb hby d2_5) rfl hr) ?_
  show Rch p.tables e below _ (T1.setTop (mkF m 6 #[.val (.ref a), .val (.double x), .second, .val (.double y), .second, .val (.double z), .second] [(.double x), (.ref a)]))
  obtain ⟨T2, h2, X2, e2, W2, st2⟩ := putF X1 hx hZ hown (host := "") (Or.inl (own_w hw 18 rfl)) Via.refl e1 P2 P1 (Or.inr ⟨(own_w hw 19 rfl), rfl, hnm⟩) (own_w hw 5 rfl) (ty := .double) (by decide) rfl rfl (g := (mkF m 6 #[.val (.ref a), .val (.double x), .second, .val (.double y), .second, .val (.double z), .second] [(.double x), (.ref a)])) rfl rfl (hb hby d2_6)
  refine Rch.st st2 ?_
  have N2 := Fr.snoc X2 N1 P5
  have K3 : Keep h0 h2 [a] := (Keep.refl h0 [a]).wr W2 (Or.inl (List.mem_of_getElem? (i := 0) rfl))
  have Fw2 := P2.same W2
  show Rch p.tables e below _ (T2.setTop (mkF m 9 #[.val (.ref a), .val (.double x), .second, .val (.double y), .second, .val (.double z), .second] []))
  refine Rch.st (fun _ hr => XS.aloadN X2.here hx rfl (hb hby d2_9) rfl rfl hr) ?_
  show Rch p.tables e below _ (T2.setTop (mkF m 10 #[.val (.ref a), .val (.double x), .second, .val (.double y), .second, .val (.double z), .second] [(.ref a)]))
  refine Rch.st (fun _ hr => XS.dloadN X2.here hx rfl (hb hby d2_10) rfl hr) ?_
  show Rch p.tables e below _ (T2.setTop (mkF m 11 #[.val (.ref a), .val (.double x), .second, .val (.double y), .second, .val (.double z), .second] [(.double y), (.ref a)]))
  have f4 : Fld Z h2 a "com/example/saanich/saanich/geometry/Vector" "y" "D" (.double (0 : UInt64)) := (P3.other W2 (Or.inr (slot_ne (Or.inr (own_w hw 21 rfl)) (Or.inr (own_w hw 19 rfl)) (by decide) (t := .double) (t' := .double) (by decide) (by decide))))
  have f5 : Exa Z h2 a "com/example/saanich/saanich/geometry/Vector" := (P1.wr W2)
  obtain ⟨T6, h6, X6, e6, W6, st6⟩ := putF X2 hx hZ hown (host := "") (Or.inl (own_w hw 20 rfl)) Via.refl e2 f4 f5 (Or.inr ⟨(own_w hw 21 rfl), rfl, hnm⟩) (own_w hw 5 rfl) (ty := .double) (by decide) rfl rfl (g := (mkF m 11 #[.val (.ref a), .val (.double x), .second, .val (.double y), .second, .val (.double z), .second] [(.double y), (.ref a)])) rfl rfl (hb hby d2_11)
  refine Rch.st st6 ?_
  have N6 := Fr.snoc X6 N2 P5
  have f7 : Old Z n0 h2 := (P0.wr W2 P5)
  have K8 : Keep h0 h6 [a] := K3.wr W6 (Or.inl (List.mem_of_getElem? (i := 0) rfl))
  have Fw6 := f4.same W6
  show Rch p.tables e below _ (T6.setTop (mkF m 14 #[.val (.ref a), .val (.double x), .second, .val (.double y), .second, .val (.double z), .second] []))
  refine Rch.st (fun _ hr => XS.aloadN X6.here hx rfl (hb hby d2_14) rfl rfl hr) ?_
  show Rch p.tables e below _ (T6.setTop (mkF m 15 #[.val (.ref a), .val (.double x), .second, .val (.double y), .second, .val (.double z), .second] [(.ref a)]))
  refine Rch.st (fun _ hr => XS.dload X6.here hx rfl (hb hby d2_15) rfl hr) ?_
  show Rch p.tables e below _ (T6.setTop (mkF m 17 #[.val (.ref a), .val (.double x), .second, .val (.double y), .second, .val (.double z), .second] [(.double z), (.ref a)]))
  have f9 : Fld Z h6 a "com/example/saanich/saanich/geometry/Vector" "z" "D" (.double (0 : UInt64)) := ((P4.other W2 (Or.inr (slot_ne (Or.inr (own_w hw 23 rfl)) (Or.inr (own_w hw 19 rfl)) (by decide) (t := .double) (t' := .double) (by decide) (by decide)))).other W6 (Or.inr (slot_ne (Or.inr (own_w hw 23 rfl)) (Or.inr (own_w hw 21 rfl)) (by decide) (t := .double) (t' := .double) (by decide) (by decide))))
  have f10 : Exa Z h6 a "com/example/saanich/saanich/geometry/Vector" := (f5.wr W6)
  obtain ⟨T11, h11, X11, e11, W11, st11⟩ := putF X6 hx hZ hown (host := "") (Or.inl (own_w hw 22 rfl)) Via.refl e6 f9 f10 (Or.inr ⟨(own_w hw 23 rfl), rfl, hnm⟩) (own_w hw 5 rfl) (ty := .double) (by decide) rfl rfl (g := (mkF m 17 #[.val (.ref a), .val (.double x), .second, .val (.double y), .second, .val (.double z), .second] [(.double z), (.ref a)])) rfl rfl (hb hby d2_17)
  refine Rch.st st11 ?_
  have N11 := Fr.snoc X11 N6 P5
  have f12 : Old Z n0 h6 := (f7.wr W6 P5)
  have K13 : Keep h0 h11 [a] := K8.wr W11 (Or.inl (List.mem_of_getElem? (i := 0) rfl))
  have Fw11 := f9.same W11
  show Rch p.tables e below _ (T11.setTop (mkF m 20 #[.val (.ref a), .val (.double x), .second, .val (.double y), .second, .val (.double z), .second] []))
  obtain ⟨fs, hr, hrun, hended, hW, hsame⟩ := X11.leave (v := none) (fun _ => rfl)
  have f14 : Old Z n0 h11 := (f12.wr W11 P5)
  have f15 : Exa Z h11 a "com/example/saanich/saanich/geometry/Vector" := (f10.wr W11)
  have f16 : Fld Z h11 a "com/example/saanich/saanich/geometry/Vector" "x" "D" (.double x) := ((Fw2.other W6 (Or.inr (slot_ne (Or.inr (own_w hw 19 rfl)) (Or.inr (own_w hw 21 rfl)) (by decide) (t := .double) (t' := .double) (by decide) (by decide)))).other W11 (Or.inr (slot_ne (Or.inr (own_w hw 19 rfl)) (Or.inr (own_w hw 23 rfl)) (by decide) (t := .double) (t' := .double) (by decide) (by decide))))
  have f17 : Fld Z h11 a "com/example/saanich/saanich/geometry/Vector" "y" "D" (.double y) := (Fw6.other W11 (Or.inr (slot_ne (Or.inr (own_w hw 21 rfl)) (Or.inr (own_w hw 23 rfl)) (by decide) (t := .double) (t' := .double) (by decide) (by decide))))
  refine Rch.fin (u := T11.setFrames fs) (X11.returnOut hx Bd.returns (hb hby d2_20) hr) ⟨_, hrun, hended, _, _, rfl, ?_, ⟨_, rfl⟩, hW, hsame.mono (by decide) (by decide)⟩
  show Q_cinit Z a x y z h0 n0 _ T11.heap _
  rw [e11]
  exact ⟨rfl, N11, K13, f14, f15, f16, f17, Fw11⟩
theorem d5_0 : decode prog_35_method_3_code 0 = .ok (.aload_n 0, 1) := by decide +kernel
theorem d5_1 : decode prog_35_method_3_code 1 = .ok (.getfield 7, 3) := by decide +kernel
theorem d5_4 : decode prog_35_method_3_code 4 = .ok (.aload_n 1, 1) := by decide +kernel
theorem d5_5 : decode prog_35_method_3_code 5 = .ok (.getfield 7, 3) := by decide +kernel
theorem d5_8 : decode prog_35_method_3_code 8 = .ok (.dmul, 1) := by decide +kernel
theorem d5_9 : decode prog_35_method_3_code 9 = .ok (.aload_n 0, 1) := by decide +kernel
theorem d5_10 : decode prog_35_method_3_code 10 = .ok (.getfield 13, 3) := by decide +kernel
theorem d5_13 : decode prog_35_method_3_code 13 = .ok (.aload_n 1, 1) := by decide +kernel
theorem d5_14 : decode prog_35_method_3_code 14 = .ok (.getfield 13, 3) := by decide +kernel
theorem d5_17 : decode prog_35_method_3_code 17 = .ok (.dmul, 1) := by decide +kernel
theorem d5_18 : decode prog_35_method_3_code 18 = .ok (.dadd, 1) := by decide +kernel
theorem d5_19 : decode prog_35_method_3_code 19 = .ok (.aload_n 0, 1) := by decide +kernel
theorem d5_20 : decode prog_35_method_3_code 20 = .ok (.getfield 16, 3) := by decide +kernel
theorem d5_23 : decode prog_35_method_3_code 23 = .ok (.aload_n 1, 1) := by decide +kernel
theorem d5_24 : decode prog_35_method_3_code 24 = .ok (.getfield 16, 3) := by decide +kernel
theorem d5_27 : decode prog_35_method_3_code 27 = .ok (.dmul, 1) := by decide +kernel
theorem d5_28 : decode prog_35_method_3_code 28 = .ok (.dadd, 1) := by decide +kernel
theorem d5_29 : decode prog_35_method_3_code 29 = .ok (.dreturn, 1) := by decide +kernel
def Q_cdot (Z : State) (a : Addr) (b : Addr) (x1 : UInt64) (y1 : UInt64) (z1 : UInt64) (x2 : UInt64) (y2 : UInt64) (z2 : UInt64) (h0 : Heap) (n0 : Nat) (v : Option Value) (h : Heap) (L : List Loc) : Prop := v = some (.double (FP.dadd (FP.dadd (FP.dmul x1 x2) (FP.dmul y1 y2)) (FP.dmul z1 z2))) ∧ Fr n0 L ∧ h = h0
theorem ef_cdot (m : MethodId) (a : Addr) (b : Addr) (x1 : UInt64) (y1 : UInt64) (z1 : UInt64) (x2 : UInt64) (y2 : UInt64) (z2 : UInt64) : entryFrame m #[(.ref a), (.ref b)] 2 = mkF m 0 #[.val (.ref a), .val (.ref b)] [] := by first | (simp [entryFrame, mkF, argsToLocals, Value.category]; done) | rfl
set_option maxRecDepth 65536 in
set_option maxHeartbeats 40000000 in
theorem cdot (l : Launch) (Z : State) (a0 : Array Value) (hw : ∀ d ∈ tables_1, d.before a0 Z = true) (ws : List Jvm.Cond) (a : Addr) (b : Addr) (x1 : UInt64) (y1 : UInt64) (z1 : UInt64) (x2 : UInt64) (y2 : UInt64) (z2 : UInt64) (h0 : Heap) (n0 : Nat) (P0 : Fld Z h0 a "com/example/saanich/saanich/geometry/Vector" "x" "D" (.double x1)) (P1 : Fld Z h0 a "com/example/saanich/saanich/geometry/Vector" "y" "D" (.double y1)) (P2 : Fld Z h0 a "com/example/saanich/saanich/geometry/Vector" "z" "D" (.double z1)) (P3 : Fld Z h0 b "com/example/saanich/saanich/geometry/Vector" "x" "D" (.double x2)) (P4 : Fld Z h0 b "com/example/saanich/saanich/geometry/Vector" "y" "D" (.double y2)) (P5 : Fld Z h0 b "com/example/saanich/saanich/geometry/Vector" "z" "D" (.double z2)) (hn0 : Jvm.Free.Fl.NoNaN64 (FP.dmul x1 x2)) (hn1 : Jvm.Free.Fl.NoNaN64 (FP.dmul y1 y2)) (hn2 : Jvm.Free.Fl.NoNaN64 (FP.dadd (FP.dmul x1 x2) (FP.dmul y1 y2))) (hn3 : Jvm.Free.Fl.NoNaN64 (FP.dmul z1 z2)) (hn4 : Jvm.Free.Fl.NoNaN64 (FP.dadd (FP.dadd (FP.dmul x1 x2) (FP.dmul y1 y2)) (FP.dmul z1 z2))) :
    MetFree l (⟨"com/example/saanich/saanich/geometry/Vector", "dot", "(Lcom/example/saanich/saanich/geometry/Vector;)D"⟩ : MethodName) (head1 (Jvm.Cond.code (⟨"com/example/saanich/saanich/geometry/Vector", "dot", "(Lcom/example/saanich/saanich/geometry/Vector;)D"⟩ : MethodName) prog_35_method_3_code 2 (some .double) :: ws) ({ frames := 0, cells := 0, slots := 0, locals := 0 } : Room)) (fun aA uU => aA = #[(.ref a), (.ref b)] ∧ Z.Warmed39 uU.vm ∧ uU.heap = h0) (fun _ _ _ _ _ => True) (fun _ uU oO uU' => ∃ vV lL, oO = .returned vV ∧ Q_cdot Z a b x1 y1 z1 x2 y2 z2 h0 n0 vV uU'.heap lL ∧ FrameEnd uU oO uU' lL ({ frames := 0, cells := 0, slots := 0, locals := 0 } : Room).cells ({ frames := 0, cells := 0, slots := 0, locals := 0 } : Room).slots) := by
  refine MetFree.of_bodySF (plainFor_of_name pn_com_example_saanich_saanich_geometry_Vector) hisR ?_
  intro p e s m args below meth c s₁ Bd hml0 hP hK
  obtain ⟨rfl, hZ, hh⟩ := hP
  have hx := Bd.exec
  have hby := Bd.bytes
  have hml : c.maxLocals = 2 := hml0
  have hown : s.vm.findClass "com/example/saanich/saanich/geometry/Vector" = some m.cls := findClass_of_methodNamed Bd.named
  have hnm := (name_of_methodNamed Bd.named Bd.method).1
  have X0 : Stand p l e ({ frames := 0, cells := 0, slots := 0, locals := 0 } : Room) s m #[(.ref a), (.ref b)] below meth c s₁ [] 0 0 := Stand.of_body Bd
  have e0 : s₁.heap = h0 := by rw [← hh, Bd.state]; rfl
  have N0 := Fr.nil n0
  refine Rch.out (Rch.st (fun t k => castTop (ef_cdot m a b x1 y1 z1 x2 y2 z2) k) ?_)
  show Rch p.tables e below _ (s₁.setTop (mkF m 0 #[.val (.ref a), .val (.ref b)] []))
  refine Rch.st (fun _ hr => XS.aloadN X0.here hx rfl (hb hby d5_0) rfl rfl hr) ?_
  show Rch p.tables e below _ (s₁.setTop (mkF m 1 #[.val (.ref a), .val (.ref b)] [(.ref a)]))
  obtain ⟨T1, X1, e1, st1⟩ := getF X0 hx hZ hown (host := "") (Or.inl (own_w hw 18 rfl)) Via.refl e0 P0 (g := (mkF m 1 #[.val (.ref a), .val (.ref b)] [(.ref a)])) rfl rfl (hb hby d5_1)
  refine Rch.st st1 ?_
  show Rch p.tables e below _ (T1.setTop (mkF m 4 #[.val (.ref a), .val (.ref b)] [(.double x1)]))
  refine Rch.st (fun _ hr => XS.aloadN X1.here hx rfl (hb hby d5_4) rfl rfl hr) ?_
  show Rch p.tables e below _ (T1.setTop (mkF m 5 #[.val (.ref a), .val (.ref b)] [(.ref b), (.double x1)]))
  obtain ⟨T2, X2, e2, st2⟩ := getF X1 hx hZ hown (host := "") (Or.inl (own_w hw 18 rfl)) Via.refl e1 P3 (g := (mkF m 5 #[.val (.ref a), .val (.ref b)] [(.ref b), (.double x1)])) rfl rfl (hb hby d5_5)
  refine Rch.st st2 ?_
  show Rch p.tables e below _ (T2.setTop (mkF m 8 #[.val (.ref a), .val (.ref b)] [(.double x2), (.double x1)]))
  refine Rch.st (fun _ hr => XS.dmulS X2.here hx rfl (hb hby d5_8) rfl hn0 rfl hr) ?_
  show Rch p.tables e below _ (T2.setTop (mkF m 9 #[.val (.ref a), .val (.ref b)] [(.double (FP.dmul x1 x2))]))
  refine Rch.st (fun _ hr => XS.aloadN X2.here hx rfl (hb hby d5_9) rfl rfl hr) ?_
  show Rch p.tables e below _ (T2.setTop (mkF m 10 #[.val (.ref a), .val (.ref b)] [(.ref a), (.double (FP.dmul x1 x2))]))
  obtain ⟨T3, X3, e3, st3⟩ := getF X2 hx hZ hown (host := "") (Or.inl (own_w hw 20 rfl)) Via.refl e2 P1 (g := (mkF m 10 #[.val (.ref a), .val (.ref b)] [(.ref a), (.double (FP.dmul x1 x2))])) rfl rfl (hb hby d5_10)
  refine Rch.st st3 ?_
  show Rch p.tables e below _ (T3.setTop (mkF m 13 #[.val (.ref a), .val (.ref b)] [(.double y1), (.double (FP.dmul x1 x2))]))
  refine Rch.st (fun _ hr => XS.aloadN X3.here hx rfl (hb hby d5_13) rfl rfl hr) ?_
  show Rch p.tables e below _ (T3.setTop (mkF m 14 #[.val (.ref a), .val (.ref b)] [(.ref b), (.double y1), (.double (FP.dmul x1 x2))]))
  obtain ⟨T4, X4, e4, st4⟩ := getF X3 hx hZ hown (host := "") (Or.inl (own_w hw 20 rfl)) Via.refl e3 P4 (g := (mkF m 14 #[.val (.ref a), .val (.ref b)] [(.ref b), (.double y1), (.double (FP.dmul x1 x2))])) rfl rfl (hb hby d5_14)
  refine Rch.st st4 ?_
  show Rch p.tables e below _ (T4.setTop (mkF m 17 #[.val (.ref a), .val (.ref b)] [(.double y2), (.double y1), (.double (FP.dmul x1 x2))]))
  refine Rch.st (fun _ hr => XS.dmulS X4.here hx rfl (hb hby d5_17) rfl hn1 rfl hr) ?_
  show Rch p.tables e below _ (T4.setTop (mkF m 18 #[.val (.ref a), .val (.ref b)] [(.double (FP.dmul y1 y2)), (.double (FP.dmul x1 x2))]))
  refine Rch.st (fun _ hr => XS.daddS X4.here hx rfl (hb hby d5_18) rfl hn2 rfl hr) ?_
  show Rch p.tables e below _ (T4.setTop (mkF m 19 #[.val (.ref a), .val (.ref b)] [(.double (FP.dadd (FP.dmul x1 x2) (FP.dmul y1 y2)))]))
  refine Rch.st (fun _ hr => XS.aloadN X4.here hx rfl (hb hby d5_19) rfl rfl hr) ?_
  show Rch p.tables e below _ (T4.setTop (mkF m 20 #[.val (.ref a), .val (.ref b)] [(.ref a), (.double (FP.dadd (FP.dmul x1 x2) (FP.dmul y1 y2)))]))
  obtain ⟨T5, X5, e5, st5⟩ := getF X4 hx hZ hown (host := "") (Or.inl (own_w hw 22 rfl)) Via.refl e4 P2 (g := (mkF m 20 #[.val (.ref a), .val (.ref b)] [(.ref a), (.double (FP.dadd (FP.dmul x1 x2) (FP.dmul y1 y2)))])) rfl rfl (hb hby d5_20)
  refine Rch.st st5 ?_
  show Rch p.tables e below _ (T5.setTop (mkF m 23 #[.val (.ref a), .val (.ref b)] [(.double z1), (.double (FP.dadd (FP.dmul x1 x2) (FP.dmul y1 y2)))]))
  refine Rch.st (fun _ hr => XS.aloadN X5.here hx rfl (hb hby d5_23) rfl rfl hr) ?_
  show Rch p.tables e below _ (T5.setTop (mkF m 24 #[.val (.ref a), .val (.ref b)] [(.ref b), (.double z1), (.double (FP.dadd (FP.dmul x1 x2) (FP.dmul y1 y2)))]))
  obtain ⟨T6, X6, e6, st6⟩ := getF X5 hx hZ hown (host := "") (Or.inl (own_w hw 22 rfl)) Via.refl e5 P5 (g := (mkF m 24 #[.val (.ref a), .val (.ref b)] [(.ref b), (.double z1), (.double (FP.dadd (FP.dmul x1 x2) (FP.dmul y1 y2)))])) rfl rfl (hb hby d5_24)
  refine Rch.st st6 ?_
  show Rch p.tables e below _ (T6.setTop (mkF m 27 #[.val (.ref a), .val (.ref b)] [(.double z2), (.double z1), (.double (FP.dadd (FP.dmul x1 x2) (FP.dmul y1 y2)))]))
  refine Rch.st (fun _ hr => XS.dmulS X6.here hx rfl (hb hby d5_27) rfl hn3 rfl hr) ?_
  show Rch p.tables e below _ (T6.setTop (mkF m 28 #[.val (.ref a), .val (.ref b)] [(.double (FP.dmul z1 z2)), (.double (FP.dadd (FP.dmul x1 x2) (FP.dmul y1 y2)))]))
  refine Rch.st (fun _ hr => XS.daddS X6.here hx rfl (hb hby d5_28) rfl hn4 rfl hr) ?_
  show Rch p.tables e below _ (T6.setTop (mkF m 29 #[.val (.ref a), .val (.ref b)] [(.double (FP.dadd (FP.dadd (FP.dmul x1 x2) (FP.dmul y1 y2)) (FP.dmul z1 z2)))]))
  obtain ⟨fs, hr, hrun, hended, hW, hsame⟩ := X6.leave (v := some (.double (FP.dadd (FP.dadd (FP.dmul x1 x2) (FP.dmul y1 y2)) (FP.dmul z1 z2)))) (fun h => by rw [Bd.returns] at h; cases h)
  refine Rch.fin (u := T6.setFrames fs) (own_retD X6 hx Bd.returns (hb hby d5_29) hr) ⟨_, hrun, hended, _, _, rfl, ?_, ⟨_, rfl⟩, hW, hsame.mono (by decide) (by decide)⟩
  show Q_cdot Z a b x1 y1 z1 x2 y2 z2 h0 n0 _ T6.heap _
  exact ⟨rfl, N0, e6⟩
theorem pd_1 : parseMethodDescriptor "(I)I" = some ⟨[.int], some .int⟩ := by decide +kernel
theorem pd_2 : parseMethodDescriptor "(DDD)V" = some ⟨[.double, .double, .double], none⟩ := by decide +kernel
theorem pd_3 : parseMethodDescriptor "(Lcom/example/saanich/saanich/geometry/Vector;)D" = some ⟨[(.object "com/example/saanich/saanich/geometry/Vector")], some .double⟩ := by decide +kernel
def Q_claw (Z : State) (p0 : Int32) (p1 : Int32) (p2 : Int32) (p3 : Int32) (p4 : Int32) (p5 : Int32) (h0 : Heap) (n0 : Nat) (v : Option Value) (h : Heap) (L : List Loc) : Prop := v = some (.int (1 : Int32)) ∧ Fr n0 L ∧ Keep h0 h [] ∧ Old Z n0 h
theorem ef_claw (m : MethodId) (p0 : Int32) (p1 : Int32) (p2 : Int32) (p3 : Int32) (p4 : Int32) (p5 : Int32) : entryFrame m #[(.int p0), (.int p1), (.int p2), (.int p3), (.int p4), (.int p5)] maxLocals = mkF m 0 #[.val (.int p0), .val (.int p1), .val (.int p2), .val (.int p3), .val (.int p4), .val (.int p5), .unset, .unset, .unset, .unset, .unset, .unset, .unset, .unset, .unset, .unset, .unset, .unset] [] := by first | (simp [entryFrame, mkF, argsToLocals, Value.category, maxLocals]; done) | rfl
set_option maxRecDepth 65536 in
set_option maxHeartbeats 40000000 in
theorem claw (l : Launch) (Z : State) (a0 : Array Value) (hw : ∀ d ∈ tables_1, d.before a0 Z = true) (ws : List Jvm.Cond) (p0 : Int32) (p1 : Int32) (p2 : Int32) (p3 : Int32) (p4 : Int32) (p5 : Int32) (h0 : Heap) (n0 : Nat) (P0 : Old Z n0 h0) (hu0 : Jvm.Free.Fl.NoNaN64 (FP.dmul (FP.i2d (own_small p0)) (FP.i2d (own_small p3)))) (hu1 : Jvm.Free.Fl.NoNaN64 (FP.dmul (FP.i2d (own_small p1)) (FP.i2d (own_small p4)))) (hu2 : Jvm.Free.Fl.NoNaN64 (FP.dadd (FP.dmul (FP.i2d (own_small p0)) (FP.i2d (own_small p3))) (FP.dmul (FP.i2d (own_small p1)) (FP.i2d (own_small p4))))) (hu3 : Jvm.Free.Fl.NoNaN64 (FP.dmul (FP.i2d (own_small p2)) (FP.i2d (own_small p5)))) (hu4 : Jvm.Free.Fl.NoNaN64 (FP.dadd (FP.dadd (FP.dmul (FP.i2d (own_small p0)) (FP.i2d (own_small p3))) (FP.dmul (FP.i2d (own_small p1)) (FP.i2d (own_small p4)))) (FP.dmul (FP.i2d (own_small p2)) (FP.i2d (own_small p5))))) (hv0 : Jvm.Free.Fl.NoNaN64 (FP.dmul (FP.i2d (own_small p3)) (FP.i2d (own_small p0)))) (hv1 : Jvm.Free.Fl.NoNaN64 (FP.dmul (FP.i2d (own_small p4)) (FP.i2d (own_small p1)))) (hv2 : Jvm.Free.Fl.NoNaN64 (FP.dadd (FP.dmul (FP.i2d (own_small p3)) (FP.i2d (own_small p0))) (FP.dmul (FP.i2d (own_small p4)) (FP.i2d (own_small p1))))) (hv3 : Jvm.Free.Fl.NoNaN64 (FP.dmul (FP.i2d (own_small p5)) (FP.i2d (own_small p2)))) (hv4 : Jvm.Free.Fl.NoNaN64 (FP.dadd (FP.dadd (FP.dmul (FP.i2d (own_small p3)) (FP.i2d (own_small p0))) (FP.dmul (FP.i2d (own_small p4)) (FP.i2d (own_small p1)))) (FP.dmul (FP.i2d (own_small p5)) (FP.i2d (own_small p2))))) (hcu : cmpValue (FP.dcmp (FP.dadd (FP.dadd (FP.dmul (FP.i2d (own_small p0)) (FP.i2d (own_small p3))) (FP.dmul (FP.i2d (own_small p1)) (FP.i2d (own_small p4)))) (FP.dmul (FP.i2d (own_small p2)) (FP.i2d (own_small p5)))) (FP.l2d (((((own_small p0).toInt64) * ((own_small p3).toInt64)) + (((own_small p1).toInt64) * ((own_small p4).toInt64))) + (((own_small p2).toInt64) * ((own_small p5).toInt64))))) .l = (0 : Int32)) (hcv : cmpValue (FP.dcmp (FP.dadd (FP.dadd (FP.dmul (FP.i2d (own_small p3)) (FP.i2d (own_small p0))) (FP.dmul (FP.i2d (own_small p4)) (FP.i2d (own_small p1)))) (FP.dmul (FP.i2d (own_small p5)) (FP.i2d (own_small p2)))) (FP.l2d (((((own_small p0).toInt64) * ((own_small p3).toInt64)) + (((own_small p1).toInt64) * ((own_small p4).toInt64))) + (((own_small p2).toInt64) * ((own_small p5).toInt64))))) .l = (0 : Int32)) :
    MetFree l x (head1 (Jvm.Cond.code x code maxLocals ret :: ws) room_1) (fun aA uU => aA = #[(.int p0), (.int p1), (.int p2), (.int p3), (.int p4), (.int p5)] ∧ Z.Warmed39 uU.vm ∧ uU.heap = h0) (fun _ _ _ _ _ => True) (fun _ uU oO uU' => ∃ vV lL, oO = .returned vV ∧ Q_claw Z p0 p1 p2 p3 p4 p5 h0 n0 vV uU'.heap lL ∧ FrameEnd uU oO uU' lL room_1.cells room_1.slots) := by
  refine MetFree.of_bodySF (plainFor_of_name pn_com_example_saanich_saanich_geometry_VectorDotPinLaw) hisR ?_
  intro p e s m args below meth c s₁ Bd hml0 hP hK
  obtain ⟨rfl, hZ, hh⟩ := hP
  have hx := Bd.exec
  have hby := Bd.bytes
  have hml : c.maxLocals = 18 := hml0
  have hown : s.vm.findClass "com/example/saanich/saanich/geometry/VectorDotPinLaw" = some m.cls := findClass_of_methodNamed Bd.named
  have hnm := (name_of_methodNamed Bd.named Bd.method).1
  have X0 : Stand p l e room_1 s m #[(.int p0), (.int p1), (.int p2), (.int p3), (.int p4), (.int p5)] below meth c s₁ [] 0 0 := Stand.of_body Bd
  have e0 : s₁.heap = h0 := by rw [← hh, Bd.state]; rfl
  have N0 := Fr.nil n0
  refine Rch.out (Rch.st (fun t k => castTop (ef_claw m p0 p1 p2 p3 p4 p5) k) ?_)
  show Rch p.tables e below _ (s₁.setTop (mkF m 0 #[.val (.int p0), .val (.int p1), .val (.int p2), .val (.int p3), .val (.int p4), .val (.int p5), .unset, .unset, .unset, .unset, .unset, .unset, .unset, .unset, .unset, .unset, .unset, .unset] []))
  refine Rch.st (fun _ hr => XS.iloadN X0.here hx rfl (hb hby at_0) rfl hr) ?_
  show Rch p.tables e below _ (s₁.setTop (mkF m 1 #[.val (.int p0), .val (.int p1), .val (.int p2), .val (.int p3), .val (.int p4), .val (.int p5), .unset, .unset, .unset, .unset, .unset, .unset, .unset, .unset, .unset, .unset, .unset, .unset] [(.int p0)]))
  obtain ⟨_, _, ⟨T1, L1, k1, n1⟩, -, X1, ⟨Lc1, hQ1, l1, y1, z1⟩, st1⟩ := Jvm.LawKit.callS X0 hx (y := (⟨"com/example/saanich/saanich/geometry/VectorDotPinLaw", "small", "(I)I"⟩ : MethodName)) hown (mvT hZ (own_w hw 0 rfl)) (mvT hZ (own_w hw 1 rfl)) (mvT hZ (own_w hw 2 rfl)) (mvT hZ (own_w hw 3 rfl)) (by decide) (backOf (W := 0) (csmall l Z a0 hw [] p0 h0 n0 ) hZ (own_w hw 3 rfl) (own_w hw 2 rfl) (by decide) (by decide)) (g := (mkF m 1 #[.val (.int p0), .val (.int p1), .val (.int p2), .val (.int p3), .val (.int p4), .val (.int p5), .unset, .unset, .unset, .unset, .unset, .unset, .unset, .unset, .unset, .unset, .unset, .unset] [(.int p0)])) rfl (by rw [hml]; rfl) (argsL := [(.int p0)]) (rest := []) (lenOf pd_1 rfl) rfl (by show 2 * 0 + _ ≤ _; exact Nat.le_of_eq rfl) (hb hby at_1) (fun _ _ => ⟨rfl, e0, (by decide : 0 + 0 ≤ _), (by decide : 0 + 0 ≤ _)⟩)
  dsimp only [Pt.U, Pt.locs, Pt.cells, Pt.slots] at X1 l1 y1 z1 st1 hQ1
  subst l1 y1 z1
  obtain ⟨rfl, N1q, e1⟩ := hQ1
  have N1 := Fr.app N0 N1q
  refine Rch.st st1 ?_
  show Rch p.tables e below _ (T1.setTop (mkF m 4 #[.val (.int p0), .val (.int p1), .val (.int p2), .val (.int p3), .val (.int p4), .val (.int p5), .unset, .unset, .unset, .unset, .unset, .unset, .unset, .unset, .unset, .unset, .unset, .unset] [(.int (own_small p0))]))
  refine Rch.st (fun _ hr => XS.istore X1.here hx rfl (hb hby at_4) rfl (l' := #[.val (.int p0), .val (.int p1), .val (.int p2), .val (.int p3), .val (.int p4), .val (.int p5), .val (.int (own_small p0)), .unset, .unset, .unset, .unset, .unset, .unset, .unset, .unset, .unset, .unset, .unset]) rfl hr) ?_
  show Rch p.tables e below _ (T1.setTop (mkF m 6 #[.val (.int p0), .val (.int p1), .val (.int p2), .val (.int p3), .val (.int p4), .val (.int p5), .val (.int (own_small p0)), .unset, .unset, .unset, .unset, .unset, .unset, .unset, .unset, .unset, .unset, .unset] []))
  refine Rch.st (fun _ hr => XS.iloadN X1.here hx rfl (hb hby at_6) rfl hr) ?_
  show Rch p.tables e below _ (T1.setTop (mkF m 7 #[.val (.int p0), .val (.int p1), .val (.int p2), .val (.int p3), .val (.int p4), .val (.int p5), .val (.int (own_small p0)), .unset, .unset, .unset, .unset, .unset, .unset, .unset, .unset, .unset, .unset, .unset] [(.int p1)]))
  obtain ⟨_, _, ⟨T2, L2, k2, n2⟩, -, X2, ⟨Lc2, hQ2, l2, y2, z2⟩, st2⟩ := Jvm.LawKit.callS X1 hx (y := (⟨"com/example/saanich/saanich/geometry/VectorDotPinLaw", "small", "(I)I"⟩ : MethodName)) hown (mvT hZ (own_w hw 0 rfl)) (mvT hZ (own_w hw 1 rfl)) (mvT hZ (own_w hw 2 rfl)) (mvT hZ (own_w hw 3 rfl)) (by decide) (backOf (W := 0) (csmall l Z a0 hw [] p1 h0 n0 ) hZ (own_w hw 3 rfl) (own_w hw 2 rfl) (by decide) (by decide)) (g := (mkF m 7 #[.val (.int p0), .val (.int p1), .val (.int p2), .val (.int p3), .val (.int p4), .val (.int p5), .val (.int (own_small p0)), .unset, .unset, .unset, .unset, .unset, .unset, .unset, .unset, .unset, .unset, .unset] [(.int p1)])) rfl (by rw [hml]; rfl) (argsL := [(.int p1)]) (rest := []) (lenOf pd_1 rfl) rfl (by show 2 * 0 + _ ≤ _; exact Nat.le_of_eq rfl) (hb hby at_7) (fun _ _ => ⟨rfl, e1, (by decide : 0 + 0 ≤ _), (by decide : 0 + 0 ≤ _)⟩)
  dsimp only [Pt.U, Pt.locs, Pt.cells, Pt.slots] at X2 l2 y2 z2 st2 hQ2
  subst l2 y2 z2
  obtain ⟨rfl, N2q, e2⟩ := hQ2
  have N2 := Fr.app N1 N2q
  refine Rch.st st2 ?_
  show Rch p.tables e below _ (T2.setTop (mkF m 10 #[.val (.int p0), .val (.int p1), .val (.int p2), .val (.int p3), .val (.int p4), .val (.int p5), .val (.int (own_small p0)), .unset, .unset, .unset, .unset, .unset, .unset, .unset, .unset, .unset, .unset, .unset] [(.int (own_small p1))]))
  refine Rch.st (fun _ hr => XS.istore X2.here hx rfl (hb hby at_10) rfl (l' := #[.val (.int p0), .val (.int p1), .val (.int p2), .val (.int p3), .val (.int p4), .val (.int p5), .val (.int (own_small p0)), .val (.int (own_small p1)), .unset, .unset, .unset, .unset, .unset, .unset, .unset, .unset, .unset, .unset]) rfl hr) ?_
  show Rch p.tables e below _ (T2.setTop (mkF m 12 #[.val (.int p0), .val (.int p1), .val (.int p2), .val (.int p3), .val (.int p4), .val (.int p5), .val (.int (own_small p0)), .val (.int (own_small p1)), .unset, .unset, .unset, .unset, .unset, .unset, .unset, .unset, .unset, .unset] []))
  refine Rch.st (fun _ hr => XS.iloadN X2.here hx rfl (hb hby at_12) rfl hr) ?_
  show Rch p.tables e below _ (T2.setTop (mkF m 13 #[.val (.int p0), .val (.int p1), .val (.int p2), .val (.int p3), .val (.int p4), .val (.int p5), .val (.int (own_small p0)), .val (.int (own_small p1)), .unset, .unset, .unset, .unset, .unset, .unset, .unset, .unset, .unset, .unset] [(.int p2)]))
  obtain ⟨_, _, ⟨T3, L3, k3, n3⟩, -, X3, ⟨Lc3, hQ3, l3, y3, z3⟩, st3⟩ := Jvm.LawKit.callS X2 hx (y := (⟨"com/example/saanich/saanich/geometry/VectorDotPinLaw", "small", "(I)I"⟩ : MethodName)) hown (mvT hZ (own_w hw 0 rfl)) (mvT hZ (own_w hw 1 rfl)) (mvT hZ (own_w hw 2 rfl)) (mvT hZ (own_w hw 3 rfl)) (by decide) (backOf (W := 0) (csmall l Z a0 hw [] p2 h0 n0 ) hZ (own_w hw 3 rfl) (own_w hw 2 rfl) (by decide) (by decide)) (g := (mkF m 13 #[.val (.int p0), .val (.int p1), .val (.int p2), .val (.int p3), .val (.int p4), .val (.int p5), .val (.int (own_small p0)), .val (.int (own_small p1)), .unset, .unset, .unset, .unset, .unset, .unset, .unset, .unset, .unset, .unset] [(.int p2)])) rfl (by rw [hml]; rfl) (argsL := [(.int p2)]) (rest := []) (lenOf pd_1 rfl) rfl (by show 2 * 0 + _ ≤ _; exact Nat.le_of_eq rfl) (hb hby at_13) (fun _ _ => ⟨rfl, e2, (by decide : 0 + 0 ≤ _), (by decide : 0 + 0 ≤ _)⟩)
  dsimp only [Pt.U, Pt.locs, Pt.cells, Pt.slots] at X3 l3 y3 z3 st3 hQ3
  subst l3 y3 z3
  obtain ⟨rfl, N3q, e3⟩ := hQ3
  have N3 := Fr.app N2 N3q
  refine Rch.st st3 ?_
  show Rch p.tables e below _ (T3.setTop (mkF m 16 #[.val (.int p0), .val (.int p1), .val (.int p2), .val (.int p3), .val (.int p4), .val (.int p5), .val (.int (own_small p0)), .val (.int (own_small p1)), .unset, .unset, .unset, .unset, .unset, .unset, .unset, .unset, .unset, .unset] [(.int (own_small p2))]))
  refine Rch.st (fun _ hr => XS.istore X3.here hx rfl (hb hby at_16) rfl (l' := #[.val (.int p0), .val (.int p1), .val (.int p2), .val (.int p3), .val (.int p4), .val (.int p5), .val (.int (own_small p0)), .val (.int (own_small p1)), .val (.int (own_small p2)), .unset, .unset, .unset, .unset, .unset, .unset, .unset, .unset, .unset]) rfl hr) ?_
  show Rch p.tables e below _ (T3.setTop (mkF m 18 #[.val (.int p0), .val (.int p1), .val (.int p2), .val (.int p3), .val (.int p4), .val (.int p5), .val (.int (own_small p0)), .val (.int (own_small p1)), .val (.int (own_small p2)), .unset, .unset, .unset, .unset, .unset, .unset, .unset, .unset, .unset] []))
  refine Rch.st (fun _ hr => XS.iloadN X3.here hx rfl (hb hby at_18) rfl hr) ?_
  show Rch p.tables e below _ (T3.setTop (mkF m 19 #[.val (.int p0), .val (.int p1), .val (.int p2), .val (.int p3), .val (.int p4), .val (.int p5), .val (.int (own_small p0)), .val (.int (own_small p1)), .val (.int (own_small p2)), .unset, .unset, .unset, .unset, .unset, .unset, .unset, .unset, .unset] [(.int p3)]))
  obtain ⟨_, _, ⟨T4, L4, k4, n4⟩, -, X4, ⟨Lc4, hQ4, l4, y4, z4⟩, st4⟩ := Jvm.LawKit.callS X3 hx (y := (⟨"com/example/saanich/saanich/geometry/VectorDotPinLaw", "small", "(I)I"⟩ : MethodName)) hown (mvT hZ (own_w hw 0 rfl)) (mvT hZ (own_w hw 1 rfl)) (mvT hZ (own_w hw 2 rfl)) (mvT hZ (own_w hw 3 rfl)) (by decide) (backOf (W := 0) (csmall l Z a0 hw [] p3 h0 n0 ) hZ (own_w hw 3 rfl) (own_w hw 2 rfl) (by decide) (by decide)) (g := (mkF m 19 #[.val (.int p0), .val (.int p1), .val (.int p2), .val (.int p3), .val (.int p4), .val (.int p5), .val (.int (own_small p0)), .val (.int (own_small p1)), .val (.int (own_small p2)), .unset, .unset, .unset, .unset, .unset, .unset, .unset, .unset, .unset] [(.int p3)])) rfl (by rw [hml]; rfl) (argsL := [(.int p3)]) (rest := []) (lenOf pd_1 rfl) rfl (by show 2 * 0 + _ ≤ _; exact Nat.le_of_eq rfl) (hb hby at_19) (fun _ _ => ⟨rfl, e3, (by decide : 0 + 0 ≤ _), (by decide : 0 + 0 ≤ _)⟩)
  dsimp only [Pt.U, Pt.locs, Pt.cells, Pt.slots] at X4 l4 y4 z4 st4 hQ4
  subst l4 y4 z4
  obtain ⟨rfl, N4q, e4⟩ := hQ4
  have N4 := Fr.app N3 N4q
  refine Rch.st st4 ?_
  show Rch p.tables e below _ (T4.setTop (mkF m 22 #[.val (.int p0), .val (.int p1), .val (.int p2), .val (.int p3), .val (.int p4), .val (.int p5), .val (.int (own_small p0)), .val (.int (own_small p1)), .val (.int (own_small p2)), .unset, .unset, .unset, .unset, .unset, .unset, .unset, .unset, .unset] [(.int (own_small p3))]))
  refine Rch.st (fun _ hr => XS.istore X4.here hx rfl (hb hby at_22) rfl (l' := #[.val (.int p0), .val (.int p1), .val (.int p2), .val (.int p3), .val (.int p4), .val (.int p5), .val (.int (own_small p0)), .val (.int (own_small p1)), .val (.int (own_small p2)), .val (.int (own_small p3)), .unset, .unset, .unset, .unset, .unset, .unset, .unset, .unset]) rfl hr) ?_
  show Rch p.tables e below _ (T4.setTop (mkF m 24 #[.val (.int p0), .val (.int p1), .val (.int p2), .val (.int p3), .val (.int p4), .val (.int p5), .val (.int (own_small p0)), .val (.int (own_small p1)), .val (.int (own_small p2)), .val (.int (own_small p3)), .unset, .unset, .unset, .unset, .unset, .unset, .unset, .unset] []))
  refine Rch.st (fun _ hr => XS.iload X4.here hx rfl (hb hby at_24) rfl hr) ?_
  show Rch p.tables e below _ (T4.setTop (mkF m 26 #[.val (.int p0), .val (.int p1), .val (.int p2), .val (.int p3), .val (.int p4), .val (.int p5), .val (.int (own_small p0)), .val (.int (own_small p1)), .val (.int (own_small p2)), .val (.int (own_small p3)), .unset, .unset, .unset, .unset, .unset, .unset, .unset, .unset] [(.int p4)]))
  obtain ⟨_, _, ⟨T5, L5, k5, n5⟩, -, X5, ⟨Lc5, hQ5, l5, y5, z5⟩, st5⟩ := Jvm.LawKit.callS X4 hx (y := (⟨"com/example/saanich/saanich/geometry/VectorDotPinLaw", "small", "(I)I"⟩ : MethodName)) hown (mvT hZ (own_w hw 0 rfl)) (mvT hZ (own_w hw 1 rfl)) (mvT hZ (own_w hw 2 rfl)) (mvT hZ (own_w hw 3 rfl)) (by decide) (backOf (W := 0) (csmall l Z a0 hw [] p4 h0 n0 ) hZ (own_w hw 3 rfl) (own_w hw 2 rfl) (by decide) (by decide)) (g := (mkF m 26 #[.val (.int p0), .val (.int p1), .val (.int p2), .val (.int p3), .val (.int p4), .val (.int p5), .val (.int (own_small p0)), .val (.int (own_small p1)), .val (.int (own_small p2)), .val (.int (own_small p3)), .unset, .unset, .unset, .unset, .unset, .unset, .unset, .unset] [(.int p4)])) rfl (by rw [hml]; rfl) (argsL := [(.int p4)]) (rest := []) (lenOf pd_1 rfl) rfl (by show 2 * 0 + _ ≤ _; exact Nat.le_of_eq rfl) (hb hby at_26) (fun _ _ => ⟨rfl, e4, (by decide : 0 + 0 ≤ _), (by decide : 0 + 0 ≤ _)⟩)
  dsimp only [Pt.U, Pt.locs, Pt.cells, Pt.slots] at X5 l5 y5 z5 st5 hQ5
  subst l5 y5 z5
  obtain ⟨rfl, N5q, e5⟩ := hQ5
  have N5 := Fr.app N4 N5q
  refine Rch.st st5 ?_
  show Rch p.tables e below _ (T5.setTop (mkF m 29 #[.val (.int p0), .val (.int p1), .val (.int p2), .val (.int p3), .val (.int p4), .val (.int p5), .val (.int (own_small p0)), .val (.int (own_small p1)), .val (.int (own_small p2)), .val (.int (own_small p3)), .unset, .unset, .unset, .unset, .unset, .unset, .unset, .unset] [(.int (own_small p4))]))
  refine Rch.st (fun _ hr => XS.istore X5.here hx rfl (hb hby at_29) rfl (l' := #[.val (.int p0), .val (.int p1), .val (.int p2), .val (.int p3), .val (.int p4), .val (.int p5), .val (.int (own_small p0)), .val (.int (own_small p1)), .val (.int (own_small p2)), .val (.int (own_small p3)), .val (.int (own_small p4)), .unset, .unset, .unset, .unset, .unset, .unset, .unset]) rfl hr) ?_
  show Rch p.tables e below _ (T5.setTop (mkF m 31 #[.val (.int p0), .val (.int p1), .val (.int p2), .val (.int p3), .val (.int p4), .val (.int p5), .val (.int (own_small p0)), .val (.int (own_small p1)), .val (.int (own_small p2)), .val (.int (own_small p3)), .val (.int (own_small p4)), .unset, .unset, .unset, .unset, .unset, .unset, .unset] []))
  refine Rch.st (fun _ hr => XS.iload X5.here hx rfl (hb hby at_31) rfl hr) ?_
  show Rch p.tables e below _ (T5.setTop (mkF m 33 #[.val (.int p0), .val (.int p1), .val (.int p2), .val (.int p3), .val (.int p4), .val (.int p5), .val (.int (own_small p0)), .val (.int (own_small p1)), .val (.int (own_small p2)), .val (.int (own_small p3)), .val (.int (own_small p4)), .unset, .unset, .unset, .unset, .unset, .unset, .unset] [(.int p5)]))
  obtain ⟨_, _, ⟨T6, L6, k6, n6⟩, -, X6, ⟨Lc6, hQ6, l6, y6, z6⟩, st6⟩ := Jvm.LawKit.callS X5 hx (y := (⟨"com/example/saanich/saanich/geometry/VectorDotPinLaw", "small", "(I)I"⟩ : MethodName)) hown (mvT hZ (own_w hw 0 rfl)) (mvT hZ (own_w hw 1 rfl)) (mvT hZ (own_w hw 2 rfl)) (mvT hZ (own_w hw 3 rfl)) (by decide) (backOf (W := 0) (csmall l Z a0 hw [] p5 h0 n0 ) hZ (own_w hw 3 rfl) (own_w hw 2 rfl) (by decide) (by decide)) (g := (mkF m 33 #[.val (.int p0), .val (.int p1), .val (.int p2), .val (.int p3), .val (.int p4), .val (.int p5), .val (.int (own_small p0)), .val (.int (own_small p1)), .val (.int (own_small p2)), .val (.int (own_small p3)), .val (.int (own_small p4)), .unset, .unset, .unset, .unset, .unset, .unset, .unset] [(.int p5)])) rfl (by rw [hml]; rfl) (argsL := [(.int p5)]) (rest := []) (lenOf pd_1 rfl) rfl (by show 2 * 0 + _ ≤ _; exact Nat.le_of_eq rfl) (hb hby at_33) (fun _ _ => ⟨rfl, e5, (by decide : 0 + 0 ≤ _), (by decide : 0 + 0 ≤ _)⟩)
  dsimp only [Pt.U, Pt.locs, Pt.cells, Pt.slots] at X6 l6 y6 z6 st6 hQ6
  subst l6 y6 z6
  obtain ⟨rfl, N6q, e6⟩ := hQ6
  have N6 := Fr.app N5 N6q
  refine Rch.st st6 ?_
  show Rch p.tables e below _ (T6.setTop (mkF m 36 #[.val (.int p0), .val (.int p1), .val (.int p2), .val (.int p3), .val (.int p4), .val (.int p5), .val (.int (own_small p0)), .val (.int (own_small p1)), .val (.int (own_small p2)), .val (.int (own_small p3)), .val (.int (own_small p4)), .unset, .unset, .unset, .unset, .unset, .unset, .unset] [(.int (own_small p5))]))
  refine Rch.st (fun _ hr => XS.istore X6.here hx rfl (hb hby at_36) rfl (l' := #[.val (.int p0), .val (.int p1), .val (.int p2), .val (.int p3), .val (.int p4), .val (.int p5), .val (.int (own_small p0)), .val (.int (own_small p1)), .val (.int (own_small p2)), .val (.int (own_small p3)), .val (.int (own_small p4)), .val (.int (own_small p5)), .unset, .unset, .unset, .unset, .unset, .unset]) rfl hr) ?_
  show Rch p.tables e below _ (T6.setTop (mkF m 38 #[.val (.int p0), .val (.int p1), .val (.int p2), .val (.int p3), .val (.int p4), .val (.int p5), .val (.int (own_small p0)), .val (.int (own_small p1)), .val (.int (own_small p2)), .val (.int (own_small p3)), .val (.int (own_small p4)), .val (.int (own_small p5)), .unset, .unset, .unset, .unset, .unset, .unset] []))
  obtain ⟨T7, h7, X7, e7, E7, A7, D7, -, st7⟩ := newO X6 hx hZ hown (own_w hw 4 rfl) (own_w hw 5 rfl) (own_w hw 6 rfl) e6 (g := (mkF m 38 #[.val (.int p0), .val (.int p1), .val (.int p2), .val (.int p3), .val (.int p4), .val (.int p5), .val (.int (own_small p0)), .val (.int (own_small p1)), .val (.int (own_small p2)), .val (.int (own_small p3)), .val (.int (own_small p4)), .val (.int (own_small p5)), .unset, .unset, .unset, .unset, .unset, .unset] [])) rfl (hb hby at_38) (by decide) (by decide)
  obtain ⟨b7, g7⟩ : ∃ z, z = h0.size := ⟨_, rfl⟩
  rw [← g7] at A7 D7 st7
  refine Rch.st st7 ?_
  have q7 : h0.size ≤ b7 := Nat.le_of_eq g7.symm
  have g_b7 : n0 ≤ b7 := Nat.le_trans (Nat.le_trans (Nat.le_of_eq P0.1.symm) P0.2.1) q7
  have sz_b7 : h0.size ≤ b7 := Nat.le_trans (Keep.refl h0 []).1 q7
  have K8 : Keep h0 h7 [] := (Keep.refl h0 []).ext E7
  have F7_x : Fld Z h7 b7 "com/example/saanich/saanich/geometry/Vector" "x" "D" (.double (0 : UInt64)) := D7 (Or.inr (own_w hw 19 rfl)) (ty := .double) (by decide)
  have F7_y : Fld Z h7 b7 "com/example/saanich/saanich/geometry/Vector" "y" "D" (.double (0 : UInt64)) := D7 (Or.inr (own_w hw 21 rfl)) (ty := .double) (by decide)
  have F7_z : Fld Z h7 b7 "com/example/saanich/saanich/geometry/Vector" "z" "D" (.double (0 : UInt64)) := D7 (Or.inr (own_w hw 23 rfl)) (ty := .double) (by decide)
  show Rch p.tables e below _ (T7.setTop (mkF m 41 #[.val (.int p0), .val (.int p1), .val (.int p2), .val (.int p3), .val (.int p4), .val (.int p5), .val (.int (own_small p0)), .val (.int (own_small p1)), .val (.int (own_small p2)), .val (.int (own_small p3)), .val (.int (own_small p4)), .val (.int (own_small p5)), .unset, .unset, .unset, .unset, .unset, .unset] [(.ref b7)]))
  refine Rch.st (fun _ hr => XS.dup X7.here hx rfl (hb hby at_41) rfl rfl hr) ?_
  show Rch p.tables e below _ (T7.setTop (mkF m 42 #[.val (.int p0), .val (.int p1), .val (.int p2), .val (.int p3), .val (.int p4), .val (.int p5), .val (.int (own_small p0)), .val (.int (own_small p1)), .val (.int (own_small p2)), .val (.int (own_small p3)), .val (.int (own_small p4)), .val (.int (own_small p5)), .unset, .unset, .unset, .unset, .unset, .unset] [(.ref b7), (.ref b7)]))
  refine Rch.st (fun _ hr => XS.iload X7.here hx rfl (hb hby at_42) rfl hr) ?_
  show Rch p.tables e below _ (T7.setTop (mkF m 44 #[.val (.int p0), .val (.int p1), .val (.int p2), .val (.int p3), .val (.int p4), .val (.int p5), .val (.int (own_small p0)), .val (.int (own_small p1)), .val (.int (own_small p2)), .val (.int (own_small p3)), .val (.int (own_small p4)), .val (.int (own_small p5)), .unset, .unset, .unset, .unset, .unset, .unset] [(.int (own_small p0)), (.ref b7), (.ref b7)]))
  refine Rch.st (fun _ hr => XS.i2dS X7.here hx rfl (hb hby at_44) rfl rfl hr) ?_
  show Rch p.tables e below _ (T7.setTop (mkF m 45 #[.val (.int p0), .val (.int p1), .val (.int p2), .val (.int p3), .val (.int p4), .val (.int p5), .val (.int (own_small p0)), .val (.int (own_small p1)), .val (.int (own_small p2)), .val (.int (own_small p3)), .val (.int (own_small p4)), .val (.int (own_small p5)), .unset, .unset, .unset, .unset, .unset, .unset] [(.double (FP.i2d (own_small p0))), (.ref b7), (.ref b7)]))
  refine Rch.st (fun _ hr => XS.iload X7.here hx rfl (hb hby at_45) rfl hr) ?_
  show Rch p.tables e below _ (T7.setTop (mkF m 47 #[.val (.int p0), .val (.int p1), .val (.int p2), .val (.int p3), .val (.int p4), .val (.int p5), .val (.int (own_small p0)), .val (.int (own_small p1)), .val (.int (own_small p2)), .val (.int (own_small p3)), .val (.int (own_small p4)), .val (.int (own_small p5)), .unset, .unset, .unset, .unset, .unset, .unset] [(.int (own_small p1)), (.double (FP.i2d (own_small p0))), (.ref b7), (.ref b7)]))
  refine Rch.st (fun _ hr => XS.i2dS X7.here hx rfl (hb hby at_47) rfl rfl hr) ?_
  show Rch p.tables e below _ (T7.setTop (mkF m 48 #[.val (.int p0), .val (.int p1), .val (.int p2), .val (.int p3), .val (.int p4), .val (.int p5), .val (.int (own_small p0)), .val (.int (own_small p1)), .val (.int (own_small p2)), .val (.int (own_small p3)), .val (.int (own_small p4)), .val (.int (own_small p5)), .unset, .unset, .unset, .unset, .unset, .unset] [(.double (FP.i2d (own_small p1))), (.double (FP.i2d (own_small p0))), (.ref b7), (.ref b7)]))
  refine Rch.st (fun _ hr => XS.iload X7.here hx rfl (hb hby at_48) rfl hr) ?_
  show Rch p.tables e below _ (T7.setTop (mkF m 50 #[.val (.int p0), .val (.int p1), .val (.int p2), .val (.int p3), .val (.int p4), .val (.int p5), .val (.int (own_small p0)), .val (.int (own_small p1)), .val (.int (own_small p2)), .val (.int (own_small p3)), .val (.int (own_small p4)), .val (.int (own_small p5)), .unset, .unset, .unset, .unset, .unset, .unset] [(.int (own_small p2)), (.double (FP.i2d (own_small p1))), (.double (FP.i2d (own_small p0))), (.ref b7), (.ref b7)]))
  refine Rch.st (fun _ hr => XS.i2dS X7.here hx rfl (hb hby at_50) rfl rfl hr) ?_
  show Rch p.tables e below _ (T7.setTop (mkF m 51 #[.val (.int p0), .val (.int p1), .val (.int p2), .val (.int p3), .val (.int p4), .val (.int p5), .val (.int (own_small p0)), .val (.int (own_small p1)), .val (.int (own_small p2)), .val (.int (own_small p3)), .val (.int (own_small p4)), .val (.int (own_small p5)), .unset, .unset, .unset, .unset, .unset, .unset] [(.double (FP.i2d (own_small p2))), (.double (FP.i2d (own_small p1))), (.double (FP.i2d (own_small p0))), (.ref b7), (.ref b7)]))
  have f10 : Old Z n0 h7 := (P0.ext E7)
  obtain ⟨_, _, ⟨T9, L9, k9, n9⟩, -, X9, ⟨Lc9, hQ9, l9, y9, z9⟩, st9⟩ := X7.specialBack hx (y := (⟨"com/example/saanich/saanich/geometry/Vector", "<init>", "(DDD)V"⟩ : MethodName)) rfl hown (mvT hZ (own_w hw 7 rfl)) (mvT hZ (own_w hw 8 rfl)) (mvT hZ (own_w hw 9 rfl)) (by decide) (backOf (W := 1) (cinit l Z a0 hw [] b7 (FP.i2d (own_small p0)) (FP.i2d (own_small p1)) (FP.i2d (own_small p2)) h7 n0 f10 A7 F7_x F7_y F7_z g_b7) hZ (own_w hw 9 rfl) (own_w hw 6 rfl) (by decide) (by decide)) (g := (mkF m 51 #[.val (.int p0), .val (.int p1), .val (.int p2), .val (.int p3), .val (.int p4), .val (.int p5), .val (.int (own_small p0)), .val (.int (own_small p1)), .val (.int (own_small p2)), .val (.int (own_small p3)), .val (.int (own_small p4)), .val (.int (own_small p5)), .unset, .unset, .unset, .unset, .unset, .unset] [(.double (FP.i2d (own_small p2))), (.double (FP.i2d (own_small p1))), (.double (FP.i2d (own_small p0))), (.ref b7), (.ref b7)])) rfl (by rw [hml]; rfl) (Steps.refl _) (a := b7) (argsL := [(.double (FP.i2d (own_small p0))), (.double (FP.i2d (own_small p1))), (.double (FP.i2d (own_small p2)))]) (rest := [(.ref b7)]) (lenOf pd_2 rfl) rfl (by show 2 * 0 + _ ≤ _; exact Nat.le_of_eq rfl) (hb hby at_51) (fun _ _ => ⟨rfl, e7, (by decide : 1 + 0 ≤ _), (by decide : 3 + 0 ≤ _)⟩)
  dsimp only [Pt.U, Pt.locs, Pt.cells, Pt.slots] at X9 l9 y9 z9 st9 hQ9
  subst l9 y9 z9
  obtain ⟨rfl, N9q, Kp9, Op9, R9_0, R9_1, R9_2, R9_3⟩ := hQ9
  have N9 := Fr.app N6 N9q
  refine Rch.tr st9 ?_
  have K11 : Keep h0 T9.heap [] := K8.trans Kp9 (allS (Or.inr sz_b7) all0)
  show Rch p.tables e below _ (T9.setTop (mkF m 54 #[.val (.int p0), .val (.int p1), .val (.int p2), .val (.int p3), .val (.int p4), .val (.int p5), .val (.int (own_small p0)), .val (.int (own_small p1)), .val (.int (own_small p2)), .val (.int (own_small p3)), .val (.int (own_small p4)), .val (.int (own_small p5)), .unset, .unset, .unset, .unset, .unset, .unset] [(.ref b7)]))
  refine Rch.st (fun _ hr => XS.astore X9.here hx rfl (hb hby at_54) rfl rfl (l' := #[.val (.int p0), .val (.int p1), .val (.int p2), .val (.int p3), .val (.int p4), .val (.int p5), .val (.int (own_small p0)), .val (.int (own_small p1)), .val (.int (own_small p2)), .val (.int (own_small p3)), .val (.int (own_small p4)), .val (.int (own_small p5)), .val (.ref b7), .unset, .unset, .unset, .unset, .unset]) rfl hr) ?_
  show Rch p.tables e below _ (T9.setTop (mkF m 56 #[.val (.int p0), .val (.int p1), .val (.int p2), .val (.int p3), .val (.int p4), .val (.int p5), .val (.int (own_small p0)), .val (.int (own_small p1)), .val (.int (own_small p2)), .val (.int (own_small p3)), .val (.int (own_small p4)), .val (.int (own_small p5)), .val (.ref b7), .unset, .unset, .unset, .unset, .unset] []))
  obtain ⟨T12, h12, X12, e12, E12, A12, D12, -, st12⟩ := newO X9 hx hZ hown (own_w hw 4 rfl) (own_w hw 5 rfl) (own_w hw 6 rfl) rfl (g := (mkF m 56 #[.val (.int p0), .val (.int p1), .val (.int p2), .val (.int p3), .val (.int p4), .val (.int p5), .val (.int (own_small p0)), .val (.int (own_small p1)), .val (.int (own_small p2)), .val (.int (own_small p3)), .val (.int (own_small p4)), .val (.int (own_small p5)), .val (.ref b7), .unset, .unset, .unset, .unset, .unset] [])) rfl (hb hby at_56) (by decide) (by decide)
  obtain ⟨b12, g12⟩ : ∃ z, z = T9.heap.size := ⟨_, rfl⟩
  rw [← g12] at A12 D12 st12
  refine Rch.st st12 ?_
  have q12 : T9.heap.size ≤ b12 := Nat.le_of_eq g12.symm
  have ne13 : b7 ≠ b12 := Nat.ne_of_lt (Nat.lt_of_lt_of_le R9_3.lt q12)
  have g_b12 : n0 ≤ b12 := Nat.le_trans (Nat.le_trans (Nat.le_of_eq Op9.1.symm) Op9.2.1) q12
  have sz_b12 : h0.size ≤ b12 := Nat.le_trans K11.1 q12
  have K14 : Keep h0 h12 [] := K11.ext E12
  have F12_x : Fld Z h12 b12 "com/example/saanich/saanich/geometry/Vector" "x" "D" (.double (0 : UInt64)) := D12 (Or.inr (own_w hw 19 rfl)) (ty := .double) (by decide)
  have F12_y : Fld Z h12 b12 "com/example/saanich/saanich/geometry/Vector" "y" "D" (.double (0 : UInt64)) := D12 (Or.inr (own_w hw 21 rfl)) (ty := .double) (by decide)
  have F12_z : Fld Z h12 b12 "com/example/saanich/saanich/geometry/Vector" "z" "D" (.double (0 : UInt64)) := D12 (Or.inr (own_w hw 23 rfl)) (ty := .double) (by decide)
  show Rch p.tables e below _ (T12.setTop (mkF m 59 #[.val (.int p0), .val (.int p1), .val (.int p2), .val (.int p3), .val (.int p4), .val (.int p5), .val (.int (own_small p0)), .val (.int (own_small p1)), .val (.int (own_small p2)), .val (.int (own_small p3)), .val (.int (own_small p4)), .val (.int (own_small p5)), .val (.ref b7), .unset, .unset, .unset, .unset, .unset] [(.ref b12)]))
  refine Rch.st (fun _ hr => XS.dup X12.here hx rfl (hb hby at_59) rfl rfl hr) ?_
  show Rch p.tables e below _ (T12.setTop (mkF m 60 #[.val (.int p0), .val (.int p1), .val (.int p2), .val (.int p3), .val (.int p4), .val (.int p5), .val (.int (own_small p0)), .val (.int (own_small p1)), .val (.int (own_small p2)), .val (.int (own_small p3)), .val (.int (own_small p4)), .val (.int (own_small p5)), .val (.ref b7), .unset, .unset, .unset, .unset, .unset] [(.ref b12), (.ref b12)]))
  refine Rch.st (fun _ hr => XS.iload X12.here hx rfl (hb hby at_60) rfl hr) ?_
  show Rch p.tables e below _ (T12.setTop (mkF m 62 #[.val (.int p0), .val (.int p1), .val (.int p2), .val (.int p3), .val (.int p4), .val (.int p5), .val (.int (own_small p0)), .val (.int (own_small p1)), .val (.int (own_small p2)), .val (.int (own_small p3)), .val (.int (own_small p4)), .val (.int (own_small p5)), .val (.ref b7), .unset, .unset, .unset, .unset, .unset] [(.int (own_small p3)), (.ref b12), (.ref b12)]))
  refine Rch.st (fun _ hr => XS.i2dS X12.here hx rfl (hb hby at_62) rfl rfl hr) ?_
  show Rch p.tables e below _ (T12.setTop (mkF m 63 #[.val (.int p0), .val (.int p1), .val (.int p2), .val (.int p3), .val (.int p4), .val (.int p5), .val (.int (own_small p0)), .val (.int (own_small p1)), .val (.int (own_small p2)), .val (.int (own_small p3)), .val (.int (own_small p4)), .val (.int (own_small p5)), .val (.ref b7), .unset, .unset, .unset, .unset, .unset] [(.double (FP.i2d (own_small p3))), (.ref b12), (.ref b12)]))
  refine Rch.st (fun _ hr => XS.iload X12.here hx rfl (hb hby at_63) rfl hr) ?_
  show Rch p.tables e below _ (T12.setTop (mkF m 65 #[.val (.int p0), .val (.int p1), .val (.int p2), .val (.int p3), .val (.int p4), .val (.int p5), .val (.int (own_small p0)), .val (.int (own_small p1)), .val (.int (own_small p2)), .val (.int (own_small p3)), .val (.int (own_small p4)), .val (.int (own_small p5)), .val (.ref b7), .unset, .unset, .unset, .unset, .unset] [(.int (own_small p4)), (.double (FP.i2d (own_small p3))), (.ref b12), (.ref b12)]))
  refine Rch.st (fun _ hr => XS.i2dS X12.here hx rfl (hb hby at_65) rfl rfl hr) ?_
  show Rch p.tables e below _ (T12.setTop (mkF m 66 #[.val (.int p0), .val (.int p1), .val (.int p2), .val (.int p3), .val (.int p4), .val (.int p5), .val (.int (own_small p0)), .val (.int (own_small p1)), .val (.int (own_small p2)), .val (.int (own_small p3)), .val (.int (own_small p4)), .val (.int (own_small p5)), .val (.ref b7), .unset, .unset, .unset, .unset, .unset] [(.double (FP.i2d (own_small p4))), (.double (FP.i2d (own_small p3))), (.ref b12), (.ref b12)]))
  refine Rch.st (fun _ hr => XS.iload X12.here hx rfl (hb hby at_66) rfl hr) ?_
  show Rch p.tables e below _ (T12.setTop (mkF m 68 #[.val (.int p0), .val (.int p1), .val (.int p2), .val (.int p3), .val (.int p4), .val (.int p5), .val (.int (own_small p0)), .val (.int (own_small p1)), .val (.int (own_small p2)), .val (.int (own_small p3)), .val (.int (own_small p4)), .val (.int (own_small p5)), .val (.ref b7), .unset, .unset, .unset, .unset, .unset] [(.int (own_small p5)), (.double (FP.i2d (own_small p4))), (.double (FP.i2d (own_small p3))), (.ref b12), (.ref b12)]))
  refine Rch.st (fun _ hr => XS.i2dS X12.here hx rfl (hb hby at_68) rfl rfl hr) ?_
  show Rch p.tables e below _ (T12.setTop (mkF m 69 #[.val (.int p0), .val (.int p1), .val (.int p2), .val (.int p3), .val (.int p4), .val (.int p5), .val (.int (own_small p0)), .val (.int (own_small p1)), .val (.int (own_small p2)), .val (.int (own_small p3)), .val (.int (own_small p4)), .val (.int (own_small p5)), .val (.ref b7), .unset, .unset, .unset, .unset, .unset] [(.double (FP.i2d (own_small p5))), (.double (FP.i2d (own_small p4))), (.double (FP.i2d (own_small p3))), (.ref b12), (.ref b12)]))
  have f16 : Old Z n0 h12 := (Op9.ext E12)
  obtain ⟨_, _, ⟨T15, L15, k15, n15⟩, -, X15, ⟨Lc15, hQ15, l15, y15, z15⟩, st15⟩ := X12.specialBack hx (y := (⟨"com/example/saanich/saanich/geometry/Vector", "<init>", "(DDD)V"⟩ : MethodName)) rfl hown (mvT hZ (own_w hw 7 rfl)) (mvT hZ (own_w hw 8 rfl)) (mvT hZ (own_w hw 9 rfl)) (by decide) (backOf (W := 1) (cinit l Z a0 hw [] b12 (FP.i2d (own_small p3)) (FP.i2d (own_small p4)) (FP.i2d (own_small p5)) h12 n0 f16 A12 F12_x F12_y F12_z g_b12) hZ (own_w hw 9 rfl) (own_w hw 6 rfl) (by decide) (by decide)) (g := (mkF m 69 #[.val (.int p0), .val (.int p1), .val (.int p2), .val (.int p3), .val (.int p4), .val (.int p5), .val (.int (own_small p0)), .val (.int (own_small p1)), .val (.int (own_small p2)), .val (.int (own_small p3)), .val (.int (own_small p4)), .val (.int (own_small p5)), .val (.ref b7), .unset, .unset, .unset, .unset, .unset] [(.double (FP.i2d (own_small p5))), (.double (FP.i2d (own_small p4))), (.double (FP.i2d (own_small p3))), (.ref b12), (.ref b12)])) rfl (by rw [hml]; rfl) (Steps.refl _) (a := b12) (argsL := [(.double (FP.i2d (own_small p3))), (.double (FP.i2d (own_small p4))), (.double (FP.i2d (own_small p5)))]) (rest := [(.ref b12)]) (lenOf pd_2 rfl) rfl (by show 2 * 0 + _ ≤ _; exact Nat.le_of_eq rfl) (hb hby at_69) (fun _ _ => ⟨rfl, e12, (by decide : 2 + 0 ≤ _), (by decide : 6 + 0 ≤ _)⟩)
  dsimp only [Pt.U, Pt.locs, Pt.cells, Pt.slots] at X15 l15 y15 z15 st15 hQ15
  subst l15 y15 z15
  obtain ⟨rfl, N15q, Kp15, Op15, R15_0, R15_1, R15_2, R15_3⟩ := hQ15
  have N15 := Fr.app N9 N15q
  refine Rch.tr st15 ?_
  have K17 : Keep h0 T15.heap [] := K14.trans Kp15 (allS (Or.inr sz_b12) all0)
  show Rch p.tables e below _ (T15.setTop (mkF m 72 #[.val (.int p0), .val (.int p1), .val (.int p2), .val (.int p3), .val (.int p4), .val (.int p5), .val (.int (own_small p0)), .val (.int (own_small p1)), .val (.int (own_small p2)), .val (.int (own_small p3)), .val (.int (own_small p4)), .val (.int (own_small p5)), .val (.ref b7), .unset, .unset, .unset, .unset, .unset] [(.ref b12)]))
  refine Rch.st (fun _ hr => XS.astore X15.here hx rfl (hb hby at_72) rfl rfl (l' := #[.val (.int p0), .val (.int p1), .val (.int p2), .val (.int p3), .val (.int p4), .val (.int p5), .val (.int (own_small p0)), .val (.int (own_small p1)), .val (.int (own_small p2)), .val (.int (own_small p3)), .val (.int (own_small p4)), .val (.int (own_small p5)), .val (.ref b7), .val (.ref b12), .unset, .unset, .unset, .unset]) rfl hr) ?_
  show Rch p.tables e below _ (T15.setTop (mkF m 74 #[.val (.int p0), .val (.int p1), .val (.int p2), .val (.int p3), .val (.int p4), .val (.int p5), .val (.int (own_small p0)), .val (.int (own_small p1)), .val (.int (own_small p2)), .val (.int (own_small p3)), .val (.int (own_small p4)), .val (.int (own_small p5)), .val (.ref b7), .val (.ref b12), .unset, .unset, .unset, .unset] []))
  refine Rch.st (fun _ hr => XS.iload X15.here hx rfl (hb hby at_74) rfl hr) ?_
  show Rch p.tables e below _ (T15.setTop (mkF m 76 #[.val (.int p0), .val (.int p1), .val (.int p2), .val (.int p3), .val (.int p4), .val (.int p5), .val (.int (own_small p0)), .val (.int (own_small p1)), .val (.int (own_small p2)), .val (.int (own_small p3)), .val (.int (own_small p4)), .val (.int (own_small p5)), .val (.ref b7), .val (.ref b12), .unset, .unset, .unset, .unset] [(.int (own_small p0))]))
  refine Rch.st (fun _ hr => XS.i2l X15.here hx rfl (hb hby at_76) rfl hr) ?_
  show Rch p.tables e below _ (T15.setTop (mkF m 77 #[.val (.int p0), .val (.int p1), .val (.int p2), .val (.int p3), .val (.int p4), .val (.int p5), .val (.int (own_small p0)), .val (.int (own_small p1)), .val (.int (own_small p2)), .val (.int (own_small p3)), .val (.int (own_small p4)), .val (.int (own_small p5)), .val (.ref b7), .val (.ref b12), .unset, .unset, .unset, .unset] [(.long ((own_small p0).toInt64))]))
  refine Rch.st (fun _ hr => XS.iload X15.here hx rfl (hb hby at_77) rfl hr) ?_
  show Rch p.tables e below _ (T15.setTop (mkF m 79 #[.val (.int p0), .val (.int p1), .val (.int p2), .val (.int p3), .val (.int p4), .val (.int p5), .val (.int (own_small p0)), .val (.int (own_small p1)), .val (.int (own_small p2)), .val (.int (own_small p3)), .val (.int (own_small p4)), .val (.int (own_small p5)), .val (.ref b7), .val (.ref b12), .unset, .unset, .unset, .unset] [(.int (own_small p3)), (.long ((own_small p0).toInt64))]))
  refine Rch.st (fun _ hr => XS.i2l X15.here hx rfl (hb hby at_79) rfl hr) ?_
  show Rch p.tables e below _ (T15.setTop (mkF m 80 #[.val (.int p0), .val (.int p1), .val (.int p2), .val (.int p3), .val (.int p4), .val (.int p5), .val (.int (own_small p0)), .val (.int (own_small p1)), .val (.int (own_small p2)), .val (.int (own_small p3)), .val (.int (own_small p4)), .val (.int (own_small p5)), .val (.ref b7), .val (.ref b12), .unset, .unset, .unset, .unset] [(.long ((own_small p3).toInt64)), (.long ((own_small p0).toInt64))]))
  refine Rch.st (fun _ hr => XS.lmul X15.here hx rfl (hb hby at_80) rfl hr) ?_
  show Rch p.tables e below _ (T15.setTop (mkF m 81 #[.val (.int p0), .val (.int p1), .val (.int p2), .val (.int p3), .val (.int p4), .val (.int p5), .val (.int (own_small p0)), .val (.int (own_small p1)), .val (.int (own_small p2)), .val (.int (own_small p3)), .val (.int (own_small p4)), .val (.int (own_small p5)), .val (.ref b7), .val (.ref b12), .unset, .unset, .unset, .unset] [(.long (((own_small p0).toInt64) * ((own_small p3).toInt64)))]))
  refine Rch.st (fun _ hr => XS.iload X15.here hx rfl (hb hby at_81) rfl hr) ?_
  show Rch p.tables e below _ (T15.setTop (mkF m 83 #[.val (.int p0), .val (.int p1), .val (.int p2), .val (.int p3), .val (.int p4), .val (.int p5), .val (.int (own_small p0)), .val (.int (own_small p1)), .val (.int (own_small p2)), .val (.int (own_small p3)), .val (.int (own_small p4)), .val (.int (own_small p5)), .val (.ref b7), .val (.ref b12), .unset, .unset, .unset, .unset] [(.int (own_small p1)), (.long (((own_small p0).toInt64) * ((own_small p3).toInt64)))]))
  refine Rch.st (fun _ hr => XS.i2l X15.here hx rfl (hb hby at_83) rfl hr) ?_
  show Rch p.tables e below _ (T15.setTop (mkF m 84 #[.val (.int p0), .val (.int p1), .val (.int p2), .val (.int p3), .val (.int p4), .val (.int p5), .val (.int (own_small p0)), .val (.int (own_small p1)), .val (.int (own_small p2)), .val (.int (own_small p3)), .val (.int (own_small p4)), .val (.int (own_small p5)), .val (.ref b7), .val (.ref b12), .unset, .unset, .unset, .unset] [(.long ((own_small p1).toInt64)), (.long (((own_small p0).toInt64) * ((own_small p3).toInt64)))]))
  refine Rch.st (fun _ hr => XS.iload X15.here hx rfl (hb hby at_84) rfl hr) ?_
  show Rch p.tables e below _ (T15.setTop (mkF m 86 #[.val (.int p0), .val (.int p1), .val (.int p2), .val (.int p3), .val (.int p4), .val (.int p5), .val (.int (own_small p0)), .val (.int (own_small p1)), .val (.int (own_small p2)), .val (.int (own_small p3)), .val (.int (own_small p4)), .val (.int (own_small p5)), .val (.ref b7), .val (.ref b12), .unset, .unset, .unset, .unset] [(.int (own_small p4)), (.long ((own_small p1).toInt64)), (.long (((own_small p0).toInt64) * ((own_small p3).toInt64)))]))
  refine Rch.st (fun _ hr => XS.i2l X15.here hx rfl (hb hby at_86) rfl hr) ?_
  show Rch p.tables e below _ (T15.setTop (mkF m 87 #[.val (.int p0), .val (.int p1), .val (.int p2), .val (.int p3), .val (.int p4), .val (.int p5), .val (.int (own_small p0)), .val (.int (own_small p1)), .val (.int (own_small p2)), .val (.int (own_small p3)), .val (.int (own_small p4)), .val (.int (own_small p5)), .val (.ref b7), .val (.ref b12), .unset, .unset, .unset, .unset] [(.long ((own_small p4).toInt64)), (.long ((own_small p1).toInt64)), (.long (((own_small p0).toInt64) * ((own_small p3).toInt64)))]))
  refine Rch.st (fun _ hr => XS.lmul X15.here hx rfl (hb hby at_87) rfl hr) ?_
  show Rch p.tables e below _ (T15.setTop (mkF m 88 #[.val (.int p0), .val (.int p1), .val (.int p2), .val (.int p3), .val (.int p4), .val (.int p5), .val (.int (own_small p0)), .val (.int (own_small p1)), .val (.int (own_small p2)), .val (.int (own_small p3)), .val (.int (own_small p4)), .val (.int (own_small p5)), .val (.ref b7), .val (.ref b12), .unset, .unset, .unset, .unset] [(.long (((own_small p1).toInt64) * ((own_small p4).toInt64))), (.long (((own_small p0).toInt64) * ((own_small p3).toInt64)))]))
  refine Rch.st (fun _ hr => XS.ladd X15.here hx rfl (hb hby at_88) rfl hr) ?_
  show Rch p.tables e below _ (T15.setTop (mkF m 89 #[.val (.int p0), .val (.int p1), .val (.int p2), .val (.int p3), .val (.int p4), .val (.int p5), .val (.int (own_small p0)), .val (.int (own_small p1)), .val (.int (own_small p2)), .val (.int (own_small p3)), .val (.int (own_small p4)), .val (.int (own_small p5)), .val (.ref b7), .val (.ref b12), .unset, .unset, .unset, .unset] [(.long ((((own_small p0).toInt64) * ((own_small p3).toInt64)) + (((own_small p1).toInt64) * ((own_small p4).toInt64))))]))
  refine Rch.st (fun _ hr => XS.iload X15.here hx rfl (hb hby at_89) rfl hr) ?_
  show Rch p.tables e below _ (T15.setTop (mkF m 91 #[.val (.int p0), .val (.int p1), .val (.int p2), .val (.int p3), .val (.int p4), .val (.int p5), .val (.int (own_small p0)), .val (.int (own_small p1)), .val (.int (own_small p2)), .val (.int (own_small p3)), .val (.int (own_small p4)), .val (.int (own_small p5)), .val (.ref b7), .val (.ref b12), .unset, .unset, .unset, .unset] [(.int (own_small p2)), (.long ((((own_small p0).toInt64) * ((own_small p3).toInt64)) + (((own_small p1).toInt64) * ((own_small p4).toInt64))))]))
  refine Rch.st (fun _ hr => XS.i2l X15.here hx rfl (hb hby at_91) rfl hr) ?_
  show Rch p.tables e below _ (T15.setTop (mkF m 92 #[.val (.int p0), .val (.int p1), .val (.int p2), .val (.int p3), .val (.int p4), .val (.int p5), .val (.int (own_small p0)), .val (.int (own_small p1)), .val (.int (own_small p2)), .val (.int (own_small p3)), .val (.int (own_small p4)), .val (.int (own_small p5)), .val (.ref b7), .val (.ref b12), .unset, .unset, .unset, .unset] [(.long ((own_small p2).toInt64)), (.long ((((own_small p0).toInt64) * ((own_small p3).toInt64)) + (((own_small p1).toInt64) * ((own_small p4).toInt64))))]))
  refine Rch.st (fun _ hr => XS.iload X15.here hx rfl (hb hby at_92) rfl hr) ?_
  show Rch p.tables e below _ (T15.setTop (mkF m 94 #[.val (.int p0), .val (.int p1), .val (.int p2), .val (.int p3), .val (.int p4), .val (.int p5), .val (.int (own_small p0)), .val (.int (own_small p1)), .val (.int (own_small p2)), .val (.int (own_small p3)), .val (.int (own_small p4)), .val (.int (own_small p5)), .val (.ref b7), .val (.ref b12), .unset, .unset, .unset, .unset] [(.int (own_small p5)), (.long ((own_small p2).toInt64)), (.long ((((own_small p0).toInt64) * ((own_small p3).toInt64)) + (((own_small p1).toInt64) * ((own_small p4).toInt64))))]))
  refine Rch.st (fun _ hr => XS.i2l X15.here hx rfl (hb hby at_94) rfl hr) ?_
  show Rch p.tables e below _ (T15.setTop (mkF m 95 #[.val (.int p0), .val (.int p1), .val (.int p2), .val (.int p3), .val (.int p4), .val (.int p5), .val (.int (own_small p0)), .val (.int (own_small p1)), .val (.int (own_small p2)), .val (.int (own_small p3)), .val (.int (own_small p4)), .val (.int (own_small p5)), .val (.ref b7), .val (.ref b12), .unset, .unset, .unset, .unset] [(.long ((own_small p5).toInt64)), (.long ((own_small p2).toInt64)), (.long ((((own_small p0).toInt64) * ((own_small p3).toInt64)) + (((own_small p1).toInt64) * ((own_small p4).toInt64))))]))
  refine Rch.st (fun _ hr => XS.lmul X15.here hx rfl (hb hby at_95) rfl hr) ?_
  show Rch p.tables e below _ (T15.setTop (mkF m 96 #[.val (.int p0), .val (.int p1), .val (.int p2), .val (.int p3), .val (.int p4), .val (.int p5), .val (.int (own_small p0)), .val (.int (own_small p1)), .val (.int (own_small p2)), .val (.int (own_small p3)), .val (.int (own_small p4)), .val (.int (own_small p5)), .val (.ref b7), .val (.ref b12), .unset, .unset, .unset, .unset] [(.long (((own_small p2).toInt64) * ((own_small p5).toInt64))), (.long ((((own_small p0).toInt64) * ((own_small p3).toInt64)) + (((own_small p1).toInt64) * ((own_small p4).toInt64))))]))
  refine Rch.st (fun _ hr => XS.ladd X15.here hx rfl (hb hby at_96) rfl hr) ?_
  show Rch p.tables e below _ (T15.setTop (mkF m 97 #[.val (.int p0), .val (.int p1), .val (.int p2), .val (.int p3), .val (.int p4), .val (.int p5), .val (.int (own_small p0)), .val (.int (own_small p1)), .val (.int (own_small p2)), .val (.int (own_small p3)), .val (.int (own_small p4)), .val (.int (own_small p5)), .val (.ref b7), .val (.ref b12), .unset, .unset, .unset, .unset] [(.long (((((own_small p0).toInt64) * ((own_small p3).toInt64)) + (((own_small p1).toInt64) * ((own_small p4).toInt64))) + (((own_small p2).toInt64) * ((own_small p5).toInt64))))]))
  refine Rch.st (fun _ hr => XS.lstore X15.here hx rfl (hb hby at_97) rfl (l' := #[.val (.int p0), .val (.int p1), .val (.int p2), .val (.int p3), .val (.int p4), .val (.int p5), .val (.int (own_small p0)), .val (.int (own_small p1)), .val (.int (own_small p2)), .val (.int (own_small p3)), .val (.int (own_small p4)), .val (.int (own_small p5)), .val (.ref b7), .val (.ref b12), .val (.long (((((own_small p0).toInt64) * ((own_small p3).toInt64)) + (((own_small p1).toInt64) * ((own_small p4).toInt64))) + (((own_small p2).toInt64) * ((own_small p5).toInt64)))), .second, .unset, .unset]) rfl hr) ?_
  show Rch p.tables e below _ (T15.setTop (mkF m 99 #[.val (.int p0), .val (.int p1), .val (.int p2), .val (.int p3), .val (.int p4), .val (.int p5), .val (.int (own_small p0)), .val (.int (own_small p1)), .val (.int (own_small p2)), .val (.int (own_small p3)), .val (.int (own_small p4)), .val (.int (own_small p5)), .val (.ref b7), .val (.ref b12), .val (.long (((((own_small p0).toInt64) * ((own_small p3).toInt64)) + (((own_small p1).toInt64) * ((own_small p4).toInt64))) + (((own_small p2).toInt64) * ((own_small p5).toInt64)))), .second, .unset, .unset] []))
  refine Rch.st (fun _ hr => XS.lload X15.here hx rfl (hb hby at_99) rfl hr) ?_
  show Rch p.tables e below _ (T15.setTop (mkF m 101 #[.val (.int p0), .val (.int p1), .val (.int p2), .val (.int p3), .val (.int p4), .val (.int p5), .val (.int (own_small p0)), .val (.int (own_small p1)), .val (.int (own_small p2)), .val (.int (own_small p3)), .val (.int (own_small p4)), .val (.int (own_small p5)), .val (.ref b7), .val (.ref b12), .val (.long (((((own_small p0).toInt64) * ((own_small p3).toInt64)) + (((own_small p1).toInt64) * ((own_small p4).toInt64))) + (((own_small p2).toInt64) * ((own_small p5).toInt64)))), .second, .unset, .unset] [(.long (((((own_small p0).toInt64) * ((own_small p3).toInt64)) + (((own_small p1).toInt64) * ((own_small p4).toInt64))) + (((own_small p2).toInt64) * ((own_small p5).toInt64))))]))
  refine Rch.st (fun _ hr => XS.l2dS X15.here hx rfl (hb hby at_101) rfl rfl hr) ?_
  show Rch p.tables e below _ (T15.setTop (mkF m 102 #[.val (.int p0), .val (.int p1), .val (.int p2), .val (.int p3), .val (.int p4), .val (.int p5), .val (.int (own_small p0)), .val (.int (own_small p1)), .val (.int (own_small p2)), .val (.int (own_small p3)), .val (.int (own_small p4)), .val (.int (own_small p5)), .val (.ref b7), .val (.ref b12), .val (.long (((((own_small p0).toInt64) * ((own_small p3).toInt64)) + (((own_small p1).toInt64) * ((own_small p4).toInt64))) + (((own_small p2).toInt64) * ((own_small p5).toInt64)))), .second, .unset, .unset] [(.double (FP.l2d (((((own_small p0).toInt64) * ((own_small p3).toInt64)) + (((own_small p1).toInt64) * ((own_small p4).toInt64))) + (((own_small p2).toInt64) * ((own_small p5).toInt64)))))]))
  refine Rch.st (fun _ hr => XS.dstore X15.here hx rfl (hb hby at_102) rfl (l' := #[.val (.int p0), .val (.int p1), .val (.int p2), .val (.int p3), .val (.int p4), .val (.int p5), .val (.int (own_small p0)), .val (.int (own_small p1)), .val (.int (own_small p2)), .val (.int (own_small p3)), .val (.int (own_small p4)), .val (.int (own_small p5)), .val (.ref b7), .val (.ref b12), .val (.long (((((own_small p0).toInt64) * ((own_small p3).toInt64)) + (((own_small p1).toInt64) * ((own_small p4).toInt64))) + (((own_small p2).toInt64) * ((own_small p5).toInt64)))), .second, .val (.double (FP.l2d (((((own_small p0).toInt64) * ((own_small p3).toInt64)) + (((own_small p1).toInt64) * ((own_small p4).toInt64))) + (((own_small p2).toInt64) * ((own_small p5).toInt64))))), .second]) rfl hr) ?_
  show Rch p.tables e below _ (T15.setTop (mkF m 104 #[.val (.int p0), .val (.int p1), .val (.int p2), .val (.int p3), .val (.int p4), .val (.int p5), .val (.int (own_small p0)), .val (.int (own_small p1)), .val (.int (own_small p2)), .val (.int (own_small p3)), .val (.int (own_small p4)), .val (.int (own_small p5)), .val (.ref b7), .val (.ref b12), .val (.long (((((own_small p0).toInt64) * ((own_small p3).toInt64)) + (((own_small p1).toInt64) * ((own_small p4).toInt64))) + (((own_small p2).toInt64) * ((own_small p5).toInt64)))), .second, .val (.double (FP.l2d (((((own_small p0).toInt64) * ((own_small p3).toInt64)) + (((own_small p1).toInt64) * ((own_small p4).toInt64))) + (((own_small p2).toInt64) * ((own_small p5).toInt64))))), .second] []))
  refine Rch.st (fun _ hr => XS.aload X15.here hx rfl (hb hby at_104) rfl rfl hr) ?_
  show Rch p.tables e below _ (T15.setTop (mkF m 106 #[.val (.int p0), .val (.int p1), .val (.int p2), .val (.int p3), .val (.int p4), .val (.int p5), .val (.int (own_small p0)), .val (.int (own_small p1)), .val (.int (own_small p2)), .val (.int (own_small p3)), .val (.int (own_small p4)), .val (.int (own_small p5)), .val (.ref b7), .val (.ref b12), .val (.long (((((own_small p0).toInt64) * ((own_small p3).toInt64)) + (((own_small p1).toInt64) * ((own_small p4).toInt64))) + (((own_small p2).toInt64) * ((own_small p5).toInt64)))), .second, .val (.double (FP.l2d (((((own_small p0).toInt64) * ((own_small p3).toInt64)) + (((own_small p1).toInt64) * ((own_small p4).toInt64))) + (((own_small p2).toInt64) * ((own_small p5).toInt64))))), .second] [(.ref b7)]))
  refine Rch.st (fun _ hr => XS.aload X15.here hx rfl (hb hby at_106) rfl rfl hr) ?_
  show Rch p.tables e below _ (T15.setTop (mkF m 108 #[.val (.int p0), .val (.int p1), .val (.int p2), .val (.int p3), .val (.int p4), .val (.int p5), .val (.int (own_small p0)), .val (.int (own_small p1)), .val (.int (own_small p2)), .val (.int (own_small p3)), .val (.int (own_small p4)), .val (.int (own_small p5)), .val (.ref b7), .val (.ref b12), .val (.long (((((own_small p0).toInt64) * ((own_small p3).toInt64)) + (((own_small p1).toInt64) * ((own_small p4).toInt64))) + (((own_small p2).toInt64) * ((own_small p5).toInt64)))), .second, .val (.double (FP.l2d (((((own_small p0).toInt64) * ((own_small p3).toInt64)) + (((own_small p1).toInt64) * ((own_small p4).toInt64))) + (((own_small p2).toInt64) * ((own_small p5).toInt64))))), .second] [(.ref b12), (.ref b7)]))
  have f19 : Exa Z T15.heap b7 "com/example/saanich/saanich/geometry/Vector" := ((R9_0.ext E12).keep Kp15)
  have f20 : Fld Z T15.heap b7 "com/example/saanich/saanich/geometry/Vector" "x" "D" (.double (FP.i2d (own_small p0))) := ((R9_1.ext E12).keep Kp15 (ninS ne13 nin0))
  have f21 : Fld Z T15.heap b7 "com/example/saanich/saanich/geometry/Vector" "y" "D" (.double (FP.i2d (own_small p1))) := ((R9_2.ext E12).keep Kp15 (ninS ne13 nin0))
  have f22 : Fld Z T15.heap b7 "com/example/saanich/saanich/geometry/Vector" "z" "D" (.double (FP.i2d (own_small p2))) := ((R9_3.ext E12).keep Kp15 (ninS ne13 nin0))
  obtain ⟨cq18, kq18, q18a, q18b, q18c⟩ := isOf hZ rfl f19
  obtain ⟨_, _, ⟨T18, L18, k18, n18⟩, -, X18, ⟨Lc18, hQ18, l18, y18, z18⟩, st18⟩ := X15.virtualBack hx (y := (⟨"com/example/saanich/saanich/geometry/Vector", "dot", "(Lcom/example/saanich/saanich/geometry/Vector;)D"⟩ : MethodName)) (z := (⟨"com/example/saanich/saanich/geometry/Vector", "dot", "(Lcom/example/saanich/saanich/geometry/Vector;)D"⟩ : MethodName)) hown (mvT hZ (own_w hw 24 rfl)) (mvT hZ (own_w hw 25 rfl)) (notFace_of_selects (args := #[]) (mvT hZ (own_w hw 27 rfl))) (mvT hZ (own_w hw 27 rfl)) (mvT hZ (own_w hw 26 rfl)) (by decide) (backOf (W := 0) (cdot l Z a0 hw [] b7 b12 (FP.i2d (own_small p0)) (FP.i2d (own_small p1)) (FP.i2d (own_small p2)) (FP.i2d (own_small p3)) (FP.i2d (own_small p4)) (FP.i2d (own_small p5)) T15.heap n0 f20 f21 f22 R15_1 R15_2 R15_3 hu0 hu1 hu2 hu3 hu4) hZ (own_w hw 28 rfl) (own_w hw 6 rfl) (by decide) (by decide)) q18a q18c (g := (mkF m 108 #[.val (.int p0), .val (.int p1), .val (.int p2), .val (.int p3), .val (.int p4), .val (.int p5), .val (.int (own_small p0)), .val (.int (own_small p1)), .val (.int (own_small p2)), .val (.int (own_small p3)), .val (.int (own_small p4)), .val (.int (own_small p5)), .val (.ref b7), .val (.ref b12), .val (.long (((((own_small p0).toInt64) * ((own_small p3).toInt64)) + (((own_small p1).toInt64) * ((own_small p4).toInt64))) + (((own_small p2).toInt64) * ((own_small p5).toInt64)))), .second, .val (.double (FP.l2d (((((own_small p0).toInt64) * ((own_small p3).toInt64)) + (((own_small p1).toInt64) * ((own_small p4).toInt64))) + (((own_small p2).toInt64) * ((own_small p5).toInt64))))), .second] [(.ref b12), (.ref b7)])) rfl (by rw [hml]; rfl) (Steps.refl _) (argsL := [(.ref b12)]) (rest := []) (lenOf pd_3 rfl) rfl (by show 2 * 0 + _ ≤ _; exact Nat.le_of_eq rfl) (hb hby at_108) (fun _ _ => ⟨rfl, rfl, (by decide : 2 + 0 ≤ _), (by decide : 6 + 0 ≤ _)⟩)
  dsimp only [Pt.U, Pt.locs, Pt.cells, Pt.slots] at X18 l18 y18 z18 st18 hQ18
  subst l18 y18 z18
  obtain ⟨rfl, N18q, e18⟩ := hQ18
  have N18 := Fr.app N15 N18q
  refine Rch.tr st18 ?_
  show Rch p.tables e below _ (T18.setTop (mkF m 111 #[.val (.int p0), .val (.int p1), .val (.int p2), .val (.int p3), .val (.int p4), .val (.int p5), .val (.int (own_small p0)), .val (.int (own_small p1)), .val (.int (own_small p2)), .val (.int (own_small p3)), .val (.int (own_small p4)), .val (.int (own_small p5)), .val (.ref b7), .val (.ref b12), .val (.long (((((own_small p0).toInt64) * ((own_small p3).toInt64)) + (((own_small p1).toInt64) * ((own_small p4).toInt64))) + (((own_small p2).toInt64) * ((own_small p5).toInt64)))), .second, .val (.double (FP.l2d (((((own_small p0).toInt64) * ((own_small p3).toInt64)) + (((own_small p1).toInt64) * ((own_small p4).toInt64))) + (((own_small p2).toInt64) * ((own_small p5).toInt64))))), .second] [(.double (FP.dadd (FP.dadd (FP.dmul (FP.i2d (own_small p0)) (FP.i2d (own_small p3))) (FP.dmul (FP.i2d (own_small p1)) (FP.i2d (own_small p4)))) (FP.dmul (FP.i2d (own_small p2)) (FP.i2d (own_small p5)))))]))
  refine Rch.st (fun _ hr => XS.dload X18.here hx rfl (hb hby at_111) rfl hr) ?_
  show Rch p.tables e below _ (T18.setTop (mkF m 113 #[.val (.int p0), .val (.int p1), .val (.int p2), .val (.int p3), .val (.int p4), .val (.int p5), .val (.int (own_small p0)), .val (.int (own_small p1)), .val (.int (own_small p2)), .val (.int (own_small p3)), .val (.int (own_small p4)), .val (.int (own_small p5)), .val (.ref b7), .val (.ref b12), .val (.long (((((own_small p0).toInt64) * ((own_small p3).toInt64)) + (((own_small p1).toInt64) * ((own_small p4).toInt64))) + (((own_small p2).toInt64) * ((own_small p5).toInt64)))), .second, .val (.double (FP.l2d (((((own_small p0).toInt64) * ((own_small p3).toInt64)) + (((own_small p1).toInt64) * ((own_small p4).toInt64))) + (((own_small p2).toInt64) * ((own_small p5).toInt64))))), .second] [(.double (FP.l2d (((((own_small p0).toInt64) * ((own_small p3).toInt64)) + (((own_small p1).toInt64) * ((own_small p4).toInt64))) + (((own_small p2).toInt64) * ((own_small p5).toInt64))))), (.double (FP.dadd (FP.dadd (FP.dmul (FP.i2d (own_small p0)) (FP.i2d (own_small p3))) (FP.dmul (FP.i2d (own_small p1)) (FP.i2d (own_small p4)))) (FP.dmul (FP.i2d (own_small p2)) (FP.i2d (own_small p5)))))]))
  refine Rch.st (fun _ hr => XS.dcmpS X18.here hx rfl (hb hby at_113) rfl hcu hr) ?_
  show Rch p.tables e below _ (T18.setTop (mkF m 114 #[.val (.int p0), .val (.int p1), .val (.int p2), .val (.int p3), .val (.int p4), .val (.int p5), .val (.int (own_small p0)), .val (.int (own_small p1)), .val (.int (own_small p2)), .val (.int (own_small p3)), .val (.int (own_small p4)), .val (.int (own_small p5)), .val (.ref b7), .val (.ref b12), .val (.long (((((own_small p0).toInt64) * ((own_small p3).toInt64)) + (((own_small p1).toInt64) * ((own_small p4).toInt64))) + (((own_small p2).toInt64) * ((own_small p5).toInt64)))), .second, .val (.double (FP.l2d (((((own_small p0).toInt64) * ((own_small p3).toInt64)) + (((own_small p1).toInt64) * ((own_small p4).toInt64))) + (((own_small p2).toInt64) * ((own_small p5).toInt64))))), .second] [(.int (0 : Int32))]))
  refine Rch.st (fun _ hr => XS.ifNo X18.here hx rfl (hb hby at_114) rfl ((if0 _ _).trans (teq (by decide : (0 : Int32) = (0 : Int32))).2) hr) ?_
  show Rch p.tables e below _ (T18.setTop (mkF m 117 #[.val (.int p0), .val (.int p1), .val (.int p2), .val (.int p3), .val (.int p4), .val (.int p5), .val (.int (own_small p0)), .val (.int (own_small p1)), .val (.int (own_small p2)), .val (.int (own_small p3)), .val (.int (own_small p4)), .val (.int (own_small p5)), .val (.ref b7), .val (.ref b12), .val (.long (((((own_small p0).toInt64) * ((own_small p3).toInt64)) + (((own_small p1).toInt64) * ((own_small p4).toInt64))) + (((own_small p2).toInt64) * ((own_small p5).toInt64)))), .second, .val (.double (FP.l2d (((((own_small p0).toInt64) * ((own_small p3).toInt64)) + (((own_small p1).toInt64) * ((own_small p4).toInt64))) + (((own_small p2).toInt64) * ((own_small p5).toInt64))))), .second] []))
  refine Rch.st (fun _ hr => XS.aload X18.here hx rfl (hb hby at_117) rfl rfl hr) ?_
  show Rch p.tables e below _ (T18.setTop (mkF m 119 #[.val (.int p0), .val (.int p1), .val (.int p2), .val (.int p3), .val (.int p4), .val (.int p5), .val (.int (own_small p0)), .val (.int (own_small p1)), .val (.int (own_small p2)), .val (.int (own_small p3)), .val (.int (own_small p4)), .val (.int (own_small p5)), .val (.ref b7), .val (.ref b12), .val (.long (((((own_small p0).toInt64) * ((own_small p3).toInt64)) + (((own_small p1).toInt64) * ((own_small p4).toInt64))) + (((own_small p2).toInt64) * ((own_small p5).toInt64)))), .second, .val (.double (FP.l2d (((((own_small p0).toInt64) * ((own_small p3).toInt64)) + (((own_small p1).toInt64) * ((own_small p4).toInt64))) + (((own_small p2).toInt64) * ((own_small p5).toInt64))))), .second] [(.ref b12)]))
  refine Rch.st (fun _ hr => XS.aload X18.here hx rfl (hb hby at_119) rfl rfl hr) ?_
  show Rch p.tables e below _ (T18.setTop (mkF m 121 #[.val (.int p0), .val (.int p1), .val (.int p2), .val (.int p3), .val (.int p4), .val (.int p5), .val (.int (own_small p0)), .val (.int (own_small p1)), .val (.int (own_small p2)), .val (.int (own_small p3)), .val (.int (own_small p4)), .val (.int (own_small p5)), .val (.ref b7), .val (.ref b12), .val (.long (((((own_small p0).toInt64) * ((own_small p3).toInt64)) + (((own_small p1).toInt64) * ((own_small p4).toInt64))) + (((own_small p2).toInt64) * ((own_small p5).toInt64)))), .second, .val (.double (FP.l2d (((((own_small p0).toInt64) * ((own_small p3).toInt64)) + (((own_small p1).toInt64) * ((own_small p4).toInt64))) + (((own_small p2).toInt64) * ((own_small p5).toInt64))))), .second] [(.ref b7), (.ref b12)]))
  obtain ⟨cq23, kq23, q23a, q23b, q23c⟩ := isOf hZ e18 R15_0
  obtain ⟨_, _, ⟨T23, L23, k23, n23⟩, -, X23, ⟨Lc23, hQ23, l23, y23, z23⟩, st23⟩ := X18.virtualBack hx (y := (⟨"com/example/saanich/saanich/geometry/Vector", "dot", "(Lcom/example/saanich/saanich/geometry/Vector;)D"⟩ : MethodName)) (z := (⟨"com/example/saanich/saanich/geometry/Vector", "dot", "(Lcom/example/saanich/saanich/geometry/Vector;)D"⟩ : MethodName)) hown (mvT hZ (own_w hw 24 rfl)) (mvT hZ (own_w hw 25 rfl)) (notFace_of_selects (args := #[]) (mvT hZ (own_w hw 27 rfl))) (mvT hZ (own_w hw 27 rfl)) (mvT hZ (own_w hw 26 rfl)) (by decide) (backOf (W := 0) (cdot l Z a0 hw [] b12 b7 (FP.i2d (own_small p3)) (FP.i2d (own_small p4)) (FP.i2d (own_small p5)) (FP.i2d (own_small p0)) (FP.i2d (own_small p1)) (FP.i2d (own_small p2)) T15.heap n0 R15_1 R15_2 R15_3 f20 f21 f22 hv0 hv1 hv2 hv3 hv4) hZ (own_w hw 28 rfl) (own_w hw 6 rfl) (by decide) (by decide)) q23a q23c (g := (mkF m 121 #[.val (.int p0), .val (.int p1), .val (.int p2), .val (.int p3), .val (.int p4), .val (.int p5), .val (.int (own_small p0)), .val (.int (own_small p1)), .val (.int (own_small p2)), .val (.int (own_small p3)), .val (.int (own_small p4)), .val (.int (own_small p5)), .val (.ref b7), .val (.ref b12), .val (.long (((((own_small p0).toInt64) * ((own_small p3).toInt64)) + (((own_small p1).toInt64) * ((own_small p4).toInt64))) + (((own_small p2).toInt64) * ((own_small p5).toInt64)))), .second, .val (.double (FP.l2d (((((own_small p0).toInt64) * ((own_small p3).toInt64)) + (((own_small p1).toInt64) * ((own_small p4).toInt64))) + (((own_small p2).toInt64) * ((own_small p5).toInt64))))), .second] [(.ref b7), (.ref b12)])) rfl (by rw [hml]; rfl) (Steps.refl _) (argsL := [(.ref b7)]) (rest := []) (lenOf pd_3 rfl) rfl (by show 2 * 0 + _ ≤ _; exact Nat.le_of_eq rfl) (hb hby at_121) (fun _ _ => ⟨rfl, e18, (by decide : 2 + 0 ≤ _), (by decide : 6 + 0 ≤ _)⟩)
  dsimp only [Pt.U, Pt.locs, Pt.cells, Pt.slots] at X23 l23 y23 z23 st23 hQ23
  subst l23 y23 z23
  obtain ⟨rfl, N23q, e23⟩ := hQ23
  have N23 := Fr.app N18 N23q
  refine Rch.tr st23 ?_
  show Rch p.tables e below _ (T23.setTop (mkF m 124 #[.val (.int p0), .val (.int p1), .val (.int p2), .val (.int p3), .val (.int p4), .val (.int p5), .val (.int (own_small p0)), .val (.int (own_small p1)), .val (.int (own_small p2)), .val (.int (own_small p3)), .val (.int (own_small p4)), .val (.int (own_small p5)), .val (.ref b7), .val (.ref b12), .val (.long (((((own_small p0).toInt64) * ((own_small p3).toInt64)) + (((own_small p1).toInt64) * ((own_small p4).toInt64))) + (((own_small p2).toInt64) * ((own_small p5).toInt64)))), .second, .val (.double (FP.l2d (((((own_small p0).toInt64) * ((own_small p3).toInt64)) + (((own_small p1).toInt64) * ((own_small p4).toInt64))) + (((own_small p2).toInt64) * ((own_small p5).toInt64))))), .second] [(.double (FP.dadd (FP.dadd (FP.dmul (FP.i2d (own_small p3)) (FP.i2d (own_small p0))) (FP.dmul (FP.i2d (own_small p4)) (FP.i2d (own_small p1)))) (FP.dmul (FP.i2d (own_small p5)) (FP.i2d (own_small p2)))))]))
  refine Rch.st (fun _ hr => XS.dload X23.here hx rfl (hb hby at_124) rfl hr) ?_
  show Rch p.tables e below _ (T23.setTop (mkF m 126 #[.val (.int p0), .val (.int p1), .val (.int p2), .val (.int p3), .val (.int p4), .val (.int p5), .val (.int (own_small p0)), .val (.int (own_small p1)), .val (.int (own_small p2)), .val (.int (own_small p3)), .val (.int (own_small p4)), .val (.int (own_small p5)), .val (.ref b7), .val (.ref b12), .val (.long (((((own_small p0).toInt64) * ((own_small p3).toInt64)) + (((own_small p1).toInt64) * ((own_small p4).toInt64))) + (((own_small p2).toInt64) * ((own_small p5).toInt64)))), .second, .val (.double (FP.l2d (((((own_small p0).toInt64) * ((own_small p3).toInt64)) + (((own_small p1).toInt64) * ((own_small p4).toInt64))) + (((own_small p2).toInt64) * ((own_small p5).toInt64))))), .second] [(.double (FP.l2d (((((own_small p0).toInt64) * ((own_small p3).toInt64)) + (((own_small p1).toInt64) * ((own_small p4).toInt64))) + (((own_small p2).toInt64) * ((own_small p5).toInt64))))), (.double (FP.dadd (FP.dadd (FP.dmul (FP.i2d (own_small p3)) (FP.i2d (own_small p0))) (FP.dmul (FP.i2d (own_small p4)) (FP.i2d (own_small p1)))) (FP.dmul (FP.i2d (own_small p5)) (FP.i2d (own_small p2)))))]))
  refine Rch.st (fun _ hr => XS.dcmpS X23.here hx rfl (hb hby at_126) rfl hcv hr) ?_
  show Rch p.tables e below _ (T23.setTop (mkF m 127 #[.val (.int p0), .val (.int p1), .val (.int p2), .val (.int p3), .val (.int p4), .val (.int p5), .val (.int (own_small p0)), .val (.int (own_small p1)), .val (.int (own_small p2)), .val (.int (own_small p3)), .val (.int (own_small p4)), .val (.int (own_small p5)), .val (.ref b7), .val (.ref b12), .val (.long (((((own_small p0).toInt64) * ((own_small p3).toInt64)) + (((own_small p1).toInt64) * ((own_small p4).toInt64))) + (((own_small p2).toInt64) * ((own_small p5).toInt64)))), .second, .val (.double (FP.l2d (((((own_small p0).toInt64) * ((own_small p3).toInt64)) + (((own_small p1).toInt64) * ((own_small p4).toInt64))) + (((own_small p2).toInt64) * ((own_small p5).toInt64))))), .second] [(.int (0 : Int32))]))
  refine Rch.st (fun _ hr => XS.ifNo X23.here hx rfl (hb hby at_127) rfl ((if0 _ _).trans (teq (by decide : (0 : Int32) = (0 : Int32))).2) hr) ?_
  show Rch p.tables e below _ (T23.setTop (mkF m 130 #[.val (.int p0), .val (.int p1), .val (.int p2), .val (.int p3), .val (.int p4), .val (.int p5), .val (.int (own_small p0)), .val (.int (own_small p1)), .val (.int (own_small p2)), .val (.int (own_small p3)), .val (.int (own_small p4)), .val (.int (own_small p5)), .val (.ref b7), .val (.ref b12), .val (.long (((((own_small p0).toInt64) * ((own_small p3).toInt64)) + (((own_small p1).toInt64) * ((own_small p4).toInt64))) + (((own_small p2).toInt64) * ((own_small p5).toInt64)))), .second, .val (.double (FP.l2d (((((own_small p0).toInt64) * ((own_small p3).toInt64)) + (((own_small p1).toInt64) * ((own_small p4).toInt64))) + (((own_small p2).toInt64) * ((own_small p5).toInt64))))), .second] []))
  refine Rch.st (fun _ hr => XS.iconst X23.here hx rfl (hb hby at_130) hr) ?_
  show Rch p.tables e below _ (T23.setTop (mkF m 131 #[.val (.int p0), .val (.int p1), .val (.int p2), .val (.int p3), .val (.int p4), .val (.int p5), .val (.int (own_small p0)), .val (.int (own_small p1)), .val (.int (own_small p2)), .val (.int (own_small p3)), .val (.int (own_small p4)), .val (.int (own_small p5)), .val (.ref b7), .val (.ref b12), .val (.long (((((own_small p0).toInt64) * ((own_small p3).toInt64)) + (((own_small p1).toInt64) * ((own_small p4).toInt64))) + (((own_small p2).toInt64) * ((own_small p5).toInt64)))), .second, .val (.double (FP.l2d (((((own_small p0).toInt64) * ((own_small p3).toInt64)) + (((own_small p1).toInt64) * ((own_small p4).toInt64))) + (((own_small p2).toInt64) * ((own_small p5).toInt64))))), .second] [(.int (1 : Int32))]))
  refine Rch.st (fun _ hr => XS.goto X23.here hx rfl (pc0 := 131) (pc' := 135) rfl (hb hby at_131) (by decide) (by decide) hr) ?_
  show Rch p.tables e below _ (T23.setTop (mkF m 135 #[.val (.int p0), .val (.int p1), .val (.int p2), .val (.int p3), .val (.int p4), .val (.int p5), .val (.int (own_small p0)), .val (.int (own_small p1)), .val (.int (own_small p2)), .val (.int (own_small p3)), .val (.int (own_small p4)), .val (.int (own_small p5)), .val (.ref b7), .val (.ref b12), .val (.long (((((own_small p0).toInt64) * ((own_small p3).toInt64)) + (((own_small p1).toInt64) * ((own_small p4).toInt64))) + (((own_small p2).toInt64) * ((own_small p5).toInt64)))), .second, .val (.double (FP.l2d (((((own_small p0).toInt64) * ((own_small p3).toInt64)) + (((own_small p1).toInt64) * ((own_small p4).toInt64))) + (((own_small p2).toInt64) * ((own_small p5).toInt64))))), .second] [(.int (1 : Int32))]))
  obtain ⟨fs, hr, hrun, hended, hW, hsame⟩ := X23.leave (v := some (.int (1 : Int32))) (fun h => by rw [Bd.returns] at h; cases h)
  refine Rch.fin (u := T23.setFrames fs) (retN X23 hx (t := .boolean) Bd.returns (by simp) (hb hby at_135) hr) ⟨_, hrun, hended, _, _, rfl, ?_, ⟨_, rfl⟩, hW, hsame.mono (by decide) (by decide)⟩
  show Q_claw Z p0 p1 p2 p3 p4 p5 h0 n0 _ T23.heap _
  rw [e23]
  exact ⟨rfl, N23, K17, Op15⟩
set_option maxRecDepth 65536 in
set_option maxHeartbeats 40000000 in
theorem comes_1 {Post : Tables → Env → Array Value → State → Outcome → State → Prop} (hpost : ∀ tb e args s v u, (limb_1_1.after args s (.returned v) u = true ∧ limb_1_2.after args s (.returned v) u = true ∧ True) → FrameEnd s (.returned v) u (Jvm.fieldLocs frame_1_writes args s ++ Jvm.arrayLocs frame_1_arrays args s ++ Jvm.staticLocs frame_1_statics s) 16 128 → Post tb e args s (.returned v) u) :
    ArmFor flags0 classFile x code maxLocals ret World_1 tables_1 room_1 Calls_1 rest_1 Pre_1 Post := by
  intro l hfl _ _ p e ha hc hk s m args below hf hA hF happ hP
  obtain ⟨hcalls, hrest, hpre⟩ := hP
  obtain ⟨-, -, -, hnamed, -, -, -, hat⟩ := (Spec.applies_iff hf).mp happ
  obtain ⟨hg, hn⟩ := and_e (Cond.before_iff.mp (show (Jvm.Cond.and given_1 narrow_1).before args s = true from hpre))
  obtain ⟨g1, g2⟩ := and_e hg
  obtain ⟨g3, g4⟩ := and_e g2
  obtain ⟨g5, g6⟩ := and_e g4
  obtain ⟨g7, g8⟩ := and_e g6
  obtain ⟨g9, g10⟩ := and_e g8
  obtain ⟨g11, g12⟩ := and_e g10
  obtain ⟨v0, v1, v2, v3, v4, v5, rfl⟩ : ∃ v0 v1 v2 v3 v4 v5 : Value, args = #[v0, v1, v2, v3, v4, v5] := by
    have hs : args.size = 6 := by simpa [Cond.value, given_1] using g1
    obtain ⟨L⟩ := args
    match L, hs with
    | [v0, v1, v2, v3, v4, v5], _ => exact ⟨v0, v1, v2, v3, v4, v5, rfl⟩
  have hw := fun d (hd : d ∈ tables_1) => atoms_spec (ws := Jvm.Cond.code x code maxLocals ret :: tables_1) hat d (List.mem_cons_of_mem _ hd)
  have hfit : Fit s := fun {y c} hc i hi => by
    obtain ⟨ha, rfl⟩ := Array.getElem?_eq_some_iff.mp hc
    have q := List.all_eq_true.mp ((Array.all_eq_true_iff_forall_mem.mp hF) _ (Array.getElem_mem ha)) i (List.mem_range.mpr hi)
    simpa [Array.getElem?_eq_getElem hi] using q
  obtain ⟨i0, ei0⟩ := is_v g3
  obtain rfl : v0 = (.int i0) := Option.some.inj ei0
  obtain ⟨i1, ei1⟩ := is_v g5
  obtain rfl : v1 = (.int i1) := Option.some.inj ei1
  obtain ⟨i2, ei2⟩ := is_v g7
  obtain rfl : v2 = (.int i2) := Option.some.inj ei2
  obtain ⟨i3, ei3⟩ := is_v g9
  obtain rfl : v3 = (.int i3) := Option.some.inj ei3
  obtain ⟨i4, ei4⟩ := is_v g11
  obtain rfl : v4 = (.int i4) := Option.some.inj ei4
  obtain ⟨i5, ei5⟩ := is_v g12
  obtain rfl : v5 = (.int i5) := Option.some.inj ei5
  obtain ⟨hu0, hu1, hu2, hu3, hu4, hcu⟩ := own_dot (own_small i0) (own_small i1) (own_small i2) (own_small i3) (own_small i4) (own_small i5) (own_small_b i0) (own_small_b i1) (own_small_b i2) (own_small_b i3) (own_small_b i4) (own_small_b i5)
  obtain ⟨hv0, hv1, hv2, hv3, hv4, hcv0⟩ := own_dot (own_small i3) (own_small i4) (own_small i5) (own_small i0) (own_small i1) (own_small i2) (own_small_b i3) (own_small_b i4) (own_small_b i5) (own_small_b i0) (own_small_b i1) (own_small_b i2)
  have hcv := hcv0
  rw [Int64.mul_comm (own_small i3).toInt64 (own_small i0).toInt64, Int64.mul_comm (own_small i4).toInt64 (own_small i1).toInt64, Int64.mul_comm (own_small i5).toInt64 (own_small i2).toInt64] at hcv
  obtain ⟨n, o, h1, h2, h3, _, L, rfl, hQ, hq⟩ := claw l s _ hw tables_1 i0 i1 i2 i3 i4 i5 s.heap s.heap.size  (Old.start s) hu0 hu1 hu2 hu3 hu4 hv0 hv1 hv2 hv3 hv4 hcu hcv p e ha hc hk s m _ below hf ((Spec.applies_iff_loose hf).mp happ).1 ⟨rfl, State.Warmed39.refl s, rfl⟩ trivial
  obtain ⟨rfl, N, -⟩ := hQ
  refine ⟨n, _, h1, h2, h3, hpost _ _ _ _ _ _ ⟨Cond.after_iff.mpr rfl, Cond.after_iff.mpr (eq_i res_at (Term.int_eval (1)) rfl), trivial⟩ ⟨hq.1, hq.2.1, (hq.2.2.sift fun y hy => Or.inr (N y hy)).mono (by decide) (by decide)⟩⟩
theorem main_1_1 : Claimed_1_1 := comes_1 fun _ _ _ _ _ _ h hF => ⟨h.1, hF⟩
theorem main_1_2 : Claimed_1_2 := comes_1 fun _ _ _ _ _ _ h hF => ⟨h.2.1, hF⟩
end Jvm.Pilot.@@N@@
namespace Jvm.Pilot.@@N@@
open Jvm Jvm.ClassFile Sem Op Lib Jvm.Free Jvm.Stand Jvm.Pilot.@@N@@.Jvm.D
/-! MADE BY PROGRAM (witnessworld.py) out of the Statement's table words and the real class files: 10 classes; the members and pool entries that the words name. The judged class is class 1, her method 2. -/
namespace start1
open Jvm.ClassFile
def u (s : String) : CpInfo := .utf8 (stringToUtf16 s)
/-- a pool by its gaps: so many unusable entries, then the entry; so many at the end -/
def gap : Nat → List CpInfo → List CpInfo
  | 0, r => r
  | n + 1, r => .unusable :: gap n r
def poolList (es : List (Nat × CpInfo)) (last : Nat) : List CpInfo := es.foldr (fun e r => gap e.1 (e.2 :: r)) (gap last [])
def pool (es : List (Nat × CpInfo)) (last : Nat) : Array CpInfo := ⟨poolList es last⟩
def fileOf (pool : Array CpInfo) (this : Nat) (attrs : Array Attribute := #[]) (ms : Array MethodInfo := #[]) (fl : Nat := 33) (sup : Nat := 0) (ifs : Array Nat := #[]) (fds : Array FieldInfo := #[]) : ClassFile where
  minorVersion := 0
  majorVersion := 65
  constantPool := pool
  accessFlags := fl
  thisClass := this
  superClass := sup
  interfaces := ifs
  fields := fds
  methods := ms
  attributes := attrs
def plain (name : String) (sup : Option ClassId) : Class where
  name := name
  kind := .ordinary
  loader := none
  accessFlags := 33
  super := sup
  interfaces := #[]
  cf := none
  fields := #[]
  methods := #[]
  instanceTypes := #[]
  staticTypes := #[]
  resolved := #[]
  callSites := []
  init := .initialized
  statics := none
  mirror := none

def pool0 : Array CpInfo := pool [(5, u "<init>"), (0, u "()V"), (1, .class_ 10), (1, u "java/lang/Object")] 113

def k0c0 : Code := { maxStack := 0, maxLocals := 1, code := object_method_1_code, exceptionTable := #[], attributes := #[] }
def k0m0 : Method := { name := "<init>", desc := "()V", sig := { parameters := [], returnType := none }, accessFlags := 1, code := some k0c0 }
/-- java/lang/Object -/
def k0 : Class := { plain "java/lang/Object" none with
  accessFlags := 33
  interfaces := #[]
  cf := some (fileOf pool0 8 #[] #[{ accessFlags := 1, nameIndex := 5, descriptorIndex := 6, attributes := #[] }] 33 0 #[] #[])
  fields := #[]
  methods := #[k0m0]
  instanceTypes := #[]
  staticTypes := #[]
  resolved := Array.replicate 124 none
  statics := none }

def pool1 : Array CpInfo := pool [(2, .class_ 4), (1, u "java/lang/Object"), (0, u "<init>"), (0, u "()V"), (0, .methodref 8 9), (0, .class_ 10), (0, .nameAndType 11 12), (0, u "com/example/saanich/saanich/geometry/VectorDotPinLaw"), (0, u "small"), (0, u "(I)I"), (0, .class_ 14), (0, u "com/example/saanich/saanich/geometry/Vector"), (0, .methodref 13 16), (0, .nameAndType 5 17), (0, u "(DDD)V"), (0, .methodref 13 19), (0, .nameAndType 20 21), (0, u "dot"), (0, u "(Lcom/example/saanich/saanich/geometry/Vector;)D"), (2, u "law"), (0, u "(IIIIII)Z")] 3

def k1m0 : Method := { name := "<init>", desc := "()V", sig := { parameters := [], returnType := none }, accessFlags := 1, code := none }
def k1c1 : Code := { maxStack := 2, maxLocals := 1, code := method_2_code, exceptionTable := #[], attributes := #[] }
def k1m1 : Method := { name := "small", desc := "(I)I", sig := { parameters := [.int], returnType := some .int }, accessFlags := 10, code := some k1c1 }
def k1c2 : Code := { maxStack := 8, maxLocals := 18, code := code, exceptionTable := #[], attributes := #[] }
def k1m2 : Method := { name := "law", desc := "(IIIIII)Z", sig := { parameters := [.int, .int, .int, .int, .int, .int], returnType := some .boolean }, accessFlags := 9, code := some k1c2 }
/-- com/example/saanich/saanich/geometry/VectorDotPinLaw -/
def k1 : Class := { plain "com/example/saanich/saanich/geometry/VectorDotPinLaw" (some 0) with
  accessFlags := 49
  interfaces := #[]
  cf := some (fileOf pool1 8 #[] #[{ accessFlags := 1, nameIndex := 5, descriptorIndex := 6, attributes := #[] }, { accessFlags := 10, nameIndex := 11, descriptorIndex := 12, attributes := #[] }, { accessFlags := 9, nameIndex := 24, descriptorIndex := 25, attributes := #[] }] 49 2 #[] #[])
  fields := #[]
  methods := #[k1m0, k1m1, k1m2]
  instanceTypes := #[]
  staticTypes := #[]
  resolved := Array.replicate 29 none
  statics := none }

def pool2 : Array CpInfo := pool [(1, .methodref 2 3), (0, .class_ 4), (0, .nameAndType 5 6), (0, u "java/lang/Object"), (0, u "<init>"), (0, u "()V"), (0, .class_ 8), (0, u "java/lang/Record")] 13

def k2c0 : Code := { maxStack := 1, maxLocals := 1, code := jdk_30_method_1_code, exceptionTable := #[], attributes := #[] }
def k2m0 : Method := { name := "<init>", desc := "()V", sig := { parameters := [], returnType := none }, accessFlags := 4, code := some k2c0 }
/-- java/lang/Record -/
def k2 : Class := { plain "java/lang/Record" (some 0) with
  accessFlags := 1057
  interfaces := #[]
  cf := some (fileOf pool2 7 #[] #[{ accessFlags := 4, nameIndex := 5, descriptorIndex := 6, attributes := #[] }] 1057 2 #[] #[])
  fields := #[]
  methods := #[k2m0]
  instanceTypes := #[]
  staticTypes := #[]
  resolved := Array.replicate 22 none
  statics := none }

def pool3 : Array CpInfo := pool [(1, .methodref 2 3), (0, .class_ 4), (0, .nameAndType 5 6), (0, u "java/lang/Record"), (0, u "<init>"), (0, u "()V"), (0, .fieldref 8 9), (0, .class_ 10), (0, .nameAndType 11 12), (0, u "com/example/saanich/saanich/geometry/Vector"), (0, u "x"), (0, u "D"), (0, .fieldref 8 14), (0, .nameAndType 15 12), (0, u "y"), (0, .fieldref 8 17), (0, .nameAndType 18 12), (0, u "z"), (14, u "(DDD)V"), (2, u "dot"), (0, u "(Lcom/example/saanich/saanich/geometry/Vector;)D")] 80

def k3c0 : Code := { maxStack := 3, maxLocals := 7, code := prog_35_method_1_code, exceptionTable := #[], attributes := #[] }
def k3m0 : Method := { name := "<init>", desc := "(DDD)V", sig := { parameters := [.double, .double, .double], returnType := none }, accessFlags := 0, code := some k3c0 }
def k3c1 : Code := { maxStack := 6, maxLocals := 2, code := prog_35_method_3_code, exceptionTable := #[], attributes := #[] }
def k3m1 : Method := { name := "dot", desc := "(Lcom/example/saanich/saanich/geometry/Vector;)D", sig := { parameters := [(.object "com/example/saanich/saanich/geometry/Vector")], returnType := some .double }, accessFlags := 0, code := some k3c1 }
/-- com/example/saanich/saanich/geometry/Vector -/
def k3 : Class := { plain "com/example/saanich/saanich/geometry/Vector" (some 2) with
  accessFlags := 48
  interfaces := #[]
  cf := some (fileOf pool3 8 #[] #[{ accessFlags := 0, nameIndex := 5, descriptorIndex := 33, attributes := #[] }, { accessFlags := 0, nameIndex := 36, descriptorIndex := 37, attributes := #[] }] 48 2 #[] #[{ accessFlags := 18, nameIndex := 11, descriptorIndex := 12, attributes := #[] }, { accessFlags := 18, nameIndex := 15, descriptorIndex := 12, attributes := #[] }, { accessFlags := 18, nameIndex := 18, descriptorIndex := 12, attributes := #[] }])
  fields := #[{ name := "x", type := .double, accessFlags := 18, slot := 0, constantValue := 0 }, { name := "y", type := .double, accessFlags := 18, slot := 1, constantValue := 0 }, { name := "z", type := .double, accessFlags := 18, slot := 2, constantValue := 0 }]
  methods := #[k3m0, k3m1]
  instanceTypes := #[.double, .double, .double]
  staticTypes := #[]
  resolved := Array.replicate 118 none
  statics := none }

def pool4 : Array CpInfo := pool [(1, u "java/lang/Cloneable"), (0, .class_ 1), (0, u "java/lang/Object"), (0, .class_ 3)] 3

/-- java/lang/Cloneable -/
def k4 : Class := { plain "java/lang/Cloneable" (some 0) with
  accessFlags := 1537
  interfaces := #[]
  cf := some (fileOf pool4 2 #[] #[] 1537 4 #[] #[])
  fields := #[]
  methods := #[]
  instanceTypes := #[]
  staticTypes := #[]
  resolved := Array.replicate 8 none
  statics := none }

def pool5 : Array CpInfo := pool [(1, u "java/io/Serializable"), (0, .class_ 1), (0, u "java/lang/Object"), (0, .class_ 3)] 3

/-- java/io/Serializable -/
def k5 : Class := { plain "java/io/Serializable" (some 0) with
  accessFlags := 1537
  interfaces := #[]
  cf := some (fileOf pool5 2 #[] #[] 1537 4 #[] #[])
  fields := #[]
  methods := #[]
  instanceTypes := #[]
  staticTypes := #[]
  resolved := Array.replicate 8 none
  statics := none }

/-- the primitive byte -/
def k6 : Class := { plain "byte" none with kind := .primitive 'B', accessFlags := 0x411 }
/-- [B -/
def k7 : Class := { plain "[B" (some 0) with kind := .array 6 .byte, interfaces := #[4, 5], accessFlags := 1041 }

/-- the primitive int -/
def k8 : Class := { plain "int" none with kind := .primitive 'I', accessFlags := 0x411 }
/-- [I -/
def k9 : Class := { plain "[I" (some 0) with kind := .array 8 .int, interfaces := #[4, 5], accessFlags := 1041 }

def heap : Heap := #[]
def classes : Array Class := #[k0, k1, k2, k3, k4, k5, k6, k7, k8, k9]
def interned : List (Array UInt16 × Addr) := []
def slotsUsed : Nat := 0
def theMethod : MethodId := ⟨1, 2⟩
def args0 : Array Value := #[.int 1, .int 2, .int 3, .int 4, .int 5, .int 6]
def aboutOver (below : List Frame) : State where
  vm := { classes := classes, interned := interned.toArray }
  heap := heap
  slotsUsed := slotsUsed
  threads := #[{ frames := .invoking theMethod args0 :: below }]
def below0 : List Frame := [.native { method := ⟨0, 0⟩, args := #[] }]
def about1 : State := aboutOver below0
def p0 : Program := .bare "" "" ""
def e0 : Env := launch0.env 0 0 0
theorem w_frames : about1.frames = Frame.invoking theMethod args0 :: below0 := rfl
set_option maxRecDepth 65536 in
theorem w_args : argsFit about1.vm theMethod args0 = true := by decide +kernel
set_option maxRecDepth 65536 in
theorem w_heap : heapFits about1 = true := by decide +kernel
set_option maxRecDepth 65536 in
theorem w_runnable : about1.curStatus? = some .runnable := by decide +kernel
set_option maxRecDepth 65536 in
theorem w_alone : about1.alone = true := by decide +kernel
set_option maxRecDepth 65536 in
theorem w_named : about1.methodNamed? x = some theMethod := by decide +kernel
set_option maxRecDepth 65536 in
theorem w_hears : about1.hears theMethod below0 = true := by decide +kernel
set_option maxRecDepth 65536 in
theorem w_ripe : about1.ripe theMethod args0 below0 = true := by decide +kernel
theorem w_running : about1.status = .running := rfl
set_option maxRecDepth 65536 in
theorem w_room : about1.hasRoom e0.platform room_1 = true :=
  launch0.hasRoom_least _ room_1 (by decide +kernel) (by decide +kernel) (by decide +kernel) (by decide +kernel) (by decide +kernel) (by decide +kernel)
theorem allAtoms_all (ts : List Jvm.Cond) (a : Array Jvm.Value) (st : Jvm.State) : (allAtoms ts).before a st = ts.all (fun c => c.before a st) := by
  induction ts with
  | nil => rfl
  | cons c t ih =>
    show (Jvm.Cond.and c (allAtoms t)).before a st = _
    rw [Jvm.Cond.before_and, ih, List.all_cons]
def words1 : List Jvm.Cond := Jvm.Cond.code x code maxLocals ret :: tables_1
/-- a 'code' word, met by the world's own term for the bytes: nothing is compared byte by byte -/
theorem code_word {y : MethodName} {bytes : ByteArray} {mx : Nat} {rt : Option FieldType} {a : Array Value} {s : State} {m : MethodId} {meth : Method} {c : Code} (h1 : s.methodNamed? y = some m) (h2 : s.vm.method? m = some meth) (h3 : meth.code = some c) (h4 : c.code = bytes)
    (h5 : (c.maxLocals == mx && c.exceptionTable.isEmpty && decide (c.maxStack ≤ mostOperands) && decide (meth.sig.returnType = rt) && !meth.locks && decide (parseMethodDescriptor y.desc = some meth.sig)) = true) : (Jvm.Cond.code y bytes mx rt).before a s = true := by
  simp only [Bool.and_eq_true, beq_iff_eq, Bool.not_eq_true', decide_eq_true_eq] at h5
  obtain ⟨⟨⟨⟨⟨g1, g2⟩, g3⟩, g4⟩, g5⟩, g6⟩ := h5
  simp [Cond.before, Cond.holds, Cond.value, h1, h2, h3, h4, g1, g2, g3, g4, g5, g6]
def isCode : Jvm.Cond → Bool
  | .code _ _ _ _ => true
  | _ => false
theorem all_split {L : List Jvm.Cond} {P : Jvm.Cond → Bool} (h1 : L.all (fun c => isCode c || P c) = true) (h2 : ∀ c ∈ L.filter isCode, P c = true) : L.all P = true := by
  refine List.all_eq_true.mpr fun c hc => ?_
  have h := List.all_eq_true.mp h1 c hc
  rcases Bool.eq_false_or_eq_true (isCode c) with hi | hi
  · exact h2 c (List.mem_filter.mpr ⟨hc, hi⟩)
  · simpa [hi] using h
set_option maxRecDepth 65536 in
theorem w_c0 : (Jvm.Cond.code x code maxLocals ret).before args0 about1 = true := code_word (m := ⟨1, 2⟩) (meth := k1m2) (c := k1c2) (by decide +kernel) rfl rfl rfl (by decide +kernel)
set_option maxRecDepth 65536 in
theorem w_c1 : (Jvm.Cond.code ({ cls := "com/example/saanich/saanich/geometry/VectorDotPinLaw", name := "small", desc := "(I)I" } : Jvm.MethodName) method_2_code (1 : Nat) (Option.some Jvm.ClassFile.FieldType.int)).before args0 about1 = true := code_word (m := ⟨1, 1⟩) (meth := k1m1) (c := k1c1) (by decide +kernel) rfl rfl rfl (by decide +kernel)
set_option maxRecDepth 65536 in
theorem w_c2 : (Jvm.Cond.code ({ cls := "com/example/saanich/saanich/geometry/Vector", name := "<init>", desc := "(DDD)V" } : Jvm.MethodName) prog_35_method_1_code (7 : Nat) (Option.none : Option Jvm.ClassFile.FieldType)).before args0 about1 = true := code_word (m := ⟨3, 0⟩) (meth := k3m0) (c := k3c0) (by decide +kernel) rfl rfl rfl (by decide +kernel)
set_option maxRecDepth 65536 in
theorem w_c3 : (Jvm.Cond.code ({ cls := "java/lang/Record", name := "<init>", desc := "()V" } : Jvm.MethodName) jdk_30_method_1_code (1 : Nat) (Option.none : Option Jvm.ClassFile.FieldType)).before args0 about1 = true := code_word (m := ⟨2, 0⟩) (meth := k2m0) (c := k2c0) (by decide +kernel) rfl rfl rfl (by decide +kernel)
set_option maxRecDepth 65536 in
theorem w_c4 : (Jvm.Cond.code ({ cls := "java/lang/Object", name := "<init>", desc := "()V" } : Jvm.MethodName) object_method_1_code (1 : Nat) (Option.none : Option Jvm.ClassFile.FieldType)).before args0 about1 = true := code_word (m := ⟨0, 0⟩) (meth := k0m0) (c := k0c0) (by decide +kernel) rfl rfl rfl (by decide +kernel)
set_option maxRecDepth 65536 in
theorem w_c5 : (Jvm.Cond.code ({ cls := "com/example/saanich/saanich/geometry/Vector", name := "dot", desc := "(Lcom/example/saanich/saanich/geometry/Vector;)D" } : Jvm.MethodName) prog_35_method_3_code (2 : Nat) (Option.some Jvm.ClassFile.FieldType.double)).before args0 about1 = true := code_word (m := ⟨3, 1⟩) (meth := k3m1) (c := k3c1) (by decide +kernel) rfl rfl rfl (by decide +kernel)
def codes1 : List Jvm.Cond := [Jvm.Cond.code x code maxLocals ret, Jvm.Cond.code ({ cls := "com/example/saanich/saanich/geometry/VectorDotPinLaw", name := "small", desc := "(I)I" } : Jvm.MethodName) method_2_code (1 : Nat) (Option.some Jvm.ClassFile.FieldType.int), Jvm.Cond.code ({ cls := "com/example/saanich/saanich/geometry/Vector", name := "<init>", desc := "(DDD)V" } : Jvm.MethodName) prog_35_method_1_code (7 : Nat) (Option.none : Option Jvm.ClassFile.FieldType), Jvm.Cond.code ({ cls := "java/lang/Record", name := "<init>", desc := "()V" } : Jvm.MethodName) jdk_30_method_1_code (1 : Nat) (Option.none : Option Jvm.ClassFile.FieldType), Jvm.Cond.code ({ cls := "java/lang/Object", name := "<init>", desc := "()V" } : Jvm.MethodName) object_method_1_code (1 : Nat) (Option.none : Option Jvm.ClassFile.FieldType), Jvm.Cond.code ({ cls := "com/example/saanich/saanich/geometry/Vector", name := "dot", desc := "(Lcom/example/saanich/saanich/geometry/Vector;)D" } : Jvm.MethodName) prog_35_method_3_code (2 : Nat) (Option.some Jvm.ClassFile.FieldType.double)]
set_option maxRecDepth 65536 in
theorem codes_eq : words1.filter isCode = codes1 := rfl
theorem w_codes : ∀ c ∈ words1.filter isCode, c.before args0 about1 = true := by
  rw [codes_eq]
  intro c hc
  simp only [codes1, List.mem_cons, List.not_mem_nil, or_false] at hc
  rcases hc with rfl | rfl | rfl | rfl | rfl | rfl
  · exact w_c0
  · exact w_c1
  · exact w_c2
  · exact w_c3
  · exact w_c4
  · exact w_c5
set_option maxRecDepth 65536 in
theorem w_t1 : (words1.take 24).all (fun c => isCode c || c.before args0 about1) = true := by decide +kernel
set_option maxRecDepth 65536 in
theorem w_t2 : (words1.drop 24).all (fun c => isCode c || c.before args0 about1) = true := by decide +kernel
theorem w_tables : (allAtoms (Jvm.Cond.code x code maxLocals ret :: tables_1)).before args0 about1 = true := by
  rw [allAtoms_all]
  show words1.all (fun c => c.before args0 about1) = true
  refine all_split ?_ w_codes
  rw [← List.take_append_drop 24 words1, List.all_append, w_t1, w_t2]
  rfl
set_option maxRecDepth 65536 in
theorem w_case : (Jvm.Cond.and given_1 narrow_1).before args0 about1 = true := by decide +kernel
theorem w_applies : (headSpec (Jvm.Cond.code x code maxLocals ret :: tables_1) room_1).applies x e0.platform about1 = true :=
  (Spec.applies_iff w_frames).mpr ⟨w_running, w_runnable, w_alone, w_named, w_hears, w_ripe, w_room, w_tables⟩
theorem atStart : AtStart classFile x code maxLocals ret World_1 tables_1 room_1 Calls_1 rest_1 Pre_1 launch0 p0 e0 about1 theMethod args0 below0 :=
  ⟨lists_1, trivial, launch0.admits_env _ _ _, launch0.least_env, fairChoices_fair.cas, fairChoices_fair.clock, w_frames, w_args, w_heap, w_applies, trivial, trivial, w_case⟩
end start1
theorem witness_1 : WitnessClaimed_1 := ⟨start1.p0, start1.e0, start1.about1, start1.theMethod, start1.args0, start1.below0, start1.atStart⟩
end Jvm.Pilot.@@N@@
