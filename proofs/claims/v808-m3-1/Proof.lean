import JvmDerived
import JvmDerived.Pilot.@@N@@Statement
import JvmDerived.Pilot.@@N@@Code
set_option linter.unusedVariables false
set_option linter.unusedSimpArgs false
namespace Jvm.Pilot.@@N@@
open Jvm Jvm.ClassFile Sem Op Lib Jvm.Free Jvm.Stand Jvm.LawKit Jvm.RoadKit Bundle Jvm.Pilot.@@N@@.Jvm.D
theorem own_w {ws : List Jvm.Cond} {a0 : Array Value} {Z : State} (hw : ∀ d ∈ ws, d.before a0 Z = true) (i : Nat) {d : Jvm.Cond} (h : ws[i]? = some d) : d.before a0 Z = true := hw _ (List.mem_of_getElem? h)
/-- the run comes to a state of which P holds -/
def Rch (tb : Tables) (e : Env) (below : List Frame) (P : State → Prop) (t : State) : Prop := ∃ u, Steps tb e below t u ∧ P u
theorem Rch.st {tb : Tables} {e : Env} {below : List Frame} {P : State → Prop} {t t' : State} (h : ∀ target, Steps tb e below t' target → Steps tb e below t target) (k : Rch tb e below P t') : Rch tb e below P t := by
  obtain ⟨u, h1, h2⟩ := k
  exact ⟨u, h u h1, h2⟩
theorem Rch.tr {tb : Tables} {e : Env} {below : List Frame} {P : State → Prop} {t t' : State} (h : Steps tb e below t t') (k : Rch tb e below P t') : Rch tb e below P t := by
  obtain ⟨u, h1, h2⟩ := k
  exact ⟨u, h.trans h1, h2⟩
theorem Rch.fin {tb : Tables} {e : Env} {below : List Frame} {P : State → Prop} {t u : State} (h : Steps tb e below t u) (k : P u) : Rch tb e below P t := ⟨u, h, k⟩
theorem Rch.out {tb : Tables} {e : Env} {below : List Frame} {P : State → Outcome → Prop} {t : State} (h : Rch tb e below (fun u => ∃ o, P u o) t) : ∃ u o, Steps tb e below t u ∧ P u o := by
  obtain ⟨u, h1, o, h2⟩ := h
  exact ⟨u, o, h1, h2⟩
theorem own_eqInt {t : Term} {n : Int32} {args : Array Value} {s : State} (h : (Cond.eq t (.int n)).value args s none s [] = some true) : t.eval args s none [] s = some (.int n) := by
  have hn : (Term.int n).eval args s none [] s = some (.int n) := rfl
  cases hv : t.eval args s none [] s with
  | none => simp [Cond.value, hv] at h
  | some x => cases x <;> simp [Cond.value, hv, hn] at h ⊢; exact h
theorem own_retI {p : Program} {l : Launch} {e : Env} {R : Room} {s : State} {m : MethodId} {args : Array Value} {below : List Frame} {meth : Method} {c : Code} {T : State} {locs : List Loc} {cells slots : Nat} (X : Stand p l e R s m args below meth c T locs cells slots) (hx : p.tables.exec = Jvm.exec) {pc : Nat} {Ls : Array Slot} {z : Int32} {rest : List Value} (hret : meth.sig.returnType = some .int) (hd : decode c.code pc = .ok (.ireturn, 1)) {fs : List Frame}
    (hl : ∀ (f : JFrame) (acts : List Action), f.method = m → f.locked = none → f.entered = [] → (doReturn e (T.setTop f) acts (some (.int z))).1 = T.setFrames fs) : Steps p.tables e below (T.setTop (mkF m pc Ls (.int z :: rest))) (T.setFrames fs) :=
  retOut X hx hret rfl (Or.inl ⟨rfl, Or.inl rfl, z, rfl⟩) hd hl
theorem own_retA {p : Program} {l : Launch} {e : Env} {R : Room} {s : State} {m : MethodId} {args : Array Value} {below : List Frame} {meth : Method} {c : Code} {T : State} {locs : List Loc} {cells slots : Nat} (X : Stand p l e R s m args below meth c T locs cells slots) (hx : p.tables.exec = Jvm.exec) {pc : Nat} {Ls : Array Slot} {w : Value} {t : FieldType} {rest : List Value} (hret : meth.sig.returnType = some t) (hn : narrow t w = w) (ht : t.isReference = true) (hw : w.isRef = true) (hd : decode c.code pc = .ok (.areturn, 1)) {fs : List Frame}
    (hl : ∀ (f : JFrame) (acts : List Action), f.method = m → f.locked = none → f.entered = [] → (doReturn e (T.setTop f) acts (some w)).1 = T.setFrames fs) : Steps p.tables e below (T.setTop (mkF m pc Ls (w :: rest))) (T.setFrames fs) :=
  retOut X hx hret hn (Or.inr (Or.inr (Or.inr (Or.inr ⟨rfl, ht, hw⟩)))) hd hl
theorem own_retJ {p : Program} {l : Launch} {e : Env} {R : Room} {s : State} {m : MethodId} {args : Array Value} {below : List Frame} {meth : Method} {c : Code} {T : State} {locs : List Loc} {cells slots : Nat} (X : Stand p l e R s m args below meth c T locs cells slots) (hx : p.tables.exec = Jvm.exec) {pc : Nat} {Ls : Array Slot} {z : Int64} {rest : List Value} (hret : meth.sig.returnType = some .long) (hd : decode c.code pc = .ok (.lreturn, 1)) {fs : List Frame}
    (hl : ∀ (f : JFrame) (acts : List Action), f.method = m → f.locked = none → f.entered = [] → (doReturn e (T.setTop f) acts (some (.long z))).1 = T.setFrames fs) : Steps p.tables e below (T.setTop (mkF m pc Ls (.long z :: rest))) (T.setFrames fs) :=
  retOut X hx hret rfl (Or.inr (Or.inl ⟨rfl, rfl, z, rfl⟩)) hd hl
theorem own_retD {p : Program} {l : Launch} {e : Env} {R : Room} {s : State} {m : MethodId} {args : Array Value} {below : List Frame} {meth : Method} {c : Code} {T : State} {locs : List Loc} {cells slots : Nat} (X : Stand p l e R s m args below meth c T locs cells slots) (hx : p.tables.exec = Jvm.exec) {pc : Nat} {Ls : Array Slot} {z : UInt64} {rest : List Value} (hret : meth.sig.returnType = some .double) (hd : decode c.code pc = .ok (.dreturn, 1)) {fs : List Frame}
    (hl : ∀ (f : JFrame) (acts : List Action), f.method = m → f.locked = none → f.entered = [] → (doReturn e (T.setTop f) acts (some (.double z))).1 = T.setFrames fs) : Steps p.tables e below (T.setTop (mkF m pc Ls (.double z :: rest))) (T.setFrames fs) :=
  retOut X hx hret rfl (Or.inr (Or.inr (Or.inl ⟨rfl, rfl, z, rfl⟩))) hd hl

/-- a BigDecimal with the compact value x at the scale sc -/
def BDc (Z : State) (h : Heap) (a : Addr) (x : Int64) (sc : Int32) : Prop := Exa Z h a "java/math/BigDecimal" ∧ Fld Z h a "java/math/BigDecimal" "intCompact" "J" (.long x) ∧ Fld Z h a "java/math/BigDecimal" "scale" "I" (.int sc)
theorem BDc.ext {Z : State} {h h' : Heap} {a : Addr} {x : Int64} {sc : Int32} (F : BDc Z h a x sc) (E : Ext h h') : BDc Z h' a x sc := ⟨F.1.ext E, F.2.1.ext E, F.2.2.ext E⟩
theorem BDc.keep {Z : State} {h h' : Heap} {a : Addr} {x : Int64} {sc : Int32} {ws : List Addr} (F : BDc Z h a x sc) (K : Keep h h' ws) (q : a ∉ ws) : BDc Z h' a x sc := ⟨F.1.keep K, F.2.1.keep K q, F.2.2.keep K q⟩
theorem BDc.other {Z : State} {h h' : Heap} {a b : Addr} {x : Int64} {sc : Int32} {sl : Nat} {v : Value} (F : BDc Z h a x sc) (W : Wr h h' b sl v) (q : a ≠ b) : BDc Z h' a x sc := ⟨F.1.wr W, F.2.1.other W (Or.inl q), F.2.2.other W (Or.inl q)⟩
theorem BDc.lt {Z : State} {h : Heap} {a : Addr} {x : Int64} {sc : Int32} (F : BDc Z h a x sc) : a < h.size := F.1.lt
/-- the table of the small ones -/
def ZTab (Z : State) (h : Heap) (a : Addr) : Prop := ∃ cl : Cell, Arr Z h a cl (.object "java/math/BigDecimal") ∧ cl.slots.size = (11 : Int32).toNatClampNeg ∧ ∀ k : Nat, k < 11 → ∃ z, cl.slots[k]? = some (.ref z) ∧ BDc Z h z (Int64.ofNat k) 0
theorem ZTab.ext {Z : State} {h h' : Heap} {a : Addr} (F : ZTab Z h a) (E : Ext h h') : ZTab Z h' a := by
  obtain ⟨cl, A, S, H⟩ := F
  exact ⟨cl, A.ext E, S, fun k hk => by obtain ⟨z, h1, h2⟩ := H k hk; exact ⟨z, h1, h2.ext E⟩⟩
/-- n ints' worth -/
def Bk (n : Int) (x : Int64) : Prop := -(n * 2147483648) ≤ x.toInt ∧ x.toInt ≤ n * 2147483648
theorem Bk.i2l (x : Int32) : Bk 1 x.toInt64 := by
  have h1 := c_i2l x
  have h2 := rng32 x
  unfold Bk; rw [h1]; omega
theorem Bk.zero : Bk 0 (0 : Int64) := by unfold Bk; decide
theorem Bk.mono {n m : Int} {x : Int64} (h : Bk n x) (q : n ≤ m) : Bk m x := by unfold Bk at *; omega
theorem Bk.add {n m : Int} {x y : Int64} (hx : Bk n x) (hy : Bk m y) (q : n + m ≤ 1000) : (x + y).toInt = x.toInt + y.toInt ∧ Bk (n + m) (x + y) := by
  unfold Bk at *
  have e : (x + y).toInt = x.toInt + y.toInt := by rw [Int64.toInt_add]; exact Int.bmod_eq_of_le (by omega) (by omega)
  rw [e]; exact ⟨rfl, by omega, by omega⟩
theorem Bk.neg {n : Int} {x : Int64} (hx : Bk n x) (q : n ≤ 1000) : (-x).toInt = -x.toInt ∧ Bk n (-x) := by
  unfold Bk at *
  have e : (-x).toInt = -x.toInt := by rw [Int64.toInt_neg]; exact Int.bmod_eq_of_le (by omega) (by omega)
  rw [e]; exact ⟨rfl, by omega, by omega⟩
theorem Bk.ne {n : Int} {x : Int64} (hx : Bk n x) (q : n ≤ 1000) : ¬ x = (-9223372036854775808 : Int64) := fun e => by
  subst e
  have h := hx.1
  rw [show (-9223372036854775808 : Int64).toInt = -9223372036854775808 from by decide] at h
  omega
theorem own_noflow {n m : Int} {x y : Int64} (hx : Bk n x) (hy : Bk m y) (q : n + m ≤ 1000) : ¬ (((x + y) ^^^ x) &&& ((x + y) ^^^ y)) < (0 : Int64) := by
  have e := (Bk.add hx hy q).1
  rw [Jvm.Free.XT.and_neg64, Jvm.Free.XT.xor_neg64, Jvm.Free.XT.xor_neg64, Jvm.Free.XT.negI64, Jvm.Free.XT.negI64, Jvm.Free.XT.negI64, e]
  omega
def own_sg (x : Int64) : Int32 := ((x >>> ((63 : Int32) &&& 0x3f).toInt64) ||| ((((-x)).toUInt64 >>> ((63 : Int32) &&& 0x3f).toInt64.toUInt64).toInt64)).toInt32
theorem own_len {args : Array Value} {Z : State} {t : Term} {a : Addr} {cl : Cell} {ty : FieldType} {z : Int32} (ev : t.eval args Z none [] Z = some (.ref a)) (A : Arr Z Z.heap a cl ty) (h : (Term.length t).eval args Z none [] Z = some (.int z)) : cl.slots.size < 2 ^ 31 ∧ cl.slots.size.toInt32 = z := by
  have q := Arr.fin (Vm.Alike.refl _) A
  by_cases hl : cl.slots.size < 2 ^ 31
  · rw [len_f ev q hl] at h
    exact ⟨hl, Value.int.inj (Option.some.inj h)⟩
  · simp [Term.eval, ev, q, hl] at h
theorem own_sz {cl : Cell} {z : Int32} (q : cl.slots.size < 2 ^ 31) (e : cl.slots.size.toInt32 = z) : cl.slots.size = z.toNatClampNeg := by
  subst e
  show _ = (cl.slots.size.toInt32).toInt.toNat
  rw [len_toInt q]; rfl
theorem own_eqLong {t : Term} {n : Int64} {args : Array Value} {s : State} (h : (Cond.eq t (.long n)).value args s none s [] = some true) : t.eval args s none [] s = some (.long n) := by
  have hn : (Term.long n).eval args s none [] s = some (.long n) := rfl
  cases hv : t.eval args s none [] s with
  | none => simp [Cond.value, hv] at h
  | some x => cases x <;> simp [Cond.value, hv, hn] at h ⊢; exact h
theorem own_mr {g : JFrame} {n W : Nat} (h0 : g.monitorRoom = 0) (h : n = W) : 2 * g.monitorRoom + n ≤ W := by rw [h0, h]; omega
section Calls
variable {p : Program} {l : Launch} {e : Env} {R : Room} {s : State} {m : MethodId} {args : Array Value} {below : List Frame} {meth : Method} {c : Code} {T : State} {locs : List Loc} {cells slots : Nat} {Z : State} {a0 : Array Value} {h : Heap} {rm : Room} {W : Nat} {as' : Array Value} {Q : Option Value → Heap → List Loc → Prop}
theorem own_callS (X : Stand p l e R s m args below meth c T locs cells slots) (hx : p.tables.exec = Jvm.exec) (hZ : Z.Warmed39 s.vm) {own : String} {index : Nat} {y : MethodName} {bytes : ByteArray} {maxL : Nat} {ret : Option FieldType}
    (hown : s.vm.findClass own = some m.cls) (wl : (Cond.methodLink own index y).before a0 Z = true) (wst : (Cond.static y).before a0 Z = true) (wi : (Cond.initialized y.cls).before a0 Z = true) (wc : (Cond.code y bytes maxL ret).before a0 Z = true) (hy : y.cls ≠ "java/lang/invoke/MethodHandle" ∧ y.cls ≠ "java/lang/invoke/VarHandle")
    (hM : MetFree l y (head1 [Cond.code y bytes maxL ret] rm) (fun a U => a = as' ∧ Z.Warmed39 U.vm ∧ U.heap = h) (fun _ _ _ _ _ => True) (fun _ U o U' => ∃ v L, o = .returned v ∧ Q v U'.heap L ∧ FrameEnd U o U' L rm.cells rm.slots))
    (hf : rm.frames + 1 ≤ R.frames) (hl : W + (maxL + 11) + rm.locals ≤ R.locals) (eT : T.heap = h) (hc : cells + rm.cells ≤ R.cells) (hs : slots + rm.slots ≤ R.slots)
    {g : JFrame} (hg : g.method = m) (hsize : g.locals.size = c.maxLocals) {argsL rest : List Value} (hlen : ∀ sig, parseMethodDescriptor y.desc = some sig → argsL.length = sig.parameters.length) (hstack : g.stack = argsL.reverse ++ rest) (hW : 2 * g.monitorRoom + (rest.map fun v => v.category).sum ≤ W) (hdg : decode c.code g.pc = .ok (.invokestatic index, 3)) (has : argsL.toArray = as') :
    ∃ (v : Option Value) (T' : State) (L : List Loc), Stand p l e R s m args below meth c T' (locs ++ L) (cells + rm.cells) (slots + rm.slots) ∧ Q v T'.heap L ∧ ∀ target, Steps p.tables e below (T'.setTop { g with pc := g.pc + 3, stack := v.toList ++ rest }) target → Steps p.tables e below (T.setTop g) target := by
  obtain ⟨v, _, ⟨T', L', k', n'⟩, -, X', ⟨Lc, hQ, h1, h2, h3⟩, st⟩ := Jvm.LawKit.callS X hx hown (mvT hZ wl) (mvT hZ wst) (mvT hZ wi) (mvT hZ wc) hy (backOf (W := W) hM hZ wc wi hf hl) hg hsize hlen hstack hW hdg (fun _ _ => ⟨has, eT, hc, hs⟩)
  dsimp only [Pt.U, Pt.locs, Pt.cells, Pt.slots] at X' h1 h2 h3 st hQ
  subst h1 h2 h3
  exact ⟨v, T', Lc, X', hQ, st⟩
theorem own_callI (X : Stand p l e R s m args below meth c T locs cells slots) (hx : p.tables.exec = Jvm.exec) (hZ : Z.Warmed39 s.vm) {own : String} {index : Nat} {y : MethodName} (hy1 : y.name = "<init>") {bytes : ByteArray} {maxL : Nat}
    (hown : s.vm.findClass own = some m.cls) (wl : (Cond.methodLink own index y).before a0 Z = true) (win : (Cond.instanceMethod y).before a0 Z = true) (wi : (Cond.initialized y.cls).before a0 Z = true) (wc : (Cond.code y bytes maxL none).before a0 Z = true) (hy : y.cls ≠ "java/lang/invoke/MethodHandle" ∧ y.cls ≠ "java/lang/invoke/VarHandle")
    (hM : MetFree l y (head1 [Cond.code y bytes maxL none] rm) (fun a U => a = as' ∧ Z.Warmed39 U.vm ∧ U.heap = h) (fun _ _ _ _ _ => True) (fun _ U o U' => ∃ v L, o = .returned v ∧ Q v U'.heap L ∧ FrameEnd U o U' L rm.cells rm.slots))
    (hf : rm.frames + 1 ≤ R.frames) (hl : W + (maxL + 11) + rm.locals ≤ R.locals) (eT : T.heap = h) (hc : cells + rm.cells ≤ R.cells) (hs : slots + rm.slots ≤ R.slots)
    {g : JFrame} (hg : g.method = m) (hsize : g.locals.size = c.maxLocals) {a : Addr} {argsL rest : List Value} (hlen : ∀ sig, parseMethodDescriptor y.desc = some sig → argsL.length = sig.parameters.length) (hstack : g.stack = argsL.reverse ++ .ref a :: rest) (hW : 2 * g.monitorRoom + (rest.map fun v => v.category).sum ≤ W) (hdg : decode c.code g.pc = .ok (.invokespecial index, 3)) (has : (.ref a :: argsL).toArray = as') :
    ∃ (v : Option Value) (T' : State) (L : List Loc), Stand p l e R s m args below meth c T' (locs ++ L) (cells + rm.cells) (slots + rm.slots) ∧ Q v T'.heap L ∧ ∀ target, Steps p.tables e below (T'.setTop { g with pc := g.pc + 3, stack := v.toList ++ rest }) target → Steps p.tables e below (T.setTop g) target := by
  obtain ⟨v, _, ⟨T', L', k', n'⟩, -, X', ⟨Lc, hQ, h1, h2, h3⟩, st⟩ := X.specialBack hx hy1 hown (mvT hZ wl) (mvT hZ win) (mvT hZ wc) hy (backOf (W := W) hM hZ wc wi hf hl) hg hsize (Steps.refl _) (a := a) hlen hstack hW hdg (fun _ _ => ⟨has, eT, hc, hs⟩)
  dsimp only [Pt.U, Pt.locs, Pt.cells, Pt.slots] at X' h1 h2 h3 st hQ
  subst h1 h2 h3
  exact ⟨v, T', Lc, X', hQ, fun t k => st.trans k⟩
theorem own_callV (X : Stand p l e R s m args below meth c T locs cells slots) (hx : p.tables.exec = Jvm.exec) (hZ : Z.Warmed39 s.vm) {own C : String} {index : Nat} {y z : MethodName} {bytes : ByteArray} {maxL : Nat} {ret : Option FieldType}
    (hown : s.vm.findClass own = some m.cls) (wl : (Cond.methodLink own index y).before a0 Z = true) (wd : (Cond.declares y).before a0 Z = true) (hnf : NotFace s y) (wse : (Cond.selects C y z).before a0 Z = true) (win : (Cond.instanceMethod z).before a0 Z = true) (wi : (Cond.initialized z.cls).before a0 Z = true) (wc : (Cond.code z bytes maxL ret).before a0 Z = true) (hy : y.cls ≠ "java/lang/invoke/MethodHandle" ∧ y.cls ≠ "java/lang/invoke/VarHandle")
    (hM : MetFree l z (head1 [Cond.code z bytes maxL ret] rm) (fun a U => a = as' ∧ Z.Warmed39 U.vm ∧ U.heap = h) (fun _ _ _ _ _ => True) (fun _ U o U' => ∃ v L, o = .returned v ∧ Q v U'.heap L ∧ FrameEnd U o U' L rm.cells rm.slots))
    (hf : rm.frames + 1 ≤ R.frames) (hl : W + (maxL + 11) + rm.locals ≤ R.locals) (eT : T.heap = h) {b : Addr} (hE : Exa Z h b C) (hc : cells + rm.cells ≤ R.cells) (hs : slots + rm.slots ≤ R.slots)
    {g : JFrame} (hg : g.method = m) (hsize : g.locals.size = c.maxLocals) {argsL rest : List Value} (hlen : ∀ sig, parseMethodDescriptor y.desc = some sig → argsL.length = sig.parameters.length) (hstack : g.stack = argsL.reverse ++ .ref b :: rest) (hW : 2 * g.monitorRoom + (rest.map fun v => v.category).sum ≤ W) (hdg : decode c.code g.pc = .ok (.invokevirtual index, 3)) (has : (.ref b :: argsL).toArray = as') :
    ∃ (v : Option Value) (T' : State) (L : List Loc), Stand p l e R s m args below meth c T' (locs ++ L) (cells + rm.cells) (slots + rm.slots) ∧ Q v T'.heap L ∧ ∀ target, Steps p.tables e below (T'.setTop { g with pc := g.pc + 3, stack := v.toList ++ rest }) target → Steps p.tables e below (T.setTop g) target := by
  obtain ⟨cq, kq, qa, qb, qc⟩ := isOf hZ eT hE
  obtain ⟨v, _, ⟨T', L', k', n'⟩, -, X', ⟨Lc, hQ, h1, h2, h3⟩, st⟩ := X.virtualBack hx hown (mvT hZ wl) (mvT hZ wd) hnf (mvT hZ wse) (mvT hZ win) hy (backOf (W := W) hM hZ wc wi hf hl) qa qc hg hsize (Steps.refl _) hlen hstack hW hdg (fun _ _ => ⟨has, eT, hc, hs⟩)
  dsimp only [Pt.U, Pt.locs, Pt.cells, Pt.slots] at X' h1 h2 h3 st hQ
  subst h1 h2 h3
  exact ⟨v, T', Lc, X', hQ, fun t k => st.trans k⟩
theorem own_callF (X : Stand p l e R s m args below meth c T locs cells slots) (hx : p.tables.exec = Jvm.exec) (hZ : Z.Warmed39 s.vm) {own C : String} {index count : Nat} {xi y : MethodName} {bytes : ByteArray} {maxL : Nat} {ret : Option FieldType}
    (hown : s.vm.findClass own = some m.cls) (wl : (Cond.methodLink own index xi).before a0 Z = true) (wd : (Cond.declares xi).before a0 Z = true) (wfa : (Cond.interfaceMethod xi.cls xi.cls xi.name xi.desc).before args s = true) (wse : (Cond.selects C xi y).before a0 Z = true) (win : (Cond.instanceMethod y).before a0 Z = true) (wpu : (Cond.publicMethod y).before a0 Z = true) (wun : (Cond.unhidden C xi.name xi.desc).before a0 Z = true) (wca : (Cond.castable C xi.cls).before a0 Z = true) (wi : (Cond.initialized y.cls).before a0 Z = true) (wc : (Cond.code y bytes maxL ret).before a0 Z = true) (hy : xi.cls ≠ "java/lang/invoke/MethodHandle" ∧ xi.cls ≠ "java/lang/invoke/VarHandle")
    (hM : MetFree l y (head1 [Cond.code y bytes maxL ret] rm) (fun a U => a = as' ∧ Z.Warmed39 U.vm ∧ U.heap = h) (fun _ _ _ _ _ => True) (fun _ U o U' => ∃ v L, o = .returned v ∧ Q v U'.heap L ∧ FrameEnd U o U' L rm.cells rm.slots))
    (hf : rm.frames + 1 ≤ R.frames) (hl : W + (maxL + 11) + rm.locals ≤ R.locals) (eT : T.heap = h) {b : Addr} (hE : Exa Z h b C) (hc : cells + rm.cells ≤ R.cells) (hs : slots + rm.slots ≤ R.slots)
    {g : JFrame} (hg : g.method = m) (hsize : g.locals.size = c.maxLocals) {argsL rest : List Value} (hlen : ∀ sig, parseMethodDescriptor xi.desc = some sig → argsL.length = sig.parameters.length) (hstack : g.stack = argsL.reverse ++ .ref b :: rest) (hW : 2 * g.monitorRoom + (rest.map fun v => v.category).sum ≤ W) (hdg : decode c.code g.pc = .ok (.invokeinterface index count, 5)) (has : (.ref b :: argsL).toArray = as') :
    ∃ (v : Option Value) (T' : State) (L : List Loc), Stand p l e R s m args below meth c T' (locs ++ L) (cells + rm.cells) (slots + rm.slots) ∧ Q v T'.heap L ∧ ∀ target, Steps p.tables e below (T'.setTop { g with pc := g.pc + 5, stack := v.toList ++ rest }) target → Steps p.tables e below (T.setTop g) target := by
  obtain ⟨cq, kq, qa, qb, qc⟩ := isOf hZ eT hE
  obtain ⟨v, _, ⟨T', L', k', n'⟩, -, X', ⟨Lc, hQ, h1, h2, h3⟩, st⟩ := X.interfaceBack hx hown (mvT hZ wl) (mvT hZ wd) wfa (mvT hZ wse) (mvT hZ win) (mvT hZ wpu) (mvT hZ wun) (mvT hZ wca) hy (backOf (W := W) hM hZ wc wi hf hl) qa qb qc hg hsize (Steps.refl _) hlen hstack hW hdg (fun _ _ => ⟨has, eT, hc, hs⟩)
  dsimp only [Pt.U, Pt.locs, Pt.cells, Pt.slots] at X' h1 h2 h3 st hQ
  subst h1 h2 h3
  exact ⟨v, T', Lc, X', hQ, fun t k => st.trans k⟩
theorem own_callP (X : Stand p l e R s m args below meth c T locs cells slots) (hx : p.tables.exec = Jvm.exec) (hZ : Z.Warmed39 s.vm) {own : String} {index : Nat} {y : MethodName} {bytes : ByteArray} {maxL : Nat} {ret : Option FieldType}
    (hown : s.vm.findClass own = some m.cls) (wl : (Cond.methodLink own index y).before a0 Z = true) (win : (Cond.instanceMethod y).before a0 Z = true) (wse : (Cond.selects y.cls y y).before a0 Z = true) (wpr : (Cond.privateMethod y).before a0 Z = true) (wi : (Cond.initialized y.cls).before a0 Z = true) (wc : (Cond.code y bytes maxL ret).before a0 Z = true) (hy : y.cls ≠ "java/lang/invoke/MethodHandle" ∧ y.cls ≠ "java/lang/invoke/VarHandle")
    (hM : MetFree l y (head1 [Cond.code y bytes maxL ret] rm) (fun a U => a = as' ∧ Z.Warmed39 U.vm ∧ U.heap = h) (fun _ _ _ _ _ => True) (fun _ U o U' => ∃ v L, o = .returned v ∧ Q v U'.heap L ∧ FrameEnd U o U' L rm.cells rm.slots))
    (hf : rm.frames + 1 ≤ R.frames) (hl : W + (maxL + 11) + rm.locals ≤ R.locals) (eT : T.heap = h) {b : Addr} {C : String} (hE : Exa Z h b C) (hc : cells + rm.cells ≤ R.cells) (hs : slots + rm.slots ≤ R.slots)
    {g : JFrame} (hg : g.method = m) (hsize : g.locals.size = c.maxLocals) {argsL rest : List Value} (hlen : ∀ sig, parseMethodDescriptor y.desc = some sig → argsL.length = sig.parameters.length) (hstack : g.stack = argsL.reverse ++ .ref b :: rest) (hW : 2 * g.monitorRoom + (rest.map fun v => v.category).sum ≤ W) (hdg : decode c.code g.pc = .ok (.invokevirtual index, 3)) (has : (.ref b :: argsL).toArray = as') :
    ∃ (v : Option Value) (T' : State) (L : List Loc), Stand p l e R s m args below meth c T' (locs ++ L) (cells + rm.cells) (slots + rm.slots) ∧ Q v T'.heap L ∧ ∀ target, Steps p.tables e below (T'.setTop { g with pc := g.pc + 3, stack := v.toList ++ rest }) target → Steps p.tables e below (T.setTop g) target := by
  obtain ⟨cq, q1, q2⟩ := hE.cell
  obtain ⟨v, _, ⟨T', L', k', n'⟩, -, X', ⟨Lc, hQ, h1, h2, h3⟩, st⟩ := X.privateBack hx hown (mvT hZ wl) (mvT hZ win) (mvT hZ wse) (Cond.privateMethod_at (mvP hZ wpr (args := #[]))) (mvT hZ wc) hy (backOf (W := W) hM hZ wc wi hf hl) hg hsize (Steps.refl _) (by rw [eT]; exact q1) q2 hlen hstack hW hdg (fun _ _ => ⟨has, eT, hc, hs⟩)
  dsimp only [Pt.U, Pt.locs, Pt.cells, Pt.slots] at X' h1 h2 h3 st hQ
  subst h1 h2 h3
  exact ⟨v, T', Lc, X', hQ, fun t k => st.trans k⟩
theorem own_kS {P : State → Prop} (X : Stand p l e R s m args below meth c T locs cells slots) (hx : p.tables.exec = Jvm.exec) (hZ : Z.Warmed39 s.vm) {own : String} {index : Nat} {y : MethodName} {bytes : ByteArray} {maxL : Nat} {ret : Option FieldType}
    (hown : s.vm.findClass own = some m.cls) (wl : (Cond.methodLink own index y).before a0 Z = true) (wst : (Cond.static y).before a0 Z = true) (wi : (Cond.initialized y.cls).before a0 Z = true) (wc : (Cond.code y bytes maxL ret).before a0 Z = true) (hy : y.cls ≠ "java/lang/invoke/MethodHandle" ∧ y.cls ≠ "java/lang/invoke/VarHandle")
    (hM : MetFree l y (head1 [Cond.code y bytes maxL ret] rm) (fun a U => a = as' ∧ Z.Warmed39 U.vm ∧ U.heap = h) (fun _ _ _ _ _ => True) (fun _ U o U' => ∃ v L, o = .returned v ∧ Q v U'.heap L ∧ FrameEnd U o U' L rm.cells rm.slots))
    (hf : rm.frames + 1 ≤ R.frames) (hl : W + (maxL + 11) + rm.locals ≤ R.locals) (eT : T.heap = h) (hc : cells + rm.cells ≤ R.cells) (hs : slots + rm.slots ≤ R.slots)
    {pc : Nat} {Ls : Array Slot} {stk argsL rest : List Value} (hsize : Ls.size = c.maxLocals) (hlen : ∀ sig, parseMethodDescriptor y.desc = some sig → argsL.length = sig.parameters.length) (hstack : stk = argsL.reverse ++ rest) (hW : (rest.map fun v => v.category).sum = W) (hdg : decode c.code pc = .ok (.invokestatic index, 3)) (has : argsL.toArray = as')
    (k : ∀ (v : Option Value) (T' : State) (L : List Loc), Stand p l e R s m args below meth c T' (locs ++ L) (cells + rm.cells) (slots + rm.slots) → Q v T'.heap L → Rch p.tables e below P (T'.setTop (mkF m (pc + 3) Ls (v.toList ++ rest)))) : Rch p.tables e below P (T.setTop (mkF m pc Ls stk)) := by
  obtain ⟨v, T', L, X', hQ, st⟩ := own_callS X hx hZ hown wl wst wi wc hy hM hf hl eT hc hs (g := mkF m pc Ls stk) rfl hsize hlen hstack (own_mr rfl hW) hdg has
  exact Rch.st st (k v T' L X' hQ)
theorem own_kI {P : State → Prop} (X : Stand p l e R s m args below meth c T locs cells slots) (hx : p.tables.exec = Jvm.exec) (hZ : Z.Warmed39 s.vm) {own : String} {index : Nat} {y : MethodName} (hy1 : y.name = "<init>") {bytes : ByteArray} {maxL : Nat}
    (hown : s.vm.findClass own = some m.cls) (wl : (Cond.methodLink own index y).before a0 Z = true) (win : (Cond.instanceMethod y).before a0 Z = true) (wi : (Cond.initialized y.cls).before a0 Z = true) (wc : (Cond.code y bytes maxL none).before a0 Z = true) (hy : y.cls ≠ "java/lang/invoke/MethodHandle" ∧ y.cls ≠ "java/lang/invoke/VarHandle")
    (hM : MetFree l y (head1 [Cond.code y bytes maxL none] rm) (fun a U => a = as' ∧ Z.Warmed39 U.vm ∧ U.heap = h) (fun _ _ _ _ _ => True) (fun _ U o U' => ∃ v L, o = .returned v ∧ Q v U'.heap L ∧ FrameEnd U o U' L rm.cells rm.slots))
    (hf : rm.frames + 1 ≤ R.frames) (hl : W + (maxL + 11) + rm.locals ≤ R.locals) (eT : T.heap = h) (hc : cells + rm.cells ≤ R.cells) (hs : slots + rm.slots ≤ R.slots)
    {a : Addr} {pc : Nat} {Ls : Array Slot} {stk argsL rest : List Value} (hsize : Ls.size = c.maxLocals) (hlen : ∀ sig, parseMethodDescriptor y.desc = some sig → argsL.length = sig.parameters.length) (hstack : stk = argsL.reverse ++ .ref a :: rest) (hW : (rest.map fun v => v.category).sum = W) (hdg : decode c.code pc = .ok (.invokespecial index, 3)) (has : (.ref a :: argsL).toArray = as')
    (k : ∀ (v : Option Value) (T' : State) (L : List Loc), Stand p l e R s m args below meth c T' (locs ++ L) (cells + rm.cells) (slots + rm.slots) → Q v T'.heap L → Rch p.tables e below P (T'.setTop (mkF m (pc + 3) Ls (v.toList ++ rest)))) : Rch p.tables e below P (T.setTop (mkF m pc Ls stk)) := by
  obtain ⟨v, T', L, X', hQ, st⟩ := own_callI X hx hZ hy1 hown wl win wi wc hy hM hf hl eT hc hs (g := mkF m pc Ls stk) rfl hsize (a := a) hlen hstack (own_mr rfl hW) hdg has
  exact Rch.st st (k v T' L X' hQ)
theorem own_kV {P : State → Prop} (X : Stand p l e R s m args below meth c T locs cells slots) (hx : p.tables.exec = Jvm.exec) (hZ : Z.Warmed39 s.vm) {own C : String} {index : Nat} {y z : MethodName} {bytes : ByteArray} {maxL : Nat} {ret : Option FieldType}
    (hown : s.vm.findClass own = some m.cls) (wl : (Cond.methodLink own index y).before a0 Z = true) (wd : (Cond.declares y).before a0 Z = true) (hnf : NotFace s y) (wse : (Cond.selects C y z).before a0 Z = true) (win : (Cond.instanceMethod z).before a0 Z = true) (wi : (Cond.initialized z.cls).before a0 Z = true) (wc : (Cond.code z bytes maxL ret).before a0 Z = true) (hy : y.cls ≠ "java/lang/invoke/MethodHandle" ∧ y.cls ≠ "java/lang/invoke/VarHandle")
    (hM : MetFree l z (head1 [Cond.code z bytes maxL ret] rm) (fun a U => a = as' ∧ Z.Warmed39 U.vm ∧ U.heap = h) (fun _ _ _ _ _ => True) (fun _ U o U' => ∃ v L, o = .returned v ∧ Q v U'.heap L ∧ FrameEnd U o U' L rm.cells rm.slots))
    (hf : rm.frames + 1 ≤ R.frames) (hl : W + (maxL + 11) + rm.locals ≤ R.locals) (eT : T.heap = h) {b : Addr} (hE : Exa Z h b C) (hc : cells + rm.cells ≤ R.cells) (hs : slots + rm.slots ≤ R.slots)
    {pc : Nat} {Ls : Array Slot} {stk argsL rest : List Value} (hsize : Ls.size = c.maxLocals) (hlen : ∀ sig, parseMethodDescriptor y.desc = some sig → argsL.length = sig.parameters.length) (hstack : stk = argsL.reverse ++ .ref b :: rest) (hW : (rest.map fun v => v.category).sum = W) (hdg : decode c.code pc = .ok (.invokevirtual index, 3)) (has : (.ref b :: argsL).toArray = as')
    (k : ∀ (v : Option Value) (T' : State) (L : List Loc), Stand p l e R s m args below meth c T' (locs ++ L) (cells + rm.cells) (slots + rm.slots) → Q v T'.heap L → Rch p.tables e below P (T'.setTop (mkF m (pc + 3) Ls (v.toList ++ rest)))) : Rch p.tables e below P (T.setTop (mkF m pc Ls stk)) := by
  obtain ⟨v, T', L, X', hQ, st⟩ := own_callV X hx hZ hown wl wd hnf wse win wi wc hy hM hf hl eT hE hc hs (g := mkF m pc Ls stk) rfl hsize hlen hstack (own_mr rfl hW) hdg has
  exact Rch.st st (k v T' L X' hQ)
theorem own_kF {P : State → Prop} (X : Stand p l e R s m args below meth c T locs cells slots) (hx : p.tables.exec = Jvm.exec) (hZ : Z.Warmed39 s.vm) {own C : String} {index count : Nat} {xi y : MethodName} {bytes : ByteArray} {maxL : Nat} {ret : Option FieldType}
    (hown : s.vm.findClass own = some m.cls) (wl : (Cond.methodLink own index xi).before a0 Z = true) (wd : (Cond.declares xi).before a0 Z = true) (wfa : (Cond.interfaceMethod xi.cls xi.cls xi.name xi.desc).before args s = true) (wse : (Cond.selects C xi y).before a0 Z = true) (win : (Cond.instanceMethod y).before a0 Z = true) (wpu : (Cond.publicMethod y).before a0 Z = true) (wun : (Cond.unhidden C xi.name xi.desc).before a0 Z = true) (wca : (Cond.castable C xi.cls).before a0 Z = true) (wi : (Cond.initialized y.cls).before a0 Z = true) (wc : (Cond.code y bytes maxL ret).before a0 Z = true) (hy : xi.cls ≠ "java/lang/invoke/MethodHandle" ∧ xi.cls ≠ "java/lang/invoke/VarHandle")
    (hM : MetFree l y (head1 [Cond.code y bytes maxL ret] rm) (fun a U => a = as' ∧ Z.Warmed39 U.vm ∧ U.heap = h) (fun _ _ _ _ _ => True) (fun _ U o U' => ∃ v L, o = .returned v ∧ Q v U'.heap L ∧ FrameEnd U o U' L rm.cells rm.slots))
    (hf : rm.frames + 1 ≤ R.frames) (hl : W + (maxL + 11) + rm.locals ≤ R.locals) (eT : T.heap = h) {b : Addr} (hE : Exa Z h b C) (hc : cells + rm.cells ≤ R.cells) (hs : slots + rm.slots ≤ R.slots)
    {pc : Nat} {Ls : Array Slot} {stk argsL rest : List Value} (hsize : Ls.size = c.maxLocals) (hlen : ∀ sig, parseMethodDescriptor xi.desc = some sig → argsL.length = sig.parameters.length) (hstack : stk = argsL.reverse ++ .ref b :: rest) (hW : (rest.map fun v => v.category).sum = W) (hdg : decode c.code pc = .ok (.invokeinterface index count, 5)) (has : (.ref b :: argsL).toArray = as')
    (k : ∀ (v : Option Value) (T' : State) (L : List Loc), Stand p l e R s m args below meth c T' (locs ++ L) (cells + rm.cells) (slots + rm.slots) → Q v T'.heap L → Rch p.tables e below P (T'.setTop (mkF m (pc + 5) Ls (v.toList ++ rest)))) : Rch p.tables e below P (T.setTop (mkF m pc Ls stk)) := by
  obtain ⟨v, T', L, X', hQ, st⟩ := own_callF X hx hZ hown wl wd wfa wse win wpu wun wca wi wc hy hM hf hl eT hE hc hs (g := mkF m pc Ls stk) rfl hsize hlen hstack (own_mr rfl hW) hdg has
  exact Rch.st st (k v T' L X' hQ)
end Calls
theorem d13_0 : decode jdk_18_method_1_code 0 = .ok (.aload_n 0, 1) := by decide +kernel
theorem d13_1 : decode jdk_18_method_1_code 1 = .ok (.invokespecial 1, 3) := by decide +kernel
theorem d13_4 : decode jdk_18_method_1_code 4 = .ok (.return_, 1) := by decide +kernel
abbrev Rm_cnumber : Room := { frames := 1, cells := 0, slots := 0, locals := 12 }
def Q_cnumber (Z : State) (a : Addr) (h0 : Heap) (n0 : Nat) (v : Option Value) (h : Heap) (L : List Loc) : Prop := v = none ∧ Fr n0 L ∧ h = h0
theorem pn_java_lang_Number : plainName "java/lang/Number" = true := by first | (simp [plainName, overriddenIn]; done) | decide +kernel
theorem ef_cnumber (m : MethodId) (a : Addr) : entryFrame m #[(.ref a)] 1 = mkF m 0 #[.val (.ref a)] [] := by first | (simp [entryFrame, mkF, argsToLocals, Value.category]; done) | rfl
set_option maxRecDepth 65536 in
set_option maxHeartbeats 40000000 in
theorem cnumber (l : Launch) (Z : State) (a0 : Array Value) (hw : ∀ d ∈ tables_1, d.before a0 Z = true) (ws : List Jvm.Cond) (a : Addr) (h0 : Heap) (n0 : Nat) :
    MetFree l (⟨"java/lang/Number", "<init>", "()V"⟩ : MethodName) (head1 (Jvm.Cond.code (⟨"java/lang/Number", "<init>", "()V"⟩ : MethodName) jdk_18_method_1_code 1 none :: ws) Rm_cnumber) (fun aA uU => aA = #[(.ref a)] ∧ Z.Warmed39 uU.vm ∧ uU.heap = h0) (fun _ _ _ _ _ => True) (fun _ uU oO uU' => ∃ vV lL, oO = .returned vV ∧ Q_cnumber Z a h0 n0 vV uU'.heap lL ∧ FrameEnd uU oO uU' lL Rm_cnumber.cells Rm_cnumber.slots) := by
  refine MetFree.of_bodySF (plainFor_of_name pn_java_lang_Number) hisR ?_
  intro p e s m args below meth c s₁ Bd hml0 hP hK
  obtain ⟨rfl, hZ, hh⟩ := hP
  have hx := Bd.exec
  have hby := Bd.bytes
  have hml : c.maxLocals = 1 := hml0
  have hown : s.vm.findClass "java/lang/Number" = some m.cls := findClass_of_methodNamed Bd.named
  have hnm := (name_of_methodNamed Bd.named Bd.method).1
  have X0 : Stand p l e Rm_cnumber s m #[(.ref a)] below meth c s₁ [] 0 0 := Stand.of_body Bd
  have e0 : s₁.heap = h0 := by rw [← hh, Bd.state]; rfl
  have N0 := Fr.nil n0
  refine Rch.out (Rch.st (fun t k => castTop (ef_cnumber m a) k) ?_)
  show Rch p.tables e below _ (s₁.setTop (mkF m 0 #[.val (.ref a)] []))
  refine Rch.st (fun _ hr => XS.aloadN X0.here hx rfl (hb hby d13_0) rfl rfl hr) ?_
  obtain ⟨T1, X1, e1, st1⟩ := initO X0 hx hZ hown (own_w hw 92 rfl) (own_w hw 19 rfl) (own_w hw 20 rfl) e0 (g := (mkF m 1 #[.val (.ref a)] [(.ref a)])) rfl (by rw [hml]; rfl) rfl (hb hby d13_1) (by decide) (W := 0) (own_mr rfl rfl) (by decide)
  refine Rch.st st1 ?_
  obtain ⟨fs, hr, hrun, hended, hW, hsame⟩ := X1.leave (v := none) (fun _ => rfl)
  refine Rch.fin (u := T1.setFrames fs) (X1.returnOut hx Bd.returns (hb hby d13_4) hr) ⟨_, hrun, hended, _, _, rfl, ?_, ⟨_, rfl⟩, hW, hsame.mono (by decide) (by decide)⟩
  show Q_cnumber Z a h0 n0 _ T1.heap _
  exact ⟨rfl, N0, e1⟩
theorem d12_0 : decode jdk_17_method_1_code 0 = .ok (.aload_n 0, 1) := by decide +kernel
theorem d12_1 : decode jdk_17_method_1_code 1 = .ok (.invokespecial 11, 3) := by decide +kernel
theorem pd_0 : parseMethodDescriptor "()V" = some ⟨[], none⟩ := by decide +kernel
abbrev Y_0 : MethodName := ⟨"java/lang/Number", "<init>", "()V"⟩
theorem d12_4 : decode jdk_17_method_1_code 4 = .ok (.aload_n 0, 1) := by decide +kernel
theorem d12_5 : decode jdk_17_method_1_code 5 = .ok (.iload 4, 2) := by decide +kernel
theorem d12_7 : decode jdk_17_method_1_code 7 = .ok (.putfield 17, 3) := by decide +kernel
theorem d12_10 : decode jdk_17_method_1_code 10 = .ok (.aload_n 0, 1) := by decide +kernel
theorem d12_11 : decode jdk_17_method_1_code 11 = .ok (.iload 5, 2) := by decide +kernel
theorem d12_13 : decode jdk_17_method_1_code 13 = .ok (.putfield 21, 3) := by decide +kernel
theorem d12_16 : decode jdk_17_method_1_code 16 = .ok (.aload_n 0, 1) := by decide +kernel
theorem d12_17 : decode jdk_17_method_1_code 17 = .ok (.lload_n 2, 1) := by decide +kernel
theorem d12_18 : decode jdk_17_method_1_code 18 = .ok (.putfield 24, 3) := by decide +kernel
theorem d12_21 : decode jdk_17_method_1_code 21 = .ok (.aload_n 0, 1) := by decide +kernel
theorem d12_22 : decode jdk_17_method_1_code 22 = .ok (.aload_n 1, 1) := by decide +kernel
theorem d12_23 : decode jdk_17_method_1_code 23 = .ok (.putfield 28, 3) := by decide +kernel
theorem d12_26 : decode jdk_17_method_1_code 26 = .ok (.return_, 1) := by decide +kernel
abbrev Rm_cbdinit : Room := { frames := 2, cells := 0, slots := 0, locals := 24 }
def Q_cbdinit (Z : State) (a : Addr) (x : Int64) (sc : Int32) (pr : Int32) (h0 : Heap) (n0 : Nat) (v : Option Value) (h : Heap) (L : List Loc) : Prop := v = none ∧ Fr n0 L ∧ Keep h0 h [a] ∧ Old Z n0 h ∧ BDc Z h a x sc
theorem pn_java_math_BigDecimal : plainName "java/math/BigDecimal" = true := by first | (simp [plainName, overriddenIn]; done) | decide +kernel
theorem ef_cbdinit (m : MethodId) (a : Addr) (x : Int64) (sc : Int32) (pr : Int32) : entryFrame m #[(.ref a), .null, (.long x), (.int sc), (.int pr)] 6 = mkF m 0 #[.val (.ref a), .val .null, .val (.long x), .second, .val (.int sc), .val (.int pr)] [] := by first | (simp [entryFrame, mkF, argsToLocals, Value.category]; done) | rfl
set_option maxRecDepth 65536 in
set_option maxHeartbeats 40000000 in
theorem cbdinit (l : Launch) (Z : State) (a0 : Array Value) (hw : ∀ d ∈ tables_1, d.before a0 Z = true) (ws : List Jvm.Cond) (a : Addr) (x : Int64) (sc : Int32) (pr : Int32) (h0 : Heap) (n0 : Nat) (zP0 : Old Z n0 h0) (zP1 : Exa Z h0 a "java/math/BigDecimal") (zP2 : Fld Z h0 a "java/math/BigDecimal" "intCompact" "J" (.long (0 : Int64))) (zP3 : Fld Z h0 a "java/math/BigDecimal" "scale" "I" (.int (0 : Int32))) (zP4 : Fld Z h0 a "java/math/BigDecimal" "precision" "I" (.int (0 : Int32))) (zP5 : Fld Z h0 a "java/math/BigDecimal" "intVal" "Ljava/math/BigInteger;" .null) (zP6 : n0 ≤ a) :
    MetFree l (⟨"java/math/BigDecimal", "<init>", "(Ljava/math/BigInteger;JII)V"⟩ : MethodName) (head1 (Jvm.Cond.code (⟨"java/math/BigDecimal", "<init>", "(Ljava/math/BigInteger;JII)V"⟩ : MethodName) jdk_17_method_1_code 6 none :: ws) Rm_cbdinit) (fun aA uU => aA = #[(.ref a), .null, (.long x), (.int sc), (.int pr)] ∧ Z.Warmed39 uU.vm ∧ uU.heap = h0) (fun _ _ _ _ _ => True) (fun _ uU oO uU' => ∃ vV lL, oO = .returned vV ∧ Q_cbdinit Z a x sc pr h0 n0 vV uU'.heap lL ∧ FrameEnd uU oO uU' lL Rm_cbdinit.cells Rm_cbdinit.slots) := by
  refine MetFree.of_bodySF (plainFor_of_name pn_java_math_BigDecimal) hisR ?_
  intro p e s m args below meth c s₁ Bd hml0 hP hK
  obtain ⟨rfl, hZ, hh⟩ := hP
  have hx := Bd.exec
  have hby := Bd.bytes
  have hml : c.maxLocals = 6 := hml0
  have hown : s.vm.findClass "java/math/BigDecimal" = some m.cls := findClass_of_methodNamed Bd.named
  have hnm := (name_of_methodNamed Bd.named Bd.method).1
  have X0 : Stand p l e Rm_cbdinit s m #[(.ref a), .null, (.long x), (.int sc), (.int pr)] below meth c s₁ [] 0 0 := Stand.of_body Bd
  have e0 : s₁.heap = h0 := by rw [← hh, Bd.state]; rfl
  have N0 := Fr.nil n0
  refine Rch.out (Rch.st (fun t k => castTop (ef_cbdinit m a x sc pr) k) ?_)
  show Rch p.tables e below _ (s₁.setTop (mkF m 0 #[.val (.ref a), .val .null, .val (.long x), .second, .val (.int sc), .val (.int pr)] []))
  refine Rch.st (fun _ hr => XS.aloadN X0.here hx rfl (hb hby d12_0) rfl rfl hr) ?_
  show Rch p.tables e below _ (s₁.setTop (mkF m 1 #[.val (.ref a), .val .null, .val (.long x), .second, .val (.int sc), .val (.int pr)] [(.ref a)]))
  refine own_kI X0 hx hZ (y := Y_0) rfl hown (own_w hw 86 rfl) (own_w hw 87 rfl) (own_w hw 90 rfl) (own_w hw 91 rfl) (by decide) (W := 0) (cnumber l Z a0 hw [] a h0 n0 ) (by decide) (by decide) e0 (by decide) (by decide)  (by rw [hml]; rfl) (a := a) (argsL := []) (rest := []) (lenOf pd_0 rfl) rfl rfl (hb hby d12_1) rfl (fun _ T1 Lc1 X1 hQ1 => ?_)
  obtain ⟨rfl, N1q, e1⟩ := hQ1
  have N1 := Fr.app N0 N1q
  refine Rch.st (fun _ hr => XS.aloadN X1.here hx rfl (hb hby d12_4) rfl rfl hr) ?_
  refine Rch.st (fun _ hr => XS.iload X1.here hx rfl (hb hby d12_5) rfl hr) ?_
  obtain ⟨T2, h2, X2, e2, W2, st2⟩ := putF X1 hx hZ hown (host := "") (Or.inl (own_w hw 75 rfl)) Via.refl e1 zP3 zP1 (Or.inr ⟨(own_w hw 76 rfl), rfl, hnm⟩) (own_w hw 81 rfl) (ty := .int) (by decide) rfl rfl (g := (mkF m 7 #[.val (.ref a), .val .null, .val (.long x), .second, .val (.int sc), .val (.int pr)] [(.int sc), (.ref a)])) rfl rfl (hb hby d12_7)
  refine Rch.st st2 ?_
  have N2 := Fr.snoc X2 N1 zP6
  have K3 := (Keep.refl h0 [a]).wr W2 (Or.inl (List.mem_of_getElem? (i := 0) rfl))
  have Fw2 := zP3.same W2
  refine Rch.st (fun _ hr => XS.aloadN X2.here hx rfl (hb hby d12_10) rfl rfl hr) ?_
  show Rch p.tables e below _ (T2.setTop (mkF m 11 #[.val (.ref a), .val .null, .val (.long x), .second, .val (.int sc), .val (.int pr)] [(.ref a)]))
  refine Rch.st (fun _ hr => XS.iload X2.here hx rfl (hb hby d12_11) rfl hr) ?_
  have f4 := (zP4.other W2 (Or.inr (slot_ne (Or.inl (own_w hw 94 rfl)) (Or.inr (own_w hw 76 rfl)) (by decide) (t := .int) (t' := .int) (by decide) (by decide))))
  have f5 := (zP1.wr W2)
  obtain ⟨T6, h6, X6, e6, W6, st6⟩ := putF X2 hx hZ hown (host := "") (Or.inl (own_w hw 93 rfl)) Via.refl e2 f4 f5 (Or.inl (own_w hw 94 rfl)) (own_w hw 81 rfl) (ty := .int) (by decide) rfl rfl (g := (mkF m 13 #[.val (.ref a), .val .null, .val (.long x), .second, .val (.int sc), .val (.int pr)] [(.int pr), (.ref a)])) rfl rfl (hb hby d12_13)
  refine Rch.st st6 ?_
  have N6 := Fr.snoc X6 N2 zP6
  have f7 := (zP0.wr W2 zP6)
  have K8 := K3.wr W6 (Or.inl (List.mem_of_getElem? (i := 0) rfl))
  have Fw6 := f4.same W6
  refine Rch.st (fun _ hr => XS.aloadN X6.here hx rfl (hb hby d12_16) rfl rfl hr) ?_
  refine Rch.st (fun _ hr => XS.lloadN X6.here hx rfl (hb hby d12_17) rfl hr) ?_
  have f9 := ((zP2.other W2 (Or.inr (slot_ne (Or.inr (own_w hw 78 rfl)) (Or.inr (own_w hw 76 rfl)) (by decide) (t := .long) (t' := .int) (by decide) (by decide)))).other W6 (Or.inr (slot_ne (Or.inr (own_w hw 78 rfl)) (Or.inl (own_w hw 94 rfl)) (by decide) (t := .long) (t' := .int) (by decide) (by decide))))
  have f10 := (f5.wr W6)
  obtain ⟨T11, h11, X11, e11, W11, st11⟩ := putF X6 hx hZ hown (host := "") (Or.inl (own_w hw 77 rfl)) Via.refl e6 f9 f10 (Or.inr ⟨(own_w hw 78 rfl), rfl, hnm⟩) (own_w hw 81 rfl) (ty := .long) (by decide) rfl rfl (g := (mkF m 18 #[.val (.ref a), .val .null, .val (.long x), .second, .val (.int sc), .val (.int pr)] [(.long x), (.ref a)])) rfl rfl (hb hby d12_18)
  refine Rch.st st11 ?_
  have N11 := Fr.snoc X11 N6 zP6
  have f12 := (f7.wr W6 zP6)
  have K13 := K8.wr W11 (Or.inl (List.mem_of_getElem? (i := 0) rfl))
  have Fw11 := f9.same W11
  refine Rch.st (fun _ hr => XS.aloadN X11.here hx rfl (hb hby d12_21) rfl rfl hr) ?_
  show Rch p.tables e below _ (T11.setTop (mkF m 22 #[.val (.ref a), .val .null, .val (.long x), .second, .val (.int sc), .val (.int pr)] [(.ref a)]))
  refine Rch.st (fun _ hr => XS.aloadN X11.here hx rfl (hb hby d12_22) rfl rfl hr) ?_
  have f14 := (((zP5.other W2 (Or.inr (slot_ne (Or.inr (own_w hw 96 rfl)) (Or.inr (own_w hw 76 rfl)) (by decide) (t := (.object "java/math/BigInteger")) (t' := .int) (by decide) (by decide)))).other W6 (Or.inr (slot_ne (Or.inr (own_w hw 96 rfl)) (Or.inl (own_w hw 94 rfl)) (by decide) (t := (.object "java/math/BigInteger")) (t' := .int) (by decide) (by decide)))).other W11 (Or.inr (slot_ne (Or.inr (own_w hw 96 rfl)) (Or.inr (own_w hw 78 rfl)) (by decide) (t := (.object "java/math/BigInteger")) (t' := .long) (by decide) (by decide))))
  have f15 := (f10.wr W11)
  obtain ⟨T16, h16, X16, e16, W16, st16⟩ := putF X11 hx hZ hown (host := "") (Or.inl (own_w hw 95 rfl)) Via.refl e11 f14 f15 (Or.inr ⟨(own_w hw 96 rfl), rfl, hnm⟩) (own_w hw 81 rfl) (ty := (.object "java/math/BigInteger")) (by decide) rfl rfl (g := (mkF m 23 #[.val (.ref a), .val .null, .val (.long x), .second, .val (.int sc), .val (.int pr)] [.null, (.ref a)])) rfl rfl (hb hby d12_23)
  refine Rch.st st16 ?_
  have N16 := Fr.snoc X16 N11 zP6
  have f17 := (f12.wr W11 zP6)
  have K18 := K13.wr W16 (Or.inl (List.mem_of_getElem? (i := 0) rfl))
  have Fw16 := f14.same W16
  obtain ⟨fs, hr, hrun, hended, hW, hsame⟩ := X16.leave (v := none) (fun _ => rfl)
  have f19 := (f17.wr W16 zP6)
  have f20 := (f15.wr W16)
  have f21 := (Fw11.other W16 (Or.inr (slot_ne (Or.inr (own_w hw 78 rfl)) (Or.inr (own_w hw 96 rfl)) (by decide) (t := .long) (t' := (.object "java/math/BigInteger")) (by decide) (by decide))))
  have f22 := (((Fw2.other W6 (Or.inr (slot_ne (Or.inr (own_w hw 76 rfl)) (Or.inl (own_w hw 94 rfl)) (by decide) (t := .int) (t' := .int) (by decide) (by decide)))).other W11 (Or.inr (slot_ne (Or.inr (own_w hw 76 rfl)) (Or.inr (own_w hw 78 rfl)) (by decide) (t := .int) (t' := .long) (by decide) (by decide)))).other W16 (Or.inr (slot_ne (Or.inr (own_w hw 76 rfl)) (Or.inr (own_w hw 96 rfl)) (by decide) (t := .int) (t' := (.object "java/math/BigInteger")) (by decide) (by decide))))
  refine Rch.fin (u := T16.setFrames fs) (X16.returnOut hx Bd.returns (hb hby d12_26) hr) ⟨_, hrun, hended, _, _, rfl, ?_, ⟨_, rfl⟩, hW, hsame.mono (by decide) (by decide)⟩
  show Q_cbdinit Z a x sc pr h0 n0 _ T16.heap _
  rw [e16]
  exact ⟨rfl, N16, K18, f19, ⟨f20, f21, f22⟩⟩
theorem own_place (x : Int64) (h0 : ¬ x < (0 : Int64)) (h1 : x < ((11 : Int32).toInt64)) : (x.toInt32).toNatClampNeg = x.toInt.toNat ∧ x.toInt.toNat < 11 ∧ Int64.ofNat x.toInt.toNat = x := by
  rw [Int64.lt_iff_toInt_lt] at h0 h1
  have e0 : (0 : Int64).toInt = 0 := rfl
  have e1 : ((11 : Int32).toInt64).toInt = 11 := by decide
  rw [e0] at h0; rw [e1] at h1
  have h2 : x.toInt32.toInt = x.toInt := Jvm.Free.XT.narrowInt ⟨by omega, by omega⟩
  refine ⟨?_, by omega, ?_⟩
  · show x.toInt32.toInt.toNat = _
    rw [h2]
  · apply Int64.toInt_inj.mp
    rw [Int64.toInt_ofNat_of_lt (by omega)]
    omega
theorem own_place_nn (x : Int64) (h0 : ¬ x < (0 : Int64)) (h1 : x < ((11 : Int32).toInt64)) : ¬ (x.toInt32) < 0 := by
  rw [Int64.lt_iff_toInt_lt] at h0 h1
  have e0 : (0 : Int64).toInt = 0 := rfl
  have e1 : ((11 : Int32).toInt64).toInt = 11 := by decide
  rw [e0] at h0; rw [e1] at h1
  have h2 : x.toInt32.toInt = x.toInt := Jvm.Free.XT.narrowInt ⟨by omega, by omega⟩
  rw [Int32.lt_iff_toInt_lt, h2]
  have e2 : (0 : Int32).toInt = 0 := rfl
  omega
theorem d6_0 : decode jdk_17_method_21_code 0 = .ok (.lload_n 0, 1) := by decide +kernel
theorem d6_1 : decode jdk_17_method_21_code 1 = .ok (.lconst 0, 1) := by decide +kernel
theorem d6_2 : decode jdk_17_method_21_code 2 = .ok (.lcmp, 1) := by decide +kernel
theorem d6_3 : decode jdk_17_method_21_code 3 = .ok (.ifCond .lt 20, 3) := by decide +kernel
theorem d6_23 : decode jdk_17_method_21_code 23 = .ok (.lload_n 0, 1) := by decide +kernel
theorem d6_24 : decode jdk_17_method_21_code 24 = .ok (.ldc2_w 125, 3) := by decide +kernel
theorem d6_27 : decode jdk_17_method_21_code 27 = .ok (.lcmp, 1) := by decide +kernel
theorem d6_28 : decode jdk_17_method_21_code 28 = .ok (.ifCond .eq 15, 3) := by decide +kernel
theorem d6_31 : decode jdk_17_method_21_code 31 = .ok (.new 3, 3) := by decide +kernel
theorem d6_34 : decode jdk_17_method_21_code 34 = .ok (.dup, 1) := by decide +kernel
theorem d6_35 : decode jdk_17_method_21_code 35 = .ok (.aconst_null, 1) := by decide +kernel
theorem d6_36 : decode jdk_17_method_21_code 36 = .ok (.lload_n 0, 1) := by decide +kernel
theorem d6_37 : decode jdk_17_method_21_code 37 = .ok (.iconst 0, 1) := by decide +kernel
theorem d6_38 : decode jdk_17_method_21_code 38 = .ok (.iconst 0, 1) := by decide +kernel
theorem d6_39 : decode jdk_17_method_21_code 39 = .ok (.invokespecial 243, 3) := by decide +kernel
theorem pd_1 : parseMethodDescriptor "(Ljava/math/BigInteger;JII)V" = some ⟨[(.object "java/math/BigInteger"), .long, .int, .int], none⟩ := by decide +kernel
abbrev Y_1 : MethodName := ⟨"java/math/BigDecimal", "<init>", "(Ljava/math/BigInteger;JII)V"⟩
theorem d6_42 : decode jdk_17_method_21_code 42 = .ok (.areturn, 1) := by decide +kernel
theorem d6_6 : decode jdk_17_method_21_code 6 = .ok (.lload_n 0, 1) := by decide +kernel
theorem d6_7 : decode jdk_17_method_21_code 7 = .ok (.getstatic 246, 3) := by decide +kernel
theorem d6_10 : decode jdk_17_method_21_code 10 = .ok (.arraylength, 1) := by decide +kernel
theorem d6_11 : decode jdk_17_method_21_code 11 = .ok (.i2l, 1) := by decide +kernel
theorem d6_12 : decode jdk_17_method_21_code 12 = .ok (.lcmp, 1) := by decide +kernel
theorem d6_13 : decode jdk_17_method_21_code 13 = .ok (.ifCond .ge 10, 3) := by decide +kernel
theorem d6_16 : decode jdk_17_method_21_code 16 = .ok (.getstatic 246, 3) := by decide +kernel
theorem d6_19 : decode jdk_17_method_21_code 19 = .ok (.lload_n 0, 1) := by decide +kernel
theorem d6_20 : decode jdk_17_method_21_code 20 = .ok (.l2i, 1) := by decide +kernel
theorem d6_21 : decode jdk_17_method_21_code 21 = .ok (.aaload, 1) := by decide +kernel
theorem d6_22 : decode jdk_17_method_21_code 22 = .ok (.areturn, 1) := by decide +kernel
abbrev Rm_cvalueOf : Room := { frames := 3, cells := 1, slots := 5, locals := 42 }
def Q_cvalueOf (Z : State) (x : Int64) (wz : Addr) (h0 : Heap) (n0 : Nat) (v : Option Value) (h : Heap) (L : List Loc) : Prop := ∃ (r : Addr), v = some (.ref r) ∧ Fr n0 L ∧ Keep h0 h [] ∧ Old Z n0 h ∧ BDc Z h r x (0 : Int32)
theorem ef_cvalueOf (m : MethodId) (x : Int64) (wz : Addr) : entryFrame m #[(.long x)] 2 = mkF m 0 #[.val (.long x), .second] [] := by first | (simp [entryFrame, mkF, argsToLocals, Value.category]; done) | rfl
set_option maxRecDepth 65536 in
set_option maxHeartbeats 40000000 in
theorem cvalueOf (l : Launch) (Z : State) (a0 : Array Value) (hw : ∀ d ∈ tables_1, d.before a0 Z = true) (ws : List Jvm.Cond) (x : Int64) (wz : Addr) (h0 : Heap) (n0 : Nat) (zD0 : Sta Z Z.heap "java/math/BigDecimal" "ZERO_THROUGH_TEN" "[Ljava/math/BigDecimal;" (.ref wz)) (zD1 : ZTab Z Z.heap wz) (zP0 : Old Z n0 h0) (hm : ¬ x = (-9223372036854775808 : Int64)) :
    MetFree l (⟨"java/math/BigDecimal", "valueOf", "(J)Ljava/math/BigDecimal;"⟩ : MethodName) (head1 (Jvm.Cond.code (⟨"java/math/BigDecimal", "valueOf", "(J)Ljava/math/BigDecimal;"⟩ : MethodName) jdk_17_method_21_code 2 (some (.object "java/math/BigDecimal")) :: ws) Rm_cvalueOf) (fun aA uU => aA = #[(.long x)] ∧ Z.Warmed39 uU.vm ∧ uU.heap = h0) (fun _ _ _ _ _ => True) (fun _ uU oO uU' => ∃ vV lL, oO = .returned vV ∧ Q_cvalueOf Z x wz h0 n0 vV uU'.heap lL ∧ FrameEnd uU oO uU' lL Rm_cvalueOf.cells Rm_cvalueOf.slots) := by
  refine MetFree.of_bodySF (plainFor_of_name pn_java_math_BigDecimal) hisR ?_
  intro p e s m args below meth c s₁ Bd hml0 hP hK
  obtain ⟨rfl, hZ, hh⟩ := hP
  have hx := Bd.exec
  have hby := Bd.bytes
  have hml : c.maxLocals = 2 := hml0
  have hown : s.vm.findClass "java/math/BigDecimal" = some m.cls := findClass_of_methodNamed Bd.named
  have hnm := (name_of_methodNamed Bd.named Bd.method).1
  have X0 : Stand p l e Rm_cvalueOf s m #[(.long x)] below meth c s₁ [] 0 0 := Stand.of_body Bd
  have e0 : s₁.heap = h0 := by rw [← hh, Bd.state]; rfl
  have N0 := Fr.nil n0
  refine Rch.out (Rch.st (fun t k => castTop (ef_cvalueOf m x wz) k) ?_)
  show Rch p.tables e below _ (s₁.setTop (mkF m 0 #[.val (.long x), .second] []))
  refine Rch.st (fun _ hr => XS.lloadN X0.here hx rfl (hb hby d6_0) rfl hr) ?_
  refine Rch.st (fun _ hr => XS.lconst X0.here hx rfl (hb hby d6_1) hr) ?_
  refine Rch.st (fun _ hr => XS.lcmp X0.here hx rfl (hb hby d6_2) rfl hr) ?_
  by_cases hc1 : x < (0 : Int64)
  · refine Rch.st (fun _ hr => XS.ifYes X0.here hx rfl (pc0 := 3) (pc' := 23) rfl (hb hby d6_3) rfl ((if0 _ _).trans (tlt ((lw_lt _ _).mpr hc1)).1) (by decide) (by decide) hr) ?_
    refine Rch.st (fun _ hr => XS.lloadN X0.here hx rfl (hb hby d6_23) rfl hr) ?_
    refine Rch.st (fun _ hr => Jvm.Stand.ldc2J (g := (mkF m 24 #[.val (.long x), .second] [(.long x)])) X0 hx hown (mvT hZ (own_w hw 79 rfl)) rfl (hb hby d6_24) hr) ?_
    show Rch p.tables e below _ (s₁.setTop (mkF m 27 #[.val (.long x), .second] [(.long (-9223372036854775808 : Int64)), (.long x)]))
    refine Rch.st (fun _ hr => XS.lcmp X0.here hx rfl (hb hby d6_27) rfl hr) ?_
    refine Rch.st (fun _ hr => XS.ifNo X0.here hx rfl (hb hby d6_28) rfl ((if0 _ _).trans (feq (mt (lw_eq _ _).mp hm)).1) hr) ?_
    obtain ⟨T2, h2, X2, e2, E2, A2, D2, -, st2⟩ := newO X0 hx hZ hown (own_w hw 80 rfl) (own_w hw 81 rfl) (own_w hw 28 rfl) e0 (g := (mkF m 31 #[.val (.long x), .second] [])) rfl (hb hby d6_31) (by decide) (by decide)
    obtain ⟨b2, g2⟩ : ∃ z, z = h0.size := ⟨_, rfl⟩
    rw [← g2] at A2 D2 st2
    refine Rch.st st2 ?_
    have q2 : h0.size ≤ b2 := Nat.le_of_eq g2.symm
    have g_b2 : n0 ≤ b2 := Nat.le_trans (Nat.le_trans (Nat.le_of_eq zP0.1.symm) zP0.2.1) q2
    have sz_b2 : h0.size ≤ b2 := Nat.le_trans (Keep.refl h0 []).1 q2
    have K3 := (Keep.refl h0 []).ext E2
    have F2_scale : Fld Z h2 b2 "java/math/BigDecimal" "scale" "I" (.int (0 : Int32)) := D2 (Or.inr (own_w hw 76 rfl)) (ty := .int) (by decide)
    have F2_intCompact : Fld Z h2 b2 "java/math/BigDecimal" "intCompact" "J" (.long (0 : Int64)) := D2 (Or.inr (own_w hw 78 rfl)) (ty := .long) (by decide)
    have F2_precision : Fld Z h2 b2 "java/math/BigDecimal" "precision" "I" (.int (0 : Int32)) := D2 (Or.inl (own_w hw 94 rfl)) (ty := .int) (by decide)
    have F2_intVal : Fld Z h2 b2 "java/math/BigDecimal" "intVal" "Ljava/math/BigInteger;" .null := D2 (Or.inr (own_w hw 96 rfl)) (ty := (.object "java/math/BigInteger")) (by decide)
    refine Rch.st (fun _ hr => XS.dup X2.here hx rfl (hb hby d6_34) rfl rfl hr) ?_
    refine Rch.st (fun _ hr => XS.aconstNull X2.here hx rfl (hb hby d6_35) hr) ?_
    refine Rch.st (fun _ hr => XS.lloadN X2.here hx rfl (hb hby d6_36) rfl hr) ?_
    show Rch p.tables e below _ (T2.setTop (mkF m 37 #[.val (.long x), .second] [(.long x), .null, (.ref b2), (.ref b2)]))
    refine Rch.st (fun _ hr => XS.iconst X2.here hx rfl (hb hby d6_37) hr) ?_
    refine Rch.st (fun _ hr => XS.iconst X2.here hx rfl (hb hby d6_38) hr) ?_
    have f5 := (zP0.ext E2)
    show Rch p.tables e below _ (T2.setTop (mkF m 39 #[.val (.long x), .second] [(.int (0 : Int32)), (.int (0 : Int32)), (.long x), .null, (.ref b2), (.ref b2)]))
    refine own_kI X2 hx hZ (y := Y_1) rfl hown (own_w hw 82 rfl) (own_w hw 83 rfl) (own_w hw 28 rfl) (own_w hw 85 rfl) (by decide) (W := 1) (cbdinit l Z a0 hw [] b2 x (0 : Int32) (0 : Int32) h2 n0 f5 A2 F2_intCompact F2_scale F2_precision F2_intVal g_b2) (by decide) (by decide) e2 (by decide) (by decide)  (by rw [hml]; rfl) (a := b2) (argsL := [.null, (.long x), (.int (0 : Int32)), (.int (0 : Int32))]) (rest := [(.ref b2)]) (lenOf pd_1 rfl) rfl rfl (hb hby d6_39) rfl (fun _ T4 Lc4 X4 hQ4 => ?_)
    obtain ⟨rfl, N4q, Kp4, Op4, R4_0⟩ := hQ4
    have N4 := Fr.app N0 N4q
    have K6 := K3.trans Kp4 (allS (Or.inr sz_b2) all0)
    obtain ⟨fs, hr, hrun, hended, hW, hsame⟩ := X4.leave (v := some (.ref b2)) (fun h => by rw [Bd.returns] at h; cases h)
    refine Rch.fin (u := T4.setFrames fs) (own_retA X4 hx Bd.returns rfl rfl rfl (hb hby d6_42) hr) ⟨_, hrun, hended, _, _, rfl, ?_, ⟨_, rfl⟩, hW, hsame.mono (by decide) (by decide)⟩
    show Q_cvalueOf Z x wz h0 n0 _ T4.heap _
    exact ⟨b2, rfl, N4, K6, Op4, R4_0⟩
  · refine Rch.st (fun _ hr => XS.ifNo X0.here hx rfl (hb hby d6_3) rfl ((if0 _ _).trans (flt (mt (lw_lt _ _).mp hc1)).1) hr) ?_
    refine Rch.st (fun _ hr => XS.lloadN X0.here hx rfl (hb hby d6_6) rfl hr) ?_
    obtain ⟨T7, X7, e7, st7⟩ := getS2 X0 hx hZ hown (host := "") (Or.inl (own_w hw 33 rfl)) Via.refl e0 (zD0.ext zP0.2) (g := (mkF m 7 #[.val (.long x), .second] [(.long x)])) rfl (hb hby d6_7)
    refine Rch.st st7 ?_
    show Rch p.tables e below _ (T7.setTop (mkF m 10 #[.val (.long x), .second] [(.ref wz), (.long x)]))
    obtain ⟨cl8, Ar8, Sz8, -⟩ := zD1.ext zP0.2
    refine Rch.st (fun t hr => X7.arraylength hx (by rw [e7]; exact Ar8.1) (State.isArrayOf_alike hZ.alike Ar8.2.1) (g := (mkF m 10 #[.val (.long x), .second] [(.ref wz), (.long x)])) rfl rfl (hb hby d6_10) t hr) ?_
    rw [len_of Sz8 (by decide)]
    refine Rch.st (fun _ hr => XS.i2l X7.here hx rfl (hb hby d6_11) rfl hr) ?_
    refine Rch.st (fun _ hr => XS.lcmp X7.here hx rfl (hb hby d6_12) rfl hr) ?_
    by_cases hc9 : x < ((11 : Int32).toInt64)
    · refine Rch.st (fun _ hr => XS.ifNo X7.here hx rfl (hb hby d6_13) rfl ((if0 _ _).trans (tlt ((lw_lt _ _).mpr hc9)).2.1) hr) ?_
      obtain ⟨T10, X10, e10, st10⟩ := getS2 X7 hx hZ hown (host := "") (Or.inl (own_w hw 33 rfl)) Via.refl e7 (zD0.ext zP0.2) (g := (mkF m 16 #[.val (.long x), .second] [])) rfl (hb hby d6_16)
      refine Rch.st st10 ?_
      refine Rch.st (fun _ hr => XS.lloadN X10.here hx rfl (hb hby d6_19) rfl hr) ?_
      show Rch p.tables e below _ (T10.setTop (mkF m 20 #[.val (.long x), .second] [(.long x), (.ref wz)]))
      refine Rch.st (fun _ hr => XS.l2i X10.here hx rfl (hb hby d6_20) rfl hr) ?_
      obtain ⟨cl11, Ar11, Sz11, Hk11⟩ := zD1.ext zP0.2
      have hi11 := own_place x hc1 hc9
      obtain ⟨z11, hz11, Bz11⟩ := Hk11 _ hi11.2.1
      rw [← hi11.1] at hz11
      rw [hi11.2.2] at Bz11
      have hin11 : ¬ ((x.toInt32) < 0 ∨ cl11.slots.size ≤ ((x.toInt32)).toNatClampNeg) := fun q => q.elim (own_place_nn x hc1 hc9) (fun q => by rw [Sz11, hi11.1] at q; exact Nat.not_lt.mpr q hi11.2.1)
      refine Rch.st (fun t hr => X10.aaload hx (j := (x.toInt32)) (v := (.ref z11)) (by rw [e10]; exact Ar11.1) (State.isArrayOf_alike hZ.alike Ar11.2.1) rfl Ar11.2.2 hin11 hz11 (g := (mkF m 21 #[.val (.long x), .second] [(.int (x.toInt32)), (.ref wz)])) rfl rfl (hb hby d6_21) t hr) ?_
      obtain ⟨fs, hr, hrun, hended, hW, hsame⟩ := X10.leave (v := some (.ref z11)) (fun h => by rw [Bd.returns] at h; cases h)
      refine Rch.fin (u := T10.setFrames fs) (own_retA X10 hx Bd.returns rfl rfl rfl (hb hby d6_22) hr) ⟨_, hrun, hended, _, _, rfl, ?_, ⟨_, rfl⟩, hW, hsame.mono (by decide) (by decide)⟩
      show Q_cvalueOf Z x wz h0 n0 _ T10.heap _
      rw [e10]
      exact ⟨z11, rfl, N0, (Keep.refl h0 []), zP0, Bz11⟩
    · refine Rch.st (fun _ hr => XS.ifYes X7.here hx rfl (pc0 := 13) (pc' := 23) rfl (hb hby d6_13) rfl ((if0 _ _).trans (flt (mt (lw_lt _ _).mp hc9)).2.1) (by decide) (by decide) hr) ?_
      refine Rch.st (fun _ hr => XS.lloadN X7.here hx rfl (hb hby d6_23) rfl hr) ?_
      refine Rch.st (fun _ hr => Jvm.Stand.ldc2J (g := (mkF m 24 #[.val (.long x), .second] [(.long x)])) X7 hx hown (mvT hZ (own_w hw 79 rfl)) rfl (hb hby d6_24) hr) ?_
      show Rch p.tables e below _ (T7.setTop (mkF m 27 #[.val (.long x), .second] [(.long (-9223372036854775808 : Int64)), (.long x)]))
      refine Rch.st (fun _ hr => XS.lcmp X7.here hx rfl (hb hby d6_27) rfl hr) ?_
      refine Rch.st (fun _ hr => XS.ifNo X7.here hx rfl (hb hby d6_28) rfl ((if0 _ _).trans (feq (mt (lw_eq _ _).mp hm)).1) hr) ?_
      obtain ⟨T12, h12, X12, e12, E12, A12, D12, -, st12⟩ := newO X7 hx hZ hown (own_w hw 80 rfl) (own_w hw 81 rfl) (own_w hw 28 rfl) e7 (g := (mkF m 31 #[.val (.long x), .second] [])) rfl (hb hby d6_31) (by decide) (by decide)
      obtain ⟨b12, g12⟩ : ∃ z, z = h0.size := ⟨_, rfl⟩
      rw [← g12] at A12 D12 st12
      refine Rch.st st12 ?_
      have q12 : h0.size ≤ b12 := Nat.le_of_eq g12.symm
      have g_b12 : n0 ≤ b12 := Nat.le_trans (Nat.le_trans (Nat.le_of_eq zP0.1.symm) zP0.2.1) q12
      have sz_b12 : h0.size ≤ b12 := Nat.le_trans (Keep.refl h0 []).1 q12
      have K13 := (Keep.refl h0 []).ext E12
      have F12_scale : Fld Z h12 b12 "java/math/BigDecimal" "scale" "I" (.int (0 : Int32)) := D12 (Or.inr (own_w hw 76 rfl)) (ty := .int) (by decide)
      have F12_intCompact : Fld Z h12 b12 "java/math/BigDecimal" "intCompact" "J" (.long (0 : Int64)) := D12 (Or.inr (own_w hw 78 rfl)) (ty := .long) (by decide)
      have F12_precision : Fld Z h12 b12 "java/math/BigDecimal" "precision" "I" (.int (0 : Int32)) := D12 (Or.inl (own_w hw 94 rfl)) (ty := .int) (by decide)
      have F12_intVal : Fld Z h12 b12 "java/math/BigDecimal" "intVal" "Ljava/math/BigInteger;" .null := D12 (Or.inr (own_w hw 96 rfl)) (ty := (.object "java/math/BigInteger")) (by decide)
      refine Rch.st (fun _ hr => XS.dup X12.here hx rfl (hb hby d6_34) rfl rfl hr) ?_
      refine Rch.st (fun _ hr => XS.aconstNull X12.here hx rfl (hb hby d6_35) hr) ?_
      refine Rch.st (fun _ hr => XS.lloadN X12.here hx rfl (hb hby d6_36) rfl hr) ?_
      show Rch p.tables e below _ (T12.setTop (mkF m 37 #[.val (.long x), .second] [(.long x), .null, (.ref b12), (.ref b12)]))
      refine Rch.st (fun _ hr => XS.iconst X12.here hx rfl (hb hby d6_37) hr) ?_
      refine Rch.st (fun _ hr => XS.iconst X12.here hx rfl (hb hby d6_38) hr) ?_
      have f15 := (zP0.ext E12)
      show Rch p.tables e below _ (T12.setTop (mkF m 39 #[.val (.long x), .second] [(.int (0 : Int32)), (.int (0 : Int32)), (.long x), .null, (.ref b12), (.ref b12)]))
      refine own_kI X12 hx hZ (y := Y_1) rfl hown (own_w hw 82 rfl) (own_w hw 83 rfl) (own_w hw 28 rfl) (own_w hw 85 rfl) (by decide) (W := 1) (cbdinit l Z a0 hw [] b12 x (0 : Int32) (0 : Int32) h12 n0 f15 A12 F12_intCompact F12_scale F12_precision F12_intVal g_b12) (by decide) (by decide) e12 (by decide) (by decide)  (by rw [hml]; rfl) (a := b12) (argsL := [.null, (.long x), (.int (0 : Int32)), (.int (0 : Int32))]) (rest := [(.ref b12)]) (lenOf pd_1 rfl) rfl rfl (hb hby d6_39) rfl (fun _ T14 Lc14 X14 hQ14 => ?_)
      obtain ⟨rfl, N14q, Kp14, Op14, R14_0⟩ := hQ14
      have N14 := Fr.app N0 N14q
      have K16 := K13.trans Kp14 (allS (Or.inr sz_b12) all0)
      obtain ⟨fs, hr, hrun, hended, hW, hsame⟩ := X14.leave (v := some (.ref b12)) (fun h => by rw [Bd.returns] at h; cases h)
      refine Rch.fin (u := T14.setFrames fs) (own_retA X14 hx Bd.returns rfl rfl rfl (hb hby d6_42) hr) ⟨_, hrun, hended, _, _, rfl, ?_, ⟨_, rfl⟩, hW, hsame.mono (by decide) (by decide)⟩
      show Q_cvalueOf Z x wz h0 n0 _ T14.heap _
      exact ⟨b12, rfl, N14, K16, Op14, R14_0⟩
theorem d32_0 : decode jdk_17_method_132_code 0 = .ok (.lload_n 0, 1) := by decide +kernel
theorem d32_1 : decode jdk_17_method_132_code 1 = .ok (.lload_n 2, 1) := by decide +kernel
theorem d32_2 : decode jdk_17_method_132_code 2 = .ok (.ladd, 1) := by decide +kernel
theorem d32_3 : decode jdk_17_method_132_code 3 = .ok (.lstore 4, 2) := by decide +kernel
theorem d32_5 : decode jdk_17_method_132_code 5 = .ok (.lload 4, 2) := by decide +kernel
theorem d32_7 : decode jdk_17_method_132_code 7 = .ok (.lload_n 0, 1) := by decide +kernel
theorem d32_8 : decode jdk_17_method_132_code 8 = .ok (.lxor, 1) := by decide +kernel
theorem d32_9 : decode jdk_17_method_132_code 9 = .ok (.lload 4, 2) := by decide +kernel
theorem d32_11 : decode jdk_17_method_132_code 11 = .ok (.lload_n 2, 1) := by decide +kernel
theorem d32_12 : decode jdk_17_method_132_code 12 = .ok (.lxor, 1) := by decide +kernel
theorem d32_13 : decode jdk_17_method_132_code 13 = .ok (.land, 1) := by decide +kernel
theorem d32_14 : decode jdk_17_method_132_code 14 = .ok (.lconst 0, 1) := by decide +kernel
theorem d32_15 : decode jdk_17_method_132_code 15 = .ok (.lcmp, 1) := by decide +kernel
theorem d32_16 : decode jdk_17_method_132_code 16 = .ok (.ifCond .lt 6, 3) := by decide +kernel
theorem d32_19 : decode jdk_17_method_132_code 19 = .ok (.lload 4, 2) := by decide +kernel
theorem d32_21 : decode jdk_17_method_132_code 21 = .ok (.lreturn, 1) := by decide +kernel
abbrev Rm_caddJJ : Room := { frames := 0, cells := 0, slots := 0, locals := 0 }
def Q_caddJJ (Z : State) (x : Int64) (y : Int64) (h0 : Heap) (n0 : Nat) (v : Option Value) (h : Heap) (L : List Loc) : Prop := v = some (.long (x + y)) ∧ Fr n0 L ∧ h = h0
theorem ef_caddJJ (m : MethodId) (x : Int64) (y : Int64) : entryFrame m #[(.long x), (.long y)] 6 = mkF m 0 #[.val (.long x), .second, .val (.long y), .second, .unset, .unset] [] := by first | (simp [entryFrame, mkF, argsToLocals, Value.category]; done) | rfl
set_option maxRecDepth 65536 in
set_option maxHeartbeats 40000000 in
theorem caddJJ (l : Launch) (Z : State) (a0 : Array Value) (hw : ∀ d ∈ tables_1, d.before a0 Z = true) (ws : List Jvm.Cond) (x : Int64) (y : Int64) (h0 : Heap) (n0 : Nat) (hf : ¬ (((x + y) ^^^ x) &&& ((x + y) ^^^ y)) < (0 : Int64)) :
    MetFree l (⟨"java/math/BigDecimal", "add", "(JJ)J"⟩ : MethodName) (head1 (Jvm.Cond.code (⟨"java/math/BigDecimal", "add", "(JJ)J"⟩ : MethodName) jdk_17_method_132_code 6 (some .long) :: ws) Rm_caddJJ) (fun aA uU => aA = #[(.long x), (.long y)] ∧ Z.Warmed39 uU.vm ∧ uU.heap = h0) (fun _ _ _ _ _ => True) (fun _ uU oO uU' => ∃ vV lL, oO = .returned vV ∧ Q_caddJJ Z x y h0 n0 vV uU'.heap lL ∧ FrameEnd uU oO uU' lL Rm_caddJJ.cells Rm_caddJJ.slots) := by
  refine MetFree.of_bodySF (plainFor_of_name pn_java_math_BigDecimal) hisR ?_
  intro p e s m args below meth c s₁ Bd hml0 hP hK
  obtain ⟨rfl, hZ, hh⟩ := hP
  have hx := Bd.exec
  have hby := Bd.bytes
  have hml : c.maxLocals = 6 := hml0
  have hown : s.vm.findClass "java/math/BigDecimal" = some m.cls := findClass_of_methodNamed Bd.named
  have hnm := (name_of_methodNamed Bd.named Bd.method).1
  have X0 : Stand p l e Rm_caddJJ s m #[(.long x), (.long y)] below meth c s₁ [] 0 0 := Stand.of_body Bd
  have e0 : s₁.heap = h0 := by rw [← hh, Bd.state]; rfl
  have N0 := Fr.nil n0
  refine Rch.out (Rch.st (fun t k => castTop (ef_caddJJ m x y) k) ?_)
  show Rch p.tables e below _ (s₁.setTop (mkF m 0 #[.val (.long x), .second, .val (.long y), .second, .unset, .unset] []))
  refine Rch.st (fun _ hr => XS.lloadN X0.here hx rfl (hb hby d32_0) rfl hr) ?_
  refine Rch.st (fun _ hr => XS.lloadN X0.here hx rfl (hb hby d32_1) rfl hr) ?_
  refine Rch.st (fun _ hr => XS.ladd X0.here hx rfl (hb hby d32_2) rfl hr) ?_
  refine Rch.st (fun _ hr => XS.lstore X0.here hx rfl (hb hby d32_3) rfl (l' := #[.val (.long x), .second, .val (.long y), .second, .val (.long (x + y)), .second]) rfl hr) ?_
  refine Rch.st (fun _ hr => XS.lload X0.here hx rfl (hb hby d32_5) rfl hr) ?_
  refine Rch.st (fun _ hr => XS.lloadN X0.here hx rfl (hb hby d32_7) rfl hr) ?_
  show Rch p.tables e below _ (s₁.setTop (mkF m 8 #[.val (.long x), .second, .val (.long y), .second, .val (.long (x + y)), .second] [(.long x), (.long (x + y))]))
  refine Rch.st (fun _ hr => XS.lxor X0.here hx rfl (hb hby d32_8) rfl hr) ?_
  refine Rch.st (fun _ hr => XS.lload X0.here hx rfl (hb hby d32_9) rfl hr) ?_
  refine Rch.st (fun _ hr => XS.lloadN X0.here hx rfl (hb hby d32_11) rfl hr) ?_
  refine Rch.st (fun _ hr => XS.lxor X0.here hx rfl (hb hby d32_12) rfl hr) ?_
  refine Rch.st (fun _ hr => XS.land X0.here hx rfl (hb hby d32_13) rfl hr) ?_
  refine Rch.st (fun _ hr => XS.lconst X0.here hx rfl (hb hby d32_14) hr) ?_
  show Rch p.tables e below _ (s₁.setTop (mkF m 15 #[.val (.long x), .second, .val (.long y), .second, .val (.long (x + y)), .second] [(.long (0 : Int64)), (.long (((x + y) ^^^ x) &&& ((x + y) ^^^ y)))]))
  refine Rch.st (fun _ hr => XS.lcmp X0.here hx rfl (hb hby d32_15) rfl hr) ?_
  refine Rch.st (fun _ hr => XS.ifNo X0.here hx rfl (hb hby d32_16) rfl ((if0 _ _).trans (flt (mt (lw_lt _ _).mp hf)).1) hr) ?_
  refine Rch.st (fun _ hr => XS.lload X0.here hx rfl (hb hby d32_19) rfl hr) ?_
  obtain ⟨fs, hr, hrun, hended, hW, hsame⟩ := X0.leave (v := some (.long (x + y))) (fun h => by rw [Bd.returns] at h; cases h)
  refine Rch.fin (u := s₁.setFrames fs) (own_retJ X0 hx Bd.returns (hb hby d32_21) hr) ⟨_, hrun, hended, _, _, rfl, ?_, ⟨_, rfl⟩, hW, hsame.mono (by decide) (by decide)⟩
  show Q_caddJJ Z x y h0 n0 _ s₁.heap _
  exact ⟨rfl, N0, e0⟩
/-- a BigDecimal of the value x at the scale sc (or of 0 at the scale 0), n ints' worth -/
def BE (Z : State) (h : Heap) (a : Addr) (x : Int64) (sc : Int32) (n : Int) : Prop := Exa Z h a "java/math/BigDecimal" ∧ ∃ z : Int32, BDc Z h a x z ∧ (z = sc ∨ (z = 0 ∧ x = 0)) ∧ Bk n x
theorem BE.ext {Z : State} {h h' : Heap} {a : Addr} {x : Int64} {sc : Int32} {n : Int} (F : BE Z h a x sc n) (E : Ext h h') : BE Z h' a x sc n := by
  obtain ⟨F1, z, F2, F3⟩ := F
  exact ⟨F1.ext E, z, F2.ext E, F3⟩
theorem BE.keep {Z : State} {h h' : Heap} {a : Addr} {x : Int64} {sc : Int32} {n : Int} {ws : List Addr} (F : BE Z h a x sc n) (K : Keep h h' ws) (q : a ∉ ws) : BE Z h' a x sc n := by
  obtain ⟨F1, z, F2, F3⟩ := F
  exact ⟨F1.keep K, z, F2.keep K q, F3⟩
theorem BE.other {Z : State} {h h' : Heap} {a b : Addr} {x : Int64} {sc : Int32} {n : Int} {sl : Nat} {v : Value} (F : BE Z h a x sc n) (W : Wr h h' b sl v) (q : a ≠ b) : BE Z h' a x sc n := by
  obtain ⟨F1, z, F2, F3⟩ := F
  exact ⟨F1.wr W, z, F2.other W q, F3⟩
theorem BE.lt {Z : State} {h : Heap} {a : Addr} {x : Int64} {sc : Int32} {n : Int} (F : BE Z h a x sc n) : a < h.size := F.1.lt
theorem BE.mono {Z : State} {h : Heap} {a : Addr} {x : Int64} {sc : Int32} {n m : Int} (F : BE Z h a x sc n) (q : n ≤ m) : BE Z h a x sc m := by
  obtain ⟨F1, z, F2, F3, F4⟩ := F
  exact ⟨F1, z, F2, F3, F4.mono q⟩
theorem BE.bk {Z : State} {h : Heap} {a : Addr} {x : Int64} {sc : Int32} {n : Int} (F : BE Z h a x sc n) : Bk n x := by
  obtain ⟨F1, z, F2, F3, F4⟩ := F
  exact F4
theorem BE.zero {Z : State} {h : Heap} {a : Addr} {sc : Int32} {n : Int} (F : BDc Z h a 0 0) (q : 0 ≤ n) : BE Z h a 0 sc n := ⟨F.1, 0, F, Or.inr ⟨rfl, rfl⟩, Bk.zero.mono q⟩
/-- the table of the zeros -/
def STab (Z : State) (h : Heap) (a : Addr) : Prop := ∃ cl : Cell, Arr Z h a cl (.object "java/math/BigDecimal") ∧ cl.slots.size = (16 : Int32).toNatClampNeg ∧ ∀ k : Nat, k < 16 → ∃ z, cl.slots[k]? = some (.ref z) ∧ BDc Z h z 0 (Int32.ofNat k)
theorem STab.ext {Z : State} {h h' : Heap} {a : Addr} (F : STab Z h a) (E : Ext h h') : STab Z h' a := by
  obtain ⟨cl, A, S, H⟩ := F
  exact ⟨cl, A.ext E, S, fun k hk => by obtain ⟨z, h1, h2⟩ := H k hk; exact ⟨z, h1, h2.ext E⟩⟩
def own_S (sc : Int32) : Prop := 0 ≤ sc.toInt ∧ sc.toInt < 4
theorem own_S.nn {z : Int32} (h : own_S z) : ¬ z < (0 : Int32) := by
  rw [Int32.lt_iff_toInt_lt]
  have e0 : (0 : Int32).toInt = 0 := rfl
  have := h.1
  omega
theorem own_S.lt {z : Int32} (h : own_S z) : z < (16 : Int32) := by
  rw [Int32.lt_iff_toInt_lt]
  have e0 : (16 : Int32).toInt = 16 := rfl
  have := h.2
  omega
theorem own_S.of {z sc : Int32} {x : Int64} (h : own_S sc) (q : z = sc ∨ (z = 0 ∧ x = 0)) : own_S z := by
  rcases q with rfl | ⟨rfl, -⟩
  · exact h
  · exact ⟨by decide, by decide⟩
theorem own_and3 (w : Int32) : (w &&& (3 : Int32)) = (0 : Int32) ∨ (w &&& (3 : Int32)) = (1 : Int32) ∨ (w &&& (3 : Int32)) = (2 : Int32) ∨ (w &&& (3 : Int32)) = (3 : Int32) := by
  have h := c_and w 3 (by decide)
  have e3 : (3 : Int32).toInt = 3 := rfl
  have e0 : (0 : Int32).toInt = 0 := rfl
  have e1 : (1 : Int32).toInt = 1 := rfl
  have e2 : (2 : Int32).toInt = 2 := rfl
  rw [← Int32.toInt_inj, ← Int32.toInt_inj, ← Int32.toInt_inj, ← Int32.toInt_inj, e0, e1, e2, e3]
  omega
theorem own_and3S (w : Int32) : own_S (w &&& (3 : Int32)) := by
  rcases own_and3 w with h | h | h | h <;> rw [h] <;> exact ⟨by decide, by decide⟩
theorem own_rem1 (w : Int32) : ((w &&& (3 : Int32)) % (1 : Int32)) = (0 : Int32) := by
  rcases own_and3 w with h | h | h | h <;> rw [h] <;> decide
theorem own_rem2 (w : Int32) : ((w &&& (3 : Int32)) % (2 : Int32)) = (0 : Int32) ∨ ((w &&& (3 : Int32)) % (2 : Int32)) = (1 : Int32) := by
  rcases own_and3 w with h | h | h | h <;> rw [h] <;> decide
theorem own_rem3 (w : Int32) : ((w &&& (3 : Int32)) % (3 : Int32)) = (0 : Int32) ∨ ((w &&& (3 : Int32)) % (3 : Int32)) = (1 : Int32) ∨ ((w &&& (3 : Int32)) % (3 : Int32)) = (2 : Int32) := by
  rcases own_and3 w with h | h | h | h <;> rw [h] <;> decide
theorem own_lt12 {z : Int32} (h : z < (1 : Int32)) : z < (2 : Int32) := by
  rw [Int32.lt_iff_toInt_lt] at *
  have e1 : (1 : Int32).toInt = 1 := rfl
  have e2 : (2 : Int32).toInt = 2 := rfl
  omega
theorem own_lt23 {z : Int32} (h : z < (2 : Int32)) : z < (3 : Int32) := by
  rw [Int32.lt_iff_toInt_lt] at *
  have e1 : (3 : Int32).toInt = 3 := rfl
  have e2 : (2 : Int32).toInt = 2 := rfl
  omega
theorem own_splace (z : Int32) (h0 : ¬ z < (0 : Int32)) (h1 : z < (16 : Int32)) : z.toNatClampNeg = z.toInt.toNat ∧ z.toInt.toNat < 16 ∧ Int32.ofNat z.toInt.toNat = z := by
  rw [Int32.lt_iff_toInt_lt] at h0 h1
  have e0 : (0 : Int32).toInt = 0 := rfl
  have e1 : (16 : Int32).toInt = 16 := rfl
  rw [e0] at h0; rw [e1] at h1
  refine ⟨rfl, by omega, ?_⟩
  apply Int32.toInt_inj.mp
  rw [Int32.toInt_ofNat_of_lt (by omega)]
  omega
theorem own_d {za zb : Int32} (hA : own_S za) (hB : own_S zb) : ((za.toInt64) - (zb.toInt64)).toInt = za.toInt - zb.toInt := by
  have h1 := c_i2l za
  have h2 := c_i2l zb
  unfold own_S at *
  rw [Int64.toInt_sub, h1, h2]
  exact Int.bmod_eq_of_le (by omega) (by omega)
theorem own_nar (w : Int64) (h : -4 < w.toInt ∧ w.toInt < 4) : ((w.toInt32).toInt64) = w := by
  apply Int64.toInt_inj.mp
  rw [c_i2l, Jvm.Free.XT.narrowInt ⟨by omega, by omega⟩]
theorem own_p1 {za zb sc : Int32} {x y : Int64} (hs : own_S sc) (hA : za = sc ∨ (za = 0 ∧ x = 0)) (hB : zb = sc ∨ (zb = 0 ∧ y = 0)) (h : ((za.toInt64) - (zb.toInt64)) = (0 : Int64)) : za = sc ∨ (za = 0 ∧ (x + y) = 0) := by
  have hd := own_d (hs.of hA) (hs.of hB)
  rw [h] at hd
  have e0 : (0 : Int64).toInt = 0 := rfl
  have hz : za = zb := Int32.toInt_inj.mp (by omega)
  rcases hA with q | ⟨q, rx⟩
  · exact Or.inl q
  · rcases hB with q' | ⟨q', ry⟩
    · exact Or.inl (hz.trans q')
    · exact Or.inr ⟨q, by rw [rx, ry]; decide⟩
theorem own_p2 {za zb sc : Int32} {x y : Int64} (hs : own_S sc) (hA : za = sc ∨ (za = 0 ∧ x = 0)) (hB : zb = sc ∨ (zb = 0 ∧ y = 0)) (h : ((za.toInt64) - (zb.toInt64)) < (0 : Int64)) : x = (0 : Int64) ∧ zb = sc ∧ (((-((za.toInt64) - (zb.toInt64))).toInt32).toInt64) = (-((za.toInt64) - (zb.toInt64))) := by
  have hSa := hs.of hA
  have hSb := hs.of hB
  have hd := own_d hSa hSb
  rw [Int64.lt_iff_toInt_lt] at h
  have e0 : (0 : Int64).toInt = 0 := rfl
  have e1 : (0 : Int32).toInt = 0 := rfl
  unfold own_S at *
  have hb : zb = sc := by
    rcases hB with q | ⟨q, -⟩
    · exact q
    · have hq : zb.toInt = 0 := by rw [q]; rfl
      omega
  refine ⟨?_, hb, own_nar _ ?_⟩
  · rcases hA with q | ⟨-, q⟩
    · have hq : za.toInt = zb.toInt := by rw [q, hb]
      omega
    · exact q
  · have hn : (-((za.toInt64) - (zb.toInt64))).toInt = -(za.toInt - zb.toInt) := by
      rw [Int64.toInt_neg, hd]
      exact Int.bmod_eq_of_le (by omega) (by omega)
    rw [hn]; omega
theorem own_p3 {za zb sc : Int32} {x y : Int64} (hs : own_S sc) (hA : za = sc ∨ (za = 0 ∧ x = 0)) (hB : zb = sc ∨ (zb = 0 ∧ y = 0)) (h0 : ¬ ((za.toInt64) - (zb.toInt64)) = (0 : Int64)) (h : ¬ ((za.toInt64) - (zb.toInt64)) < (0 : Int64)) : y = (0 : Int64) ∧ za = sc ∧ ((((za.toInt64) - (zb.toInt64)).toInt32).toInt64) = ((za.toInt64) - (zb.toInt64)) := by
  have hSa := hs.of hA
  have hSb := hs.of hB
  have hd := own_d hSa hSb
  have h00 : ¬ ((za.toInt64) - (zb.toInt64)).toInt = 0 := fun q => h0 (Int64.toInt_inj.mp q)
  rw [Int64.lt_iff_toInt_lt] at h
  have e0 : (0 : Int64).toInt = 0 := rfl
  have e1 : (0 : Int32).toInt = 0 := rfl
  unfold own_S at *
  have ha : za = sc := by
    rcases hA with q | ⟨q, -⟩
    · exact q
    · have hq : za.toInt = 0 := by rw [q]; rfl
      omega
  refine ⟨?_, ha, own_nar _ ?_⟩
  · rcases hB with q | ⟨-, q⟩
    · have hq : za.toInt = zb.toInt := by rw [q, ha]
      omega
    · exact q
  · rw [hd]; omega
theorem Bk.nn {n : Int} {x : Int64} (h : Bk n x) : 0 ≤ n := by unfold Bk at h; omega
theorem Bk.ne1 {n m : Int} {x y : Int64} (hx : Bk n x) (hy : Bk m y) (q : n + m ≤ 1000) : ¬ x = (-9223372036854775808 : Int64) := hx.ne (by have := hy.nn; omega)
theorem own_negor {zb sc : Int32} {y : Int64} (h : zb = sc ∨ (zb = 0 ∧ y = 0)) : zb = sc ∨ (zb = 0 ∧ (-y) = 0) := h.imp id (fun q => ⟨q.1, by rw [q.2]; decide⟩)
theorem Bk.neg1 {n m : Int} {x y : Int64} (hx : Bk n x) (hy : Bk m y) (q : n + m ≤ 1000) : Bk m (-y) := (hy.neg (by have := hx.nn; omega)).2
theorem own_x0 {za zb sc : Int32} {x y : Int64} (hxy : x = y) (hA : za = sc ∨ (za = 0 ∧ x = 0)) (hB : zb = sc ∨ (zb = 0 ∧ y = 0)) (h : ¬ za = zb) : x = 0 := by
  rcases hA with q | ⟨-, q⟩
  · rcases hB with q' | ⟨-, q'⟩
    · exact absurd (q.trans q'.symm) h
    · exact hxy.trans q'
  · exact q
theorem own_s1 (a c : Int64) : (0 + (a + c)) = (0 + a) + c := by rw [Int64.add_assoc]
theorem own_s20 (a b c : Int64) : ((0 + (a + c)) + b) = ((0 + a) + b) + c := by rw [own_s1, Int64.add_assoc, Int64.add_comm c b, ← Int64.add_assoc]
theorem own_s21 (a b c : Int64) : ((0 + a) + (b + c)) = ((0 + a) + b) + c := by rw [Int64.add_assoc (0 + a) b c]
theorem own_s30 (a b d c : Int64) : (((0 + (a + c)) + b) + d) = (((0 + a) + b) + d) + c := by rw [own_s20, Int64.add_assoc, Int64.add_comm c d, ← Int64.add_assoc]
theorem own_s31 (a b d c : Int64) : (((0 + a) + (b + c)) + d) = (((0 + a) + b) + d) + c := by rw [own_s21, Int64.add_assoc, Int64.add_comm c d, ← Int64.add_assoc]
theorem own_s32 (a b d c : Int64) : (((0 + a) + b) + (d + c)) = (((0 + a) + b) + d) + c := by rw [Int64.add_assoc ((0 + a) + b) d c]
theorem d14_0 : decode jdk_17_method_24_code 0 = .ok (.iload_n 0, 1) := by decide +kernel
theorem d14_1 : decode jdk_17_method_24_code 1 = .ok (.ifCond .lt 17, 3) := by decide +kernel
theorem d14_4 : decode jdk_17_method_24_code 4 = .ok (.iload_n 0, 1) := by decide +kernel
theorem d14_5 : decode jdk_17_method_24_code 5 = .ok (.getstatic 250, 3) := by decide +kernel
theorem d14_8 : decode jdk_17_method_24_code 8 = .ok (.arraylength, 1) := by decide +kernel
theorem d14_9 : decode jdk_17_method_24_code 9 = .ok (.if_icmp .ge 9, 3) := by decide +kernel
theorem d14_12 : decode jdk_17_method_24_code 12 = .ok (.getstatic 250, 3) := by decide +kernel
theorem d14_15 : decode jdk_17_method_24_code 15 = .ok (.iload_n 0, 1) := by decide +kernel
theorem d14_16 : decode jdk_17_method_24_code 16 = .ok (.aaload, 1) := by decide +kernel
theorem d14_17 : decode jdk_17_method_24_code 17 = .ok (.areturn, 1) := by decide +kernel
abbrev Rm_czero : Room := { frames := 0, cells := 0, slots := 0, locals := 0 }
def Q_czero (Z : State) (sc : Int32) (wy : Addr) (h0 : Heap) (n0 : Nat) (v : Option Value) (h : Heap) (L : List Loc) : Prop := ∃ (r : Addr), v = some (.ref r) ∧ Fr n0 L ∧ h = h0 ∧ BDc Z h r (0 : Int64) sc
theorem ef_czero (m : MethodId) (sc : Int32) (wy : Addr) : entryFrame m #[(.int sc)] 1 = mkF m 0 #[.val (.int sc)] [] := by first | (simp [entryFrame, mkF, argsToLocals, Value.category]; done) | rfl
set_option maxRecDepth 65536 in
set_option maxHeartbeats 40000000 in
theorem czero (l : Launch) (Z : State) (a0 : Array Value) (hw : ∀ d ∈ tables_1, d.before a0 Z = true) (ws : List Jvm.Cond) (sc : Int32) (wy : Addr) (h0 : Heap) (n0 : Nat) (zD0 : Sta Z Z.heap "java/math/BigDecimal" "ZERO_SCALED_BY" "[Ljava/math/BigDecimal;" (.ref wy)) (zD1 : STab Z Z.heap wy) (zP0 : Old Z n0 h0) (hz1 : ¬ sc < (0 : Int32)) (hz2 : sc < (16 : Int32)) :
    MetFree l (⟨"java/math/BigDecimal", "zeroValueOf", "(I)Ljava/math/BigDecimal;"⟩ : MethodName) (head1 (Jvm.Cond.code (⟨"java/math/BigDecimal", "zeroValueOf", "(I)Ljava/math/BigDecimal;"⟩ : MethodName) jdk_17_method_24_code 1 (some (.object "java/math/BigDecimal")) :: ws) Rm_czero) (fun aA uU => aA = #[(.int sc)] ∧ Z.Warmed39 uU.vm ∧ uU.heap = h0) (fun _ _ _ _ _ => True) (fun _ uU oO uU' => ∃ vV lL, oO = .returned vV ∧ Q_czero Z sc wy h0 n0 vV uU'.heap lL ∧ FrameEnd uU oO uU' lL Rm_czero.cells Rm_czero.slots) := by
  refine MetFree.of_bodySF (plainFor_of_name pn_java_math_BigDecimal) hisR ?_
  intro p e s m args below meth c s₁ Bd hml0 hP hK
  obtain ⟨rfl, hZ, hh⟩ := hP
  have hx := Bd.exec
  have hby := Bd.bytes
  have hml : c.maxLocals = 1 := hml0
  have hown : s.vm.findClass "java/math/BigDecimal" = some m.cls := findClass_of_methodNamed Bd.named
  have hnm := (name_of_methodNamed Bd.named Bd.method).1
  have X0 : Stand p l e Rm_czero s m #[(.int sc)] below meth c s₁ [] 0 0 := Stand.of_body Bd
  have e0 : s₁.heap = h0 := by rw [← hh, Bd.state]; rfl
  have N0 := Fr.nil n0
  refine Rch.out (Rch.st (fun t k => castTop (ef_czero m sc wy) k) ?_)
  show Rch p.tables e below _ (s₁.setTop (mkF m 0 #[.val (.int sc)] []))
  refine Rch.st (fun _ hr => XS.iloadN X0.here hx rfl (hb hby d14_0) rfl hr) ?_
  refine Rch.st (fun _ hr => XS.ifNo X0.here hx rfl (hb hby d14_1) rfl ((if0 _ _).trans (flt hz1).1) hr) ?_
  refine Rch.st (fun _ hr => XS.iloadN X0.here hx rfl (hb hby d14_4) rfl hr) ?_
  obtain ⟨T1, X1, e1, st1⟩ := getS2 X0 hx hZ hown (host := "") (Or.inl (own_w hw 100 rfl)) Via.refl e0 (zD0.ext zP0.2) (g := (mkF m 5 #[.val (.int sc)] [(.int sc)])) rfl (hb hby d14_5)
  refine Rch.st st1 ?_
  obtain ⟨cl2, Ar2, Sz2, -⟩ := zD1.ext zP0.2
  refine Rch.st (fun t hr => X1.arraylength hx (by rw [e1]; exact Ar2.1) (State.isArrayOf_alike hZ.alike Ar2.2.1) (g := (mkF m 8 #[.val (.int sc)] [(.ref wy), (.int sc)])) rfl rfl (hb hby d14_8) t hr) ?_
  rw [len_of Sz2 (by decide)]
  refine Rch.st (fun _ hr => XS.icmpNo X1.here hx rfl (hb hby d14_9) rfl (tlt hz2).2.1 hr) ?_
  show Rch p.tables e below _ (T1.setTop (mkF m 12 #[.val (.int sc)] []))
  obtain ⟨T3, X3, e3, st3⟩ := getS2 X1 hx hZ hown (host := "") (Or.inl (own_w hw 100 rfl)) Via.refl e1 (zD0.ext zP0.2) (g := (mkF m 12 #[.val (.int sc)] [])) rfl (hb hby d14_12)
  refine Rch.st st3 ?_
  refine Rch.st (fun _ hr => XS.iloadN X3.here hx rfl (hb hby d14_15) rfl hr) ?_
  obtain ⟨cl4, Ar4, Sz4, Hk4⟩ := zD1.ext zP0.2
  have hi4 := own_splace sc hz1 hz2
  obtain ⟨z4, hz4, Bz4⟩ := Hk4 _ hi4.2.1
  rw [← hi4.1] at hz4
  rw [hi4.2.2] at Bz4
  have hin4 : ¬ (sc < 0 ∨ cl4.slots.size ≤ (sc).toNatClampNeg) := fun q => q.elim hz1 (fun q => by rw [Sz4, hi4.1] at q; exact Nat.not_lt.mpr q hi4.2.1)
  refine Rch.st (fun t hr => X3.aaload hx (j := sc) (v := (.ref z4)) (by rw [e3]; exact Ar4.1) (State.isArrayOf_alike hZ.alike Ar4.2.1) rfl Ar4.2.2 hin4 hz4 (g := (mkF m 16 #[.val (.int sc)] [(.int sc), (.ref wy)])) rfl rfl (hb hby d14_16) t hr) ?_
  obtain ⟨fs, hr, hrun, hended, hW, hsame⟩ := X3.leave (v := some (.ref z4)) (fun h => by rw [Bd.returns] at h; cases h)
  refine Rch.fin (u := T3.setFrames fs) (own_retA X3 hx Bd.returns rfl rfl rfl (hb hby d14_17) hr) ⟨_, hrun, hended, _, _, rfl, ?_, ⟨_, rfl⟩, hW, hsame.mono (by decide) (by decide)⟩
  show Q_czero Z sc wy h0 n0 _ T3.heap _
  rw [e3]
  exact ⟨z4, rfl, N0, rfl, Bz4⟩
theorem d5_0 : decode jdk_17_method_20_code 0 = .ok (.iload_n 2, 1) := by decide +kernel
theorem d5_1 : decode jdk_17_method_20_code 1 = .ok (.ifCond .ne 8, 3) := by decide +kernel
theorem d5_4 : decode jdk_17_method_20_code 4 = .ok (.lload_n 0, 1) := by decide +kernel
theorem d5_5 : decode jdk_17_method_20_code 5 = .ok (.invokestatic 236, 3) := by decide +kernel
theorem pd_2 : parseMethodDescriptor "(J)Ljava/math/BigDecimal;" = some ⟨[.long], some (.object "java/math/BigDecimal")⟩ := by decide +kernel
abbrev Y_2 : MethodName := ⟨"java/math/BigDecimal", "valueOf", "(J)Ljava/math/BigDecimal;"⟩
theorem d5_8 : decode jdk_17_method_20_code 8 = .ok (.areturn, 1) := by decide +kernel
theorem d5_9 : decode jdk_17_method_20_code 9 = .ok (.lload_n 0, 1) := by decide +kernel
theorem d5_10 : decode jdk_17_method_20_code 10 = .ok (.lconst 0, 1) := by decide +kernel
theorem d5_11 : decode jdk_17_method_20_code 11 = .ok (.lcmp, 1) := by decide +kernel
theorem d5_12 : decode jdk_17_method_20_code 12 = .ok (.ifCond .ne 8, 3) := by decide +kernel
theorem d5_15 : decode jdk_17_method_20_code 15 = .ok (.iload_n 2, 1) := by decide +kernel
theorem d5_16 : decode jdk_17_method_20_code 16 = .ok (.invokestatic 239, 3) := by decide +kernel
theorem pd_3 : parseMethodDescriptor "(I)Ljava/math/BigDecimal;" = some ⟨[.int], some (.object "java/math/BigDecimal")⟩ := by decide +kernel
abbrev Y_3 : MethodName := ⟨"java/math/BigDecimal", "zeroValueOf", "(I)Ljava/math/BigDecimal;"⟩
theorem d5_19 : decode jdk_17_method_20_code 19 = .ok (.areturn, 1) := by decide +kernel
theorem d5_20 : decode jdk_17_method_20_code 20 = .ok (.new 3, 3) := by decide +kernel
theorem d5_23 : decode jdk_17_method_20_code 23 = .ok (.dup, 1) := by decide +kernel
theorem d5_24 : decode jdk_17_method_20_code 24 = .ok (.lload_n 0, 1) := by decide +kernel
theorem d5_25 : decode jdk_17_method_20_code 25 = .ok (.ldc2_w 125, 3) := by decide +kernel
theorem d5_28 : decode jdk_17_method_20_code 28 = .ok (.lcmp, 1) := by decide +kernel
theorem d5_29 : decode jdk_17_method_20_code 29 = .ok (.ifCond .ne 9, 3) := by decide +kernel
theorem d5_38 : decode jdk_17_method_20_code 38 = .ok (.aconst_null, 1) := by decide +kernel
theorem d5_39 : decode jdk_17_method_20_code 39 = .ok (.lload_n 0, 1) := by decide +kernel
theorem d5_40 : decode jdk_17_method_20_code 40 = .ok (.iload_n 2, 1) := by decide +kernel
theorem d5_41 : decode jdk_17_method_20_code 41 = .ok (.iconst 0, 1) := by decide +kernel
theorem d5_42 : decode jdk_17_method_20_code 42 = .ok (.invokespecial 243, 3) := by decide +kernel
theorem d5_45 : decode jdk_17_method_20_code 45 = .ok (.areturn, 1) := by decide +kernel
abbrev Rm_cvalueOfS : Room := { frames := 4, cells := 1, slots := 5, locals := 55 }
def Q_cvalueOfS (Z : State) (x : Int64) (sc : Int32) (wz : Addr) (wy : Addr) (h0 : Heap) (n0 : Nat) (v : Option Value) (h : Heap) (L : List Loc) : Prop := ∃ (r : Addr), v = some (.ref r) ∧ Fr n0 L ∧ Keep h0 h [] ∧ Old Z n0 h ∧ BDc Z h r x sc
theorem ef_cvalueOfS (m : MethodId) (x : Int64) (sc : Int32) (wz : Addr) (wy : Addr) : entryFrame m #[(.long x), (.int sc)] 3 = mkF m 0 #[.val (.long x), .second, .val (.int sc)] [] := by first | (simp [entryFrame, mkF, argsToLocals, Value.category]; done) | rfl
set_option maxRecDepth 65536 in
set_option maxHeartbeats 40000000 in
theorem cvalueOfS (l : Launch) (Z : State) (a0 : Array Value) (hw : ∀ d ∈ tables_1, d.before a0 Z = true) (ws : List Jvm.Cond) (x : Int64) (sc : Int32) (wz : Addr) (wy : Addr) (h0 : Heap) (n0 : Nat) (zD0 : Sta Z Z.heap "java/math/BigDecimal" "ZERO_THROUGH_TEN" "[Ljava/math/BigDecimal;" (.ref wz)) (zD1 : ZTab Z Z.heap wz) (zD2 : Sta Z Z.heap "java/math/BigDecimal" "ZERO_SCALED_BY" "[Ljava/math/BigDecimal;" (.ref wy)) (zD3 : STab Z Z.heap wy) (zP0 : Old Z n0 h0) (hm : ¬ x = (-9223372036854775808 : Int64)) (hz1 : ¬ sc < (0 : Int32)) (hz2 : sc < (16 : Int32)) :
    MetFree l (⟨"java/math/BigDecimal", "valueOf", "(JI)Ljava/math/BigDecimal;"⟩ : MethodName) (head1 (Jvm.Cond.code (⟨"java/math/BigDecimal", "valueOf", "(JI)Ljava/math/BigDecimal;"⟩ : MethodName) jdk_17_method_20_code 3 (some (.object "java/math/BigDecimal")) :: ws) Rm_cvalueOfS) (fun aA uU => aA = #[(.long x), (.int sc)] ∧ Z.Warmed39 uU.vm ∧ uU.heap = h0) (fun _ _ _ _ _ => True) (fun _ uU oO uU' => ∃ vV lL, oO = .returned vV ∧ Q_cvalueOfS Z x sc wz wy h0 n0 vV uU'.heap lL ∧ FrameEnd uU oO uU' lL Rm_cvalueOfS.cells Rm_cvalueOfS.slots) := by
  refine MetFree.of_bodySF (plainFor_of_name pn_java_math_BigDecimal) hisR ?_
  intro p e s m args below meth c s₁ Bd hml0 hP hK
  obtain ⟨rfl, hZ, hh⟩ := hP
  have hx := Bd.exec
  have hby := Bd.bytes
  have hml : c.maxLocals = 3 := hml0
  have hown : s.vm.findClass "java/math/BigDecimal" = some m.cls := findClass_of_methodNamed Bd.named
  have hnm := (name_of_methodNamed Bd.named Bd.method).1
  have X0 : Stand p l e Rm_cvalueOfS s m #[(.long x), (.int sc)] below meth c s₁ [] 0 0 := Stand.of_body Bd
  have e0 : s₁.heap = h0 := by rw [← hh, Bd.state]; rfl
  have N0 := Fr.nil n0
  refine Rch.out (Rch.st (fun t k => castTop (ef_cvalueOfS m x sc wz wy) k) ?_)
  show Rch p.tables e below _ (s₁.setTop (mkF m 0 #[.val (.long x), .second, .val (.int sc)] []))
  refine Rch.st (fun _ hr => XS.iloadN X0.here hx rfl (hb hby d5_0) rfl hr) ?_
  by_cases hc1 : sc = (0 : Int32)
  · refine Rch.st (fun _ hr => XS.ifNo X0.here hx rfl (hb hby d5_1) rfl ((if0 _ _).trans (teq hc1).2) hr) ?_
    refine Rch.st (fun _ hr => XS.lloadN X0.here hx rfl (hb hby d5_4) rfl hr) ?_
    show Rch p.tables e below _ (s₁.setTop (mkF m 5 #[.val (.long x), .second, .val (.int sc)] [(.long x)]))
    refine own_kS X0 hx hZ (y := Y_2) hown (own_w hw 30 rfl) (own_w hw 31 rfl) (own_w hw 28 rfl) (own_w hw 32 rfl) (by decide) (W := 0) (cvalueOf l Z a0 hw [] x wz h0 n0 zD0 zD1 zP0 hm) (by decide) (by decide) e0 (by decide) (by decide)  (by rw [hml]; rfl) (argsL := [(.long x)]) (rest := []) (lenOf pd_2 rfl) rfl rfl (hb hby d5_5) rfl (fun _ T2 Lc2 X2 hQ2 => ?_)
    obtain ⟨r_2, rfl, N2q, Kp2, Op2, R2_0⟩ := hQ2
    have N2 := Fr.app N0 N2q
    have K3 := (Keep.refl h0 []).trans Kp2 all0
    obtain ⟨fs, hr, hrun, hended, hW, hsame⟩ := X2.leave (v := some (.ref r_2)) (fun h => by rw [Bd.returns] at h; cases h)
    refine Rch.fin (u := T2.setFrames fs) (own_retA X2 hx Bd.returns rfl rfl rfl (hb hby d5_8) hr) ⟨_, hrun, hended, _, _, rfl, ?_, ⟨_, rfl⟩, hW, hsame.mono (by decide) (by decide)⟩
    show Q_cvalueOfS Z x sc wz wy h0 n0 _ T2.heap _
    exact ⟨r_2, rfl, N2, K3, Op2, (by rw [hc1]; exact R2_0)⟩
  · refine Rch.st (fun _ hr => XS.ifYes X0.here hx rfl (pc0 := 1) (pc' := 9) rfl (hb hby d5_1) rfl ((if0 _ _).trans (feq hc1).2) (by decide) (by decide) hr) ?_
    refine Rch.st (fun _ hr => XS.lloadN X0.here hx rfl (hb hby d5_9) rfl hr) ?_
    refine Rch.st (fun _ hr => XS.lconst X0.here hx rfl (hb hby d5_10) hr) ?_
    refine Rch.st (fun _ hr => XS.lcmp X0.here hx rfl (hb hby d5_11) rfl hr) ?_
    by_cases hc4 : x = (0 : Int64)
    · refine Rch.st (fun _ hr => XS.ifNo X0.here hx rfl (hb hby d5_12) rfl ((if0 _ _).trans (teq ((lw_eq _ _).mpr hc4)).2) hr) ?_
      show Rch p.tables e below _ (s₁.setTop (mkF m 15 #[.val (.long x), .second, .val (.int sc)] []))
      refine Rch.st (fun _ hr => XS.iloadN X0.here hx rfl (hb hby d5_15) rfl hr) ?_
      show Rch p.tables e below _ (s₁.setTop (mkF m 16 #[.val (.long x), .second, .val (.int sc)] [(.int sc)]))
      refine own_kS X0 hx hZ (y := Y_3) hown (own_w hw 97 rfl) (own_w hw 98 rfl) (own_w hw 28 rfl) (own_w hw 99 rfl) (by decide) (W := 0) (czero l Z a0 hw [] sc wy h0 n0 zD2 zD3 zP0 hz1 hz2) (by decide) (by decide) e0 (by decide) (by decide)  (by rw [hml]; rfl) (argsL := [(.int sc)]) (rest := []) (lenOf pd_3 rfl) rfl rfl (hb hby d5_16) rfl (fun _ T5 Lc5 X5 hQ5 => ?_)
      obtain ⟨r_5, rfl, N5q, e5, R5_0⟩ := hQ5
      have N5 := Fr.app N0 N5q
      rw [e5] at R5_0
      obtain ⟨fs, hr, hrun, hended, hW, hsame⟩ := X5.leave (v := some (.ref r_5)) (fun h => by rw [Bd.returns] at h; cases h)
      refine Rch.fin (u := T5.setFrames fs) (own_retA X5 hx Bd.returns rfl rfl rfl (hb hby d5_19) hr) ⟨_, hrun, hended, _, _, rfl, ?_, ⟨_, rfl⟩, hW, hsame.mono (by decide) (by decide)⟩
      show Q_cvalueOfS Z x sc wz wy h0 n0 _ T5.heap _
      rw [e5]
      exact ⟨r_5, rfl, N5, (Keep.refl h0 []), zP0, (by rw [hc4]; exact R5_0)⟩
    · refine Rch.st (fun _ hr => XS.ifYes X0.here hx rfl (pc0 := 12) (pc' := 20) rfl (hb hby d5_12) rfl ((if0 _ _).trans (feq (mt (lw_eq _ _).mp hc4)).2) (by decide) (by decide) hr) ?_
      show Rch p.tables e below _ (s₁.setTop (mkF m 20 #[.val (.long x), .second, .val (.int sc)] []))
      obtain ⟨T6, h6, X6, e6, E6, A6, D6, -, st6⟩ := newO X0 hx hZ hown (own_w hw 80 rfl) (own_w hw 81 rfl) (own_w hw 28 rfl) e0 (g := (mkF m 20 #[.val (.long x), .second, .val (.int sc)] [])) rfl (hb hby d5_20) (by decide) (by decide)
      obtain ⟨b6, g6⟩ : ∃ z, z = h0.size := ⟨_, rfl⟩
      rw [← g6] at A6 D6 st6
      refine Rch.st st6 ?_
      have q6 : h0.size ≤ b6 := Nat.le_of_eq g6.symm
      have g_b6 : n0 ≤ b6 := Nat.le_trans (Nat.le_trans (Nat.le_of_eq zP0.1.symm) zP0.2.1) q6
      have sz_b6 : h0.size ≤ b6 := Nat.le_trans (Keep.refl h0 []).1 q6
      have K7 := (Keep.refl h0 []).ext E6
      have F6_scale : Fld Z h6 b6 "java/math/BigDecimal" "scale" "I" (.int (0 : Int32)) := D6 (Or.inr (own_w hw 76 rfl)) (ty := .int) (by decide)
      have F6_intCompact : Fld Z h6 b6 "java/math/BigDecimal" "intCompact" "J" (.long (0 : Int64)) := D6 (Or.inr (own_w hw 78 rfl)) (ty := .long) (by decide)
      have F6_precision : Fld Z h6 b6 "java/math/BigDecimal" "precision" "I" (.int (0 : Int32)) := D6 (Or.inl (own_w hw 94 rfl)) (ty := .int) (by decide)
      have F6_intVal : Fld Z h6 b6 "java/math/BigDecimal" "intVal" "Ljava/math/BigInteger;" .null := D6 (Or.inr (own_w hw 96 rfl)) (ty := (.object "java/math/BigInteger")) (by decide)
      refine Rch.st (fun _ hr => XS.dup X6.here hx rfl (hb hby d5_23) rfl rfl hr) ?_
      refine Rch.st (fun _ hr => XS.lloadN X6.here hx rfl (hb hby d5_24) rfl hr) ?_
      refine Rch.st (fun _ hr => Jvm.Stand.ldc2J (g := (mkF m 25 #[.val (.long x), .second, .val (.int sc)] [(.long x), (.ref b6), (.ref b6)])) X6 hx hown (mvT hZ (own_w hw 79 rfl)) rfl (hb hby d5_25) hr) ?_
      refine Rch.st (fun _ hr => XS.lcmp X6.here hx rfl (hb hby d5_28) rfl hr) ?_
      refine Rch.st (fun _ hr => XS.ifYes X6.here hx rfl (pc0 := 29) (pc' := 38) rfl (hb hby d5_29) rfl ((if0 _ _).trans (feq (mt (lw_eq _ _).mp hm)).2) (by decide) (by decide) hr) ?_
      show Rch p.tables e below _ (T6.setTop (mkF m 38 #[.val (.long x), .second, .val (.int sc)] [(.ref b6), (.ref b6)]))
      refine Rch.st (fun _ hr => XS.aconstNull X6.here hx rfl (hb hby d5_38) hr) ?_
      refine Rch.st (fun _ hr => XS.lloadN X6.here hx rfl (hb hby d5_39) rfl hr) ?_
      refine Rch.st (fun _ hr => XS.iloadN X6.here hx rfl (hb hby d5_40) rfl hr) ?_
      refine Rch.st (fun _ hr => XS.iconst X6.here hx rfl (hb hby d5_41) hr) ?_
      have f9 := (zP0.ext E6)
      show Rch p.tables e below _ (T6.setTop (mkF m 42 #[.val (.long x), .second, .val (.int sc)] [(.int (0 : Int32)), (.int sc), (.long x), .null, (.ref b6), (.ref b6)]))
      refine own_kI X6 hx hZ (y := Y_1) rfl hown (own_w hw 82 rfl) (own_w hw 83 rfl) (own_w hw 28 rfl) (own_w hw 85 rfl) (by decide) (W := 1) (cbdinit l Z a0 hw [] b6 x sc (0 : Int32) h6 n0 f9 A6 F6_intCompact F6_scale F6_precision F6_intVal g_b6) (by decide) (by decide) e6 (by decide) (by decide)  (by rw [hml]; rfl) (a := b6) (argsL := [.null, (.long x), (.int sc), (.int (0 : Int32))]) (rest := [(.ref b6)]) (lenOf pd_1 rfl) rfl rfl (hb hby d5_42) rfl (fun _ T8 Lc8 X8 hQ8 => ?_)
      obtain ⟨rfl, N8q, Kp8, Op8, R8_0⟩ := hQ8
      have N8 := Fr.app N0 N8q
      have K10 := K7.trans Kp8 (allS (Or.inr sz_b6) all0)
      obtain ⟨fs, hr, hrun, hended, hW, hsame⟩ := X8.leave (v := some (.ref b6)) (fun h => by rw [Bd.returns] at h; cases h)
      refine Rch.fin (u := T8.setFrames fs) (own_retA X8 hx Bd.returns rfl rfl rfl (hb hby d5_45) hr) ⟨_, hrun, hended, _, _, rfl, ?_, ⟨_, rfl⟩, hW, hsame.mono (by decide) (by decide)⟩
      show Q_cvalueOfS Z x sc wz wy h0 n0 _ T8.heap _
      exact ⟨b6, rfl, N8, K10, Op8, R8_0⟩
theorem d31_0 : decode jdk_17_method_133_code 0 = .ok (.lload_n 0, 1) := by decide +kernel
theorem d31_1 : decode jdk_17_method_133_code 1 = .ok (.lload_n 2, 1) := by decide +kernel
theorem d31_2 : decode jdk_17_method_133_code 2 = .ok (.invokestatic 996, 3) := by decide +kernel
theorem pd_4 : parseMethodDescriptor "(JJ)J" = some ⟨[.long, .long], some .long⟩ := by decide +kernel
abbrev Y_4 : MethodName := ⟨"java/math/BigDecimal", "add", "(JJ)J"⟩
theorem d31_5 : decode jdk_17_method_133_code 5 = .ok (.lstore 5, 2) := by decide +kernel
theorem d31_7 : decode jdk_17_method_133_code 7 = .ok (.lload 5, 2) := by decide +kernel
theorem d31_9 : decode jdk_17_method_133_code 9 = .ok (.ldc2_w 125, 3) := by decide +kernel
theorem d31_12 : decode jdk_17_method_133_code 12 = .ok (.lcmp, 1) := by decide +kernel
theorem d31_13 : decode jdk_17_method_133_code 13 = .ok (.ifCond .eq 11, 3) := by decide +kernel
theorem d31_16 : decode jdk_17_method_133_code 16 = .ok (.lload 5, 2) := by decide +kernel
theorem d31_18 : decode jdk_17_method_133_code 18 = .ok (.iload 4, 2) := by decide +kernel
theorem d31_20 : decode jdk_17_method_133_code 20 = .ok (.invokestatic 328, 3) := by decide +kernel
theorem pd_5 : parseMethodDescriptor "(JI)Ljava/math/BigDecimal;" = some ⟨[.long, .int], some (.object "java/math/BigDecimal")⟩ := by decide +kernel
abbrev Y_5 : MethodName := ⟨"java/math/BigDecimal", "valueOf", "(JI)Ljava/math/BigDecimal;"⟩
theorem d31_23 : decode jdk_17_method_133_code 23 = .ok (.areturn, 1) := by decide +kernel
abbrev Rm_caddJJIs : Room := { frames := 5, cells := 1, slots := 5, locals := 69 }
def Q_caddJJIs (Z : State) (x : Int64) (y : Int64) (sc : Int32) (wz : Addr) (wy : Addr) (h0 : Heap) (n0 : Nat) (v : Option Value) (h : Heap) (L : List Loc) : Prop := ∃ (r : Addr), v = some (.ref r) ∧ Fr n0 L ∧ Keep h0 h [] ∧ Old Z n0 h ∧ BDc Z h r (x + y) sc
theorem ef_caddJJIs (m : MethodId) (x : Int64) (y : Int64) (sc : Int32) (wz : Addr) (wy : Addr) : entryFrame m #[(.long x), (.long y), (.int sc)] 7 = mkF m 0 #[.val (.long x), .second, .val (.long y), .second, .val (.int sc), .unset, .unset] [] := by first | (simp [entryFrame, mkF, argsToLocals, Value.category]; done) | rfl
set_option maxRecDepth 65536 in
set_option maxHeartbeats 40000000 in
theorem caddJJIs (l : Launch) (Z : State) (a0 : Array Value) (hw : ∀ d ∈ tables_1, d.before a0 Z = true) (ws : List Jvm.Cond) (x : Int64) (y : Int64) (sc : Int32) (wz : Addr) (wy : Addr) (h0 : Heap) (n0 : Nat) (zD0 : Sta Z Z.heap "java/math/BigDecimal" "ZERO_THROUGH_TEN" "[Ljava/math/BigDecimal;" (.ref wz)) (zD1 : ZTab Z Z.heap wz) (zD2 : Sta Z Z.heap "java/math/BigDecimal" "ZERO_SCALED_BY" "[Ljava/math/BigDecimal;" (.ref wy)) (zD3 : STab Z Z.heap wy) (zP0 : Old Z n0 h0) (hf : ¬ (((x + y) ^^^ x) &&& ((x + y) ^^^ y)) < (0 : Int64)) (hm : ¬ (x + y) = (-9223372036854775808 : Int64)) (hz1 : ¬ sc < (0 : Int32)) (hz2 : sc < (16 : Int32)) :
    MetFree l (⟨"java/math/BigDecimal", "add", "(JJI)Ljava/math/BigDecimal;"⟩ : MethodName) (head1 (Jvm.Cond.code (⟨"java/math/BigDecimal", "add", "(JJI)Ljava/math/BigDecimal;"⟩ : MethodName) jdk_17_method_133_code 7 (some (.object "java/math/BigDecimal")) :: ws) Rm_caddJJIs) (fun aA uU => aA = #[(.long x), (.long y), (.int sc)] ∧ Z.Warmed39 uU.vm ∧ uU.heap = h0) (fun _ _ _ _ _ => True) (fun _ uU oO uU' => ∃ vV lL, oO = .returned vV ∧ Q_caddJJIs Z x y sc wz wy h0 n0 vV uU'.heap lL ∧ FrameEnd uU oO uU' lL Rm_caddJJIs.cells Rm_caddJJIs.slots) := by
  refine MetFree.of_bodySF (plainFor_of_name pn_java_math_BigDecimal) hisR ?_
  intro p e s m args below meth c s₁ Bd hml0 hP hK
  obtain ⟨rfl, hZ, hh⟩ := hP
  have hx := Bd.exec
  have hby := Bd.bytes
  have hml : c.maxLocals = 7 := hml0
  have hown : s.vm.findClass "java/math/BigDecimal" = some m.cls := findClass_of_methodNamed Bd.named
  have hnm := (name_of_methodNamed Bd.named Bd.method).1
  have X0 : Stand p l e Rm_caddJJIs s m #[(.long x), (.long y), (.int sc)] below meth c s₁ [] 0 0 := Stand.of_body Bd
  have e0 : s₁.heap = h0 := by rw [← hh, Bd.state]; rfl
  have N0 := Fr.nil n0
  refine Rch.out (Rch.st (fun t k => castTop (ef_caddJJIs m x y sc wz wy) k) ?_)
  show Rch p.tables e below _ (s₁.setTop (mkF m 0 #[.val (.long x), .second, .val (.long y), .second, .val (.int sc), .unset, .unset] []))
  refine Rch.st (fun _ hr => XS.lloadN X0.here hx rfl (hb hby d31_0) rfl hr) ?_
  refine Rch.st (fun _ hr => XS.lloadN X0.here hx rfl (hb hby d31_1) rfl hr) ?_
  show Rch p.tables e below _ (s₁.setTop (mkF m 2 #[.val (.long x), .second, .val (.long y), .second, .val (.int sc), .unset, .unset] [(.long y), (.long x)]))
  refine own_kS X0 hx hZ (y := Y_4) hown (own_w hw 205 rfl) (own_w hw 206 rfl) (own_w hw 28 rfl) (own_w hw 207 rfl) (by decide) (W := 0) (caddJJ l Z a0 hw [] x y h0 n0 hf) (by decide) (by decide) e0 (by decide) (by decide)  (by rw [hml]; rfl) (argsL := [(.long x), (.long y)]) (rest := []) (lenOf pd_4 rfl) rfl rfl (hb hby d31_2) rfl (fun _ T1 Lc1 X1 hQ1 => ?_)
  obtain ⟨rfl, N1q, e1⟩ := hQ1
  have N1 := Fr.app N0 N1q
  refine Rch.st (fun _ hr => XS.lstore X1.here hx rfl (hb hby d31_5) rfl (l' := #[.val (.long x), .second, .val (.long y), .second, .val (.int sc), .val (.long (x + y)), .second]) rfl hr) ?_
  refine Rch.st (fun _ hr => XS.lload X1.here hx rfl (hb hby d31_7) rfl hr) ?_
  refine Rch.st (fun _ hr => Jvm.Stand.ldc2J (g := (mkF m 9 #[.val (.long x), .second, .val (.long y), .second, .val (.int sc), .val (.long (x + y)), .second] [(.long (x + y))])) X1 hx hown (mvT hZ (own_w hw 79 rfl)) rfl (hb hby d31_9) hr) ?_
  show Rch p.tables e below _ (T1.setTop (mkF m 12 #[.val (.long x), .second, .val (.long y), .second, .val (.int sc), .val (.long (x + y)), .second] [(.long (-9223372036854775808 : Int64)), (.long (x + y))]))
  refine Rch.st (fun _ hr => XS.lcmp X1.here hx rfl (hb hby d31_12) rfl hr) ?_
  refine Rch.st (fun _ hr => XS.ifNo X1.here hx rfl (hb hby d31_13) rfl ((if0 _ _).trans (feq (mt (lw_eq _ _).mp hm)).1) hr) ?_
  refine Rch.st (fun _ hr => XS.lload X1.here hx rfl (hb hby d31_16) rfl hr) ?_
  refine Rch.st (fun _ hr => XS.iload X1.here hx rfl (hb hby d31_18) rfl hr) ?_
  show Rch p.tables e below _ (T1.setTop (mkF m 20 #[.val (.long x), .second, .val (.long y), .second, .val (.int sc), .val (.long (x + y)), .second] [(.int sc), (.long (x + y))]))
  refine own_kS X1 hx hZ (y := Y_5) hown (own_w hw 208 rfl) (own_w hw 27 rfl) (own_w hw 28 rfl) (own_w hw 29 rfl) (by decide) (W := 0) (cvalueOfS l Z a0 hw [] (x + y) sc wz wy h0 n0 zD0 zD1 zD2 zD3 zP0 hm hz1 hz2) (by decide) (by decide) e1 (by decide) (by decide)  (by rw [hml]; rfl) (argsL := [(.long (x + y)), (.int sc)]) (rest := []) (lenOf pd_5 rfl) rfl rfl (hb hby d31_20) rfl (fun _ T2 Lc2 X2 hQ2 => ?_)
  obtain ⟨r_2, rfl, N2q, Kp2, Op2, R2_0⟩ := hQ2
  have N2 := Fr.app N1 N2q
  have K3 := (Keep.refl h0 []).trans Kp2 all0
  obtain ⟨fs, hr, hrun, hended, hW, hsame⟩ := X2.leave (v := some (.ref r_2)) (fun h => by rw [Bd.returns] at h; cases h)
  refine Rch.fin (u := T2.setFrames fs) (own_retA X2 hx Bd.returns rfl rfl rfl (hb hby d31_23) hr) ⟨_, hrun, hended, _, _, rfl, ?_, ⟨_, rfl⟩, hW, hsame.mono (by decide) (by decide)⟩
  show Q_caddJJIs Z x y sc wz wy h0 n0 _ T2.heap _
  exact ⟨r_2, rfl, N2, K3, Op2, R2_0⟩
theorem d34_0 : decode jdk_17_method_113_code 0 = .ok (.lload_n 2, 1) := by decide +kernel
theorem d34_1 : decode jdk_17_method_113_code 1 = .ok (.l2i, 1) := by decide +kernel
theorem d34_2 : decode jdk_17_method_113_code 2 = .ok (.istore 4, 2) := by decide +kernel
theorem d34_4 : decode jdk_17_method_113_code 4 = .ok (.iload 4, 2) := by decide +kernel
theorem d34_6 : decode jdk_17_method_113_code 6 = .ok (.i2l, 1) := by decide +kernel
theorem d34_7 : decode jdk_17_method_113_code 7 = .ok (.lload_n 2, 1) := by decide +kernel
theorem d34_8 : decode jdk_17_method_113_code 8 = .ok (.lcmp, 1) := by decide +kernel
theorem d34_9 : decode jdk_17_method_113_code 9 = .ok (.ifCond .eq 50, 3) := by decide +kernel
theorem d34_59 : decode jdk_17_method_113_code 59 = .ok (.iload 4, 2) := by decide +kernel
theorem d34_61 : decode jdk_17_method_113_code 61 = .ok (.ireturn, 1) := by decide +kernel
abbrev Rm_ccs : Room := { frames := 0, cells := 0, slots := 0, locals := 0 }
def Q_ccs (Z : State) (x : Int64) (w : Int64) (h0 : Heap) (n0 : Nat) (v : Option Value) (h : Heap) (L : List Loc) : Prop := v = some (.int (w.toInt32)) ∧ Fr n0 L ∧ h = h0
theorem ef_ccs (m : MethodId) (x : Int64) (w : Int64) : entryFrame m #[(.long x), (.long w)] 5 = mkF m 0 #[.val (.long x), .second, .val (.long w), .second, .unset] [] := by first | (simp [entryFrame, mkF, argsToLocals, Value.category]; done) | rfl
set_option maxRecDepth 65536 in
set_option maxHeartbeats 40000000 in
theorem ccs (l : Launch) (Z : State) (a0 : Array Value) (hw : ∀ d ∈ tables_1, d.before a0 Z = true) (ws : List Jvm.Cond) (x : Int64) (w : Int64) (h0 : Heap) (n0 : Nat) (hcs : ((w.toInt32).toInt64) = w) :
    MetFree l (⟨"java/math/BigDecimal", "checkScale", "(JJ)I"⟩ : MethodName) (head1 (Jvm.Cond.code (⟨"java/math/BigDecimal", "checkScale", "(JJ)I"⟩ : MethodName) jdk_17_method_113_code 5 (some .int) :: ws) Rm_ccs) (fun aA uU => aA = #[(.long x), (.long w)] ∧ Z.Warmed39 uU.vm ∧ uU.heap = h0) (fun _ _ _ _ _ => True) (fun _ uU oO uU' => ∃ vV lL, oO = .returned vV ∧ Q_ccs Z x w h0 n0 vV uU'.heap lL ∧ FrameEnd uU oO uU' lL Rm_ccs.cells Rm_ccs.slots) := by
  refine MetFree.of_bodySF (plainFor_of_name pn_java_math_BigDecimal) hisR ?_
  intro p e s m args below meth c s₁ Bd hml0 hP hK
  obtain ⟨rfl, hZ, hh⟩ := hP
  have hx := Bd.exec
  have hby := Bd.bytes
  have hml : c.maxLocals = 5 := hml0
  have hown : s.vm.findClass "java/math/BigDecimal" = some m.cls := findClass_of_methodNamed Bd.named
  have hnm := (name_of_methodNamed Bd.named Bd.method).1
  have X0 : Stand p l e Rm_ccs s m #[(.long x), (.long w)] below meth c s₁ [] 0 0 := Stand.of_body Bd
  have e0 : s₁.heap = h0 := by rw [← hh, Bd.state]; rfl
  have N0 := Fr.nil n0
  refine Rch.out (Rch.st (fun t k => castTop (ef_ccs m x w) k) ?_)
  show Rch p.tables e below _ (s₁.setTop (mkF m 0 #[.val (.long x), .second, .val (.long w), .second, .unset] []))
  refine Rch.st (fun _ hr => XS.lloadN X0.here hx rfl (hb hby d34_0) rfl hr) ?_
  refine Rch.st (fun _ hr => XS.l2i X0.here hx rfl (hb hby d34_1) rfl hr) ?_
  refine Rch.st (fun _ hr => XS.istore X0.here hx rfl (hb hby d34_2) rfl (l' := #[.val (.long x), .second, .val (.long w), .second, .val (.int (w.toInt32))]) rfl hr) ?_
  refine Rch.st (fun _ hr => XS.iload X0.here hx rfl (hb hby d34_4) rfl hr) ?_
  refine Rch.st (fun _ hr => XS.i2l X0.here hx rfl (hb hby d34_6) rfl hr) ?_
  refine Rch.st (fun _ hr => XS.lloadN X0.here hx rfl (hb hby d34_7) rfl hr) ?_
  show Rch p.tables e below _ (s₁.setTop (mkF m 8 #[.val (.long x), .second, .val (.long w), .second, .val (.int (w.toInt32))] [(.long w), (.long ((w.toInt32).toInt64))]))
  refine Rch.st (fun _ hr => XS.lcmp X0.here hx rfl (hb hby d34_8) rfl hr) ?_
  refine Rch.st (fun _ hr => XS.ifYes X0.here hx rfl (pc0 := 9) (pc' := 59) rfl (hb hby d34_9) rfl ((if0 _ _).trans (teq ((lw_eq _ _).mpr hcs)).1) (by decide) (by decide) hr) ?_
  refine Rch.st (fun _ hr => XS.iload X0.here hx rfl (hb hby d34_59) rfl hr) ?_
  obtain ⟨fs, hr, hrun, hended, hW, hsame⟩ := X0.leave (v := some (.int (w.toInt32))) (fun h => by rw [Bd.returns] at h; cases h)
  refine Rch.fin (u := s₁.setFrames fs) (own_retI X0 hx Bd.returns (hb hby d34_61) hr) ⟨_, hrun, hended, _, _, rfl, ?_, ⟨_, rfl⟩, hW, hsame.mono (by decide) (by decide)⟩
  show Q_ccs Z x w h0 n0 _ s₁.heap _
  exact ⟨rfl, N0, e0⟩
theorem d35_0 : decode jdk_17_method_97_code 0 = .ok (.lload_n 0, 1) := by decide +kernel
theorem d35_1 : decode jdk_17_method_97_code 1 = .ok (.lconst 0, 1) := by decide +kernel
theorem d35_2 : decode jdk_17_method_97_code 2 = .ok (.lcmp, 1) := by decide +kernel
theorem d35_3 : decode jdk_17_method_97_code 3 = .ok (.ifCond .eq 7, 3) := by decide +kernel
theorem d35_10 : decode jdk_17_method_97_code 10 = .ok (.lload_n 0, 1) := by decide +kernel
theorem d35_11 : decode jdk_17_method_97_code 11 = .ok (.lreturn, 1) := by decide +kernel
abbrev Rm_clmp : Room := { frames := 0, cells := 0, slots := 0, locals := 0 }
def Q_clmp (Z : State) (x : Int64) (i : Int32) (h0 : Heap) (n0 : Nat) (v : Option Value) (h : Heap) (L : List Loc) : Prop := v = some (.long x) ∧ Fr n0 L ∧ h = h0
theorem ef_clmp (m : MethodId) (x : Int64) (i : Int32) : entryFrame m #[(.long x), (.int i)] 7 = mkF m 0 #[.val (.long x), .second, .val (.int i), .unset, .unset, .unset, .unset] [] := by first | (simp [entryFrame, mkF, argsToLocals, Value.category]; done) | rfl
set_option maxRecDepth 65536 in
set_option maxHeartbeats 40000000 in
theorem clmp (l : Launch) (Z : State) (a0 : Array Value) (hw : ∀ d ∈ tables_1, d.before a0 Z = true) (ws : List Jvm.Cond) (x : Int64) (i : Int32) (h0 : Heap) (n0 : Nat) (hx0 : x = (0 : Int64)) :
    MetFree l (⟨"java/math/BigDecimal", "longMultiplyPowerTen", "(JI)J"⟩ : MethodName) (head1 (Jvm.Cond.code (⟨"java/math/BigDecimal", "longMultiplyPowerTen", "(JI)J"⟩ : MethodName) jdk_17_method_97_code 7 (some .long) :: ws) Rm_clmp) (fun aA uU => aA = #[(.long x), (.int i)] ∧ Z.Warmed39 uU.vm ∧ uU.heap = h0) (fun _ _ _ _ _ => True) (fun _ uU oO uU' => ∃ vV lL, oO = .returned vV ∧ Q_clmp Z x i h0 n0 vV uU'.heap lL ∧ FrameEnd uU oO uU' lL Rm_clmp.cells Rm_clmp.slots) := by
  refine MetFree.of_bodySF (plainFor_of_name pn_java_math_BigDecimal) hisR ?_
  intro p e s m args below meth c s₁ Bd hml0 hP hK
  obtain ⟨rfl, hZ, hh⟩ := hP
  have hx := Bd.exec
  have hby := Bd.bytes
  have hml : c.maxLocals = 7 := hml0
  have hown : s.vm.findClass "java/math/BigDecimal" = some m.cls := findClass_of_methodNamed Bd.named
  have hnm := (name_of_methodNamed Bd.named Bd.method).1
  have X0 : Stand p l e Rm_clmp s m #[(.long x), (.int i)] below meth c s₁ [] 0 0 := Stand.of_body Bd
  have e0 : s₁.heap = h0 := by rw [← hh, Bd.state]; rfl
  have N0 := Fr.nil n0
  refine Rch.out (Rch.st (fun t k => castTop (ef_clmp m x i) k) ?_)
  show Rch p.tables e below _ (s₁.setTop (mkF m 0 #[.val (.long x), .second, .val (.int i), .unset, .unset, .unset, .unset] []))
  refine Rch.st (fun _ hr => XS.lloadN X0.here hx rfl (hb hby d35_0) rfl hr) ?_
  refine Rch.st (fun _ hr => XS.lconst X0.here hx rfl (hb hby d35_1) hr) ?_
  refine Rch.st (fun _ hr => XS.lcmp X0.here hx rfl (hb hby d35_2) rfl hr) ?_
  refine Rch.st (fun _ hr => XS.ifYes X0.here hx rfl (pc0 := 3) (pc' := 10) rfl (hb hby d35_3) rfl ((if0 _ _).trans (teq ((lw_eq _ _).mpr hx0)).1) (by decide) (by decide) hr) ?_
  refine Rch.st (fun _ hr => XS.lloadN X0.here hx rfl (hb hby d35_10) rfl hr) ?_
  obtain ⟨fs, hr, hrun, hended, hW, hsame⟩ := X0.leave (v := some (.long x)) (fun h => by rw [Bd.returns] at h; cases h)
  refine Rch.fin (u := s₁.setFrames fs) (own_retJ X0 hx Bd.returns (hb hby d35_11) hr) ⟨_, hrun, hended, _, _, rfl, ?_, ⟨_, rfl⟩, hW, hsame.mono (by decide) (by decide)⟩
  show Q_clmp Z x i h0 n0 _ s₁.heap _
  exact ⟨rfl, N0, e0⟩
theorem d30_0 : decode jdk_17_method_134_code 0 = .ok (.iload_n 2, 1) := by decide +kernel
theorem d30_1 : decode jdk_17_method_134_code 1 = .ok (.i2l, 1) := by decide +kernel
theorem d30_2 : decode jdk_17_method_134_code 2 = .ok (.iload 5, 2) := by decide +kernel
theorem d30_4 : decode jdk_17_method_134_code 4 = .ok (.i2l, 1) := by decide +kernel
theorem d30_5 : decode jdk_17_method_134_code 5 = .ok (.lsub, 1) := by decide +kernel
theorem d30_6 : decode jdk_17_method_134_code 6 = .ok (.lstore 6, 2) := by decide +kernel
theorem d30_8 : decode jdk_17_method_134_code 8 = .ok (.lload 6, 2) := by decide +kernel
theorem d30_10 : decode jdk_17_method_134_code 10 = .ok (.lconst 0, 1) := by decide +kernel
theorem d30_11 : decode jdk_17_method_134_code 11 = .ok (.lcmp, 1) := by decide +kernel
theorem d30_12 : decode jdk_17_method_134_code 12 = .ok (.ifCond .ne 10, 3) := by decide +kernel
theorem d30_15 : decode jdk_17_method_134_code 15 = .ok (.lload_n 0, 1) := by decide +kernel
theorem d30_16 : decode jdk_17_method_134_code 16 = .ok (.lload_n 3, 1) := by decide +kernel
theorem d30_17 : decode jdk_17_method_134_code 17 = .ok (.iload_n 2, 1) := by decide +kernel
theorem d30_18 : decode jdk_17_method_134_code 18 = .ok (.invokestatic 1000, 3) := by decide +kernel
theorem pd_6 : parseMethodDescriptor "(JJI)Ljava/math/BigDecimal;" = some ⟨[.long, .long, .int], some (.object "java/math/BigDecimal")⟩ := by decide +kernel
abbrev Y_6 : MethodName := ⟨"java/math/BigDecimal", "add", "(JJI)Ljava/math/BigDecimal;"⟩
theorem d30_21 : decode jdk_17_method_134_code 21 = .ok (.areturn, 1) := by decide +kernel
theorem d30_22 : decode jdk_17_method_134_code 22 = .ok (.lload 6, 2) := by decide +kernel
theorem d30_24 : decode jdk_17_method_134_code 24 = .ok (.lconst 0, 1) := by decide +kernel
theorem d30_25 : decode jdk_17_method_134_code 25 = .ok (.lcmp, 1) := by decide +kernel
theorem d30_26 : decode jdk_17_method_134_code 26 = .ok (.ifCond .ge 85, 3) := by decide +kernel
theorem d30_29 : decode jdk_17_method_134_code 29 = .ok (.lload_n 0, 1) := by decide +kernel
theorem d30_30 : decode jdk_17_method_134_code 30 = .ok (.lload 6, 2) := by decide +kernel
theorem d30_32 : decode jdk_17_method_134_code 32 = .ok (.lneg, 1) := by decide +kernel
theorem d30_33 : decode jdk_17_method_134_code 33 = .ok (.invokestatic 994, 3) := by decide +kernel
theorem pd_7 : parseMethodDescriptor "(JJ)I" = some ⟨[.long, .long], some .int⟩ := by decide +kernel
abbrev Y_7 : MethodName := ⟨"java/math/BigDecimal", "checkScale", "(JJ)I"⟩
theorem d30_36 : decode jdk_17_method_134_code 36 = .ok (.istore 8, 2) := by decide +kernel
theorem d30_38 : decode jdk_17_method_134_code 38 = .ok (.lload_n 0, 1) := by decide +kernel
theorem d30_39 : decode jdk_17_method_134_code 39 = .ok (.iload 8, 2) := by decide +kernel
theorem d30_41 : decode jdk_17_method_134_code 41 = .ok (.invokestatic 599, 3) := by decide +kernel
theorem pd_8 : parseMethodDescriptor "(JI)J" = some ⟨[.long, .int], some .long⟩ := by decide +kernel
abbrev Y_8 : MethodName := ⟨"java/math/BigDecimal", "longMultiplyPowerTen", "(JI)J"⟩
theorem d30_44 : decode jdk_17_method_134_code 44 = .ok (.lstore 9, 2) := by decide +kernel
theorem d30_46 : decode jdk_17_method_134_code 46 = .ok (.lload 9, 2) := by decide +kernel
theorem d30_48 : decode jdk_17_method_134_code 48 = .ok (.ldc2_w 125, 3) := by decide +kernel
theorem d30_51 : decode jdk_17_method_134_code 51 = .ok (.lcmp, 1) := by decide +kernel
theorem d30_52 : decode jdk_17_method_134_code 52 = .ok (.ifCond .eq 12, 3) := by decide +kernel
theorem d30_55 : decode jdk_17_method_134_code 55 = .ok (.lload 9, 2) := by decide +kernel
theorem d30_57 : decode jdk_17_method_134_code 57 = .ok (.lload_n 3, 1) := by decide +kernel
theorem d30_58 : decode jdk_17_method_134_code 58 = .ok (.iload 5, 2) := by decide +kernel
theorem d30_60 : decode jdk_17_method_134_code 60 = .ok (.invokestatic 1000, 3) := by decide +kernel
theorem d30_63 : decode jdk_17_method_134_code 63 = .ok (.areturn, 1) := by decide +kernel
theorem d30_111 : decode jdk_17_method_134_code 111 = .ok (.lload_n 3, 1) := by decide +kernel
theorem d30_112 : decode jdk_17_method_134_code 112 = .ok (.lload 6, 2) := by decide +kernel
theorem d30_114 : decode jdk_17_method_134_code 114 = .ok (.invokestatic 994, 3) := by decide +kernel
theorem d30_117 : decode jdk_17_method_134_code 117 = .ok (.istore 8, 2) := by decide +kernel
theorem d30_119 : decode jdk_17_method_134_code 119 = .ok (.lload_n 3, 1) := by decide +kernel
theorem d30_120 : decode jdk_17_method_134_code 120 = .ok (.iload 8, 2) := by decide +kernel
theorem d30_122 : decode jdk_17_method_134_code 122 = .ok (.invokestatic 599, 3) := by decide +kernel
theorem d30_125 : decode jdk_17_method_134_code 125 = .ok (.lstore 9, 2) := by decide +kernel
theorem d30_127 : decode jdk_17_method_134_code 127 = .ok (.lload 9, 2) := by decide +kernel
theorem d30_129 : decode jdk_17_method_134_code 129 = .ok (.ldc2_w 125, 3) := by decide +kernel
theorem d30_132 : decode jdk_17_method_134_code 132 = .ok (.lcmp, 1) := by decide +kernel
theorem d30_133 : decode jdk_17_method_134_code 133 = .ok (.ifCond .eq 11, 3) := by decide +kernel
theorem d30_136 : decode jdk_17_method_134_code 136 = .ok (.lload_n 0, 1) := by decide +kernel
theorem d30_137 : decode jdk_17_method_134_code 137 = .ok (.lload 9, 2) := by decide +kernel
theorem d30_139 : decode jdk_17_method_134_code 139 = .ok (.iload_n 2, 1) := by decide +kernel
theorem d30_140 : decode jdk_17_method_134_code 140 = .ok (.invokestatic 1000, 3) := by decide +kernel
theorem d30_143 : decode jdk_17_method_134_code 143 = .ok (.areturn, 1) := by decide +kernel
abbrev Rm_caddJIJIs : Room := { frames := 6, cells := 1, slots := 5, locals := 87 }
def Q_caddJIJIs (Z : State) (x : Int64) (za : Int32) (y : Int64) (zb : Int32) (sc : Int32) (ka : Int) (kb : Int) (wz : Addr) (wy : Addr) (h0 : Heap) (n0 : Nat) (v : Option Value) (h : Heap) (L : List Loc) : Prop := ∃ (r : Addr) (zr : Int32), v = some (.ref r) ∧ Fr n0 L ∧ Keep h0 h [] ∧ Old Z n0 h ∧ BDc Z h r (x + y) zr ∧ (zr = sc ∨ (zr = 0 ∧ (x + y) = 0))
theorem ef_caddJIJIs (m : MethodId) (x : Int64) (za : Int32) (y : Int64) (zb : Int32) (sc : Int32) (ka : Int) (kb : Int) (wz : Addr) (wy : Addr) : entryFrame m #[(.long x), (.int za), (.long y), (.int zb)] 12 = mkF m 0 #[.val (.long x), .second, .val (.int za), .val (.long y), .second, .val (.int zb), .unset, .unset, .unset, .unset, .unset, .unset] [] := by first | (simp [entryFrame, mkF, argsToLocals, Value.category]; done) | rfl
set_option maxRecDepth 65536 in
set_option maxHeartbeats 40000000 in
theorem caddJIJIs (l : Launch) (Z : State) (a0 : Array Value) (hw : ∀ d ∈ tables_1, d.before a0 Z = true) (ws : List Jvm.Cond) (x : Int64) (za : Int32) (y : Int64) (zb : Int32) (sc : Int32) (ka : Int) (kb : Int) (wz : Addr) (wy : Addr) (h0 : Heap) (n0 : Nat) (zD0 : Sta Z Z.heap "java/math/BigDecimal" "ZERO_THROUGH_TEN" "[Ljava/math/BigDecimal;" (.ref wz)) (zD1 : ZTab Z Z.heap wz) (zD2 : Sta Z Z.heap "java/math/BigDecimal" "ZERO_SCALED_BY" "[Ljava/math/BigDecimal;" (.ref wy)) (zD3 : STab Z Z.heap wy) (zP0 : Old Z n0 h0) (hA : (za = sc ∨ (za = 0 ∧ x = 0))) (hB : (zb = sc ∨ (zb = 0 ∧ y = 0))) (hs : own_S sc) (kx : Bk ka x) (ky : Bk kb y) (hk : ka + kb ≤ 1000) :
    MetFree l (⟨"java/math/BigDecimal", "add", "(JIJI)Ljava/math/BigDecimal;"⟩ : MethodName) (head1 (Jvm.Cond.code (⟨"java/math/BigDecimal", "add", "(JIJI)Ljava/math/BigDecimal;"⟩ : MethodName) jdk_17_method_134_code 12 (some (.object "java/math/BigDecimal")) :: ws) Rm_caddJIJIs) (fun aA uU => aA = #[(.long x), (.int za), (.long y), (.int zb)] ∧ Z.Warmed39 uU.vm ∧ uU.heap = h0) (fun _ _ _ _ _ => True) (fun _ uU oO uU' => ∃ vV lL, oO = .returned vV ∧ Q_caddJIJIs Z x za y zb sc ka kb wz wy h0 n0 vV uU'.heap lL ∧ FrameEnd uU oO uU' lL Rm_caddJIJIs.cells Rm_caddJIJIs.slots) := by
  refine MetFree.of_bodySF (plainFor_of_name pn_java_math_BigDecimal) hisR ?_
  intro p e s m args below meth c s₁ Bd hml0 hP hK
  obtain ⟨rfl, hZ, hh⟩ := hP
  have hx := Bd.exec
  have hby := Bd.bytes
  have hml : c.maxLocals = 12 := hml0
  have hown : s.vm.findClass "java/math/BigDecimal" = some m.cls := findClass_of_methodNamed Bd.named
  have hnm := (name_of_methodNamed Bd.named Bd.method).1
  have X0 : Stand p l e Rm_caddJIJIs s m #[(.long x), (.int za), (.long y), (.int zb)] below meth c s₁ [] 0 0 := Stand.of_body Bd
  have e0 : s₁.heap = h0 := by rw [← hh, Bd.state]; rfl
  have N0 := Fr.nil n0
  refine Rch.out (Rch.st (fun t k => castTop (ef_caddJIJIs m x za y zb sc ka kb wz wy) k) ?_)
  show Rch p.tables e below _ (s₁.setTop (mkF m 0 #[.val (.long x), .second, .val (.int za), .val (.long y), .second, .val (.int zb), .unset, .unset, .unset, .unset, .unset, .unset] []))
  refine Rch.st (fun _ hr => XS.iloadN X0.here hx rfl (hb hby d30_0) rfl hr) ?_
  refine Rch.st (fun _ hr => XS.i2l X0.here hx rfl (hb hby d30_1) rfl hr) ?_
  refine Rch.st (fun _ hr => XS.iload X0.here hx rfl (hb hby d30_2) rfl hr) ?_
  refine Rch.st (fun _ hr => XS.i2l X0.here hx rfl (hb hby d30_4) rfl hr) ?_
  refine Rch.st (fun _ hr => XS.lsub X0.here hx rfl (hb hby d30_5) rfl hr) ?_
  refine Rch.st (fun _ hr => XS.lstore X0.here hx rfl (hb hby d30_6) rfl (l' := #[.val (.long x), .second, .val (.int za), .val (.long y), .second, .val (.int zb), .val (.long ((za.toInt64) - (zb.toInt64))), .second, .unset, .unset, .unset, .unset]) rfl hr) ?_
  show Rch p.tables e below _ (s₁.setTop (mkF m 8 #[.val (.long x), .second, .val (.int za), .val (.long y), .second, .val (.int zb), .val (.long ((za.toInt64) - (zb.toInt64))), .second, .unset, .unset, .unset, .unset] []))
  refine Rch.st (fun _ hr => XS.lload X0.here hx rfl (hb hby d30_8) rfl hr) ?_
  refine Rch.st (fun _ hr => XS.lconst X0.here hx rfl (hb hby d30_10) hr) ?_
  refine Rch.st (fun _ hr => XS.lcmp X0.here hx rfl (hb hby d30_11) rfl hr) ?_
  by_cases hc1 : ((za.toInt64) - (zb.toInt64)) = (0 : Int64)
  · refine Rch.st (fun _ hr => XS.ifNo X0.here hx rfl (hb hby d30_12) rfl ((if0 _ _).trans (teq ((lw_eq _ _).mpr hc1)).2) hr) ?_
    refine Rch.st (fun _ hr => XS.lloadN X0.here hx rfl (hb hby d30_15) rfl hr) ?_
    refine Rch.st (fun _ hr => XS.lloadN X0.here hx rfl (hb hby d30_16) rfl hr) ?_
    show Rch p.tables e below _ (s₁.setTop (mkF m 17 #[.val (.long x), .second, .val (.int za), .val (.long y), .second, .val (.int zb), .val (.long ((za.toInt64) - (zb.toInt64))), .second, .unset, .unset, .unset, .unset] [(.long y), (.long x)]))
    refine Rch.st (fun _ hr => XS.iloadN X0.here hx rfl (hb hby d30_17) rfl hr) ?_
    show Rch p.tables e below _ (s₁.setTop (mkF m 18 #[.val (.long x), .second, .val (.int za), .val (.long y), .second, .val (.int zb), .val (.long ((za.toInt64) - (zb.toInt64))), .second, .unset, .unset, .unset, .unset] [(.int za), (.long y), (.long x)]))
    refine own_kS X0 hx hZ (y := Y_6) hown (own_w hw 202 rfl) (own_w hw 203 rfl) (own_w hw 28 rfl) (own_w hw 204 rfl) (by decide) (W := 0) (caddJJIs l Z a0 hw [] x y za wz wy h0 n0 zD0 zD1 zD2 zD3 zP0 (own_noflow kx ky hk) (Bk.ne (Bk.add kx ky hk).2 hk) (hs.of hA).nn (hs.of hA).lt) (by decide) (by decide) e0 (by decide) (by decide)  (by rw [hml]; rfl) (argsL := [(.long x), (.long y), (.int za)]) (rest := []) (lenOf pd_6 rfl) rfl rfl (hb hby d30_18) rfl (fun _ T2 Lc2 X2 hQ2 => ?_)
    obtain ⟨r_2, rfl, N2q, Kp2, Op2, R2_0⟩ := hQ2
    have N2 := Fr.app N0 N2q
    have K3 := (Keep.refl h0 []).trans Kp2 all0
    obtain ⟨fs, hr, hrun, hended, hW, hsame⟩ := X2.leave (v := some (.ref r_2)) (fun h => by rw [Bd.returns] at h; cases h)
    refine Rch.fin (u := T2.setFrames fs) (own_retA X2 hx Bd.returns rfl rfl rfl (hb hby d30_21) hr) ⟨_, hrun, hended, _, _, rfl, ?_, ⟨_, rfl⟩, hW, hsame.mono (by decide) (by decide)⟩
    show Q_caddJIJIs Z x za y zb sc ka kb wz wy h0 n0 _ T2.heap _
    exact ⟨r_2, za, rfl, N2, K3, Op2, R2_0, (own_p1 hs hA hB hc1)⟩
  · refine Rch.st (fun _ hr => XS.ifYes X0.here hx rfl (pc0 := 12) (pc' := 22) rfl (hb hby d30_12) rfl ((if0 _ _).trans (feq (mt (lw_eq _ _).mp hc1)).2) (by decide) (by decide) hr) ?_
    refine Rch.st (fun _ hr => XS.lload X0.here hx rfl (hb hby d30_22) rfl hr) ?_
    refine Rch.st (fun _ hr => XS.lconst X0.here hx rfl (hb hby d30_24) hr) ?_
    show Rch p.tables e below _ (s₁.setTop (mkF m 25 #[.val (.long x), .second, .val (.int za), .val (.long y), .second, .val (.int zb), .val (.long ((za.toInt64) - (zb.toInt64))), .second, .unset, .unset, .unset, .unset] [(.long (0 : Int64)), (.long ((za.toInt64) - (zb.toInt64)))]))
    refine Rch.st (fun _ hr => XS.lcmp X0.here hx rfl (hb hby d30_25) rfl hr) ?_
    by_cases hc4 : ((za.toInt64) - (zb.toInt64)) < (0 : Int64)
    · refine Rch.st (fun _ hr => XS.ifNo X0.here hx rfl (hb hby d30_26) rfl ((if0 _ _).trans (tlt ((lw_lt _ _).mpr hc4)).2.1) hr) ?_
      refine Rch.st (fun _ hr => XS.lloadN X0.here hx rfl (hb hby d30_29) rfl hr) ?_
      refine Rch.st (fun _ hr => XS.lload X0.here hx rfl (hb hby d30_30) rfl hr) ?_
      refine Rch.st (fun _ hr => XS.lneg X0.here hx rfl (hb hby d30_32) rfl hr) ?_
      show Rch p.tables e below _ (s₁.setTop (mkF m 33 #[.val (.long x), .second, .val (.int za), .val (.long y), .second, .val (.int zb), .val (.long ((za.toInt64) - (zb.toInt64))), .second, .unset, .unset, .unset, .unset] [(.long (-((za.toInt64) - (zb.toInt64)))), (.long x)]))
      refine own_kS X0 hx hZ (y := Y_7) hown (own_w hw 216 rfl) (own_w hw 217 rfl) (own_w hw 28 rfl) (own_w hw 218 rfl) (by decide) (W := 0) (ccs l Z a0 hw [] x (-((za.toInt64) - (zb.toInt64))) h0 n0 (own_p2 hs hA hB hc4).2.2) (by decide) (by decide) e0 (by decide) (by decide)  (by rw [hml]; rfl) (argsL := [(.long x), (.long (-((za.toInt64) - (zb.toInt64))))]) (rest := []) (lenOf pd_7 rfl) rfl rfl (hb hby d30_33) rfl (fun _ T5 Lc5 X5 hQ5 => ?_)
      obtain ⟨rfl, N5q, e5⟩ := hQ5
      have N5 := Fr.app N0 N5q
      show Rch p.tables e below _ (T5.setTop (mkF m 36 #[.val (.long x), .second, .val (.int za), .val (.long y), .second, .val (.int zb), .val (.long ((za.toInt64) - (zb.toInt64))), .second, .unset, .unset, .unset, .unset] [(.int ((-((za.toInt64) - (zb.toInt64))).toInt32))]))
      refine Rch.st (fun _ hr => XS.istore X5.here hx rfl (hb hby d30_36) rfl (l' := #[.val (.long x), .second, .val (.int za), .val (.long y), .second, .val (.int zb), .val (.long ((za.toInt64) - (zb.toInt64))), .second, .val (.int ((-((za.toInt64) - (zb.toInt64))).toInt32)), .unset, .unset, .unset]) rfl hr) ?_
      refine Rch.st (fun _ hr => XS.lloadN X5.here hx rfl (hb hby d30_38) rfl hr) ?_
      refine Rch.st (fun _ hr => XS.iload X5.here hx rfl (hb hby d30_39) rfl hr) ?_
      show Rch p.tables e below _ (T5.setTop (mkF m 41 #[.val (.long x), .second, .val (.int za), .val (.long y), .second, .val (.int zb), .val (.long ((za.toInt64) - (zb.toInt64))), .second, .val (.int ((-((za.toInt64) - (zb.toInt64))).toInt32)), .unset, .unset, .unset] [(.int ((-((za.toInt64) - (zb.toInt64))).toInt32)), (.long x)]))
      refine own_kS X5 hx hZ (y := Y_8) hown (own_w hw 219 rfl) (own_w hw 220 rfl) (own_w hw 28 rfl) (own_w hw 221 rfl) (by decide) (W := 0) (clmp l Z a0 hw [] x ((-((za.toInt64) - (zb.toInt64))).toInt32) h0 n0 (own_p2 hs hA hB hc4).1) (by decide) (by decide) e5 (by decide) (by decide)  (by rw [hml]; rfl) (argsL := [(.long x), (.int ((-((za.toInt64) - (zb.toInt64))).toInt32))]) (rest := []) (lenOf pd_8 rfl) rfl rfl (hb hby d30_41) rfl (fun _ T6 Lc6 X6 hQ6 => ?_)
      obtain ⟨rfl, N6q, e6⟩ := hQ6
      have N6 := Fr.app N5 N6q
      refine Rch.st (fun _ hr => XS.lstore X6.here hx rfl (hb hby d30_44) rfl (l' := #[.val (.long x), .second, .val (.int za), .val (.long y), .second, .val (.int zb), .val (.long ((za.toInt64) - (zb.toInt64))), .second, .val (.int ((-((za.toInt64) - (zb.toInt64))).toInt32)), .val (.long x), .second, .unset]) rfl hr) ?_
      refine Rch.st (fun _ hr => XS.lload X6.here hx rfl (hb hby d30_46) rfl hr) ?_
      show Rch p.tables e below _ (T6.setTop (mkF m 48 #[.val (.long x), .second, .val (.int za), .val (.long y), .second, .val (.int zb), .val (.long ((za.toInt64) - (zb.toInt64))), .second, .val (.int ((-((za.toInt64) - (zb.toInt64))).toInt32)), .val (.long x), .second, .unset] [(.long x)]))
      refine Rch.st (fun _ hr => Jvm.Stand.ldc2J (g := (mkF m 48 #[.val (.long x), .second, .val (.int za), .val (.long y), .second, .val (.int zb), .val (.long ((za.toInt64) - (zb.toInt64))), .second, .val (.int ((-((za.toInt64) - (zb.toInt64))).toInt32)), .val (.long x), .second, .unset] [(.long x)])) X6 hx hown (mvT hZ (own_w hw 79 rfl)) rfl (hb hby d30_48) hr) ?_
      refine Rch.st (fun _ hr => XS.lcmp X6.here hx rfl (hb hby d30_51) rfl hr) ?_
      have hnm2 := Bk.ne1 kx ky hk
      refine Rch.st (fun _ hr => XS.ifNo X6.here hx rfl (hb hby d30_52) rfl ((if0 _ _).trans (feq (mt (lw_eq _ _).mp hnm2)).1) hr) ?_
      refine Rch.st (fun _ hr => XS.lload X6.here hx rfl (hb hby d30_55) rfl hr) ?_
      refine Rch.st (fun _ hr => XS.lloadN X6.here hx rfl (hb hby d30_57) rfl hr) ?_
      refine Rch.st (fun _ hr => XS.iload X6.here hx rfl (hb hby d30_58) rfl hr) ?_
      show Rch p.tables e below _ (T6.setTop (mkF m 60 #[.val (.long x), .second, .val (.int za), .val (.long y), .second, .val (.int zb), .val (.long ((za.toInt64) - (zb.toInt64))), .second, .val (.int ((-((za.toInt64) - (zb.toInt64))).toInt32)), .val (.long x), .second, .unset] [(.int zb), (.long y), (.long x)]))
      show Rch p.tables e below _ (T6.setTop (mkF m 60 #[.val (.long x), .second, .val (.int za), .val (.long y), .second, .val (.int zb), .val (.long ((za.toInt64) - (zb.toInt64))), .second, .val (.int ((-((za.toInt64) - (zb.toInt64))).toInt32)), .val (.long x), .second, .unset] [(.int zb), (.long y), (.long x)]))
      refine own_kS X6 hx hZ (y := Y_6) hown (own_w hw 202 rfl) (own_w hw 203 rfl) (own_w hw 28 rfl) (own_w hw 204 rfl) (by decide) (W := 0) (caddJJIs l Z a0 hw [] x y zb wz wy h0 n0 zD0 zD1 zD2 zD3 zP0 (own_noflow kx ky hk) (Bk.ne (Bk.add kx ky hk).2 hk) (hs.of hB).nn (hs.of hB).lt) (by decide) (by decide) e6 (by decide) (by decide)  (by rw [hml]; rfl) (argsL := [(.long x), (.long y), (.int zb)]) (rest := []) (lenOf pd_6 rfl) rfl rfl (hb hby d30_60) rfl (fun _ T7 Lc7 X7 hQ7 => ?_)
      obtain ⟨r_7, rfl, N7q, Kp7, Op7, R7_0⟩ := hQ7
      have N7 := Fr.app N6 N7q
      have K8 := (Keep.refl h0 []).trans Kp7 all0
      obtain ⟨fs, hr, hrun, hended, hW, hsame⟩ := X7.leave (v := some (.ref r_7)) (fun h => by rw [Bd.returns] at h; cases h)
      refine Rch.fin (u := T7.setFrames fs) (own_retA X7 hx Bd.returns rfl rfl rfl (hb hby d30_63) hr) ⟨_, hrun, hended, _, _, rfl, ?_, ⟨_, rfl⟩, hW, hsame.mono (by decide) (by decide)⟩
      show Q_caddJIJIs Z x za y zb sc ka kb wz wy h0 n0 _ T7.heap _
      exact ⟨r_7, zb, rfl, N7, K8, Op7, R7_0, (Or.inl (own_p2 hs hA hB hc4).2.1)⟩
    · refine Rch.st (fun _ hr => XS.ifYes X0.here hx rfl (pc0 := 26) (pc' := 111) rfl (hb hby d30_26) rfl ((if0 _ _).trans (flt (mt (lw_lt _ _).mp hc4)).2.1) (by decide) (by decide) hr) ?_
      refine Rch.st (fun _ hr => XS.lloadN X0.here hx rfl (hb hby d30_111) rfl hr) ?_
      refine Rch.st (fun _ hr => XS.lload X0.here hx rfl (hb hby d30_112) rfl hr) ?_
      show Rch p.tables e below _ (s₁.setTop (mkF m 114 #[.val (.long x), .second, .val (.int za), .val (.long y), .second, .val (.int zb), .val (.long ((za.toInt64) - (zb.toInt64))), .second, .unset, .unset, .unset, .unset] [(.long ((za.toInt64) - (zb.toInt64))), (.long y)]))
      refine own_kS X0 hx hZ (y := Y_7) hown (own_w hw 216 rfl) (own_w hw 217 rfl) (own_w hw 28 rfl) (own_w hw 218 rfl) (by decide) (W := 0) (ccs l Z a0 hw [] y ((za.toInt64) - (zb.toInt64)) h0 n0 (own_p3 hs hA hB hc1 hc4).2.2) (by decide) (by decide) e0 (by decide) (by decide)  (by rw [hml]; rfl) (argsL := [(.long y), (.long ((za.toInt64) - (zb.toInt64)))]) (rest := []) (lenOf pd_7 rfl) rfl rfl (hb hby d30_114) rfl (fun _ T9 Lc9 X9 hQ9 => ?_)
      obtain ⟨rfl, N9q, e9⟩ := hQ9
      have N9 := Fr.app N0 N9q
      refine Rch.st (fun _ hr => XS.istore X9.here hx rfl (hb hby d30_117) rfl (l' := #[.val (.long x), .second, .val (.int za), .val (.long y), .second, .val (.int zb), .val (.long ((za.toInt64) - (zb.toInt64))), .second, .val (.int (((za.toInt64) - (zb.toInt64)).toInt32)), .unset, .unset, .unset]) rfl hr) ?_
      show Rch p.tables e below _ (T9.setTop (mkF m 119 #[.val (.long x), .second, .val (.int za), .val (.long y), .second, .val (.int zb), .val (.long ((za.toInt64) - (zb.toInt64))), .second, .val (.int (((za.toInt64) - (zb.toInt64)).toInt32)), .unset, .unset, .unset] []))
      refine Rch.st (fun _ hr => XS.lloadN X9.here hx rfl (hb hby d30_119) rfl hr) ?_
      refine Rch.st (fun _ hr => XS.iload X9.here hx rfl (hb hby d30_120) rfl hr) ?_
      show Rch p.tables e below _ (T9.setTop (mkF m 122 #[.val (.long x), .second, .val (.int za), .val (.long y), .second, .val (.int zb), .val (.long ((za.toInt64) - (zb.toInt64))), .second, .val (.int (((za.toInt64) - (zb.toInt64)).toInt32)), .unset, .unset, .unset] [(.int (((za.toInt64) - (zb.toInt64)).toInt32)), (.long y)]))
      refine own_kS X9 hx hZ (y := Y_8) hown (own_w hw 219 rfl) (own_w hw 220 rfl) (own_w hw 28 rfl) (own_w hw 221 rfl) (by decide) (W := 0) (clmp l Z a0 hw [] y (((za.toInt64) - (zb.toInt64)).toInt32) h0 n0 (own_p3 hs hA hB hc1 hc4).1) (by decide) (by decide) e9 (by decide) (by decide)  (by rw [hml]; rfl) (argsL := [(.long y), (.int (((za.toInt64) - (zb.toInt64)).toInt32))]) (rest := []) (lenOf pd_8 rfl) rfl rfl (hb hby d30_122) rfl (fun _ T10 Lc10 X10 hQ10 => ?_)
      obtain ⟨rfl, N10q, e10⟩ := hQ10
      have N10 := Fr.app N9 N10q
      refine Rch.st (fun _ hr => XS.lstore X10.here hx rfl (hb hby d30_125) rfl (l' := #[.val (.long x), .second, .val (.int za), .val (.long y), .second, .val (.int zb), .val (.long ((za.toInt64) - (zb.toInt64))), .second, .val (.int (((za.toInt64) - (zb.toInt64)).toInt32)), .val (.long y), .second, .unset]) rfl hr) ?_
      refine Rch.st (fun _ hr => XS.lload X10.here hx rfl (hb hby d30_127) rfl hr) ?_
      refine Rch.st (fun _ hr => Jvm.Stand.ldc2J (g := (mkF m 129 #[.val (.long x), .second, .val (.int za), .val (.long y), .second, .val (.int zb), .val (.long ((za.toInt64) - (zb.toInt64))), .second, .val (.int (((za.toInt64) - (zb.toInt64)).toInt32)), .val (.long y), .second, .unset] [(.long y)])) X10 hx hown (mvT hZ (own_w hw 79 rfl)) rfl (hb hby d30_129) hr) ?_
      show Rch p.tables e below _ (T10.setTop (mkF m 132 #[.val (.long x), .second, .val (.int za), .val (.long y), .second, .val (.int zb), .val (.long ((za.toInt64) - (zb.toInt64))), .second, .val (.int (((za.toInt64) - (zb.toInt64)).toInt32)), .val (.long y), .second, .unset] [(.long (-9223372036854775808 : Int64)), (.long y)]))
      refine Rch.st (fun _ hr => XS.lcmp X10.here hx rfl (hb hby d30_132) rfl hr) ?_
      have hnm2 := Bk.ne1 ky kx (by omega)
      refine Rch.st (fun _ hr => XS.ifNo X10.here hx rfl (hb hby d30_133) rfl ((if0 _ _).trans (feq (mt (lw_eq _ _).mp hnm2)).1) hr) ?_
      refine Rch.st (fun _ hr => XS.lloadN X10.here hx rfl (hb hby d30_136) rfl hr) ?_
      refine Rch.st (fun _ hr => XS.lload X10.here hx rfl (hb hby d30_137) rfl hr) ?_
      refine Rch.st (fun _ hr => XS.iloadN X10.here hx rfl (hb hby d30_139) rfl hr) ?_
      show Rch p.tables e below _ (T10.setTop (mkF m 140 #[.val (.long x), .second, .val (.int za), .val (.long y), .second, .val (.int zb), .val (.long ((za.toInt64) - (zb.toInt64))), .second, .val (.int (((za.toInt64) - (zb.toInt64)).toInt32)), .val (.long y), .second, .unset] [(.int za), (.long y), (.long x)]))
      refine own_kS X10 hx hZ (y := Y_6) hown (own_w hw 202 rfl) (own_w hw 203 rfl) (own_w hw 28 rfl) (own_w hw 204 rfl) (by decide) (W := 0) (caddJJIs l Z a0 hw [] x y za wz wy h0 n0 zD0 zD1 zD2 zD3 zP0 (own_noflow kx ky hk) (Bk.ne (Bk.add kx ky hk).2 hk) (hs.of hA).nn (hs.of hA).lt) (by decide) (by decide) e10 (by decide) (by decide)  (by rw [hml]; rfl) (argsL := [(.long x), (.long y), (.int za)]) (rest := []) (lenOf pd_6 rfl) rfl rfl (hb hby d30_140) rfl (fun _ T11 Lc11 X11 hQ11 => ?_)
      obtain ⟨r_11, rfl, N11q, Kp11, Op11, R11_0⟩ := hQ11
      have N11 := Fr.app N10 N11q
      have K12 := (Keep.refl h0 []).trans Kp11 all0
      show Rch p.tables e below _ (T11.setTop (mkF m 143 #[.val (.long x), .second, .val (.int za), .val (.long y), .second, .val (.int zb), .val (.long ((za.toInt64) - (zb.toInt64))), .second, .val (.int (((za.toInt64) - (zb.toInt64)).toInt32)), .val (.long y), .second, .unset] [(.ref r_11)]))
      obtain ⟨fs, hr, hrun, hended, hW, hsame⟩ := X11.leave (v := some (.ref r_11)) (fun h => by rw [Bd.returns] at h; cases h)
      refine Rch.fin (u := T11.setFrames fs) (own_retA X11 hx Bd.returns rfl rfl rfl (hb hby d30_143) hr) ⟨_, hrun, hended, _, _, rfl, ?_, ⟨_, rfl⟩, hW, hsame.mono (by decide) (by decide)⟩
      show Q_caddJIJIs Z x za y zb sc ka kb wz wy h0 n0 _ T11.heap _
      exact ⟨r_11, za, rfl, N11, K12, Op11, R11_0, (Or.inl (own_p3 hs hA hB hc1 hc4).2.1)⟩
theorem d29_0 : decode jdk_17_method_26_code 0 = .ok (.aload_n 0, 1) := by decide +kernel
theorem d29_1 : decode jdk_17_method_26_code 1 = .ok (.getfield 24, 3) := by decide +kernel
theorem d29_4 : decode jdk_17_method_26_code 4 = .ok (.ldc2_w 125, 3) := by decide +kernel
theorem d29_7 : decode jdk_17_method_26_code 7 = .ok (.lcmp, 1) := by decide +kernel
theorem d29_8 : decode jdk_17_method_26_code 8 = .ok (.ifCond .eq 54, 3) := by decide +kernel
theorem d29_11 : decode jdk_17_method_26_code 11 = .ok (.aload_n 1, 1) := by decide +kernel
theorem d29_12 : decode jdk_17_method_26_code 12 = .ok (.getfield 24, 3) := by decide +kernel
theorem d29_15 : decode jdk_17_method_26_code 15 = .ok (.ldc2_w 125, 3) := by decide +kernel
theorem d29_18 : decode jdk_17_method_26_code 18 = .ok (.lcmp, 1) := by decide +kernel
theorem d29_19 : decode jdk_17_method_26_code 19 = .ok (.ifCond .eq 23, 3) := by decide +kernel
theorem d29_22 : decode jdk_17_method_26_code 22 = .ok (.aload_n 0, 1) := by decide +kernel
theorem d29_23 : decode jdk_17_method_26_code 23 = .ok (.getfield 24, 3) := by decide +kernel
theorem d29_26 : decode jdk_17_method_26_code 26 = .ok (.aload_n 0, 1) := by decide +kernel
theorem d29_27 : decode jdk_17_method_26_code 27 = .ok (.getfield 17, 3) := by decide +kernel
theorem d29_30 : decode jdk_17_method_26_code 30 = .ok (.aload_n 1, 1) := by decide +kernel
theorem d29_31 : decode jdk_17_method_26_code 31 = .ok (.getfield 24, 3) := by decide +kernel
theorem d29_34 : decode jdk_17_method_26_code 34 = .ok (.aload_n 1, 1) := by decide +kernel
theorem d29_35 : decode jdk_17_method_26_code 35 = .ok (.getfield 17, 3) := by decide +kernel
theorem d29_38 : decode jdk_17_method_26_code 38 = .ok (.invokestatic 257, 3) := by decide +kernel
theorem pd_9 : parseMethodDescriptor "(JIJI)Ljava/math/BigDecimal;" = some ⟨[.long, .int, .long, .int], some (.object "java/math/BigDecimal")⟩ := by decide +kernel
abbrev Y_9 : MethodName := ⟨"java/math/BigDecimal", "add", "(JIJI)Ljava/math/BigDecimal;"⟩
theorem d29_41 : decode jdk_17_method_26_code 41 = .ok (.areturn, 1) := by decide +kernel
abbrev Rm_cadds : Room := { frames := 7, cells := 1, slots := 5, locals := 110 }
def Q_cadds (Z : State) (a : Addr) (b : Addr) (x : Int64) (y : Int64) (sc : Int32) (ka : Int) (kb : Int) (wz : Addr) (wy : Addr) (h0 : Heap) (n0 : Nat) (v : Option Value) (h : Heap) (L : List Loc) : Prop := ∃ (r : Addr), v = some (.ref r) ∧ Fr n0 L ∧ Keep h0 h [] ∧ Old Z n0 h ∧ BE Z h r (x + y) sc (ka + kb)
theorem ef_cadds (m : MethodId) (a : Addr) (b : Addr) (x : Int64) (y : Int64) (sc : Int32) (ka : Int) (kb : Int) (wz : Addr) (wy : Addr) : entryFrame m #[(.ref a), (.ref b)] 2 = mkF m 0 #[.val (.ref a), .val (.ref b)] [] := by first | (simp [entryFrame, mkF, argsToLocals, Value.category]; done) | rfl
set_option maxRecDepth 65536 in
set_option maxHeartbeats 40000000 in
theorem cadds (l : Launch) (Z : State) (a0 : Array Value) (hw : ∀ d ∈ tables_1, d.before a0 Z = true) (ws : List Jvm.Cond) (a : Addr) (b : Addr) (x : Int64) (y : Int64) (sc : Int32) (ka : Int) (kb : Int) (wz : Addr) (wy : Addr) (h0 : Heap) (n0 : Nat) (zD0 : Sta Z Z.heap "java/math/BigDecimal" "ZERO_THROUGH_TEN" "[Ljava/math/BigDecimal;" (.ref wz)) (zD1 : ZTab Z Z.heap wz) (zD2 : Sta Z Z.heap "java/math/BigDecimal" "ZERO_SCALED_BY" "[Ljava/math/BigDecimal;" (.ref wy)) (zD3 : STab Z Z.heap wy) (zP0 : Old Z n0 h0) (zP1 : BE Z h0 a x sc ka) (zP2 : BE Z h0 b y sc kb) (hs : own_S sc) (hk : ka + kb ≤ 1000) :
    MetFree l (⟨"java/math/BigDecimal", "add", "(Ljava/math/BigDecimal;)Ljava/math/BigDecimal;"⟩ : MethodName) (head1 (Jvm.Cond.code (⟨"java/math/BigDecimal", "add", "(Ljava/math/BigDecimal;)Ljava/math/BigDecimal;"⟩ : MethodName) jdk_17_method_26_code 2 (some (.object "java/math/BigDecimal")) :: ws) Rm_cadds) (fun aA uU => aA = #[(.ref a), (.ref b)] ∧ Z.Warmed39 uU.vm ∧ uU.heap = h0) (fun _ _ _ _ _ => True) (fun _ uU oO uU' => ∃ vV lL, oO = .returned vV ∧ Q_cadds Z a b x y sc ka kb wz wy h0 n0 vV uU'.heap lL ∧ FrameEnd uU oO uU' lL Rm_cadds.cells Rm_cadds.slots) := by
  refine MetFree.of_bodySF (plainFor_of_name pn_java_math_BigDecimal) hisR ?_
  intro p e s m args below meth c s₁ Bd hml0 hP hK
  obtain ⟨rfl, hZ, hh⟩ := hP
  have hx := Bd.exec
  have hby := Bd.bytes
  have hml : c.maxLocals = 2 := hml0
  have hown : s.vm.findClass "java/math/BigDecimal" = some m.cls := findClass_of_methodNamed Bd.named
  have hnm := (name_of_methodNamed Bd.named Bd.method).1
  have X0 : Stand p l e Rm_cadds s m #[(.ref a), (.ref b)] below meth c s₁ [] 0 0 := Stand.of_body Bd
  have e0 : s₁.heap = h0 := by rw [← hh, Bd.state]; rfl
  have N0 := Fr.nil n0
  refine Rch.out (Rch.st (fun t k => castTop (ef_cadds m a b x y sc ka kb wz wy) k) ?_)
  show Rch p.tables e below _ (s₁.setTop (mkF m 0 #[.val (.ref a), .val (.ref b)] []))
  obtain ⟨za, Ba, hA, kx⟩ := zP1.2
  obtain ⟨zb, Bb, hB, ky⟩ := zP2.2
  have hnx := Bk.ne1 kx ky hk
  have hny := Bk.ne1 ky kx (by omega)
  refine Rch.st (fun _ hr => XS.aloadN X0.here hx rfl (hb hby d29_0) rfl rfl hr) ?_
  obtain ⟨T1, X1, e1, st1⟩ := getF X0 hx hZ hown (host := "") (Or.inl (own_w hw 77 rfl)) Via.refl e0 Ba.2.1 (g := (mkF m 1 #[.val (.ref a), .val (.ref b)] [(.ref a)])) rfl rfl (hb hby d29_1)
  refine Rch.st st1 ?_
  refine Rch.st (fun _ hr => Jvm.Stand.ldc2J (g := (mkF m 4 #[.val (.ref a), .val (.ref b)] [(.long x)])) X1 hx hown (mvT hZ (own_w hw 79 rfl)) rfl (hb hby d29_4) hr) ?_
  refine Rch.st (fun _ hr => XS.lcmp X1.here hx rfl (hb hby d29_7) rfl hr) ?_
  refine Rch.st (fun _ hr => XS.ifNo X1.here hx rfl (hb hby d29_8) rfl ((if0 _ _).trans (feq (mt (lw_eq _ _).mp hnx)).1) hr) ?_
  refine Rch.st (fun _ hr => XS.aloadN X1.here hx rfl (hb hby d29_11) rfl rfl hr) ?_
  show Rch p.tables e below _ (T1.setTop (mkF m 12 #[.val (.ref a), .val (.ref b)] [(.ref b)]))
  obtain ⟨T2, X2, e2, st2⟩ := getF X1 hx hZ hown (host := "") (Or.inl (own_w hw 77 rfl)) Via.refl e1 Bb.2.1 (g := (mkF m 12 #[.val (.ref a), .val (.ref b)] [(.ref b)])) rfl rfl (hb hby d29_12)
  refine Rch.st st2 ?_
  refine Rch.st (fun _ hr => Jvm.Stand.ldc2J (g := (mkF m 15 #[.val (.ref a), .val (.ref b)] [(.long y)])) X2 hx hown (mvT hZ (own_w hw 79 rfl)) rfl (hb hby d29_15) hr) ?_
  refine Rch.st (fun _ hr => XS.lcmp X2.here hx rfl (hb hby d29_18) rfl hr) ?_
  refine Rch.st (fun _ hr => XS.ifNo X2.here hx rfl (hb hby d29_19) rfl ((if0 _ _).trans (feq (mt (lw_eq _ _).mp hny)).1) hr) ?_
  refine Rch.st (fun _ hr => XS.aloadN X2.here hx rfl (hb hby d29_22) rfl rfl hr) ?_
  obtain ⟨T3, X3, e3, st3⟩ := getF X2 hx hZ hown (host := "") (Or.inl (own_w hw 77 rfl)) Via.refl e2 Ba.2.1 (g := (mkF m 23 #[.val (.ref a), .val (.ref b)] [(.ref a)])) rfl rfl (hb hby d29_23)
  refine Rch.st st3 ?_
  show Rch p.tables e below _ (T3.setTop (mkF m 26 #[.val (.ref a), .val (.ref b)] [(.long x)]))
  refine Rch.st (fun _ hr => XS.aloadN X3.here hx rfl (hb hby d29_26) rfl rfl hr) ?_
  obtain ⟨T4, X4, e4, st4⟩ := getF X3 hx hZ hown (host := "") (Or.inl (own_w hw 75 rfl)) Via.refl e3 Ba.2.2 (g := (mkF m 27 #[.val (.ref a), .val (.ref b)] [(.ref a), (.long x)])) rfl rfl (hb hby d29_27)
  refine Rch.st st4 ?_
  refine Rch.st (fun _ hr => XS.aloadN X4.here hx rfl (hb hby d29_30) rfl rfl hr) ?_
  obtain ⟨T5, X5, e5, st5⟩ := getF X4 hx hZ hown (host := "") (Or.inl (own_w hw 77 rfl)) Via.refl e4 Bb.2.1 (g := (mkF m 31 #[.val (.ref a), .val (.ref b)] [(.ref b), (.int za), (.long x)])) rfl rfl (hb hby d29_31)
  refine Rch.st st5 ?_
  refine Rch.st (fun _ hr => XS.aloadN X5.here hx rfl (hb hby d29_34) rfl rfl hr) ?_
  obtain ⟨T6, X6, e6, st6⟩ := getF X5 hx hZ hown (host := "") (Or.inl (own_w hw 75 rfl)) Via.refl e5 Bb.2.2 (g := (mkF m 35 #[.val (.ref a), .val (.ref b)] [(.ref b), (.long y), (.int za), (.long x)])) rfl rfl (hb hby d29_35)
  refine Rch.st st6 ?_
  show Rch p.tables e below _ (T6.setTop (mkF m 38 #[.val (.ref a), .val (.ref b)] [(.int zb), (.long y), (.int za), (.long x)]))
  show Rch p.tables e below _ (T6.setTop (mkF m 38 #[.val (.ref a), .val (.ref b)] [(.int zb), (.long y), (.int za), (.long x)]))
  refine own_kS X6 hx hZ (y := Y_9) hown (own_w hw 199 rfl) (own_w hw 200 rfl) (own_w hw 28 rfl) (own_w hw 201 rfl) (by decide) (W := 0) (caddJIJIs l Z a0 hw [] x za y zb sc ka kb wz wy h0 n0 zD0 zD1 zD2 zD3 zP0 hA hB hs kx ky hk) (by decide) (by decide) e6 (by decide) (by decide)  (by rw [hml]; rfl) (argsL := [(.long x), (.int za), (.long y), (.int zb)]) (rest := []) (lenOf pd_9 rfl) rfl rfl (hb hby d29_38) rfl (fun _ T7 Lc7 X7 hQ7 => ?_)
  obtain ⟨r_7, zr_7, rfl, N7q, Kp7, Op7, R7_0, R7_1⟩ := hQ7
  have N7 := Fr.app N0 N7q
  have K8 := (Keep.refl h0 []).trans Kp7 all0
  obtain ⟨fs, hr, hrun, hended, hW, hsame⟩ := X7.leave (v := some (.ref r_7)) (fun h => by rw [Bd.returns] at h; cases h)
  refine Rch.fin (u := T7.setFrames fs) (own_retA X7 hx Bd.returns rfl rfl rfl (hb hby d29_41) hr) ⟨_, hrun, hended, _, _, rfl, ?_, ⟨_, rfl⟩, hW, hsame.mono (by decide) (by decide)⟩
  show Q_cadds Z a b x y sc ka kb wz wy h0 n0 _ T7.heap _
  exact ⟨r_7, rfl, N7, K8, Op7, ⟨R7_0.1, zr_7, R7_0, R7_1, (Bk.add kx ky hk).2⟩⟩
theorem d36_0 : decode jdk_17_method_29_code 0 = .ok (.aload_n 0, 1) := by decide +kernel
theorem d36_1 : decode jdk_17_method_29_code 1 = .ok (.getfield 24, 3) := by decide +kernel
theorem d36_4 : decode jdk_17_method_29_code 4 = .ok (.ldc2_w 125, 3) := by decide +kernel
theorem d36_7 : decode jdk_17_method_29_code 7 = .ok (.lcmp, 1) := by decide +kernel
theorem d36_8 : decode jdk_17_method_29_code 8 = .ok (.ifCond .eq 58, 3) := by decide +kernel
theorem d36_11 : decode jdk_17_method_29_code 11 = .ok (.aload_n 1, 1) := by decide +kernel
theorem d36_12 : decode jdk_17_method_29_code 12 = .ok (.getfield 24, 3) := by decide +kernel
theorem d36_15 : decode jdk_17_method_29_code 15 = .ok (.ldc2_w 125, 3) := by decide +kernel
theorem d36_18 : decode jdk_17_method_29_code 18 = .ok (.lcmp, 1) := by decide +kernel
theorem d36_19 : decode jdk_17_method_29_code 19 = .ok (.ifCond .eq 24, 3) := by decide +kernel
theorem d36_22 : decode jdk_17_method_29_code 22 = .ok (.aload_n 0, 1) := by decide +kernel
theorem d36_23 : decode jdk_17_method_29_code 23 = .ok (.getfield 24, 3) := by decide +kernel
theorem d36_26 : decode jdk_17_method_29_code 26 = .ok (.aload_n 0, 1) := by decide +kernel
theorem d36_27 : decode jdk_17_method_29_code 27 = .ok (.getfield 17, 3) := by decide +kernel
theorem d36_30 : decode jdk_17_method_29_code 30 = .ok (.aload_n 1, 1) := by decide +kernel
theorem d36_31 : decode jdk_17_method_29_code 31 = .ok (.getfield 24, 3) := by decide +kernel
theorem d36_34 : decode jdk_17_method_29_code 34 = .ok (.lneg, 1) := by decide +kernel
theorem d36_35 : decode jdk_17_method_29_code 35 = .ok (.aload_n 1, 1) := by decide +kernel
theorem d36_36 : decode jdk_17_method_29_code 36 = .ok (.getfield 17, 3) := by decide +kernel
theorem d36_39 : decode jdk_17_method_29_code 39 = .ok (.invokestatic 257, 3) := by decide +kernel
theorem d36_42 : decode jdk_17_method_29_code 42 = .ok (.areturn, 1) := by decide +kernel
abbrev Rm_csubs : Room := { frames := 7, cells := 1, slots := 5, locals := 110 }
def Q_csubs (Z : State) (a : Addr) (b : Addr) (x : Int64) (y : Int64) (sc : Int32) (ka : Int) (kb : Int) (wz : Addr) (wy : Addr) (h0 : Heap) (n0 : Nat) (v : Option Value) (h : Heap) (L : List Loc) : Prop := ∃ (r : Addr), v = some (.ref r) ∧ Fr n0 L ∧ Keep h0 h [] ∧ Old Z n0 h ∧ BE Z h r (x + (-y)) sc (ka + kb)
theorem ef_csubs (m : MethodId) (a : Addr) (b : Addr) (x : Int64) (y : Int64) (sc : Int32) (ka : Int) (kb : Int) (wz : Addr) (wy : Addr) : entryFrame m #[(.ref a), (.ref b)] 2 = mkF m 0 #[.val (.ref a), .val (.ref b)] [] := by first | (simp [entryFrame, mkF, argsToLocals, Value.category]; done) | rfl
set_option maxRecDepth 65536 in
set_option maxHeartbeats 40000000 in
theorem csubs (l : Launch) (Z : State) (a0 : Array Value) (hw : ∀ d ∈ tables_1, d.before a0 Z = true) (ws : List Jvm.Cond) (a : Addr) (b : Addr) (x : Int64) (y : Int64) (sc : Int32) (ka : Int) (kb : Int) (wz : Addr) (wy : Addr) (h0 : Heap) (n0 : Nat) (zD0 : Sta Z Z.heap "java/math/BigDecimal" "ZERO_THROUGH_TEN" "[Ljava/math/BigDecimal;" (.ref wz)) (zD1 : ZTab Z Z.heap wz) (zD2 : Sta Z Z.heap "java/math/BigDecimal" "ZERO_SCALED_BY" "[Ljava/math/BigDecimal;" (.ref wy)) (zD3 : STab Z Z.heap wy) (zP0 : Old Z n0 h0) (zP1 : BE Z h0 a x sc ka) (zP2 : BE Z h0 b y sc kb) (hs : own_S sc) (hk : ka + kb ≤ 1000) :
    MetFree l (⟨"java/math/BigDecimal", "subtract", "(Ljava/math/BigDecimal;)Ljava/math/BigDecimal;"⟩ : MethodName) (head1 (Jvm.Cond.code (⟨"java/math/BigDecimal", "subtract", "(Ljava/math/BigDecimal;)Ljava/math/BigDecimal;"⟩ : MethodName) jdk_17_method_29_code 2 (some (.object "java/math/BigDecimal")) :: ws) Rm_csubs) (fun aA uU => aA = #[(.ref a), (.ref b)] ∧ Z.Warmed39 uU.vm ∧ uU.heap = h0) (fun _ _ _ _ _ => True) (fun _ uU oO uU' => ∃ vV lL, oO = .returned vV ∧ Q_csubs Z a b x y sc ka kb wz wy h0 n0 vV uU'.heap lL ∧ FrameEnd uU oO uU' lL Rm_csubs.cells Rm_csubs.slots) := by
  refine MetFree.of_bodySF (plainFor_of_name pn_java_math_BigDecimal) hisR ?_
  intro p e s m args below meth c s₁ Bd hml0 hP hK
  obtain ⟨rfl, hZ, hh⟩ := hP
  have hx := Bd.exec
  have hby := Bd.bytes
  have hml : c.maxLocals = 2 := hml0
  have hown : s.vm.findClass "java/math/BigDecimal" = some m.cls := findClass_of_methodNamed Bd.named
  have hnm := (name_of_methodNamed Bd.named Bd.method).1
  have X0 : Stand p l e Rm_csubs s m #[(.ref a), (.ref b)] below meth c s₁ [] 0 0 := Stand.of_body Bd
  have e0 : s₁.heap = h0 := by rw [← hh, Bd.state]; rfl
  have N0 := Fr.nil n0
  refine Rch.out (Rch.st (fun t k => castTop (ef_csubs m a b x y sc ka kb wz wy) k) ?_)
  show Rch p.tables e below _ (s₁.setTop (mkF m 0 #[.val (.ref a), .val (.ref b)] []))
  obtain ⟨za, Ba, hA, kx⟩ := zP1.2
  obtain ⟨zb, Bb, hB, ky⟩ := zP2.2
  have hnx := Bk.ne1 kx ky hk
  have hny := Bk.ne1 ky kx (by omega)
  refine Rch.st (fun _ hr => XS.aloadN X0.here hx rfl (hb hby d36_0) rfl rfl hr) ?_
  obtain ⟨T1, X1, e1, st1⟩ := getF X0 hx hZ hown (host := "") (Or.inl (own_w hw 77 rfl)) Via.refl e0 Ba.2.1 (g := (mkF m 1 #[.val (.ref a), .val (.ref b)] [(.ref a)])) rfl rfl (hb hby d36_1)
  refine Rch.st st1 ?_
  refine Rch.st (fun _ hr => Jvm.Stand.ldc2J (g := (mkF m 4 #[.val (.ref a), .val (.ref b)] [(.long x)])) X1 hx hown (mvT hZ (own_w hw 79 rfl)) rfl (hb hby d36_4) hr) ?_
  refine Rch.st (fun _ hr => XS.lcmp X1.here hx rfl (hb hby d36_7) rfl hr) ?_
  refine Rch.st (fun _ hr => XS.ifNo X1.here hx rfl (hb hby d36_8) rfl ((if0 _ _).trans (feq (mt (lw_eq _ _).mp hnx)).1) hr) ?_
  refine Rch.st (fun _ hr => XS.aloadN X1.here hx rfl (hb hby d36_11) rfl rfl hr) ?_
  show Rch p.tables e below _ (T1.setTop (mkF m 12 #[.val (.ref a), .val (.ref b)] [(.ref b)]))
  obtain ⟨T2, X2, e2, st2⟩ := getF X1 hx hZ hown (host := "") (Or.inl (own_w hw 77 rfl)) Via.refl e1 Bb.2.1 (g := (mkF m 12 #[.val (.ref a), .val (.ref b)] [(.ref b)])) rfl rfl (hb hby d36_12)
  refine Rch.st st2 ?_
  refine Rch.st (fun _ hr => Jvm.Stand.ldc2J (g := (mkF m 15 #[.val (.ref a), .val (.ref b)] [(.long y)])) X2 hx hown (mvT hZ (own_w hw 79 rfl)) rfl (hb hby d36_15) hr) ?_
  refine Rch.st (fun _ hr => XS.lcmp X2.here hx rfl (hb hby d36_18) rfl hr) ?_
  refine Rch.st (fun _ hr => XS.ifNo X2.here hx rfl (hb hby d36_19) rfl ((if0 _ _).trans (feq (mt (lw_eq _ _).mp hny)).1) hr) ?_
  refine Rch.st (fun _ hr => XS.aloadN X2.here hx rfl (hb hby d36_22) rfl rfl hr) ?_
  obtain ⟨T3, X3, e3, st3⟩ := getF X2 hx hZ hown (host := "") (Or.inl (own_w hw 77 rfl)) Via.refl e2 Ba.2.1 (g := (mkF m 23 #[.val (.ref a), .val (.ref b)] [(.ref a)])) rfl rfl (hb hby d36_23)
  refine Rch.st st3 ?_
  show Rch p.tables e below _ (T3.setTop (mkF m 26 #[.val (.ref a), .val (.ref b)] [(.long x)]))
  refine Rch.st (fun _ hr => XS.aloadN X3.here hx rfl (hb hby d36_26) rfl rfl hr) ?_
  obtain ⟨T4, X4, e4, st4⟩ := getF X3 hx hZ hown (host := "") (Or.inl (own_w hw 75 rfl)) Via.refl e3 Ba.2.2 (g := (mkF m 27 #[.val (.ref a), .val (.ref b)] [(.ref a), (.long x)])) rfl rfl (hb hby d36_27)
  refine Rch.st st4 ?_
  refine Rch.st (fun _ hr => XS.aloadN X4.here hx rfl (hb hby d36_30) rfl rfl hr) ?_
  obtain ⟨T5, X5, e5, st5⟩ := getF X4 hx hZ hown (host := "") (Or.inl (own_w hw 77 rfl)) Via.refl e4 Bb.2.1 (g := (mkF m 31 #[.val (.ref a), .val (.ref b)] [(.ref b), (.int za), (.long x)])) rfl rfl (hb hby d36_31)
  refine Rch.st st5 ?_
  refine Rch.st (fun _ hr => XS.lneg X5.here hx rfl (hb hby d36_34) rfl hr) ?_
  refine Rch.st (fun _ hr => XS.aloadN X5.here hx rfl (hb hby d36_35) rfl rfl hr) ?_
  show Rch p.tables e below _ (T5.setTop (mkF m 36 #[.val (.ref a), .val (.ref b)] [(.ref b), (.long (-y)), (.int za), (.long x)]))
  obtain ⟨T6, X6, e6, st6⟩ := getF X5 hx hZ hown (host := "") (Or.inl (own_w hw 75 rfl)) Via.refl e5 Bb.2.2 (g := (mkF m 36 #[.val (.ref a), .val (.ref b)] [(.ref b), (.long (-y)), (.int za), (.long x)])) rfl rfl (hb hby d36_36)
  refine Rch.st st6 ?_
  show Rch p.tables e below _ (T6.setTop (mkF m 39 #[.val (.ref a), .val (.ref b)] [(.int zb), (.long (-y)), (.int za), (.long x)]))
  refine own_kS X6 hx hZ (y := Y_9) hown (own_w hw 199 rfl) (own_w hw 200 rfl) (own_w hw 28 rfl) (own_w hw 201 rfl) (by decide) (W := 0) (caddJIJIs l Z a0 hw [] x za (-y) zb sc ka kb wz wy h0 n0 zD0 zD1 zD2 zD3 zP0 hA (own_negor hB) hs kx (Bk.neg1 kx ky hk) hk) (by decide) (by decide) e6 (by decide) (by decide)  (by rw [hml]; rfl) (argsL := [(.long x), (.int za), (.long (-y)), (.int zb)]) (rest := []) (lenOf pd_9 rfl) rfl rfl (hb hby d36_39) rfl (fun _ T7 Lc7 X7 hQ7 => ?_)
  obtain ⟨r_7, zr_7, rfl, N7q, Kp7, Op7, R7_0, R7_1⟩ := hQ7
  have N7 := Fr.app N0 N7q
  have K8 := (Keep.refl h0 []).trans Kp7 all0
  obtain ⟨fs, hr, hrun, hended, hW, hsame⟩ := X7.leave (v := some (.ref r_7)) (fun h => by rw [Bd.returns] at h; cases h)
  refine Rch.fin (u := T7.setFrames fs) (own_retA X7 hx Bd.returns rfl rfl rfl (hb hby d36_42) hr) ⟨_, hrun, hended, _, _, rfl, ?_, ⟨_, rfl⟩, hW, hsame.mono (by decide) (by decide)⟩
  show Q_csubs Z a b x y sc ka kb wz wy h0 n0 _ T7.heap _
  exact ⟨r_7, rfl, N7, K8, Op7, ⟨R7_0.1, zr_7, R7_0, R7_1, (Bk.add kx (Bk.neg1 kx ky hk) hk).2⟩⟩
theorem d16_0 : decode jdk_35_method_57_code 0 = .ok (.lload_n 0, 1) := by decide +kernel
theorem d16_1 : decode jdk_35_method_57_code 1 = .ok (.bipush 63, 2) := by decide +kernel
theorem d16_3 : decode jdk_35_method_57_code 3 = .ok (.lshr, 1) := by decide +kernel
theorem d16_4 : decode jdk_35_method_57_code 4 = .ok (.lload_n 0, 1) := by decide +kernel
theorem d16_5 : decode jdk_35_method_57_code 5 = .ok (.lneg, 1) := by decide +kernel
theorem d16_6 : decode jdk_35_method_57_code 6 = .ok (.bipush 63, 2) := by decide +kernel
theorem d16_8 : decode jdk_35_method_57_code 8 = .ok (.lushr, 1) := by decide +kernel
theorem d16_9 : decode jdk_35_method_57_code 9 = .ok (.lor, 1) := by decide +kernel
theorem d16_10 : decode jdk_35_method_57_code 10 = .ok (.l2i, 1) := by decide +kernel
theorem d16_11 : decode jdk_35_method_57_code 11 = .ok (.ireturn, 1) := by decide +kernel
abbrev Rm_clsignum : Room := { frames := 0, cells := 0, slots := 0, locals := 0 }
def Q_clsignum (Z : State) (x : Int64) (h0 : Heap) (n0 : Nat) (v : Option Value) (h : Heap) (L : List Loc) : Prop := v = some (.int (own_sg x)) ∧ Fr n0 L ∧ h = h0
theorem pn_java_lang_Long : plainName "java/lang/Long" = true := by first | (simp [plainName, overriddenIn]; done) | decide +kernel
theorem ef_clsignum (m : MethodId) (x : Int64) : entryFrame m #[(.long x)] 2 = mkF m 0 #[.val (.long x), .second] [] := by first | (simp [entryFrame, mkF, argsToLocals, Value.category]; done) | rfl
set_option maxRecDepth 65536 in
set_option maxHeartbeats 40000000 in
theorem clsignum (l : Launch) (Z : State) (a0 : Array Value) (hw : ∀ d ∈ tables_1, d.before a0 Z = true) (ws : List Jvm.Cond) (x : Int64) (h0 : Heap) (n0 : Nat) :
    MetFree l (⟨"java/lang/Long", "signum", "(J)I"⟩ : MethodName) (head1 (Jvm.Cond.code (⟨"java/lang/Long", "signum", "(J)I"⟩ : MethodName) jdk_35_method_57_code 2 (some .int) :: ws) Rm_clsignum) (fun aA uU => aA = #[(.long x)] ∧ Z.Warmed39 uU.vm ∧ uU.heap = h0) (fun _ _ _ _ _ => True) (fun _ uU oO uU' => ∃ vV lL, oO = .returned vV ∧ Q_clsignum Z x h0 n0 vV uU'.heap lL ∧ FrameEnd uU oO uU' lL Rm_clsignum.cells Rm_clsignum.slots) := by
  refine MetFree.of_bodySF (plainFor_of_name pn_java_lang_Long) hisR ?_
  intro p e s m args below meth c s₁ Bd hml0 hP hK
  obtain ⟨rfl, hZ, hh⟩ := hP
  have hx := Bd.exec
  have hby := Bd.bytes
  have hml : c.maxLocals = 2 := hml0
  have hown : s.vm.findClass "java/lang/Long" = some m.cls := findClass_of_methodNamed Bd.named
  have hnm := (name_of_methodNamed Bd.named Bd.method).1
  have X0 : Stand p l e Rm_clsignum s m #[(.long x)] below meth c s₁ [] 0 0 := Stand.of_body Bd
  have e0 : s₁.heap = h0 := by rw [← hh, Bd.state]; rfl
  have N0 := Fr.nil n0
  refine Rch.out (Rch.st (fun t k => castTop (ef_clsignum m x) k) ?_)
  show Rch p.tables e below _ (s₁.setTop (mkF m 0 #[.val (.long x), .second] []))
  refine Rch.st (fun _ hr => XS.lloadN X0.here hx rfl (hb hby d16_0) rfl hr) ?_
  refine Rch.st (fun _ hr => XS.bipush X0.here hx rfl (hb hby d16_1) hr) ?_
  refine Rch.st (fun _ hr => XS.lshr X0.here hx rfl (hb hby d16_3) rfl hr) ?_
  refine Rch.st (fun _ hr => XS.lloadN X0.here hx rfl (hb hby d16_4) rfl hr) ?_
  refine Rch.st (fun _ hr => XS.lneg X0.here hx rfl (hb hby d16_5) rfl hr) ?_
  refine Rch.st (fun _ hr => XS.bipush X0.here hx rfl (hb hby d16_6) hr) ?_
  show Rch p.tables e below _ (s₁.setTop (mkF m 8 #[.val (.long x), .second] [(.int (63 : Int32)), (.long (-x)), (.long (x >>> ((63 : Int32) &&& 0x3f).toInt64))]))
  refine Rch.st (fun _ hr => XS.lushr X0.here hx rfl (hb hby d16_8) rfl hr) ?_
  refine Rch.st (fun _ hr => XS.lor X0.here hx rfl (hb hby d16_9) rfl hr) ?_
  refine Rch.st (fun _ hr => XS.l2i X0.here hx rfl (hb hby d16_10) rfl hr) ?_
  obtain ⟨fs, hr, hrun, hended, hW, hsame⟩ := X0.leave (v := some (.int (((x >>> ((63 : Int32) &&& 0x3f).toInt64) ||| (((-x).toUInt64 >>> ((63 : Int32) &&& 0x3f).toInt64.toUInt64).toInt64)).toInt32))) (fun h => by rw [Bd.returns] at h; cases h)
  refine Rch.fin (u := s₁.setFrames fs) (own_retI X0 hx Bd.returns (hb hby d16_11) hr) ⟨_, hrun, hended, _, _, rfl, ?_, ⟨_, rfl⟩, hW, hsame.mono (by decide) (by decide)⟩
  show Q_clsignum Z x h0 n0 _ s₁.heap _
  exact ⟨rfl, N0, e0⟩
theorem d15_0 : decode jdk_17_method_58_code 0 = .ok (.aload_n 0, 1) := by decide +kernel
theorem d15_1 : decode jdk_17_method_58_code 1 = .ok (.getfield 24, 3) := by decide +kernel
theorem d15_4 : decode jdk_17_method_58_code 4 = .ok (.ldc2_w 125, 3) := by decide +kernel
theorem d15_7 : decode jdk_17_method_58_code 7 = .ok (.lcmp, 1) := by decide +kernel
theorem d15_8 : decode jdk_17_method_58_code 8 = .ok (.ifCond .eq 13, 3) := by decide +kernel
theorem d15_11 : decode jdk_17_method_58_code 11 = .ok (.aload_n 0, 1) := by decide +kernel
theorem d15_12 : decode jdk_17_method_58_code 12 = .ok (.getfield 24, 3) := by decide +kernel
theorem d15_15 : decode jdk_17_method_58_code 15 = .ok (.invokestatic 596, 3) := by decide +kernel
theorem pd_10 : parseMethodDescriptor "(J)I" = some ⟨[.long], some .int⟩ := by decide +kernel
abbrev Y_10 : MethodName := ⟨"java/lang/Long", "signum", "(J)I"⟩
theorem d15_18 : decode jdk_17_method_58_code 18 = .ok (.goto 10, 3) := by decide +kernel
theorem d15_28 : decode jdk_17_method_58_code 28 = .ok (.ireturn, 1) := by decide +kernel
abbrev Rm_csignums : Room := { frames := 1, cells := 0, slots := 0, locals := 13 }
def Q_csignums (Z : State) (a : Addr) (x : Int64) (z : Int32) (h0 : Heap) (n0 : Nat) (v : Option Value) (h : Heap) (L : List Loc) : Prop := v = some (.int (own_sg x)) ∧ Fr n0 L ∧ h = h0
theorem ef_csignums (m : MethodId) (a : Addr) (x : Int64) (z : Int32) : entryFrame m #[(.ref a)] 1 = mkF m 0 #[.val (.ref a)] [] := by first | (simp [entryFrame, mkF, argsToLocals, Value.category]; done) | rfl
set_option maxRecDepth 65536 in
set_option maxHeartbeats 40000000 in
theorem csignums (l : Launch) (Z : State) (a0 : Array Value) (hw : ∀ d ∈ tables_1, d.before a0 Z = true) (ws : List Jvm.Cond) (a : Addr) (x : Int64) (z : Int32) (h0 : Heap) (n0 : Nat) (zP0 : BDc Z h0 a x z) (hxx : ¬ x = (-9223372036854775808 : Int64)) :
    MetFree l (⟨"java/math/BigDecimal", "signum", "()I"⟩ : MethodName) (head1 (Jvm.Cond.code (⟨"java/math/BigDecimal", "signum", "()I"⟩ : MethodName) jdk_17_method_58_code 1 (some .int) :: ws) Rm_csignums) (fun aA uU => aA = #[(.ref a)] ∧ Z.Warmed39 uU.vm ∧ uU.heap = h0) (fun _ _ _ _ _ => True) (fun _ uU oO uU' => ∃ vV lL, oO = .returned vV ∧ Q_csignums Z a x z h0 n0 vV uU'.heap lL ∧ FrameEnd uU oO uU' lL Rm_csignums.cells Rm_csignums.slots) := by
  refine MetFree.of_bodySF (plainFor_of_name pn_java_math_BigDecimal) hisR ?_
  intro p e s m args below meth c s₁ Bd hml0 hP hK
  obtain ⟨rfl, hZ, hh⟩ := hP
  have hx := Bd.exec
  have hby := Bd.bytes
  have hml : c.maxLocals = 1 := hml0
  have hown : s.vm.findClass "java/math/BigDecimal" = some m.cls := findClass_of_methodNamed Bd.named
  have hnm := (name_of_methodNamed Bd.named Bd.method).1
  have X0 : Stand p l e Rm_csignums s m #[(.ref a)] below meth c s₁ [] 0 0 := Stand.of_body Bd
  have e0 : s₁.heap = h0 := by rw [← hh, Bd.state]; rfl
  have N0 := Fr.nil n0
  refine Rch.out (Rch.st (fun t k => castTop (ef_csignums m a x z) k) ?_)
  show Rch p.tables e below _ (s₁.setTop (mkF m 0 #[.val (.ref a)] []))
  refine Rch.st (fun _ hr => XS.aloadN X0.here hx rfl (hb hby d15_0) rfl rfl hr) ?_
  obtain ⟨T1, X1, e1, st1⟩ := getF X0 hx hZ hown (host := "") (Or.inl (own_w hw 77 rfl)) Via.refl e0 zP0.2.1 (g := (mkF m 1 #[.val (.ref a)] [(.ref a)])) rfl rfl (hb hby d15_1)
  refine Rch.st st1 ?_
  refine Rch.st (fun _ hr => Jvm.Stand.ldc2J (g := (mkF m 4 #[.val (.ref a)] [(.long x)])) X1 hx hown (mvT hZ (own_w hw 79 rfl)) rfl (hb hby d15_4) hr) ?_
  refine Rch.st (fun _ hr => XS.lcmp X1.here hx rfl (hb hby d15_7) rfl hr) ?_
  refine Rch.st (fun _ hr => XS.ifNo X1.here hx rfl (hb hby d15_8) rfl ((if0 _ _).trans (feq (mt (lw_eq _ _).mp hxx)).1) hr) ?_
  refine Rch.st (fun _ hr => XS.aloadN X1.here hx rfl (hb hby d15_11) rfl rfl hr) ?_
  show Rch p.tables e below _ (T1.setTop (mkF m 12 #[.val (.ref a)] [(.ref a)]))
  obtain ⟨T2, X2, e2, st2⟩ := getF X1 hx hZ hown (host := "") (Or.inl (own_w hw 77 rfl)) Via.refl e1 zP0.2.1 (g := (mkF m 12 #[.val (.ref a)] [(.ref a)])) rfl rfl (hb hby d15_12)
  refine Rch.st st2 ?_
  show Rch p.tables e below _ (T2.setTop (mkF m 15 #[.val (.ref a)] [(.long x)]))
  refine own_kS X2 hx hZ (y := Y_10) hown (own_w hw 106 rfl) (own_w hw 107 rfl) (own_w hw 108 rfl) (own_w hw 109 rfl) (by decide) (W := 0) (clsignum l Z a0 hw [] x h0 n0 ) (by decide) (by decide) e2 (by decide) (by decide)  (by rw [hml]; rfl) (argsL := [(.long x)]) (rest := []) (lenOf pd_10 rfl) rfl rfl (hb hby d15_15) rfl (fun _ T3 Lc3 X3 hQ3 => ?_)
  obtain ⟨rfl, N3q, e3⟩ := hQ3
  have N3 := Fr.app N0 N3q
  refine Rch.st (fun _ hr => XS.goto X3.here hx rfl (pc0 := 18) (pc' := 28) rfl (hb hby d15_18) (by decide) (by decide) hr) ?_
  obtain ⟨fs, hr, hrun, hended, hW, hsame⟩ := X3.leave (v := some (.int (own_sg x))) (fun h => by rw [Bd.returns] at h; cases h)
  refine Rch.fin (u := T3.setFrames fs) (own_retI X3 hx Bd.returns (hb hby d15_28) hr) ⟨_, hrun, hended, _, _, rfl, ?_, ⟨_, rfl⟩, hW, hsame.mono (by decide) (by decide)⟩
  show Q_csignums Z a x z h0 n0 _ T3.heap _
  exact ⟨rfl, N3, e3⟩
theorem own_sg0 : own_sg 0 = (0 : Int32) := by decide
theorem d11_0 : decode jdk_17_method_70_code 0 = .ok (.aload_n 0, 1) := by decide +kernel
theorem d11_1 : decode jdk_17_method_70_code 1 = .ok (.getfield 17, 3) := by decide +kernel
theorem d11_4 : decode jdk_17_method_70_code 4 = .ok (.aload_n 1, 1) := by decide +kernel
theorem d11_5 : decode jdk_17_method_70_code 5 = .ok (.getfield 17, 3) := by decide +kernel
theorem d11_8 : decode jdk_17_method_70_code 8 = .ok (.if_icmp .ne 55, 3) := by decide +kernel
theorem d11_11 : decode jdk_17_method_70_code 11 = .ok (.aload_n 0, 1) := by decide +kernel
theorem d11_12 : decode jdk_17_method_70_code 12 = .ok (.getfield 24, 3) := by decide +kernel
theorem d11_15 : decode jdk_17_method_70_code 15 = .ok (.lstore_n 2, 1) := by decide +kernel
theorem d11_16 : decode jdk_17_method_70_code 16 = .ok (.aload_n 1, 1) := by decide +kernel
theorem d11_17 : decode jdk_17_method_70_code 17 = .ok (.getfield 24, 3) := by decide +kernel
theorem d11_20 : decode jdk_17_method_70_code 20 = .ok (.lstore 4, 2) := by decide +kernel
theorem d11_22 : decode jdk_17_method_70_code 22 = .ok (.lload_n 2, 1) := by decide +kernel
theorem d11_23 : decode jdk_17_method_70_code 23 = .ok (.ldc2_w 125, 3) := by decide +kernel
theorem d11_26 : decode jdk_17_method_70_code 26 = .ok (.lcmp, 1) := by decide +kernel
theorem d11_27 : decode jdk_17_method_70_code 27 = .ok (.ifCond .eq 36, 3) := by decide +kernel
theorem d11_30 : decode jdk_17_method_70_code 30 = .ok (.lload 4, 2) := by decide +kernel
theorem d11_32 : decode jdk_17_method_70_code 32 = .ok (.ldc2_w 125, 3) := by decide +kernel
theorem d11_35 : decode jdk_17_method_70_code 35 = .ok (.lcmp, 1) := by decide +kernel
theorem d11_36 : decode jdk_17_method_70_code 36 = .ok (.ifCond .eq 27, 3) := by decide +kernel
theorem d11_39 : decode jdk_17_method_70_code 39 = .ok (.lload_n 2, 1) := by decide +kernel
theorem d11_40 : decode jdk_17_method_70_code 40 = .ok (.lload 4, 2) := by decide +kernel
theorem d11_42 : decode jdk_17_method_70_code 42 = .ok (.lcmp, 1) := by decide +kernel
theorem d11_43 : decode jdk_17_method_70_code 43 = .ok (.ifCond .eq 18, 3) := by decide +kernel
theorem d11_61 : decode jdk_17_method_70_code 61 = .ok (.iconst 0, 1) := by decide +kernel
theorem d11_62 : decode jdk_17_method_70_code 62 = .ok (.ireturn, 1) := by decide +kernel
theorem d11_63 : decode jdk_17_method_70_code 63 = .ok (.aload_n 0, 1) := by decide +kernel
theorem d11_64 : decode jdk_17_method_70_code 64 = .ok (.invokevirtual 270, 3) := by decide +kernel
theorem pd_11 : parseMethodDescriptor "()I" = some ⟨[], some .int⟩ := by decide +kernel
abbrev Y_11 : MethodName := ⟨"java/math/BigDecimal", "signum", "()I"⟩
theorem d11_67 : decode jdk_17_method_70_code 67 = .ok (.istore_n 2, 1) := by decide +kernel
theorem d11_68 : decode jdk_17_method_70_code 68 = .ok (.aload_n 1, 1) := by decide +kernel
theorem d11_69 : decode jdk_17_method_70_code 69 = .ok (.invokevirtual 270, 3) := by decide +kernel
theorem d11_72 : decode jdk_17_method_70_code 72 = .ok (.istore_n 3, 1) := by decide +kernel
theorem d11_73 : decode jdk_17_method_70_code 73 = .ok (.iload_n 2, 1) := by decide +kernel
theorem d11_74 : decode jdk_17_method_70_code 74 = .ok (.iload_n 3, 1) := by decide +kernel
theorem d11_75 : decode jdk_17_method_70_code 75 = .ok (.if_icmp .eq 14, 3) := by decide +kernel
theorem d11_89 : decode jdk_17_method_70_code 89 = .ok (.iload_n 2, 1) := by decide +kernel
theorem d11_90 : decode jdk_17_method_70_code 90 = .ok (.ifCond .ne 5, 3) := by decide +kernel
theorem d11_93 : decode jdk_17_method_70_code 93 = .ok (.iconst 0, 1) := by decide +kernel
theorem d11_94 : decode jdk_17_method_70_code 94 = .ok (.ireturn, 1) := by decide +kernel
abbrev Rm_ccompare : Room := { frames := 2, cells := 0, slots := 0, locals := 25 }
def Q_ccompare (Z : State) (a : Addr) (b : Addr) (x : Int64) (y : Int64) (sc : Int32) (ka : Int) (kb : Int) (h0 : Heap) (n0 : Nat) (v : Option Value) (h : Heap) (L : List Loc) : Prop := v = some (.int (0 : Int32)) ∧ Fr n0 L ∧ h = h0
theorem ef_ccompare (m : MethodId) (a : Addr) (b : Addr) (x : Int64) (y : Int64) (sc : Int32) (ka : Int) (kb : Int) : entryFrame m #[(.ref a), (.ref b)] 6 = mkF m 0 #[.val (.ref a), .val (.ref b), .unset, .unset, .unset, .unset] [] := by first | (simp [entryFrame, mkF, argsToLocals, Value.category]; done) | rfl
set_option maxRecDepth 65536 in
set_option maxHeartbeats 40000000 in
theorem ccompare (l : Launch) (Z : State) (a0 : Array Value) (hw : ∀ d ∈ tables_1, d.before a0 Z = true) (ws : List Jvm.Cond) (a : Addr) (b : Addr) (x : Int64) (y : Int64) (sc : Int32) (ka : Int) (kb : Int) (h0 : Heap) (n0 : Nat) (zP0 : BE Z h0 a x sc ka) (zP1 : BE Z h0 b y sc kb) (hs : own_S sc) (hka : ka ≤ 1000) (hkb : kb ≤ 1000) (hxy : x = y) :
    MetFree l (⟨"java/math/BigDecimal", "compareTo", "(Ljava/math/BigDecimal;)I"⟩ : MethodName) (head1 (Jvm.Cond.code (⟨"java/math/BigDecimal", "compareTo", "(Ljava/math/BigDecimal;)I"⟩ : MethodName) jdk_17_method_70_code 6 (some .int) :: ws) Rm_ccompare) (fun aA uU => aA = #[(.ref a), (.ref b)] ∧ Z.Warmed39 uU.vm ∧ uU.heap = h0) (fun _ _ _ _ _ => True) (fun _ uU oO uU' => ∃ vV lL, oO = .returned vV ∧ Q_ccompare Z a b x y sc ka kb h0 n0 vV uU'.heap lL ∧ FrameEnd uU oO uU' lL Rm_ccompare.cells Rm_ccompare.slots) := by
  refine MetFree.of_bodySF (plainFor_of_name pn_java_math_BigDecimal) hisR ?_
  intro p e s m args below meth c s₁ Bd hml0 hP hK
  obtain ⟨rfl, hZ, hh⟩ := hP
  have hx := Bd.exec
  have hby := Bd.bytes
  have hml : c.maxLocals = 6 := hml0
  have hown : s.vm.findClass "java/math/BigDecimal" = some m.cls := findClass_of_methodNamed Bd.named
  have hnm := (name_of_methodNamed Bd.named Bd.method).1
  have X0 : Stand p l e Rm_ccompare s m #[(.ref a), (.ref b)] below meth c s₁ [] 0 0 := Stand.of_body Bd
  have e0 : s₁.heap = h0 := by rw [← hh, Bd.state]; rfl
  have N0 := Fr.nil n0
  refine Rch.out (Rch.st (fun t k => castTop (ef_ccompare m a b x y sc ka kb) k) ?_)
  show Rch p.tables e below _ (s₁.setTop (mkF m 0 #[.val (.ref a), .val (.ref b), .unset, .unset, .unset, .unset] []))
  obtain ⟨za, Ba, hA, kx⟩ := zP0.2
  obtain ⟨zb, Bb, hB, ky⟩ := zP1.2
  have hnx := kx.ne hka
  have hny := ky.ne hkb
  refine Rch.st (fun _ hr => XS.aloadN X0.here hx rfl (hb hby d11_0) rfl rfl hr) ?_
  obtain ⟨T1, X1, e1, st1⟩ := getF X0 hx hZ hown (host := "") (Or.inl (own_w hw 75 rfl)) Via.refl e0 Ba.2.2 (g := (mkF m 1 #[.val (.ref a), .val (.ref b), .unset, .unset, .unset, .unset] [(.ref a)])) rfl rfl (hb hby d11_1)
  refine Rch.st st1 ?_
  refine Rch.st (fun _ hr => XS.aloadN X1.here hx rfl (hb hby d11_4) rfl rfl hr) ?_
  obtain ⟨T2, X2, e2, st2⟩ := getF X1 hx hZ hown (host := "") (Or.inl (own_w hw 75 rfl)) Via.refl e1 Bb.2.2 (g := (mkF m 5 #[.val (.ref a), .val (.ref b), .unset, .unset, .unset, .unset] [(.ref b), (.int za)])) rfl rfl (hb hby d11_5)
  refine Rch.st st2 ?_
  by_cases hc3 : za = zb
  · refine Rch.st (fun _ hr => XS.icmpNo X2.here hx rfl (hb hby d11_8) rfl (teq hc3).2 hr) ?_
    refine Rch.st (fun _ hr => XS.aloadN X2.here hx rfl (hb hby d11_11) rfl rfl hr) ?_
    show Rch p.tables e below _ (T2.setTop (mkF m 12 #[.val (.ref a), .val (.ref b), .unset, .unset, .unset, .unset] [(.ref a)]))
    obtain ⟨T4, X4, e4, st4⟩ := getF X2 hx hZ hown (host := "") (Or.inl (own_w hw 77 rfl)) Via.refl e2 Ba.2.1 (g := (mkF m 12 #[.val (.ref a), .val (.ref b), .unset, .unset, .unset, .unset] [(.ref a)])) rfl rfl (hb hby d11_12)
    refine Rch.st st4 ?_
    refine Rch.st (fun _ hr => XS.lstoreN X4.here hx rfl (hb hby d11_15) rfl (l' := #[.val (.ref a), .val (.ref b), .val (.long x), .second, .unset, .unset]) rfl hr) ?_
    refine Rch.st (fun _ hr => XS.aloadN X4.here hx rfl (hb hby d11_16) rfl rfl hr) ?_
    obtain ⟨T5, X5, e5, st5⟩ := getF X4 hx hZ hown (host := "") (Or.inl (own_w hw 77 rfl)) Via.refl e4 Bb.2.1 (g := (mkF m 17 #[.val (.ref a), .val (.ref b), .val (.long x), .second, .unset, .unset] [(.ref b)])) rfl rfl (hb hby d11_17)
    refine Rch.st st5 ?_
    refine Rch.st (fun _ hr => XS.lstore X5.here hx rfl (hb hby d11_20) rfl (l' := #[.val (.ref a), .val (.ref b), .val (.long x), .second, .val (.long y), .second]) rfl hr) ?_
    refine Rch.st (fun _ hr => XS.lloadN X5.here hx rfl (hb hby d11_22) rfl hr) ?_
    show Rch p.tables e below _ (T5.setTop (mkF m 23 #[.val (.ref a), .val (.ref b), .val (.long x), .second, .val (.long y), .second] [(.long x)]))
    refine Rch.st (fun _ hr => Jvm.Stand.ldc2J (g := (mkF m 23 #[.val (.ref a), .val (.ref b), .val (.long x), .second, .val (.long y), .second] [(.long x)])) X5 hx hown (mvT hZ (own_w hw 79 rfl)) rfl (hb hby d11_23) hr) ?_
    refine Rch.st (fun _ hr => XS.lcmp X5.here hx rfl (hb hby d11_26) rfl hr) ?_
    refine Rch.st (fun _ hr => XS.ifNo X5.here hx rfl (hb hby d11_27) rfl ((if0 _ _).trans (feq (mt (lw_eq _ _).mp hnx)).1) hr) ?_
    refine Rch.st (fun _ hr => XS.lload X5.here hx rfl (hb hby d11_30) rfl hr) ?_
    refine Rch.st (fun _ hr => Jvm.Stand.ldc2J (g := (mkF m 32 #[.val (.ref a), .val (.ref b), .val (.long x), .second, .val (.long y), .second] [(.long y)])) X5 hx hown (mvT hZ (own_w hw 79 rfl)) rfl (hb hby d11_32) hr) ?_
    refine Rch.st (fun _ hr => XS.lcmp X5.here hx rfl (hb hby d11_35) rfl hr) ?_
    show Rch p.tables e below _ (T5.setTop (mkF m 36 #[.val (.ref a), .val (.ref b), .val (.long x), .second, .val (.long y), .second] [(.int (lcmpW y (-9223372036854775808 : Int64)))]))
    refine Rch.st (fun _ hr => XS.ifNo X5.here hx rfl (hb hby d11_36) rfl ((if0 _ _).trans (feq (mt (lw_eq _ _).mp hny)).1) hr) ?_
    refine Rch.st (fun _ hr => XS.lloadN X5.here hx rfl (hb hby d11_39) rfl hr) ?_
    refine Rch.st (fun _ hr => XS.lload X5.here hx rfl (hb hby d11_40) rfl hr) ?_
    refine Rch.st (fun _ hr => XS.lcmp X5.here hx rfl (hb hby d11_42) rfl hr) ?_
    refine Rch.st (fun _ hr => XS.ifYes X5.here hx rfl (pc0 := 43) (pc' := 61) rfl (hb hby d11_43) rfl ((if0 _ _).trans (teq ((lw_eq _ _).mpr hxy)).1) (by decide) (by decide) hr) ?_
    refine Rch.st (fun _ hr => XS.iconst X5.here hx rfl (hb hby d11_61) hr) ?_
    show Rch p.tables e below _ (T5.setTop (mkF m 62 #[.val (.ref a), .val (.ref b), .val (.long x), .second, .val (.long y), .second] [(.int (0 : Int32))]))
    obtain ⟨fs, hr, hrun, hended, hW, hsame⟩ := X5.leave (v := some (.int (0 : Int32))) (fun h => by rw [Bd.returns] at h; cases h)
    refine Rch.fin (u := T5.setFrames fs) (own_retI X5 hx Bd.returns (hb hby d11_62) hr) ⟨_, hrun, hended, _, _, rfl, ?_, ⟨_, rfl⟩, hW, hsame.mono (by decide) (by decide)⟩
    show Q_ccompare Z a b x y sc ka kb h0 n0 _ T5.heap _
    exact ⟨rfl, N0, e5⟩
  · refine Rch.st (fun _ hr => XS.icmpYes X2.here hx rfl (pc0 := 8) (pc' := 63) rfl (hb hby d11_8) rfl (feq hc3).2 (by decide) (by decide) hr) ?_
    refine Rch.st (fun _ hr => XS.aloadN X2.here hx rfl (hb hby d11_63) rfl rfl hr) ?_
    show Rch p.tables e below _ (T2.setTop (mkF m 64 #[.val (.ref a), .val (.ref b), .unset, .unset, .unset, .unset] [(.ref a)]))
    show Rch p.tables e below _ (T2.setTop (mkF m 64 #[.val (.ref a), .val (.ref b), .unset, .unset, .unset, .unset] [(.ref a)]))
    refine own_kV X2 hx hZ (y := Y_11) (z := Y_11) hown (own_w hw 101 rfl) (own_w hw 102 rfl) (notFace_of_selects (args := #[]) (mvT hZ (own_w hw 104 rfl))) (own_w hw 104 rfl) (own_w hw 103 rfl) (own_w hw 28 rfl) (own_w hw 105 rfl) (by decide) (W := 0) (csignums l Z a0 hw [] a x za h0 n0 Ba hnx) (by decide) (by decide) e2 zP0.1 (by decide) (by decide)  (by rw [hml]; rfl) (argsL := []) (rest := []) (lenOf pd_11 rfl) rfl rfl (hb hby d11_64) rfl (fun _ T6 Lc6 X6 hQ6 => ?_)
    obtain ⟨rfl, N6q, e6⟩ := hQ6
    have N6 := Fr.app N0 N6q
    refine Rch.st (fun _ hr => XS.istoreN X6.here hx rfl (hb hby d11_67) rfl (l' := #[.val (.ref a), .val (.ref b), .val (.int (own_sg x)), .unset, .unset, .unset]) rfl hr) ?_
    refine Rch.st (fun _ hr => XS.aloadN X6.here hx rfl (hb hby d11_68) rfl rfl hr) ?_
    show Rch p.tables e below _ (T6.setTop (mkF m 69 #[.val (.ref a), .val (.ref b), .val (.int (own_sg x)), .unset, .unset, .unset] [(.ref b)]))
    refine own_kV X6 hx hZ (y := Y_11) (z := Y_11) hown (own_w hw 101 rfl) (own_w hw 102 rfl) (notFace_of_selects (args := #[]) (mvT hZ (own_w hw 104 rfl))) (own_w hw 104 rfl) (own_w hw 103 rfl) (own_w hw 28 rfl) (own_w hw 105 rfl) (by decide) (W := 0) (csignums l Z a0 hw [] b y zb h0 n0 Bb hny) (by decide) (by decide) e6 zP1.1 (by decide) (by decide)  (by rw [hml]; rfl) (argsL := []) (rest := []) (lenOf pd_11 rfl) rfl rfl (hb hby d11_69) rfl (fun _ T7 Lc7 X7 hQ7 => ?_)
    obtain ⟨rfl, N7q, e7⟩ := hQ7
    have N7 := Fr.app N6 N7q
    refine Rch.st (fun _ hr => XS.istoreN X7.here hx rfl (hb hby d11_72) rfl (l' := #[.val (.ref a), .val (.ref b), .val (.int (own_sg x)), .val (.int (own_sg y)), .unset, .unset]) rfl hr) ?_
    refine Rch.st (fun _ hr => XS.iloadN X7.here hx rfl (hb hby d11_73) rfl hr) ?_
    show Rch p.tables e below _ (T7.setTop (mkF m 74 #[.val (.ref a), .val (.ref b), .val (.int (own_sg x)), .val (.int (own_sg y)), .unset, .unset] [(.int (own_sg x))]))
    refine Rch.st (fun _ hr => XS.iloadN X7.here hx rfl (hb hby d11_74) rfl hr) ?_
    have hsg : (own_sg x) = (own_sg y) := by rw [hxy]
    refine Rch.st (fun _ hr => XS.icmpYes X7.here hx rfl (pc0 := 75) (pc' := 89) rfl (hb hby d11_75) rfl (teq hsg).1 (by decide) (by decide) hr) ?_
    refine Rch.st (fun _ hr => XS.iloadN X7.here hx rfl (hb hby d11_89) rfl hr) ?_
    have hsz : (own_sg x) = (0 : Int32) := by rw [own_x0 hxy hA hB hc3]; exact own_sg0
    refine Rch.st (fun _ hr => XS.ifNo X7.here hx rfl (hb hby d11_90) rfl ((if0 _ _).trans (teq hsz).2) hr) ?_
    refine Rch.st (fun _ hr => XS.iconst X7.here hx rfl (hb hby d11_93) hr) ?_
    obtain ⟨fs, hr, hrun, hended, hW, hsame⟩ := X7.leave (v := some (.int (0 : Int32))) (fun h => by rw [Bd.returns] at h; cases h)
    refine Rch.fin (u := T7.setFrames fs) (own_retI X7 hx Bd.returns (hb hby d11_94) hr) ⟨_, hrun, hended, _, _, rfl, ?_, ⟨_, rfl⟩, hW, hsame.mono (by decide) (by decide)⟩
    show Q_ccompare Z a b x y sc ka kb h0 n0 _ T7.heap _
    exact ⟨rfl, N7, e7⟩
theorem d3_0 : decode jdk_22_method_1_code 0 = .ok (.aload_n 0, 1) := by decide +kernel
theorem d3_1 : decode jdk_22_method_1_code 1 = .ok (.invokespecial 1, 3) := by decide +kernel
theorem d3_4 : decode jdk_22_method_1_code 4 = .ok (.return_, 1) := by decide +kernel
abbrev Rm_cacinit : Room := { frames := 1, cells := 0, slots := 0, locals := 12 }
def Q_cacinit (Z : State) (a : Addr) (h0 : Heap) (n0 : Nat) (v : Option Value) (h : Heap) (L : List Loc) : Prop := v = none ∧ Fr n0 L ∧ h = h0
theorem pn_java_util_AbstractCollection : plainName "java/util/AbstractCollection" = true := by first | (simp [plainName, overriddenIn]; done) | decide +kernel
theorem ef_cacinit (m : MethodId) (a : Addr) : entryFrame m #[(.ref a)] 1 = mkF m 0 #[.val (.ref a)] [] := by first | (simp [entryFrame, mkF, argsToLocals, Value.category]; done) | rfl
set_option maxRecDepth 65536 in
set_option maxHeartbeats 40000000 in
theorem cacinit (l : Launch) (Z : State) (a0 : Array Value) (hw : ∀ d ∈ tables_1, d.before a0 Z = true) (ws : List Jvm.Cond) (a : Addr) (h0 : Heap) (n0 : Nat) :
    MetFree l (⟨"java/util/AbstractCollection", "<init>", "()V"⟩ : MethodName) (head1 (Jvm.Cond.code (⟨"java/util/AbstractCollection", "<init>", "()V"⟩ : MethodName) jdk_22_method_1_code 1 none :: ws) Rm_cacinit) (fun aA uU => aA = #[(.ref a)] ∧ Z.Warmed39 uU.vm ∧ uU.heap = h0) (fun _ _ _ _ _ => True) (fun _ uU oO uU' => ∃ vV lL, oO = .returned vV ∧ Q_cacinit Z a h0 n0 vV uU'.heap lL ∧ FrameEnd uU oO uU' lL Rm_cacinit.cells Rm_cacinit.slots) := by
  refine MetFree.of_bodySF (plainFor_of_name pn_java_util_AbstractCollection) hisR ?_
  intro p e s m args below meth c s₁ Bd hml0 hP hK
  obtain ⟨rfl, hZ, hh⟩ := hP
  have hx := Bd.exec
  have hby := Bd.bytes
  have hml : c.maxLocals = 1 := hml0
  have hown : s.vm.findClass "java/util/AbstractCollection" = some m.cls := findClass_of_methodNamed Bd.named
  have hnm := (name_of_methodNamed Bd.named Bd.method).1
  have X0 : Stand p l e Rm_cacinit s m #[(.ref a)] below meth c s₁ [] 0 0 := Stand.of_body Bd
  have e0 : s₁.heap = h0 := by rw [← hh, Bd.state]; rfl
  have N0 := Fr.nil n0
  refine Rch.out (Rch.st (fun t k => castTop (ef_cacinit m a) k) ?_)
  show Rch p.tables e below _ (s₁.setTop (mkF m 0 #[.val (.ref a)] []))
  refine Rch.st (fun _ hr => XS.aloadN X0.here hx rfl (hb hby d3_0) rfl rfl hr) ?_
  obtain ⟨T1, X1, e1, st1⟩ := initO X0 hx hZ hown (own_w hw 18 rfl) (own_w hw 19 rfl) (own_w hw 20 rfl) e0 (g := (mkF m 1 #[.val (.ref a)] [(.ref a)])) rfl (by rw [hml]; rfl) rfl (hb hby d3_1) (by decide) (W := 0) (own_mr rfl rfl) (by decide)
  refine Rch.st st1 ?_
  obtain ⟨fs, hr, hrun, hended, hW, hsame⟩ := X1.leave (v := none) (fun _ => rfl)
  refine Rch.fin (u := T1.setFrames fs) (X1.returnOut hx Bd.returns (hb hby d3_4) hr) ⟨_, hrun, hended, _, _, rfl, ?_, ⟨_, rfl⟩, hW, hsame.mono (by decide) (by decide)⟩
  show Q_cacinit Z a h0 n0 _ T1.heap _
  exact ⟨rfl, N0, e1⟩
theorem d2_0 : decode jdk_39_method_1_code 0 = .ok (.aload_n 0, 1) := by decide +kernel
theorem d2_1 : decode jdk_39_method_1_code 1 = .ok (.invokespecial 1, 3) := by decide +kernel
abbrev Y_12 : MethodName := ⟨"java/util/AbstractCollection", "<init>", "()V"⟩
theorem d2_4 : decode jdk_39_method_1_code 4 = .ok (.aload_n 0, 1) := by decide +kernel
theorem d2_5 : decode jdk_39_method_1_code 5 = .ok (.iconst 0, 1) := by decide +kernel
theorem d2_6 : decode jdk_39_method_1_code 6 = .ok (.putfield 7, 3) := by decide +kernel
theorem d2_9 : decode jdk_39_method_1_code 9 = .ok (.return_, 1) := by decide +kernel
abbrev Rm_cabsinit : Room := { frames := 2, cells := 0, slots := 0, locals := 24 }
def Q_cabsinit (Z : State) (a : Addr) (h0 : Heap) (n0 : Nat) (v : Option Value) (h : Heap) (L : List Loc) : Prop := v = none ∧ Fr n0 L ∧ Keep h0 h [a] ∧ Old Z n0 h ∧ Exa Z h a "java/util/ArrayList" ∧ Fld Z h a "java/util/ArrayList" "elementData" "[Ljava/lang/Object;" .null ∧ Fld Z h a "java/util/ArrayList" "size" "I" (.int (0 : Int32)) ∧ Fld Z h a "java/util/AbstractList" "modCount" "I" (.int (0 : Int32))
theorem pn_java_util_AbstractList : plainName "java/util/AbstractList" = true := by first | (simp [plainName, overriddenIn]; done) | decide +kernel
theorem ef_cabsinit (m : MethodId) (a : Addr) : entryFrame m #[(.ref a)] 1 = mkF m 0 #[.val (.ref a)] [] := by first | (simp [entryFrame, mkF, argsToLocals, Value.category]; done) | rfl
set_option maxRecDepth 65536 in
set_option maxHeartbeats 40000000 in
theorem cabsinit (l : Launch) (Z : State) (a0 : Array Value) (hw : ∀ d ∈ tables_1, d.before a0 Z = true) (ws : List Jvm.Cond) (a : Addr) (h0 : Heap) (n0 : Nat) (zP0 : Old Z n0 h0) (zP1 : Exa Z h0 a "java/util/ArrayList") (zP2 : Fld Z h0 a "java/util/ArrayList" "elementData" "[Ljava/lang/Object;" .null) (zP3 : Fld Z h0 a "java/util/ArrayList" "size" "I" (.int (0 : Int32))) (zP4 : Fld Z h0 a "java/util/AbstractList" "modCount" "I" (.int (0 : Int32))) (zP5 : n0 ≤ a) :
    MetFree l (⟨"java/util/AbstractList", "<init>", "()V"⟩ : MethodName) (head1 (Jvm.Cond.code (⟨"java/util/AbstractList", "<init>", "()V"⟩ : MethodName) jdk_39_method_1_code 1 none :: ws) Rm_cabsinit) (fun aA uU => aA = #[(.ref a)] ∧ Z.Warmed39 uU.vm ∧ uU.heap = h0) (fun _ _ _ _ _ => True) (fun _ uU oO uU' => ∃ vV lL, oO = .returned vV ∧ Q_cabsinit Z a h0 n0 vV uU'.heap lL ∧ FrameEnd uU oO uU' lL Rm_cabsinit.cells Rm_cabsinit.slots) := by
  refine MetFree.of_bodySF (plainFor_of_name pn_java_util_AbstractList) hisR ?_
  intro p e s m args below meth c s₁ Bd hml0 hP hK
  obtain ⟨rfl, hZ, hh⟩ := hP
  have hx := Bd.exec
  have hby := Bd.bytes
  have hml : c.maxLocals = 1 := hml0
  have hown : s.vm.findClass "java/util/AbstractList" = some m.cls := findClass_of_methodNamed Bd.named
  have hnm := (name_of_methodNamed Bd.named Bd.method).1
  have X0 : Stand p l e Rm_cabsinit s m #[(.ref a)] below meth c s₁ [] 0 0 := Stand.of_body Bd
  have e0 : s₁.heap = h0 := by rw [← hh, Bd.state]; rfl
  have N0 := Fr.nil n0
  refine Rch.out (Rch.st (fun t k => castTop (ef_cabsinit m a) k) ?_)
  show Rch p.tables e below _ (s₁.setTop (mkF m 0 #[.val (.ref a)] []))
  refine Rch.st (fun _ hr => XS.aloadN X0.here hx rfl (hb hby d2_0) rfl rfl hr) ?_
  show Rch p.tables e below _ (s₁.setTop (mkF m 1 #[.val (.ref a)] [(.ref a)]))
  refine own_kI X0 hx hZ (y := Y_12) rfl hown (own_w hw 12 rfl) (own_w hw 13 rfl) (own_w hw 16 rfl) (own_w hw 17 rfl) (by decide) (W := 0) (cacinit l Z a0 hw [] a h0 n0 ) (by decide) (by decide) e0 (by decide) (by decide)  (by rw [hml]; rfl) (a := a) (argsL := []) (rest := []) (lenOf pd_0 rfl) rfl rfl (hb hby d2_1) rfl (fun _ T1 Lc1 X1 hQ1 => ?_)
  obtain ⟨rfl, N1q, e1⟩ := hQ1
  have N1 := Fr.app N0 N1q
  refine Rch.st (fun _ hr => XS.aloadN X1.here hx rfl (hb hby d2_4) rfl rfl hr) ?_
  refine Rch.st (fun _ hr => XS.iconst X1.here hx rfl (hb hby d2_5) hr) ?_
  obtain ⟨T2, h2, X2, e2, W2, st2⟩ := putF X1 hx hZ hown (host := "") (Or.inl (own_w hw 21 rfl)) Via.refl e1 zP4 zP1 (Or.inl (own_w hw 22 rfl)) (own_w hw 1 rfl) (ty := .int) (by decide) rfl rfl (g := (mkF m 6 #[.val (.ref a)] [(.int (0 : Int32)), (.ref a)])) rfl rfl (hb hby d2_6)
  refine Rch.st st2 ?_
  have N2 := Fr.snoc X2 N1 zP5
  have K3 := (Keep.refl h0 [a]).wr W2 (Or.inl (List.mem_of_getElem? (i := 0) rfl))
  have Fw2 := zP4.same W2
  obtain ⟨fs, hr, hrun, hended, hW, hsame⟩ := X2.leave (v := none) (fun _ => rfl)
  have f4 := (zP0.wr W2 zP5)
  have f5 := (zP1.wr W2)
  have f6 := (zP2.other W2 (Or.inr (slot_ne (Or.inl (own_w hw 25 rfl)) (Or.inl (own_w hw 22 rfl)) (by decide) (t := (.array (.object "java/lang/Object"))) (t' := .int) (by decide) (by decide))))
  have f7 := (zP3.other W2 (Or.inr (slot_ne (Or.inl (own_w hw 53 rfl)) (Or.inl (own_w hw 22 rfl)) (by decide) (t := .int) (t' := .int) (by decide) (by decide))))
  refine Rch.fin (u := T2.setFrames fs) (X2.returnOut hx Bd.returns (hb hby d2_9) hr) ⟨_, hrun, hended, _, _, rfl, ?_, ⟨_, rfl⟩, hW, hsame.mono (by decide) (by decide)⟩
  show Q_cabsinit Z a h0 n0 _ T2.heap _
  rw [e2]
  exact ⟨rfl, N2, K3, f4, f5, f6, f7, Fw2⟩
theorem d1_0 : decode jdk_38_method_2_code 0 = .ok (.aload_n 0, 1) := by decide +kernel
theorem d1_1 : decode jdk_38_method_2_code 1 = .ok (.invokespecial 1, 3) := by decide +kernel
abbrev Y_13 : MethodName := ⟨"java/util/AbstractList", "<init>", "()V"⟩
theorem d1_4 : decode jdk_38_method_2_code 4 = .ok (.aload_n 0, 1) := by decide +kernel
theorem d1_5 : decode jdk_38_method_2_code 5 = .ok (.getstatic 39, 3) := by decide +kernel
theorem d1_8 : decode jdk_38_method_2_code 8 = .ok (.putfield 9, 3) := by decide +kernel
theorem d1_11 : decode jdk_38_method_2_code 11 = .ok (.return_, 1) := by decide +kernel
abbrev Rm_calinit : Room := { frames := 3, cells := 0, slots := 0, locals := 36 }
def Q_calinit (Z : State) (a : Addr) (de : Addr) (h0 : Heap) (n0 : Nat) (v : Option Value) (h : Heap) (L : List Loc) : Prop := v = none ∧ Fr n0 L ∧ Keep h0 h [a] ∧ Old Z n0 h ∧ Exa Z h a "java/util/ArrayList" ∧ Fld Z h a "java/util/ArrayList" "elementData" "[Ljava/lang/Object;" (.ref de) ∧ Fld Z h a "java/util/ArrayList" "size" "I" (.int (0 : Int32)) ∧ Fld Z h a "java/util/AbstractList" "modCount" "I" (.int (0 : Int32))
theorem pn_java_util_ArrayList : plainName "java/util/ArrayList" = true := by first | (simp [plainName, overriddenIn]; done) | decide +kernel
theorem ef_calinit (m : MethodId) (a : Addr) (de : Addr) : entryFrame m #[(.ref a)] 1 = mkF m 0 #[.val (.ref a)] [] := by first | (simp [entryFrame, mkF, argsToLocals, Value.category]; done) | rfl
set_option maxRecDepth 65536 in
set_option maxHeartbeats 40000000 in
theorem calinit (l : Launch) (Z : State) (a0 : Array Value) (hw : ∀ d ∈ tables_1, d.before a0 Z = true) (ws : List Jvm.Cond) (a : Addr) (de : Addr) (h0 : Heap) (n0 : Nat) (zD0 : Sta Z Z.heap "java/util/ArrayList" "DEFAULTCAPACITY_EMPTY_ELEMENTDATA" "[Ljava/lang/Object;" (.ref de)) (zP0 : Old Z n0 h0) (zP1 : Exa Z h0 a "java/util/ArrayList") (zP2 : Fld Z h0 a "java/util/ArrayList" "elementData" "[Ljava/lang/Object;" .null) (zP3 : Fld Z h0 a "java/util/ArrayList" "size" "I" (.int (0 : Int32))) (zP4 : Fld Z h0 a "java/util/AbstractList" "modCount" "I" (.int (0 : Int32))) (zP5 : n0 ≤ a) :
    MetFree l (⟨"java/util/ArrayList", "<init>", "()V"⟩ : MethodName) (head1 (Jvm.Cond.code (⟨"java/util/ArrayList", "<init>", "()V"⟩ : MethodName) jdk_38_method_2_code 1 none :: ws) Rm_calinit) (fun aA uU => aA = #[(.ref a)] ∧ Z.Warmed39 uU.vm ∧ uU.heap = h0) (fun _ _ _ _ _ => True) (fun _ uU oO uU' => ∃ vV lL, oO = .returned vV ∧ Q_calinit Z a de h0 n0 vV uU'.heap lL ∧ FrameEnd uU oO uU' lL Rm_calinit.cells Rm_calinit.slots) := by
  refine MetFree.of_bodySF (plainFor_of_name pn_java_util_ArrayList) hisR ?_
  intro p e s m args below meth c s₁ Bd hml0 hP hK
  obtain ⟨rfl, hZ, hh⟩ := hP
  have hx := Bd.exec
  have hby := Bd.bytes
  have hml : c.maxLocals = 1 := hml0
  have hown : s.vm.findClass "java/util/ArrayList" = some m.cls := findClass_of_methodNamed Bd.named
  have hnm := (name_of_methodNamed Bd.named Bd.method).1
  have X0 : Stand p l e Rm_calinit s m #[(.ref a)] below meth c s₁ [] 0 0 := Stand.of_body Bd
  have e0 : s₁.heap = h0 := by rw [← hh, Bd.state]; rfl
  have N0 := Fr.nil n0
  refine Rch.out (Rch.st (fun t k => castTop (ef_calinit m a de) k) ?_)
  show Rch p.tables e below _ (s₁.setTop (mkF m 0 #[.val (.ref a)] []))
  refine Rch.st (fun _ hr => XS.aloadN X0.here hx rfl (hb hby d1_0) rfl rfl hr) ?_
  show Rch p.tables e below _ (s₁.setTop (mkF m 1 #[.val (.ref a)] [(.ref a)]))
  refine own_kI X0 hx hZ (y := Y_13) rfl hown (own_w hw 6 rfl) (own_w hw 7 rfl) (own_w hw 10 rfl) (own_w hw 11 rfl) (by decide) (W := 0) (cabsinit l Z a0 hw [] a h0 n0 zP0 zP1 zP2 zP3 zP4 zP5) (by decide) (by decide) e0 (by decide) (by decide)  (by rw [hml]; rfl) (a := a) (argsL := []) (rest := []) (lenOf pd_0 rfl) rfl rfl (hb hby d1_1) rfl (fun _ T1 Lc1 X1 hQ1 => ?_)
  obtain ⟨rfl, N1q, Kp1, Op1, R1_0, R1_1, R1_2, R1_3⟩ := hQ1
  have N1 := Fr.app N0 N1q
  have K2 := (Keep.refl h0 [a]).trans Kp1 (allS (Or.inl (List.mem_of_getElem? (i := 0) rfl)) all0)
  refine Rch.st (fun _ hr => XS.aloadN X1.here hx rfl (hb hby d1_4) rfl rfl hr) ?_
  obtain ⟨T3, X3, e3, st3⟩ := getS2 X1 hx hZ hown (host := "") (Or.inl (own_w hw 23 rfl)) Via.refl rfl (zD0.ext Op1.2) (g := (mkF m 5 #[.val (.ref a)] [(.ref a)])) rfl (hb hby d1_5)
  refine Rch.st st3 ?_
  obtain ⟨T4, h4, X4, e4, W4, st4⟩ := putF X3 hx hZ hown (host := "") (Or.inl (own_w hw 24 rfl)) Via.refl e3 R1_1 R1_0 (Or.inl (own_w hw 25 rfl)) (own_w hw 1 rfl) (ty := (.array (.object "java/lang/Object"))) (by decide) rfl rfl (g := (mkF m 8 #[.val (.ref a)] [(.ref de), (.ref a)])) rfl rfl (hb hby d1_8)
  refine Rch.st st4 ?_
  have N4 := Fr.snoc X4 N1 zP5
  have K5 := K2.wr W4 (Or.inl (List.mem_of_getElem? (i := 0) rfl))
  have Fw4 := R1_1.same W4
  obtain ⟨fs, hr, hrun, hended, hW, hsame⟩ := X4.leave (v := none) (fun _ => rfl)
  have f6 := (Op1.wr W4 zP5)
  have f7 := (R1_0.wr W4)
  have f8 := (R1_2.other W4 (Or.inr (slot_ne (Or.inl (own_w hw 53 rfl)) (Or.inl (own_w hw 25 rfl)) (by decide) (t := .int) (t' := (.array (.object "java/lang/Object"))) (by decide) (by decide))))
  have f9 := (R1_3.other W4 (Or.inr (slot_ne (Or.inl (own_w hw 22 rfl)) (Or.inl (own_w hw 25 rfl)) (by decide) (t := .int) (t' := (.array (.object "java/lang/Object"))) (by decide) (by decide))))
  refine Rch.fin (u := T4.setFrames fs) (X4.returnOut hx Bd.returns (hb hby d1_11) hr) ⟨_, hrun, hended, _, _, rfl, ?_, ⟨_, rfl⟩, hW, hsame.mono (by decide) (by decide)⟩
  show Q_calinit Z a de h0 n0 _ T4.heap _
  rw [e4]
  exact ⟨rfl, N4, K5, f6, f7, Fw4, f8, f9⟩
theorem d23_0 : decode jdk_29_method_65_code 0 = .ok (.iload_n 0, 1) := by decide +kernel
theorem d23_1 : decode jdk_29_method_65_code 1 = .ok (.iload_n 1, 1) := by decide +kernel
theorem d23_2 : decode jdk_29_method_65_code 2 = .ok (.if_icmp .lt 7, 3) := by decide +kernel
theorem d23_5 : decode jdk_29_method_65_code 5 = .ok (.iload_n 0, 1) := by decide +kernel
theorem d23_6 : decode jdk_29_method_65_code 6 = .ok (.goto 4, 3) := by decide +kernel
theorem d23_10 : decode jdk_29_method_65_code 10 = .ok (.ireturn, 1) := by decide +kernel
abbrev Rm_cmax : Room := { frames := 0, cells := 0, slots := 0, locals := 0 }
def Q_cmax (Z : State)  (h0 : Heap) (n0 : Nat) (v : Option Value) (h : Heap) (L : List Loc) : Prop := v = some (.int (10 : Int32)) ∧ Fr n0 L ∧ h = h0
theorem ef_cmax (m : MethodId)  : entryFrame m #[(.int (10 : Int32)), (.int (1 : Int32))] 2 = mkF m 0 #[.val (.int (10 : Int32)), .val (.int (1 : Int32))] [] := by first | (simp [entryFrame, mkF, argsToLocals, Value.category]; done) | rfl
set_option maxRecDepth 65536 in
set_option maxHeartbeats 40000000 in
theorem cmax (l : Launch) (Z : State) (a0 : Array Value) (hw : ∀ d ∈ tables_1, d.before a0 Z = true) (ws : List Jvm.Cond)  (h0 : Heap) (n0 : Nat) :
    MetFree l (⟨"java/lang/Math", "max", "(II)I"⟩ : MethodName) (head1 (Jvm.Cond.code (⟨"java/lang/Math", "max", "(II)I"⟩ : MethodName) jdk_29_method_65_code 2 (some .int) :: ws) Rm_cmax) (fun aA uU => aA = #[(.int (10 : Int32)), (.int (1 : Int32))] ∧ Z.Warmed39 uU.vm ∧ uU.heap = h0) (fun _ _ _ _ _ => True) (fun _ uU oO uU' => ∃ vV lL, oO = .returned vV ∧ Q_cmax Z  h0 n0 vV uU'.heap lL ∧ FrameEnd uU oO uU' lL Rm_cmax.cells Rm_cmax.slots) := by
  refine MetFree.of_bodySF (Jvm.Free.JP.mathPlain rfl (by decide +kernel)) hisR ?_
  intro p e s m args below meth c s₁ Bd hml0 hP hK
  obtain ⟨rfl, hZ, hh⟩ := hP
  have hx := Bd.exec
  have hby := Bd.bytes
  have hml : c.maxLocals = 2 := hml0
  have hown : s.vm.findClass "java/lang/Math" = some m.cls := findClass_of_methodNamed Bd.named
  have hnm := (name_of_methodNamed Bd.named Bd.method).1
  have X0 : Stand p l e Rm_cmax s m #[(.int (10 : Int32)), (.int (1 : Int32))] below meth c s₁ [] 0 0 := Stand.of_body Bd
  have e0 : s₁.heap = h0 := by rw [← hh, Bd.state]; rfl
  have N0 := Fr.nil n0
  refine Rch.out (Rch.st (fun t k => castTop (ef_cmax m ) k) ?_)
  show Rch p.tables e below _ (s₁.setTop (mkF m 0 #[.val (.int (10 : Int32)), .val (.int (1 : Int32))] []))
  refine Rch.st (fun _ hr => XS.iloadN X0.here hx rfl (hb hby d23_0) rfl hr) ?_
  refine Rch.st (fun _ hr => XS.iloadN X0.here hx rfl (hb hby d23_1) rfl hr) ?_
  refine Rch.st (fun _ hr => XS.icmpNo X0.here hx rfl (hb hby d23_2) rfl (flt (by decide : ¬ ((10 : Int32) < (1 : Int32)))).1 hr) ?_
  refine Rch.st (fun _ hr => XS.iloadN X0.here hx rfl (hb hby d23_5) rfl hr) ?_
  refine Rch.st (fun _ hr => XS.goto X0.here hx rfl (pc0 := 6) (pc' := 10) rfl (hb hby d23_6) (by decide) (by decide) hr) ?_
  obtain ⟨fs, hr, hrun, hended, hW, hsame⟩ := X0.leave (v := some (.int (10 : Int32))) (fun h => by rw [Bd.returns] at h; cases h)
  refine Rch.fin (u := s₁.setFrames fs) (own_retI X0 hx Bd.returns (hb hby d23_10) hr) ⟨_, hrun, hended, _, _, rfl, ?_, ⟨_, rfl⟩, hW, hsame.mono (by decide) (by decide)⟩
  show Q_cmax Z  h0 n0 _ s₁.heap _
  exact ⟨rfl, N0, e0⟩
theorem d22_0 : decode jdk_38_method_6_code 0 = .ok (.aload_n 0, 1) := by decide +kernel
theorem d22_1 : decode jdk_38_method_6_code 1 = .ok (.getfield 9, 3) := by decide +kernel
theorem d22_4 : decode jdk_38_method_6_code 4 = .ok (.arraylength, 1) := by decide +kernel
theorem d22_5 : decode jdk_38_method_6_code 5 = .ok (.istore_n 2, 1) := by decide +kernel
theorem d22_6 : decode jdk_38_method_6_code 6 = .ok (.iload_n 2, 1) := by decide +kernel
theorem d22_7 : decode jdk_38_method_6_code 7 = .ok (.ifCond .gt 13, 3) := by decide +kernel
theorem d22_10 : decode jdk_38_method_6_code 10 = .ok (.aload_n 0, 1) := by decide +kernel
theorem d22_11 : decode jdk_38_method_6_code 11 = .ok (.getfield 9, 3) := by decide +kernel
theorem d22_14 : decode jdk_38_method_6_code 14 = .ok (.getstatic 39, 3) := by decide +kernel
theorem d22_17 : decode jdk_38_method_6_code 17 = .ok (.if_acmp .eq 28, 3) := by decide +kernel
theorem d22_45 : decode jdk_38_method_6_code 45 = .ok (.aload_n 0, 1) := by decide +kernel
theorem d22_46 : decode jdk_38_method_6_code 46 = .ok (.bipush 10, 2) := by decide +kernel
theorem d22_48 : decode jdk_38_method_6_code 48 = .ok (.iload_n 1, 1) := by decide +kernel
theorem d22_49 : decode jdk_38_method_6_code 49 = .ok (.invokestatic 79, 3) := by decide +kernel
theorem pd_12 : parseMethodDescriptor "(II)I" = some ⟨[.int, .int], some .int⟩ := by decide +kernel
abbrev Y_14 : MethodName := ⟨"java/lang/Math", "max", "(II)I"⟩
theorem d22_52 : decode jdk_38_method_6_code 52 = .ok (.anewarray 7, 3) := by decide +kernel
theorem d22_55 : decode jdk_38_method_6_code 55 = .ok (.dup_x1, 1) := by decide +kernel
theorem d22_56 : decode jdk_38_method_6_code 56 = .ok (.putfield 9, 3) := by decide +kernel
theorem d22_59 : decode jdk_38_method_6_code 59 = .ok (.areturn, 1) := by decide +kernel
abbrev Rm_cgrowI : Room := { frames := 1, cells := 1, slots := 10, locals := 14 }
def Q_cgrowI (Z : State) (a : Addr) (de : Addr) (kde : ClassId) (mc : Int32) (h0 : Heap) (n0 : Nat) (v : Option Value) (h : Heap) (L : List Loc) : Prop := ∃ (d : Addr) (kd : ClassId), v = some (.ref d) ∧ Fr n0 L ∧ Keep h0 h [a] ∧ Old Z n0 h ∧ Exa Z h a "java/util/ArrayList" ∧ Fld Z h a "java/util/ArrayList" "elementData" "[Ljava/lang/Object;" (.ref d) ∧ Fld Z h a "java/util/ArrayList" "size" "I" (.int (0 : Int32)) ∧ Fld Z h a "java/util/AbstractList" "modCount" "I" (.int mc) ∧ h0.size ≤ d ∧ Arv Z h d kd (.object "java/lang/Object") (10 : Int32) [.null, .null, .null, .null, .null, .null, .null, .null, .null, .null] .null ∧ Ovr Z kd "java/lang/Object"
theorem ef_cgrowI (m : MethodId) (a : Addr) (de : Addr) (kde : ClassId) (mc : Int32) : entryFrame m #[(.ref a), (.int (1 : Int32))] 4 = mkF m 0 #[.val (.ref a), .val (.int (1 : Int32)), .unset, .unset] [] := by first | (simp [entryFrame, mkF, argsToLocals, Value.category]; done) | rfl
set_option maxRecDepth 65536 in
set_option maxHeartbeats 40000000 in
theorem cgrowI (l : Launch) (Z : State) (a0 : Array Value) (hw : ∀ d ∈ tables_1, d.before a0 Z = true) (ws : List Jvm.Cond) (a : Addr) (de : Addr) (kde : ClassId) (mc : Int32) (h0 : Heap) (n0 : Nat) (zD0 : Sta Z Z.heap "java/util/ArrayList" "DEFAULTCAPACITY_EMPTY_ELEMENTDATA" "[Ljava/lang/Object;" (.ref de)) (zD1 : Arv Z Z.heap de kde (.object "java/lang/Object") (0 : Int32) [] .null) (zP0 : Old Z n0 h0) (zP1 : Exa Z h0 a "java/util/ArrayList") (zP2 : Fld Z h0 a "java/util/ArrayList" "elementData" "[Ljava/lang/Object;" (.ref de)) (zP3 : Fld Z h0 a "java/util/ArrayList" "size" "I" (.int (0 : Int32))) (zP4 : Fld Z h0 a "java/util/AbstractList" "modCount" "I" (.int mc)) (zP5 : n0 ≤ a) :
    MetFree l (⟨"java/util/ArrayList", "grow", "(I)[Ljava/lang/Object;"⟩ : MethodName) (head1 (Jvm.Cond.code (⟨"java/util/ArrayList", "grow", "(I)[Ljava/lang/Object;"⟩ : MethodName) jdk_38_method_6_code 4 (some (.array (.object "java/lang/Object"))) :: ws) Rm_cgrowI) (fun aA uU => aA = #[(.ref a), (.int (1 : Int32))] ∧ Z.Warmed39 uU.vm ∧ uU.heap = h0) (fun _ _ _ _ _ => True) (fun _ uU oO uU' => ∃ vV lL, oO = .returned vV ∧ Q_cgrowI Z a de kde mc h0 n0 vV uU'.heap lL ∧ FrameEnd uU oO uU' lL Rm_cgrowI.cells Rm_cgrowI.slots) := by
  refine MetFree.of_bodySF (plainFor_of_name pn_java_util_ArrayList) hisR ?_
  intro p e s m args below meth c s₁ Bd hml0 hP hK
  obtain ⟨rfl, hZ, hh⟩ := hP
  have hx := Bd.exec
  have hby := Bd.bytes
  have hml : c.maxLocals = 4 := hml0
  have hown : s.vm.findClass "java/util/ArrayList" = some m.cls := findClass_of_methodNamed Bd.named
  have hnm := (name_of_methodNamed Bd.named Bd.method).1
  have X0 : Stand p l e Rm_cgrowI s m #[(.ref a), (.int (1 : Int32))] below meth c s₁ [] 0 0 := Stand.of_body Bd
  have e0 : s₁.heap = h0 := by rw [← hh, Bd.state]; rfl
  have N0 := Fr.nil n0
  refine Rch.out (Rch.st (fun t k => castTop (ef_cgrowI m a de kde mc) k) ?_)
  show Rch p.tables e below _ (s₁.setTop (mkF m 0 #[.val (.ref a), .val (.int (1 : Int32)), .unset, .unset] []))
  refine Rch.st (fun _ hr => XS.aloadN X0.here hx rfl (hb hby d22_0) rfl rfl hr) ?_
  obtain ⟨T1, X1, e1, st1⟩ := getF X0 hx hZ hown (host := "") (Or.inl (own_w hw 24 rfl)) Via.refl e0 zP2 (g := (mkF m 1 #[.val (.ref a), .val (.int (1 : Int32)), .unset, .unset] [(.ref a)])) rfl rfl (hb hby d22_1)
  refine Rch.st st1 ?_
  obtain ⟨cl2, Ar2, -, Sz2, Ng2, -, -⟩ := id (zD1.ext zP0.2)
  refine Rch.st (fun t hr => X1.arraylength hx (by rw [e1]; exact Ar2.1) (State.isArrayOf_alike hZ.alike Ar2.2.1) (g := (mkF m 4 #[.val (.ref a), .val (.int (1 : Int32)), .unset, .unset] [(.ref de)])) rfl rfl (hb hby d22_4) t hr) ?_
  rw [len_of Sz2 Ng2]
  refine Rch.st (fun _ hr => XS.istoreN X1.here hx rfl (hb hby d22_5) rfl (l' := #[.val (.ref a), .val (.int (1 : Int32)), .val (.int (0 : Int32)), .unset]) rfl hr) ?_
  refine Rch.st (fun _ hr => XS.iloadN X1.here hx rfl (hb hby d22_6) rfl hr) ?_
  refine Rch.st (fun _ hr => XS.ifNo X1.here hx rfl (hb hby d22_7) rfl ((if0 _ _).trans (flt (by decide : ¬ ((0 : Int32) < (0 : Int32)))).2.2.1) hr) ?_
  show Rch p.tables e below _ (T1.setTop (mkF m 10 #[.val (.ref a), .val (.int (1 : Int32)), .val (.int (0 : Int32)), .unset] []))
  refine Rch.st (fun _ hr => XS.aloadN X1.here hx rfl (hb hby d22_10) rfl rfl hr) ?_
  obtain ⟨T3, X3, e3, st3⟩ := getF X1 hx hZ hown (host := "") (Or.inl (own_w hw 24 rfl)) Via.refl e1 zP2 (g := (mkF m 11 #[.val (.ref a), .val (.int (1 : Int32)), .val (.int (0 : Int32)), .unset] [(.ref a)])) rfl rfl (hb hby d22_11)
  refine Rch.st st3 ?_
  obtain ⟨T4, X4, e4, st4⟩ := getS2 X3 hx hZ hown (host := "") (Or.inl (own_w hw 23 rfl)) Via.refl e3 (zD0.ext zP0.2) (g := (mkF m 14 #[.val (.ref a), .val (.int (1 : Int32)), .val (.int (0 : Int32)), .unset] [(.ref de)])) rfl (hb hby d22_14)
  refine Rch.st st4 ?_
  refine Rch.st (fun _ hr => Jvm.RoadKit.acmp (g := (mkF m 17 #[.val (.ref a), .val (.int (1 : Int32)), .val (.int (0 : Int32)), .unset] [(.ref de), (.ref de)])) X4 hx rfl rfl rfl (pc0 := 17) (pc' := 45) (same := true) rfl (hb hby d22_17) rfl (decide_eq_true rfl) (by decide) (by decide) hr) ?_
  refine Rch.st (fun _ hr => XS.aloadN X4.here hx rfl (hb hby d22_45) rfl rfl hr) ?_
  refine Rch.st (fun _ hr => XS.bipush X4.here hx rfl (hb hby d22_46) hr) ?_
  show Rch p.tables e below _ (T4.setTop (mkF m 48 #[.val (.ref a), .val (.int (1 : Int32)), .val (.int (0 : Int32)), .unset] [(.int (10 : Int32)), (.ref a)]))
  refine Rch.st (fun _ hr => XS.iloadN X4.here hx rfl (hb hby d22_48) rfl hr) ?_
  show Rch p.tables e below _ (T4.setTop (mkF m 49 #[.val (.ref a), .val (.int (1 : Int32)), .val (.int (0 : Int32)), .unset] [(.int (1 : Int32)), (.int (10 : Int32)), (.ref a)]))
  refine own_kS X4 hx hZ (y := Y_14) hown (own_w hw 159 rfl) (own_w hw 160 rfl) (own_w hw 161 rfl) (own_w hw 162 rfl) (by decide) (W := 1) (cmax l Z a0 hw []  h0 n0 ) (by decide) (by decide) e4 (by decide) (by decide)  (by rw [hml]; rfl) (argsL := [(.int (10 : Int32)), (.int (1 : Int32))]) (rest := [(.ref a)]) (lenOf pd_12 rfl) rfl rfl (hb hby d22_49) rfl (fun _ T5 Lc5 X5 hQ5 => ?_)
  obtain ⟨rfl, N5q, e5⟩ := hQ5
  have N5 := Fr.app N0 N5q
  obtain ⟨T6, h6, k6, X6, e6, E6, A6, O6, st6⟩ := newR X5 hx hZ hown (own_w hw 163 rfl) (own_w hw 164 rfl) e5 (g := (mkF m 52 #[.val (.ref a), .val (.int (1 : Int32)), .val (.int (0 : Int32)), .unset] [(.int (10 : Int32)), (.ref a)])) rfl (hb hby d22_52) rfl (by decide) (cap := 10) (by decide) (by decide) (by decide) (by decide)
  obtain ⟨b6, g6⟩ : ∃ z, z = h0.size := ⟨_, rfl⟩
  rw [← g6] at A6 st6
  refine Rch.st st6 ?_
  have q6 : h0.size ≤ b6 := Nat.le_of_eq g6.symm
  have ne7 := Nat.ne_of_lt (Nat.lt_of_lt_of_le zP4.lt q6)
  have g_b6 : n0 ≤ b6 := Nat.le_trans (Nat.le_trans (Nat.le_of_eq zP0.1.symm) zP0.2.1) q6
  have sz_b6 : h0.size ≤ b6 := Nat.le_trans (Keep.refl h0 [a]).1 q6
  have K8 := (Keep.refl h0 [a]).ext E6
  have V6 : Arv Z h6 b6 k6 (.object "java/lang/Object") (10 : Int32) [.null, .null, .null, .null, .null, .null, .null, .null, .null, .null] .null := (Arv.new A6 (by decide)).pad (pad_rep [] .null 10)
  refine Rch.st (fun _ hr => XS.dupX1 X6.here hx rfl (hb hby d22_55) rfl rfl rfl hr) ?_
  have f9 := (zP2.ext E6)
  have f10 := (zP1.ext E6)
  obtain ⟨T11, h11, X11, e11, W11, st11⟩ := putF X6 hx hZ hown (host := "") (Or.inl (own_w hw 24 rfl)) Via.refl e6 f9 f10 (Or.inl (own_w hw 25 rfl)) (own_w hw 1 rfl) (ty := (.array (.object "java/lang/Object"))) (by decide) rfl rfl (g := (mkF m 56 #[.val (.ref a), .val (.int (1 : Int32)), .val (.int (0 : Int32)), .unset] [(.ref b6), (.ref a), (.ref b6)])) rfl rfl (hb hby d22_56)
  refine Rch.st st11 ?_
  have N11 := Fr.snoc X11 N5 zP5
  have f12 := (zP0.ext E6)
  have K13 := K8.wr W11 (Or.inl (List.mem_of_getElem? (i := 0) rfl))
  have Fw11 := f9.same W11
  obtain ⟨fs, hr, hrun, hended, hW, hsame⟩ := X11.leave (v := some (.ref b6)) (fun h => by rw [Bd.returns] at h; cases h)
  have f14 := (f12.wr W11 zP5)
  have f15 := (f10.wr W11)
  have f16 := ((zP3.ext E6).other W11 (Or.inr (slot_ne (Or.inl (own_w hw 53 rfl)) (Or.inl (own_w hw 25 rfl)) (by decide) (t := .int) (t' := (.array (.object "java/lang/Object"))) (by decide) (by decide))))
  have f17 := ((zP4.ext E6).other W11 (Or.inr (slot_ne (Or.inl (own_w hw 22 rfl)) (Or.inl (own_w hw 25 rfl)) (by decide) (t := .int) (t' := (.array (.object "java/lang/Object"))) (by decide) (by decide))))
  have f18 := (V6.other W11 (Ne.symm ne7))
  have f19 := O6
  refine Rch.fin (u := T11.setFrames fs) (own_retA X11 hx Bd.returns rfl rfl rfl (hb hby d22_59) hr) ⟨_, hrun, hended, _, _, rfl, ?_, ⟨_, rfl⟩, hW, hsame.mono (by decide) (by decide)⟩
  show Q_cgrowI Z a de kde mc h0 n0 _ T11.heap _
  rw [e11]
  exact ⟨b6, k6, rfl, N11, K13, f14, f15, Fw11, f16, f17, sz_b6, f18, f19⟩
theorem d21_0 : decode jdk_38_method_7_code 0 = .ok (.aload_n 0, 1) := by decide +kernel
theorem d21_1 : decode jdk_38_method_7_code 1 = .ok (.aload_n 0, 1) := by decide +kernel
theorem d21_2 : decode jdk_38_method_7_code 2 = .ok (.getfield 48, 3) := by decide +kernel
theorem d21_5 : decode jdk_38_method_7_code 5 = .ok (.iconst 1, 1) := by decide +kernel
theorem d21_6 : decode jdk_38_method_7_code 6 = .ok (.iadd, 1) := by decide +kernel
theorem d21_7 : decode jdk_38_method_7_code 7 = .ok (.invokevirtual 69, 3) := by decide +kernel
theorem pd_13 : parseMethodDescriptor "(I)[Ljava/lang/Object;" = some ⟨[.int], some (.array (.object "java/lang/Object"))⟩ := by decide +kernel
abbrev Y_15 : MethodName := ⟨"java/util/ArrayList", "grow", "(I)[Ljava/lang/Object;"⟩
theorem d21_10 : decode jdk_38_method_7_code 10 = .ok (.areturn, 1) := by decide +kernel
abbrev Rm_cgrow : Room := { frames := 2, cells := 1, slots := 10, locals := 29 }
def Q_cgrow (Z : State) (a : Addr) (de : Addr) (kde : ClassId) (mc : Int32) (h0 : Heap) (n0 : Nat) (v : Option Value) (h : Heap) (L : List Loc) : Prop := ∃ (d : Addr) (kd : ClassId), v = some (.ref d) ∧ Fr n0 L ∧ Keep h0 h [a] ∧ Old Z n0 h ∧ Exa Z h a "java/util/ArrayList" ∧ Fld Z h a "java/util/ArrayList" "elementData" "[Ljava/lang/Object;" (.ref d) ∧ Fld Z h a "java/util/ArrayList" "size" "I" (.int (0 : Int32)) ∧ Fld Z h a "java/util/AbstractList" "modCount" "I" (.int mc) ∧ h0.size ≤ d ∧ Arv Z h d kd (.object "java/lang/Object") (10 : Int32) [.null, .null, .null, .null, .null, .null, .null, .null, .null, .null] .null ∧ Ovr Z kd "java/lang/Object"
theorem ef_cgrow (m : MethodId) (a : Addr) (de : Addr) (kde : ClassId) (mc : Int32) : entryFrame m #[(.ref a)] 1 = mkF m 0 #[.val (.ref a)] [] := by first | (simp [entryFrame, mkF, argsToLocals, Value.category]; done) | rfl
set_option maxRecDepth 65536 in
set_option maxHeartbeats 40000000 in
theorem cgrow (l : Launch) (Z : State) (a0 : Array Value) (hw : ∀ d ∈ tables_1, d.before a0 Z = true) (ws : List Jvm.Cond) (a : Addr) (de : Addr) (kde : ClassId) (mc : Int32) (h0 : Heap) (n0 : Nat) (zD0 : Sta Z Z.heap "java/util/ArrayList" "DEFAULTCAPACITY_EMPTY_ELEMENTDATA" "[Ljava/lang/Object;" (.ref de)) (zD1 : Arv Z Z.heap de kde (.object "java/lang/Object") (0 : Int32) [] .null) (zP0 : Old Z n0 h0) (zP1 : Exa Z h0 a "java/util/ArrayList") (zP2 : Fld Z h0 a "java/util/ArrayList" "elementData" "[Ljava/lang/Object;" (.ref de)) (zP3 : Fld Z h0 a "java/util/ArrayList" "size" "I" (.int (0 : Int32))) (zP4 : Fld Z h0 a "java/util/AbstractList" "modCount" "I" (.int mc)) (zP5 : n0 ≤ a) :
    MetFree l (⟨"java/util/ArrayList", "grow", "()[Ljava/lang/Object;"⟩ : MethodName) (head1 (Jvm.Cond.code (⟨"java/util/ArrayList", "grow", "()[Ljava/lang/Object;"⟩ : MethodName) jdk_38_method_7_code 1 (some (.array (.object "java/lang/Object"))) :: ws) Rm_cgrow) (fun aA uU => aA = #[(.ref a)] ∧ Z.Warmed39 uU.vm ∧ uU.heap = h0) (fun _ _ _ _ _ => True) (fun _ uU oO uU' => ∃ vV lL, oO = .returned vV ∧ Q_cgrow Z a de kde mc h0 n0 vV uU'.heap lL ∧ FrameEnd uU oO uU' lL Rm_cgrow.cells Rm_cgrow.slots) := by
  refine MetFree.of_bodySF (plainFor_of_name pn_java_util_ArrayList) hisR ?_
  intro p e s m args below meth c s₁ Bd hml0 hP hK
  obtain ⟨rfl, hZ, hh⟩ := hP
  have hx := Bd.exec
  have hby := Bd.bytes
  have hml : c.maxLocals = 1 := hml0
  have hown : s.vm.findClass "java/util/ArrayList" = some m.cls := findClass_of_methodNamed Bd.named
  have hnm := (name_of_methodNamed Bd.named Bd.method).1
  have X0 : Stand p l e Rm_cgrow s m #[(.ref a)] below meth c s₁ [] 0 0 := Stand.of_body Bd
  have e0 : s₁.heap = h0 := by rw [← hh, Bd.state]; rfl
  have N0 := Fr.nil n0
  refine Rch.out (Rch.st (fun t k => castTop (ef_cgrow m a de kde mc) k) ?_)
  show Rch p.tables e below _ (s₁.setTop (mkF m 0 #[.val (.ref a)] []))
  refine Rch.st (fun _ hr => XS.aloadN X0.here hx rfl (hb hby d21_0) rfl rfl hr) ?_
  refine Rch.st (fun _ hr => XS.aloadN X0.here hx rfl (hb hby d21_1) rfl rfl hr) ?_
  obtain ⟨T1, X1, e1, st1⟩ := getF X0 hx hZ hown (host := "") (Or.inl (own_w hw 52 rfl)) Via.refl e0 zP3 (g := (mkF m 2 #[.val (.ref a)] [(.ref a), (.ref a)])) rfl rfl (hb hby d21_2)
  refine Rch.st st1 ?_
  refine Rch.st (fun _ hr => XS.iconst X1.here hx rfl (hb hby d21_5) hr) ?_
  refine Rch.st (fun _ hr => XS.iadd X1.here hx rfl (hb hby d21_6) rfl hr) ?_
  obtain ⟨_, T2, Lc2, X2, hQ2, st2⟩ := own_callP X1 hx hZ (y := Y_15) hown (own_w hw 154 rfl) (own_w hw 155 rfl) (own_w hw 157 rfl) (own_w hw 156 rfl) (own_w hw 2 rfl) (own_w hw 158 rfl) (by decide) (W := 0) (cgrowI l Z a0 hw [] a de kde mc h0 n0 zD0 zD1 zP0 zP1 zP2 zP3 zP4 zP5) (by decide) (by decide) e1 zP1 (by decide) (by decide) (g := (mkF m 7 #[.val (.ref a)] [(.int (1 : Int32)), (.ref a)])) rfl (by rw [hml]; rfl) (argsL := [(.int (1 : Int32))]) (rest := []) (lenOf pd_13 rfl) rfl (own_mr rfl rfl) (hb hby d21_7) rfl
  obtain ⟨d_2, kd_2, rfl, N2q, Kp2, Op2, R2_0, R2_1, R2_2, R2_3, R2_4, R2_5, R2_6⟩ := hQ2
  have N2 := Fr.app N0 N2q
  refine Rch.st st2 ?_
  have ne3 := Nat.ne_of_lt (Nat.lt_of_lt_of_le zP4.lt R2_4)
  have g_d_2 : n0 ≤ d_2 := Nat.le_trans (Nat.le_trans (Nat.le_of_eq zP0.1.symm) zP0.2.1) R2_4
  have sz_d_2 : h0.size ≤ d_2 := Nat.le_trans (Keep.refl h0 [a]).1 R2_4
  have K4 := (Keep.refl h0 [a]).trans Kp2 (allS (Or.inl (List.mem_of_getElem? (i := 0) rfl)) all0)
  show Rch p.tables e below _ (T2.setTop (mkF m 10 #[.val (.ref a)] [(.ref d_2)]))
  obtain ⟨fs, hr, hrun, hended, hW, hsame⟩ := X2.leave (v := some (.ref d_2)) (fun h => by rw [Bd.returns] at h; cases h)
  refine Rch.fin (u := T2.setFrames fs) (own_retA X2 hx Bd.returns rfl rfl rfl (hb hby d21_10) hr) ⟨_, hrun, hended, _, _, rfl, ?_, ⟨_, rfl⟩, hW, hsame.mono (by decide) (by decide)⟩
  show Q_cgrow Z a de kde mc h0 n0 _ T2.heap _
  exact ⟨d_2, kd_2, rfl, N2, K4, Op2, R2_0, R2_1, R2_2, R2_3, sz_d_2, R2_5, R2_6⟩
theorem d20_0 : decode jdk_38_method_24_code 0 = .ok (.iload_n 3, 1) := by decide +kernel
theorem d20_1 : decode jdk_38_method_24_code 1 = .ok (.aload_n 2, 1) := by decide +kernel
theorem d20_2 : decode jdk_38_method_24_code 2 = .ok (.arraylength, 1) := by decide +kernel
theorem d20_3 : decode jdk_38_method_24_code 3 = .ok (.if_icmp .ne 8, 3) := by decide +kernel
theorem d20_6 : decode jdk_38_method_24_code 6 = .ok (.aload_n 0, 1) := by decide +kernel
theorem d20_7 : decode jdk_38_method_24_code 7 = .ok (.invokevirtual 129, 3) := by decide +kernel
theorem pd_14 : parseMethodDescriptor "()[Ljava/lang/Object;" = some ⟨[], some (.array (.object "java/lang/Object"))⟩ := by decide +kernel
abbrev Y_16 : MethodName := ⟨"java/util/ArrayList", "grow", "()[Ljava/lang/Object;"⟩
theorem d20_10 : decode jdk_38_method_24_code 10 = .ok (.astore_n 2, 1) := by decide +kernel
theorem d20_11 : decode jdk_38_method_24_code 11 = .ok (.aload_n 2, 1) := by decide +kernel
theorem d20_12 : decode jdk_38_method_24_code 12 = .ok (.iload_n 3, 1) := by decide +kernel
theorem d20_13 : decode jdk_38_method_24_code 13 = .ok (.aload_n 1, 1) := by decide +kernel
theorem d20_14 : decode jdk_38_method_24_code 14 = .ok (.aastore, 1) := by decide +kernel
theorem d20_15 : decode jdk_38_method_24_code 15 = .ok (.aload_n 0, 1) := by decide +kernel
theorem d20_16 : decode jdk_38_method_24_code 16 = .ok (.iload_n 3, 1) := by decide +kernel
theorem d20_17 : decode jdk_38_method_24_code 17 = .ok (.iconst 1, 1) := by decide +kernel
theorem d20_18 : decode jdk_38_method_24_code 18 = .ok (.iadd, 1) := by decide +kernel
theorem d20_19 : decode jdk_38_method_24_code 19 = .ok (.putfield 48, 3) := by decide +kernel
theorem d20_22 : decode jdk_38_method_24_code 22 = .ok (.return_, 1) := by decide +kernel
abbrev Rm_caddp0 : Room := { frames := 3, cells := 1, slots := 10, locals := 41 }
def Q_caddp0 (Z : State) (a : Addr) (de : Addr) (kde : ClassId) (mc : Int32) (ea : Addr) (h0 : Heap) (n0 : Nat) (v : Option Value) (h : Heap) (L : List Loc) : Prop := ∃ (d : Addr) (kd : ClassId), v = none ∧ Fr n0 L ∧ Keep h0 h [a] ∧ Old Z n0 h ∧ Exa Z h a "java/util/ArrayList" ∧ Fld Z h a "java/util/ArrayList" "elementData" "[Ljava/lang/Object;" (.ref d) ∧ Fld Z h a "java/util/ArrayList" "size" "I" (.int (1 : Int32)) ∧ Fld Z h a "java/util/AbstractList" "modCount" "I" (.int mc) ∧ h0.size ≤ d ∧ Arv Z h d kd (.object "java/lang/Object") (10 : Int32) [(.ref ea), .null, .null, .null, .null, .null, .null, .null, .null, .null] .null ∧ Ovr Z kd "java/lang/Object"
theorem ef_caddp0 (m : MethodId) (a : Addr) (de : Addr) (kde : ClassId) (mc : Int32) (ea : Addr) : entryFrame m #[(.ref a), (.ref ea), (.ref de), (.int (0 : Int32))] 4 = mkF m 0 #[.val (.ref a), .val (.ref ea), .val (.ref de), .val (.int (0 : Int32))] [] := by first | (simp [entryFrame, mkF, argsToLocals, Value.category]; done) | rfl
set_option maxRecDepth 65536 in
set_option maxHeartbeats 40000000 in
theorem caddp0 (l : Launch) (Z : State) (a0 : Array Value) (hw : ∀ d ∈ tables_1, d.before a0 Z = true) (ws : List Jvm.Cond) (a : Addr) (de : Addr) (kde : ClassId) (mc : Int32) (ea : Addr) (h0 : Heap) (n0 : Nat) (zD0 : Sta Z Z.heap "java/util/ArrayList" "DEFAULTCAPACITY_EMPTY_ELEMENTDATA" "[Ljava/lang/Object;" (.ref de)) (zD1 : Arv Z Z.heap de kde (.object "java/lang/Object") (0 : Int32) [] .null) (zP0 : Old Z n0 h0) (zP1 : Exa Z h0 a "java/util/ArrayList") (zP2 : Fld Z h0 a "java/util/ArrayList" "elementData" "[Ljava/lang/Object;" (.ref de)) (zP3 : Fld Z h0 a "java/util/ArrayList" "size" "I" (.int (0 : Int32))) (zP4 : Fld Z h0 a "java/util/AbstractList" "modCount" "I" (.int mc)) (zP5 : Exa Z h0 ea "com/example/slotwright/slotwright/Market$Advertiser") (zP6 : n0 ≤ a) (zP7 : a ≠ ea) :
    MetFree l (⟨"java/util/ArrayList", "add", "(Ljava/lang/Object;[Ljava/lang/Object;I)V"⟩ : MethodName) (head1 (Jvm.Cond.code (⟨"java/util/ArrayList", "add", "(Ljava/lang/Object;[Ljava/lang/Object;I)V"⟩ : MethodName) jdk_38_method_24_code 4 none :: ws) Rm_caddp0) (fun aA uU => aA = #[(.ref a), (.ref ea), (.ref de), (.int (0 : Int32))] ∧ Z.Warmed39 uU.vm ∧ uU.heap = h0) (fun _ _ _ _ _ => True) (fun _ uU oO uU' => ∃ vV lL, oO = .returned vV ∧ Q_caddp0 Z a de kde mc ea h0 n0 vV uU'.heap lL ∧ FrameEnd uU oO uU' lL Rm_caddp0.cells Rm_caddp0.slots) := by
  refine MetFree.of_bodySF (plainFor_of_name pn_java_util_ArrayList) hisR ?_
  intro p e s m args below meth c s₁ Bd hml0 hP hK
  obtain ⟨rfl, hZ, hh⟩ := hP
  have hx := Bd.exec
  have hby := Bd.bytes
  have hml : c.maxLocals = 4 := hml0
  have hown : s.vm.findClass "java/util/ArrayList" = some m.cls := findClass_of_methodNamed Bd.named
  have hnm := (name_of_methodNamed Bd.named Bd.method).1
  have X0 : Stand p l e Rm_caddp0 s m #[(.ref a), (.ref ea), (.ref de), (.int (0 : Int32))] below meth c s₁ [] 0 0 := Stand.of_body Bd
  have e0 : s₁.heap = h0 := by rw [← hh, Bd.state]; rfl
  have N0 := Fr.nil n0
  refine Rch.out (Rch.st (fun t k => castTop (ef_caddp0 m a de kde mc ea) k) ?_)
  show Rch p.tables e below _ (s₁.setTop (mkF m 0 #[.val (.ref a), .val (.ref ea), .val (.ref de), .val (.int (0 : Int32))] []))
  refine Rch.st (fun _ hr => XS.iloadN X0.here hx rfl (hb hby d20_0) rfl hr) ?_
  refine Rch.st (fun _ hr => XS.aloadN X0.here hx rfl (hb hby d20_1) rfl rfl hr) ?_
  obtain ⟨cl1, Ar1, -, Sz1, Ng1, -, -⟩ := id (zD1.ext zP0.2)
  refine Rch.st (fun t hr => X0.arraylength hx (by rw [e0]; exact Ar1.1) (State.isArrayOf_alike hZ.alike Ar1.2.1) (g := (mkF m 2 #[.val (.ref a), .val (.ref ea), .val (.ref de), .val (.int (0 : Int32))] [(.ref de), (.int (0 : Int32))])) rfl rfl (hb hby d20_2) t hr) ?_
  rw [len_of Sz1 Ng1]
  refine Rch.st (fun _ hr => XS.icmpNo X0.here hx rfl (hb hby d20_3) rfl (teq (by decide : (0 : Int32) = (0 : Int32))).2 hr) ?_
  refine Rch.st (fun _ hr => XS.aloadN X0.here hx rfl (hb hby d20_6) rfl rfl hr) ?_
  obtain ⟨_, T2, Lc2, X2, hQ2, st2⟩ := own_callP X0 hx hZ (y := Y_16) hown (own_w hw 149 rfl) (own_w hw 150 rfl) (own_w hw 152 rfl) (own_w hw 151 rfl) (own_w hw 2 rfl) (own_w hw 153 rfl) (by decide) (W := 0) (cgrow l Z a0 hw [] a de kde mc h0 n0 zD0 zD1 zP0 zP1 zP2 zP3 zP4 zP6) (by decide) (by decide) e0 zP1 (by decide) (by decide) (g := (mkF m 7 #[.val (.ref a), .val (.ref ea), .val (.ref de), .val (.int (0 : Int32))] [(.ref a)])) rfl (by rw [hml]; rfl) (argsL := []) (rest := []) (lenOf pd_14 rfl) rfl (own_mr rfl rfl) (hb hby d20_7) rfl
  obtain ⟨d_2, kd_2, rfl, N2q, Kp2, Op2, R2_0, R2_1, R2_2, R2_3, R2_4, R2_5, R2_6⟩ := hQ2
  have N2 := Fr.app N0 N2q
  refine Rch.st st2 ?_
  have ne3 := Nat.ne_of_lt (Nat.lt_of_lt_of_le zP4.lt R2_4)
  have ne4 := Nat.ne_of_lt (Nat.lt_of_lt_of_le zP5.lt R2_4)
  have g_d_2 : n0 ≤ d_2 := Nat.le_trans (Nat.le_trans (Nat.le_of_eq zP0.1.symm) zP0.2.1) R2_4
  have sz_d_2 : h0.size ≤ d_2 := Nat.le_trans (Keep.refl h0 [a]).1 R2_4
  have K5 := (Keep.refl h0 [a]).trans Kp2 (allS (Or.inl (List.mem_of_getElem? (i := 0) rfl)) all0)
  show Rch p.tables e below _ (T2.setTop (mkF m 10 #[.val (.ref a), .val (.ref ea), .val (.ref de), .val (.int (0 : Int32))] [(.ref d_2)]))
  refine Rch.st (fun _ hr => XS.astoreN X2.here hx rfl (hb hby d20_10) rfl rfl (l' := #[.val (.ref a), .val (.ref ea), .val (.ref d_2), .val (.int (0 : Int32))]) rfl hr) ?_
  refine Rch.st (fun _ hr => XS.aloadN X2.here hx rfl (hb hby d20_11) rfl rfl hr) ?_
  refine Rch.st (fun _ hr => XS.iloadN X2.here hx rfl (hb hby d20_12) rfl hr) ?_
  refine Rch.st (fun _ hr => XS.aloadN X2.here hx rfl (hb hby d20_13) rfl rfl hr) ?_
  obtain ⟨cl6, Ar6, qk6, Sz6, Ng6, Ha6, Gf6⟩ := id R2_5
  have hin6 := inb_of (j := (0 : Int32)) Sz6 ⟨by decide, by decide⟩
  have f7 := (zP5.keep Kp2)
  obtain ⟨T8, h8, X8, e8, W8, st8⟩ := stR X2 hx hZ rfl Ar6 (j := (0 : Int32)) hin6 rfl (Sto.ofV Ar6 qk6 R2_6 (Ins.of_exa f7 (own_w hw 165 rfl))) (g := (mkF m 14 #[.val (.ref a), .val (.ref ea), .val (.ref d_2), .val (.int (0 : Int32))] [(.ref ea), (.int (0 : Int32)), (.ref d_2)])) rfl rfl (hb hby d20_14)
  refine Rch.st st8 ?_
  have N8 := Fr.snoc X8 N2 g_d_2
  have K9 := K5.wr W8 (Or.inr sz_d_2)
  have V8 : Arv Z h8 d_2 kd_2 (.object "java/lang/Object") (10 : Int32) [(.ref ea), .null, .null, .null, .null, .null, .null, .null, .null, .null] .null := Arv.set Ar6 qk6 Sz6 Ng6 Ha6 Gf6 rfl W8 0 rfl (Nat.le_of_ble_eq_true rfl)
  refine Rch.st (fun _ hr => XS.aloadN X8.here hx rfl (hb hby d20_15) rfl rfl hr) ?_
  show Rch p.tables e below _ (T8.setTop (mkF m 16 #[.val (.ref a), .val (.ref ea), .val (.ref d_2), .val (.int (0 : Int32))] [(.ref a)]))
  refine Rch.st (fun _ hr => XS.iloadN X8.here hx rfl (hb hby d20_16) rfl hr) ?_
  refine Rch.st (fun _ hr => XS.iconst X8.here hx rfl (hb hby d20_17) hr) ?_
  refine Rch.st (fun _ hr => XS.iadd X8.here hx rfl (hb hby d20_18) rfl hr) ?_
  have f10 := (R2_2.other W8 (Or.inl ne3))
  have f11 := (R2_0.wr W8)
  obtain ⟨T12, h12, X12, e12, W12, st12⟩ := putF X8 hx hZ hown (host := "") (Or.inl (own_w hw 52 rfl)) Via.refl e8 f10 f11 (Or.inl (own_w hw 53 rfl)) (own_w hw 1 rfl) (ty := .int) (by decide) rfl rfl (g := (mkF m 19 #[.val (.ref a), .val (.ref ea), .val (.ref d_2), .val (.int (0 : Int32))] [(.int (1 : Int32)), (.ref a)])) rfl rfl (hb hby d20_19)
  refine Rch.st st12 ?_
  have N12 := Fr.snoc X12 N8 zP6
  have f13 := (Op2.wr W8 g_d_2)
  have K14 := K9.wr W12 (Or.inl (List.mem_of_getElem? (i := 0) rfl))
  have Fw12 := f10.same W12
  obtain ⟨fs, hr, hrun, hended, hW, hsame⟩ := X12.leave (v := none) (fun _ => rfl)
  have f15 := (f13.wr W12 zP6)
  have f16 := (f11.wr W12)
  have f17 := ((R2_1.other W8 (Or.inl ne3)).other W12 (Or.inr (slot_ne (Or.inl (own_w hw 25 rfl)) (Or.inl (own_w hw 53 rfl)) (by decide) (t := (.array (.object "java/lang/Object"))) (t' := .int) (by decide) (by decide))))
  have f18 := ((R2_3.other W8 (Or.inl ne3)).other W12 (Or.inr (slot_ne (Or.inl (own_w hw 22 rfl)) (Or.inl (own_w hw 53 rfl)) (by decide) (t := .int) (t' := .int) (by decide) (by decide))))
  have f19 := (V8.other W12 (Ne.symm ne3))
  have f20 := R2_6
  refine Rch.fin (u := T12.setFrames fs) (X12.returnOut hx Bd.returns (hb hby d20_22) hr) ⟨_, hrun, hended, _, _, rfl, ?_, ⟨_, rfl⟩, hW, hsame.mono (by decide) (by decide)⟩
  show Q_caddp0 Z a de kde mc ea h0 n0 _ T12.heap _
  rw [e12]
  exact ⟨d_2, kd_2, rfl, N12, K14, f15, f16, f17, Fw12, f18, sz_d_2, f19, f20⟩
theorem d19_0 : decode jdk_38_method_25_code 0 = .ok (.aload_n 0, 1) := by decide +kernel
theorem d19_1 : decode jdk_38_method_25_code 1 = .ok (.dup, 1) := by decide +kernel
theorem d19_2 : decode jdk_38_method_25_code 2 = .ok (.getfield 63, 3) := by decide +kernel
theorem d19_5 : decode jdk_38_method_25_code 5 = .ok (.iconst 1, 1) := by decide +kernel
theorem d19_6 : decode jdk_38_method_25_code 6 = .ok (.iadd, 1) := by decide +kernel
theorem d19_7 : decode jdk_38_method_25_code 7 = .ok (.putfield 63, 3) := by decide +kernel
theorem d19_10 : decode jdk_38_method_25_code 10 = .ok (.aload_n 0, 1) := by decide +kernel
theorem d19_11 : decode jdk_38_method_25_code 11 = .ok (.aload_n 1, 1) := by decide +kernel
theorem d19_12 : decode jdk_38_method_25_code 12 = .ok (.aload_n 0, 1) := by decide +kernel
theorem d19_13 : decode jdk_38_method_25_code 13 = .ok (.getfield 9, 3) := by decide +kernel
theorem d19_16 : decode jdk_38_method_25_code 16 = .ok (.aload_n 0, 1) := by decide +kernel
theorem d19_17 : decode jdk_38_method_25_code 17 = .ok (.getfield 48, 3) := by decide +kernel
theorem d19_20 : decode jdk_38_method_25_code 20 = .ok (.invokevirtual 131, 3) := by decide +kernel
theorem pd_15 : parseMethodDescriptor "(Ljava/lang/Object;[Ljava/lang/Object;I)V" = some ⟨[(.object "java/lang/Object"), (.array (.object "java/lang/Object")), .int], none⟩ := by decide +kernel
abbrev Y_17 : MethodName := ⟨"java/util/ArrayList", "add", "(Ljava/lang/Object;[Ljava/lang/Object;I)V"⟩
theorem d19_23 : decode jdk_38_method_25_code 23 = .ok (.iconst 1, 1) := by decide +kernel
theorem d19_24 : decode jdk_38_method_25_code 24 = .ok (.ireturn, 1) := by decide +kernel
abbrev Rm_cadd0 : Room := { frames := 4, cells := 1, slots := 10, locals := 56 }
def Q_cadd0 (Z : State) (a : Addr) (de : Addr) (kde : ClassId) (mc : Int32) (ea : Addr) (h0 : Heap) (n0 : Nat) (v : Option Value) (h : Heap) (L : List Loc) : Prop := ∃ (d : Addr) (kd : ClassId), v = some (.int (1 : Int32)) ∧ Fr n0 L ∧ Keep h0 h [a] ∧ Old Z n0 h ∧ Exa Z h a "java/util/ArrayList" ∧ Fld Z h a "java/util/ArrayList" "elementData" "[Ljava/lang/Object;" (.ref d) ∧ Fld Z h a "java/util/ArrayList" "size" "I" (.int (1 : Int32)) ∧ Fld Z h a "java/util/AbstractList" "modCount" "I" (.int (mc + (1 : Int32))) ∧ h0.size ≤ d ∧ Arv Z h d kd (.object "java/lang/Object") (10 : Int32) [(.ref ea), .null, .null, .null, .null, .null, .null, .null, .null, .null] .null ∧ Ovr Z kd "java/lang/Object"
theorem ef_cadd0 (m : MethodId) (a : Addr) (de : Addr) (kde : ClassId) (mc : Int32) (ea : Addr) : entryFrame m #[(.ref a), (.ref ea)] 2 = mkF m 0 #[.val (.ref a), .val (.ref ea)] [] := by first | (simp [entryFrame, mkF, argsToLocals, Value.category]; done) | rfl
set_option maxRecDepth 65536 in
set_option maxHeartbeats 40000000 in
theorem cadd0 (l : Launch) (Z : State) (a0 : Array Value) (hw : ∀ d ∈ tables_1, d.before a0 Z = true) (ws : List Jvm.Cond) (a : Addr) (de : Addr) (kde : ClassId) (mc : Int32) (ea : Addr) (h0 : Heap) (n0 : Nat) (zD0 : Sta Z Z.heap "java/util/ArrayList" "DEFAULTCAPACITY_EMPTY_ELEMENTDATA" "[Ljava/lang/Object;" (.ref de)) (zD1 : Arv Z Z.heap de kde (.object "java/lang/Object") (0 : Int32) [] .null) (zP0 : Old Z n0 h0) (zP1 : Exa Z h0 a "java/util/ArrayList") (zP2 : Fld Z h0 a "java/util/ArrayList" "elementData" "[Ljava/lang/Object;" (.ref de)) (zP3 : Fld Z h0 a "java/util/ArrayList" "size" "I" (.int (0 : Int32))) (zP4 : Fld Z h0 a "java/util/AbstractList" "modCount" "I" (.int mc)) (zP5 : Exa Z h0 ea "com/example/slotwright/slotwright/Market$Advertiser") (zP6 : n0 ≤ a) (zP7 : a ≠ ea) :
    MetFree l (⟨"java/util/ArrayList", "add", "(Ljava/lang/Object;)Z"⟩ : MethodName) (head1 (Jvm.Cond.code (⟨"java/util/ArrayList", "add", "(Ljava/lang/Object;)Z"⟩ : MethodName) jdk_38_method_25_code 2 (some .boolean) :: ws) Rm_cadd0) (fun aA uU => aA = #[(.ref a), (.ref ea)] ∧ Z.Warmed39 uU.vm ∧ uU.heap = h0) (fun _ _ _ _ _ => True) (fun _ uU oO uU' => ∃ vV lL, oO = .returned vV ∧ Q_cadd0 Z a de kde mc ea h0 n0 vV uU'.heap lL ∧ FrameEnd uU oO uU' lL Rm_cadd0.cells Rm_cadd0.slots) := by
  refine MetFree.of_bodySF (plainFor_of_name pn_java_util_ArrayList) hisR ?_
  intro p e s m args below meth c s₁ Bd hml0 hP hK
  obtain ⟨rfl, hZ, hh⟩ := hP
  have hx := Bd.exec
  have hby := Bd.bytes
  have hml : c.maxLocals = 2 := hml0
  have hown : s.vm.findClass "java/util/ArrayList" = some m.cls := findClass_of_methodNamed Bd.named
  have hnm := (name_of_methodNamed Bd.named Bd.method).1
  have X0 : Stand p l e Rm_cadd0 s m #[(.ref a), (.ref ea)] below meth c s₁ [] 0 0 := Stand.of_body Bd
  have e0 : s₁.heap = h0 := by rw [← hh, Bd.state]; rfl
  have N0 := Fr.nil n0
  refine Rch.out (Rch.st (fun t k => castTop (ef_cadd0 m a de kde mc ea) k) ?_)
  show Rch p.tables e below _ (s₁.setTop (mkF m 0 #[.val (.ref a), .val (.ref ea)] []))
  refine Rch.st (fun _ hr => XS.aloadN X0.here hx rfl (hb hby d19_0) rfl rfl hr) ?_
  refine Rch.st (fun _ hr => XS.dup X0.here hx rfl (hb hby d19_1) rfl rfl hr) ?_
  obtain ⟨T1, X1, e1, st1⟩ := getF X0 hx hZ hown (host := "") (Or.inl (own_w hw 142 rfl)) (Via.of (own_w hw 143 rfl)) e0 zP4 (g := (mkF m 2 #[.val (.ref a), .val (.ref ea)] [(.ref a), (.ref a)])) rfl rfl (hb hby d19_2)
  refine Rch.st st1 ?_
  refine Rch.st (fun _ hr => XS.iconst X1.here hx rfl (hb hby d19_5) hr) ?_
  refine Rch.st (fun _ hr => XS.iadd X1.here hx rfl (hb hby d19_6) rfl hr) ?_
  obtain ⟨T2, h2, X2, e2, W2, st2⟩ := putF X1 hx hZ hown (host := "") (Or.inl (own_w hw 142 rfl)) (Via.of (own_w hw 143 rfl)) e1 zP4 zP1 (Or.inl (own_w hw 22 rfl)) (own_w hw 1 rfl) (ty := .int) (by decide) rfl rfl (g := (mkF m 7 #[.val (.ref a), .val (.ref ea)] [(.int (mc + (1 : Int32))), (.ref a)])) rfl rfl (hb hby d19_7)
  refine Rch.st st2 ?_
  have N2 := Fr.snoc X2 N0 zP6
  have K3 := (Keep.refl h0 [a]).wr W2 (Or.inl (List.mem_of_getElem? (i := 0) rfl))
  have Fw2 := zP4.same W2
  show Rch p.tables e below _ (T2.setTop (mkF m 10 #[.val (.ref a), .val (.ref ea)] []))
  refine Rch.st (fun _ hr => XS.aloadN X2.here hx rfl (hb hby d19_10) rfl rfl hr) ?_
  refine Rch.st (fun _ hr => XS.aloadN X2.here hx rfl (hb hby d19_11) rfl rfl hr) ?_
  refine Rch.st (fun _ hr => XS.aloadN X2.here hx rfl (hb hby d19_12) rfl rfl hr) ?_
  have f4 := (zP2.other W2 (Or.inr (slot_ne (Or.inl (own_w hw 25 rfl)) (Or.inl (own_w hw 22 rfl)) (by decide) (t := (.array (.object "java/lang/Object"))) (t' := .int) (by decide) (by decide))))
  obtain ⟨T5, X5, e5, st5⟩ := getF X2 hx hZ hown (host := "") (Or.inl (own_w hw 24 rfl)) Via.refl e2 f4 (g := (mkF m 13 #[.val (.ref a), .val (.ref ea)] [(.ref a), (.ref ea), (.ref a)])) rfl rfl (hb hby d19_13)
  refine Rch.st st5 ?_
  refine Rch.st (fun _ hr => XS.aloadN X5.here hx rfl (hb hby d19_16) rfl rfl hr) ?_
  have f6 := (zP3.other W2 (Or.inr (slot_ne (Or.inl (own_w hw 53 rfl)) (Or.inl (own_w hw 22 rfl)) (by decide) (t := .int) (t' := .int) (by decide) (by decide))))
  obtain ⟨T7, X7, e7, st7⟩ := getF X5 hx hZ hown (host := "") (Or.inl (own_w hw 52 rfl)) Via.refl e5 f6 (g := (mkF m 17 #[.val (.ref a), .val (.ref ea)] [(.ref a), (.ref de), (.ref ea), (.ref a)])) rfl rfl (hb hby d19_17)
  refine Rch.st st7 ?_
  show Rch p.tables e below _ (T7.setTop (mkF m 20 #[.val (.ref a), .val (.ref ea)] [(.int (0 : Int32)), (.ref de), (.ref ea), (.ref a)]))
  have f9 := (zP1.wr W2)
  have f10 := (zP0.wr W2 zP6)
  have f11 := (zP5.wr W2)
  obtain ⟨_, T8, Lc8, X8, hQ8, st8⟩ := own_callP X7 hx hZ (y := Y_17) hown (own_w hw 144 rfl) (own_w hw 145 rfl) (own_w hw 147 rfl) (own_w hw 146 rfl) (own_w hw 2 rfl) (own_w hw 148 rfl) (by decide) (W := 0) (caddp0 l Z a0 hw [] a de kde (mc + (1 : Int32)) ea h2 n0 zD0 zD1 f10 f9 f4 f6 Fw2 f11 zP6 zP7) (by decide) (by decide) e7 f9 (by decide) (by decide) (g := (mkF m 20 #[.val (.ref a), .val (.ref ea)] [(.int (0 : Int32)), (.ref de), (.ref ea), (.ref a)])) rfl (by rw [hml]; rfl) (argsL := [(.ref ea), (.ref de), (.int (0 : Int32))]) (rest := []) (lenOf pd_15 rfl) rfl (own_mr rfl rfl) (hb hby d19_20) rfl
  obtain ⟨d_8, kd_8, rfl, N8q, Kp8, Op8, R8_0, R8_1, R8_2, R8_3, R8_4, R8_5, R8_6⟩ := hQ8
  have N8 := Fr.app N2 N8q
  refine Rch.st st8 ?_
  have ne12 := Nat.ne_of_lt (Nat.lt_of_lt_of_le Fw2.lt R8_4)
  have ne13 := Nat.ne_of_lt (Nat.lt_of_lt_of_le f11.lt R8_4)
  have g_d_8 : n0 ≤ d_8 := Nat.le_trans (Nat.le_trans (Nat.le_of_eq f10.1.symm) f10.2.1) R8_4
  have sz_d_8 : h0.size ≤ d_8 := Nat.le_trans K3.1 R8_4
  have K14 := K3.trans Kp8 (allS (Or.inl (List.mem_of_getElem? (i := 0) rfl)) all0)
  refine Rch.st (fun _ hr => XS.iconst X8.here hx rfl (hb hby d19_23) hr) ?_
  obtain ⟨fs, hr, hrun, hended, hW, hsame⟩ := X8.leave (v := some (.int (1 : Int32))) (fun h => by rw [Bd.returns] at h; cases h)
  refine Rch.fin (u := T8.setFrames fs) (retN X8 hx (t := .boolean) Bd.returns (by simp) (hb hby d19_24) hr) ⟨_, hrun, hended, _, _, rfl, ?_, ⟨_, rfl⟩, hW, hsame.mono (by decide) (by decide)⟩
  show Q_cadd0 Z a de kde mc ea h0 n0 _ T8.heap _
  exact ⟨d_8, kd_8, rfl, N8, K14, Op8, R8_0, R8_1, R8_2, R8_3, sz_d_8, R8_5, R8_6⟩
abbrev Rm_caddp1 : Room := { frames := 0, cells := 0, slots := 0, locals := 0 }
def Q_caddp1 (Z : State) (a : Addr) (d : Addr) (kd : ClassId) (mc : Int32) (ea : Addr) (eb : Addr) (h0 : Heap) (n0 : Nat) (v : Option Value) (h : Heap) (L : List Loc) : Prop := v = none ∧ Fr n0 L ∧ Keep h0 h [a, d] ∧ Old Z n0 h ∧ Exa Z h a "java/util/ArrayList" ∧ Fld Z h a "java/util/ArrayList" "elementData" "[Ljava/lang/Object;" (.ref d) ∧ Fld Z h a "java/util/ArrayList" "size" "I" (.int (2 : Int32)) ∧ Fld Z h a "java/util/AbstractList" "modCount" "I" (.int mc) ∧ Arv Z h d kd (.object "java/lang/Object") (10 : Int32) [(.ref ea), (.ref eb), .null, .null, .null, .null, .null, .null, .null, .null] .null
theorem ef_caddp1 (m : MethodId) (a : Addr) (d : Addr) (kd : ClassId) (mc : Int32) (ea : Addr) (eb : Addr) : entryFrame m #[(.ref a), (.ref eb), (.ref d), (.int (1 : Int32))] 4 = mkF m 0 #[.val (.ref a), .val (.ref eb), .val (.ref d), .val (.int (1 : Int32))] [] := by first | (simp [entryFrame, mkF, argsToLocals, Value.category]; done) | rfl
set_option maxRecDepth 65536 in
set_option maxHeartbeats 40000000 in
theorem caddp1 (l : Launch) (Z : State) (a0 : Array Value) (hw : ∀ d ∈ tables_1, d.before a0 Z = true) (ws : List Jvm.Cond) (a : Addr) (d : Addr) (kd : ClassId) (mc : Int32) (ea : Addr) (eb : Addr) (h0 : Heap) (n0 : Nat) (zP0 : Old Z n0 h0) (zP1 : Exa Z h0 a "java/util/ArrayList") (zP2 : Fld Z h0 a "java/util/ArrayList" "elementData" "[Ljava/lang/Object;" (.ref d)) (zP3 : Fld Z h0 a "java/util/ArrayList" "size" "I" (.int (1 : Int32))) (zP4 : Fld Z h0 a "java/util/AbstractList" "modCount" "I" (.int mc)) (zP5 : Exa Z h0 eb "com/example/slotwright/slotwright/Market$Advertiser") (zP6 : Arv Z h0 d kd (.object "java/lang/Object") (10 : Int32) [(.ref ea), .null, .null, .null, .null, .null, .null, .null, .null, .null] .null) (zP7 : Ovr Z kd "java/lang/Object") (zP8 : n0 ≤ a) (zP9 : n0 ≤ d) (zP10 : a ≠ d) :
    MetFree l (⟨"java/util/ArrayList", "add", "(Ljava/lang/Object;[Ljava/lang/Object;I)V"⟩ : MethodName) (head1 (Jvm.Cond.code (⟨"java/util/ArrayList", "add", "(Ljava/lang/Object;[Ljava/lang/Object;I)V"⟩ : MethodName) jdk_38_method_24_code 4 none :: ws) Rm_caddp1) (fun aA uU => aA = #[(.ref a), (.ref eb), (.ref d), (.int (1 : Int32))] ∧ Z.Warmed39 uU.vm ∧ uU.heap = h0) (fun _ _ _ _ _ => True) (fun _ uU oO uU' => ∃ vV lL, oO = .returned vV ∧ Q_caddp1 Z a d kd mc ea eb h0 n0 vV uU'.heap lL ∧ FrameEnd uU oO uU' lL Rm_caddp1.cells Rm_caddp1.slots) := by
  refine MetFree.of_bodySF (plainFor_of_name pn_java_util_ArrayList) hisR ?_
  intro p e s m args below meth c s₁ Bd hml0 hP hK
  obtain ⟨rfl, hZ, hh⟩ := hP
  have hx := Bd.exec
  have hby := Bd.bytes
  have hml : c.maxLocals = 4 := hml0
  have hown : s.vm.findClass "java/util/ArrayList" = some m.cls := findClass_of_methodNamed Bd.named
  have hnm := (name_of_methodNamed Bd.named Bd.method).1
  have X0 : Stand p l e Rm_caddp1 s m #[(.ref a), (.ref eb), (.ref d), (.int (1 : Int32))] below meth c s₁ [] 0 0 := Stand.of_body Bd
  have e0 : s₁.heap = h0 := by rw [← hh, Bd.state]; rfl
  have N0 := Fr.nil n0
  refine Rch.out (Rch.st (fun t k => castTop (ef_caddp1 m a d kd mc ea eb) k) ?_)
  show Rch p.tables e below _ (s₁.setTop (mkF m 0 #[.val (.ref a), .val (.ref eb), .val (.ref d), .val (.int (1 : Int32))] []))
  refine Rch.st (fun _ hr => XS.iloadN X0.here hx rfl (hb hby d20_0) rfl hr) ?_
  refine Rch.st (fun _ hr => XS.aloadN X0.here hx rfl (hb hby d20_1) rfl rfl hr) ?_
  obtain ⟨cl1, Ar1, -, Sz1, Ng1, -, -⟩ := id zP6
  refine Rch.st (fun t hr => X0.arraylength hx (by rw [e0]; exact Ar1.1) (State.isArrayOf_alike hZ.alike Ar1.2.1) (g := (mkF m 2 #[.val (.ref a), .val (.ref eb), .val (.ref d), .val (.int (1 : Int32))] [(.ref d), (.int (1 : Int32))])) rfl rfl (hb hby d20_2) t hr) ?_
  rw [len_of Sz1 Ng1]
  refine Rch.st (fun _ hr => XS.icmpYes X0.here hx rfl (pc0 := 3) (pc' := 11) rfl (hb hby d20_3) rfl (feq (by decide : ¬ ((1 : Int32) = (10 : Int32)))).2 (by decide) (by decide) hr) ?_
  refine Rch.st (fun _ hr => XS.aloadN X0.here hx rfl (hb hby d20_11) rfl rfl hr) ?_
  refine Rch.st (fun _ hr => XS.iloadN X0.here hx rfl (hb hby d20_12) rfl hr) ?_
  show Rch p.tables e below _ (s₁.setTop (mkF m 13 #[.val (.ref a), .val (.ref eb), .val (.ref d), .val (.int (1 : Int32))] [(.int (1 : Int32)), (.ref d)]))
  refine Rch.st (fun _ hr => XS.aloadN X0.here hx rfl (hb hby d20_13) rfl rfl hr) ?_
  obtain ⟨cl2, Ar2, qk2, Sz2, Ng2, Ha2, Gf2⟩ := id zP6
  have hin2 := inb_of (j := (1 : Int32)) Sz2 ⟨by decide, by decide⟩
  obtain ⟨T3, h3, X3, e3, W3, st3⟩ := stR X0 hx hZ e0 Ar2 (j := (1 : Int32)) hin2 rfl (Sto.ofV Ar2 qk2 zP7 (Ins.of_exa zP5 (own_w hw 165 rfl))) (g := (mkF m 14 #[.val (.ref a), .val (.ref eb), .val (.ref d), .val (.int (1 : Int32))] [(.ref eb), (.int (1 : Int32)), (.ref d)])) rfl rfl (hb hby d20_14)
  refine Rch.st st3 ?_
  have N3 := Fr.snoc X3 N0 zP9
  have ne4 := (Exa.neArv zP5 zP6 (own_w hw 111 rfl))
  have K5 := (Keep.refl h0 [a, d]).wr W3 (Or.inl (List.mem_of_getElem? (i := 1) rfl))
  have V3 : Arv Z h3 d kd (.object "java/lang/Object") (10 : Int32) [(.ref ea), (.ref eb), .null, .null, .null, .null, .null, .null, .null, .null] .null := Arv.set Ar2 qk2 Sz2 Ng2 Ha2 Gf2 rfl W3 1 rfl (Nat.le_of_ble_eq_true rfl)
  refine Rch.st (fun _ hr => XS.aloadN X3.here hx rfl (hb hby d20_15) rfl rfl hr) ?_
  refine Rch.st (fun _ hr => XS.iloadN X3.here hx rfl (hb hby d20_16) rfl hr) ?_
  refine Rch.st (fun _ hr => XS.iconst X3.here hx rfl (hb hby d20_17) hr) ?_
  refine Rch.st (fun _ hr => XS.iadd X3.here hx rfl (hb hby d20_18) rfl hr) ?_
  show Rch p.tables e below _ (T3.setTop (mkF m 19 #[.val (.ref a), .val (.ref eb), .val (.ref d), .val (.int (1 : Int32))] [(.int (2 : Int32)), (.ref a)]))
  have f6 := (zP3.other W3 (Or.inl zP10))
  have f7 := (zP1.wr W3)
  obtain ⟨T8, h8, X8, e8, W8, st8⟩ := putF X3 hx hZ hown (host := "") (Or.inl (own_w hw 52 rfl)) Via.refl e3 f6 f7 (Or.inl (own_w hw 53 rfl)) (own_w hw 1 rfl) (ty := .int) (by decide) rfl rfl (g := (mkF m 19 #[.val (.ref a), .val (.ref eb), .val (.ref d), .val (.int (1 : Int32))] [(.int (2 : Int32)), (.ref a)])) rfl rfl (hb hby d20_19)
  refine Rch.st st8 ?_
  have N8 := Fr.snoc X8 N3 zP8
  have f9 := (zP0.wr W3 zP9)
  have f10 := (zP5.wr W3)
  have ne11 := (Exa.ne f10 f7 (by decide))
  have K12 := K5.wr W8 (Or.inl (List.mem_of_getElem? (i := 0) rfl))
  have Fw8 := f6.same W8
  obtain ⟨fs, hr, hrun, hended, hW, hsame⟩ := X8.leave (v := none) (fun _ => rfl)
  have f13 := (f9.wr W8 zP8)
  have f14 := (f7.wr W8)
  have f15 := ((zP2.other W3 (Or.inl zP10)).other W8 (Or.inr (slot_ne (Or.inl (own_w hw 25 rfl)) (Or.inl (own_w hw 53 rfl)) (by decide) (t := (.array (.object "java/lang/Object"))) (t' := .int) (by decide) (by decide))))
  have f16 := ((zP4.other W3 (Or.inl zP10)).other W8 (Or.inr (slot_ne (Or.inl (own_w hw 22 rfl)) (Or.inl (own_w hw 53 rfl)) (by decide) (t := .int) (t' := .int) (by decide) (by decide))))
  have f17 := (V3.other W8 (Ne.symm zP10))
  refine Rch.fin (u := T8.setFrames fs) (X8.returnOut hx Bd.returns (hb hby d20_22) hr) ⟨_, hrun, hended, _, _, rfl, ?_, ⟨_, rfl⟩, hW, hsame.mono (by decide) (by decide)⟩
  show Q_caddp1 Z a d kd mc ea eb h0 n0 _ T8.heap _
  rw [e8]
  exact ⟨rfl, N8, K12, f13, f14, f15, Fw8, f16, f17⟩
abbrev Rm_cadd1 : Room := { frames := 1, cells := 0, slots := 0, locals := 15 }
def Q_cadd1 (Z : State) (a : Addr) (d : Addr) (kd : ClassId) (mc : Int32) (ea : Addr) (eb : Addr) (h0 : Heap) (n0 : Nat) (v : Option Value) (h : Heap) (L : List Loc) : Prop := v = some (.int (1 : Int32)) ∧ Fr n0 L ∧ Keep h0 h [a, d] ∧ Old Z n0 h ∧ Exa Z h a "java/util/ArrayList" ∧ Fld Z h a "java/util/ArrayList" "elementData" "[Ljava/lang/Object;" (.ref d) ∧ Fld Z h a "java/util/ArrayList" "size" "I" (.int (2 : Int32)) ∧ Fld Z h a "java/util/AbstractList" "modCount" "I" (.int (mc + (1 : Int32))) ∧ Arv Z h d kd (.object "java/lang/Object") (10 : Int32) [(.ref ea), (.ref eb), .null, .null, .null, .null, .null, .null, .null, .null] .null
theorem ef_cadd1 (m : MethodId) (a : Addr) (d : Addr) (kd : ClassId) (mc : Int32) (ea : Addr) (eb : Addr) : entryFrame m #[(.ref a), (.ref eb)] 2 = mkF m 0 #[.val (.ref a), .val (.ref eb)] [] := by first | (simp [entryFrame, mkF, argsToLocals, Value.category]; done) | rfl
set_option maxRecDepth 65536 in
set_option maxHeartbeats 40000000 in
theorem cadd1 (l : Launch) (Z : State) (a0 : Array Value) (hw : ∀ d ∈ tables_1, d.before a0 Z = true) (ws : List Jvm.Cond) (a : Addr) (d : Addr) (kd : ClassId) (mc : Int32) (ea : Addr) (eb : Addr) (h0 : Heap) (n0 : Nat) (zP0 : Old Z n0 h0) (zP1 : Exa Z h0 a "java/util/ArrayList") (zP2 : Fld Z h0 a "java/util/ArrayList" "elementData" "[Ljava/lang/Object;" (.ref d)) (zP3 : Fld Z h0 a "java/util/ArrayList" "size" "I" (.int (1 : Int32))) (zP4 : Fld Z h0 a "java/util/AbstractList" "modCount" "I" (.int mc)) (zP5 : Exa Z h0 eb "com/example/slotwright/slotwright/Market$Advertiser") (zP6 : Arv Z h0 d kd (.object "java/lang/Object") (10 : Int32) [(.ref ea), .null, .null, .null, .null, .null, .null, .null, .null, .null] .null) (zP7 : Ovr Z kd "java/lang/Object") (zP8 : n0 ≤ a) (zP9 : n0 ≤ d) (zP10 : a ≠ d) :
    MetFree l (⟨"java/util/ArrayList", "add", "(Ljava/lang/Object;)Z"⟩ : MethodName) (head1 (Jvm.Cond.code (⟨"java/util/ArrayList", "add", "(Ljava/lang/Object;)Z"⟩ : MethodName) jdk_38_method_25_code 2 (some .boolean) :: ws) Rm_cadd1) (fun aA uU => aA = #[(.ref a), (.ref eb)] ∧ Z.Warmed39 uU.vm ∧ uU.heap = h0) (fun _ _ _ _ _ => True) (fun _ uU oO uU' => ∃ vV lL, oO = .returned vV ∧ Q_cadd1 Z a d kd mc ea eb h0 n0 vV uU'.heap lL ∧ FrameEnd uU oO uU' lL Rm_cadd1.cells Rm_cadd1.slots) := by
  refine MetFree.of_bodySF (plainFor_of_name pn_java_util_ArrayList) hisR ?_
  intro p e s m args below meth c s₁ Bd hml0 hP hK
  obtain ⟨rfl, hZ, hh⟩ := hP
  have hx := Bd.exec
  have hby := Bd.bytes
  have hml : c.maxLocals = 2 := hml0
  have hown : s.vm.findClass "java/util/ArrayList" = some m.cls := findClass_of_methodNamed Bd.named
  have hnm := (name_of_methodNamed Bd.named Bd.method).1
  have X0 : Stand p l e Rm_cadd1 s m #[(.ref a), (.ref eb)] below meth c s₁ [] 0 0 := Stand.of_body Bd
  have e0 : s₁.heap = h0 := by rw [← hh, Bd.state]; rfl
  have N0 := Fr.nil n0
  refine Rch.out (Rch.st (fun t k => castTop (ef_cadd1 m a d kd mc ea eb) k) ?_)
  show Rch p.tables e below _ (s₁.setTop (mkF m 0 #[.val (.ref a), .val (.ref eb)] []))
  refine Rch.st (fun _ hr => XS.aloadN X0.here hx rfl (hb hby d19_0) rfl rfl hr) ?_
  refine Rch.st (fun _ hr => XS.dup X0.here hx rfl (hb hby d19_1) rfl rfl hr) ?_
  obtain ⟨T1, X1, e1, st1⟩ := getF X0 hx hZ hown (host := "") (Or.inl (own_w hw 142 rfl)) (Via.of (own_w hw 143 rfl)) e0 zP4 (g := (mkF m 2 #[.val (.ref a), .val (.ref eb)] [(.ref a), (.ref a)])) rfl rfl (hb hby d19_2)
  refine Rch.st st1 ?_
  refine Rch.st (fun _ hr => XS.iconst X1.here hx rfl (hb hby d19_5) hr) ?_
  refine Rch.st (fun _ hr => XS.iadd X1.here hx rfl (hb hby d19_6) rfl hr) ?_
  obtain ⟨T2, h2, X2, e2, W2, st2⟩ := putF X1 hx hZ hown (host := "") (Or.inl (own_w hw 142 rfl)) (Via.of (own_w hw 143 rfl)) e1 zP4 zP1 (Or.inl (own_w hw 22 rfl)) (own_w hw 1 rfl) (ty := .int) (by decide) rfl rfl (g := (mkF m 7 #[.val (.ref a), .val (.ref eb)] [(.int (mc + (1 : Int32))), (.ref a)])) rfl rfl (hb hby d19_7)
  refine Rch.st st2 ?_
  have N2 := Fr.snoc X2 N0 zP8
  have ne3 := (Exa.ne zP5 zP1 (by decide))
  have K4 := (Keep.refl h0 [a, d]).wr W2 (Or.inl (List.mem_of_getElem? (i := 0) rfl))
  have Fw2 := zP4.same W2
  show Rch p.tables e below _ (T2.setTop (mkF m 10 #[.val (.ref a), .val (.ref eb)] []))
  refine Rch.st (fun _ hr => XS.aloadN X2.here hx rfl (hb hby d19_10) rfl rfl hr) ?_
  refine Rch.st (fun _ hr => XS.aloadN X2.here hx rfl (hb hby d19_11) rfl rfl hr) ?_
  refine Rch.st (fun _ hr => XS.aloadN X2.here hx rfl (hb hby d19_12) rfl rfl hr) ?_
  have f5 := (zP2.other W2 (Or.inr (slot_ne (Or.inl (own_w hw 25 rfl)) (Or.inl (own_w hw 22 rfl)) (by decide) (t := (.array (.object "java/lang/Object"))) (t' := .int) (by decide) (by decide))))
  obtain ⟨T6, X6, e6, st6⟩ := getF X2 hx hZ hown (host := "") (Or.inl (own_w hw 24 rfl)) Via.refl e2 f5 (g := (mkF m 13 #[.val (.ref a), .val (.ref eb)] [(.ref a), (.ref eb), (.ref a)])) rfl rfl (hb hby d19_13)
  refine Rch.st st6 ?_
  refine Rch.st (fun _ hr => XS.aloadN X6.here hx rfl (hb hby d19_16) rfl rfl hr) ?_
  have f7 := (zP3.other W2 (Or.inr (slot_ne (Or.inl (own_w hw 53 rfl)) (Or.inl (own_w hw 22 rfl)) (by decide) (t := .int) (t' := .int) (by decide) (by decide))))
  obtain ⟨T8, X8, e8, st8⟩ := getF X6 hx hZ hown (host := "") (Or.inl (own_w hw 52 rfl)) Via.refl e6 f7 (g := (mkF m 17 #[.val (.ref a), .val (.ref eb)] [(.ref a), (.ref d), (.ref eb), (.ref a)])) rfl rfl (hb hby d19_17)
  refine Rch.st st8 ?_
  show Rch p.tables e below _ (T8.setTop (mkF m 20 #[.val (.ref a), .val (.ref eb)] [(.int (1 : Int32)), (.ref d), (.ref eb), (.ref a)]))
  have f10 := (zP1.wr W2)
  have f11 := (zP0.wr W2 zP8)
  have f12 := (zP5.wr W2)
  have f13 := (zP6.other W2 (Ne.symm zP10))
  have f14 := zP7
  obtain ⟨_, T9, Lc9, X9, hQ9, st9⟩ := own_callP X8 hx hZ (y := Y_17) hown (own_w hw 144 rfl) (own_w hw 145 rfl) (own_w hw 147 rfl) (own_w hw 146 rfl) (own_w hw 2 rfl) (own_w hw 148 rfl) (by decide) (W := 0) (caddp1 l Z a0 hw [] a d kd (mc + (1 : Int32)) ea eb h2 n0 f11 f10 f5 f7 Fw2 f12 f13 f14 zP8 zP9 zP10) (by decide) (by decide) e8 f10 (by decide) (by decide) (g := (mkF m 20 #[.val (.ref a), .val (.ref eb)] [(.int (1 : Int32)), (.ref d), (.ref eb), (.ref a)])) rfl (by rw [hml]; rfl) (argsL := [(.ref eb), (.ref d), (.int (1 : Int32))]) (rest := []) (lenOf pd_15 rfl) rfl (own_mr rfl rfl) (hb hby d19_20) rfl
  obtain ⟨rfl, N9q, Kp9, Op9, R9_0, R9_1, R9_2, R9_3, R9_4⟩ := hQ9
  have N9 := Fr.app N2 N9q
  refine Rch.st st9 ?_
  have ne15 := (Exa.neArv f12 f13 (own_w hw 111 rfl))
  have K16 := K4.trans Kp9 (allS (Or.inl (List.mem_of_getElem? (i := 0) rfl)) (allS (Or.inl (List.mem_of_getElem? (i := 1) rfl)) all0))
  refine Rch.st (fun _ hr => XS.iconst X9.here hx rfl (hb hby d19_23) hr) ?_
  obtain ⟨fs, hr, hrun, hended, hW, hsame⟩ := X9.leave (v := some (.int (1 : Int32))) (fun h => by rw [Bd.returns] at h; cases h)
  refine Rch.fin (u := T9.setFrames fs) (retN X9 hx (t := .boolean) Bd.returns (by simp) (hb hby d19_24) hr) ⟨_, hrun, hended, _, _, rfl, ?_, ⟨_, rfl⟩, hW, hsame.mono (by decide) (by decide)⟩
  show Q_cadd1 Z a d kd mc ea eb h0 n0 _ T9.heap _
  exact ⟨rfl, N9, K16, Op9, R9_0, R9_1, R9_2, R9_3, R9_4⟩
abbrev Rm_caddp2 : Room := { frames := 0, cells := 0, slots := 0, locals := 0 }
def Q_caddp2 (Z : State) (a : Addr) (d : Addr) (kd : ClassId) (mc : Int32) (ea : Addr) (eb : Addr) (ec : Addr) (h0 : Heap) (n0 : Nat) (v : Option Value) (h : Heap) (L : List Loc) : Prop := v = none ∧ Fr n0 L ∧ Keep h0 h [a, d] ∧ Old Z n0 h ∧ Exa Z h a "java/util/ArrayList" ∧ Fld Z h a "java/util/ArrayList" "elementData" "[Ljava/lang/Object;" (.ref d) ∧ Fld Z h a "java/util/ArrayList" "size" "I" (.int (3 : Int32)) ∧ Fld Z h a "java/util/AbstractList" "modCount" "I" (.int mc) ∧ Arv Z h d kd (.object "java/lang/Object") (10 : Int32) [(.ref ea), (.ref eb), (.ref ec), .null, .null, .null, .null, .null, .null, .null] .null
theorem ef_caddp2 (m : MethodId) (a : Addr) (d : Addr) (kd : ClassId) (mc : Int32) (ea : Addr) (eb : Addr) (ec : Addr) : entryFrame m #[(.ref a), (.ref ec), (.ref d), (.int (2 : Int32))] 4 = mkF m 0 #[.val (.ref a), .val (.ref ec), .val (.ref d), .val (.int (2 : Int32))] [] := by first | (simp [entryFrame, mkF, argsToLocals, Value.category]; done) | rfl
set_option maxRecDepth 65536 in
set_option maxHeartbeats 40000000 in
theorem caddp2 (l : Launch) (Z : State) (a0 : Array Value) (hw : ∀ d ∈ tables_1, d.before a0 Z = true) (ws : List Jvm.Cond) (a : Addr) (d : Addr) (kd : ClassId) (mc : Int32) (ea : Addr) (eb : Addr) (ec : Addr) (h0 : Heap) (n0 : Nat) (zP0 : Old Z n0 h0) (zP1 : Exa Z h0 a "java/util/ArrayList") (zP2 : Fld Z h0 a "java/util/ArrayList" "elementData" "[Ljava/lang/Object;" (.ref d)) (zP3 : Fld Z h0 a "java/util/ArrayList" "size" "I" (.int (2 : Int32))) (zP4 : Fld Z h0 a "java/util/AbstractList" "modCount" "I" (.int mc)) (zP5 : Exa Z h0 ec "com/example/slotwright/slotwright/Market$Advertiser") (zP6 : Arv Z h0 d kd (.object "java/lang/Object") (10 : Int32) [(.ref ea), (.ref eb), .null, .null, .null, .null, .null, .null, .null, .null] .null) (zP7 : Ovr Z kd "java/lang/Object") (zP8 : n0 ≤ a) (zP9 : n0 ≤ d) (zP10 : a ≠ d) :
    MetFree l (⟨"java/util/ArrayList", "add", "(Ljava/lang/Object;[Ljava/lang/Object;I)V"⟩ : MethodName) (head1 (Jvm.Cond.code (⟨"java/util/ArrayList", "add", "(Ljava/lang/Object;[Ljava/lang/Object;I)V"⟩ : MethodName) jdk_38_method_24_code 4 none :: ws) Rm_caddp2) (fun aA uU => aA = #[(.ref a), (.ref ec), (.ref d), (.int (2 : Int32))] ∧ Z.Warmed39 uU.vm ∧ uU.heap = h0) (fun _ _ _ _ _ => True) (fun _ uU oO uU' => ∃ vV lL, oO = .returned vV ∧ Q_caddp2 Z a d kd mc ea eb ec h0 n0 vV uU'.heap lL ∧ FrameEnd uU oO uU' lL Rm_caddp2.cells Rm_caddp2.slots) := by
  refine MetFree.of_bodySF (plainFor_of_name pn_java_util_ArrayList) hisR ?_
  intro p e s m args below meth c s₁ Bd hml0 hP hK
  obtain ⟨rfl, hZ, hh⟩ := hP
  have hx := Bd.exec
  have hby := Bd.bytes
  have hml : c.maxLocals = 4 := hml0
  have hown : s.vm.findClass "java/util/ArrayList" = some m.cls := findClass_of_methodNamed Bd.named
  have hnm := (name_of_methodNamed Bd.named Bd.method).1
  have X0 : Stand p l e Rm_caddp2 s m #[(.ref a), (.ref ec), (.ref d), (.int (2 : Int32))] below meth c s₁ [] 0 0 := Stand.of_body Bd
  have e0 : s₁.heap = h0 := by rw [← hh, Bd.state]; rfl
  have N0 := Fr.nil n0
  refine Rch.out (Rch.st (fun t k => castTop (ef_caddp2 m a d kd mc ea eb ec) k) ?_)
  show Rch p.tables e below _ (s₁.setTop (mkF m 0 #[.val (.ref a), .val (.ref ec), .val (.ref d), .val (.int (2 : Int32))] []))
  refine Rch.st (fun _ hr => XS.iloadN X0.here hx rfl (hb hby d20_0) rfl hr) ?_
  refine Rch.st (fun _ hr => XS.aloadN X0.here hx rfl (hb hby d20_1) rfl rfl hr) ?_
  obtain ⟨cl1, Ar1, -, Sz1, Ng1, -, -⟩ := id zP6
  refine Rch.st (fun t hr => X0.arraylength hx (by rw [e0]; exact Ar1.1) (State.isArrayOf_alike hZ.alike Ar1.2.1) (g := (mkF m 2 #[.val (.ref a), .val (.ref ec), .val (.ref d), .val (.int (2 : Int32))] [(.ref d), (.int (2 : Int32))])) rfl rfl (hb hby d20_2) t hr) ?_
  rw [len_of Sz1 Ng1]
  refine Rch.st (fun _ hr => XS.icmpYes X0.here hx rfl (pc0 := 3) (pc' := 11) rfl (hb hby d20_3) rfl (feq (by decide : ¬ ((2 : Int32) = (10 : Int32)))).2 (by decide) (by decide) hr) ?_
  refine Rch.st (fun _ hr => XS.aloadN X0.here hx rfl (hb hby d20_11) rfl rfl hr) ?_
  refine Rch.st (fun _ hr => XS.iloadN X0.here hx rfl (hb hby d20_12) rfl hr) ?_
  show Rch p.tables e below _ (s₁.setTop (mkF m 13 #[.val (.ref a), .val (.ref ec), .val (.ref d), .val (.int (2 : Int32))] [(.int (2 : Int32)), (.ref d)]))
  refine Rch.st (fun _ hr => XS.aloadN X0.here hx rfl (hb hby d20_13) rfl rfl hr) ?_
  obtain ⟨cl2, Ar2, qk2, Sz2, Ng2, Ha2, Gf2⟩ := id zP6
  have hin2 := inb_of (j := (2 : Int32)) Sz2 ⟨by decide, by decide⟩
  obtain ⟨T3, h3, X3, e3, W3, st3⟩ := stR X0 hx hZ e0 Ar2 (j := (2 : Int32)) hin2 rfl (Sto.ofV Ar2 qk2 zP7 (Ins.of_exa zP5 (own_w hw 165 rfl))) (g := (mkF m 14 #[.val (.ref a), .val (.ref ec), .val (.ref d), .val (.int (2 : Int32))] [(.ref ec), (.int (2 : Int32)), (.ref d)])) rfl rfl (hb hby d20_14)
  refine Rch.st st3 ?_
  have N3 := Fr.snoc X3 N0 zP9
  have ne4 := (Exa.neArv zP5 zP6 (own_w hw 111 rfl))
  have K5 := (Keep.refl h0 [a, d]).wr W3 (Or.inl (List.mem_of_getElem? (i := 1) rfl))
  have V3 : Arv Z h3 d kd (.object "java/lang/Object") (10 : Int32) [(.ref ea), (.ref eb), (.ref ec), .null, .null, .null, .null, .null, .null, .null] .null := Arv.set Ar2 qk2 Sz2 Ng2 Ha2 Gf2 rfl W3 2 rfl (Nat.le_of_ble_eq_true rfl)
  refine Rch.st (fun _ hr => XS.aloadN X3.here hx rfl (hb hby d20_15) rfl rfl hr) ?_
  refine Rch.st (fun _ hr => XS.iloadN X3.here hx rfl (hb hby d20_16) rfl hr) ?_
  refine Rch.st (fun _ hr => XS.iconst X3.here hx rfl (hb hby d20_17) hr) ?_
  refine Rch.st (fun _ hr => XS.iadd X3.here hx rfl (hb hby d20_18) rfl hr) ?_
  show Rch p.tables e below _ (T3.setTop (mkF m 19 #[.val (.ref a), .val (.ref ec), .val (.ref d), .val (.int (2 : Int32))] [(.int (3 : Int32)), (.ref a)]))
  have f6 := (zP3.other W3 (Or.inl zP10))
  have f7 := (zP1.wr W3)
  obtain ⟨T8, h8, X8, e8, W8, st8⟩ := putF X3 hx hZ hown (host := "") (Or.inl (own_w hw 52 rfl)) Via.refl e3 f6 f7 (Or.inl (own_w hw 53 rfl)) (own_w hw 1 rfl) (ty := .int) (by decide) rfl rfl (g := (mkF m 19 #[.val (.ref a), .val (.ref ec), .val (.ref d), .val (.int (2 : Int32))] [(.int (3 : Int32)), (.ref a)])) rfl rfl (hb hby d20_19)
  refine Rch.st st8 ?_
  have N8 := Fr.snoc X8 N3 zP8
  have f9 := (zP0.wr W3 zP9)
  have f10 := (zP5.wr W3)
  have ne11 := (Exa.ne f10 f7 (by decide))
  have K12 := K5.wr W8 (Or.inl (List.mem_of_getElem? (i := 0) rfl))
  have Fw8 := f6.same W8
  obtain ⟨fs, hr, hrun, hended, hW, hsame⟩ := X8.leave (v := none) (fun _ => rfl)
  have f13 := (f9.wr W8 zP8)
  have f14 := (f7.wr W8)
  have f15 := ((zP2.other W3 (Or.inl zP10)).other W8 (Or.inr (slot_ne (Or.inl (own_w hw 25 rfl)) (Or.inl (own_w hw 53 rfl)) (by decide) (t := (.array (.object "java/lang/Object"))) (t' := .int) (by decide) (by decide))))
  have f16 := ((zP4.other W3 (Or.inl zP10)).other W8 (Or.inr (slot_ne (Or.inl (own_w hw 22 rfl)) (Or.inl (own_w hw 53 rfl)) (by decide) (t := .int) (t' := .int) (by decide) (by decide))))
  have f17 := (V3.other W8 (Ne.symm zP10))
  refine Rch.fin (u := T8.setFrames fs) (X8.returnOut hx Bd.returns (hb hby d20_22) hr) ⟨_, hrun, hended, _, _, rfl, ?_, ⟨_, rfl⟩, hW, hsame.mono (by decide) (by decide)⟩
  show Q_caddp2 Z a d kd mc ea eb ec h0 n0 _ T8.heap _
  rw [e8]
  exact ⟨rfl, N8, K12, f13, f14, f15, Fw8, f16, f17⟩
abbrev Rm_cadd2 : Room := { frames := 1, cells := 0, slots := 0, locals := 15 }
def Q_cadd2 (Z : State) (a : Addr) (d : Addr) (kd : ClassId) (mc : Int32) (ea : Addr) (eb : Addr) (ec : Addr) (h0 : Heap) (n0 : Nat) (v : Option Value) (h : Heap) (L : List Loc) : Prop := v = some (.int (1 : Int32)) ∧ Fr n0 L ∧ Keep h0 h [a, d] ∧ Old Z n0 h ∧ Exa Z h a "java/util/ArrayList" ∧ Fld Z h a "java/util/ArrayList" "elementData" "[Ljava/lang/Object;" (.ref d) ∧ Fld Z h a "java/util/ArrayList" "size" "I" (.int (3 : Int32)) ∧ Fld Z h a "java/util/AbstractList" "modCount" "I" (.int (mc + (1 : Int32))) ∧ Arv Z h d kd (.object "java/lang/Object") (10 : Int32) [(.ref ea), (.ref eb), (.ref ec), .null, .null, .null, .null, .null, .null, .null] .null
theorem ef_cadd2 (m : MethodId) (a : Addr) (d : Addr) (kd : ClassId) (mc : Int32) (ea : Addr) (eb : Addr) (ec : Addr) : entryFrame m #[(.ref a), (.ref ec)] 2 = mkF m 0 #[.val (.ref a), .val (.ref ec)] [] := by first | (simp [entryFrame, mkF, argsToLocals, Value.category]; done) | rfl
set_option maxRecDepth 65536 in
set_option maxHeartbeats 40000000 in
theorem cadd2 (l : Launch) (Z : State) (a0 : Array Value) (hw : ∀ d ∈ tables_1, d.before a0 Z = true) (ws : List Jvm.Cond) (a : Addr) (d : Addr) (kd : ClassId) (mc : Int32) (ea : Addr) (eb : Addr) (ec : Addr) (h0 : Heap) (n0 : Nat) (zP0 : Old Z n0 h0) (zP1 : Exa Z h0 a "java/util/ArrayList") (zP2 : Fld Z h0 a "java/util/ArrayList" "elementData" "[Ljava/lang/Object;" (.ref d)) (zP3 : Fld Z h0 a "java/util/ArrayList" "size" "I" (.int (2 : Int32))) (zP4 : Fld Z h0 a "java/util/AbstractList" "modCount" "I" (.int mc)) (zP5 : Exa Z h0 ec "com/example/slotwright/slotwright/Market$Advertiser") (zP6 : Arv Z h0 d kd (.object "java/lang/Object") (10 : Int32) [(.ref ea), (.ref eb), .null, .null, .null, .null, .null, .null, .null, .null] .null) (zP7 : Ovr Z kd "java/lang/Object") (zP8 : n0 ≤ a) (zP9 : n0 ≤ d) (zP10 : a ≠ d) :
    MetFree l (⟨"java/util/ArrayList", "add", "(Ljava/lang/Object;)Z"⟩ : MethodName) (head1 (Jvm.Cond.code (⟨"java/util/ArrayList", "add", "(Ljava/lang/Object;)Z"⟩ : MethodName) jdk_38_method_25_code 2 (some .boolean) :: ws) Rm_cadd2) (fun aA uU => aA = #[(.ref a), (.ref ec)] ∧ Z.Warmed39 uU.vm ∧ uU.heap = h0) (fun _ _ _ _ _ => True) (fun _ uU oO uU' => ∃ vV lL, oO = .returned vV ∧ Q_cadd2 Z a d kd mc ea eb ec h0 n0 vV uU'.heap lL ∧ FrameEnd uU oO uU' lL Rm_cadd2.cells Rm_cadd2.slots) := by
  refine MetFree.of_bodySF (plainFor_of_name pn_java_util_ArrayList) hisR ?_
  intro p e s m args below meth c s₁ Bd hml0 hP hK
  obtain ⟨rfl, hZ, hh⟩ := hP
  have hx := Bd.exec
  have hby := Bd.bytes
  have hml : c.maxLocals = 2 := hml0
  have hown : s.vm.findClass "java/util/ArrayList" = some m.cls := findClass_of_methodNamed Bd.named
  have hnm := (name_of_methodNamed Bd.named Bd.method).1
  have X0 : Stand p l e Rm_cadd2 s m #[(.ref a), (.ref ec)] below meth c s₁ [] 0 0 := Stand.of_body Bd
  have e0 : s₁.heap = h0 := by rw [← hh, Bd.state]; rfl
  have N0 := Fr.nil n0
  refine Rch.out (Rch.st (fun t k => castTop (ef_cadd2 m a d kd mc ea eb ec) k) ?_)
  show Rch p.tables e below _ (s₁.setTop (mkF m 0 #[.val (.ref a), .val (.ref ec)] []))
  refine Rch.st (fun _ hr => XS.aloadN X0.here hx rfl (hb hby d19_0) rfl rfl hr) ?_
  refine Rch.st (fun _ hr => XS.dup X0.here hx rfl (hb hby d19_1) rfl rfl hr) ?_
  obtain ⟨T1, X1, e1, st1⟩ := getF X0 hx hZ hown (host := "") (Or.inl (own_w hw 142 rfl)) (Via.of (own_w hw 143 rfl)) e0 zP4 (g := (mkF m 2 #[.val (.ref a), .val (.ref ec)] [(.ref a), (.ref a)])) rfl rfl (hb hby d19_2)
  refine Rch.st st1 ?_
  refine Rch.st (fun _ hr => XS.iconst X1.here hx rfl (hb hby d19_5) hr) ?_
  refine Rch.st (fun _ hr => XS.iadd X1.here hx rfl (hb hby d19_6) rfl hr) ?_
  obtain ⟨T2, h2, X2, e2, W2, st2⟩ := putF X1 hx hZ hown (host := "") (Or.inl (own_w hw 142 rfl)) (Via.of (own_w hw 143 rfl)) e1 zP4 zP1 (Or.inl (own_w hw 22 rfl)) (own_w hw 1 rfl) (ty := .int) (by decide) rfl rfl (g := (mkF m 7 #[.val (.ref a), .val (.ref ec)] [(.int (mc + (1 : Int32))), (.ref a)])) rfl rfl (hb hby d19_7)
  refine Rch.st st2 ?_
  have N2 := Fr.snoc X2 N0 zP8
  have ne3 := (Exa.ne zP5 zP1 (by decide))
  have K4 := (Keep.refl h0 [a, d]).wr W2 (Or.inl (List.mem_of_getElem? (i := 0) rfl))
  have Fw2 := zP4.same W2
  show Rch p.tables e below _ (T2.setTop (mkF m 10 #[.val (.ref a), .val (.ref ec)] []))
  refine Rch.st (fun _ hr => XS.aloadN X2.here hx rfl (hb hby d19_10) rfl rfl hr) ?_
  refine Rch.st (fun _ hr => XS.aloadN X2.here hx rfl (hb hby d19_11) rfl rfl hr) ?_
  refine Rch.st (fun _ hr => XS.aloadN X2.here hx rfl (hb hby d19_12) rfl rfl hr) ?_
  have f5 := (zP2.other W2 (Or.inr (slot_ne (Or.inl (own_w hw 25 rfl)) (Or.inl (own_w hw 22 rfl)) (by decide) (t := (.array (.object "java/lang/Object"))) (t' := .int) (by decide) (by decide))))
  obtain ⟨T6, X6, e6, st6⟩ := getF X2 hx hZ hown (host := "") (Or.inl (own_w hw 24 rfl)) Via.refl e2 f5 (g := (mkF m 13 #[.val (.ref a), .val (.ref ec)] [(.ref a), (.ref ec), (.ref a)])) rfl rfl (hb hby d19_13)
  refine Rch.st st6 ?_
  refine Rch.st (fun _ hr => XS.aloadN X6.here hx rfl (hb hby d19_16) rfl rfl hr) ?_
  have f7 := (zP3.other W2 (Or.inr (slot_ne (Or.inl (own_w hw 53 rfl)) (Or.inl (own_w hw 22 rfl)) (by decide) (t := .int) (t' := .int) (by decide) (by decide))))
  obtain ⟨T8, X8, e8, st8⟩ := getF X6 hx hZ hown (host := "") (Or.inl (own_w hw 52 rfl)) Via.refl e6 f7 (g := (mkF m 17 #[.val (.ref a), .val (.ref ec)] [(.ref a), (.ref d), (.ref ec), (.ref a)])) rfl rfl (hb hby d19_17)
  refine Rch.st st8 ?_
  show Rch p.tables e below _ (T8.setTop (mkF m 20 #[.val (.ref a), .val (.ref ec)] [(.int (2 : Int32)), (.ref d), (.ref ec), (.ref a)]))
  have f10 := (zP1.wr W2)
  have f11 := (zP0.wr W2 zP8)
  have f12 := (zP5.wr W2)
  have f13 := (zP6.other W2 (Ne.symm zP10))
  have f14 := zP7
  obtain ⟨_, T9, Lc9, X9, hQ9, st9⟩ := own_callP X8 hx hZ (y := Y_17) hown (own_w hw 144 rfl) (own_w hw 145 rfl) (own_w hw 147 rfl) (own_w hw 146 rfl) (own_w hw 2 rfl) (own_w hw 148 rfl) (by decide) (W := 0) (caddp2 l Z a0 hw [] a d kd (mc + (1 : Int32)) ea eb ec h2 n0 f11 f10 f5 f7 Fw2 f12 f13 f14 zP8 zP9 zP10) (by decide) (by decide) e8 f10 (by decide) (by decide) (g := (mkF m 20 #[.val (.ref a), .val (.ref ec)] [(.int (2 : Int32)), (.ref d), (.ref ec), (.ref a)])) rfl (by rw [hml]; rfl) (argsL := [(.ref ec), (.ref d), (.int (2 : Int32))]) (rest := []) (lenOf pd_15 rfl) rfl (own_mr rfl rfl) (hb hby d19_20) rfl
  obtain ⟨rfl, N9q, Kp9, Op9, R9_0, R9_1, R9_2, R9_3, R9_4⟩ := hQ9
  have N9 := Fr.app N2 N9q
  refine Rch.st st9 ?_
  have ne15 := (Exa.neArv f12 f13 (own_w hw 111 rfl))
  have K16 := K4.trans Kp9 (allS (Or.inl (List.mem_of_getElem? (i := 0) rfl)) (allS (Or.inl (List.mem_of_getElem? (i := 1) rfl)) all0))
  refine Rch.st (fun _ hr => XS.iconst X9.here hx rfl (hb hby d19_23) hr) ?_
  obtain ⟨fs, hr, hrun, hended, hW, hsame⟩ := X9.leave (v := some (.int (1 : Int32))) (fun h => by rw [Bd.returns] at h; cases h)
  refine Rch.fin (u := T9.setFrames fs) (retN X9 hx (t := .boolean) Bd.returns (by simp) (hb hby d19_24) hr) ⟨_, hrun, hended, _, _, rfl, ?_, ⟨_, rfl⟩, hW, hsame.mono (by decide) (by decide)⟩
  show Q_cadd2 Z a d kd mc ea eb ec h0 n0 _ T9.heap _
  exact ⟨rfl, N9, K16, Op9, R9_0, R9_1, R9_2, R9_3, R9_4⟩
theorem d8_0 : decode jdk_38_method_8_code 0 = .ok (.aload_n 0, 1) := by decide +kernel
theorem d8_1 : decode jdk_38_method_8_code 1 = .ok (.getfield 48, 3) := by decide +kernel
theorem d8_4 : decode jdk_38_method_8_code 4 = .ok (.ireturn, 1) := by decide +kernel
abbrev Rm_csize : Room := { frames := 0, cells := 0, slots := 0, locals := 0 }
def Q_csize (Z : State) (a : Addr) (n : Int32) (h0 : Heap) (n0 : Nat) (v : Option Value) (h : Heap) (L : List Loc) : Prop := v = some (.int n) ∧ Fr n0 L ∧ h = h0
theorem ef_csize (m : MethodId) (a : Addr) (n : Int32) : entryFrame m #[(.ref a)] 1 = mkF m 0 #[.val (.ref a)] [] := by first | (simp [entryFrame, mkF, argsToLocals, Value.category]; done) | rfl
set_option maxRecDepth 65536 in
set_option maxHeartbeats 40000000 in
theorem csize (l : Launch) (Z : State) (a0 : Array Value) (hw : ∀ d ∈ tables_1, d.before a0 Z = true) (ws : List Jvm.Cond) (a : Addr) (n : Int32) (h0 : Heap) (n0 : Nat) (zP0 : Fld Z h0 a "java/util/ArrayList" "size" "I" (.int n)) :
    MetFree l (⟨"java/util/ArrayList", "size", "()I"⟩ : MethodName) (head1 (Jvm.Cond.code (⟨"java/util/ArrayList", "size", "()I"⟩ : MethodName) jdk_38_method_8_code 1 (some .int) :: ws) Rm_csize) (fun aA uU => aA = #[(.ref a)] ∧ Z.Warmed39 uU.vm ∧ uU.heap = h0) (fun _ _ _ _ _ => True) (fun _ uU oO uU' => ∃ vV lL, oO = .returned vV ∧ Q_csize Z a n h0 n0 vV uU'.heap lL ∧ FrameEnd uU oO uU' lL Rm_csize.cells Rm_csize.slots) := by
  refine MetFree.of_bodySF (plainFor_of_name pn_java_util_ArrayList) hisR ?_
  intro p e s m args below meth c s₁ Bd hml0 hP hK
  obtain ⟨rfl, hZ, hh⟩ := hP
  have hx := Bd.exec
  have hby := Bd.bytes
  have hml : c.maxLocals = 1 := hml0
  have hown : s.vm.findClass "java/util/ArrayList" = some m.cls := findClass_of_methodNamed Bd.named
  have hnm := (name_of_methodNamed Bd.named Bd.method).1
  have X0 : Stand p l e Rm_csize s m #[(.ref a)] below meth c s₁ [] 0 0 := Stand.of_body Bd
  have e0 : s₁.heap = h0 := by rw [← hh, Bd.state]; rfl
  have N0 := Fr.nil n0
  refine Rch.out (Rch.st (fun t k => castTop (ef_csize m a n) k) ?_)
  show Rch p.tables e below _ (s₁.setTop (mkF m 0 #[.val (.ref a)] []))
  refine Rch.st (fun _ hr => XS.aloadN X0.here hx rfl (hb hby d8_0) rfl rfl hr) ?_
  obtain ⟨T1, X1, e1, st1⟩ := getF X0 hx hZ hown (host := "") (Or.inl (own_w hw 52 rfl)) Via.refl e0 zP0 (g := (mkF m 1 #[.val (.ref a)] [(.ref a)])) rfl rfl (hb hby d8_1)
  refine Rch.st st1 ?_
  obtain ⟨fs, hr, hrun, hended, hW, hsame⟩ := X1.leave (v := some (.int n)) (fun h => by rw [Bd.returns] at h; cases h)
  refine Rch.fin (u := T1.setFrames fs) (own_retI X1 hx Bd.returns (hb hby d8_4) hr) ⟨_, hrun, hended, _, _, rfl, ?_, ⟨_, rfl⟩, hW, hsame.mono (by decide) (by decide)⟩
  show Q_csize Z a n h0 n0 _ T1.heap _
  exact ⟨rfl, N0, e1⟩
theorem d26_0 : decode jdk_41_method_11_code 0 = .ok (.iload_n 0, 1) := by decide +kernel
theorem d26_1 : decode jdk_41_method_11_code 1 = .ok (.ifCond .lt 8, 3) := by decide +kernel
theorem d26_4 : decode jdk_41_method_11_code 4 = .ok (.iload_n 0, 1) := by decide +kernel
theorem d26_5 : decode jdk_41_method_11_code 5 = .ok (.iload_n 1, 1) := by decide +kernel
theorem d26_6 : decode jdk_41_method_11_code 6 = .ok (.if_icmp .lt 10, 3) := by decide +kernel
theorem d26_16 : decode jdk_41_method_11_code 16 = .ok (.iload_n 0, 1) := by decide +kernel
theorem d26_17 : decode jdk_41_method_11_code 17 = .ok (.ireturn, 1) := by decide +kernel
abbrev Rm_cpci : Room := { frames := 0, cells := 0, slots := 0, locals := 0 }
def Q_cpci (Z : State) (i : Int32) (n : Int32) (h0 : Heap) (n0 : Nat) (v : Option Value) (h : Heap) (L : List Loc) : Prop := v = some (.int i) ∧ Fr n0 L ∧ h = h0
theorem pn_jdk_internal_util_Preconditions : plainName "jdk/internal/util/Preconditions" = true := by first | (simp [plainName, overriddenIn]; done) | decide +kernel
theorem ef_cpci (m : MethodId) (i : Int32) (n : Int32) : entryFrame m #[(.int i), (.int n), .null] 3 = mkF m 0 #[.val (.int i), .val (.int n), .val .null] [] := by first | (simp [entryFrame, mkF, argsToLocals, Value.category]; done) | rfl
set_option maxRecDepth 65536 in
set_option maxHeartbeats 40000000 in
theorem cpci (l : Launch) (Z : State) (a0 : Array Value) (hw : ∀ d ∈ tables_1, d.before a0 Z = true) (ws : List Jvm.Cond) (i : Int32) (n : Int32) (h0 : Heap) (n0 : Nat) (h1 : ¬ i < (0 : Int32)) (h2 : i < n) :
    MetFree l (⟨"jdk/internal/util/Preconditions", "checkIndex", "(IILjava/util/function/BiFunction;)I"⟩ : MethodName) (head1 (Jvm.Cond.code (⟨"jdk/internal/util/Preconditions", "checkIndex", "(IILjava/util/function/BiFunction;)I"⟩ : MethodName) jdk_41_method_11_code 3 (some .int) :: ws) Rm_cpci) (fun aA uU => aA = #[(.int i), (.int n), .null] ∧ Z.Warmed39 uU.vm ∧ uU.heap = h0) (fun _ _ _ _ _ => True) (fun _ uU oO uU' => ∃ vV lL, oO = .returned vV ∧ Q_cpci Z i n h0 n0 vV uU'.heap lL ∧ FrameEnd uU oO uU' lL Rm_cpci.cells Rm_cpci.slots) := by
  refine MetFree.of_bodySF (plainFor_of_name pn_jdk_internal_util_Preconditions) hisR ?_
  intro p e s m args below meth c s₁ Bd hml0 hP hK
  obtain ⟨rfl, hZ, hh⟩ := hP
  have hx := Bd.exec
  have hby := Bd.bytes
  have hml : c.maxLocals = 3 := hml0
  have hown : s.vm.findClass "jdk/internal/util/Preconditions" = some m.cls := findClass_of_methodNamed Bd.named
  have hnm := (name_of_methodNamed Bd.named Bd.method).1
  have X0 : Stand p l e Rm_cpci s m #[(.int i), (.int n), .null] below meth c s₁ [] 0 0 := Stand.of_body Bd
  have e0 : s₁.heap = h0 := by rw [← hh, Bd.state]; rfl
  have N0 := Fr.nil n0
  refine Rch.out (Rch.st (fun t k => castTop (ef_cpci m i n) k) ?_)
  show Rch p.tables e below _ (s₁.setTop (mkF m 0 #[.val (.int i), .val (.int n), .val .null] []))
  refine Rch.st (fun _ hr => XS.iloadN X0.here hx rfl (hb hby d26_0) rfl hr) ?_
  refine Rch.st (fun _ hr => XS.ifNo X0.here hx rfl (hb hby d26_1) rfl ((if0 _ _).trans (flt h1).1) hr) ?_
  refine Rch.st (fun _ hr => XS.iloadN X0.here hx rfl (hb hby d26_4) rfl hr) ?_
  refine Rch.st (fun _ hr => XS.iloadN X0.here hx rfl (hb hby d26_5) rfl hr) ?_
  refine Rch.st (fun _ hr => XS.icmpYes X0.here hx rfl (pc0 := 6) (pc' := 16) rfl (hb hby d26_6) rfl (tlt h2).1 (by decide) (by decide) hr) ?_
  refine Rch.st (fun _ hr => XS.iloadN X0.here hx rfl (hb hby d26_16) rfl hr) ?_
  show Rch p.tables e below _ (s₁.setTop (mkF m 17 #[.val (.int i), .val (.int n), .val .null] [(.int i)]))
  obtain ⟨fs, hr, hrun, hended, hW, hsame⟩ := X0.leave (v := some (.int i)) (fun h => by rw [Bd.returns] at h; cases h)
  refine Rch.fin (u := s₁.setFrames fs) (own_retI X0 hx Bd.returns (hb hby d26_17) hr) ⟨_, hrun, hended, _, _, rfl, ?_, ⟨_, rfl⟩, hW, hsame.mono (by decide) (by decide)⟩
  show Q_cpci Z i n h0 n0 _ s₁.heap _
  exact ⟨rfl, N0, e0⟩
theorem d25_0 : decode jdk_31_method_17_code 0 = .ok (.iload_n 0, 1) := by decide +kernel
theorem d25_1 : decode jdk_31_method_17_code 1 = .ok (.iload_n 1, 1) := by decide +kernel
theorem d25_2 : decode jdk_31_method_17_code 2 = .ok (.aconst_null, 1) := by decide +kernel
theorem d25_3 : decode jdk_31_method_17_code 3 = .ok (.invokestatic 105, 3) := by decide +kernel
theorem pd_16 : parseMethodDescriptor "(IILjava/util/function/BiFunction;)I" = some ⟨[.int, .int, (.object "java/util/function/BiFunction")], some .int⟩ := by decide +kernel
abbrev Y_18 : MethodName := ⟨"jdk/internal/util/Preconditions", "checkIndex", "(IILjava/util/function/BiFunction;)I"⟩
theorem d25_6 : decode jdk_31_method_17_code 6 = .ok (.ireturn, 1) := by decide +kernel
abbrev Rm_coci : Room := { frames := 1, cells := 0, slots := 0, locals := 14 }
def Q_coci (Z : State) (i : Int32) (n : Int32) (h0 : Heap) (n0 : Nat) (v : Option Value) (h : Heap) (L : List Loc) : Prop := v = some (.int i) ∧ Fr n0 L ∧ h = h0
theorem pn_java_util_Objects : plainName "java/util/Objects" = true := by first | (simp [plainName, overriddenIn]; done) | decide +kernel
theorem ef_coci (m : MethodId) (i : Int32) (n : Int32) : entryFrame m #[(.int i), (.int n)] 2 = mkF m 0 #[.val (.int i), .val (.int n)] [] := by first | (simp [entryFrame, mkF, argsToLocals, Value.category]; done) | rfl
set_option maxRecDepth 65536 in
set_option maxHeartbeats 40000000 in
theorem coci (l : Launch) (Z : State) (a0 : Array Value) (hw : ∀ d ∈ tables_1, d.before a0 Z = true) (ws : List Jvm.Cond) (i : Int32) (n : Int32) (h0 : Heap) (n0 : Nat) (h1 : ¬ i < (0 : Int32)) (h2 : i < n) :
    MetFree l (⟨"java/util/Objects", "checkIndex", "(II)I"⟩ : MethodName) (head1 (Jvm.Cond.code (⟨"java/util/Objects", "checkIndex", "(II)I"⟩ : MethodName) jdk_31_method_17_code 2 (some .int) :: ws) Rm_coci) (fun aA uU => aA = #[(.int i), (.int n)] ∧ Z.Warmed39 uU.vm ∧ uU.heap = h0) (fun _ _ _ _ _ => True) (fun _ uU oO uU' => ∃ vV lL, oO = .returned vV ∧ Q_coci Z i n h0 n0 vV uU'.heap lL ∧ FrameEnd uU oO uU' lL Rm_coci.cells Rm_coci.slots) := by
  refine MetFree.of_bodySF (plainFor_of_name pn_java_util_Objects) hisR ?_
  intro p e s m args below meth c s₁ Bd hml0 hP hK
  obtain ⟨rfl, hZ, hh⟩ := hP
  have hx := Bd.exec
  have hby := Bd.bytes
  have hml : c.maxLocals = 2 := hml0
  have hown : s.vm.findClass "java/util/Objects" = some m.cls := findClass_of_methodNamed Bd.named
  have hnm := (name_of_methodNamed Bd.named Bd.method).1
  have X0 : Stand p l e Rm_coci s m #[(.int i), (.int n)] below meth c s₁ [] 0 0 := Stand.of_body Bd
  have e0 : s₁.heap = h0 := by rw [← hh, Bd.state]; rfl
  have N0 := Fr.nil n0
  refine Rch.out (Rch.st (fun t k => castTop (ef_coci m i n) k) ?_)
  show Rch p.tables e below _ (s₁.setTop (mkF m 0 #[.val (.int i), .val (.int n)] []))
  refine Rch.st (fun _ hr => XS.iloadN X0.here hx rfl (hb hby d25_0) rfl hr) ?_
  refine Rch.st (fun _ hr => XS.iloadN X0.here hx rfl (hb hby d25_1) rfl hr) ?_
  refine Rch.st (fun _ hr => XS.aconstNull X0.here hx rfl (hb hby d25_2) hr) ?_
  show Rch p.tables e below _ (s₁.setTop (mkF m 3 #[.val (.int i), .val (.int n)] [.null, (.int n), (.int i)]))
  refine own_kS X0 hx hZ (y := Y_18) hown (own_w hw 178 rfl) (own_w hw 179 rfl) (own_w hw 180 rfl) (own_w hw 181 rfl) (by decide) (W := 0) (cpci l Z a0 hw [] i n h0 n0 h1 h2) (by decide) (by decide) e0 (by decide) (by decide)  (by rw [hml]; rfl) (argsL := [(.int i), (.int n), .null]) (rest := []) (lenOf pd_16 rfl) rfl rfl (hb hby d25_3) rfl (fun _ T1 Lc1 X1 hQ1 => ?_)
  obtain ⟨rfl, N1q, e1⟩ := hQ1
  have N1 := Fr.app N0 N1q
  obtain ⟨fs, hr, hrun, hended, hW, hsame⟩ := X1.leave (v := some (.int i)) (fun h => by rw [Bd.returns] at h; cases h)
  refine Rch.fin (u := T1.setFrames fs) (own_retI X1 hx Bd.returns (hb hby d25_6) hr) ⟨_, hrun, hended, _, _, rfl, ?_, ⟨_, rfl⟩, hW, hsame.mono (by decide) (by decide)⟩
  show Q_coci Z i n h0 n0 _ T1.heap _
  exact ⟨rfl, N1, e1⟩
theorem d27_0 : decode jdk_38_method_18_code 0 = .ok (.aload_n 0, 1) := by decide +kernel
theorem d27_1 : decode jdk_38_method_18_code 1 = .ok (.getfield 9, 3) := by decide +kernel
theorem d27_4 : decode jdk_38_method_18_code 4 = .ok (.iload_n 1, 1) := by decide +kernel
theorem d27_5 : decode jdk_38_method_18_code 5 = .ok (.aaload, 1) := by decide +kernel
theorem d27_6 : decode jdk_38_method_18_code 6 = .ok (.areturn, 1) := by decide +kernel
abbrev Rm_celd1_0 : Room := { frames := 0, cells := 0, slots := 0, locals := 0 }
def Q_celd1_0 (Z : State) (a : Addr) (d : Addr) (kd : ClassId) (ea : Addr) (h0 : Heap) (n0 : Nat) (v : Option Value) (h : Heap) (L : List Loc) : Prop := v = some (.ref ea) ∧ Fr n0 L ∧ h = h0
theorem ef_celd1_0 (m : MethodId) (a : Addr) (d : Addr) (kd : ClassId) (ea : Addr) : entryFrame m #[(.ref a), (.int (0 : Int32))] 2 = mkF m 0 #[.val (.ref a), .val (.int (0 : Int32))] [] := by first | (simp [entryFrame, mkF, argsToLocals, Value.category]; done) | rfl
set_option maxRecDepth 65536 in
set_option maxHeartbeats 40000000 in
theorem celd1_0 (l : Launch) (Z : State) (a0 : Array Value) (hw : ∀ d ∈ tables_1, d.before a0 Z = true) (ws : List Jvm.Cond) (a : Addr) (d : Addr) (kd : ClassId) (ea : Addr) (h0 : Heap) (n0 : Nat) (zP0 : Exa Z h0 a "java/util/ArrayList") (zP1 : Fld Z h0 a "java/util/ArrayList" "elementData" "[Ljava/lang/Object;" (.ref d)) (zP2 : Fld Z h0 a "java/util/ArrayList" "size" "I" (.int (1 : Int32))) (zP3 : Arv Z h0 d kd (.object "java/lang/Object") (10 : Int32) [(.ref ea), .null, .null, .null, .null, .null, .null, .null, .null, .null] .null) :
    MetFree l (⟨"java/util/ArrayList", "elementData", "(I)Ljava/lang/Object;"⟩ : MethodName) (head1 (Jvm.Cond.code (⟨"java/util/ArrayList", "elementData", "(I)Ljava/lang/Object;"⟩ : MethodName) jdk_38_method_18_code 2 (some (.object "java/lang/Object")) :: ws) Rm_celd1_0) (fun aA uU => aA = #[(.ref a), (.int (0 : Int32))] ∧ Z.Warmed39 uU.vm ∧ uU.heap = h0) (fun _ _ _ _ _ => True) (fun _ uU oO uU' => ∃ vV lL, oO = .returned vV ∧ Q_celd1_0 Z a d kd ea h0 n0 vV uU'.heap lL ∧ FrameEnd uU oO uU' lL Rm_celd1_0.cells Rm_celd1_0.slots) := by
  refine MetFree.of_bodySF (plainFor_of_name pn_java_util_ArrayList) hisR ?_
  intro p e s m args below meth c s₁ Bd hml0 hP hK
  obtain ⟨rfl, hZ, hh⟩ := hP
  have hx := Bd.exec
  have hby := Bd.bytes
  have hml : c.maxLocals = 2 := hml0
  have hown : s.vm.findClass "java/util/ArrayList" = some m.cls := findClass_of_methodNamed Bd.named
  have hnm := (name_of_methodNamed Bd.named Bd.method).1
  have X0 : Stand p l e Rm_celd1_0 s m #[(.ref a), (.int (0 : Int32))] below meth c s₁ [] 0 0 := Stand.of_body Bd
  have e0 : s₁.heap = h0 := by rw [← hh, Bd.state]; rfl
  have N0 := Fr.nil n0
  refine Rch.out (Rch.st (fun t k => castTop (ef_celd1_0 m a d kd ea) k) ?_)
  show Rch p.tables e below _ (s₁.setTop (mkF m 0 #[.val (.ref a), .val (.int (0 : Int32))] []))
  refine Rch.st (fun _ hr => XS.aloadN X0.here hx rfl (hb hby d27_0) rfl rfl hr) ?_
  obtain ⟨T1, X1, e1, st1⟩ := getF X0 hx hZ hown (host := "") (Or.inl (own_w hw 24 rfl)) Via.refl e0 zP1 (g := (mkF m 1 #[.val (.ref a), .val (.int (0 : Int32))] [(.ref a)])) rfl rfl (hb hby d27_1)
  refine Rch.st st1 ?_
  refine Rch.st (fun _ hr => XS.iloadN X1.here hx rfl (hb hby d27_4) rfl hr) ?_
  obtain ⟨cl2, Ar2, -, Sz2, Ng2, Ha2, -⟩ := id zP3
  have hin2 := inb_of (j := (0 : Int32)) Sz2 ⟨by decide, by decide⟩
  have hat2 := Ha2.at hin2 (v := (.ref ea)) rfl
  refine Rch.st (fun t hr => X1.aaload hx (j := (0 : Int32)) (v := (.ref ea)) (by rw [e1]; exact Ar2.1) (State.isArrayOf_alike hZ.alike Ar2.2.1) rfl Ar2.2.2 hin2 hat2 (g := (mkF m 5 #[.val (.ref a), .val (.int (0 : Int32))] [(.int (0 : Int32)), (.ref d)])) rfl rfl (hb hby d27_5) t hr) ?_
  obtain ⟨fs, hr, hrun, hended, hW, hsame⟩ := X1.leave (v := some (.ref ea)) (fun h => by rw [Bd.returns] at h; cases h)
  refine Rch.fin (u := T1.setFrames fs) (own_retA X1 hx Bd.returns rfl rfl rfl (hb hby d27_6) hr) ⟨_, hrun, hended, _, _, rfl, ?_, ⟨_, rfl⟩, hW, hsame.mono (by decide) (by decide)⟩
  show Q_celd1_0 Z a d kd ea h0 n0 _ T1.heap _
  exact ⟨rfl, N0, e1⟩
theorem d24_0 : decode jdk_38_method_20_code 0 = .ok (.iload_n 1, 1) := by decide +kernel
theorem d24_1 : decode jdk_38_method_20_code 1 = .ok (.aload_n 0, 1) := by decide +kernel
theorem d24_2 : decode jdk_38_method_20_code 2 = .ok (.getfield 48, 3) := by decide +kernel
theorem d24_5 : decode jdk_38_method_20_code 5 = .ok (.invokestatic 118, 3) := by decide +kernel
abbrev Y_19 : MethodName := ⟨"java/util/Objects", "checkIndex", "(II)I"⟩
theorem d24_8 : decode jdk_38_method_20_code 8 = .ok (.pop, 1) := by decide +kernel
theorem d24_9 : decode jdk_38_method_20_code 9 = .ok (.aload_n 0, 1) := by decide +kernel
theorem d24_10 : decode jdk_38_method_20_code 10 = .ok (.iload_n 1, 1) := by decide +kernel
theorem d24_11 : decode jdk_38_method_20_code 11 = .ok (.invokevirtual 123, 3) := by decide +kernel
theorem pd_17 : parseMethodDescriptor "(I)Ljava/lang/Object;" = some ⟨[.int], some (.object "java/lang/Object")⟩ := by decide +kernel
abbrev Y_20 : MethodName := ⟨"java/util/ArrayList", "elementData", "(I)Ljava/lang/Object;"⟩
theorem d24_14 : decode jdk_38_method_20_code 14 = .ok (.areturn, 1) := by decide +kernel
abbrev Rm_cget1_0 : Room := { frames := 2, cells := 0, slots := 0, locals := 27 }
def Q_cget1_0 (Z : State) (a : Addr) (d : Addr) (kd : ClassId) (ea : Addr) (h0 : Heap) (n0 : Nat) (v : Option Value) (h : Heap) (L : List Loc) : Prop := v = some (.ref ea) ∧ Fr n0 L ∧ h = h0
theorem ef_cget1_0 (m : MethodId) (a : Addr) (d : Addr) (kd : ClassId) (ea : Addr) : entryFrame m #[(.ref a), (.int (0 : Int32))] 2 = mkF m 0 #[.val (.ref a), .val (.int (0 : Int32))] [] := by first | (simp [entryFrame, mkF, argsToLocals, Value.category]; done) | rfl
set_option maxRecDepth 65536 in
set_option maxHeartbeats 40000000 in
theorem cget1_0 (l : Launch) (Z : State) (a0 : Array Value) (hw : ∀ d ∈ tables_1, d.before a0 Z = true) (ws : List Jvm.Cond) (a : Addr) (d : Addr) (kd : ClassId) (ea : Addr) (h0 : Heap) (n0 : Nat) (zP0 : Exa Z h0 a "java/util/ArrayList") (zP1 : Fld Z h0 a "java/util/ArrayList" "elementData" "[Ljava/lang/Object;" (.ref d)) (zP2 : Fld Z h0 a "java/util/ArrayList" "size" "I" (.int (1 : Int32))) (zP3 : Arv Z h0 d kd (.object "java/lang/Object") (10 : Int32) [(.ref ea), .null, .null, .null, .null, .null, .null, .null, .null, .null] .null) :
    MetFree l (⟨"java/util/ArrayList", "get", "(I)Ljava/lang/Object;"⟩ : MethodName) (head1 (Jvm.Cond.code (⟨"java/util/ArrayList", "get", "(I)Ljava/lang/Object;"⟩ : MethodName) jdk_38_method_20_code 2 (some (.object "java/lang/Object")) :: ws) Rm_cget1_0) (fun aA uU => aA = #[(.ref a), (.int (0 : Int32))] ∧ Z.Warmed39 uU.vm ∧ uU.heap = h0) (fun _ _ _ _ _ => True) (fun _ uU oO uU' => ∃ vV lL, oO = .returned vV ∧ Q_cget1_0 Z a d kd ea h0 n0 vV uU'.heap lL ∧ FrameEnd uU oO uU' lL Rm_cget1_0.cells Rm_cget1_0.slots) := by
  refine MetFree.of_bodySF (plainFor_of_name pn_java_util_ArrayList) hisR ?_
  intro p e s m args below meth c s₁ Bd hml0 hP hK
  obtain ⟨rfl, hZ, hh⟩ := hP
  have hx := Bd.exec
  have hby := Bd.bytes
  have hml : c.maxLocals = 2 := hml0
  have hown : s.vm.findClass "java/util/ArrayList" = some m.cls := findClass_of_methodNamed Bd.named
  have hnm := (name_of_methodNamed Bd.named Bd.method).1
  have X0 : Stand p l e Rm_cget1_0 s m #[(.ref a), (.int (0 : Int32))] below meth c s₁ [] 0 0 := Stand.of_body Bd
  have e0 : s₁.heap = h0 := by rw [← hh, Bd.state]; rfl
  have N0 := Fr.nil n0
  refine Rch.out (Rch.st (fun t k => castTop (ef_cget1_0 m a d kd ea) k) ?_)
  show Rch p.tables e below _ (s₁.setTop (mkF m 0 #[.val (.ref a), .val (.int (0 : Int32))] []))
  refine Rch.st (fun _ hr => XS.iloadN X0.here hx rfl (hb hby d24_0) rfl hr) ?_
  refine Rch.st (fun _ hr => XS.aloadN X0.here hx rfl (hb hby d24_1) rfl rfl hr) ?_
  obtain ⟨T1, X1, e1, st1⟩ := getF X0 hx hZ hown (host := "") (Or.inl (own_w hw 52 rfl)) Via.refl e0 zP2 (g := (mkF m 2 #[.val (.ref a), .val (.int (0 : Int32))] [(.ref a), (.int (0 : Int32))])) rfl rfl (hb hby d24_2)
  refine Rch.st st1 ?_
  show Rch p.tables e below _ (T1.setTop (mkF m 5 #[.val (.ref a), .val (.int (0 : Int32))] [(.int (1 : Int32)), (.int (0 : Int32))]))
  refine own_kS X1 hx hZ (y := Y_19) hown (own_w hw 174 rfl) (own_w hw 175 rfl) (own_w hw 176 rfl) (own_w hw 177 rfl) (by decide) (W := 0) (coci l Z a0 hw [] (0 : Int32) (1 : Int32) h0 n0 (by decide) (by decide)) (by decide) (by decide) e1 (by decide) (by decide)  (by rw [hml]; rfl) (argsL := [(.int (0 : Int32)), (.int (1 : Int32))]) (rest := []) (lenOf pd_12 rfl) rfl rfl (hb hby d24_5) rfl (fun _ T2 Lc2 X2 hQ2 => ?_)
  obtain ⟨rfl, N2q, e2⟩ := hQ2
  have N2 := Fr.app N0 N2q
  refine Rch.st (fun _ hr => XS.pop X2.here hx rfl (hb hby d24_8) rfl rfl hr) ?_
  refine Rch.st (fun _ hr => XS.aloadN X2.here hx rfl (hb hby d24_9) rfl rfl hr) ?_
  show Rch p.tables e below _ (T2.setTop (mkF m 10 #[.val (.ref a), .val (.int (0 : Int32))] [(.ref a)]))
  refine Rch.st (fun _ hr => XS.iloadN X2.here hx rfl (hb hby d24_10) rfl hr) ?_
  show Rch p.tables e below _ (T2.setTop (mkF m 11 #[.val (.ref a), .val (.int (0 : Int32))] [(.int (0 : Int32)), (.ref a)]))
  refine own_kV X2 hx hZ (y := Y_20) (z := Y_20) hown (own_w hw 182 rfl) (own_w hw 183 rfl) (notFace_of_selects (args := #[]) (mvT hZ (own_w hw 185 rfl))) (own_w hw 185 rfl) (own_w hw 184 rfl) (own_w hw 2 rfl) (own_w hw 186 rfl) (by decide) (W := 0) (celd1_0 l Z a0 hw [] a d kd ea h0 n0 zP0 zP1 zP2 zP3) (by decide) (by decide) e2 zP0 (by decide) (by decide)  (by rw [hml]; rfl) (argsL := [(.int (0 : Int32))]) (rest := []) (lenOf pd_17 rfl) rfl rfl (hb hby d24_11) rfl (fun _ T3 Lc3 X3 hQ3 => ?_)
  obtain ⟨rfl, N3q, e3⟩ := hQ3
  have N3 := Fr.app N2 N3q
  obtain ⟨fs, hr, hrun, hended, hW, hsame⟩ := X3.leave (v := some (.ref ea)) (fun h => by rw [Bd.returns] at h; cases h)
  refine Rch.fin (u := T3.setFrames fs) (own_retA X3 hx Bd.returns rfl rfl rfl (hb hby d24_14) hr) ⟨_, hrun, hended, _, _, rfl, ?_, ⟨_, rfl⟩, hW, hsame.mono (by decide) (by decide)⟩
  show Q_cget1_0 Z a d kd ea h0 n0 _ T3.heap _
  exact ⟨rfl, N3, e3⟩
abbrev Rm_celd2_0 : Room := { frames := 0, cells := 0, slots := 0, locals := 0 }
def Q_celd2_0 (Z : State) (a : Addr) (d : Addr) (kd : ClassId) (ea : Addr) (eb : Addr) (h0 : Heap) (n0 : Nat) (v : Option Value) (h : Heap) (L : List Loc) : Prop := v = some (.ref ea) ∧ Fr n0 L ∧ h = h0
theorem ef_celd2_0 (m : MethodId) (a : Addr) (d : Addr) (kd : ClassId) (ea : Addr) (eb : Addr) : entryFrame m #[(.ref a), (.int (0 : Int32))] 2 = mkF m 0 #[.val (.ref a), .val (.int (0 : Int32))] [] := by first | (simp [entryFrame, mkF, argsToLocals, Value.category]; done) | rfl
set_option maxRecDepth 65536 in
set_option maxHeartbeats 40000000 in
theorem celd2_0 (l : Launch) (Z : State) (a0 : Array Value) (hw : ∀ d ∈ tables_1, d.before a0 Z = true) (ws : List Jvm.Cond) (a : Addr) (d : Addr) (kd : ClassId) (ea : Addr) (eb : Addr) (h0 : Heap) (n0 : Nat) (zP0 : Exa Z h0 a "java/util/ArrayList") (zP1 : Fld Z h0 a "java/util/ArrayList" "elementData" "[Ljava/lang/Object;" (.ref d)) (zP2 : Fld Z h0 a "java/util/ArrayList" "size" "I" (.int (2 : Int32))) (zP3 : Arv Z h0 d kd (.object "java/lang/Object") (10 : Int32) [(.ref ea), (.ref eb), .null, .null, .null, .null, .null, .null, .null, .null] .null) :
    MetFree l (⟨"java/util/ArrayList", "elementData", "(I)Ljava/lang/Object;"⟩ : MethodName) (head1 (Jvm.Cond.code (⟨"java/util/ArrayList", "elementData", "(I)Ljava/lang/Object;"⟩ : MethodName) jdk_38_method_18_code 2 (some (.object "java/lang/Object")) :: ws) Rm_celd2_0) (fun aA uU => aA = #[(.ref a), (.int (0 : Int32))] ∧ Z.Warmed39 uU.vm ∧ uU.heap = h0) (fun _ _ _ _ _ => True) (fun _ uU oO uU' => ∃ vV lL, oO = .returned vV ∧ Q_celd2_0 Z a d kd ea eb h0 n0 vV uU'.heap lL ∧ FrameEnd uU oO uU' lL Rm_celd2_0.cells Rm_celd2_0.slots) := by
  refine MetFree.of_bodySF (plainFor_of_name pn_java_util_ArrayList) hisR ?_
  intro p e s m args below meth c s₁ Bd hml0 hP hK
  obtain ⟨rfl, hZ, hh⟩ := hP
  have hx := Bd.exec
  have hby := Bd.bytes
  have hml : c.maxLocals = 2 := hml0
  have hown : s.vm.findClass "java/util/ArrayList" = some m.cls := findClass_of_methodNamed Bd.named
  have hnm := (name_of_methodNamed Bd.named Bd.method).1
  have X0 : Stand p l e Rm_celd2_0 s m #[(.ref a), (.int (0 : Int32))] below meth c s₁ [] 0 0 := Stand.of_body Bd
  have e0 : s₁.heap = h0 := by rw [← hh, Bd.state]; rfl
  have N0 := Fr.nil n0
  refine Rch.out (Rch.st (fun t k => castTop (ef_celd2_0 m a d kd ea eb) k) ?_)
  show Rch p.tables e below _ (s₁.setTop (mkF m 0 #[.val (.ref a), .val (.int (0 : Int32))] []))
  refine Rch.st (fun _ hr => XS.aloadN X0.here hx rfl (hb hby d27_0) rfl rfl hr) ?_
  obtain ⟨T1, X1, e1, st1⟩ := getF X0 hx hZ hown (host := "") (Or.inl (own_w hw 24 rfl)) Via.refl e0 zP1 (g := (mkF m 1 #[.val (.ref a), .val (.int (0 : Int32))] [(.ref a)])) rfl rfl (hb hby d27_1)
  refine Rch.st st1 ?_
  refine Rch.st (fun _ hr => XS.iloadN X1.here hx rfl (hb hby d27_4) rfl hr) ?_
  obtain ⟨cl2, Ar2, -, Sz2, Ng2, Ha2, -⟩ := id zP3
  have hin2 := inb_of (j := (0 : Int32)) Sz2 ⟨by decide, by decide⟩
  have hat2 := Ha2.at hin2 (v := (.ref ea)) rfl
  refine Rch.st (fun t hr => X1.aaload hx (j := (0 : Int32)) (v := (.ref ea)) (by rw [e1]; exact Ar2.1) (State.isArrayOf_alike hZ.alike Ar2.2.1) rfl Ar2.2.2 hin2 hat2 (g := (mkF m 5 #[.val (.ref a), .val (.int (0 : Int32))] [(.int (0 : Int32)), (.ref d)])) rfl rfl (hb hby d27_5) t hr) ?_
  obtain ⟨fs, hr, hrun, hended, hW, hsame⟩ := X1.leave (v := some (.ref ea)) (fun h => by rw [Bd.returns] at h; cases h)
  refine Rch.fin (u := T1.setFrames fs) (own_retA X1 hx Bd.returns rfl rfl rfl (hb hby d27_6) hr) ⟨_, hrun, hended, _, _, rfl, ?_, ⟨_, rfl⟩, hW, hsame.mono (by decide) (by decide)⟩
  show Q_celd2_0 Z a d kd ea eb h0 n0 _ T1.heap _
  exact ⟨rfl, N0, e1⟩
abbrev Rm_cget2_0 : Room := { frames := 2, cells := 0, slots := 0, locals := 27 }
def Q_cget2_0 (Z : State) (a : Addr) (d : Addr) (kd : ClassId) (ea : Addr) (eb : Addr) (h0 : Heap) (n0 : Nat) (v : Option Value) (h : Heap) (L : List Loc) : Prop := v = some (.ref ea) ∧ Fr n0 L ∧ h = h0
theorem ef_cget2_0 (m : MethodId) (a : Addr) (d : Addr) (kd : ClassId) (ea : Addr) (eb : Addr) : entryFrame m #[(.ref a), (.int (0 : Int32))] 2 = mkF m 0 #[.val (.ref a), .val (.int (0 : Int32))] [] := by first | (simp [entryFrame, mkF, argsToLocals, Value.category]; done) | rfl
set_option maxRecDepth 65536 in
set_option maxHeartbeats 40000000 in
theorem cget2_0 (l : Launch) (Z : State) (a0 : Array Value) (hw : ∀ d ∈ tables_1, d.before a0 Z = true) (ws : List Jvm.Cond) (a : Addr) (d : Addr) (kd : ClassId) (ea : Addr) (eb : Addr) (h0 : Heap) (n0 : Nat) (zP0 : Exa Z h0 a "java/util/ArrayList") (zP1 : Fld Z h0 a "java/util/ArrayList" "elementData" "[Ljava/lang/Object;" (.ref d)) (zP2 : Fld Z h0 a "java/util/ArrayList" "size" "I" (.int (2 : Int32))) (zP3 : Arv Z h0 d kd (.object "java/lang/Object") (10 : Int32) [(.ref ea), (.ref eb), .null, .null, .null, .null, .null, .null, .null, .null] .null) :
    MetFree l (⟨"java/util/ArrayList", "get", "(I)Ljava/lang/Object;"⟩ : MethodName) (head1 (Jvm.Cond.code (⟨"java/util/ArrayList", "get", "(I)Ljava/lang/Object;"⟩ : MethodName) jdk_38_method_20_code 2 (some (.object "java/lang/Object")) :: ws) Rm_cget2_0) (fun aA uU => aA = #[(.ref a), (.int (0 : Int32))] ∧ Z.Warmed39 uU.vm ∧ uU.heap = h0) (fun _ _ _ _ _ => True) (fun _ uU oO uU' => ∃ vV lL, oO = .returned vV ∧ Q_cget2_0 Z a d kd ea eb h0 n0 vV uU'.heap lL ∧ FrameEnd uU oO uU' lL Rm_cget2_0.cells Rm_cget2_0.slots) := by
  refine MetFree.of_bodySF (plainFor_of_name pn_java_util_ArrayList) hisR ?_
  intro p e s m args below meth c s₁ Bd hml0 hP hK
  obtain ⟨rfl, hZ, hh⟩ := hP
  have hx := Bd.exec
  have hby := Bd.bytes
  have hml : c.maxLocals = 2 := hml0
  have hown : s.vm.findClass "java/util/ArrayList" = some m.cls := findClass_of_methodNamed Bd.named
  have hnm := (name_of_methodNamed Bd.named Bd.method).1
  have X0 : Stand p l e Rm_cget2_0 s m #[(.ref a), (.int (0 : Int32))] below meth c s₁ [] 0 0 := Stand.of_body Bd
  have e0 : s₁.heap = h0 := by rw [← hh, Bd.state]; rfl
  have N0 := Fr.nil n0
  refine Rch.out (Rch.st (fun t k => castTop (ef_cget2_0 m a d kd ea eb) k) ?_)
  show Rch p.tables e below _ (s₁.setTop (mkF m 0 #[.val (.ref a), .val (.int (0 : Int32))] []))
  refine Rch.st (fun _ hr => XS.iloadN X0.here hx rfl (hb hby d24_0) rfl hr) ?_
  refine Rch.st (fun _ hr => XS.aloadN X0.here hx rfl (hb hby d24_1) rfl rfl hr) ?_
  obtain ⟨T1, X1, e1, st1⟩ := getF X0 hx hZ hown (host := "") (Or.inl (own_w hw 52 rfl)) Via.refl e0 zP2 (g := (mkF m 2 #[.val (.ref a), .val (.int (0 : Int32))] [(.ref a), (.int (0 : Int32))])) rfl rfl (hb hby d24_2)
  refine Rch.st st1 ?_
  show Rch p.tables e below _ (T1.setTop (mkF m 5 #[.val (.ref a), .val (.int (0 : Int32))] [(.int (2 : Int32)), (.int (0 : Int32))]))
  refine own_kS X1 hx hZ (y := Y_19) hown (own_w hw 174 rfl) (own_w hw 175 rfl) (own_w hw 176 rfl) (own_w hw 177 rfl) (by decide) (W := 0) (coci l Z a0 hw [] (0 : Int32) (2 : Int32) h0 n0 (by decide) (by decide)) (by decide) (by decide) e1 (by decide) (by decide)  (by rw [hml]; rfl) (argsL := [(.int (0 : Int32)), (.int (2 : Int32))]) (rest := []) (lenOf pd_12 rfl) rfl rfl (hb hby d24_5) rfl (fun _ T2 Lc2 X2 hQ2 => ?_)
  obtain ⟨rfl, N2q, e2⟩ := hQ2
  have N2 := Fr.app N0 N2q
  refine Rch.st (fun _ hr => XS.pop X2.here hx rfl (hb hby d24_8) rfl rfl hr) ?_
  refine Rch.st (fun _ hr => XS.aloadN X2.here hx rfl (hb hby d24_9) rfl rfl hr) ?_
  show Rch p.tables e below _ (T2.setTop (mkF m 10 #[.val (.ref a), .val (.int (0 : Int32))] [(.ref a)]))
  refine Rch.st (fun _ hr => XS.iloadN X2.here hx rfl (hb hby d24_10) rfl hr) ?_
  show Rch p.tables e below _ (T2.setTop (mkF m 11 #[.val (.ref a), .val (.int (0 : Int32))] [(.int (0 : Int32)), (.ref a)]))
  refine own_kV X2 hx hZ (y := Y_20) (z := Y_20) hown (own_w hw 182 rfl) (own_w hw 183 rfl) (notFace_of_selects (args := #[]) (mvT hZ (own_w hw 185 rfl))) (own_w hw 185 rfl) (own_w hw 184 rfl) (own_w hw 2 rfl) (own_w hw 186 rfl) (by decide) (W := 0) (celd2_0 l Z a0 hw [] a d kd ea eb h0 n0 zP0 zP1 zP2 zP3) (by decide) (by decide) e2 zP0 (by decide) (by decide)  (by rw [hml]; rfl) (argsL := [(.int (0 : Int32))]) (rest := []) (lenOf pd_17 rfl) rfl rfl (hb hby d24_11) rfl (fun _ T3 Lc3 X3 hQ3 => ?_)
  obtain ⟨rfl, N3q, e3⟩ := hQ3
  have N3 := Fr.app N2 N3q
  obtain ⟨fs, hr, hrun, hended, hW, hsame⟩ := X3.leave (v := some (.ref ea)) (fun h => by rw [Bd.returns] at h; cases h)
  refine Rch.fin (u := T3.setFrames fs) (own_retA X3 hx Bd.returns rfl rfl rfl (hb hby d24_14) hr) ⟨_, hrun, hended, _, _, rfl, ?_, ⟨_, rfl⟩, hW, hsame.mono (by decide) (by decide)⟩
  show Q_cget2_0 Z a d kd ea eb h0 n0 _ T3.heap _
  exact ⟨rfl, N3, e3⟩
abbrev Rm_celd2_1 : Room := { frames := 0, cells := 0, slots := 0, locals := 0 }
def Q_celd2_1 (Z : State) (a : Addr) (d : Addr) (kd : ClassId) (ea : Addr) (eb : Addr) (h0 : Heap) (n0 : Nat) (v : Option Value) (h : Heap) (L : List Loc) : Prop := v = some (.ref eb) ∧ Fr n0 L ∧ h = h0
theorem ef_celd2_1 (m : MethodId) (a : Addr) (d : Addr) (kd : ClassId) (ea : Addr) (eb : Addr) : entryFrame m #[(.ref a), (.int (1 : Int32))] 2 = mkF m 0 #[.val (.ref a), .val (.int (1 : Int32))] [] := by first | (simp [entryFrame, mkF, argsToLocals, Value.category]; done) | rfl
set_option maxRecDepth 65536 in
set_option maxHeartbeats 40000000 in
theorem celd2_1 (l : Launch) (Z : State) (a0 : Array Value) (hw : ∀ d ∈ tables_1, d.before a0 Z = true) (ws : List Jvm.Cond) (a : Addr) (d : Addr) (kd : ClassId) (ea : Addr) (eb : Addr) (h0 : Heap) (n0 : Nat) (zP0 : Exa Z h0 a "java/util/ArrayList") (zP1 : Fld Z h0 a "java/util/ArrayList" "elementData" "[Ljava/lang/Object;" (.ref d)) (zP2 : Fld Z h0 a "java/util/ArrayList" "size" "I" (.int (2 : Int32))) (zP3 : Arv Z h0 d kd (.object "java/lang/Object") (10 : Int32) [(.ref ea), (.ref eb), .null, .null, .null, .null, .null, .null, .null, .null] .null) :
    MetFree l (⟨"java/util/ArrayList", "elementData", "(I)Ljava/lang/Object;"⟩ : MethodName) (head1 (Jvm.Cond.code (⟨"java/util/ArrayList", "elementData", "(I)Ljava/lang/Object;"⟩ : MethodName) jdk_38_method_18_code 2 (some (.object "java/lang/Object")) :: ws) Rm_celd2_1) (fun aA uU => aA = #[(.ref a), (.int (1 : Int32))] ∧ Z.Warmed39 uU.vm ∧ uU.heap = h0) (fun _ _ _ _ _ => True) (fun _ uU oO uU' => ∃ vV lL, oO = .returned vV ∧ Q_celd2_1 Z a d kd ea eb h0 n0 vV uU'.heap lL ∧ FrameEnd uU oO uU' lL Rm_celd2_1.cells Rm_celd2_1.slots) := by
  refine MetFree.of_bodySF (plainFor_of_name pn_java_util_ArrayList) hisR ?_
  intro p e s m args below meth c s₁ Bd hml0 hP hK
  obtain ⟨rfl, hZ, hh⟩ := hP
  have hx := Bd.exec
  have hby := Bd.bytes
  have hml : c.maxLocals = 2 := hml0
  have hown : s.vm.findClass "java/util/ArrayList" = some m.cls := findClass_of_methodNamed Bd.named
  have hnm := (name_of_methodNamed Bd.named Bd.method).1
  have X0 : Stand p l e Rm_celd2_1 s m #[(.ref a), (.int (1 : Int32))] below meth c s₁ [] 0 0 := Stand.of_body Bd
  have e0 : s₁.heap = h0 := by rw [← hh, Bd.state]; rfl
  have N0 := Fr.nil n0
  refine Rch.out (Rch.st (fun t k => castTop (ef_celd2_1 m a d kd ea eb) k) ?_)
  show Rch p.tables e below _ (s₁.setTop (mkF m 0 #[.val (.ref a), .val (.int (1 : Int32))] []))
  refine Rch.st (fun _ hr => XS.aloadN X0.here hx rfl (hb hby d27_0) rfl rfl hr) ?_
  obtain ⟨T1, X1, e1, st1⟩ := getF X0 hx hZ hown (host := "") (Or.inl (own_w hw 24 rfl)) Via.refl e0 zP1 (g := (mkF m 1 #[.val (.ref a), .val (.int (1 : Int32))] [(.ref a)])) rfl rfl (hb hby d27_1)
  refine Rch.st st1 ?_
  refine Rch.st (fun _ hr => XS.iloadN X1.here hx rfl (hb hby d27_4) rfl hr) ?_
  obtain ⟨cl2, Ar2, -, Sz2, Ng2, Ha2, -⟩ := id zP3
  have hin2 := inb_of (j := (1 : Int32)) Sz2 ⟨by decide, by decide⟩
  have hat2 := Ha2.at hin2 (v := (.ref eb)) rfl
  refine Rch.st (fun t hr => X1.aaload hx (j := (1 : Int32)) (v := (.ref eb)) (by rw [e1]; exact Ar2.1) (State.isArrayOf_alike hZ.alike Ar2.2.1) rfl Ar2.2.2 hin2 hat2 (g := (mkF m 5 #[.val (.ref a), .val (.int (1 : Int32))] [(.int (1 : Int32)), (.ref d)])) rfl rfl (hb hby d27_5) t hr) ?_
  obtain ⟨fs, hr, hrun, hended, hW, hsame⟩ := X1.leave (v := some (.ref eb)) (fun h => by rw [Bd.returns] at h; cases h)
  refine Rch.fin (u := T1.setFrames fs) (own_retA X1 hx Bd.returns rfl rfl rfl (hb hby d27_6) hr) ⟨_, hrun, hended, _, _, rfl, ?_, ⟨_, rfl⟩, hW, hsame.mono (by decide) (by decide)⟩
  show Q_celd2_1 Z a d kd ea eb h0 n0 _ T1.heap _
  exact ⟨rfl, N0, e1⟩
abbrev Rm_cget2_1 : Room := { frames := 2, cells := 0, slots := 0, locals := 27 }
def Q_cget2_1 (Z : State) (a : Addr) (d : Addr) (kd : ClassId) (ea : Addr) (eb : Addr) (h0 : Heap) (n0 : Nat) (v : Option Value) (h : Heap) (L : List Loc) : Prop := v = some (.ref eb) ∧ Fr n0 L ∧ h = h0
theorem ef_cget2_1 (m : MethodId) (a : Addr) (d : Addr) (kd : ClassId) (ea : Addr) (eb : Addr) : entryFrame m #[(.ref a), (.int (1 : Int32))] 2 = mkF m 0 #[.val (.ref a), .val (.int (1 : Int32))] [] := by first | (simp [entryFrame, mkF, argsToLocals, Value.category]; done) | rfl
set_option maxRecDepth 65536 in
set_option maxHeartbeats 40000000 in
theorem cget2_1 (l : Launch) (Z : State) (a0 : Array Value) (hw : ∀ d ∈ tables_1, d.before a0 Z = true) (ws : List Jvm.Cond) (a : Addr) (d : Addr) (kd : ClassId) (ea : Addr) (eb : Addr) (h0 : Heap) (n0 : Nat) (zP0 : Exa Z h0 a "java/util/ArrayList") (zP1 : Fld Z h0 a "java/util/ArrayList" "elementData" "[Ljava/lang/Object;" (.ref d)) (zP2 : Fld Z h0 a "java/util/ArrayList" "size" "I" (.int (2 : Int32))) (zP3 : Arv Z h0 d kd (.object "java/lang/Object") (10 : Int32) [(.ref ea), (.ref eb), .null, .null, .null, .null, .null, .null, .null, .null] .null) :
    MetFree l (⟨"java/util/ArrayList", "get", "(I)Ljava/lang/Object;"⟩ : MethodName) (head1 (Jvm.Cond.code (⟨"java/util/ArrayList", "get", "(I)Ljava/lang/Object;"⟩ : MethodName) jdk_38_method_20_code 2 (some (.object "java/lang/Object")) :: ws) Rm_cget2_1) (fun aA uU => aA = #[(.ref a), (.int (1 : Int32))] ∧ Z.Warmed39 uU.vm ∧ uU.heap = h0) (fun _ _ _ _ _ => True) (fun _ uU oO uU' => ∃ vV lL, oO = .returned vV ∧ Q_cget2_1 Z a d kd ea eb h0 n0 vV uU'.heap lL ∧ FrameEnd uU oO uU' lL Rm_cget2_1.cells Rm_cget2_1.slots) := by
  refine MetFree.of_bodySF (plainFor_of_name pn_java_util_ArrayList) hisR ?_
  intro p e s m args below meth c s₁ Bd hml0 hP hK
  obtain ⟨rfl, hZ, hh⟩ := hP
  have hx := Bd.exec
  have hby := Bd.bytes
  have hml : c.maxLocals = 2 := hml0
  have hown : s.vm.findClass "java/util/ArrayList" = some m.cls := findClass_of_methodNamed Bd.named
  have hnm := (name_of_methodNamed Bd.named Bd.method).1
  have X0 : Stand p l e Rm_cget2_1 s m #[(.ref a), (.int (1 : Int32))] below meth c s₁ [] 0 0 := Stand.of_body Bd
  have e0 : s₁.heap = h0 := by rw [← hh, Bd.state]; rfl
  have N0 := Fr.nil n0
  refine Rch.out (Rch.st (fun t k => castTop (ef_cget2_1 m a d kd ea eb) k) ?_)
  show Rch p.tables e below _ (s₁.setTop (mkF m 0 #[.val (.ref a), .val (.int (1 : Int32))] []))
  refine Rch.st (fun _ hr => XS.iloadN X0.here hx rfl (hb hby d24_0) rfl hr) ?_
  refine Rch.st (fun _ hr => XS.aloadN X0.here hx rfl (hb hby d24_1) rfl rfl hr) ?_
  obtain ⟨T1, X1, e1, st1⟩ := getF X0 hx hZ hown (host := "") (Or.inl (own_w hw 52 rfl)) Via.refl e0 zP2 (g := (mkF m 2 #[.val (.ref a), .val (.int (1 : Int32))] [(.ref a), (.int (1 : Int32))])) rfl rfl (hb hby d24_2)
  refine Rch.st st1 ?_
  show Rch p.tables e below _ (T1.setTop (mkF m 5 #[.val (.ref a), .val (.int (1 : Int32))] [(.int (2 : Int32)), (.int (1 : Int32))]))
  refine own_kS X1 hx hZ (y := Y_19) hown (own_w hw 174 rfl) (own_w hw 175 rfl) (own_w hw 176 rfl) (own_w hw 177 rfl) (by decide) (W := 0) (coci l Z a0 hw [] (1 : Int32) (2 : Int32) h0 n0 (by decide) (by decide)) (by decide) (by decide) e1 (by decide) (by decide)  (by rw [hml]; rfl) (argsL := [(.int (1 : Int32)), (.int (2 : Int32))]) (rest := []) (lenOf pd_12 rfl) rfl rfl (hb hby d24_5) rfl (fun _ T2 Lc2 X2 hQ2 => ?_)
  obtain ⟨rfl, N2q, e2⟩ := hQ2
  have N2 := Fr.app N0 N2q
  refine Rch.st (fun _ hr => XS.pop X2.here hx rfl (hb hby d24_8) rfl rfl hr) ?_
  refine Rch.st (fun _ hr => XS.aloadN X2.here hx rfl (hb hby d24_9) rfl rfl hr) ?_
  show Rch p.tables e below _ (T2.setTop (mkF m 10 #[.val (.ref a), .val (.int (1 : Int32))] [(.ref a)]))
  refine Rch.st (fun _ hr => XS.iloadN X2.here hx rfl (hb hby d24_10) rfl hr) ?_
  show Rch p.tables e below _ (T2.setTop (mkF m 11 #[.val (.ref a), .val (.int (1 : Int32))] [(.int (1 : Int32)), (.ref a)]))
  refine own_kV X2 hx hZ (y := Y_20) (z := Y_20) hown (own_w hw 182 rfl) (own_w hw 183 rfl) (notFace_of_selects (args := #[]) (mvT hZ (own_w hw 185 rfl))) (own_w hw 185 rfl) (own_w hw 184 rfl) (own_w hw 2 rfl) (own_w hw 186 rfl) (by decide) (W := 0) (celd2_1 l Z a0 hw [] a d kd ea eb h0 n0 zP0 zP1 zP2 zP3) (by decide) (by decide) e2 zP0 (by decide) (by decide)  (by rw [hml]; rfl) (argsL := [(.int (1 : Int32))]) (rest := []) (lenOf pd_17 rfl) rfl rfl (hb hby d24_11) rfl (fun _ T3 Lc3 X3 hQ3 => ?_)
  obtain ⟨rfl, N3q, e3⟩ := hQ3
  have N3 := Fr.app N2 N3q
  obtain ⟨fs, hr, hrun, hended, hW, hsame⟩ := X3.leave (v := some (.ref eb)) (fun h => by rw [Bd.returns] at h; cases h)
  refine Rch.fin (u := T3.setFrames fs) (own_retA X3 hx Bd.returns rfl rfl rfl (hb hby d24_14) hr) ⟨_, hrun, hended, _, _, rfl, ?_, ⟨_, rfl⟩, hW, hsame.mono (by decide) (by decide)⟩
  show Q_cget2_1 Z a d kd ea eb h0 n0 _ T3.heap _
  exact ⟨rfl, N3, e3⟩
abbrev Rm_celd3_0 : Room := { frames := 0, cells := 0, slots := 0, locals := 0 }
def Q_celd3_0 (Z : State) (a : Addr) (d : Addr) (kd : ClassId) (ea : Addr) (eb : Addr) (ec : Addr) (h0 : Heap) (n0 : Nat) (v : Option Value) (h : Heap) (L : List Loc) : Prop := v = some (.ref ea) ∧ Fr n0 L ∧ h = h0
theorem ef_celd3_0 (m : MethodId) (a : Addr) (d : Addr) (kd : ClassId) (ea : Addr) (eb : Addr) (ec : Addr) : entryFrame m #[(.ref a), (.int (0 : Int32))] 2 = mkF m 0 #[.val (.ref a), .val (.int (0 : Int32))] [] := by first | (simp [entryFrame, mkF, argsToLocals, Value.category]; done) | rfl
set_option maxRecDepth 65536 in
set_option maxHeartbeats 40000000 in
theorem celd3_0 (l : Launch) (Z : State) (a0 : Array Value) (hw : ∀ d ∈ tables_1, d.before a0 Z = true) (ws : List Jvm.Cond) (a : Addr) (d : Addr) (kd : ClassId) (ea : Addr) (eb : Addr) (ec : Addr) (h0 : Heap) (n0 : Nat) (zP0 : Exa Z h0 a "java/util/ArrayList") (zP1 : Fld Z h0 a "java/util/ArrayList" "elementData" "[Ljava/lang/Object;" (.ref d)) (zP2 : Fld Z h0 a "java/util/ArrayList" "size" "I" (.int (3 : Int32))) (zP3 : Arv Z h0 d kd (.object "java/lang/Object") (10 : Int32) [(.ref ea), (.ref eb), (.ref ec), .null, .null, .null, .null, .null, .null, .null] .null) :
    MetFree l (⟨"java/util/ArrayList", "elementData", "(I)Ljava/lang/Object;"⟩ : MethodName) (head1 (Jvm.Cond.code (⟨"java/util/ArrayList", "elementData", "(I)Ljava/lang/Object;"⟩ : MethodName) jdk_38_method_18_code 2 (some (.object "java/lang/Object")) :: ws) Rm_celd3_0) (fun aA uU => aA = #[(.ref a), (.int (0 : Int32))] ∧ Z.Warmed39 uU.vm ∧ uU.heap = h0) (fun _ _ _ _ _ => True) (fun _ uU oO uU' => ∃ vV lL, oO = .returned vV ∧ Q_celd3_0 Z a d kd ea eb ec h0 n0 vV uU'.heap lL ∧ FrameEnd uU oO uU' lL Rm_celd3_0.cells Rm_celd3_0.slots) := by
  refine MetFree.of_bodySF (plainFor_of_name pn_java_util_ArrayList) hisR ?_
  intro p e s m args below meth c s₁ Bd hml0 hP hK
  obtain ⟨rfl, hZ, hh⟩ := hP
  have hx := Bd.exec
  have hby := Bd.bytes
  have hml : c.maxLocals = 2 := hml0
  have hown : s.vm.findClass "java/util/ArrayList" = some m.cls := findClass_of_methodNamed Bd.named
  have hnm := (name_of_methodNamed Bd.named Bd.method).1
  have X0 : Stand p l e Rm_celd3_0 s m #[(.ref a), (.int (0 : Int32))] below meth c s₁ [] 0 0 := Stand.of_body Bd
  have e0 : s₁.heap = h0 := by rw [← hh, Bd.state]; rfl
  have N0 := Fr.nil n0
  refine Rch.out (Rch.st (fun t k => castTop (ef_celd3_0 m a d kd ea eb ec) k) ?_)
  show Rch p.tables e below _ (s₁.setTop (mkF m 0 #[.val (.ref a), .val (.int (0 : Int32))] []))
  refine Rch.st (fun _ hr => XS.aloadN X0.here hx rfl (hb hby d27_0) rfl rfl hr) ?_
  obtain ⟨T1, X1, e1, st1⟩ := getF X0 hx hZ hown (host := "") (Or.inl (own_w hw 24 rfl)) Via.refl e0 zP1 (g := (mkF m 1 #[.val (.ref a), .val (.int (0 : Int32))] [(.ref a)])) rfl rfl (hb hby d27_1)
  refine Rch.st st1 ?_
  refine Rch.st (fun _ hr => XS.iloadN X1.here hx rfl (hb hby d27_4) rfl hr) ?_
  obtain ⟨cl2, Ar2, -, Sz2, Ng2, Ha2, -⟩ := id zP3
  have hin2 := inb_of (j := (0 : Int32)) Sz2 ⟨by decide, by decide⟩
  have hat2 := Ha2.at hin2 (v := (.ref ea)) rfl
  refine Rch.st (fun t hr => X1.aaload hx (j := (0 : Int32)) (v := (.ref ea)) (by rw [e1]; exact Ar2.1) (State.isArrayOf_alike hZ.alike Ar2.2.1) rfl Ar2.2.2 hin2 hat2 (g := (mkF m 5 #[.val (.ref a), .val (.int (0 : Int32))] [(.int (0 : Int32)), (.ref d)])) rfl rfl (hb hby d27_5) t hr) ?_
  obtain ⟨fs, hr, hrun, hended, hW, hsame⟩ := X1.leave (v := some (.ref ea)) (fun h => by rw [Bd.returns] at h; cases h)
  refine Rch.fin (u := T1.setFrames fs) (own_retA X1 hx Bd.returns rfl rfl rfl (hb hby d27_6) hr) ⟨_, hrun, hended, _, _, rfl, ?_, ⟨_, rfl⟩, hW, hsame.mono (by decide) (by decide)⟩
  show Q_celd3_0 Z a d kd ea eb ec h0 n0 _ T1.heap _
  exact ⟨rfl, N0, e1⟩
abbrev Rm_cget3_0 : Room := { frames := 2, cells := 0, slots := 0, locals := 27 }
def Q_cget3_0 (Z : State) (a : Addr) (d : Addr) (kd : ClassId) (ea : Addr) (eb : Addr) (ec : Addr) (h0 : Heap) (n0 : Nat) (v : Option Value) (h : Heap) (L : List Loc) : Prop := v = some (.ref ea) ∧ Fr n0 L ∧ h = h0
theorem ef_cget3_0 (m : MethodId) (a : Addr) (d : Addr) (kd : ClassId) (ea : Addr) (eb : Addr) (ec : Addr) : entryFrame m #[(.ref a), (.int (0 : Int32))] 2 = mkF m 0 #[.val (.ref a), .val (.int (0 : Int32))] [] := by first | (simp [entryFrame, mkF, argsToLocals, Value.category]; done) | rfl
set_option maxRecDepth 65536 in
set_option maxHeartbeats 40000000 in
theorem cget3_0 (l : Launch) (Z : State) (a0 : Array Value) (hw : ∀ d ∈ tables_1, d.before a0 Z = true) (ws : List Jvm.Cond) (a : Addr) (d : Addr) (kd : ClassId) (ea : Addr) (eb : Addr) (ec : Addr) (h0 : Heap) (n0 : Nat) (zP0 : Exa Z h0 a "java/util/ArrayList") (zP1 : Fld Z h0 a "java/util/ArrayList" "elementData" "[Ljava/lang/Object;" (.ref d)) (zP2 : Fld Z h0 a "java/util/ArrayList" "size" "I" (.int (3 : Int32))) (zP3 : Arv Z h0 d kd (.object "java/lang/Object") (10 : Int32) [(.ref ea), (.ref eb), (.ref ec), .null, .null, .null, .null, .null, .null, .null] .null) :
    MetFree l (⟨"java/util/ArrayList", "get", "(I)Ljava/lang/Object;"⟩ : MethodName) (head1 (Jvm.Cond.code (⟨"java/util/ArrayList", "get", "(I)Ljava/lang/Object;"⟩ : MethodName) jdk_38_method_20_code 2 (some (.object "java/lang/Object")) :: ws) Rm_cget3_0) (fun aA uU => aA = #[(.ref a), (.int (0 : Int32))] ∧ Z.Warmed39 uU.vm ∧ uU.heap = h0) (fun _ _ _ _ _ => True) (fun _ uU oO uU' => ∃ vV lL, oO = .returned vV ∧ Q_cget3_0 Z a d kd ea eb ec h0 n0 vV uU'.heap lL ∧ FrameEnd uU oO uU' lL Rm_cget3_0.cells Rm_cget3_0.slots) := by
  refine MetFree.of_bodySF (plainFor_of_name pn_java_util_ArrayList) hisR ?_
  intro p e s m args below meth c s₁ Bd hml0 hP hK
  obtain ⟨rfl, hZ, hh⟩ := hP
  have hx := Bd.exec
  have hby := Bd.bytes
  have hml : c.maxLocals = 2 := hml0
  have hown : s.vm.findClass "java/util/ArrayList" = some m.cls := findClass_of_methodNamed Bd.named
  have hnm := (name_of_methodNamed Bd.named Bd.method).1
  have X0 : Stand p l e Rm_cget3_0 s m #[(.ref a), (.int (0 : Int32))] below meth c s₁ [] 0 0 := Stand.of_body Bd
  have e0 : s₁.heap = h0 := by rw [← hh, Bd.state]; rfl
  have N0 := Fr.nil n0
  refine Rch.out (Rch.st (fun t k => castTop (ef_cget3_0 m a d kd ea eb ec) k) ?_)
  show Rch p.tables e below _ (s₁.setTop (mkF m 0 #[.val (.ref a), .val (.int (0 : Int32))] []))
  refine Rch.st (fun _ hr => XS.iloadN X0.here hx rfl (hb hby d24_0) rfl hr) ?_
  refine Rch.st (fun _ hr => XS.aloadN X0.here hx rfl (hb hby d24_1) rfl rfl hr) ?_
  obtain ⟨T1, X1, e1, st1⟩ := getF X0 hx hZ hown (host := "") (Or.inl (own_w hw 52 rfl)) Via.refl e0 zP2 (g := (mkF m 2 #[.val (.ref a), .val (.int (0 : Int32))] [(.ref a), (.int (0 : Int32))])) rfl rfl (hb hby d24_2)
  refine Rch.st st1 ?_
  show Rch p.tables e below _ (T1.setTop (mkF m 5 #[.val (.ref a), .val (.int (0 : Int32))] [(.int (3 : Int32)), (.int (0 : Int32))]))
  refine own_kS X1 hx hZ (y := Y_19) hown (own_w hw 174 rfl) (own_w hw 175 rfl) (own_w hw 176 rfl) (own_w hw 177 rfl) (by decide) (W := 0) (coci l Z a0 hw [] (0 : Int32) (3 : Int32) h0 n0 (by decide) (by decide)) (by decide) (by decide) e1 (by decide) (by decide)  (by rw [hml]; rfl) (argsL := [(.int (0 : Int32)), (.int (3 : Int32))]) (rest := []) (lenOf pd_12 rfl) rfl rfl (hb hby d24_5) rfl (fun _ T2 Lc2 X2 hQ2 => ?_)
  obtain ⟨rfl, N2q, e2⟩ := hQ2
  have N2 := Fr.app N0 N2q
  refine Rch.st (fun _ hr => XS.pop X2.here hx rfl (hb hby d24_8) rfl rfl hr) ?_
  refine Rch.st (fun _ hr => XS.aloadN X2.here hx rfl (hb hby d24_9) rfl rfl hr) ?_
  show Rch p.tables e below _ (T2.setTop (mkF m 10 #[.val (.ref a), .val (.int (0 : Int32))] [(.ref a)]))
  refine Rch.st (fun _ hr => XS.iloadN X2.here hx rfl (hb hby d24_10) rfl hr) ?_
  show Rch p.tables e below _ (T2.setTop (mkF m 11 #[.val (.ref a), .val (.int (0 : Int32))] [(.int (0 : Int32)), (.ref a)]))
  refine own_kV X2 hx hZ (y := Y_20) (z := Y_20) hown (own_w hw 182 rfl) (own_w hw 183 rfl) (notFace_of_selects (args := #[]) (mvT hZ (own_w hw 185 rfl))) (own_w hw 185 rfl) (own_w hw 184 rfl) (own_w hw 2 rfl) (own_w hw 186 rfl) (by decide) (W := 0) (celd3_0 l Z a0 hw [] a d kd ea eb ec h0 n0 zP0 zP1 zP2 zP3) (by decide) (by decide) e2 zP0 (by decide) (by decide)  (by rw [hml]; rfl) (argsL := [(.int (0 : Int32))]) (rest := []) (lenOf pd_17 rfl) rfl rfl (hb hby d24_11) rfl (fun _ T3 Lc3 X3 hQ3 => ?_)
  obtain ⟨rfl, N3q, e3⟩ := hQ3
  have N3 := Fr.app N2 N3q
  obtain ⟨fs, hr, hrun, hended, hW, hsame⟩ := X3.leave (v := some (.ref ea)) (fun h => by rw [Bd.returns] at h; cases h)
  refine Rch.fin (u := T3.setFrames fs) (own_retA X3 hx Bd.returns rfl rfl rfl (hb hby d24_14) hr) ⟨_, hrun, hended, _, _, rfl, ?_, ⟨_, rfl⟩, hW, hsame.mono (by decide) (by decide)⟩
  show Q_cget3_0 Z a d kd ea eb ec h0 n0 _ T3.heap _
  exact ⟨rfl, N3, e3⟩
abbrev Rm_celd3_1 : Room := { frames := 0, cells := 0, slots := 0, locals := 0 }
def Q_celd3_1 (Z : State) (a : Addr) (d : Addr) (kd : ClassId) (ea : Addr) (eb : Addr) (ec : Addr) (h0 : Heap) (n0 : Nat) (v : Option Value) (h : Heap) (L : List Loc) : Prop := v = some (.ref eb) ∧ Fr n0 L ∧ h = h0
theorem ef_celd3_1 (m : MethodId) (a : Addr) (d : Addr) (kd : ClassId) (ea : Addr) (eb : Addr) (ec : Addr) : entryFrame m #[(.ref a), (.int (1 : Int32))] 2 = mkF m 0 #[.val (.ref a), .val (.int (1 : Int32))] [] := by first | (simp [entryFrame, mkF, argsToLocals, Value.category]; done) | rfl
set_option maxRecDepth 65536 in
set_option maxHeartbeats 40000000 in
theorem celd3_1 (l : Launch) (Z : State) (a0 : Array Value) (hw : ∀ d ∈ tables_1, d.before a0 Z = true) (ws : List Jvm.Cond) (a : Addr) (d : Addr) (kd : ClassId) (ea : Addr) (eb : Addr) (ec : Addr) (h0 : Heap) (n0 : Nat) (zP0 : Exa Z h0 a "java/util/ArrayList") (zP1 : Fld Z h0 a "java/util/ArrayList" "elementData" "[Ljava/lang/Object;" (.ref d)) (zP2 : Fld Z h0 a "java/util/ArrayList" "size" "I" (.int (3 : Int32))) (zP3 : Arv Z h0 d kd (.object "java/lang/Object") (10 : Int32) [(.ref ea), (.ref eb), (.ref ec), .null, .null, .null, .null, .null, .null, .null] .null) :
    MetFree l (⟨"java/util/ArrayList", "elementData", "(I)Ljava/lang/Object;"⟩ : MethodName) (head1 (Jvm.Cond.code (⟨"java/util/ArrayList", "elementData", "(I)Ljava/lang/Object;"⟩ : MethodName) jdk_38_method_18_code 2 (some (.object "java/lang/Object")) :: ws) Rm_celd3_1) (fun aA uU => aA = #[(.ref a), (.int (1 : Int32))] ∧ Z.Warmed39 uU.vm ∧ uU.heap = h0) (fun _ _ _ _ _ => True) (fun _ uU oO uU' => ∃ vV lL, oO = .returned vV ∧ Q_celd3_1 Z a d kd ea eb ec h0 n0 vV uU'.heap lL ∧ FrameEnd uU oO uU' lL Rm_celd3_1.cells Rm_celd3_1.slots) := by
  refine MetFree.of_bodySF (plainFor_of_name pn_java_util_ArrayList) hisR ?_
  intro p e s m args below meth c s₁ Bd hml0 hP hK
  obtain ⟨rfl, hZ, hh⟩ := hP
  have hx := Bd.exec
  have hby := Bd.bytes
  have hml : c.maxLocals = 2 := hml0
  have hown : s.vm.findClass "java/util/ArrayList" = some m.cls := findClass_of_methodNamed Bd.named
  have hnm := (name_of_methodNamed Bd.named Bd.method).1
  have X0 : Stand p l e Rm_celd3_1 s m #[(.ref a), (.int (1 : Int32))] below meth c s₁ [] 0 0 := Stand.of_body Bd
  have e0 : s₁.heap = h0 := by rw [← hh, Bd.state]; rfl
  have N0 := Fr.nil n0
  refine Rch.out (Rch.st (fun t k => castTop (ef_celd3_1 m a d kd ea eb ec) k) ?_)
  show Rch p.tables e below _ (s₁.setTop (mkF m 0 #[.val (.ref a), .val (.int (1 : Int32))] []))
  refine Rch.st (fun _ hr => XS.aloadN X0.here hx rfl (hb hby d27_0) rfl rfl hr) ?_
  obtain ⟨T1, X1, e1, st1⟩ := getF X0 hx hZ hown (host := "") (Or.inl (own_w hw 24 rfl)) Via.refl e0 zP1 (g := (mkF m 1 #[.val (.ref a), .val (.int (1 : Int32))] [(.ref a)])) rfl rfl (hb hby d27_1)
  refine Rch.st st1 ?_
  refine Rch.st (fun _ hr => XS.iloadN X1.here hx rfl (hb hby d27_4) rfl hr) ?_
  obtain ⟨cl2, Ar2, -, Sz2, Ng2, Ha2, -⟩ := id zP3
  have hin2 := inb_of (j := (1 : Int32)) Sz2 ⟨by decide, by decide⟩
  have hat2 := Ha2.at hin2 (v := (.ref eb)) rfl
  refine Rch.st (fun t hr => X1.aaload hx (j := (1 : Int32)) (v := (.ref eb)) (by rw [e1]; exact Ar2.1) (State.isArrayOf_alike hZ.alike Ar2.2.1) rfl Ar2.2.2 hin2 hat2 (g := (mkF m 5 #[.val (.ref a), .val (.int (1 : Int32))] [(.int (1 : Int32)), (.ref d)])) rfl rfl (hb hby d27_5) t hr) ?_
  obtain ⟨fs, hr, hrun, hended, hW, hsame⟩ := X1.leave (v := some (.ref eb)) (fun h => by rw [Bd.returns] at h; cases h)
  refine Rch.fin (u := T1.setFrames fs) (own_retA X1 hx Bd.returns rfl rfl rfl (hb hby d27_6) hr) ⟨_, hrun, hended, _, _, rfl, ?_, ⟨_, rfl⟩, hW, hsame.mono (by decide) (by decide)⟩
  show Q_celd3_1 Z a d kd ea eb ec h0 n0 _ T1.heap _
  exact ⟨rfl, N0, e1⟩
abbrev Rm_cget3_1 : Room := { frames := 2, cells := 0, slots := 0, locals := 27 }
def Q_cget3_1 (Z : State) (a : Addr) (d : Addr) (kd : ClassId) (ea : Addr) (eb : Addr) (ec : Addr) (h0 : Heap) (n0 : Nat) (v : Option Value) (h : Heap) (L : List Loc) : Prop := v = some (.ref eb) ∧ Fr n0 L ∧ h = h0
theorem ef_cget3_1 (m : MethodId) (a : Addr) (d : Addr) (kd : ClassId) (ea : Addr) (eb : Addr) (ec : Addr) : entryFrame m #[(.ref a), (.int (1 : Int32))] 2 = mkF m 0 #[.val (.ref a), .val (.int (1 : Int32))] [] := by first | (simp [entryFrame, mkF, argsToLocals, Value.category]; done) | rfl
set_option maxRecDepth 65536 in
set_option maxHeartbeats 40000000 in
theorem cget3_1 (l : Launch) (Z : State) (a0 : Array Value) (hw : ∀ d ∈ tables_1, d.before a0 Z = true) (ws : List Jvm.Cond) (a : Addr) (d : Addr) (kd : ClassId) (ea : Addr) (eb : Addr) (ec : Addr) (h0 : Heap) (n0 : Nat) (zP0 : Exa Z h0 a "java/util/ArrayList") (zP1 : Fld Z h0 a "java/util/ArrayList" "elementData" "[Ljava/lang/Object;" (.ref d)) (zP2 : Fld Z h0 a "java/util/ArrayList" "size" "I" (.int (3 : Int32))) (zP3 : Arv Z h0 d kd (.object "java/lang/Object") (10 : Int32) [(.ref ea), (.ref eb), (.ref ec), .null, .null, .null, .null, .null, .null, .null] .null) :
    MetFree l (⟨"java/util/ArrayList", "get", "(I)Ljava/lang/Object;"⟩ : MethodName) (head1 (Jvm.Cond.code (⟨"java/util/ArrayList", "get", "(I)Ljava/lang/Object;"⟩ : MethodName) jdk_38_method_20_code 2 (some (.object "java/lang/Object")) :: ws) Rm_cget3_1) (fun aA uU => aA = #[(.ref a), (.int (1 : Int32))] ∧ Z.Warmed39 uU.vm ∧ uU.heap = h0) (fun _ _ _ _ _ => True) (fun _ uU oO uU' => ∃ vV lL, oO = .returned vV ∧ Q_cget3_1 Z a d kd ea eb ec h0 n0 vV uU'.heap lL ∧ FrameEnd uU oO uU' lL Rm_cget3_1.cells Rm_cget3_1.slots) := by
  refine MetFree.of_bodySF (plainFor_of_name pn_java_util_ArrayList) hisR ?_
  intro p e s m args below meth c s₁ Bd hml0 hP hK
  obtain ⟨rfl, hZ, hh⟩ := hP
  have hx := Bd.exec
  have hby := Bd.bytes
  have hml : c.maxLocals = 2 := hml0
  have hown : s.vm.findClass "java/util/ArrayList" = some m.cls := findClass_of_methodNamed Bd.named
  have hnm := (name_of_methodNamed Bd.named Bd.method).1
  have X0 : Stand p l e Rm_cget3_1 s m #[(.ref a), (.int (1 : Int32))] below meth c s₁ [] 0 0 := Stand.of_body Bd
  have e0 : s₁.heap = h0 := by rw [← hh, Bd.state]; rfl
  have N0 := Fr.nil n0
  refine Rch.out (Rch.st (fun t k => castTop (ef_cget3_1 m a d kd ea eb ec) k) ?_)
  show Rch p.tables e below _ (s₁.setTop (mkF m 0 #[.val (.ref a), .val (.int (1 : Int32))] []))
  refine Rch.st (fun _ hr => XS.iloadN X0.here hx rfl (hb hby d24_0) rfl hr) ?_
  refine Rch.st (fun _ hr => XS.aloadN X0.here hx rfl (hb hby d24_1) rfl rfl hr) ?_
  obtain ⟨T1, X1, e1, st1⟩ := getF X0 hx hZ hown (host := "") (Or.inl (own_w hw 52 rfl)) Via.refl e0 zP2 (g := (mkF m 2 #[.val (.ref a), .val (.int (1 : Int32))] [(.ref a), (.int (1 : Int32))])) rfl rfl (hb hby d24_2)
  refine Rch.st st1 ?_
  show Rch p.tables e below _ (T1.setTop (mkF m 5 #[.val (.ref a), .val (.int (1 : Int32))] [(.int (3 : Int32)), (.int (1 : Int32))]))
  refine own_kS X1 hx hZ (y := Y_19) hown (own_w hw 174 rfl) (own_w hw 175 rfl) (own_w hw 176 rfl) (own_w hw 177 rfl) (by decide) (W := 0) (coci l Z a0 hw [] (1 : Int32) (3 : Int32) h0 n0 (by decide) (by decide)) (by decide) (by decide) e1 (by decide) (by decide)  (by rw [hml]; rfl) (argsL := [(.int (1 : Int32)), (.int (3 : Int32))]) (rest := []) (lenOf pd_12 rfl) rfl rfl (hb hby d24_5) rfl (fun _ T2 Lc2 X2 hQ2 => ?_)
  obtain ⟨rfl, N2q, e2⟩ := hQ2
  have N2 := Fr.app N0 N2q
  refine Rch.st (fun _ hr => XS.pop X2.here hx rfl (hb hby d24_8) rfl rfl hr) ?_
  refine Rch.st (fun _ hr => XS.aloadN X2.here hx rfl (hb hby d24_9) rfl rfl hr) ?_
  show Rch p.tables e below _ (T2.setTop (mkF m 10 #[.val (.ref a), .val (.int (1 : Int32))] [(.ref a)]))
  refine Rch.st (fun _ hr => XS.iloadN X2.here hx rfl (hb hby d24_10) rfl hr) ?_
  show Rch p.tables e below _ (T2.setTop (mkF m 11 #[.val (.ref a), .val (.int (1 : Int32))] [(.int (1 : Int32)), (.ref a)]))
  refine own_kV X2 hx hZ (y := Y_20) (z := Y_20) hown (own_w hw 182 rfl) (own_w hw 183 rfl) (notFace_of_selects (args := #[]) (mvT hZ (own_w hw 185 rfl))) (own_w hw 185 rfl) (own_w hw 184 rfl) (own_w hw 2 rfl) (own_w hw 186 rfl) (by decide) (W := 0) (celd3_1 l Z a0 hw [] a d kd ea eb ec h0 n0 zP0 zP1 zP2 zP3) (by decide) (by decide) e2 zP0 (by decide) (by decide)  (by rw [hml]; rfl) (argsL := [(.int (1 : Int32))]) (rest := []) (lenOf pd_17 rfl) rfl rfl (hb hby d24_11) rfl (fun _ T3 Lc3 X3 hQ3 => ?_)
  obtain ⟨rfl, N3q, e3⟩ := hQ3
  have N3 := Fr.app N2 N3q
  obtain ⟨fs, hr, hrun, hended, hW, hsame⟩ := X3.leave (v := some (.ref eb)) (fun h => by rw [Bd.returns] at h; cases h)
  refine Rch.fin (u := T3.setFrames fs) (own_retA X3 hx Bd.returns rfl rfl rfl (hb hby d24_14) hr) ⟨_, hrun, hended, _, _, rfl, ?_, ⟨_, rfl⟩, hW, hsame.mono (by decide) (by decide)⟩
  show Q_cget3_1 Z a d kd ea eb ec h0 n0 _ T3.heap _
  exact ⟨rfl, N3, e3⟩
abbrev Rm_celd3_2 : Room := { frames := 0, cells := 0, slots := 0, locals := 0 }
def Q_celd3_2 (Z : State) (a : Addr) (d : Addr) (kd : ClassId) (ea : Addr) (eb : Addr) (ec : Addr) (h0 : Heap) (n0 : Nat) (v : Option Value) (h : Heap) (L : List Loc) : Prop := v = some (.ref ec) ∧ Fr n0 L ∧ h = h0
theorem ef_celd3_2 (m : MethodId) (a : Addr) (d : Addr) (kd : ClassId) (ea : Addr) (eb : Addr) (ec : Addr) : entryFrame m #[(.ref a), (.int (2 : Int32))] 2 = mkF m 0 #[.val (.ref a), .val (.int (2 : Int32))] [] := by first | (simp [entryFrame, mkF, argsToLocals, Value.category]; done) | rfl
set_option maxRecDepth 65536 in
set_option maxHeartbeats 40000000 in
theorem celd3_2 (l : Launch) (Z : State) (a0 : Array Value) (hw : ∀ d ∈ tables_1, d.before a0 Z = true) (ws : List Jvm.Cond) (a : Addr) (d : Addr) (kd : ClassId) (ea : Addr) (eb : Addr) (ec : Addr) (h0 : Heap) (n0 : Nat) (zP0 : Exa Z h0 a "java/util/ArrayList") (zP1 : Fld Z h0 a "java/util/ArrayList" "elementData" "[Ljava/lang/Object;" (.ref d)) (zP2 : Fld Z h0 a "java/util/ArrayList" "size" "I" (.int (3 : Int32))) (zP3 : Arv Z h0 d kd (.object "java/lang/Object") (10 : Int32) [(.ref ea), (.ref eb), (.ref ec), .null, .null, .null, .null, .null, .null, .null] .null) :
    MetFree l (⟨"java/util/ArrayList", "elementData", "(I)Ljava/lang/Object;"⟩ : MethodName) (head1 (Jvm.Cond.code (⟨"java/util/ArrayList", "elementData", "(I)Ljava/lang/Object;"⟩ : MethodName) jdk_38_method_18_code 2 (some (.object "java/lang/Object")) :: ws) Rm_celd3_2) (fun aA uU => aA = #[(.ref a), (.int (2 : Int32))] ∧ Z.Warmed39 uU.vm ∧ uU.heap = h0) (fun _ _ _ _ _ => True) (fun _ uU oO uU' => ∃ vV lL, oO = .returned vV ∧ Q_celd3_2 Z a d kd ea eb ec h0 n0 vV uU'.heap lL ∧ FrameEnd uU oO uU' lL Rm_celd3_2.cells Rm_celd3_2.slots) := by
  refine MetFree.of_bodySF (plainFor_of_name pn_java_util_ArrayList) hisR ?_
  intro p e s m args below meth c s₁ Bd hml0 hP hK
  obtain ⟨rfl, hZ, hh⟩ := hP
  have hx := Bd.exec
  have hby := Bd.bytes
  have hml : c.maxLocals = 2 := hml0
  have hown : s.vm.findClass "java/util/ArrayList" = some m.cls := findClass_of_methodNamed Bd.named
  have hnm := (name_of_methodNamed Bd.named Bd.method).1
  have X0 : Stand p l e Rm_celd3_2 s m #[(.ref a), (.int (2 : Int32))] below meth c s₁ [] 0 0 := Stand.of_body Bd
  have e0 : s₁.heap = h0 := by rw [← hh, Bd.state]; rfl
  have N0 := Fr.nil n0
  refine Rch.out (Rch.st (fun t k => castTop (ef_celd3_2 m a d kd ea eb ec) k) ?_)
  show Rch p.tables e below _ (s₁.setTop (mkF m 0 #[.val (.ref a), .val (.int (2 : Int32))] []))
  refine Rch.st (fun _ hr => XS.aloadN X0.here hx rfl (hb hby d27_0) rfl rfl hr) ?_
  obtain ⟨T1, X1, e1, st1⟩ := getF X0 hx hZ hown (host := "") (Or.inl (own_w hw 24 rfl)) Via.refl e0 zP1 (g := (mkF m 1 #[.val (.ref a), .val (.int (2 : Int32))] [(.ref a)])) rfl rfl (hb hby d27_1)
  refine Rch.st st1 ?_
  refine Rch.st (fun _ hr => XS.iloadN X1.here hx rfl (hb hby d27_4) rfl hr) ?_
  obtain ⟨cl2, Ar2, -, Sz2, Ng2, Ha2, -⟩ := id zP3
  have hin2 := inb_of (j := (2 : Int32)) Sz2 ⟨by decide, by decide⟩
  have hat2 := Ha2.at hin2 (v := (.ref ec)) rfl
  refine Rch.st (fun t hr => X1.aaload hx (j := (2 : Int32)) (v := (.ref ec)) (by rw [e1]; exact Ar2.1) (State.isArrayOf_alike hZ.alike Ar2.2.1) rfl Ar2.2.2 hin2 hat2 (g := (mkF m 5 #[.val (.ref a), .val (.int (2 : Int32))] [(.int (2 : Int32)), (.ref d)])) rfl rfl (hb hby d27_5) t hr) ?_
  obtain ⟨fs, hr, hrun, hended, hW, hsame⟩ := X1.leave (v := some (.ref ec)) (fun h => by rw [Bd.returns] at h; cases h)
  refine Rch.fin (u := T1.setFrames fs) (own_retA X1 hx Bd.returns rfl rfl rfl (hb hby d27_6) hr) ⟨_, hrun, hended, _, _, rfl, ?_, ⟨_, rfl⟩, hW, hsame.mono (by decide) (by decide)⟩
  show Q_celd3_2 Z a d kd ea eb ec h0 n0 _ T1.heap _
  exact ⟨rfl, N0, e1⟩
abbrev Rm_cget3_2 : Room := { frames := 2, cells := 0, slots := 0, locals := 27 }
def Q_cget3_2 (Z : State) (a : Addr) (d : Addr) (kd : ClassId) (ea : Addr) (eb : Addr) (ec : Addr) (h0 : Heap) (n0 : Nat) (v : Option Value) (h : Heap) (L : List Loc) : Prop := v = some (.ref ec) ∧ Fr n0 L ∧ h = h0
theorem ef_cget3_2 (m : MethodId) (a : Addr) (d : Addr) (kd : ClassId) (ea : Addr) (eb : Addr) (ec : Addr) : entryFrame m #[(.ref a), (.int (2 : Int32))] 2 = mkF m 0 #[.val (.ref a), .val (.int (2 : Int32))] [] := by first | (simp [entryFrame, mkF, argsToLocals, Value.category]; done) | rfl
set_option maxRecDepth 65536 in
set_option maxHeartbeats 40000000 in
theorem cget3_2 (l : Launch) (Z : State) (a0 : Array Value) (hw : ∀ d ∈ tables_1, d.before a0 Z = true) (ws : List Jvm.Cond) (a : Addr) (d : Addr) (kd : ClassId) (ea : Addr) (eb : Addr) (ec : Addr) (h0 : Heap) (n0 : Nat) (zP0 : Exa Z h0 a "java/util/ArrayList") (zP1 : Fld Z h0 a "java/util/ArrayList" "elementData" "[Ljava/lang/Object;" (.ref d)) (zP2 : Fld Z h0 a "java/util/ArrayList" "size" "I" (.int (3 : Int32))) (zP3 : Arv Z h0 d kd (.object "java/lang/Object") (10 : Int32) [(.ref ea), (.ref eb), (.ref ec), .null, .null, .null, .null, .null, .null, .null] .null) :
    MetFree l (⟨"java/util/ArrayList", "get", "(I)Ljava/lang/Object;"⟩ : MethodName) (head1 (Jvm.Cond.code (⟨"java/util/ArrayList", "get", "(I)Ljava/lang/Object;"⟩ : MethodName) jdk_38_method_20_code 2 (some (.object "java/lang/Object")) :: ws) Rm_cget3_2) (fun aA uU => aA = #[(.ref a), (.int (2 : Int32))] ∧ Z.Warmed39 uU.vm ∧ uU.heap = h0) (fun _ _ _ _ _ => True) (fun _ uU oO uU' => ∃ vV lL, oO = .returned vV ∧ Q_cget3_2 Z a d kd ea eb ec h0 n0 vV uU'.heap lL ∧ FrameEnd uU oO uU' lL Rm_cget3_2.cells Rm_cget3_2.slots) := by
  refine MetFree.of_bodySF (plainFor_of_name pn_java_util_ArrayList) hisR ?_
  intro p e s m args below meth c s₁ Bd hml0 hP hK
  obtain ⟨rfl, hZ, hh⟩ := hP
  have hx := Bd.exec
  have hby := Bd.bytes
  have hml : c.maxLocals = 2 := hml0
  have hown : s.vm.findClass "java/util/ArrayList" = some m.cls := findClass_of_methodNamed Bd.named
  have hnm := (name_of_methodNamed Bd.named Bd.method).1
  have X0 : Stand p l e Rm_cget3_2 s m #[(.ref a), (.int (2 : Int32))] below meth c s₁ [] 0 0 := Stand.of_body Bd
  have e0 : s₁.heap = h0 := by rw [← hh, Bd.state]; rfl
  have N0 := Fr.nil n0
  refine Rch.out (Rch.st (fun t k => castTop (ef_cget3_2 m a d kd ea eb ec) k) ?_)
  show Rch p.tables e below _ (s₁.setTop (mkF m 0 #[.val (.ref a), .val (.int (2 : Int32))] []))
  refine Rch.st (fun _ hr => XS.iloadN X0.here hx rfl (hb hby d24_0) rfl hr) ?_
  refine Rch.st (fun _ hr => XS.aloadN X0.here hx rfl (hb hby d24_1) rfl rfl hr) ?_
  obtain ⟨T1, X1, e1, st1⟩ := getF X0 hx hZ hown (host := "") (Or.inl (own_w hw 52 rfl)) Via.refl e0 zP2 (g := (mkF m 2 #[.val (.ref a), .val (.int (2 : Int32))] [(.ref a), (.int (2 : Int32))])) rfl rfl (hb hby d24_2)
  refine Rch.st st1 ?_
  show Rch p.tables e below _ (T1.setTop (mkF m 5 #[.val (.ref a), .val (.int (2 : Int32))] [(.int (3 : Int32)), (.int (2 : Int32))]))
  refine own_kS X1 hx hZ (y := Y_19) hown (own_w hw 174 rfl) (own_w hw 175 rfl) (own_w hw 176 rfl) (own_w hw 177 rfl) (by decide) (W := 0) (coci l Z a0 hw [] (2 : Int32) (3 : Int32) h0 n0 (by decide) (by decide)) (by decide) (by decide) e1 (by decide) (by decide)  (by rw [hml]; rfl) (argsL := [(.int (2 : Int32)), (.int (3 : Int32))]) (rest := []) (lenOf pd_12 rfl) rfl rfl (hb hby d24_5) rfl (fun _ T2 Lc2 X2 hQ2 => ?_)
  obtain ⟨rfl, N2q, e2⟩ := hQ2
  have N2 := Fr.app N0 N2q
  refine Rch.st (fun _ hr => XS.pop X2.here hx rfl (hb hby d24_8) rfl rfl hr) ?_
  refine Rch.st (fun _ hr => XS.aloadN X2.here hx rfl (hb hby d24_9) rfl rfl hr) ?_
  show Rch p.tables e below _ (T2.setTop (mkF m 10 #[.val (.ref a), .val (.int (2 : Int32))] [(.ref a)]))
  refine Rch.st (fun _ hr => XS.iloadN X2.here hx rfl (hb hby d24_10) rfl hr) ?_
  show Rch p.tables e below _ (T2.setTop (mkF m 11 #[.val (.ref a), .val (.int (2 : Int32))] [(.int (2 : Int32)), (.ref a)]))
  refine own_kV X2 hx hZ (y := Y_20) (z := Y_20) hown (own_w hw 182 rfl) (own_w hw 183 rfl) (notFace_of_selects (args := #[]) (mvT hZ (own_w hw 185 rfl))) (own_w hw 185 rfl) (own_w hw 184 rfl) (own_w hw 2 rfl) (own_w hw 186 rfl) (by decide) (W := 0) (celd3_2 l Z a0 hw [] a d kd ea eb ec h0 n0 zP0 zP1 zP2 zP3) (by decide) (by decide) e2 zP0 (by decide) (by decide)  (by rw [hml]; rfl) (argsL := [(.int (2 : Int32))]) (rest := []) (lenOf pd_17 rfl) rfl rfl (hb hby d24_11) rfl (fun _ T3 Lc3 X3 hQ3 => ?_)
  obtain ⟨rfl, N3q, e3⟩ := hQ3
  have N3 := Fr.app N2 N3q
  obtain ⟨fs, hr, hrun, hended, hW, hsame⟩ := X3.leave (v := some (.ref ec)) (fun h => by rw [Bd.returns] at h; cases h)
  refine Rch.fin (u := T3.setFrames fs) (own_retA X3 hx Bd.returns rfl rfl rfl (hb hby d24_14) hr) ⟨_, hrun, hended, _, _, rfl, ?_, ⟨_, rfl⟩, hW, hsame.mono (by decide) (by decide)⟩
  show Q_cget3_2 Z a d kd ea eb ec h0 n0 _ T3.heap _
  exact ⟨rfl, N3, e3⟩
theorem d18_0 : decode jdk_30_method_1_code 0 = .ok (.aload_n 0, 1) := by decide +kernel
theorem d18_1 : decode jdk_30_method_1_code 1 = .ok (.invokespecial 1, 3) := by decide +kernel
theorem d18_4 : decode jdk_30_method_1_code 4 = .ok (.return_, 1) := by decide +kernel
abbrev Rm_crecord : Room := { frames := 1, cells := 0, slots := 0, locals := 12 }
def Q_crecord (Z : State) (a : Addr) (h0 : Heap) (n0 : Nat) (v : Option Value) (h : Heap) (L : List Loc) : Prop := v = none ∧ Fr n0 L ∧ h = h0
theorem pn_java_lang_Record : plainName "java/lang/Record" = true := by first | (simp [plainName, overriddenIn]; done) | decide +kernel
theorem ef_crecord (m : MethodId) (a : Addr) : entryFrame m #[(.ref a)] 1 = mkF m 0 #[.val (.ref a)] [] := by first | (simp [entryFrame, mkF, argsToLocals, Value.category]; done) | rfl
set_option maxRecDepth 65536 in
set_option maxHeartbeats 40000000 in
theorem crecord (l : Launch) (Z : State) (a0 : Array Value) (hw : ∀ d ∈ tables_1, d.before a0 Z = true) (ws : List Jvm.Cond) (a : Addr) (h0 : Heap) (n0 : Nat) :
    MetFree l (⟨"java/lang/Record", "<init>", "()V"⟩ : MethodName) (head1 (Jvm.Cond.code (⟨"java/lang/Record", "<init>", "()V"⟩ : MethodName) jdk_30_method_1_code 1 none :: ws) Rm_crecord) (fun aA uU => aA = #[(.ref a)] ∧ Z.Warmed39 uU.vm ∧ uU.heap = h0) (fun _ _ _ _ _ => True) (fun _ uU oO uU' => ∃ vV lL, oO = .returned vV ∧ Q_crecord Z a h0 n0 vV uU'.heap lL ∧ FrameEnd uU oO uU' lL Rm_crecord.cells Rm_crecord.slots) := by
  refine MetFree.of_bodySF (plainFor_of_name pn_java_lang_Record) hisR ?_
  intro p e s m args below meth c s₁ Bd hml0 hP hK
  obtain ⟨rfl, hZ, hh⟩ := hP
  have hx := Bd.exec
  have hby := Bd.bytes
  have hml : c.maxLocals = 1 := hml0
  have hown : s.vm.findClass "java/lang/Record" = some m.cls := findClass_of_methodNamed Bd.named
  have hnm := (name_of_methodNamed Bd.named Bd.method).1
  have X0 : Stand p l e Rm_crecord s m #[(.ref a)] below meth c s₁ [] 0 0 := Stand.of_body Bd
  have e0 : s₁.heap = h0 := by rw [← hh, Bd.state]; rfl
  have N0 := Fr.nil n0
  refine Rch.out (Rch.st (fun t k => castTop (ef_crecord m a) k) ?_)
  show Rch p.tables e below _ (s₁.setTop (mkF m 0 #[.val (.ref a)] []))
  refine Rch.st (fun _ hr => XS.aloadN X0.here hx rfl (hb hby d18_0) rfl rfl hr) ?_
  obtain ⟨T1, X1, e1, st1⟩ := initO X0 hx hZ hown (own_w hw 129 rfl) (own_w hw 19 rfl) (own_w hw 20 rfl) e0 (g := (mkF m 1 #[.val (.ref a)] [(.ref a)])) rfl (by rw [hml]; rfl) rfl (hb hby d18_1) (by decide) (W := 0) (own_mr rfl rfl) (by decide)
  refine Rch.st st1 ?_
  obtain ⟨fs, hr, hrun, hended, hW, hsame⟩ := X1.leave (v := none) (fun _ => rfl)
  refine Rch.fin (u := T1.setFrames fs) (X1.returnOut hx Bd.returns (hb hby d18_4) hr) ⟨_, hrun, hended, _, _, rfl, ?_, ⟨_, rfl⟩, hW, hsame.mono (by decide) (by decide)⟩
  show Q_crecord Z a h0 n0 _ T1.heap _
  exact ⟨rfl, N0, e1⟩
theorem d17_0 : decode prog_27_method_1_code 0 = .ok (.aload_n 0, 1) := by decide +kernel
theorem d17_1 : decode prog_27_method_1_code 1 = .ok (.invokespecial 1, 3) := by decide +kernel
abbrev Y_21 : MethodName := ⟨"java/lang/Record", "<init>", "()V"⟩
theorem d17_4 : decode prog_27_method_1_code 4 = .ok (.aload_n 0, 1) := by decide +kernel
theorem d17_5 : decode prog_27_method_1_code 5 = .ok (.aload_n 1, 1) := by decide +kernel
theorem d17_6 : decode prog_27_method_1_code 6 = .ok (.putfield 7, 3) := by decide +kernel
theorem d17_9 : decode prog_27_method_1_code 9 = .ok (.aload_n 0, 1) := by decide +kernel
theorem d17_10 : decode prog_27_method_1_code 10 = .ok (.aload_n 2, 1) := by decide +kernel
theorem d17_11 : decode prog_27_method_1_code 11 = .ok (.putfield 13, 3) := by decide +kernel
theorem d17_14 : decode prog_27_method_1_code 14 = .ok (.return_, 1) := by decide +kernel
abbrev Rm_cadv : Room := { frames := 2, cells := 0, slots := 0, locals := 24 }
def Q_cadv (Z : State) (a : Addr) (tx : Addr) (r : Addr) (h0 : Heap) (n0 : Nat) (v : Option Value) (h : Heap) (L : List Loc) : Prop := v = none ∧ Fr n0 L ∧ Keep h0 h [a] ∧ Old Z n0 h ∧ Exa Z h a "com/example/slotwright/slotwright/Market$Advertiser" ∧ Fld Z h a "com/example/slotwright/slotwright/Market$Advertiser" "budget" "Ljava/math/BigDecimal;" (.ref r)
theorem pn_com_example_slotwright_slotwright_Market_Advertiser : plainName "com/example/slotwright/slotwright/Market$Advertiser" = true := by first | (simp [plainName, overriddenIn]; done) | decide +kernel
theorem ef_cadv (m : MethodId) (a : Addr) (tx : Addr) (r : Addr) : entryFrame m #[(.ref a), (.ref tx), (.ref r)] 3 = mkF m 0 #[.val (.ref a), .val (.ref tx), .val (.ref r)] [] := by first | (simp [entryFrame, mkF, argsToLocals, Value.category]; done) | rfl
set_option maxRecDepth 65536 in
set_option maxHeartbeats 40000000 in
theorem cadv (l : Launch) (Z : State) (a0 : Array Value) (hw : ∀ d ∈ tables_1, d.before a0 Z = true) (ws : List Jvm.Cond) (a : Addr) (tx : Addr) (r : Addr) (h0 : Heap) (n0 : Nat) (zP0 : Old Z n0 h0) (zP1 : Exa Z h0 a "com/example/slotwright/slotwright/Market$Advertiser") (zP2 : Fld Z h0 a "com/example/slotwright/slotwright/Market$Advertiser" "id" "Ljava/lang/String;" .null) (zP3 : Fld Z h0 a "com/example/slotwright/slotwright/Market$Advertiser" "budget" "Ljava/math/BigDecimal;" .null) (zP4 : n0 ≤ a) :
    MetFree l (⟨"com/example/slotwright/slotwright/Market$Advertiser", "<init>", "(Ljava/lang/String;Ljava/math/BigDecimal;)V"⟩ : MethodName) (head1 (Jvm.Cond.code (⟨"com/example/slotwright/slotwright/Market$Advertiser", "<init>", "(Ljava/lang/String;Ljava/math/BigDecimal;)V"⟩ : MethodName) prog_27_method_1_code 3 none :: ws) Rm_cadv) (fun aA uU => aA = #[(.ref a), (.ref tx), (.ref r)] ∧ Z.Warmed39 uU.vm ∧ uU.heap = h0) (fun _ _ _ _ _ => True) (fun _ uU oO uU' => ∃ vV lL, oO = .returned vV ∧ Q_cadv Z a tx r h0 n0 vV uU'.heap lL ∧ FrameEnd uU oO uU' lL Rm_cadv.cells Rm_cadv.slots) := by
  refine MetFree.of_bodySF (plainFor_of_name pn_com_example_slotwright_slotwright_Market_Advertiser) hisR ?_
  intro p e s m args below meth c s₁ Bd hml0 hP hK
  obtain ⟨rfl, hZ, hh⟩ := hP
  have hx := Bd.exec
  have hby := Bd.bytes
  have hml : c.maxLocals = 3 := hml0
  have hown : s.vm.findClass "com/example/slotwright/slotwright/Market$Advertiser" = some m.cls := findClass_of_methodNamed Bd.named
  have hnm := (name_of_methodNamed Bd.named Bd.method).1
  have X0 : Stand p l e Rm_cadv s m #[(.ref a), (.ref tx), (.ref r)] below meth c s₁ [] 0 0 := Stand.of_body Bd
  have e0 : s₁.heap = h0 := by rw [← hh, Bd.state]; rfl
  have N0 := Fr.nil n0
  refine Rch.out (Rch.st (fun t k => castTop (ef_cadv m a tx r) k) ?_)
  show Rch p.tables e below _ (s₁.setTop (mkF m 0 #[.val (.ref a), .val (.ref tx), .val (.ref r)] []))
  refine Rch.st (fun _ hr => XS.aloadN X0.here hx rfl (hb hby d17_0) rfl rfl hr) ?_
  show Rch p.tables e below _ (s₁.setTop (mkF m 1 #[.val (.ref a), .val (.ref tx), .val (.ref r)] [(.ref a)]))
  refine own_kI X0 hx hZ (y := Y_21) rfl hown (own_w hw 124 rfl) (own_w hw 125 rfl) (own_w hw 127 rfl) (own_w hw 128 rfl) (by decide) (W := 0) (crecord l Z a0 hw [] a h0 n0 ) (by decide) (by decide) e0 (by decide) (by decide)  (by rw [hml]; rfl) (a := a) (argsL := []) (rest := []) (lenOf pd_0 rfl) rfl rfl (hb hby d17_1) rfl (fun _ T1 Lc1 X1 hQ1 => ?_)
  obtain ⟨rfl, N1q, e1⟩ := hQ1
  have N1 := Fr.app N0 N1q
  refine Rch.st (fun _ hr => XS.aloadN X1.here hx rfl (hb hby d17_4) rfl rfl hr) ?_
  refine Rch.st (fun _ hr => XS.aloadN X1.here hx rfl (hb hby d17_5) rfl rfl hr) ?_
  obtain ⟨T2, h2, X2, e2, W2, st2⟩ := putF X1 hx hZ hown (host := "") (Or.inl (own_w hw 130 rfl)) Via.refl e1 zP2 zP1 (Or.inr ⟨(own_w hw 131 rfl), rfl, hnm⟩) (own_w hw 111 rfl) (ty := (.object "java/lang/String")) (by decide) rfl rfl (g := (mkF m 6 #[.val (.ref a), .val (.ref tx), .val (.ref r)] [(.ref tx), (.ref a)])) rfl rfl (hb hby d17_6)
  refine Rch.st st2 ?_
  have N2 := Fr.snoc X2 N1 zP4
  have K3 := (Keep.refl h0 [a]).wr W2 (Or.inl (List.mem_of_getElem? (i := 0) rfl))
  have Fw2 := zP2.same W2
  refine Rch.st (fun _ hr => XS.aloadN X2.here hx rfl (hb hby d17_9) rfl rfl hr) ?_
  show Rch p.tables e below _ (T2.setTop (mkF m 10 #[.val (.ref a), .val (.ref tx), .val (.ref r)] [(.ref a)]))
  refine Rch.st (fun _ hr => XS.aloadN X2.here hx rfl (hb hby d17_10) rfl rfl hr) ?_
  have f4 := (zP3.other W2 (Or.inr (slot_ne (Or.inr (own_w hw 133 rfl)) (Or.inr (own_w hw 131 rfl)) (by decide) (t := (.object "java/math/BigDecimal")) (t' := (.object "java/lang/String")) (by decide) (by decide))))
  have f5 := (zP1.wr W2)
  obtain ⟨T6, h6, X6, e6, W6, st6⟩ := putF X2 hx hZ hown (host := "") (Or.inl (own_w hw 132 rfl)) Via.refl e2 f4 f5 (Or.inr ⟨(own_w hw 133 rfl), rfl, hnm⟩) (own_w hw 111 rfl) (ty := (.object "java/math/BigDecimal")) (by decide) rfl rfl (g := (mkF m 11 #[.val (.ref a), .val (.ref tx), .val (.ref r)] [(.ref r), (.ref a)])) rfl rfl (hb hby d17_11)
  refine Rch.st st6 ?_
  have N6 := Fr.snoc X6 N2 zP4
  have f7 := (zP0.wr W2 zP4)
  have K8 := K3.wr W6 (Or.inl (List.mem_of_getElem? (i := 0) rfl))
  have Fw6 := f4.same W6
  obtain ⟨fs, hr, hrun, hended, hW, hsame⟩ := X6.leave (v := none) (fun _ => rfl)
  have f9 := (f7.wr W6 zP4)
  have f10 := (f5.wr W6)
  refine Rch.fin (u := T6.setFrames fs) (X6.returnOut hx Bd.returns (hb hby d17_14) hr) ⟨_, hrun, hended, _, _, rfl, ?_, ⟨_, rfl⟩, hW, hsame.mono (by decide) (by decide)⟩
  show Q_cadv Z a tx r h0 n0 _ T6.heap _
  rw [e6]
  exact ⟨rfl, N6, K8, f9, f10, Fw6⟩
theorem d28_0 : decode prog_27_method_6_code 0 = .ok (.aload_n 0, 1) := by decide +kernel
theorem d28_1 : decode prog_27_method_6_code 1 = .ok (.getfield 13, 3) := by decide +kernel
theorem d28_4 : decode prog_27_method_6_code 4 = .ok (.areturn, 1) := by decide +kernel
abbrev Rm_cbudget : Room := { frames := 0, cells := 0, slots := 0, locals := 0 }
def Q_cbudget (Z : State) (a : Addr) (r : Addr) (h0 : Heap) (n0 : Nat) (v : Option Value) (h : Heap) (L : List Loc) : Prop := v = some (.ref r) ∧ Fr n0 L ∧ h = h0
theorem ef_cbudget (m : MethodId) (a : Addr) (r : Addr) : entryFrame m #[(.ref a)] 1 = mkF m 0 #[.val (.ref a)] [] := by first | (simp [entryFrame, mkF, argsToLocals, Value.category]; done) | rfl
set_option maxRecDepth 65536 in
set_option maxHeartbeats 40000000 in
theorem cbudget (l : Launch) (Z : State) (a0 : Array Value) (hw : ∀ d ∈ tables_1, d.before a0 Z = true) (ws : List Jvm.Cond) (a : Addr) (r : Addr) (h0 : Heap) (n0 : Nat) (zP0 : Fld Z h0 a "com/example/slotwright/slotwright/Market$Advertiser" "budget" "Ljava/math/BigDecimal;" (.ref r)) :
    MetFree l (⟨"com/example/slotwright/slotwright/Market$Advertiser", "budget", "()Ljava/math/BigDecimal;"⟩ : MethodName) (head1 (Jvm.Cond.code (⟨"com/example/slotwright/slotwright/Market$Advertiser", "budget", "()Ljava/math/BigDecimal;"⟩ : MethodName) prog_27_method_6_code 1 (some (.object "java/math/BigDecimal")) :: ws) Rm_cbudget) (fun aA uU => aA = #[(.ref a)] ∧ Z.Warmed39 uU.vm ∧ uU.heap = h0) (fun _ _ _ _ _ => True) (fun _ uU oO uU' => ∃ vV lL, oO = .returned vV ∧ Q_cbudget Z a r h0 n0 vV uU'.heap lL ∧ FrameEnd uU oO uU' lL Rm_cbudget.cells Rm_cbudget.slots) := by
  refine MetFree.of_bodySF (plainFor_of_name pn_com_example_slotwright_slotwright_Market_Advertiser) hisR ?_
  intro p e s m args below meth c s₁ Bd hml0 hP hK
  obtain ⟨rfl, hZ, hh⟩ := hP
  have hx := Bd.exec
  have hby := Bd.bytes
  have hml : c.maxLocals = 1 := hml0
  have hown : s.vm.findClass "com/example/slotwright/slotwright/Market$Advertiser" = some m.cls := findClass_of_methodNamed Bd.named
  have hnm := (name_of_methodNamed Bd.named Bd.method).1
  have X0 : Stand p l e Rm_cbudget s m #[(.ref a)] below meth c s₁ [] 0 0 := Stand.of_body Bd
  have e0 : s₁.heap = h0 := by rw [← hh, Bd.state]; rfl
  have N0 := Fr.nil n0
  refine Rch.out (Rch.st (fun t k => castTop (ef_cbudget m a r) k) ?_)
  show Rch p.tables e below _ (s₁.setTop (mkF m 0 #[.val (.ref a)] []))
  refine Rch.st (fun _ hr => XS.aloadN X0.here hx rfl (hb hby d28_0) rfl rfl hr) ?_
  obtain ⟨T1, X1, e1, st1⟩ := getF X0 hx hZ hown (host := "") (Or.inl (own_w hw 132 rfl)) Via.refl e0 zP0 (g := (mkF m 1 #[.val (.ref a)] [(.ref a)])) rfl rfl (hb hby d28_1)
  refine Rch.st st1 ?_
  obtain ⟨fs, hr, hrun, hended, hW, hsame⟩ := X1.leave (v := some (.ref r)) (fun h => by rw [Bd.returns] at h; cases h)
  refine Rch.fin (u := T1.setFrames fs) (own_retA X1 hx Bd.returns rfl rfl rfl (hb hby d28_4) hr) ⟨_, hrun, hended, _, _, rfl, ?_, ⟨_, rfl⟩, hW, hsame.mono (by decide) (by decide)⟩
  show Q_cbudget Z a r h0 n0 _ T1.heap _
  exact ⟨rfl, N0, e1⟩
theorem d9_0 : decode jdk_65_method_117_code 0 = .ok (.iconst 0, 1) := by decide +kernel
theorem d9_1 : decode jdk_65_method_117_code 1 = .ok (.istore_n 2, 1) := by decide +kernel
theorem d9_2 : decode jdk_65_method_117_code 2 = .ok (.aload_n 0, 1) := by decide +kernel
theorem d9_3 : decode jdk_65_method_117_code 3 = .ok (.arraylength, 1) := by decide +kernel
theorem d9_4 : decode jdk_65_method_117_code 4 = .ok (.istore_n 3, 1) := by decide +kernel
theorem d9_5 : decode jdk_65_method_117_code 5 = .ok (.iload_n 2, 1) := by decide +kernel
theorem d9_6 : decode jdk_65_method_117_code 6 = .ok (.iload_n 3, 1) := by decide +kernel
theorem d9_7 : decode jdk_65_method_117_code 7 = .ok (.if_icmp .ge 13, 3) := by decide +kernel
theorem d9_20 : decode jdk_65_method_117_code 20 = .ok (.return_, 1) := by decide +kernel
abbrev Rm_cfill0 : Room := { frames := 0, cells := 0, slots := 0, locals := 0 }
def Q_cfill0 (Z : State) (a : Addr) (kf : ClassId) (z : Addr) (h0 : Heap) (n0 : Nat) (v : Option Value) (h : Heap) (L : List Loc) : Prop := v = none ∧ Fr n0 L ∧ Keep h0 h [a] ∧ Old Z n0 h ∧ Arv Z h a kf (.object "java/math/BigDecimal") (0 : Int32) [] .null
theorem pn_java_util_Arrays : plainName "java/util/Arrays" = true := by first | (simp [plainName, overriddenIn]; done) | decide +kernel
theorem ef_cfill0 (m : MethodId) (a : Addr) (kf : ClassId) (z : Addr) : entryFrame m #[(.ref a), (.ref z)] 4 = mkF m 0 #[.val (.ref a), .val (.ref z), .unset, .unset] [] := by first | (simp [entryFrame, mkF, argsToLocals, Value.category]; done) | rfl
set_option maxRecDepth 65536 in
set_option maxHeartbeats 40000000 in
theorem cfill0 (l : Launch) (Z : State) (a0 : Array Value) (hw : ∀ d ∈ tables_1, d.before a0 Z = true) (ws : List Jvm.Cond) (a : Addr) (kf : ClassId) (z : Addr) (h0 : Heap) (n0 : Nat) (zP0 : Old Z n0 h0) (zP1 : Arv Z h0 a kf (.object "java/math/BigDecimal") (0 : Int32) [] .null) (zP2 : Ovr Z kf "java/math/BigDecimal") (zP3 : Exa Z h0 z "java/math/BigDecimal") (zP4 : n0 ≤ a) :
    MetFree l (⟨"java/util/Arrays", "fill", "([Ljava/lang/Object;Ljava/lang/Object;)V"⟩ : MethodName) (head1 (Jvm.Cond.code (⟨"java/util/Arrays", "fill", "([Ljava/lang/Object;Ljava/lang/Object;)V"⟩ : MethodName) jdk_65_method_117_code 4 none :: ws) Rm_cfill0) (fun aA uU => aA = #[(.ref a), (.ref z)] ∧ Z.Warmed39 uU.vm ∧ uU.heap = h0) (fun _ _ _ _ _ => True) (fun _ uU oO uU' => ∃ vV lL, oO = .returned vV ∧ Q_cfill0 Z a kf z h0 n0 vV uU'.heap lL ∧ FrameEnd uU oO uU' lL Rm_cfill0.cells Rm_cfill0.slots) := by
  refine MetFree.of_bodySF (plainFor_of_name pn_java_util_Arrays) hisR ?_
  intro p e s m args below meth c s₁ Bd hml0 hP hK
  obtain ⟨rfl, hZ, hh⟩ := hP
  have hx := Bd.exec
  have hby := Bd.bytes
  have hml : c.maxLocals = 4 := hml0
  have hown : s.vm.findClass "java/util/Arrays" = some m.cls := findClass_of_methodNamed Bd.named
  have hnm := (name_of_methodNamed Bd.named Bd.method).1
  have X0 : Stand p l e Rm_cfill0 s m #[(.ref a), (.ref z)] below meth c s₁ [] 0 0 := Stand.of_body Bd
  have e0 : s₁.heap = h0 := by rw [← hh, Bd.state]; rfl
  have N0 := Fr.nil n0
  refine Rch.out (Rch.st (fun t k => castTop (ef_cfill0 m a kf z) k) ?_)
  show Rch p.tables e below _ (s₁.setTop (mkF m 0 #[.val (.ref a), .val (.ref z), .unset, .unset] []))
  refine Rch.st (fun _ hr => XS.iconst X0.here hx rfl (hb hby d9_0) hr) ?_
  refine Rch.st (fun _ hr => XS.istoreN X0.here hx rfl (hb hby d9_1) rfl (l' := #[.val (.ref a), .val (.ref z), .val (.int (0 : Int32)), .unset]) rfl hr) ?_
  refine Rch.st (fun _ hr => XS.aloadN X0.here hx rfl (hb hby d9_2) rfl rfl hr) ?_
  obtain ⟨cl1, Ar1, -, Sz1, Ng1, -, -⟩ := id zP1
  refine Rch.st (fun t hr => X0.arraylength hx (by rw [e0]; exact Ar1.1) (State.isArrayOf_alike hZ.alike Ar1.2.1) (g := (mkF m 3 #[.val (.ref a), .val (.ref z), .val (.int (0 : Int32)), .unset] [(.ref a)])) rfl rfl (hb hby d9_3) t hr) ?_
  rw [len_of Sz1 Ng1]
  refine Rch.st (fun _ hr => XS.istoreN X0.here hx rfl (hb hby d9_4) rfl (l' := #[.val (.ref a), .val (.ref z), .val (.int (0 : Int32)), .val (.int (0 : Int32))]) rfl hr) ?_
  refine Rch.st (fun _ hr => XS.iloadN X0.here hx rfl (hb hby d9_5) rfl hr) ?_
  show Rch p.tables e below _ (s₁.setTop (mkF m 6 #[.val (.ref a), .val (.ref z), .val (.int (0 : Int32)), .val (.int (0 : Int32))] [(.int (0 : Int32))]))
  refine Rch.st (fun _ hr => XS.iloadN X0.here hx rfl (hb hby d9_6) rfl hr) ?_
  refine Rch.st (fun _ hr => XS.icmpYes X0.here hx rfl (pc0 := 7) (pc' := 20) rfl (hb hby d9_7) rfl (flt (by decide : ¬ ((0 : Int32) < (0 : Int32)))).2.1 (by decide) (by decide) hr) ?_
  obtain ⟨fs, hr, hrun, hended, hW, hsame⟩ := X0.leave (v := none) (fun _ => rfl)
  refine Rch.fin (u := s₁.setFrames fs) (X0.returnOut hx Bd.returns (hb hby d9_20) hr) ⟨_, hrun, hended, _, _, rfl, ?_, ⟨_, rfl⟩, hW, hsame.mono (by decide) (by decide)⟩
  show Q_cfill0 Z a kf z h0 n0 _ s₁.heap _
  rw [e0]
  exact ⟨rfl, N0, (Keep.refl h0 [a]), zP0, zP1⟩
theorem d7_0 : decode prog_23_method_1_code 0 = .ok (.aload_n 0, 1) := by decide +kernel
theorem d7_1 : decode prog_23_method_1_code 1 = .ok (.invokespecial 1, 3) := by decide +kernel
theorem d7_4 : decode prog_23_method_1_code 4 = .ok (.aload_n 0, 1) := by decide +kernel
theorem d7_5 : decode prog_23_method_1_code 5 = .ok (.aload_n 1, 1) := by decide +kernel
theorem d7_6 : decode prog_23_method_1_code 6 = .ok (.putfield 7, 3) := by decide +kernel
theorem d7_9 : decode prog_23_method_1_code 9 = .ok (.aload_n 0, 1) := by decide +kernel
theorem d7_10 : decode prog_23_method_1_code 10 = .ok (.aload_n 1, 1) := by decide +kernel
theorem d7_11 : decode prog_23_method_1_code 11 = .ok (.invokeinterface 13 1, 5) := by decide +kernel
abbrev Y_22 : MethodName := ⟨"java/util/List", "size", "()I"⟩
abbrev Y_23 : MethodName := ⟨"java/util/ArrayList", "size", "()I"⟩
theorem d7_16 : decode prog_23_method_1_code 16 = .ok (.anewarray 19, 3) := by decide +kernel
theorem d7_19 : decode prog_23_method_1_code 19 = .ok (.putfield 21, 3) := by decide +kernel
theorem d7_22 : decode prog_23_method_1_code 22 = .ok (.aload_n 0, 1) := by decide +kernel
theorem d7_23 : decode prog_23_method_1_code 23 = .ok (.aload_n 1, 1) := by decide +kernel
theorem d7_24 : decode prog_23_method_1_code 24 = .ok (.invokeinterface 13 1, 5) := by decide +kernel
theorem d7_29 : decode prog_23_method_1_code 29 = .ok (.anewarray 19, 3) := by decide +kernel
theorem d7_32 : decode prog_23_method_1_code 32 = .ok (.putfield 25, 3) := by decide +kernel
theorem d7_35 : decode prog_23_method_1_code 35 = .ok (.aload_n 0, 1) := by decide +kernel
theorem d7_36 : decode prog_23_method_1_code 36 = .ok (.getfield 21, 3) := by decide +kernel
theorem d7_39 : decode prog_23_method_1_code 39 = .ok (.getstatic 28, 3) := by decide +kernel
theorem d7_42 : decode prog_23_method_1_code 42 = .ok (.invokestatic 32, 3) := by decide +kernel
theorem pd_18 : parseMethodDescriptor "([Ljava/lang/Object;Ljava/lang/Object;)V" = some ⟨[(.array (.object "java/lang/Object")), (.object "java/lang/Object")], none⟩ := by decide +kernel
abbrev Y_24 : MethodName := ⟨"java/util/Arrays", "fill", "([Ljava/lang/Object;Ljava/lang/Object;)V"⟩
theorem d7_45 : decode prog_23_method_1_code 45 = .ok (.iconst 0, 1) := by decide +kernel
theorem d7_46 : decode prog_23_method_1_code 46 = .ok (.istore_n 2, 1) := by decide +kernel
theorem d7_47 : decode prog_23_method_1_code 47 = .ok (.iload_n 2, 1) := by decide +kernel
theorem d7_48 : decode prog_23_method_1_code 48 = .ok (.aload_n 0, 1) := by decide +kernel
theorem d7_49 : decode prog_23_method_1_code 49 = .ok (.getfield 25, 3) := by decide +kernel
theorem d7_52 : decode prog_23_method_1_code 52 = .ok (.arraylength, 1) := by decide +kernel
theorem d7_53 : decode prog_23_method_1_code 53 = .ok (.if_icmp .ge 28, 3) := by decide +kernel
theorem d7_81 : decode prog_23_method_1_code 81 = .ok (.return_, 1) := by decide +kernel
abbrev Rm_cledger0 : Room := { frames := 1, cells := 2, slots := 0, locals := 15 }
def Q_cledger0 (Z : State) (lg : Addr) (a : Addr) (zz : Addr) (h0 : Heap) (n0 : Nat) (v : Option Value) (h : Heap) (L : List Loc) : Prop := ∃ (sp : Addr) (ks : ClassId) (rm : Addr) (kr : ClassId), v = none ∧ Fr n0 L ∧ Keep h0 h [lg] ∧ Old Z n0 h ∧ Exa Z h lg "com/example/slotwright/slotwright/Ledger" ∧ Fld Z h lg "com/example/slotwright/slotwright/Ledger" "spent" "[Ljava/math/BigDecimal;" (.ref sp) ∧ Fld Z h lg "com/example/slotwright/slotwright/Ledger" "remaining" "[Ljava/math/BigDecimal;" (.ref rm) ∧ h0.size ≤ sp ∧ h0.size ≤ rm ∧ Arv Z h sp ks (.object "java/math/BigDecimal") (0 : Int32) [] .null ∧ Arv Z h rm kr (.object "java/math/BigDecimal") (0 : Int32) [] .null ∧ Ovr Z ks "java/math/BigDecimal" ∧ Ovr Z kr "java/math/BigDecimal" ∧ sp ≠ rm
theorem pn_com_example_slotwright_slotwright_Ledger : plainName "com/example/slotwright/slotwright/Ledger" = true := by first | (simp [plainName, overriddenIn]; done) | decide +kernel
theorem ef_cledger0 (m : MethodId) (lg : Addr) (a : Addr) (zz : Addr) : entryFrame m #[(.ref lg), (.ref a)] 3 = mkF m 0 #[.val (.ref lg), .val (.ref a), .unset] [] := by first | (simp [entryFrame, mkF, argsToLocals, Value.category]; done) | rfl
set_option maxRecDepth 65536 in
set_option maxHeartbeats 40000000 in
theorem cledger0 (l : Launch) (Z : State) (a0 : Array Value) (hw : ∀ d ∈ tables_1, d.before a0 Z = true) (ws : List Jvm.Cond) (lg : Addr) (a : Addr) (zz : Addr) (h0 : Heap) (n0 : Nat) (zD0 : Sta Z Z.heap "java/math/BigDecimal" "ZERO" "Ljava/math/BigDecimal;" (.ref zz)) (zD1 : BDc Z Z.heap zz (0 : Int64) (0 : Int32)) (zP0 : Old Z n0 h0) (zP1 : Exa Z h0 lg "com/example/slotwright/slotwright/Ledger") (zP2 : Fld Z h0 lg "com/example/slotwright/slotwright/Ledger" "advertisers" "Ljava/util/List;" .null) (zP3 : Fld Z h0 lg "com/example/slotwright/slotwright/Ledger" "spent" "[Ljava/math/BigDecimal;" .null) (zP4 : Fld Z h0 lg "com/example/slotwright/slotwright/Ledger" "remaining" "[Ljava/math/BigDecimal;" .null) (zP5 : n0 ≤ lg) (zP6 : Exa Z h0 a "java/util/ArrayList") (zP7 : Fld Z h0 a "java/util/ArrayList" "size" "I" (.int (0 : Int32))) :
    MetFree l (⟨"com/example/slotwright/slotwright/Ledger", "<init>", "(Ljava/util/List;)V"⟩ : MethodName) (head1 (Jvm.Cond.code (⟨"com/example/slotwright/slotwright/Ledger", "<init>", "(Ljava/util/List;)V"⟩ : MethodName) prog_23_method_1_code 3 none :: ws) Rm_cledger0) (fun aA uU => aA = #[(.ref lg), (.ref a)] ∧ Z.Warmed39 uU.vm ∧ uU.heap = h0) (fun _ _ _ _ _ => True) (fun _ uU oO uU' => ∃ vV lL, oO = .returned vV ∧ Q_cledger0 Z lg a zz h0 n0 vV uU'.heap lL ∧ FrameEnd uU oO uU' lL Rm_cledger0.cells Rm_cledger0.slots) := by
  refine MetFree.of_bodySF (plainFor_of_name pn_com_example_slotwright_slotwright_Ledger) hisR ?_
  intro p e s m args below meth c s₁ Bd hml0 hP hK
  obtain ⟨rfl, hZ, hh⟩ := hP
  have hx := Bd.exec
  have hby := Bd.bytes
  have hml : c.maxLocals = 3 := hml0
  have hown : s.vm.findClass "com/example/slotwright/slotwright/Ledger" = some m.cls := findClass_of_methodNamed Bd.named
  have hnm := (name_of_methodNamed Bd.named Bd.method).1
  have X0 : Stand p l e Rm_cledger0 s m #[(.ref lg), (.ref a)] below meth c s₁ [] 0 0 := Stand.of_body Bd
  have e0 : s₁.heap = h0 := by rw [← hh, Bd.state]; rfl
  have N0 := Fr.nil n0
  refine Rch.out (Rch.st (fun t k => castTop (ef_cledger0 m lg a zz) k) ?_)
  show Rch p.tables e below _ (s₁.setTop (mkF m 0 #[.val (.ref lg), .val (.ref a), .unset] []))
  refine Rch.st (fun _ hr => XS.aloadN X0.here hx rfl (hb hby d7_0) rfl rfl hr) ?_
  obtain ⟨T1, X1, e1, st1⟩ := initO X0 hx hZ hown (own_w hw 40 rfl) (own_w hw 19 rfl) (own_w hw 20 rfl) e0 (g := (mkF m 1 #[.val (.ref lg), .val (.ref a), .unset] [(.ref lg)])) rfl (by rw [hml]; rfl) rfl (hb hby d7_1) (by decide) (W := 0) (own_mr rfl rfl) (by decide)
  refine Rch.st st1 ?_
  refine Rch.st (fun _ hr => XS.aloadN X1.here hx rfl (hb hby d7_4) rfl rfl hr) ?_
  refine Rch.st (fun _ hr => XS.aloadN X1.here hx rfl (hb hby d7_5) rfl rfl hr) ?_
  obtain ⟨T2, h2, X2, e2, W2, st2⟩ := putF X1 hx hZ hown (host := "") (Or.inl (own_w hw 41 rfl)) Via.refl e1 zP2 zP1 (Or.inr ⟨(own_w hw 42 rfl), rfl, hnm⟩) (own_w hw 35 rfl) (ty := (.object "java/util/List")) (by decide) rfl rfl (g := (mkF m 6 #[.val (.ref lg), .val (.ref a), .unset] [(.ref a), (.ref lg)])) rfl rfl (hb hby d7_6)
  refine Rch.st st2 ?_
  have N2 := Fr.snoc X2 N0 zP5
  have ne3 := (Exa.ne zP6 zP1 (by decide))
  have K4 := (Keep.refl h0 [lg]).wr W2 (Or.inl (List.mem_of_getElem? (i := 0) rfl))
  have Fw2 := zP2.same W2
  refine Rch.st (fun _ hr => XS.aloadN X2.here hx rfl (hb hby d7_9) rfl rfl hr) ?_
  show Rch p.tables e below _ (T2.setTop (mkF m 10 #[.val (.ref lg), .val (.ref a), .unset] [(.ref lg)]))
  refine Rch.st (fun _ hr => XS.aloadN X2.here hx rfl (hb hby d7_10) rfl rfl hr) ?_
  have f6 := (zP6.wr W2)
  have f7 := (zP7.other W2 (Or.inl ne3))
  show Rch p.tables e below _ (T2.setTop (mkF m 11 #[.val (.ref lg), .val (.ref a), .unset] [(.ref a), (.ref lg)]))
  refine own_kF X2 hx hZ (xi := Y_22) (y := Y_23) hown (own_w hw 43 rfl) (own_w hw 44 rfl) (mvT hZ (own_w hw 45 rfl)) (own_w hw 46 rfl) (own_w hw 47 rfl) (own_w hw 48 rfl) (own_w hw 49 rfl) (own_w hw 50 rfl) (own_w hw 2 rfl) (own_w hw 51 rfl) (by decide) (W := 1) (csize l Z a0 hw [] a (0 : Int32) h2 n0 f7) (by decide) (by decide) e2 f6 (by decide) (by decide)  (by rw [hml]; rfl) (argsL := []) (rest := [(.ref lg)]) (lenOf pd_11 rfl) rfl rfl (hb hby d7_11) rfl (fun _ T5 Lc5 X5 hQ5 => ?_)
  obtain ⟨rfl, N5q, e5⟩ := hQ5
  have N5 := Fr.app N2 N5q
  obtain ⟨T8, h8, k8, X8, e8, E8, A8, O8, st8⟩ := newR X5 hx hZ hown (own_w hw 54 rfl) (own_w hw 55 rfl) e5 (g := (mkF m 16 #[.val (.ref lg), .val (.ref a), .unset] [(.int (0 : Int32)), (.ref lg)])) rfl (hb hby d7_16) rfl (by decide) (cap := 0) (by decide) (by decide) (by decide) (by decide)
  obtain ⟨b8, g8⟩ : ∃ z, z = h2.size := ⟨_, rfl⟩
  rw [← g8] at A8 st8
  refine Rch.st st8 ?_
  have q8 : h2.size ≤ b8 := Nat.le_of_eq g8.symm
  have f9 := (zP4.other W2 (Or.inr (slot_ne (Or.inr (own_w hw 59 rfl)) (Or.inr (own_w hw 42 rfl)) (by decide) (t := (.array (.object "java/math/BigDecimal"))) (t' := (.object "java/util/List")) (by decide) (by decide))))
  have ne10 := Nat.ne_of_lt (Nat.lt_of_lt_of_le f9.lt q8)
  have ne11 := Nat.ne_of_lt (Nat.lt_of_lt_of_le f7.lt q8)
  have f12 := (zP0.wr W2 zP5)
  have g_b8 : n0 ≤ b8 := Nat.le_trans (Nat.le_trans (Nat.le_of_eq f12.1.symm) f12.2.1) q8
  have sz_b8 : h0.size ≤ b8 := Nat.le_trans K4.1 q8
  have K13 := K4.ext E8
  have V8 : Arv Z h8 b8 k8 (.object "java/math/BigDecimal") (0 : Int32) [] .null := Arv.new A8 (by decide)
  have f14 := ((zP3.other W2 (Or.inr (slot_ne (Or.inr (own_w hw 57 rfl)) (Or.inr (own_w hw 42 rfl)) (by decide) (t := (.array (.object "java/math/BigDecimal"))) (t' := (.object "java/util/List")) (by decide) (by decide)))).ext E8)
  have f15 := ((zP1.wr W2).ext E8)
  obtain ⟨T16, h16, X16, e16, W16, st16⟩ := putF X8 hx hZ hown (host := "") (Or.inl (own_w hw 56 rfl)) Via.refl e8 f14 f15 (Or.inr ⟨(own_w hw 57 rfl), rfl, hnm⟩) (own_w hw 35 rfl) (ty := (.array (.object "java/math/BigDecimal"))) (by decide) rfl rfl (g := (mkF m 19 #[.val (.ref lg), .val (.ref a), .unset] [(.ref b8), (.ref lg)])) rfl rfl (hb hby d7_19)
  refine Rch.st st16 ?_
  have N16 := Fr.snoc X16 N5 zP5
  have f17 := (f12.ext E8)
  have K18 := K13.wr W16 (Or.inl (List.mem_of_getElem? (i := 0) rfl))
  have Fw16 := f14.same W16
  refine Rch.st (fun _ hr => XS.aloadN X16.here hx rfl (hb hby d7_22) rfl rfl hr) ?_
  refine Rch.st (fun _ hr => XS.aloadN X16.here hx rfl (hb hby d7_23) rfl rfl hr) ?_
  show Rch p.tables e below _ (T16.setTop (mkF m 24 #[.val (.ref lg), .val (.ref a), .unset] [(.ref a), (.ref lg)]))
  have f20 := ((f6.ext E8).wr W16)
  have f21 := ((f7.ext E8).other W16 (Or.inl ne3))
  show Rch p.tables e below _ (T16.setTop (mkF m 24 #[.val (.ref lg), .val (.ref a), .unset] [(.ref a), (.ref lg)]))
  refine own_kF X16 hx hZ (xi := Y_22) (y := Y_23) hown (own_w hw 43 rfl) (own_w hw 44 rfl) (mvT hZ (own_w hw 45 rfl)) (own_w hw 46 rfl) (own_w hw 47 rfl) (own_w hw 48 rfl) (own_w hw 49 rfl) (own_w hw 50 rfl) (own_w hw 2 rfl) (own_w hw 51 rfl) (by decide) (W := 1) (csize l Z a0 hw [] a (0 : Int32) h16 n0 f21) (by decide) (by decide) e16 f20 (by decide) (by decide)  (by rw [hml]; rfl) (argsL := []) (rest := [(.ref lg)]) (lenOf pd_11 rfl) rfl rfl (hb hby d7_24) rfl (fun _ T19 Lc19 X19 hQ19 => ?_)
  obtain ⟨rfl, N19q, e19⟩ := hQ19
  have N19 := Fr.app N16 N19q
  obtain ⟨T22, h22, k22, X22, e22, E22, A22, O22, st22⟩ := newR X19 hx hZ hown (own_w hw 54 rfl) (own_w hw 55 rfl) e19 (g := (mkF m 29 #[.val (.ref lg), .val (.ref a), .unset] [(.int (0 : Int32)), (.ref lg)])) rfl (hb hby d7_29) rfl (by decide) (cap := 0) (by decide) (by decide) (by decide) (by decide)
  obtain ⟨b22, g22⟩ : ∃ z, z = h16.size := ⟨_, rfl⟩
  rw [← g22] at A22 st22
  refine Rch.st st22 ?_
  have q22 : h16.size ≤ b22 := Nat.le_of_eq g22.symm
  have f23 := ((f9.ext E8).other W16 (Or.inr (slot_ne (Or.inr (own_w hw 59 rfl)) (Or.inr (own_w hw 57 rfl)) (by decide) (t := (.array (.object "java/math/BigDecimal"))) (t' := (.array (.object "java/math/BigDecimal"))) (by decide) (by decide))))
  have ne24 := Nat.ne_of_lt (Nat.lt_of_lt_of_le f23.lt q22)
  have ne25 := Nat.ne_of_lt (Nat.lt_of_lt_of_le f21.lt q22)
  have f26 := (V8.other W16 (Ne.symm ne10))
  have ne27 := Nat.ne_of_lt (Nat.lt_of_lt_of_le f26.lt q22)
  have f28 := (f17.wr W16 zP5)
  have g_b22 : n0 ≤ b22 := Nat.le_trans (Nat.le_trans (Nat.le_of_eq f28.1.symm) f28.2.1) q22
  have sz_b22 : h0.size ≤ b22 := Nat.le_trans K18.1 q22
  have K29 := K18.ext E22
  have V22 : Arv Z h22 b22 k22 (.object "java/math/BigDecimal") (0 : Int32) [] .null := Arv.new A22 (by decide)
  have f30 := (f23.ext E22)
  have f31 := ((f15.wr W16).ext E22)
  obtain ⟨T32, h32, X32, e32, W32, st32⟩ := putF X22 hx hZ hown (host := "") (Or.inl (own_w hw 58 rfl)) Via.refl e22 f30 f31 (Or.inr ⟨(own_w hw 59 rfl), rfl, hnm⟩) (own_w hw 35 rfl) (ty := (.array (.object "java/math/BigDecimal"))) (by decide) rfl rfl (g := (mkF m 32 #[.val (.ref lg), .val (.ref a), .unset] [(.ref b22), (.ref lg)])) rfl rfl (hb hby d7_32)
  refine Rch.st st32 ?_
  have N32 := Fr.snoc X32 N19 zP5
  have f33 := (f28.ext E22)
  have K34 := K29.wr W32 (Or.inl (List.mem_of_getElem? (i := 0) rfl))
  have Fw32 := f30.same W32
  refine Rch.st (fun _ hr => XS.aloadN X32.here hx rfl (hb hby d7_35) rfl rfl hr) ?_
  have f35 := ((Fw16.ext E22).other W32 (Or.inr (slot_ne (Or.inr (own_w hw 57 rfl)) (Or.inr (own_w hw 59 rfl)) (by decide) (t := (.array (.object "java/math/BigDecimal"))) (t' := (.array (.object "java/math/BigDecimal"))) (by decide) (by decide))))
  obtain ⟨T36, X36, e36, st36⟩ := getF X32 hx hZ hown (host := "") (Or.inl (own_w hw 56 rfl)) Via.refl e32 f35 (g := (mkF m 36 #[.val (.ref lg), .val (.ref a), .unset] [(.ref lg)])) rfl rfl (hb hby d7_36)
  refine Rch.st st36 ?_
  have f37 := (f33.wr W32 zP5)
  obtain ⟨T38, X38, e38, st38⟩ := getS2 X36 hx hZ hown (host := "") (Or.inl (own_w hw 60 rfl)) Via.refl e36 (zD0.ext f37.2) (g := (mkF m 39 #[.val (.ref lg), .val (.ref a), .unset] [(.ref b8)])) rfl (hb hby d7_39)
  refine Rch.st st38 ?_
  show Rch p.tables e below _ (T38.setTop (mkF m 42 #[.val (.ref lg), .val (.ref a), .unset] [(.ref zz), (.ref b8)]))
  have f40 := ((f26.ext E22).other W32 (Ne.symm ne10))
  have f41 := O8
  show Rch p.tables e below _ (T38.setTop (mkF m 42 #[.val (.ref lg), .val (.ref a), .unset] [(.ref zz), (.ref b8)]))
  refine own_kS X38 hx hZ (y := Y_24) hown (own_w hw 61 rfl) (own_w hw 62 rfl) (own_w hw 63 rfl) (own_w hw 64 rfl) (by decide) (W := 0) (cfill0 l Z a0 hw [] b8 k8 zz h32 n0 f37 f40 f41 (zD1.1.ext f37.2) g_b8) (by decide) (by decide) e38 (by decide) (by decide)  (by rw [hml]; rfl) (argsL := [(.ref b8), (.ref zz)]) (rest := []) (lenOf pd_18 rfl) rfl rfl (hb hby d7_42) rfl (fun _ T39 Lc39 X39 hQ39 => ?_)
  obtain ⟨rfl, N39q, Kp39, Op39, R39_0⟩ := hQ39
  have N39 := Fr.app N32 N39q
  have K42 := K34.trans Kp39 (allS (Or.inr sz_b8) all0)
  refine Rch.st (fun _ hr => XS.iconst X39.here hx rfl (hb hby d7_45) hr) ?_
  refine Rch.st (fun _ hr => XS.istoreN X39.here hx rfl (hb hby d7_46) rfl (l' := #[.val (.ref lg), .val (.ref a), .val (.int (0 : Int32))]) rfl hr) ?_
  refine Rch.st (fun _ hr => XS.iloadN X39.here hx rfl (hb hby d7_47) rfl hr) ?_
  refine Rch.st (fun _ hr => XS.aloadN X39.here hx rfl (hb hby d7_48) rfl rfl hr) ?_
  have f43 := (Fw32.keep Kp39 (ninS ne10 nin0))
  obtain ⟨T44, X44, e44, st44⟩ := getF X39 hx hZ hown (host := "") (Or.inl (own_w hw 58 rfl)) Via.refl rfl f43 (g := (mkF m 49 #[.val (.ref lg), .val (.ref a), .val (.int (0 : Int32))] [(.ref lg), (.int (0 : Int32))])) rfl rfl (hb hby d7_49)
  refine Rch.st st44 ?_
  show Rch p.tables e below _ (T44.setTop (mkF m 52 #[.val (.ref lg), .val (.ref a), .val (.int (0 : Int32))] [(.ref b22), (.int (0 : Int32))]))
  have f45 := ((V22.other W32 (Ne.symm ne24)).keep Kp39 (ninS (Ne.symm ne27) nin0))
  obtain ⟨cl46, Ar46, -, Sz46, Ng46, -, -⟩ := id f45
  refine Rch.st (fun t hr => X44.arraylength hx (by rw [e44]; exact Ar46.1) (State.isArrayOf_alike hZ.alike Ar46.2.1) (g := (mkF m 52 #[.val (.ref lg), .val (.ref a), .val (.int (0 : Int32))] [(.ref b22), (.int (0 : Int32))])) rfl rfl (hb hby d7_52) t hr) ?_
  rw [len_of Sz46 Ng46]
  refine Rch.st (fun _ hr => XS.icmpYes X44.here hx rfl (pc0 := 53) (pc' := 81) rfl (hb hby d7_53) rfl (flt (by decide : ¬ ((0 : Int32) < (0 : Int32)))).2.1 (by decide) (by decide) hr) ?_
  obtain ⟨fs, hr, hrun, hended, hW, hsame⟩ := X44.leave (v := none) (fun _ => rfl)
  have f47 := ((f31.wr W32).keep Kp39)
  have f48 := (f35.keep Kp39 (ninS ne10 nin0))
  have f49 := f41
  have f50 := O22
  refine Rch.fin (u := T44.setFrames fs) (X44.returnOut hx Bd.returns (hb hby d7_81) hr) ⟨_, hrun, hended, _, _, rfl, ?_, ⟨_, rfl⟩, hW, hsame.mono (by decide) (by decide)⟩
  show Q_cledger0 Z lg a zz h0 n0 _ T44.heap _
  rw [e44]
  exact ⟨b8, k8, b22, k22, rfl, N39, K42, Op39, f47, f48, f43, sz_b8, sz_b22, R39_0, f45, f49, f50, ne27⟩
theorem d10_0 : decode prog_23_method_8_code 0 = .ok (.getstatic 28, 3) := by decide +kernel
theorem d10_3 : decode prog_23_method_8_code 3 = .ok (.astore_n 1, 1) := by decide +kernel
theorem d10_4 : decode prog_23_method_8_code 4 = .ok (.aload_n 0, 1) := by decide +kernel
theorem d10_5 : decode prog_23_method_8_code 5 = .ok (.getfield 21, 3) := by decide +kernel
theorem d10_8 : decode prog_23_method_8_code 8 = .ok (.astore_n 2, 1) := by decide +kernel
theorem d10_9 : decode prog_23_method_8_code 9 = .ok (.aload_n 2, 1) := by decide +kernel
theorem d10_10 : decode prog_23_method_8_code 10 = .ok (.arraylength, 1) := by decide +kernel
theorem d10_11 : decode prog_23_method_8_code 11 = .ok (.istore_n 3, 1) := by decide +kernel
theorem d10_12 : decode prog_23_method_8_code 12 = .ok (.iconst 0, 1) := by decide +kernel
theorem d10_13 : decode prog_23_method_8_code 13 = .ok (.istore 4, 2) := by decide +kernel
theorem d10_15 : decode prog_23_method_8_code 15 = .ok (.iload 4, 2) := by decide +kernel
theorem d10_17 : decode prog_23_method_8_code 17 = .ok (.iload_n 3, 1) := by decide +kernel
theorem d10_18 : decode prog_23_method_8_code 18 = .ok (.if_icmp .ge 22, 3) := by decide +kernel
theorem d10_40 : decode prog_23_method_8_code 40 = .ok (.aload_n 1, 1) := by decide +kernel
theorem d10_41 : decode prog_23_method_8_code 41 = .ok (.areturn, 1) := by decide +kernel
abbrev Rm_crev0 : Room := { frames := 0, cells := 0, slots := 0, locals := 0 }
def Q_crev0 (Z : State) (lg : Addr) (sp : Addr) (ks : ClassId) (sc : Int32) (kb : Int) (wz : Addr) (wy : Addr) (zz : Addr) (h0 : Heap) (n0 : Nat) (v : Option Value) (h : Heap) (L : List Loc) : Prop := ∃ (r : Addr), v = some (.ref r) ∧ Fr n0 L ∧ Keep h0 h [] ∧ Old Z n0 h ∧ BE Z h r (0 : Int64) sc kb
theorem ef_crev0 (m : MethodId) (lg : Addr) (sp : Addr) (ks : ClassId) (sc : Int32) (kb : Int) (wz : Addr) (wy : Addr) (zz : Addr) : entryFrame m #[(.ref lg)] 6 = mkF m 0 #[.val (.ref lg), .unset, .unset, .unset, .unset, .unset] [] := by first | (simp [entryFrame, mkF, argsToLocals, Value.category]; done) | rfl
set_option maxRecDepth 65536 in
set_option maxHeartbeats 40000000 in
theorem crev0 (l : Launch) (Z : State) (a0 : Array Value) (hw : ∀ d ∈ tables_1, d.before a0 Z = true) (ws : List Jvm.Cond) (lg : Addr) (sp : Addr) (ks : ClassId) (sc : Int32) (kb : Int) (wz : Addr) (wy : Addr) (zz : Addr) (h0 : Heap) (n0 : Nat) (zD0 : Sta Z Z.heap "java/math/BigDecimal" "ZERO_THROUGH_TEN" "[Ljava/math/BigDecimal;" (.ref wz)) (zD1 : ZTab Z Z.heap wz) (zD2 : Sta Z Z.heap "java/math/BigDecimal" "ZERO_SCALED_BY" "[Ljava/math/BigDecimal;" (.ref wy)) (zD3 : STab Z Z.heap wy) (zD4 : Sta Z Z.heap "java/math/BigDecimal" "ZERO" "Ljava/math/BigDecimal;" (.ref zz)) (zD5 : BDc Z Z.heap zz (0 : Int64) (0 : Int32)) (zP0 : Old Z n0 h0) (zP1 : Fld Z h0 lg "com/example/slotwright/slotwright/Ledger" "spent" "[Ljava/math/BigDecimal;" (.ref sp)) (zP2 : Arv Z h0 sp ks (.object "java/math/BigDecimal") (0 : Int32) [] .null) (hs : own_S sc) (h0k : 0 ≤ kb) (hk : kb ≤ 100) :
    MetFree l (⟨"com/example/slotwright/slotwright/Ledger", "revenue", "()Ljava/math/BigDecimal;"⟩ : MethodName) (head1 (Jvm.Cond.code (⟨"com/example/slotwright/slotwright/Ledger", "revenue", "()Ljava/math/BigDecimal;"⟩ : MethodName) prog_23_method_8_code 6 (some (.object "java/math/BigDecimal")) :: ws) Rm_crev0) (fun aA uU => aA = #[(.ref lg)] ∧ Z.Warmed39 uU.vm ∧ uU.heap = h0) (fun _ _ _ _ _ => True) (fun _ uU oO uU' => ∃ vV lL, oO = .returned vV ∧ Q_crev0 Z lg sp ks sc kb wz wy zz h0 n0 vV uU'.heap lL ∧ FrameEnd uU oO uU' lL Rm_crev0.cells Rm_crev0.slots) := by
  refine MetFree.of_bodySF (plainFor_of_name pn_com_example_slotwright_slotwright_Ledger) hisR ?_
  intro p e s m args below meth c s₁ Bd hml0 hP hK
  obtain ⟨rfl, hZ, hh⟩ := hP
  have hx := Bd.exec
  have hby := Bd.bytes
  have hml : c.maxLocals = 6 := hml0
  have hown : s.vm.findClass "com/example/slotwright/slotwright/Ledger" = some m.cls := findClass_of_methodNamed Bd.named
  have hnm := (name_of_methodNamed Bd.named Bd.method).1
  have X0 : Stand p l e Rm_crev0 s m #[(.ref lg)] below meth c s₁ [] 0 0 := Stand.of_body Bd
  have e0 : s₁.heap = h0 := by rw [← hh, Bd.state]; rfl
  have N0 := Fr.nil n0
  refine Rch.out (Rch.st (fun t k => castTop (ef_crev0 m lg sp ks sc kb wz wy zz) k) ?_)
  show Rch p.tables e below _ (s₁.setTop (mkF m 0 #[.val (.ref lg), .unset, .unset, .unset, .unset, .unset] []))
  have Bzz : BE Z h0 zz (0 : Int64) sc kb := BE.zero (zD5.ext zP0.2) h0k
  obtain ⟨T1, X1, e1, st1⟩ := getS2 X0 hx hZ hown (host := "") (Or.inl (own_w hw 60 rfl)) Via.refl e0 (zD4.ext zP0.2) (g := (mkF m 0 #[.val (.ref lg), .unset, .unset, .unset, .unset, .unset] [])) rfl (hb hby d10_0)
  refine Rch.st st1 ?_
  refine Rch.st (fun _ hr => XS.astoreN X1.here hx rfl (hb hby d10_3) rfl rfl (l' := #[.val (.ref lg), .val (.ref zz), .unset, .unset, .unset, .unset]) rfl hr) ?_
  refine Rch.st (fun _ hr => XS.aloadN X1.here hx rfl (hb hby d10_4) rfl rfl hr) ?_
  obtain ⟨T2, X2, e2, st2⟩ := getF X1 hx hZ hown (host := "") (Or.inl (own_w hw 56 rfl)) Via.refl e1 zP1 (g := (mkF m 5 #[.val (.ref lg), .val (.ref zz), .unset, .unset, .unset, .unset] [(.ref lg)])) rfl rfl (hb hby d10_5)
  refine Rch.st st2 ?_
  refine Rch.st (fun _ hr => XS.astoreN X2.here hx rfl (hb hby d10_8) rfl rfl (l' := #[.val (.ref lg), .val (.ref zz), .val (.ref sp), .unset, .unset, .unset]) rfl hr) ?_
  refine Rch.st (fun _ hr => XS.aloadN X2.here hx rfl (hb hby d10_9) rfl rfl hr) ?_
  show Rch p.tables e below _ (T2.setTop (mkF m 10 #[.val (.ref lg), .val (.ref zz), .val (.ref sp), .unset, .unset, .unset] [(.ref sp)]))
  obtain ⟨cl3, Ar3, -, Sz3, Ng3, -, -⟩ := id zP2
  refine Rch.st (fun t hr => X2.arraylength hx (by rw [e2]; exact Ar3.1) (State.isArrayOf_alike hZ.alike Ar3.2.1) (g := (mkF m 10 #[.val (.ref lg), .val (.ref zz), .val (.ref sp), .unset, .unset, .unset] [(.ref sp)])) rfl rfl (hb hby d10_10) t hr) ?_
  rw [len_of Sz3 Ng3]
  refine Rch.st (fun _ hr => XS.istoreN X2.here hx rfl (hb hby d10_11) rfl (l' := #[.val (.ref lg), .val (.ref zz), .val (.ref sp), .val (.int (0 : Int32)), .unset, .unset]) rfl hr) ?_
  refine Rch.st (fun _ hr => XS.iconst X2.here hx rfl (hb hby d10_12) hr) ?_
  refine Rch.st (fun _ hr => XS.istore X2.here hx rfl (hb hby d10_13) rfl (l' := #[.val (.ref lg), .val (.ref zz), .val (.ref sp), .val (.int (0 : Int32)), .val (.int (0 : Int32)), .unset]) rfl hr) ?_
  refine Rch.st (fun _ hr => XS.iload X2.here hx rfl (hb hby d10_15) rfl hr) ?_
  refine Rch.st (fun _ hr => XS.iloadN X2.here hx rfl (hb hby d10_17) rfl hr) ?_
  show Rch p.tables e below _ (T2.setTop (mkF m 18 #[.val (.ref lg), .val (.ref zz), .val (.ref sp), .val (.int (0 : Int32)), .val (.int (0 : Int32)), .unset] [(.int (0 : Int32)), (.int (0 : Int32))]))
  refine Rch.st (fun _ hr => XS.icmpYes X2.here hx rfl (pc0 := 18) (pc' := 40) rfl (hb hby d10_18) rfl (flt (by decide : ¬ ((0 : Int32) < (0 : Int32)))).2.1 (by decide) (by decide) hr) ?_
  refine Rch.st (fun _ hr => XS.aloadN X2.here hx rfl (hb hby d10_40) rfl rfl hr) ?_
  obtain ⟨fs, hr, hrun, hended, hW, hsame⟩ := X2.leave (v := some (.ref zz)) (fun h => by rw [Bd.returns] at h; cases h)
  refine Rch.fin (u := T2.setFrames fs) (own_retA X2 hx Bd.returns rfl rfl rfl (hb hby d10_41) hr) ⟨_, hrun, hended, _, _, rfl, ?_, ⟨_, rfl⟩, hW, hsame.mono (by decide) (by decide)⟩
  show Q_crev0 Z lg sp ks sc kb wz wy zz h0 n0 _ T2.heap _
  rw [e2]
  exact ⟨zz, rfl, N0, (Keep.refl h0 []), zP0, Bzz⟩
theorem d9_10 : decode jdk_65_method_117_code 10 = .ok (.aload_n 0, 1) := by decide +kernel
theorem d9_11 : decode jdk_65_method_117_code 11 = .ok (.iload_n 2, 1) := by decide +kernel
theorem d9_12 : decode jdk_65_method_117_code 12 = .ok (.aload_n 1, 1) := by decide +kernel
theorem d9_13 : decode jdk_65_method_117_code 13 = .ok (.aastore, 1) := by decide +kernel
theorem d9_14 : decode jdk_65_method_117_code 14 = .ok (.iinc 2 1, 3) := by decide +kernel
theorem d9_17 : decode jdk_65_method_117_code 17 = .ok (.goto (-12), 3) := by decide +kernel
abbrev Rm_cfill1 : Room := { frames := 0, cells := 0, slots := 0, locals := 0 }
def Q_cfill1 (Z : State) (a : Addr) (kf : ClassId) (z : Addr) (h0 : Heap) (n0 : Nat) (v : Option Value) (h : Heap) (L : List Loc) : Prop := v = none ∧ Fr n0 L ∧ Keep h0 h [a] ∧ Old Z n0 h ∧ Arv Z h a kf (.object "java/math/BigDecimal") (1 : Int32) [(.ref z)] .null
theorem ef_cfill1 (m : MethodId) (a : Addr) (kf : ClassId) (z : Addr) : entryFrame m #[(.ref a), (.ref z)] 4 = mkF m 0 #[.val (.ref a), .val (.ref z), .unset, .unset] [] := by first | (simp [entryFrame, mkF, argsToLocals, Value.category]; done) | rfl
set_option maxRecDepth 65536 in
set_option maxHeartbeats 40000000 in
theorem cfill1 (l : Launch) (Z : State) (a0 : Array Value) (hw : ∀ d ∈ tables_1, d.before a0 Z = true) (ws : List Jvm.Cond) (a : Addr) (kf : ClassId) (z : Addr) (h0 : Heap) (n0 : Nat) (zP0 : Old Z n0 h0) (zP1 : Arv Z h0 a kf (.object "java/math/BigDecimal") (1 : Int32) [.null] .null) (zP2 : Ovr Z kf "java/math/BigDecimal") (zP3 : Exa Z h0 z "java/math/BigDecimal") (zP4 : n0 ≤ a) :
    MetFree l (⟨"java/util/Arrays", "fill", "([Ljava/lang/Object;Ljava/lang/Object;)V"⟩ : MethodName) (head1 (Jvm.Cond.code (⟨"java/util/Arrays", "fill", "([Ljava/lang/Object;Ljava/lang/Object;)V"⟩ : MethodName) jdk_65_method_117_code 4 none :: ws) Rm_cfill1) (fun aA uU => aA = #[(.ref a), (.ref z)] ∧ Z.Warmed39 uU.vm ∧ uU.heap = h0) (fun _ _ _ _ _ => True) (fun _ uU oO uU' => ∃ vV lL, oO = .returned vV ∧ Q_cfill1 Z a kf z h0 n0 vV uU'.heap lL ∧ FrameEnd uU oO uU' lL Rm_cfill1.cells Rm_cfill1.slots) := by
  refine MetFree.of_bodySF (plainFor_of_name pn_java_util_Arrays) hisR ?_
  intro p e s m args below meth c s₁ Bd hml0 hP hK
  obtain ⟨rfl, hZ, hh⟩ := hP
  have hx := Bd.exec
  have hby := Bd.bytes
  have hml : c.maxLocals = 4 := hml0
  have hown : s.vm.findClass "java/util/Arrays" = some m.cls := findClass_of_methodNamed Bd.named
  have hnm := (name_of_methodNamed Bd.named Bd.method).1
  have X0 : Stand p l e Rm_cfill1 s m #[(.ref a), (.ref z)] below meth c s₁ [] 0 0 := Stand.of_body Bd
  have e0 : s₁.heap = h0 := by rw [← hh, Bd.state]; rfl
  have N0 := Fr.nil n0
  refine Rch.out (Rch.st (fun t k => castTop (ef_cfill1 m a kf z) k) ?_)
  show Rch p.tables e below _ (s₁.setTop (mkF m 0 #[.val (.ref a), .val (.ref z), .unset, .unset] []))
  refine Rch.st (fun _ hr => XS.iconst X0.here hx rfl (hb hby d9_0) hr) ?_
  refine Rch.st (fun _ hr => XS.istoreN X0.here hx rfl (hb hby d9_1) rfl (l' := #[.val (.ref a), .val (.ref z), .val (.int (0 : Int32)), .unset]) rfl hr) ?_
  refine Rch.st (fun _ hr => XS.aloadN X0.here hx rfl (hb hby d9_2) rfl rfl hr) ?_
  obtain ⟨cl1, Ar1, -, Sz1, Ng1, -, -⟩ := id zP1
  refine Rch.st (fun t hr => X0.arraylength hx (by rw [e0]; exact Ar1.1) (State.isArrayOf_alike hZ.alike Ar1.2.1) (g := (mkF m 3 #[.val (.ref a), .val (.ref z), .val (.int (0 : Int32)), .unset] [(.ref a)])) rfl rfl (hb hby d9_3) t hr) ?_
  rw [len_of Sz1 Ng1]
  refine Rch.st (fun _ hr => XS.istoreN X0.here hx rfl (hb hby d9_4) rfl (l' := #[.val (.ref a), .val (.ref z), .val (.int (0 : Int32)), .val (.int (1 : Int32))]) rfl hr) ?_
  refine Rch.st (fun _ hr => XS.iloadN X0.here hx rfl (hb hby d9_5) rfl hr) ?_
  show Rch p.tables e below _ (s₁.setTop (mkF m 6 #[.val (.ref a), .val (.ref z), .val (.int (0 : Int32)), .val (.int (1 : Int32))] [(.int (0 : Int32))]))
  refine Rch.st (fun _ hr => XS.iloadN X0.here hx rfl (hb hby d9_6) rfl hr) ?_
  refine Rch.st (fun _ hr => XS.icmpNo X0.here hx rfl (hb hby d9_7) rfl (tlt (by decide : (0 : Int32) < (1 : Int32))).2.1 hr) ?_
  refine Rch.st (fun _ hr => XS.aloadN X0.here hx rfl (hb hby d9_10) rfl rfl hr) ?_
  refine Rch.st (fun _ hr => XS.iloadN X0.here hx rfl (hb hby d9_11) rfl hr) ?_
  refine Rch.st (fun _ hr => XS.aloadN X0.here hx rfl (hb hby d9_12) rfl rfl hr) ?_
  obtain ⟨cl2, Ar2, qk2, Sz2, Ng2, Ha2, Gf2⟩ := id zP1
  have hin2 := inb_of (j := (0 : Int32)) Sz2 ⟨by decide, by decide⟩
  obtain ⟨T3, h3, X3, e3, W3, st3⟩ := stR X0 hx hZ e0 Ar2 (j := (0 : Int32)) hin2 rfl (Sto.ofV Ar2 qk2 zP2 (Ins.self zP3)) (g := (mkF m 13 #[.val (.ref a), .val (.ref z), .val (.int (0 : Int32)), .val (.int (1 : Int32))] [(.ref z), (.int (0 : Int32)), (.ref a)])) rfl rfl (hb hby d9_13)
  refine Rch.st st3 ?_
  have N3 := Fr.snoc X3 N0 zP4
  have ne4 := (Exa.neArv zP3 zP1 (own_w hw 81 rfl))
  have K5 := (Keep.refl h0 [a]).wr W3 (Or.inl (List.mem_of_getElem? (i := 0) rfl))
  have V3 : Arv Z h3 a kf (.object "java/math/BigDecimal") (1 : Int32) [(.ref z)] .null := Arv.set Ar2 qk2 Sz2 Ng2 Ha2 Gf2 rfl W3 0 rfl (Nat.le_of_ble_eq_true rfl)
  show Rch p.tables e below _ (T3.setTop (mkF m 14 #[.val (.ref a), .val (.ref z), .val (.int (0 : Int32)), .val (.int (1 : Int32))] []))
  refine Rch.st (fun _ hr => XS.iinc X3.here hx rfl (hb hby d9_14) rfl (l' := #[.val (.ref a), .val (.ref z), .val (.int (1 : Int32)), .val (.int (1 : Int32))]) rfl hr) ?_
  refine Rch.st (fun _ hr => XS.goto X3.here hx rfl (pc0 := 17) (pc' := 5) rfl (hb hby d9_17) (by decide) (by decide) hr) ?_
  refine Rch.st (fun _ hr => XS.iloadN X3.here hx rfl (hb hby d9_5) rfl hr) ?_
  refine Rch.st (fun _ hr => XS.iloadN X3.here hx rfl (hb hby d9_6) rfl hr) ?_
  refine Rch.st (fun _ hr => XS.icmpYes X3.here hx rfl (pc0 := 7) (pc' := 20) rfl (hb hby d9_7) rfl (flt (by decide : ¬ ((1 : Int32) < (1 : Int32)))).2.1 (by decide) (by decide) hr) ?_
  obtain ⟨fs, hr, hrun, hended, hW, hsame⟩ := X3.leave (v := none) (fun _ => rfl)
  have f6 := (zP0.wr W3 zP4)
  refine Rch.fin (u := T3.setFrames fs) (X3.returnOut hx Bd.returns (hb hby d9_20) hr) ⟨_, hrun, hended, _, _, rfl, ?_, ⟨_, rfl⟩, hW, hsame.mono (by decide) (by decide)⟩
  show Q_cfill1 Z a kf z h0 n0 _ T3.heap _
  rw [e3]
  exact ⟨rfl, N3, K5, f6, V3⟩
theorem d7_56 : decode prog_23_method_1_code 56 = .ok (.aload_n 0, 1) := by decide +kernel
theorem d7_57 : decode prog_23_method_1_code 57 = .ok (.getfield 25, 3) := by decide +kernel
theorem d7_60 : decode prog_23_method_1_code 60 = .ok (.iload_n 2, 1) := by decide +kernel
theorem d7_61 : decode prog_23_method_1_code 61 = .ok (.aload_n 1, 1) := by decide +kernel
theorem d7_62 : decode prog_23_method_1_code 62 = .ok (.iload_n 2, 1) := by decide +kernel
theorem d7_63 : decode prog_23_method_1_code 63 = .ok (.invokeinterface 38 2, 5) := by decide +kernel
abbrev Y_25 : MethodName := ⟨"java/util/List", "get", "(I)Ljava/lang/Object;"⟩
abbrev Y_26 : MethodName := ⟨"java/util/ArrayList", "get", "(I)Ljava/lang/Object;"⟩
theorem d7_68 : decode prog_23_method_1_code 68 = .ok (.checkcast 42, 3) := by decide +kernel
theorem d7_71 : decode prog_23_method_1_code 71 = .ok (.invokevirtual 44, 3) := by decide +kernel
theorem pd_19 : parseMethodDescriptor "()Ljava/math/BigDecimal;" = some ⟨[], some (.object "java/math/BigDecimal")⟩ := by decide +kernel
abbrev Y_27 : MethodName := ⟨"com/example/slotwright/slotwright/Market$Advertiser", "budget", "()Ljava/math/BigDecimal;"⟩
theorem d7_74 : decode prog_23_method_1_code 74 = .ok (.aastore, 1) := by decide +kernel
theorem d7_75 : decode prog_23_method_1_code 75 = .ok (.iinc 2 1, 3) := by decide +kernel
theorem d7_78 : decode prog_23_method_1_code 78 = .ok (.goto (-31), 3) := by decide +kernel
abbrev Rm_cledger1 : Room := { frames := 3, cells := 2, slots := 2, locals := 42 }
def Q_cledger1 (Z : State) (lg : Addr) (a : Addr) (d : Addr) (kd : ClassId) (ea : Addr) (r0 : Addr) (zz : Addr) (h0 : Heap) (n0 : Nat) (v : Option Value) (h : Heap) (L : List Loc) : Prop := ∃ (sp : Addr) (ks : ClassId) (rm : Addr) (kr : ClassId), v = none ∧ Fr n0 L ∧ Keep h0 h [lg] ∧ Old Z n0 h ∧ Exa Z h lg "com/example/slotwright/slotwright/Ledger" ∧ Fld Z h lg "com/example/slotwright/slotwright/Ledger" "spent" "[Ljava/math/BigDecimal;" (.ref sp) ∧ Fld Z h lg "com/example/slotwright/slotwright/Ledger" "remaining" "[Ljava/math/BigDecimal;" (.ref rm) ∧ h0.size ≤ sp ∧ h0.size ≤ rm ∧ Arv Z h sp ks (.object "java/math/BigDecimal") (1 : Int32) [(.ref zz)] .null ∧ Arv Z h rm kr (.object "java/math/BigDecimal") (1 : Int32) [(.ref r0)] .null ∧ Ovr Z ks "java/math/BigDecimal" ∧ Ovr Z kr "java/math/BigDecimal" ∧ sp ≠ rm
theorem ef_cledger1 (m : MethodId) (lg : Addr) (a : Addr) (d : Addr) (kd : ClassId) (ea : Addr) (r0 : Addr) (zz : Addr) : entryFrame m #[(.ref lg), (.ref a)] 3 = mkF m 0 #[.val (.ref lg), .val (.ref a), .unset] [] := by first | (simp [entryFrame, mkF, argsToLocals, Value.category]; done) | rfl
set_option maxRecDepth 65536 in
set_option maxHeartbeats 40000000 in
theorem cledger1 (l : Launch) (Z : State) (a0 : Array Value) (hw : ∀ d ∈ tables_1, d.before a0 Z = true) (ws : List Jvm.Cond) (lg : Addr) (a : Addr) (d : Addr) (kd : ClassId) (ea : Addr) (r0 : Addr) (zz : Addr) (h0 : Heap) (n0 : Nat) (zD0 : Sta Z Z.heap "java/math/BigDecimal" "ZERO" "Ljava/math/BigDecimal;" (.ref zz)) (zD1 : BDc Z Z.heap zz (0 : Int64) (0 : Int32)) (zP0 : Old Z n0 h0) (zP1 : Exa Z h0 lg "com/example/slotwright/slotwright/Ledger") (zP2 : Fld Z h0 lg "com/example/slotwright/slotwright/Ledger" "advertisers" "Ljava/util/List;" .null) (zP3 : Fld Z h0 lg "com/example/slotwright/slotwright/Ledger" "spent" "[Ljava/math/BigDecimal;" .null) (zP4 : Fld Z h0 lg "com/example/slotwright/slotwright/Ledger" "remaining" "[Ljava/math/BigDecimal;" .null) (zP5 : n0 ≤ lg) (zP6 : Exa Z h0 a "java/util/ArrayList") (zP7 : Fld Z h0 a "java/util/ArrayList" "size" "I" (.int (1 : Int32))) (zP8 : Fld Z h0 a "java/util/ArrayList" "elementData" "[Ljava/lang/Object;" (.ref d)) (zP9 : Arv Z h0 d kd (.object "java/lang/Object") (10 : Int32) [(.ref ea), .null, .null, .null, .null, .null, .null, .null, .null, .null] .null) (zP10 : Exa Z h0 ea "com/example/slotwright/slotwright/Market$Advertiser") (zP11 : Fld Z h0 ea "com/example/slotwright/slotwright/Market$Advertiser" "budget" "Ljava/math/BigDecimal;" (.ref r0)) (zP12 : Exa Z h0 r0 "java/math/BigDecimal") :
    MetFree l (⟨"com/example/slotwright/slotwright/Ledger", "<init>", "(Ljava/util/List;)V"⟩ : MethodName) (head1 (Jvm.Cond.code (⟨"com/example/slotwright/slotwright/Ledger", "<init>", "(Ljava/util/List;)V"⟩ : MethodName) prog_23_method_1_code 3 none :: ws) Rm_cledger1) (fun aA uU => aA = #[(.ref lg), (.ref a)] ∧ Z.Warmed39 uU.vm ∧ uU.heap = h0) (fun _ _ _ _ _ => True) (fun _ uU oO uU' => ∃ vV lL, oO = .returned vV ∧ Q_cledger1 Z lg a d kd ea r0 zz h0 n0 vV uU'.heap lL ∧ FrameEnd uU oO uU' lL Rm_cledger1.cells Rm_cledger1.slots) := by
  refine MetFree.of_bodySF (plainFor_of_name pn_com_example_slotwright_slotwright_Ledger) hisR ?_
  intro p e s m args below meth c s₁ Bd hml0 hP hK
  obtain ⟨rfl, hZ, hh⟩ := hP
  have hx := Bd.exec
  have hby := Bd.bytes
  have hml : c.maxLocals = 3 := hml0
  have hown : s.vm.findClass "com/example/slotwright/slotwright/Ledger" = some m.cls := findClass_of_methodNamed Bd.named
  have hnm := (name_of_methodNamed Bd.named Bd.method).1
  have X0 : Stand p l e Rm_cledger1 s m #[(.ref lg), (.ref a)] below meth c s₁ [] 0 0 := Stand.of_body Bd
  have e0 : s₁.heap = h0 := by rw [← hh, Bd.state]; rfl
  have N0 := Fr.nil n0
  refine Rch.out (Rch.st (fun t k => castTop (ef_cledger1 m lg a d kd ea r0 zz) k) ?_)
  show Rch p.tables e below _ (s₁.setTop (mkF m 0 #[.val (.ref lg), .val (.ref a), .unset] []))
  refine Rch.st (fun _ hr => XS.aloadN X0.here hx rfl (hb hby d7_0) rfl rfl hr) ?_
  obtain ⟨T1, X1, e1, st1⟩ := initO X0 hx hZ hown (own_w hw 40 rfl) (own_w hw 19 rfl) (own_w hw 20 rfl) e0 (g := (mkF m 1 #[.val (.ref lg), .val (.ref a), .unset] [(.ref lg)])) rfl (by rw [hml]; rfl) rfl (hb hby d7_1) (by decide) (W := 0) (own_mr rfl rfl) (by decide)
  refine Rch.st st1 ?_
  refine Rch.st (fun _ hr => XS.aloadN X1.here hx rfl (hb hby d7_4) rfl rfl hr) ?_
  refine Rch.st (fun _ hr => XS.aloadN X1.here hx rfl (hb hby d7_5) rfl rfl hr) ?_
  obtain ⟨T2, h2, X2, e2, W2, st2⟩ := putF X1 hx hZ hown (host := "") (Or.inl (own_w hw 41 rfl)) Via.refl e1 zP2 zP1 (Or.inr ⟨(own_w hw 42 rfl), rfl, hnm⟩) (own_w hw 35 rfl) (ty := (.object "java/util/List")) (by decide) rfl rfl (g := (mkF m 6 #[.val (.ref lg), .val (.ref a), .unset] [(.ref a), (.ref lg)])) rfl rfl (hb hby d7_6)
  refine Rch.st st2 ?_
  have N2 := Fr.snoc X2 N0 zP5
  have ne3 := (Exa.ne zP6 zP1 (by decide))
  have ne4 := (Ne.symm (Exa.neArv zP1 zP9 (own_w hw 35 rfl)))
  have ne5 := (Exa.ne zP10 zP1 (by decide))
  have ne6 := (Exa.ne zP12 zP1 (by decide))
  have K7 := (Keep.refl h0 [lg]).wr W2 (Or.inl (List.mem_of_getElem? (i := 0) rfl))
  have Fw2 := zP2.same W2
  refine Rch.st (fun _ hr => XS.aloadN X2.here hx rfl (hb hby d7_9) rfl rfl hr) ?_
  show Rch p.tables e below _ (T2.setTop (mkF m 10 #[.val (.ref lg), .val (.ref a), .unset] [(.ref lg)]))
  refine Rch.st (fun _ hr => XS.aloadN X2.here hx rfl (hb hby d7_10) rfl rfl hr) ?_
  have f9 := (zP6.wr W2)
  have f10 := (zP7.other W2 (Or.inl ne3))
  show Rch p.tables e below _ (T2.setTop (mkF m 11 #[.val (.ref lg), .val (.ref a), .unset] [(.ref a), (.ref lg)]))
  refine own_kF X2 hx hZ (xi := Y_22) (y := Y_23) hown (own_w hw 43 rfl) (own_w hw 44 rfl) (mvT hZ (own_w hw 45 rfl)) (own_w hw 46 rfl) (own_w hw 47 rfl) (own_w hw 48 rfl) (own_w hw 49 rfl) (own_w hw 50 rfl) (own_w hw 2 rfl) (own_w hw 51 rfl) (by decide) (W := 1) (csize l Z a0 hw [] a (1 : Int32) h2 n0 f10) (by decide) (by decide) e2 f9 (by decide) (by decide)  (by rw [hml]; rfl) (argsL := []) (rest := [(.ref lg)]) (lenOf pd_11 rfl) rfl rfl (hb hby d7_11) rfl (fun _ T8 Lc8 X8 hQ8 => ?_)
  obtain ⟨rfl, N8q, e8⟩ := hQ8
  have N8 := Fr.app N2 N8q
  obtain ⟨T11, h11, k11, X11, e11, E11, A11, O11, st11⟩ := newR X8 hx hZ hown (own_w hw 54 rfl) (own_w hw 55 rfl) e8 (g := (mkF m 16 #[.val (.ref lg), .val (.ref a), .unset] [(.int (1 : Int32)), (.ref lg)])) rfl (hb hby d7_16) rfl (by decide) (cap := 1) (by decide) (by decide) (by decide) (by decide)
  obtain ⟨b11, g11⟩ : ∃ z, z = h2.size := ⟨_, rfl⟩
  rw [← g11] at A11 st11
  refine Rch.st st11 ?_
  have q11 : h2.size ≤ b11 := Nat.le_of_eq g11.symm
  have f12 := (zP4.other W2 (Or.inr (slot_ne (Or.inr (own_w hw 59 rfl)) (Or.inr (own_w hw 42 rfl)) (by decide) (t := (.array (.object "java/math/BigDecimal"))) (t' := (.object "java/util/List")) (by decide) (by decide))))
  have ne13 := Nat.ne_of_lt (Nat.lt_of_lt_of_le f12.lt q11)
  have f14 := (zP8.other W2 (Or.inl ne3))
  have ne15 := Nat.ne_of_lt (Nat.lt_of_lt_of_le f14.lt q11)
  have f16 := (zP9.other W2 ne4)
  have ne17 := Nat.ne_of_lt (Nat.lt_of_lt_of_le f16.lt q11)
  have f18 := (zP11.other W2 (Or.inl ne5))
  have ne19 := Nat.ne_of_lt (Nat.lt_of_lt_of_le f18.lt q11)
  have f20 := (zP12.wr W2)
  have ne21 := Nat.ne_of_lt (Nat.lt_of_lt_of_le f20.lt q11)
  have f22 := (zP0.wr W2 zP5)
  have g_b11 : n0 ≤ b11 := Nat.le_trans (Nat.le_trans (Nat.le_of_eq f22.1.symm) f22.2.1) q11
  have sz_b11 : h0.size ≤ b11 := Nat.le_trans K7.1 q11
  have K23 := K7.ext E11
  have V11 : Arv Z h11 b11 k11 (.object "java/math/BigDecimal") (1 : Int32) [.null] .null := (Arv.new A11 (by decide)).pad (pad_rep [] .null 1)
  have f24 := ((zP3.other W2 (Or.inr (slot_ne (Or.inr (own_w hw 57 rfl)) (Or.inr (own_w hw 42 rfl)) (by decide) (t := (.array (.object "java/math/BigDecimal"))) (t' := (.object "java/util/List")) (by decide) (by decide)))).ext E11)
  have f25 := ((zP1.wr W2).ext E11)
  obtain ⟨T26, h26, X26, e26, W26, st26⟩ := putF X11 hx hZ hown (host := "") (Or.inl (own_w hw 56 rfl)) Via.refl e11 f24 f25 (Or.inr ⟨(own_w hw 57 rfl), rfl, hnm⟩) (own_w hw 35 rfl) (ty := (.array (.object "java/math/BigDecimal"))) (by decide) rfl rfl (g := (mkF m 19 #[.val (.ref lg), .val (.ref a), .unset] [(.ref b11), (.ref lg)])) rfl rfl (hb hby d7_19)
  refine Rch.st st26 ?_
  have N26 := Fr.snoc X26 N8 zP5
  have f27 := (f22.ext E11)
  have K28 := K23.wr W26 (Or.inl (List.mem_of_getElem? (i := 0) rfl))
  have Fw26 := f24.same W26
  refine Rch.st (fun _ hr => XS.aloadN X26.here hx rfl (hb hby d7_22) rfl rfl hr) ?_
  refine Rch.st (fun _ hr => XS.aloadN X26.here hx rfl (hb hby d7_23) rfl rfl hr) ?_
  show Rch p.tables e below _ (T26.setTop (mkF m 24 #[.val (.ref lg), .val (.ref a), .unset] [(.ref a), (.ref lg)]))
  have f30 := ((f9.ext E11).wr W26)
  have f31 := ((f10.ext E11).other W26 (Or.inl ne3))
  show Rch p.tables e below _ (T26.setTop (mkF m 24 #[.val (.ref lg), .val (.ref a), .unset] [(.ref a), (.ref lg)]))
  refine own_kF X26 hx hZ (xi := Y_22) (y := Y_23) hown (own_w hw 43 rfl) (own_w hw 44 rfl) (mvT hZ (own_w hw 45 rfl)) (own_w hw 46 rfl) (own_w hw 47 rfl) (own_w hw 48 rfl) (own_w hw 49 rfl) (own_w hw 50 rfl) (own_w hw 2 rfl) (own_w hw 51 rfl) (by decide) (W := 1) (csize l Z a0 hw [] a (1 : Int32) h26 n0 f31) (by decide) (by decide) e26 f30 (by decide) (by decide)  (by rw [hml]; rfl) (argsL := []) (rest := [(.ref lg)]) (lenOf pd_11 rfl) rfl rfl (hb hby d7_24) rfl (fun _ T29 Lc29 X29 hQ29 => ?_)
  obtain ⟨rfl, N29q, e29⟩ := hQ29
  have N29 := Fr.app N26 N29q
  obtain ⟨T32, h32, k32, X32, e32, E32, A32, O32, st32⟩ := newR X29 hx hZ hown (own_w hw 54 rfl) (own_w hw 55 rfl) e29 (g := (mkF m 29 #[.val (.ref lg), .val (.ref a), .unset] [(.int (1 : Int32)), (.ref lg)])) rfl (hb hby d7_29) rfl (by decide) (cap := 1) (by decide) (by decide) (by decide) (by decide)
  obtain ⟨b32, g32⟩ : ∃ z, z = h26.size := ⟨_, rfl⟩
  rw [← g32] at A32 st32
  refine Rch.st st32 ?_
  have q32 : h26.size ≤ b32 := Nat.le_of_eq g32.symm
  have f33 := ((f12.ext E11).other W26 (Or.inr (slot_ne (Or.inr (own_w hw 59 rfl)) (Or.inr (own_w hw 57 rfl)) (by decide) (t := (.array (.object "java/math/BigDecimal"))) (t' := (.array (.object "java/math/BigDecimal"))) (by decide) (by decide))))
  have ne34 := Nat.ne_of_lt (Nat.lt_of_lt_of_le f33.lt q32)
  have f35 := ((f14.ext E11).other W26 (Or.inl ne3))
  have ne36 := Nat.ne_of_lt (Nat.lt_of_lt_of_le f35.lt q32)
  have f37 := ((f16.ext E11).other W26 ne4)
  have ne38 := Nat.ne_of_lt (Nat.lt_of_lt_of_le f37.lt q32)
  have f39 := ((f18.ext E11).other W26 (Or.inl ne5))
  have ne40 := Nat.ne_of_lt (Nat.lt_of_lt_of_le f39.lt q32)
  have f41 := ((f20.ext E11).wr W26)
  have ne42 := Nat.ne_of_lt (Nat.lt_of_lt_of_le f41.lt q32)
  have f43 := (V11.other W26 (Ne.symm ne13))
  have ne44 := Nat.ne_of_lt (Nat.lt_of_lt_of_le f43.lt q32)
  have f45 := (f27.wr W26 zP5)
  have g_b32 : n0 ≤ b32 := Nat.le_trans (Nat.le_trans (Nat.le_of_eq f45.1.symm) f45.2.1) q32
  have sz_b32 : h0.size ≤ b32 := Nat.le_trans K28.1 q32
  have K46 := K28.ext E32
  have V32 : Arv Z h32 b32 k32 (.object "java/math/BigDecimal") (1 : Int32) [.null] .null := (Arv.new A32 (by decide)).pad (pad_rep [] .null 1)
  have f47 := (f33.ext E32)
  have f48 := ((f25.wr W26).ext E32)
  obtain ⟨T49, h49, X49, e49, W49, st49⟩ := putF X32 hx hZ hown (host := "") (Or.inl (own_w hw 58 rfl)) Via.refl e32 f47 f48 (Or.inr ⟨(own_w hw 59 rfl), rfl, hnm⟩) (own_w hw 35 rfl) (ty := (.array (.object "java/math/BigDecimal"))) (by decide) rfl rfl (g := (mkF m 32 #[.val (.ref lg), .val (.ref a), .unset] [(.ref b32), (.ref lg)])) rfl rfl (hb hby d7_32)
  refine Rch.st st49 ?_
  have N49 := Fr.snoc X49 N29 zP5
  have f50 := (f45.ext E32)
  have K51 := K46.wr W49 (Or.inl (List.mem_of_getElem? (i := 0) rfl))
  have Fw49 := f47.same W49
  refine Rch.st (fun _ hr => XS.aloadN X49.here hx rfl (hb hby d7_35) rfl rfl hr) ?_
  have f52 := ((Fw26.ext E32).other W49 (Or.inr (slot_ne (Or.inr (own_w hw 57 rfl)) (Or.inr (own_w hw 59 rfl)) (by decide) (t := (.array (.object "java/math/BigDecimal"))) (t' := (.array (.object "java/math/BigDecimal"))) (by decide) (by decide))))
  obtain ⟨T53, X53, e53, st53⟩ := getF X49 hx hZ hown (host := "") (Or.inl (own_w hw 56 rfl)) Via.refl e49 f52 (g := (mkF m 36 #[.val (.ref lg), .val (.ref a), .unset] [(.ref lg)])) rfl rfl (hb hby d7_36)
  refine Rch.st st53 ?_
  have f54 := (f50.wr W49 zP5)
  obtain ⟨T55, X55, e55, st55⟩ := getS2 X53 hx hZ hown (host := "") (Or.inl (own_w hw 60 rfl)) Via.refl e53 (zD0.ext f54.2) (g := (mkF m 39 #[.val (.ref lg), .val (.ref a), .unset] [(.ref b11)])) rfl (hb hby d7_39)
  refine Rch.st st55 ?_
  show Rch p.tables e below _ (T55.setTop (mkF m 42 #[.val (.ref lg), .val (.ref a), .unset] [(.ref zz), (.ref b11)]))
  have f57 := ((f43.ext E32).other W49 (Ne.symm ne13))
  have f58 := O11
  show Rch p.tables e below _ (T55.setTop (mkF m 42 #[.val (.ref lg), .val (.ref a), .unset] [(.ref zz), (.ref b11)]))
  refine own_kS X55 hx hZ (y := Y_24) hown (own_w hw 61 rfl) (own_w hw 62 rfl) (own_w hw 63 rfl) (own_w hw 64 rfl) (by decide) (W := 0) (cfill1 l Z a0 hw [] b11 k11 zz h49 n0 f54 f57 f58 (zD1.1.ext f54.2) g_b11) (by decide) (by decide) e55 (by decide) (by decide)  (by rw [hml]; rfl) (argsL := [(.ref b11), (.ref zz)]) (rest := []) (lenOf pd_18 rfl) rfl rfl (hb hby d7_42) rfl (fun _ T56 Lc56 X56 hQ56 => ?_)
  obtain ⟨rfl, N56q, Kp56, Op56, R56_0⟩ := hQ56
  have N56 := Fr.app N49 N56q
  have K59 := K51.trans Kp56 (allS (Or.inr sz_b11) all0)
  refine Rch.st (fun _ hr => XS.iconst X56.here hx rfl (hb hby d7_45) hr) ?_
  refine Rch.st (fun _ hr => XS.istoreN X56.here hx rfl (hb hby d7_46) rfl (l' := #[.val (.ref lg), .val (.ref a), .val (.int (0 : Int32))]) rfl hr) ?_
  refine Rch.st (fun _ hr => XS.iloadN X56.here hx rfl (hb hby d7_47) rfl hr) ?_
  refine Rch.st (fun _ hr => XS.aloadN X56.here hx rfl (hb hby d7_48) rfl rfl hr) ?_
  have f60 := (Fw49.keep Kp56 (ninS ne13 nin0))
  obtain ⟨T61, X61, e61, st61⟩ := getF X56 hx hZ hown (host := "") (Or.inl (own_w hw 58 rfl)) Via.refl rfl f60 (g := (mkF m 49 #[.val (.ref lg), .val (.ref a), .val (.int (0 : Int32))] [(.ref lg), (.int (0 : Int32))])) rfl rfl (hb hby d7_49)
  refine Rch.st st61 ?_
  show Rch p.tables e below _ (T61.setTop (mkF m 52 #[.val (.ref lg), .val (.ref a), .val (.int (0 : Int32))] [(.ref b32), (.int (0 : Int32))]))
  have f62 := ((V32.other W49 (Ne.symm ne34)).keep Kp56 (ninS (Ne.symm ne44) nin0))
  obtain ⟨cl63, Ar63, -, Sz63, Ng63, -, -⟩ := id f62
  refine Rch.st (fun t hr => X61.arraylength hx (by rw [e61]; exact Ar63.1) (State.isArrayOf_alike hZ.alike Ar63.2.1) (g := (mkF m 52 #[.val (.ref lg), .val (.ref a), .val (.int (0 : Int32))] [(.ref b32), (.int (0 : Int32))])) rfl rfl (hb hby d7_52) t hr) ?_
  rw [len_of Sz63 Ng63]
  refine Rch.st (fun _ hr => XS.icmpNo X61.here hx rfl (hb hby d7_53) rfl (tlt (by decide : (0 : Int32) < (1 : Int32))).2.1 hr) ?_
  refine Rch.st (fun _ hr => XS.aloadN X61.here hx rfl (hb hby d7_56) rfl rfl hr) ?_
  obtain ⟨T64, X64, e64, st64⟩ := getF X61 hx hZ hown (host := "") (Or.inl (own_w hw 58 rfl)) Via.refl e61 f60 (g := (mkF m 57 #[.val (.ref lg), .val (.ref a), .val (.int (0 : Int32))] [(.ref lg)])) rfl rfl (hb hby d7_57)
  refine Rch.st st64 ?_
  refine Rch.st (fun _ hr => XS.iloadN X64.here hx rfl (hb hby d7_60) rfl hr) ?_
  refine Rch.st (fun _ hr => XS.aloadN X64.here hx rfl (hb hby d7_61) rfl rfl hr) ?_
  show Rch p.tables e below _ (T64.setTop (mkF m 62 #[.val (.ref lg), .val (.ref a), .val (.int (0 : Int32))] [(.ref a), (.int (0 : Int32)), (.ref b32)]))
  refine Rch.st (fun _ hr => XS.iloadN X64.here hx rfl (hb hby d7_62) rfl hr) ?_
  have f66 := (((f30.ext E32).wr W49).keep Kp56)
  have f67 := (((f35.ext E32).other W49 (Or.inl ne3)).keep Kp56 (ninS ne15 nin0))
  have f68 := (((f31.ext E32).other W49 (Or.inl ne3)).keep Kp56 (ninS ne15 nin0))
  have f69 := (((f37.ext E32).other W49 ne4).keep Kp56 (ninS ne17 nin0))
  show Rch p.tables e below _ (T64.setTop (mkF m 63 #[.val (.ref lg), .val (.ref a), .val (.int (0 : Int32))] [(.int (0 : Int32)), (.ref a), (.int (0 : Int32)), (.ref b32)]))
  refine own_kF X64 hx hZ (xi := Y_25) (y := Y_26) hown (own_w hw 166 rfl) (own_w hw 167 rfl) (mvT hZ (own_w hw 168 rfl)) (own_w hw 169 rfl) (own_w hw 170 rfl) (own_w hw 171 rfl) (own_w hw 172 rfl) (own_w hw 50 rfl) (own_w hw 2 rfl) (own_w hw 173 rfl) (by decide) (W := 2) (cget1_0 l Z a0 hw [] a d kd ea T56.heap n0 f66 f67 f68 f69) (by decide) (by decide) e64 f66 (by decide) (by decide)  (by rw [hml]; rfl) (argsL := [(.int (0 : Int32))]) (rest := [(.int (0 : Int32)), (.ref b32)]) (lenOf pd_17 rfl) rfl rfl (hb hby d7_63) rfl (fun _ T65 Lc65 X65 hQ65 => ?_)
  obtain ⟨rfl, N65q, e65⟩ := hQ65
  have N65 := Fr.app N56 N65q
  have f70 := ((((((zP10.wr W2).ext E11).wr W26).ext E32).wr W49).keep Kp56)
  obtain ⟨T71, X71, e71, st71⟩ := castY X65 hx hZ hown (own_w hw 187 rfl) e65 (Ins.self f70) (g := (mkF m 68 #[.val (.ref lg), .val (.ref a), .val (.int (0 : Int32))] [(.ref ea), (.int (0 : Int32)), (.ref b32)])) rfl rfl (hb hby d7_68)
  refine Rch.st st71 ?_
  have f73 := (((f39.ext E32).other W49 (Or.inl ne5)).keep Kp56 (ninS ne19 nin0))
  show Rch p.tables e below _ (T71.setTop (mkF m 71 #[.val (.ref lg), .val (.ref a), .val (.int (0 : Int32))] [(.ref ea), (.int (0 : Int32)), (.ref b32)]))
  refine own_kV X71 hx hZ (y := Y_27) (z := Y_27) hown (own_w hw 189 rfl) (own_w hw 190 rfl) (notFace_of_selects (args := #[]) (mvT hZ (own_w hw 192 rfl))) (own_w hw 192 rfl) (own_w hw 191 rfl) (own_w hw 112 rfl) (own_w hw 193 rfl) (by decide) (W := 2) (cbudget l Z a0 hw [] ea r0 T56.heap n0 f73) (by decide) (by decide) e71 f70 (by decide) (by decide)  (by rw [hml]; rfl) (argsL := []) (rest := [(.int (0 : Int32)), (.ref b32)]) (lenOf pd_19 rfl) rfl rfl (hb hby d7_71) rfl (fun _ T72 Lc72 X72 hQ72 => ?_)
  obtain ⟨rfl, N72q, e72⟩ := hQ72
  have N72 := Fr.app N65 N72q
  obtain ⟨cl74, Ar74, qk74, Sz74, Ng74, Ha74, Gf74⟩ := id f62
  have hin74 := inb_of (j := (0 : Int32)) Sz74 ⟨by decide, by decide⟩
  have f75 := (((f41.ext E32).wr W49).keep Kp56)
  obtain ⟨T76, h76, X76, e76, W76, st76⟩ := stR X72 hx hZ e72 Ar74 (j := (0 : Int32)) hin74 rfl (Sto.ofV Ar74 qk74 O32 (Ins.self f75)) (g := (mkF m 74 #[.val (.ref lg), .val (.ref a), .val (.int (0 : Int32))] [(.ref r0), (.int (0 : Int32)), (.ref b32)])) rfl rfl (hb hby d7_74)
  refine Rch.st st76 ?_
  have N76 := Fr.snoc X76 N72 g_b32
  have K77 := K59.wr W76 (Or.inr sz_b32)
  have V76 : Arv Z h76 b32 k32 (.object "java/math/BigDecimal") (1 : Int32) [(.ref r0)] .null := Arv.set Ar74 qk74 Sz74 Ng74 Ha74 Gf74 rfl W76 0 rfl (Nat.le_of_ble_eq_true rfl)
  refine Rch.st (fun _ hr => XS.iinc X76.here hx rfl (hb hby d7_75) rfl (l' := #[.val (.ref lg), .val (.ref a), .val (.int (1 : Int32))]) rfl hr) ?_
  show Rch p.tables e below _ (T76.setTop (mkF m 78 #[.val (.ref lg), .val (.ref a), .val (.int (1 : Int32))] []))
  refine Rch.st (fun _ hr => XS.goto X76.here hx rfl (pc0 := 78) (pc' := 47) rfl (hb hby d7_78) (by decide) (by decide) hr) ?_
  refine Rch.st (fun _ hr => XS.iloadN X76.here hx rfl (hb hby d7_47) rfl hr) ?_
  refine Rch.st (fun _ hr => XS.aloadN X76.here hx rfl (hb hby d7_48) rfl rfl hr) ?_
  have f78 := (f60.other W76 (Or.inl ne34))
  obtain ⟨T79, X79, e79, st79⟩ := getF X76 hx hZ hown (host := "") (Or.inl (own_w hw 58 rfl)) Via.refl e76 f78 (g := (mkF m 49 #[.val (.ref lg), .val (.ref a), .val (.int (1 : Int32))] [(.ref lg), (.int (1 : Int32))])) rfl rfl (hb hby d7_49)
  refine Rch.st st79 ?_
  obtain ⟨cl80, Ar80, -, Sz80, Ng80, -, -⟩ := id V76
  refine Rch.st (fun t hr => X79.arraylength hx (by rw [e79]; exact Ar80.1) (State.isArrayOf_alike hZ.alike Ar80.2.1) (g := (mkF m 52 #[.val (.ref lg), .val (.ref a), .val (.int (1 : Int32))] [(.ref b32), (.int (1 : Int32))])) rfl rfl (hb hby d7_52) t hr) ?_
  rw [len_of Sz80 Ng80]
  refine Rch.st (fun _ hr => XS.icmpYes X79.here hx rfl (pc0 := 53) (pc' := 81) rfl (hb hby d7_53) rfl (flt (by decide : ¬ ((1 : Int32) < (1 : Int32)))).2.1 (by decide) (by decide) hr) ?_
  show Rch p.tables e below _ (T79.setTop (mkF m 81 #[.val (.ref lg), .val (.ref a), .val (.int (1 : Int32))] []))
  obtain ⟨fs, hr, hrun, hended, hW, hsame⟩ := X79.leave (v := none) (fun _ => rfl)
  have f81 := (Op56.wr W76 g_b32)
  have f82 := (((f48.wr W49).keep Kp56).wr W76)
  have f83 := ((f52.keep Kp56 (ninS ne13 nin0)).other W76 (Or.inl ne34))
  have f84 := (R56_0.other W76 ne44)
  have f85 := f58
  have f86 := O32
  refine Rch.fin (u := T79.setFrames fs) (X79.returnOut hx Bd.returns (hb hby d7_81) hr) ⟨_, hrun, hended, _, _, rfl, ?_, ⟨_, rfl⟩, hW, hsame.mono (by decide) (by decide)⟩
  show Q_cledger1 Z lg a d kd ea r0 zz h0 n0 _ T79.heap _
  rw [e79]
  exact ⟨b11, k11, b32, k32, rfl, N76, K77, f81, f82, f83, f78, sz_b11, sz_b32, f84, V76, f85, f86, ne44⟩
theorem d10_21 : decode prog_23_method_8_code 21 = .ok (.aload_n 2, 1) := by decide +kernel
theorem d10_22 : decode prog_23_method_8_code 22 = .ok (.iload 4, 2) := by decide +kernel
theorem d10_24 : decode prog_23_method_8_code 24 = .ok (.aaload, 1) := by decide +kernel
theorem d10_25 : decode prog_23_method_8_code 25 = .ok (.astore 5, 2) := by decide +kernel
theorem d10_27 : decode prog_23_method_8_code 27 = .ok (.aload_n 1, 1) := by decide +kernel
theorem d10_28 : decode prog_23_method_8_code 28 = .ok (.aload 5, 2) := by decide +kernel
theorem d10_30 : decode prog_23_method_8_code 30 = .ok (.invokevirtual 60, 3) := by decide +kernel
theorem pd_20 : parseMethodDescriptor "(Ljava/math/BigDecimal;)Ljava/math/BigDecimal;" = some ⟨[(.object "java/math/BigDecimal")], some (.object "java/math/BigDecimal")⟩ := by decide +kernel
abbrev Y_28 : MethodName := ⟨"java/math/BigDecimal", "add", "(Ljava/math/BigDecimal;)Ljava/math/BigDecimal;"⟩
theorem d10_33 : decode prog_23_method_8_code 33 = .ok (.astore_n 1, 1) := by decide +kernel
theorem d10_34 : decode prog_23_method_8_code 34 = .ok (.iinc 4 1, 3) := by decide +kernel
theorem d10_37 : decode prog_23_method_8_code 37 = .ok (.goto (-22), 3) := by decide +kernel
abbrev Rm_crev1 : Room := { frames := 8, cells := 1, slots := 5, locals := 123 }
def Q_crev1 (Z : State) (lg : Addr) (sp : Addr) (ks : ClassId) (s0 : Addr) (x0 : Int64) (sc : Int32) (kb : Int) (wz : Addr) (wy : Addr) (zz : Addr) (h0 : Heap) (n0 : Nat) (v : Option Value) (h : Heap) (L : List Loc) : Prop := ∃ (r : Addr), v = some (.ref r) ∧ Fr n0 L ∧ Keep h0 h [] ∧ Old Z n0 h ∧ BE Z h r ((0 : Int64) + x0) sc (kb + kb)
theorem ef_crev1 (m : MethodId) (lg : Addr) (sp : Addr) (ks : ClassId) (s0 : Addr) (x0 : Int64) (sc : Int32) (kb : Int) (wz : Addr) (wy : Addr) (zz : Addr) : entryFrame m #[(.ref lg)] 6 = mkF m 0 #[.val (.ref lg), .unset, .unset, .unset, .unset, .unset] [] := by first | (simp [entryFrame, mkF, argsToLocals, Value.category]; done) | rfl
set_option maxRecDepth 65536 in
set_option maxHeartbeats 40000000 in
theorem crev1 (l : Launch) (Z : State) (a0 : Array Value) (hw : ∀ d ∈ tables_1, d.before a0 Z = true) (ws : List Jvm.Cond) (lg : Addr) (sp : Addr) (ks : ClassId) (s0 : Addr) (x0 : Int64) (sc : Int32) (kb : Int) (wz : Addr) (wy : Addr) (zz : Addr) (h0 : Heap) (n0 : Nat) (zD0 : Sta Z Z.heap "java/math/BigDecimal" "ZERO_THROUGH_TEN" "[Ljava/math/BigDecimal;" (.ref wz)) (zD1 : ZTab Z Z.heap wz) (zD2 : Sta Z Z.heap "java/math/BigDecimal" "ZERO_SCALED_BY" "[Ljava/math/BigDecimal;" (.ref wy)) (zD3 : STab Z Z.heap wy) (zD4 : Sta Z Z.heap "java/math/BigDecimal" "ZERO" "Ljava/math/BigDecimal;" (.ref zz)) (zD5 : BDc Z Z.heap zz (0 : Int64) (0 : Int32)) (zP0 : Old Z n0 h0) (zP1 : Fld Z h0 lg "com/example/slotwright/slotwright/Ledger" "spent" "[Ljava/math/BigDecimal;" (.ref sp)) (zP2 : Arv Z h0 sp ks (.object "java/math/BigDecimal") (1 : Int32) [(.ref s0)] .null) (zP3 : BE Z h0 s0 x0 sc kb) (hs : own_S sc) (h0k : 0 ≤ kb) (hk : kb ≤ 100) :
    MetFree l (⟨"com/example/slotwright/slotwright/Ledger", "revenue", "()Ljava/math/BigDecimal;"⟩ : MethodName) (head1 (Jvm.Cond.code (⟨"com/example/slotwright/slotwright/Ledger", "revenue", "()Ljava/math/BigDecimal;"⟩ : MethodName) prog_23_method_8_code 6 (some (.object "java/math/BigDecimal")) :: ws) Rm_crev1) (fun aA uU => aA = #[(.ref lg)] ∧ Z.Warmed39 uU.vm ∧ uU.heap = h0) (fun _ _ _ _ _ => True) (fun _ uU oO uU' => ∃ vV lL, oO = .returned vV ∧ Q_crev1 Z lg sp ks s0 x0 sc kb wz wy zz h0 n0 vV uU'.heap lL ∧ FrameEnd uU oO uU' lL Rm_crev1.cells Rm_crev1.slots) := by
  refine MetFree.of_bodySF (plainFor_of_name pn_com_example_slotwright_slotwright_Ledger) hisR ?_
  intro p e s m args below meth c s₁ Bd hml0 hP hK
  obtain ⟨rfl, hZ, hh⟩ := hP
  have hx := Bd.exec
  have hby := Bd.bytes
  have hml : c.maxLocals = 6 := hml0
  have hown : s.vm.findClass "com/example/slotwright/slotwright/Ledger" = some m.cls := findClass_of_methodNamed Bd.named
  have hnm := (name_of_methodNamed Bd.named Bd.method).1
  have X0 : Stand p l e Rm_crev1 s m #[(.ref lg)] below meth c s₁ [] 0 0 := Stand.of_body Bd
  have e0 : s₁.heap = h0 := by rw [← hh, Bd.state]; rfl
  have N0 := Fr.nil n0
  refine Rch.out (Rch.st (fun t k => castTop (ef_crev1 m lg sp ks s0 x0 sc kb wz wy zz) k) ?_)
  show Rch p.tables e below _ (s₁.setTop (mkF m 0 #[.val (.ref lg), .unset, .unset, .unset, .unset, .unset] []))
  have Bzz : BE Z h0 zz (0 : Int64) sc kb := BE.zero (zD5.ext zP0.2) h0k
  obtain ⟨T1, X1, e1, st1⟩ := getS2 X0 hx hZ hown (host := "") (Or.inl (own_w hw 60 rfl)) Via.refl e0 (zD4.ext zP0.2) (g := (mkF m 0 #[.val (.ref lg), .unset, .unset, .unset, .unset, .unset] [])) rfl (hb hby d10_0)
  refine Rch.st st1 ?_
  refine Rch.st (fun _ hr => XS.astoreN X1.here hx rfl (hb hby d10_3) rfl rfl (l' := #[.val (.ref lg), .val (.ref zz), .unset, .unset, .unset, .unset]) rfl hr) ?_
  refine Rch.st (fun _ hr => XS.aloadN X1.here hx rfl (hb hby d10_4) rfl rfl hr) ?_
  obtain ⟨T2, X2, e2, st2⟩ := getF X1 hx hZ hown (host := "") (Or.inl (own_w hw 56 rfl)) Via.refl e1 zP1 (g := (mkF m 5 #[.val (.ref lg), .val (.ref zz), .unset, .unset, .unset, .unset] [(.ref lg)])) rfl rfl (hb hby d10_5)
  refine Rch.st st2 ?_
  refine Rch.st (fun _ hr => XS.astoreN X2.here hx rfl (hb hby d10_8) rfl rfl (l' := #[.val (.ref lg), .val (.ref zz), .val (.ref sp), .unset, .unset, .unset]) rfl hr) ?_
  refine Rch.st (fun _ hr => XS.aloadN X2.here hx rfl (hb hby d10_9) rfl rfl hr) ?_
  show Rch p.tables e below _ (T2.setTop (mkF m 10 #[.val (.ref lg), .val (.ref zz), .val (.ref sp), .unset, .unset, .unset] [(.ref sp)]))
  obtain ⟨cl3, Ar3, -, Sz3, Ng3, -, -⟩ := id zP2
  refine Rch.st (fun t hr => X2.arraylength hx (by rw [e2]; exact Ar3.1) (State.isArrayOf_alike hZ.alike Ar3.2.1) (g := (mkF m 10 #[.val (.ref lg), .val (.ref zz), .val (.ref sp), .unset, .unset, .unset] [(.ref sp)])) rfl rfl (hb hby d10_10) t hr) ?_
  rw [len_of Sz3 Ng3]
  refine Rch.st (fun _ hr => XS.istoreN X2.here hx rfl (hb hby d10_11) rfl (l' := #[.val (.ref lg), .val (.ref zz), .val (.ref sp), .val (.int (1 : Int32)), .unset, .unset]) rfl hr) ?_
  refine Rch.st (fun _ hr => XS.iconst X2.here hx rfl (hb hby d10_12) hr) ?_
  refine Rch.st (fun _ hr => XS.istore X2.here hx rfl (hb hby d10_13) rfl (l' := #[.val (.ref lg), .val (.ref zz), .val (.ref sp), .val (.int (1 : Int32)), .val (.int (0 : Int32)), .unset]) rfl hr) ?_
  refine Rch.st (fun _ hr => XS.iload X2.here hx rfl (hb hby d10_15) rfl hr) ?_
  refine Rch.st (fun _ hr => XS.iloadN X2.here hx rfl (hb hby d10_17) rfl hr) ?_
  show Rch p.tables e below _ (T2.setTop (mkF m 18 #[.val (.ref lg), .val (.ref zz), .val (.ref sp), .val (.int (1 : Int32)), .val (.int (0 : Int32)), .unset] [(.int (1 : Int32)), (.int (0 : Int32))]))
  refine Rch.st (fun _ hr => XS.icmpNo X2.here hx rfl (hb hby d10_18) rfl (tlt (by decide : (0 : Int32) < (1 : Int32))).2.1 hr) ?_
  refine Rch.st (fun _ hr => XS.aloadN X2.here hx rfl (hb hby d10_21) rfl rfl hr) ?_
  refine Rch.st (fun _ hr => XS.iload X2.here hx rfl (hb hby d10_22) rfl hr) ?_
  obtain ⟨cl4, Ar4, -, Sz4, Ng4, Ha4, -⟩ := id zP2
  have hin4 := inb_of (j := (0 : Int32)) Sz4 ⟨by decide, by decide⟩
  have hat4 := Ha4.at hin4 (v := (.ref s0)) rfl
  refine Rch.st (fun t hr => X2.aaload hx (j := (0 : Int32)) (v := (.ref s0)) (by rw [e2]; exact Ar4.1) (State.isArrayOf_alike hZ.alike Ar4.2.1) rfl Ar4.2.2 hin4 hat4 (g := (mkF m 24 #[.val (.ref lg), .val (.ref zz), .val (.ref sp), .val (.int (1 : Int32)), .val (.int (0 : Int32)), .unset] [(.int (0 : Int32)), (.ref sp)])) rfl rfl (hb hby d10_24) t hr) ?_
  refine Rch.st (fun _ hr => XS.astore X2.here hx rfl (hb hby d10_25) rfl rfl (l' := #[.val (.ref lg), .val (.ref zz), .val (.ref sp), .val (.int (1 : Int32)), .val (.int (0 : Int32)), .val (.ref s0)]) rfl hr) ?_
  refine Rch.st (fun _ hr => XS.aloadN X2.here hx rfl (hb hby d10_27) rfl rfl hr) ?_
  show Rch p.tables e below _ (T2.setTop (mkF m 28 #[.val (.ref lg), .val (.ref zz), .val (.ref sp), .val (.int (1 : Int32)), .val (.int (0 : Int32)), .val (.ref s0)] [(.ref zz)]))
  refine Rch.st (fun _ hr => XS.aload X2.here hx rfl (hb hby d10_28) rfl rfl hr) ?_
  show Rch p.tables e below _ (T2.setTop (mkF m 30 #[.val (.ref lg), .val (.ref zz), .val (.ref sp), .val (.int (1 : Int32)), .val (.int (0 : Int32)), .val (.ref s0)] [(.ref s0), (.ref zz)]))
  refine own_kV X2 hx hZ (y := Y_28) (z := Y_28) hown (own_w hw 194 rfl) (own_w hw 195 rfl) (notFace_of_selects (args := #[]) (mvT hZ (own_w hw 197 rfl))) (own_w hw 197 rfl) (own_w hw 196 rfl) (own_w hw 28 rfl) (own_w hw 198 rfl) (by decide) (W := 0) (cadds l Z a0 hw [] zz s0 (0 : Int64) x0 sc kb kb wz wy h0 n0 zD0 zD1 zD2 zD3 zP0 Bzz zP3 hs (by omega)) (by decide) (by decide) e2 (zD5.1.ext zP0.2) (by decide) (by decide)  (by rw [hml]; rfl) (argsL := [(.ref s0)]) (rest := []) (lenOf pd_20 rfl) rfl rfl (hb hby d10_30) rfl (fun _ T5 Lc5 X5 hQ5 => ?_)
  obtain ⟨r_5, rfl, N5q, Kp5, Op5, R5_0⟩ := hQ5
  have N5 := Fr.app N0 N5q
  have K6 := (Keep.refl h0 []).trans Kp5 all0
  refine Rch.st (fun _ hr => XS.astoreN X5.here hx rfl (hb hby d10_33) rfl rfl (l' := #[.val (.ref lg), .val (.ref r_5), .val (.ref sp), .val (.int (1 : Int32)), .val (.int (0 : Int32)), .val (.ref s0)]) rfl hr) ?_
  refine Rch.st (fun _ hr => XS.iinc X5.here hx rfl (hb hby d10_34) rfl (l' := #[.val (.ref lg), .val (.ref r_5), .val (.ref sp), .val (.int (1 : Int32)), .val (.int (1 : Int32)), .val (.ref s0)]) rfl hr) ?_
  refine Rch.st (fun _ hr => XS.goto X5.here hx rfl (pc0 := 37) (pc' := 15) rfl (hb hby d10_37) (by decide) (by decide) hr) ?_
  refine Rch.st (fun _ hr => XS.iload X5.here hx rfl (hb hby d10_15) rfl hr) ?_
  show Rch p.tables e below _ (T5.setTop (mkF m 17 #[.val (.ref lg), .val (.ref r_5), .val (.ref sp), .val (.int (1 : Int32)), .val (.int (1 : Int32)), .val (.ref s0)] [(.int (1 : Int32))]))
  refine Rch.st (fun _ hr => XS.iloadN X5.here hx rfl (hb hby d10_17) rfl hr) ?_
  refine Rch.st (fun _ hr => XS.icmpYes X5.here hx rfl (pc0 := 18) (pc' := 40) rfl (hb hby d10_18) rfl (flt (by decide : ¬ ((1 : Int32) < (1 : Int32)))).2.1 (by decide) (by decide) hr) ?_
  refine Rch.st (fun _ hr => XS.aloadN X5.here hx rfl (hb hby d10_40) rfl rfl hr) ?_
  obtain ⟨fs, hr, hrun, hended, hW, hsame⟩ := X5.leave (v := some (.ref r_5)) (fun h => by rw [Bd.returns] at h; cases h)
  refine Rch.fin (u := T5.setFrames fs) (own_retA X5 hx Bd.returns rfl rfl rfl (hb hby d10_41) hr) ⟨_, hrun, hended, _, _, rfl, ?_, ⟨_, rfl⟩, hW, hsame.mono (by decide) (by decide)⟩
  show Q_crev1 Z lg sp ks s0 x0 sc kb wz wy zz h0 n0 _ T5.heap _
  exact ⟨r_5, rfl, N5, K6, Op5, R5_0⟩
theorem d33_0 : decode prog_23_method_3_code 0 = .ok (.aload_n 0, 1) := by decide +kernel
theorem d33_1 : decode prog_23_method_3_code 1 = .ok (.getfield 21, 3) := by decide +kernel
theorem d33_4 : decode prog_23_method_3_code 4 = .ok (.iload_n 1, 1) := by decide +kernel
theorem d33_5 : decode prog_23_method_3_code 5 = .ok (.aload_n 0, 1) := by decide +kernel
theorem d33_6 : decode prog_23_method_3_code 6 = .ok (.getfield 21, 3) := by decide +kernel
theorem d33_9 : decode prog_23_method_3_code 9 = .ok (.iload_n 1, 1) := by decide +kernel
theorem d33_10 : decode prog_23_method_3_code 10 = .ok (.aaload, 1) := by decide +kernel
theorem d33_11 : decode prog_23_method_3_code 11 = .ok (.aload_n 2, 1) := by decide +kernel
theorem d33_12 : decode prog_23_method_3_code 12 = .ok (.invokevirtual 60, 3) := by decide +kernel
theorem d33_15 : decode prog_23_method_3_code 15 = .ok (.aastore, 1) := by decide +kernel
theorem d33_16 : decode prog_23_method_3_code 16 = .ok (.aload_n 0, 1) := by decide +kernel
theorem d33_17 : decode prog_23_method_3_code 17 = .ok (.getfield 25, 3) := by decide +kernel
theorem d33_20 : decode prog_23_method_3_code 20 = .ok (.iload_n 1, 1) := by decide +kernel
theorem d33_21 : decode prog_23_method_3_code 21 = .ok (.aload_n 0, 1) := by decide +kernel
theorem d33_22 : decode prog_23_method_3_code 22 = .ok (.getfield 25, 3) := by decide +kernel
theorem d33_25 : decode prog_23_method_3_code 25 = .ok (.iload_n 1, 1) := by decide +kernel
theorem d33_26 : decode prog_23_method_3_code 26 = .ok (.aaload, 1) := by decide +kernel
theorem d33_27 : decode prog_23_method_3_code 27 = .ok (.aload_n 2, 1) := by decide +kernel
theorem d33_28 : decode prog_23_method_3_code 28 = .ok (.invokevirtual 64, 3) := by decide +kernel
abbrev Y_29 : MethodName := ⟨"java/math/BigDecimal", "subtract", "(Ljava/math/BigDecimal;)Ljava/math/BigDecimal;"⟩
theorem d33_31 : decode prog_23_method_3_code 31 = .ok (.aastore, 1) := by decide +kernel
theorem d33_32 : decode prog_23_method_3_code 32 = .ok (.return_, 1) := by decide +kernel
abbrev Rm_ccharge1_0 : Room := { frames := 8, cells := 2, slots := 10, locals := 125 }
def Q_ccharge1_0 (Z : State) (lg : Addr) (c0 : Addr) (sp : Addr) (ks : ClassId) (rm : Addr) (kr : ClassId) (s0 : Addr) (r0 : Addr) (x0 : Int64) (w0 : Int64) (xc : Int64) (sc : Int32) (kb : Int) (wz : Addr) (wy : Addr) (h0 : Heap) (n0 : Nat) (v : Option Value) (h : Heap) (L : List Loc) : Prop := ∃ (t0 : Addr) (u0 : Addr) (y0 : Int64) (v0 : Int64), v = none ∧ Fr n0 L ∧ Keep h0 h [sp, rm] ∧ Old Z n0 h ∧ Arv Z h sp ks (.object "java/math/BigDecimal") (1 : Int32) [(.ref t0)] .null ∧ Arv Z h rm kr (.object "java/math/BigDecimal") (1 : Int32) [(.ref u0)] .null ∧ BE Z h t0 y0 sc (kb + (1 : Int)) ∧ BE Z h u0 v0 sc (kb + (1 : Int)) ∧ ((0 : Int64) + y0) = (((0 : Int64) + x0) + xc)
theorem ef_ccharge1_0 (m : MethodId) (lg : Addr) (c0 : Addr) (sp : Addr) (ks : ClassId) (rm : Addr) (kr : ClassId) (s0 : Addr) (r0 : Addr) (x0 : Int64) (w0 : Int64) (xc : Int64) (sc : Int32) (kb : Int) (wz : Addr) (wy : Addr) : entryFrame m #[(.ref lg), (.int (0 : Int32)), (.ref c0)] 3 = mkF m 0 #[.val (.ref lg), .val (.int (0 : Int32)), .val (.ref c0)] [] := by first | (simp [entryFrame, mkF, argsToLocals, Value.category]; done) | rfl
set_option maxRecDepth 65536 in
set_option maxHeartbeats 40000000 in
theorem ccharge1_0 (l : Launch) (Z : State) (a0 : Array Value) (hw : ∀ d ∈ tables_1, d.before a0 Z = true) (ws : List Jvm.Cond) (lg : Addr) (c0 : Addr) (sp : Addr) (ks : ClassId) (rm : Addr) (kr : ClassId) (s0 : Addr) (r0 : Addr) (x0 : Int64) (w0 : Int64) (xc : Int64) (sc : Int32) (kb : Int) (wz : Addr) (wy : Addr) (h0 : Heap) (n0 : Nat) (zD0 : Sta Z Z.heap "java/math/BigDecimal" "ZERO_THROUGH_TEN" "[Ljava/math/BigDecimal;" (.ref wz)) (zD1 : ZTab Z Z.heap wz) (zD2 : Sta Z Z.heap "java/math/BigDecimal" "ZERO_SCALED_BY" "[Ljava/math/BigDecimal;" (.ref wy)) (zD3 : STab Z Z.heap wy) (zP0 : Old Z n0 h0) (zP1 : Exa Z h0 lg "com/example/slotwright/slotwright/Ledger") (zP2 : Fld Z h0 lg "com/example/slotwright/slotwright/Ledger" "spent" "[Ljava/math/BigDecimal;" (.ref sp)) (zP3 : Fld Z h0 lg "com/example/slotwright/slotwright/Ledger" "remaining" "[Ljava/math/BigDecimal;" (.ref rm)) (zP4 : Arv Z h0 sp ks (.object "java/math/BigDecimal") (1 : Int32) [(.ref s0)] .null) (zP5 : Arv Z h0 rm kr (.object "java/math/BigDecimal") (1 : Int32) [(.ref r0)] .null) (zP6 : Ovr Z ks "java/math/BigDecimal") (zP7 : Ovr Z kr "java/math/BigDecimal") (zP8 : BE Z h0 s0 x0 sc kb) (zP9 : BE Z h0 r0 w0 sc kb) (zP10 : BE Z h0 c0 xc sc (1 : Int)) (zP11 : n0 ≤ sp) (zP12 : n0 ≤ rm) (zP13 : sp ≠ rm) (hs : own_S sc) (hk : kb ≤ 100) :
    MetFree l (⟨"com/example/slotwright/slotwright/Ledger", "charge", "(ILjava/math/BigDecimal;)V"⟩ : MethodName) (head1 (Jvm.Cond.code (⟨"com/example/slotwright/slotwright/Ledger", "charge", "(ILjava/math/BigDecimal;)V"⟩ : MethodName) prog_23_method_3_code 3 none :: ws) Rm_ccharge1_0) (fun aA uU => aA = #[(.ref lg), (.int (0 : Int32)), (.ref c0)] ∧ Z.Warmed39 uU.vm ∧ uU.heap = h0) (fun _ _ _ _ _ => True) (fun _ uU oO uU' => ∃ vV lL, oO = .returned vV ∧ Q_ccharge1_0 Z lg c0 sp ks rm kr s0 r0 x0 w0 xc sc kb wz wy h0 n0 vV uU'.heap lL ∧ FrameEnd uU oO uU' lL Rm_ccharge1_0.cells Rm_ccharge1_0.slots) := by
  refine MetFree.of_bodySF (plainFor_of_name pn_com_example_slotwright_slotwright_Ledger) hisR ?_
  intro p e s m args below meth c s₁ Bd hml0 hP hK
  obtain ⟨rfl, hZ, hh⟩ := hP
  have hx := Bd.exec
  have hby := Bd.bytes
  have hml : c.maxLocals = 3 := hml0
  have hown : s.vm.findClass "com/example/slotwright/slotwright/Ledger" = some m.cls := findClass_of_methodNamed Bd.named
  have hnm := (name_of_methodNamed Bd.named Bd.method).1
  have X0 : Stand p l e Rm_ccharge1_0 s m #[(.ref lg), (.int (0 : Int32)), (.ref c0)] below meth c s₁ [] 0 0 := Stand.of_body Bd
  have e0 : s₁.heap = h0 := by rw [← hh, Bd.state]; rfl
  have N0 := Fr.nil n0
  refine Rch.out (Rch.st (fun t k => castTop (ef_ccharge1_0 m lg c0 sp ks rm kr s0 r0 x0 w0 xc sc kb wz wy) k) ?_)
  show Rch p.tables e below _ (s₁.setTop (mkF m 0 #[.val (.ref lg), .val (.int (0 : Int32)), .val (.ref c0)] []))
  refine Rch.st (fun _ hr => XS.aloadN X0.here hx rfl (hb hby d33_0) rfl rfl hr) ?_
  obtain ⟨T1, X1, e1, st1⟩ := getF X0 hx hZ hown (host := "") (Or.inl (own_w hw 56 rfl)) Via.refl e0 zP2 (g := (mkF m 1 #[.val (.ref lg), .val (.int (0 : Int32)), .val (.ref c0)] [(.ref lg)])) rfl rfl (hb hby d33_1)
  refine Rch.st st1 ?_
  refine Rch.st (fun _ hr => XS.iloadN X1.here hx rfl (hb hby d33_4) rfl hr) ?_
  refine Rch.st (fun _ hr => XS.aloadN X1.here hx rfl (hb hby d33_5) rfl rfl hr) ?_
  obtain ⟨T2, X2, e2, st2⟩ := getF X1 hx hZ hown (host := "") (Or.inl (own_w hw 56 rfl)) Via.refl e1 zP2 (g := (mkF m 6 #[.val (.ref lg), .val (.int (0 : Int32)), .val (.ref c0)] [(.ref lg), (.int (0 : Int32)), (.ref sp)])) rfl rfl (hb hby d33_6)
  refine Rch.st st2 ?_
  refine Rch.st (fun _ hr => XS.iloadN X2.here hx rfl (hb hby d33_9) rfl hr) ?_
  show Rch p.tables e below _ (T2.setTop (mkF m 10 #[.val (.ref lg), .val (.int (0 : Int32)), .val (.ref c0)] [(.int (0 : Int32)), (.ref sp), (.int (0 : Int32)), (.ref sp)]))
  obtain ⟨cl3, Ar3, -, Sz3, Ng3, Ha3, -⟩ := id zP4
  have hin3 := inb_of (j := (0 : Int32)) Sz3 ⟨by decide, by decide⟩
  have hat3 := Ha3.at hin3 (v := (.ref s0)) rfl
  refine Rch.st (fun t hr => X2.aaload hx (j := (0 : Int32)) (v := (.ref s0)) (by rw [e2]; exact Ar3.1) (State.isArrayOf_alike hZ.alike Ar3.2.1) rfl Ar3.2.2 hin3 hat3 (g := (mkF m 10 #[.val (.ref lg), .val (.int (0 : Int32)), .val (.ref c0)] [(.int (0 : Int32)), (.ref sp), (.int (0 : Int32)), (.ref sp)])) rfl rfl (hb hby d33_10) t hr) ?_
  refine Rch.st (fun _ hr => XS.aloadN X2.here hx rfl (hb hby d33_11) rfl rfl hr) ?_
  show Rch p.tables e below _ (T2.setTop (mkF m 12 #[.val (.ref lg), .val (.int (0 : Int32)), .val (.ref c0)] [(.ref c0), (.ref s0), (.int (0 : Int32)), (.ref sp)]))
  refine own_kV X2 hx hZ (y := Y_28) (z := Y_28) hown (own_w hw 194 rfl) (own_w hw 195 rfl) (notFace_of_selects (args := #[]) (mvT hZ (own_w hw 197 rfl))) (own_w hw 197 rfl) (own_w hw 196 rfl) (own_w hw 28 rfl) (own_w hw 198 rfl) (by decide) (W := 2) (cadds l Z a0 hw [] s0 c0 x0 xc sc kb (1 : Int) wz wy h0 n0 zD0 zD1 zD2 zD3 zP0 zP8 zP10 hs (by omega)) (by decide) (by decide) e2 zP8.1 (by decide) (by decide)  (by rw [hml]; rfl) (argsL := [(.ref c0)]) (rest := [(.int (0 : Int32)), (.ref sp)]) (lenOf pd_20 rfl) rfl rfl (hb hby d33_12) rfl (fun _ T4 Lc4 X4 hQ4 => ?_)
  obtain ⟨r_4, rfl, N4q, Kp4, Op4, R4_0⟩ := hQ4
  have N4 := Fr.app N0 N4q
  have K5 := (Keep.refl h0 [sp, rm]).trans Kp4 all0
  have f6 := (zP4.keep Kp4 nin0)
  obtain ⟨cl7, Ar7, qk7, Sz7, Ng7, Ha7, Gf7⟩ := id f6
  have hin7 := inb_of (j := (0 : Int32)) Sz7 ⟨by decide, by decide⟩
  obtain ⟨T8, h8, X8, e8, W8, st8⟩ := stR X4 hx hZ rfl Ar7 (j := (0 : Int32)) hin7 rfl (Sto.ofV Ar7 qk7 zP6 (Ins.self R4_0.1)) (g := (mkF m 15 #[.val (.ref lg), .val (.int (0 : Int32)), .val (.ref c0)] [(.ref r_4), (.int (0 : Int32)), (.ref sp)])) rfl rfl (hb hby d33_15)
  refine Rch.st st8 ?_
  have N8 := Fr.snoc X8 N4 zP11
  have f9 := (zP1.keep Kp4)
  have ne10 := (Exa.neArv f9 f6 (own_w hw 35 rfl))
  have f11 := (zP8.1.keep Kp4)
  have ne12 := (Exa.neArv f11 f6 (own_w hw 81 rfl))
  have f13 := (zP9.keep Kp4 nin0)
  have ne14 := (Exa.neArv f13.1 f6 (own_w hw 81 rfl))
  have f15 := (zP10.keep Kp4 nin0)
  have ne16 := (Exa.neArv f15.1 f6 (own_w hw 81 rfl))
  have ne17 := (Exa.neArv R4_0.1 f6 (own_w hw 81 rfl))
  have K18 := K5.wr W8 (Or.inl (List.mem_of_getElem? (i := 0) rfl))
  have V8 : Arv Z h8 sp ks (.object "java/math/BigDecimal") (1 : Int32) [(.ref r_4)] .null := Arv.set Ar7 qk7 Sz7 Ng7 Ha7 Gf7 rfl W8 0 rfl (Nat.le_of_ble_eq_true rfl)
  refine Rch.st (fun _ hr => XS.aloadN X8.here hx rfl (hb hby d33_16) rfl rfl hr) ?_
  have f19 := ((zP3.keep Kp4 nin0).other W8 (Or.inl ne10))
  obtain ⟨T20, X20, e20, st20⟩ := getF X8 hx hZ hown (host := "") (Or.inl (own_w hw 58 rfl)) Via.refl e8 f19 (g := (mkF m 17 #[.val (.ref lg), .val (.int (0 : Int32)), .val (.ref c0)] [(.ref lg)])) rfl rfl (hb hby d33_17)
  refine Rch.st st20 ?_
  show Rch p.tables e below _ (T20.setTop (mkF m 20 #[.val (.ref lg), .val (.int (0 : Int32)), .val (.ref c0)] [(.ref rm)]))
  refine Rch.st (fun _ hr => XS.iloadN X20.here hx rfl (hb hby d33_20) rfl hr) ?_
  refine Rch.st (fun _ hr => XS.aloadN X20.here hx rfl (hb hby d33_21) rfl rfl hr) ?_
  obtain ⟨T21, X21, e21, st21⟩ := getF X20 hx hZ hown (host := "") (Or.inl (own_w hw 58 rfl)) Via.refl e20 f19 (g := (mkF m 22 #[.val (.ref lg), .val (.int (0 : Int32)), .val (.ref c0)] [(.ref lg), (.int (0 : Int32)), (.ref rm)])) rfl rfl (hb hby d33_22)
  refine Rch.st st21 ?_
  refine Rch.st (fun _ hr => XS.iloadN X21.here hx rfl (hb hby d33_25) rfl hr) ?_
  have f22 := ((zP5.keep Kp4 nin0).other W8 (Ne.symm zP13))
  obtain ⟨cl23, Ar23, -, Sz23, Ng23, Ha23, -⟩ := id f22
  have hin23 := inb_of (j := (0 : Int32)) Sz23 ⟨by decide, by decide⟩
  have hat23 := Ha23.at hin23 (v := (.ref r0)) rfl
  refine Rch.st (fun t hr => X21.aaload hx (j := (0 : Int32)) (v := (.ref r0)) (by rw [e21]; exact Ar23.1) (State.isArrayOf_alike hZ.alike Ar23.2.1) rfl Ar23.2.2 hin23 hat23 (g := (mkF m 26 #[.val (.ref lg), .val (.int (0 : Int32)), .val (.ref c0)] [(.int (0 : Int32)), (.ref rm), (.int (0 : Int32)), (.ref rm)])) rfl rfl (hb hby d33_26) t hr) ?_
  refine Rch.st (fun _ hr => XS.aloadN X21.here hx rfl (hb hby d33_27) rfl rfl hr) ?_
  show Rch p.tables e below _ (T21.setTop (mkF m 28 #[.val (.ref lg), .val (.int (0 : Int32)), .val (.ref c0)] [(.ref c0), (.ref r0), (.int (0 : Int32)), (.ref rm)]))
  have f25 := (f13.1.wr W8)
  have f26 := (Op4.wr W8 zP11)
  have f27 := (f13.other W8 ne14)
  have f28 := (f15.other W8 ne16)
  show Rch p.tables e below _ (T21.setTop (mkF m 28 #[.val (.ref lg), .val (.int (0 : Int32)), .val (.ref c0)] [(.ref c0), (.ref r0), (.int (0 : Int32)), (.ref rm)]))
  refine own_kV X21 hx hZ (y := Y_29) (z := Y_29) hown (own_w hw 222 rfl) (own_w hw 223 rfl) (notFace_of_selects (args := #[]) (mvT hZ (own_w hw 225 rfl))) (own_w hw 225 rfl) (own_w hw 224 rfl) (own_w hw 28 rfl) (own_w hw 226 rfl) (by decide) (W := 2) (csubs l Z a0 hw [] r0 c0 w0 xc sc kb (1 : Int) wz wy h8 n0 zD0 zD1 zD2 zD3 f26 f27 f28 hs (by omega)) (by decide) (by decide) e21 f25 (by decide) (by decide)  (by rw [hml]; rfl) (argsL := [(.ref c0)]) (rest := [(.int (0 : Int32)), (.ref rm)]) (lenOf pd_20 rfl) rfl rfl (hb hby d33_28) rfl (fun _ T24 Lc24 X24 hQ24 => ?_)
  obtain ⟨r_24, rfl, N24q, Kp24, Op24, R24_0⟩ := hQ24
  have N24 := Fr.app N8 N24q
  have K29 := K18.trans Kp24 all0
  have f30 := (f22.keep Kp24 nin0)
  obtain ⟨cl31, Ar31, qk31, Sz31, Ng31, Ha31, Gf31⟩ := id f30
  have hin31 := inb_of (j := (0 : Int32)) Sz31 ⟨by decide, by decide⟩
  obtain ⟨T32, h32, X32, e32, W32, st32⟩ := stR X24 hx hZ rfl Ar31 (j := (0 : Int32)) hin31 rfl (Sto.ofV Ar31 qk31 zP7 (Ins.self R24_0.1)) (g := (mkF m 31 #[.val (.ref lg), .val (.int (0 : Int32)), .val (.ref c0)] [(.ref r_24), (.int (0 : Int32)), (.ref rm)])) rfl rfl (hb hby d33_31)
  refine Rch.st st32 ?_
  have N32 := Fr.snoc X32 N24 zP12
  have f33 := ((f9.wr W8).keep Kp24)
  have ne34 := (Exa.neArv f33 f30 (own_w hw 35 rfl))
  have f35 := ((f11.wr W8).keep Kp24)
  have ne36 := (Exa.neArv f35 f30 (own_w hw 81 rfl))
  have f37 := (f25.keep Kp24)
  have ne38 := (Exa.neArv f37 f30 (own_w hw 81 rfl))
  have f39 := ((f15.1.wr W8).keep Kp24)
  have ne40 := (Exa.neArv f39 f30 (own_w hw 81 rfl))
  have f41 := ((R4_0.1.wr W8).keep Kp24)
  have ne42 := (Exa.neArv f41 f30 (own_w hw 81 rfl))
  have ne43 := (Exa.neArv R24_0.1 f30 (own_w hw 81 rfl))
  have K44 := K29.wr W32 (Or.inl (List.mem_of_getElem? (i := 1) rfl))
  have V32 : Arv Z h32 rm kr (.object "java/math/BigDecimal") (1 : Int32) [(.ref r_24)] .null := Arv.set Ar31 qk31 Sz31 Ng31 Ha31 Gf31 rfl W32 0 rfl (Nat.le_of_ble_eq_true rfl)
  obtain ⟨fs, hr, hrun, hended, hW, hsame⟩ := X32.leave (v := none) (fun _ => rfl)
  have f45 := (((R4_0.other W8 ne17).keep Kp24 nin0).other W32 ne42)
  have f46 := (R24_0.other W32 ne43)
  have f47 := (Op24.wr W32 zP12)
  have f48 := ((V8.keep Kp24 nin0).other W32 zP13)
  refine Rch.fin (u := T32.setFrames fs) (X32.returnOut hx Bd.returns (hb hby d33_32) hr) ⟨_, hrun, hended, _, _, rfl, ?_, ⟨_, rfl⟩, hW, hsame.mono (by decide) (by decide)⟩
  show Q_ccharge1_0 Z lg c0 sp ks rm kr s0 r0 x0 w0 xc sc kb wz wy h0 n0 _ T32.heap _
  rw [e32]
  exact ⟨r_4, r_24, (x0 + xc), (w0 + (-xc)), rfl, N32, K44, f47, f48, V32, f45, f46, (own_s1 x0 xc)⟩
abbrev Rm_ccharge1 : Room := { frames := 8, cells := 2, slots := 10, locals := 125 }
def Q_ccharge1 (Z : State) (lg : Addr) (c0 : Addr) (sp : Addr) (ks : ClassId) (rm : Addr) (kr : ClassId) (s0 : Addr) (r0 : Addr) (x0 : Int64) (w0 : Int64) (xc : Int64) (sc : Int32) (kb : Int) (wz : Addr) (wy : Addr) (i : Int32) (h0 : Heap) (n0 : Nat) (v : Option Value) (h : Heap) (L : List Loc) : Prop := ∃ (t0 : Addr) (u0 : Addr) (y0 : Int64) (v0 : Int64), v = none ∧ Fr n0 L ∧ Keep h0 h [sp, rm] ∧ Old Z n0 h ∧ Arv Z h sp ks (.object "java/math/BigDecimal") (1 : Int32) [(.ref t0)] .null ∧ Arv Z h rm kr (.object "java/math/BigDecimal") (1 : Int32) [(.ref u0)] .null ∧ BE Z h t0 y0 sc (kb + (1 : Int)) ∧ BE Z h u0 v0 sc (kb + (1 : Int)) ∧ ((0 : Int64) + y0) = (((0 : Int64) + x0) + xc)
set_option maxRecDepth 65536 in
set_option maxHeartbeats 40000000 in
theorem ccharge1 (l : Launch) (Z : State) (a0 : Array Value) (hw : ∀ d ∈ tables_1, d.before a0 Z = true) (ws : List Jvm.Cond) (lg : Addr) (c0 : Addr) (sp : Addr) (ks : ClassId) (rm : Addr) (kr : ClassId) (s0 : Addr) (r0 : Addr) (x0 : Int64) (w0 : Int64) (xc : Int64) (sc : Int32) (kb : Int) (wz : Addr) (wy : Addr) (i : Int32) (h0 : Heap) (n0 : Nat) (zD0 : Sta Z Z.heap "java/math/BigDecimal" "ZERO_THROUGH_TEN" "[Ljava/math/BigDecimal;" (.ref wz)) (zD1 : ZTab Z Z.heap wz) (zD2 : Sta Z Z.heap "java/math/BigDecimal" "ZERO_SCALED_BY" "[Ljava/math/BigDecimal;" (.ref wy)) (zD3 : STab Z Z.heap wy) (zP0 : Old Z n0 h0) (zP1 : Exa Z h0 lg "com/example/slotwright/slotwright/Ledger") (zP2 : Fld Z h0 lg "com/example/slotwright/slotwright/Ledger" "spent" "[Ljava/math/BigDecimal;" (.ref sp)) (zP3 : Fld Z h0 lg "com/example/slotwright/slotwright/Ledger" "remaining" "[Ljava/math/BigDecimal;" (.ref rm)) (zP4 : Arv Z h0 sp ks (.object "java/math/BigDecimal") (1 : Int32) [(.ref s0)] .null) (zP5 : Arv Z h0 rm kr (.object "java/math/BigDecimal") (1 : Int32) [(.ref r0)] .null) (zP6 : Ovr Z ks "java/math/BigDecimal") (zP7 : Ovr Z kr "java/math/BigDecimal") (zP8 : BE Z h0 s0 x0 sc kb) (zP9 : BE Z h0 r0 w0 sc kb) (zP10 : BE Z h0 c0 xc sc (1 : Int)) (zP11 : n0 ≤ sp) (zP12 : n0 ≤ rm) (zP13 : sp ≠ rm) (hs : own_S sc) (hk : kb ≤ 100) (hi : i = (0 : Int32)) :
    MetFree l (⟨"com/example/slotwright/slotwright/Ledger", "charge", "(ILjava/math/BigDecimal;)V"⟩ : MethodName) (head1 (Jvm.Cond.code (⟨"com/example/slotwright/slotwright/Ledger", "charge", "(ILjava/math/BigDecimal;)V"⟩ : MethodName) prog_23_method_3_code 3 none :: ws) Rm_ccharge1) (fun aA uU => aA = #[(.ref lg), (.int i), (.ref c0)] ∧ Z.Warmed39 uU.vm ∧ uU.heap = h0) (fun _ _ _ _ _ => True) (fun _ uU oO uU' => ∃ vV lL, oO = .returned vV ∧ Q_ccharge1 Z lg c0 sp ks rm kr s0 r0 x0 w0 xc sc kb wz wy i h0 n0 vV uU'.heap lL ∧ FrameEnd uU oO uU' lL Rm_ccharge1.cells Rm_ccharge1.slots) := by
  rcases hi with rfl
  · exact ccharge1_0 l Z a0 hw ws lg c0 sp ks rm kr s0 r0 x0 w0 xc sc kb wz wy h0 n0 zD0 zD1 zD2 zD3 zP0 zP1 zP2 zP3 zP4 zP5 zP6 zP7 zP8 zP9 zP10 zP11 zP12 zP13 hs hk
abbrev Rm_cfill2 : Room := { frames := 0, cells := 0, slots := 0, locals := 0 }
def Q_cfill2 (Z : State) (a : Addr) (kf : ClassId) (z : Addr) (h0 : Heap) (n0 : Nat) (v : Option Value) (h : Heap) (L : List Loc) : Prop := v = none ∧ Fr n0 L ∧ Keep h0 h [a] ∧ Old Z n0 h ∧ Arv Z h a kf (.object "java/math/BigDecimal") (2 : Int32) [(.ref z), (.ref z)] .null
theorem ef_cfill2 (m : MethodId) (a : Addr) (kf : ClassId) (z : Addr) : entryFrame m #[(.ref a), (.ref z)] 4 = mkF m 0 #[.val (.ref a), .val (.ref z), .unset, .unset] [] := by first | (simp [entryFrame, mkF, argsToLocals, Value.category]; done) | rfl
set_option maxRecDepth 65536 in
set_option maxHeartbeats 40000000 in
theorem cfill2 (l : Launch) (Z : State) (a0 : Array Value) (hw : ∀ d ∈ tables_1, d.before a0 Z = true) (ws : List Jvm.Cond) (a : Addr) (kf : ClassId) (z : Addr) (h0 : Heap) (n0 : Nat) (zP0 : Old Z n0 h0) (zP1 : Arv Z h0 a kf (.object "java/math/BigDecimal") (2 : Int32) [.null, .null] .null) (zP2 : Ovr Z kf "java/math/BigDecimal") (zP3 : Exa Z h0 z "java/math/BigDecimal") (zP4 : n0 ≤ a) :
    MetFree l (⟨"java/util/Arrays", "fill", "([Ljava/lang/Object;Ljava/lang/Object;)V"⟩ : MethodName) (head1 (Jvm.Cond.code (⟨"java/util/Arrays", "fill", "([Ljava/lang/Object;Ljava/lang/Object;)V"⟩ : MethodName) jdk_65_method_117_code 4 none :: ws) Rm_cfill2) (fun aA uU => aA = #[(.ref a), (.ref z)] ∧ Z.Warmed39 uU.vm ∧ uU.heap = h0) (fun _ _ _ _ _ => True) (fun _ uU oO uU' => ∃ vV lL, oO = .returned vV ∧ Q_cfill2 Z a kf z h0 n0 vV uU'.heap lL ∧ FrameEnd uU oO uU' lL Rm_cfill2.cells Rm_cfill2.slots) := by
  refine MetFree.of_bodySF (plainFor_of_name pn_java_util_Arrays) hisR ?_
  intro p e s m args below meth c s₁ Bd hml0 hP hK
  obtain ⟨rfl, hZ, hh⟩ := hP
  have hx := Bd.exec
  have hby := Bd.bytes
  have hml : c.maxLocals = 4 := hml0
  have hown : s.vm.findClass "java/util/Arrays" = some m.cls := findClass_of_methodNamed Bd.named
  have hnm := (name_of_methodNamed Bd.named Bd.method).1
  have X0 : Stand p l e Rm_cfill2 s m #[(.ref a), (.ref z)] below meth c s₁ [] 0 0 := Stand.of_body Bd
  have e0 : s₁.heap = h0 := by rw [← hh, Bd.state]; rfl
  have N0 := Fr.nil n0
  refine Rch.out (Rch.st (fun t k => castTop (ef_cfill2 m a kf z) k) ?_)
  show Rch p.tables e below _ (s₁.setTop (mkF m 0 #[.val (.ref a), .val (.ref z), .unset, .unset] []))
  refine Rch.st (fun _ hr => XS.iconst X0.here hx rfl (hb hby d9_0) hr) ?_
  refine Rch.st (fun _ hr => XS.istoreN X0.here hx rfl (hb hby d9_1) rfl (l' := #[.val (.ref a), .val (.ref z), .val (.int (0 : Int32)), .unset]) rfl hr) ?_
  refine Rch.st (fun _ hr => XS.aloadN X0.here hx rfl (hb hby d9_2) rfl rfl hr) ?_
  obtain ⟨cl1, Ar1, -, Sz1, Ng1, -, -⟩ := id zP1
  refine Rch.st (fun t hr => X0.arraylength hx (by rw [e0]; exact Ar1.1) (State.isArrayOf_alike hZ.alike Ar1.2.1) (g := (mkF m 3 #[.val (.ref a), .val (.ref z), .val (.int (0 : Int32)), .unset] [(.ref a)])) rfl rfl (hb hby d9_3) t hr) ?_
  rw [len_of Sz1 Ng1]
  refine Rch.st (fun _ hr => XS.istoreN X0.here hx rfl (hb hby d9_4) rfl (l' := #[.val (.ref a), .val (.ref z), .val (.int (0 : Int32)), .val (.int (2 : Int32))]) rfl hr) ?_
  refine Rch.st (fun _ hr => XS.iloadN X0.here hx rfl (hb hby d9_5) rfl hr) ?_
  show Rch p.tables e below _ (s₁.setTop (mkF m 6 #[.val (.ref a), .val (.ref z), .val (.int (0 : Int32)), .val (.int (2 : Int32))] [(.int (0 : Int32))]))
  refine Rch.st (fun _ hr => XS.iloadN X0.here hx rfl (hb hby d9_6) rfl hr) ?_
  refine Rch.st (fun _ hr => XS.icmpNo X0.here hx rfl (hb hby d9_7) rfl (tlt (by decide : (0 : Int32) < (2 : Int32))).2.1 hr) ?_
  refine Rch.st (fun _ hr => XS.aloadN X0.here hx rfl (hb hby d9_10) rfl rfl hr) ?_
  refine Rch.st (fun _ hr => XS.iloadN X0.here hx rfl (hb hby d9_11) rfl hr) ?_
  refine Rch.st (fun _ hr => XS.aloadN X0.here hx rfl (hb hby d9_12) rfl rfl hr) ?_
  obtain ⟨cl2, Ar2, qk2, Sz2, Ng2, Ha2, Gf2⟩ := id zP1
  have hin2 := inb_of (j := (0 : Int32)) Sz2 ⟨by decide, by decide⟩
  obtain ⟨T3, h3, X3, e3, W3, st3⟩ := stR X0 hx hZ e0 Ar2 (j := (0 : Int32)) hin2 rfl (Sto.ofV Ar2 qk2 zP2 (Ins.self zP3)) (g := (mkF m 13 #[.val (.ref a), .val (.ref z), .val (.int (0 : Int32)), .val (.int (2 : Int32))] [(.ref z), (.int (0 : Int32)), (.ref a)])) rfl rfl (hb hby d9_13)
  refine Rch.st st3 ?_
  have N3 := Fr.snoc X3 N0 zP4
  have ne4 := (Exa.neArv zP3 zP1 (own_w hw 81 rfl))
  have K5 := (Keep.refl h0 [a]).wr W3 (Or.inl (List.mem_of_getElem? (i := 0) rfl))
  have V3 : Arv Z h3 a kf (.object "java/math/BigDecimal") (2 : Int32) [(.ref z), .null] .null := Arv.set Ar2 qk2 Sz2 Ng2 Ha2 Gf2 rfl W3 0 rfl (Nat.le_of_ble_eq_true rfl)
  show Rch p.tables e below _ (T3.setTop (mkF m 14 #[.val (.ref a), .val (.ref z), .val (.int (0 : Int32)), .val (.int (2 : Int32))] []))
  refine Rch.st (fun _ hr => XS.iinc X3.here hx rfl (hb hby d9_14) rfl (l' := #[.val (.ref a), .val (.ref z), .val (.int (1 : Int32)), .val (.int (2 : Int32))]) rfl hr) ?_
  refine Rch.st (fun _ hr => XS.goto X3.here hx rfl (pc0 := 17) (pc' := 5) rfl (hb hby d9_17) (by decide) (by decide) hr) ?_
  refine Rch.st (fun _ hr => XS.iloadN X3.here hx rfl (hb hby d9_5) rfl hr) ?_
  refine Rch.st (fun _ hr => XS.iloadN X3.here hx rfl (hb hby d9_6) rfl hr) ?_
  refine Rch.st (fun _ hr => XS.icmpNo X3.here hx rfl (hb hby d9_7) rfl (tlt (by decide : (1 : Int32) < (2 : Int32))).2.1 hr) ?_
  refine Rch.st (fun _ hr => XS.aloadN X3.here hx rfl (hb hby d9_10) rfl rfl hr) ?_
  show Rch p.tables e below _ (T3.setTop (mkF m 11 #[.val (.ref a), .val (.ref z), .val (.int (1 : Int32)), .val (.int (2 : Int32))] [(.ref a)]))
  refine Rch.st (fun _ hr => XS.iloadN X3.here hx rfl (hb hby d9_11) rfl hr) ?_
  refine Rch.st (fun _ hr => XS.aloadN X3.here hx rfl (hb hby d9_12) rfl rfl hr) ?_
  obtain ⟨cl6, Ar6, qk6, Sz6, Ng6, Ha6, Gf6⟩ := id V3
  have hin6 := inb_of (j := (1 : Int32)) Sz6 ⟨by decide, by decide⟩
  have f7 := (zP3.wr W3)
  obtain ⟨T8, h8, X8, e8, W8, st8⟩ := stR X3 hx hZ e3 Ar6 (j := (1 : Int32)) hin6 rfl (Sto.ofV Ar6 qk6 zP2 (Ins.self f7)) (g := (mkF m 13 #[.val (.ref a), .val (.ref z), .val (.int (1 : Int32)), .val (.int (2 : Int32))] [(.ref z), (.int (1 : Int32)), (.ref a)])) rfl rfl (hb hby d9_13)
  refine Rch.st st8 ?_
  have N8 := Fr.snoc X8 N3 zP4
  have f9 := (zP0.wr W3 zP4)
  have K10 := K5.wr W8 (Or.inl (List.mem_of_getElem? (i := 0) rfl))
  have V8 : Arv Z h8 a kf (.object "java/math/BigDecimal") (2 : Int32) [(.ref z), (.ref z)] .null := Arv.set Ar6 qk6 Sz6 Ng6 Ha6 Gf6 rfl W8 1 rfl (Nat.le_of_ble_eq_true rfl)
  refine Rch.st (fun _ hr => XS.iinc X8.here hx rfl (hb hby d9_14) rfl (l' := #[.val (.ref a), .val (.ref z), .val (.int (2 : Int32)), .val (.int (2 : Int32))]) rfl hr) ?_
  refine Rch.st (fun _ hr => XS.goto X8.here hx rfl (pc0 := 17) (pc' := 5) rfl (hb hby d9_17) (by decide) (by decide) hr) ?_
  refine Rch.st (fun _ hr => XS.iloadN X8.here hx rfl (hb hby d9_5) rfl hr) ?_
  show Rch p.tables e below _ (T8.setTop (mkF m 6 #[.val (.ref a), .val (.ref z), .val (.int (2 : Int32)), .val (.int (2 : Int32))] [(.int (2 : Int32))]))
  refine Rch.st (fun _ hr => XS.iloadN X8.here hx rfl (hb hby d9_6) rfl hr) ?_
  refine Rch.st (fun _ hr => XS.icmpYes X8.here hx rfl (pc0 := 7) (pc' := 20) rfl (hb hby d9_7) rfl (flt (by decide : ¬ ((2 : Int32) < (2 : Int32)))).2.1 (by decide) (by decide) hr) ?_
  obtain ⟨fs, hr, hrun, hended, hW, hsame⟩ := X8.leave (v := none) (fun _ => rfl)
  have f11 := (f9.wr W8 zP4)
  refine Rch.fin (u := T8.setFrames fs) (X8.returnOut hx Bd.returns (hb hby d9_20) hr) ⟨_, hrun, hended, _, _, rfl, ?_, ⟨_, rfl⟩, hW, hsame.mono (by decide) (by decide)⟩
  show Q_cfill2 Z a kf z h0 n0 _ T8.heap _
  rw [e8]
  exact ⟨rfl, N8, K10, f11, V8⟩
abbrev Rm_cledger2 : Room := { frames := 3, cells := 2, slots := 4, locals := 42 }
def Q_cledger2 (Z : State) (lg : Addr) (a : Addr) (d : Addr) (kd : ClassId) (ea : Addr) (eb : Addr) (r0 : Addr) (r1 : Addr) (zz : Addr) (h0 : Heap) (n0 : Nat) (v : Option Value) (h : Heap) (L : List Loc) : Prop := ∃ (sp : Addr) (ks : ClassId) (rm : Addr) (kr : ClassId), v = none ∧ Fr n0 L ∧ Keep h0 h [lg] ∧ Old Z n0 h ∧ Exa Z h lg "com/example/slotwright/slotwright/Ledger" ∧ Fld Z h lg "com/example/slotwright/slotwright/Ledger" "spent" "[Ljava/math/BigDecimal;" (.ref sp) ∧ Fld Z h lg "com/example/slotwright/slotwright/Ledger" "remaining" "[Ljava/math/BigDecimal;" (.ref rm) ∧ h0.size ≤ sp ∧ h0.size ≤ rm ∧ Arv Z h sp ks (.object "java/math/BigDecimal") (2 : Int32) [(.ref zz), (.ref zz)] .null ∧ Arv Z h rm kr (.object "java/math/BigDecimal") (2 : Int32) [(.ref r0), (.ref r1)] .null ∧ Ovr Z ks "java/math/BigDecimal" ∧ Ovr Z kr "java/math/BigDecimal" ∧ sp ≠ rm
theorem ef_cledger2 (m : MethodId) (lg : Addr) (a : Addr) (d : Addr) (kd : ClassId) (ea : Addr) (eb : Addr) (r0 : Addr) (r1 : Addr) (zz : Addr) : entryFrame m #[(.ref lg), (.ref a)] 3 = mkF m 0 #[.val (.ref lg), .val (.ref a), .unset] [] := by first | (simp [entryFrame, mkF, argsToLocals, Value.category]; done) | rfl
set_option maxRecDepth 65536 in
set_option maxHeartbeats 40000000 in
theorem cledger2 (l : Launch) (Z : State) (a0 : Array Value) (hw : ∀ d ∈ tables_1, d.before a0 Z = true) (ws : List Jvm.Cond) (lg : Addr) (a : Addr) (d : Addr) (kd : ClassId) (ea : Addr) (eb : Addr) (r0 : Addr) (r1 : Addr) (zz : Addr) (h0 : Heap) (n0 : Nat) (zD0 : Sta Z Z.heap "java/math/BigDecimal" "ZERO" "Ljava/math/BigDecimal;" (.ref zz)) (zD1 : BDc Z Z.heap zz (0 : Int64) (0 : Int32)) (zP0 : Old Z n0 h0) (zP1 : Exa Z h0 lg "com/example/slotwright/slotwright/Ledger") (zP2 : Fld Z h0 lg "com/example/slotwright/slotwright/Ledger" "advertisers" "Ljava/util/List;" .null) (zP3 : Fld Z h0 lg "com/example/slotwright/slotwright/Ledger" "spent" "[Ljava/math/BigDecimal;" .null) (zP4 : Fld Z h0 lg "com/example/slotwright/slotwright/Ledger" "remaining" "[Ljava/math/BigDecimal;" .null) (zP5 : n0 ≤ lg) (zP6 : Exa Z h0 a "java/util/ArrayList") (zP7 : Fld Z h0 a "java/util/ArrayList" "size" "I" (.int (2 : Int32))) (zP8 : Fld Z h0 a "java/util/ArrayList" "elementData" "[Ljava/lang/Object;" (.ref d)) (zP9 : Arv Z h0 d kd (.object "java/lang/Object") (10 : Int32) [(.ref ea), (.ref eb), .null, .null, .null, .null, .null, .null, .null, .null] .null) (zP10 : Exa Z h0 ea "com/example/slotwright/slotwright/Market$Advertiser") (zP11 : Fld Z h0 ea "com/example/slotwright/slotwright/Market$Advertiser" "budget" "Ljava/math/BigDecimal;" (.ref r0)) (zP12 : Exa Z h0 r0 "java/math/BigDecimal") (zP13 : Exa Z h0 eb "com/example/slotwright/slotwright/Market$Advertiser") (zP14 : Fld Z h0 eb "com/example/slotwright/slotwright/Market$Advertiser" "budget" "Ljava/math/BigDecimal;" (.ref r1)) (zP15 : Exa Z h0 r1 "java/math/BigDecimal") :
    MetFree l (⟨"com/example/slotwright/slotwright/Ledger", "<init>", "(Ljava/util/List;)V"⟩ : MethodName) (head1 (Jvm.Cond.code (⟨"com/example/slotwright/slotwright/Ledger", "<init>", "(Ljava/util/List;)V"⟩ : MethodName) prog_23_method_1_code 3 none :: ws) Rm_cledger2) (fun aA uU => aA = #[(.ref lg), (.ref a)] ∧ Z.Warmed39 uU.vm ∧ uU.heap = h0) (fun _ _ _ _ _ => True) (fun _ uU oO uU' => ∃ vV lL, oO = .returned vV ∧ Q_cledger2 Z lg a d kd ea eb r0 r1 zz h0 n0 vV uU'.heap lL ∧ FrameEnd uU oO uU' lL Rm_cledger2.cells Rm_cledger2.slots) := by
  refine MetFree.of_bodySF (plainFor_of_name pn_com_example_slotwright_slotwright_Ledger) hisR ?_
  intro p e s m args below meth c s₁ Bd hml0 hP hK
  obtain ⟨rfl, hZ, hh⟩ := hP
  have hx := Bd.exec
  have hby := Bd.bytes
  have hml : c.maxLocals = 3 := hml0
  have hown : s.vm.findClass "com/example/slotwright/slotwright/Ledger" = some m.cls := findClass_of_methodNamed Bd.named
  have hnm := (name_of_methodNamed Bd.named Bd.method).1
  have X0 : Stand p l e Rm_cledger2 s m #[(.ref lg), (.ref a)] below meth c s₁ [] 0 0 := Stand.of_body Bd
  have e0 : s₁.heap = h0 := by rw [← hh, Bd.state]; rfl
  have N0 := Fr.nil n0
  refine Rch.out (Rch.st (fun t k => castTop (ef_cledger2 m lg a d kd ea eb r0 r1 zz) k) ?_)
  show Rch p.tables e below _ (s₁.setTop (mkF m 0 #[.val (.ref lg), .val (.ref a), .unset] []))
  refine Rch.st (fun _ hr => XS.aloadN X0.here hx rfl (hb hby d7_0) rfl rfl hr) ?_
  obtain ⟨T1, X1, e1, st1⟩ := initO X0 hx hZ hown (own_w hw 40 rfl) (own_w hw 19 rfl) (own_w hw 20 rfl) e0 (g := (mkF m 1 #[.val (.ref lg), .val (.ref a), .unset] [(.ref lg)])) rfl (by rw [hml]; rfl) rfl (hb hby d7_1) (by decide) (W := 0) (own_mr rfl rfl) (by decide)
  refine Rch.st st1 ?_
  refine Rch.st (fun _ hr => XS.aloadN X1.here hx rfl (hb hby d7_4) rfl rfl hr) ?_
  refine Rch.st (fun _ hr => XS.aloadN X1.here hx rfl (hb hby d7_5) rfl rfl hr) ?_
  obtain ⟨T2, h2, X2, e2, W2, st2⟩ := putF X1 hx hZ hown (host := "") (Or.inl (own_w hw 41 rfl)) Via.refl e1 zP2 zP1 (Or.inr ⟨(own_w hw 42 rfl), rfl, hnm⟩) (own_w hw 35 rfl) (ty := (.object "java/util/List")) (by decide) rfl rfl (g := (mkF m 6 #[.val (.ref lg), .val (.ref a), .unset] [(.ref a), (.ref lg)])) rfl rfl (hb hby d7_6)
  refine Rch.st st2 ?_
  have N2 := Fr.snoc X2 N0 zP5
  have ne3 := (Exa.ne zP6 zP1 (by decide))
  have ne4 := (Ne.symm (Exa.neArv zP1 zP9 (own_w hw 35 rfl)))
  have ne5 := (Exa.ne zP10 zP1 (by decide))
  have ne6 := (Exa.ne zP12 zP1 (by decide))
  have ne7 := (Exa.ne zP13 zP1 (by decide))
  have ne8 := (Exa.ne zP15 zP1 (by decide))
  have K9 := (Keep.refl h0 [lg]).wr W2 (Or.inl (List.mem_of_getElem? (i := 0) rfl))
  have Fw2 := zP2.same W2
  refine Rch.st (fun _ hr => XS.aloadN X2.here hx rfl (hb hby d7_9) rfl rfl hr) ?_
  show Rch p.tables e below _ (T2.setTop (mkF m 10 #[.val (.ref lg), .val (.ref a), .unset] [(.ref lg)]))
  refine Rch.st (fun _ hr => XS.aloadN X2.here hx rfl (hb hby d7_10) rfl rfl hr) ?_
  have f11 := (zP6.wr W2)
  have f12 := (zP7.other W2 (Or.inl ne3))
  show Rch p.tables e below _ (T2.setTop (mkF m 11 #[.val (.ref lg), .val (.ref a), .unset] [(.ref a), (.ref lg)]))
  refine own_kF X2 hx hZ (xi := Y_22) (y := Y_23) hown (own_w hw 43 rfl) (own_w hw 44 rfl) (mvT hZ (own_w hw 45 rfl)) (own_w hw 46 rfl) (own_w hw 47 rfl) (own_w hw 48 rfl) (own_w hw 49 rfl) (own_w hw 50 rfl) (own_w hw 2 rfl) (own_w hw 51 rfl) (by decide) (W := 1) (csize l Z a0 hw [] a (2 : Int32) h2 n0 f12) (by decide) (by decide) e2 f11 (by decide) (by decide)  (by rw [hml]; rfl) (argsL := []) (rest := [(.ref lg)]) (lenOf pd_11 rfl) rfl rfl (hb hby d7_11) rfl (fun _ T10 Lc10 X10 hQ10 => ?_)
  obtain ⟨rfl, N10q, e10⟩ := hQ10
  have N10 := Fr.app N2 N10q
  obtain ⟨T13, h13, k13, X13, e13, E13, A13, O13, st13⟩ := newR X10 hx hZ hown (own_w hw 54 rfl) (own_w hw 55 rfl) e10 (g := (mkF m 16 #[.val (.ref lg), .val (.ref a), .unset] [(.int (2 : Int32)), (.ref lg)])) rfl (hb hby d7_16) rfl (by decide) (cap := 2) (by decide) (by decide) (by decide) (by decide)
  obtain ⟨b13, g13⟩ : ∃ z, z = h2.size := ⟨_, rfl⟩
  rw [← g13] at A13 st13
  refine Rch.st st13 ?_
  have q13 : h2.size ≤ b13 := Nat.le_of_eq g13.symm
  have f14 := (zP4.other W2 (Or.inr (slot_ne (Or.inr (own_w hw 59 rfl)) (Or.inr (own_w hw 42 rfl)) (by decide) (t := (.array (.object "java/math/BigDecimal"))) (t' := (.object "java/util/List")) (by decide) (by decide))))
  have ne15 := Nat.ne_of_lt (Nat.lt_of_lt_of_le f14.lt q13)
  have f16 := (zP8.other W2 (Or.inl ne3))
  have ne17 := Nat.ne_of_lt (Nat.lt_of_lt_of_le f16.lt q13)
  have f18 := (zP9.other W2 ne4)
  have ne19 := Nat.ne_of_lt (Nat.lt_of_lt_of_le f18.lt q13)
  have f20 := (zP11.other W2 (Or.inl ne5))
  have ne21 := Nat.ne_of_lt (Nat.lt_of_lt_of_le f20.lt q13)
  have f22 := (zP12.wr W2)
  have ne23 := Nat.ne_of_lt (Nat.lt_of_lt_of_le f22.lt q13)
  have f24 := (zP14.other W2 (Or.inl ne7))
  have ne25 := Nat.ne_of_lt (Nat.lt_of_lt_of_le f24.lt q13)
  have f26 := (zP15.wr W2)
  have ne27 := Nat.ne_of_lt (Nat.lt_of_lt_of_le f26.lt q13)
  have f28 := (zP0.wr W2 zP5)
  have g_b13 : n0 ≤ b13 := Nat.le_trans (Nat.le_trans (Nat.le_of_eq f28.1.symm) f28.2.1) q13
  have sz_b13 : h0.size ≤ b13 := Nat.le_trans K9.1 q13
  have K29 := K9.ext E13
  have V13 : Arv Z h13 b13 k13 (.object "java/math/BigDecimal") (2 : Int32) [.null, .null] .null := (Arv.new A13 (by decide)).pad (pad_rep [] .null 2)
  have f30 := ((zP3.other W2 (Or.inr (slot_ne (Or.inr (own_w hw 57 rfl)) (Or.inr (own_w hw 42 rfl)) (by decide) (t := (.array (.object "java/math/BigDecimal"))) (t' := (.object "java/util/List")) (by decide) (by decide)))).ext E13)
  have f31 := ((zP1.wr W2).ext E13)
  obtain ⟨T32, h32, X32, e32, W32, st32⟩ := putF X13 hx hZ hown (host := "") (Or.inl (own_w hw 56 rfl)) Via.refl e13 f30 f31 (Or.inr ⟨(own_w hw 57 rfl), rfl, hnm⟩) (own_w hw 35 rfl) (ty := (.array (.object "java/math/BigDecimal"))) (by decide) rfl rfl (g := (mkF m 19 #[.val (.ref lg), .val (.ref a), .unset] [(.ref b13), (.ref lg)])) rfl rfl (hb hby d7_19)
  refine Rch.st st32 ?_
  have N32 := Fr.snoc X32 N10 zP5
  have f33 := (f28.ext E13)
  have K34 := K29.wr W32 (Or.inl (List.mem_of_getElem? (i := 0) rfl))
  have Fw32 := f30.same W32
  refine Rch.st (fun _ hr => XS.aloadN X32.here hx rfl (hb hby d7_22) rfl rfl hr) ?_
  refine Rch.st (fun _ hr => XS.aloadN X32.here hx rfl (hb hby d7_23) rfl rfl hr) ?_
  show Rch p.tables e below _ (T32.setTop (mkF m 24 #[.val (.ref lg), .val (.ref a), .unset] [(.ref a), (.ref lg)]))
  have f36 := ((f11.ext E13).wr W32)
  have f37 := ((f12.ext E13).other W32 (Or.inl ne3))
  show Rch p.tables e below _ (T32.setTop (mkF m 24 #[.val (.ref lg), .val (.ref a), .unset] [(.ref a), (.ref lg)]))
  refine own_kF X32 hx hZ (xi := Y_22) (y := Y_23) hown (own_w hw 43 rfl) (own_w hw 44 rfl) (mvT hZ (own_w hw 45 rfl)) (own_w hw 46 rfl) (own_w hw 47 rfl) (own_w hw 48 rfl) (own_w hw 49 rfl) (own_w hw 50 rfl) (own_w hw 2 rfl) (own_w hw 51 rfl) (by decide) (W := 1) (csize l Z a0 hw [] a (2 : Int32) h32 n0 f37) (by decide) (by decide) e32 f36 (by decide) (by decide)  (by rw [hml]; rfl) (argsL := []) (rest := [(.ref lg)]) (lenOf pd_11 rfl) rfl rfl (hb hby d7_24) rfl (fun _ T35 Lc35 X35 hQ35 => ?_)
  obtain ⟨rfl, N35q, e35⟩ := hQ35
  have N35 := Fr.app N32 N35q
  obtain ⟨T38, h38, k38, X38, e38, E38, A38, O38, st38⟩ := newR X35 hx hZ hown (own_w hw 54 rfl) (own_w hw 55 rfl) e35 (g := (mkF m 29 #[.val (.ref lg), .val (.ref a), .unset] [(.int (2 : Int32)), (.ref lg)])) rfl (hb hby d7_29) rfl (by decide) (cap := 2) (by decide) (by decide) (by decide) (by decide)
  obtain ⟨b38, g38⟩ : ∃ z, z = h32.size := ⟨_, rfl⟩
  rw [← g38] at A38 st38
  refine Rch.st st38 ?_
  have q38 : h32.size ≤ b38 := Nat.le_of_eq g38.symm
  have f39 := ((f14.ext E13).other W32 (Or.inr (slot_ne (Or.inr (own_w hw 59 rfl)) (Or.inr (own_w hw 57 rfl)) (by decide) (t := (.array (.object "java/math/BigDecimal"))) (t' := (.array (.object "java/math/BigDecimal"))) (by decide) (by decide))))
  have ne40 := Nat.ne_of_lt (Nat.lt_of_lt_of_le f39.lt q38)
  have f41 := ((f16.ext E13).other W32 (Or.inl ne3))
  have ne42 := Nat.ne_of_lt (Nat.lt_of_lt_of_le f41.lt q38)
  have f43 := ((f18.ext E13).other W32 ne4)
  have ne44 := Nat.ne_of_lt (Nat.lt_of_lt_of_le f43.lt q38)
  have f45 := ((f20.ext E13).other W32 (Or.inl ne5))
  have ne46 := Nat.ne_of_lt (Nat.lt_of_lt_of_le f45.lt q38)
  have f47 := ((f22.ext E13).wr W32)
  have ne48 := Nat.ne_of_lt (Nat.lt_of_lt_of_le f47.lt q38)
  have f49 := ((f24.ext E13).other W32 (Or.inl ne7))
  have ne50 := Nat.ne_of_lt (Nat.lt_of_lt_of_le f49.lt q38)
  have f51 := ((f26.ext E13).wr W32)
  have ne52 := Nat.ne_of_lt (Nat.lt_of_lt_of_le f51.lt q38)
  have f53 := (V13.other W32 (Ne.symm ne15))
  have ne54 := Nat.ne_of_lt (Nat.lt_of_lt_of_le f53.lt q38)
  have f55 := (f33.wr W32 zP5)
  have g_b38 : n0 ≤ b38 := Nat.le_trans (Nat.le_trans (Nat.le_of_eq f55.1.symm) f55.2.1) q38
  have sz_b38 : h0.size ≤ b38 := Nat.le_trans K34.1 q38
  have K56 := K34.ext E38
  have V38 : Arv Z h38 b38 k38 (.object "java/math/BigDecimal") (2 : Int32) [.null, .null] .null := (Arv.new A38 (by decide)).pad (pad_rep [] .null 2)
  have f57 := (f39.ext E38)
  have f58 := ((f31.wr W32).ext E38)
  obtain ⟨T59, h59, X59, e59, W59, st59⟩ := putF X38 hx hZ hown (host := "") (Or.inl (own_w hw 58 rfl)) Via.refl e38 f57 f58 (Or.inr ⟨(own_w hw 59 rfl), rfl, hnm⟩) (own_w hw 35 rfl) (ty := (.array (.object "java/math/BigDecimal"))) (by decide) rfl rfl (g := (mkF m 32 #[.val (.ref lg), .val (.ref a), .unset] [(.ref b38), (.ref lg)])) rfl rfl (hb hby d7_32)
  refine Rch.st st59 ?_
  have N59 := Fr.snoc X59 N35 zP5
  have f60 := (f55.ext E38)
  have K61 := K56.wr W59 (Or.inl (List.mem_of_getElem? (i := 0) rfl))
  have Fw59 := f57.same W59
  refine Rch.st (fun _ hr => XS.aloadN X59.here hx rfl (hb hby d7_35) rfl rfl hr) ?_
  have f62 := ((Fw32.ext E38).other W59 (Or.inr (slot_ne (Or.inr (own_w hw 57 rfl)) (Or.inr (own_w hw 59 rfl)) (by decide) (t := (.array (.object "java/math/BigDecimal"))) (t' := (.array (.object "java/math/BigDecimal"))) (by decide) (by decide))))
  obtain ⟨T63, X63, e63, st63⟩ := getF X59 hx hZ hown (host := "") (Or.inl (own_w hw 56 rfl)) Via.refl e59 f62 (g := (mkF m 36 #[.val (.ref lg), .val (.ref a), .unset] [(.ref lg)])) rfl rfl (hb hby d7_36)
  refine Rch.st st63 ?_
  have f64 := (f60.wr W59 zP5)
  obtain ⟨T65, X65, e65, st65⟩ := getS2 X63 hx hZ hown (host := "") (Or.inl (own_w hw 60 rfl)) Via.refl e63 (zD0.ext f64.2) (g := (mkF m 39 #[.val (.ref lg), .val (.ref a), .unset] [(.ref b13)])) rfl (hb hby d7_39)
  refine Rch.st st65 ?_
  show Rch p.tables e below _ (T65.setTop (mkF m 42 #[.val (.ref lg), .val (.ref a), .unset] [(.ref zz), (.ref b13)]))
  have f67 := ((f53.ext E38).other W59 (Ne.symm ne15))
  have f68 := O13
  show Rch p.tables e below _ (T65.setTop (mkF m 42 #[.val (.ref lg), .val (.ref a), .unset] [(.ref zz), (.ref b13)]))
  refine own_kS X65 hx hZ (y := Y_24) hown (own_w hw 61 rfl) (own_w hw 62 rfl) (own_w hw 63 rfl) (own_w hw 64 rfl) (by decide) (W := 0) (cfill2 l Z a0 hw [] b13 k13 zz h59 n0 f64 f67 f68 (zD1.1.ext f64.2) g_b13) (by decide) (by decide) e65 (by decide) (by decide)  (by rw [hml]; rfl) (argsL := [(.ref b13), (.ref zz)]) (rest := []) (lenOf pd_18 rfl) rfl rfl (hb hby d7_42) rfl (fun _ T66 Lc66 X66 hQ66 => ?_)
  obtain ⟨rfl, N66q, Kp66, Op66, R66_0⟩ := hQ66
  have N66 := Fr.app N59 N66q
  have K69 := K61.trans Kp66 (allS (Or.inr sz_b13) all0)
  refine Rch.st (fun _ hr => XS.iconst X66.here hx rfl (hb hby d7_45) hr) ?_
  refine Rch.st (fun _ hr => XS.istoreN X66.here hx rfl (hb hby d7_46) rfl (l' := #[.val (.ref lg), .val (.ref a), .val (.int (0 : Int32))]) rfl hr) ?_
  refine Rch.st (fun _ hr => XS.iloadN X66.here hx rfl (hb hby d7_47) rfl hr) ?_
  refine Rch.st (fun _ hr => XS.aloadN X66.here hx rfl (hb hby d7_48) rfl rfl hr) ?_
  have f70 := (Fw59.keep Kp66 (ninS ne15 nin0))
  obtain ⟨T71, X71, e71, st71⟩ := getF X66 hx hZ hown (host := "") (Or.inl (own_w hw 58 rfl)) Via.refl rfl f70 (g := (mkF m 49 #[.val (.ref lg), .val (.ref a), .val (.int (0 : Int32))] [(.ref lg), (.int (0 : Int32))])) rfl rfl (hb hby d7_49)
  refine Rch.st st71 ?_
  show Rch p.tables e below _ (T71.setTop (mkF m 52 #[.val (.ref lg), .val (.ref a), .val (.int (0 : Int32))] [(.ref b38), (.int (0 : Int32))]))
  have f72 := ((V38.other W59 (Ne.symm ne40)).keep Kp66 (ninS (Ne.symm ne54) nin0))
  obtain ⟨cl73, Ar73, -, Sz73, Ng73, -, -⟩ := id f72
  refine Rch.st (fun t hr => X71.arraylength hx (by rw [e71]; exact Ar73.1) (State.isArrayOf_alike hZ.alike Ar73.2.1) (g := (mkF m 52 #[.val (.ref lg), .val (.ref a), .val (.int (0 : Int32))] [(.ref b38), (.int (0 : Int32))])) rfl rfl (hb hby d7_52) t hr) ?_
  rw [len_of Sz73 Ng73]
  refine Rch.st (fun _ hr => XS.icmpNo X71.here hx rfl (hb hby d7_53) rfl (tlt (by decide : (0 : Int32) < (2 : Int32))).2.1 hr) ?_
  refine Rch.st (fun _ hr => XS.aloadN X71.here hx rfl (hb hby d7_56) rfl rfl hr) ?_
  obtain ⟨T74, X74, e74, st74⟩ := getF X71 hx hZ hown (host := "") (Or.inl (own_w hw 58 rfl)) Via.refl e71 f70 (g := (mkF m 57 #[.val (.ref lg), .val (.ref a), .val (.int (0 : Int32))] [(.ref lg)])) rfl rfl (hb hby d7_57)
  refine Rch.st st74 ?_
  refine Rch.st (fun _ hr => XS.iloadN X74.here hx rfl (hb hby d7_60) rfl hr) ?_
  refine Rch.st (fun _ hr => XS.aloadN X74.here hx rfl (hb hby d7_61) rfl rfl hr) ?_
  show Rch p.tables e below _ (T74.setTop (mkF m 62 #[.val (.ref lg), .val (.ref a), .val (.int (0 : Int32))] [(.ref a), (.int (0 : Int32)), (.ref b38)]))
  refine Rch.st (fun _ hr => XS.iloadN X74.here hx rfl (hb hby d7_62) rfl hr) ?_
  have f76 := (((f36.ext E38).wr W59).keep Kp66)
  have f77 := (((f41.ext E38).other W59 (Or.inl ne3)).keep Kp66 (ninS ne17 nin0))
  have f78 := (((f37.ext E38).other W59 (Or.inl ne3)).keep Kp66 (ninS ne17 nin0))
  have f79 := (((f43.ext E38).other W59 ne4).keep Kp66 (ninS ne19 nin0))
  show Rch p.tables e below _ (T74.setTop (mkF m 63 #[.val (.ref lg), .val (.ref a), .val (.int (0 : Int32))] [(.int (0 : Int32)), (.ref a), (.int (0 : Int32)), (.ref b38)]))
  refine own_kF X74 hx hZ (xi := Y_25) (y := Y_26) hown (own_w hw 166 rfl) (own_w hw 167 rfl) (mvT hZ (own_w hw 168 rfl)) (own_w hw 169 rfl) (own_w hw 170 rfl) (own_w hw 171 rfl) (own_w hw 172 rfl) (own_w hw 50 rfl) (own_w hw 2 rfl) (own_w hw 173 rfl) (by decide) (W := 2) (cget2_0 l Z a0 hw [] a d kd ea eb T66.heap n0 f76 f77 f78 f79) (by decide) (by decide) e74 f76 (by decide) (by decide)  (by rw [hml]; rfl) (argsL := [(.int (0 : Int32))]) (rest := [(.int (0 : Int32)), (.ref b38)]) (lenOf pd_17 rfl) rfl rfl (hb hby d7_63) rfl (fun _ T75 Lc75 X75 hQ75 => ?_)
  obtain ⟨rfl, N75q, e75⟩ := hQ75
  have N75 := Fr.app N66 N75q
  have f80 := ((((((zP10.wr W2).ext E13).wr W32).ext E38).wr W59).keep Kp66)
  obtain ⟨T81, X81, e81, st81⟩ := castY X75 hx hZ hown (own_w hw 187 rfl) e75 (Ins.self f80) (g := (mkF m 68 #[.val (.ref lg), .val (.ref a), .val (.int (0 : Int32))] [(.ref ea), (.int (0 : Int32)), (.ref b38)])) rfl rfl (hb hby d7_68)
  refine Rch.st st81 ?_
  have f83 := (((f45.ext E38).other W59 (Or.inl ne5)).keep Kp66 (ninS ne21 nin0))
  show Rch p.tables e below _ (T81.setTop (mkF m 71 #[.val (.ref lg), .val (.ref a), .val (.int (0 : Int32))] [(.ref ea), (.int (0 : Int32)), (.ref b38)]))
  refine own_kV X81 hx hZ (y := Y_27) (z := Y_27) hown (own_w hw 189 rfl) (own_w hw 190 rfl) (notFace_of_selects (args := #[]) (mvT hZ (own_w hw 192 rfl))) (own_w hw 192 rfl) (own_w hw 191 rfl) (own_w hw 112 rfl) (own_w hw 193 rfl) (by decide) (W := 2) (cbudget l Z a0 hw [] ea r0 T66.heap n0 f83) (by decide) (by decide) e81 f80 (by decide) (by decide)  (by rw [hml]; rfl) (argsL := []) (rest := [(.int (0 : Int32)), (.ref b38)]) (lenOf pd_19 rfl) rfl rfl (hb hby d7_71) rfl (fun _ T82 Lc82 X82 hQ82 => ?_)
  obtain ⟨rfl, N82q, e82⟩ := hQ82
  have N82 := Fr.app N75 N82q
  obtain ⟨cl84, Ar84, qk84, Sz84, Ng84, Ha84, Gf84⟩ := id f72
  have hin84 := inb_of (j := (0 : Int32)) Sz84 ⟨by decide, by decide⟩
  have f85 := (((f47.ext E38).wr W59).keep Kp66)
  obtain ⟨T86, h86, X86, e86, W86, st86⟩ := stR X82 hx hZ e82 Ar84 (j := (0 : Int32)) hin84 rfl (Sto.ofV Ar84 qk84 O38 (Ins.self f85)) (g := (mkF m 74 #[.val (.ref lg), .val (.ref a), .val (.int (0 : Int32))] [(.ref r0), (.int (0 : Int32)), (.ref b38)])) rfl rfl (hb hby d7_74)
  refine Rch.st st86 ?_
  have N86 := Fr.snoc X86 N82 g_b38
  have K87 := K69.wr W86 (Or.inr sz_b38)
  have V86 : Arv Z h86 b38 k38 (.object "java/math/BigDecimal") (2 : Int32) [(.ref r0), .null] .null := Arv.set Ar84 qk84 Sz84 Ng84 Ha84 Gf84 rfl W86 0 rfl (Nat.le_of_ble_eq_true rfl)
  refine Rch.st (fun _ hr => XS.iinc X86.here hx rfl (hb hby d7_75) rfl (l' := #[.val (.ref lg), .val (.ref a), .val (.int (1 : Int32))]) rfl hr) ?_
  show Rch p.tables e below _ (T86.setTop (mkF m 78 #[.val (.ref lg), .val (.ref a), .val (.int (1 : Int32))] []))
  refine Rch.st (fun _ hr => XS.goto X86.here hx rfl (pc0 := 78) (pc' := 47) rfl (hb hby d7_78) (by decide) (by decide) hr) ?_
  refine Rch.st (fun _ hr => XS.iloadN X86.here hx rfl (hb hby d7_47) rfl hr) ?_
  refine Rch.st (fun _ hr => XS.aloadN X86.here hx rfl (hb hby d7_48) rfl rfl hr) ?_
  have f88 := (f70.other W86 (Or.inl ne40))
  obtain ⟨T89, X89, e89, st89⟩ := getF X86 hx hZ hown (host := "") (Or.inl (own_w hw 58 rfl)) Via.refl e86 f88 (g := (mkF m 49 #[.val (.ref lg), .val (.ref a), .val (.int (1 : Int32))] [(.ref lg), (.int (1 : Int32))])) rfl rfl (hb hby d7_49)
  refine Rch.st st89 ?_
  obtain ⟨cl90, Ar90, -, Sz90, Ng90, -, -⟩ := id V86
  refine Rch.st (fun t hr => X89.arraylength hx (by rw [e89]; exact Ar90.1) (State.isArrayOf_alike hZ.alike Ar90.2.1) (g := (mkF m 52 #[.val (.ref lg), .val (.ref a), .val (.int (1 : Int32))] [(.ref b38), (.int (1 : Int32))])) rfl rfl (hb hby d7_52) t hr) ?_
  rw [len_of Sz90 Ng90]
  refine Rch.st (fun _ hr => XS.icmpNo X89.here hx rfl (hb hby d7_53) rfl (tlt (by decide : (1 : Int32) < (2 : Int32))).2.1 hr) ?_
  show Rch p.tables e below _ (T89.setTop (mkF m 56 #[.val (.ref lg), .val (.ref a), .val (.int (1 : Int32))] []))
  refine Rch.st (fun _ hr => XS.aloadN X89.here hx rfl (hb hby d7_56) rfl rfl hr) ?_
  obtain ⟨T91, X91, e91, st91⟩ := getF X89 hx hZ hown (host := "") (Or.inl (own_w hw 58 rfl)) Via.refl e89 f88 (g := (mkF m 57 #[.val (.ref lg), .val (.ref a), .val (.int (1 : Int32))] [(.ref lg)])) rfl rfl (hb hby d7_57)
  refine Rch.st st91 ?_
  refine Rch.st (fun _ hr => XS.iloadN X91.here hx rfl (hb hby d7_60) rfl hr) ?_
  refine Rch.st (fun _ hr => XS.aloadN X91.here hx rfl (hb hby d7_61) rfl rfl hr) ?_
  refine Rch.st (fun _ hr => XS.iloadN X91.here hx rfl (hb hby d7_62) rfl hr) ?_
  have f93 := (f76.wr W86)
  have f94 := (f77.other W86 (Or.inl ne42))
  have f95 := (f78.other W86 (Or.inl ne42))
  have f96 := (f79.other W86 ne44)
  show Rch p.tables e below _ (T91.setTop (mkF m 63 #[.val (.ref lg), .val (.ref a), .val (.int (1 : Int32))] [(.int (1 : Int32)), (.ref a), (.int (1 : Int32)), (.ref b38)]))
  refine own_kF X91 hx hZ (xi := Y_25) (y := Y_26) hown (own_w hw 166 rfl) (own_w hw 167 rfl) (mvT hZ (own_w hw 168 rfl)) (own_w hw 169 rfl) (own_w hw 170 rfl) (own_w hw 171 rfl) (own_w hw 172 rfl) (own_w hw 50 rfl) (own_w hw 2 rfl) (own_w hw 173 rfl) (by decide) (W := 2) (cget2_1 l Z a0 hw [] a d kd ea eb h86 n0 f93 f94 f95 f96) (by decide) (by decide) e91 f93 (by decide) (by decide)  (by rw [hml]; rfl) (argsL := [(.int (1 : Int32))]) (rest := [(.int (1 : Int32)), (.ref b38)]) (lenOf pd_17 rfl) rfl rfl (hb hby d7_63) rfl (fun _ T92 Lc92 X92 hQ92 => ?_)
  obtain ⟨rfl, N92q, e92⟩ := hQ92
  have N92 := Fr.app N86 N92q
  show Rch p.tables e below _ (T92.setTop (mkF m 68 #[.val (.ref lg), .val (.ref a), .val (.int (1 : Int32))] [(.ref eb), (.int (1 : Int32)), (.ref b38)]))
  have f97 := (((((((zP13.wr W2).ext E13).wr W32).ext E38).wr W59).keep Kp66).wr W86)
  obtain ⟨T98, X98, e98, st98⟩ := castY X92 hx hZ hown (own_w hw 187 rfl) e92 (Ins.self f97) (g := (mkF m 68 #[.val (.ref lg), .val (.ref a), .val (.int (1 : Int32))] [(.ref eb), (.int (1 : Int32)), (.ref b38)])) rfl rfl (hb hby d7_68)
  refine Rch.st st98 ?_
  have f100 := ((((f49.ext E38).other W59 (Or.inl ne7)).keep Kp66 (ninS ne25 nin0)).other W86 (Or.inl ne50))
  show Rch p.tables e below _ (T98.setTop (mkF m 71 #[.val (.ref lg), .val (.ref a), .val (.int (1 : Int32))] [(.ref eb), (.int (1 : Int32)), (.ref b38)]))
  refine own_kV X98 hx hZ (y := Y_27) (z := Y_27) hown (own_w hw 189 rfl) (own_w hw 190 rfl) (notFace_of_selects (args := #[]) (mvT hZ (own_w hw 192 rfl))) (own_w hw 192 rfl) (own_w hw 191 rfl) (own_w hw 112 rfl) (own_w hw 193 rfl) (by decide) (W := 2) (cbudget l Z a0 hw [] eb r1 h86 n0 f100) (by decide) (by decide) e98 f97 (by decide) (by decide)  (by rw [hml]; rfl) (argsL := []) (rest := [(.int (1 : Int32)), (.ref b38)]) (lenOf pd_19 rfl) rfl rfl (hb hby d7_71) rfl (fun _ T99 Lc99 X99 hQ99 => ?_)
  obtain ⟨rfl, N99q, e99⟩ := hQ99
  have N99 := Fr.app N92 N99q
  obtain ⟨cl101, Ar101, qk101, Sz101, Ng101, Ha101, Gf101⟩ := id V86
  have hin101 := inb_of (j := (1 : Int32)) Sz101 ⟨by decide, by decide⟩
  have f102 := ((((f51.ext E38).wr W59).keep Kp66).wr W86)
  obtain ⟨T103, h103, X103, e103, W103, st103⟩ := stR X99 hx hZ e99 Ar101 (j := (1 : Int32)) hin101 rfl (Sto.ofV Ar101 qk101 O38 (Ins.self f102)) (g := (mkF m 74 #[.val (.ref lg), .val (.ref a), .val (.int (1 : Int32))] [(.ref r1), (.int (1 : Int32)), (.ref b38)])) rfl rfl (hb hby d7_74)
  refine Rch.st st103 ?_
  have N103 := Fr.snoc X103 N99 g_b38
  have f104 := (Op66.wr W86 g_b38)
  have K105 := K87.wr W103 (Or.inr sz_b38)
  have V103 : Arv Z h103 b38 k38 (.object "java/math/BigDecimal") (2 : Int32) [(.ref r0), (.ref r1)] .null := Arv.set Ar101 qk101 Sz101 Ng101 Ha101 Gf101 rfl W103 1 rfl (Nat.le_of_ble_eq_true rfl)
  refine Rch.st (fun _ hr => XS.iinc X103.here hx rfl (hb hby d7_75) rfl (l' := #[.val (.ref lg), .val (.ref a), .val (.int (2 : Int32))]) rfl hr) ?_
  refine Rch.st (fun _ hr => XS.goto X103.here hx rfl (pc0 := 78) (pc' := 47) rfl (hb hby d7_78) (by decide) (by decide) hr) ?_
  refine Rch.st (fun _ hr => XS.iloadN X103.here hx rfl (hb hby d7_47) rfl hr) ?_
  show Rch p.tables e below _ (T103.setTop (mkF m 48 #[.val (.ref lg), .val (.ref a), .val (.int (2 : Int32))] [(.int (2 : Int32))]))
  refine Rch.st (fun _ hr => XS.aloadN X103.here hx rfl (hb hby d7_48) rfl rfl hr) ?_
  have f106 := (f88.other W103 (Or.inl ne40))
  obtain ⟨T107, X107, e107, st107⟩ := getF X103 hx hZ hown (host := "") (Or.inl (own_w hw 58 rfl)) Via.refl e103 f106 (g := (mkF m 49 #[.val (.ref lg), .val (.ref a), .val (.int (2 : Int32))] [(.ref lg), (.int (2 : Int32))])) rfl rfl (hb hby d7_49)
  refine Rch.st st107 ?_
  obtain ⟨cl108, Ar108, -, Sz108, Ng108, -, -⟩ := id V103
  refine Rch.st (fun t hr => X107.arraylength hx (by rw [e107]; exact Ar108.1) (State.isArrayOf_alike hZ.alike Ar108.2.1) (g := (mkF m 52 #[.val (.ref lg), .val (.ref a), .val (.int (2 : Int32))] [(.ref b38), (.int (2 : Int32))])) rfl rfl (hb hby d7_52) t hr) ?_
  rw [len_of Sz108 Ng108]
  refine Rch.st (fun _ hr => XS.icmpYes X107.here hx rfl (pc0 := 53) (pc' := 81) rfl (hb hby d7_53) rfl (flt (by decide : ¬ ((2 : Int32) < (2 : Int32)))).2.1 (by decide) (by decide) hr) ?_
  obtain ⟨fs, hr, hrun, hended, hW, hsame⟩ := X107.leave (v := none) (fun _ => rfl)
  have f109 := (f104.wr W103 g_b38)
  have f110 := ((((f58.wr W59).keep Kp66).wr W86).wr W103)
  have f111 := (((f62.keep Kp66 (ninS ne15 nin0)).other W86 (Or.inl ne40)).other W103 (Or.inl ne40))
  have f112 := ((R66_0.other W86 ne54).other W103 ne54)
  have f113 := f68
  have f114 := O38
  refine Rch.fin (u := T107.setFrames fs) (X107.returnOut hx Bd.returns (hb hby d7_81) hr) ⟨_, hrun, hended, _, _, rfl, ?_, ⟨_, rfl⟩, hW, hsame.mono (by decide) (by decide)⟩
  show Q_cledger2 Z lg a d kd ea eb r0 r1 zz h0 n0 _ T107.heap _
  rw [e107]
  exact ⟨b13, k13, b38, k38, rfl, N103, K105, f109, f110, f111, f106, sz_b13, sz_b38, f112, V103, f113, f114, ne54⟩
abbrev Rm_crev2 : Room := { frames := 8, cells := 2, slots := 10, locals := 123 }
def Q_crev2 (Z : State) (lg : Addr) (sp : Addr) (ks : ClassId) (s0 : Addr) (s1 : Addr) (x0 : Int64) (x1 : Int64) (sc : Int32) (kb : Int) (wz : Addr) (wy : Addr) (zz : Addr) (h0 : Heap) (n0 : Nat) (v : Option Value) (h : Heap) (L : List Loc) : Prop := ∃ (r : Addr), v = some (.ref r) ∧ Fr n0 L ∧ Keep h0 h [] ∧ Old Z n0 h ∧ BE Z h r (((0 : Int64) + x0) + x1) sc ((kb + kb) + kb)
theorem ef_crev2 (m : MethodId) (lg : Addr) (sp : Addr) (ks : ClassId) (s0 : Addr) (s1 : Addr) (x0 : Int64) (x1 : Int64) (sc : Int32) (kb : Int) (wz : Addr) (wy : Addr) (zz : Addr) : entryFrame m #[(.ref lg)] 6 = mkF m 0 #[.val (.ref lg), .unset, .unset, .unset, .unset, .unset] [] := by first | (simp [entryFrame, mkF, argsToLocals, Value.category]; done) | rfl
set_option maxRecDepth 65536 in
set_option maxHeartbeats 40000000 in
theorem crev2 (l : Launch) (Z : State) (a0 : Array Value) (hw : ∀ d ∈ tables_1, d.before a0 Z = true) (ws : List Jvm.Cond) (lg : Addr) (sp : Addr) (ks : ClassId) (s0 : Addr) (s1 : Addr) (x0 : Int64) (x1 : Int64) (sc : Int32) (kb : Int) (wz : Addr) (wy : Addr) (zz : Addr) (h0 : Heap) (n0 : Nat) (zD0 : Sta Z Z.heap "java/math/BigDecimal" "ZERO_THROUGH_TEN" "[Ljava/math/BigDecimal;" (.ref wz)) (zD1 : ZTab Z Z.heap wz) (zD2 : Sta Z Z.heap "java/math/BigDecimal" "ZERO_SCALED_BY" "[Ljava/math/BigDecimal;" (.ref wy)) (zD3 : STab Z Z.heap wy) (zD4 : Sta Z Z.heap "java/math/BigDecimal" "ZERO" "Ljava/math/BigDecimal;" (.ref zz)) (zD5 : BDc Z Z.heap zz (0 : Int64) (0 : Int32)) (zP0 : Old Z n0 h0) (zP1 : Fld Z h0 lg "com/example/slotwright/slotwright/Ledger" "spent" "[Ljava/math/BigDecimal;" (.ref sp)) (zP2 : Arv Z h0 sp ks (.object "java/math/BigDecimal") (2 : Int32) [(.ref s0), (.ref s1)] .null) (zP3 : BE Z h0 s0 x0 sc kb) (zP4 : BE Z h0 s1 x1 sc kb) (hs : own_S sc) (h0k : 0 ≤ kb) (hk : kb ≤ 100) :
    MetFree l (⟨"com/example/slotwright/slotwright/Ledger", "revenue", "()Ljava/math/BigDecimal;"⟩ : MethodName) (head1 (Jvm.Cond.code (⟨"com/example/slotwright/slotwright/Ledger", "revenue", "()Ljava/math/BigDecimal;"⟩ : MethodName) prog_23_method_8_code 6 (some (.object "java/math/BigDecimal")) :: ws) Rm_crev2) (fun aA uU => aA = #[(.ref lg)] ∧ Z.Warmed39 uU.vm ∧ uU.heap = h0) (fun _ _ _ _ _ => True) (fun _ uU oO uU' => ∃ vV lL, oO = .returned vV ∧ Q_crev2 Z lg sp ks s0 s1 x0 x1 sc kb wz wy zz h0 n0 vV uU'.heap lL ∧ FrameEnd uU oO uU' lL Rm_crev2.cells Rm_crev2.slots) := by
  refine MetFree.of_bodySF (plainFor_of_name pn_com_example_slotwright_slotwright_Ledger) hisR ?_
  intro p e s m args below meth c s₁ Bd hml0 hP hK
  obtain ⟨rfl, hZ, hh⟩ := hP
  have hx := Bd.exec
  have hby := Bd.bytes
  have hml : c.maxLocals = 6 := hml0
  have hown : s.vm.findClass "com/example/slotwright/slotwright/Ledger" = some m.cls := findClass_of_methodNamed Bd.named
  have hnm := (name_of_methodNamed Bd.named Bd.method).1
  have X0 : Stand p l e Rm_crev2 s m #[(.ref lg)] below meth c s₁ [] 0 0 := Stand.of_body Bd
  have e0 : s₁.heap = h0 := by rw [← hh, Bd.state]; rfl
  have N0 := Fr.nil n0
  refine Rch.out (Rch.st (fun t k => castTop (ef_crev2 m lg sp ks s0 s1 x0 x1 sc kb wz wy zz) k) ?_)
  show Rch p.tables e below _ (s₁.setTop (mkF m 0 #[.val (.ref lg), .unset, .unset, .unset, .unset, .unset] []))
  have Bzz : BE Z h0 zz (0 : Int64) sc kb := BE.zero (zD5.ext zP0.2) h0k
  obtain ⟨T1, X1, e1, st1⟩ := getS2 X0 hx hZ hown (host := "") (Or.inl (own_w hw 60 rfl)) Via.refl e0 (zD4.ext zP0.2) (g := (mkF m 0 #[.val (.ref lg), .unset, .unset, .unset, .unset, .unset] [])) rfl (hb hby d10_0)
  refine Rch.st st1 ?_
  refine Rch.st (fun _ hr => XS.astoreN X1.here hx rfl (hb hby d10_3) rfl rfl (l' := #[.val (.ref lg), .val (.ref zz), .unset, .unset, .unset, .unset]) rfl hr) ?_
  refine Rch.st (fun _ hr => XS.aloadN X1.here hx rfl (hb hby d10_4) rfl rfl hr) ?_
  obtain ⟨T2, X2, e2, st2⟩ := getF X1 hx hZ hown (host := "") (Or.inl (own_w hw 56 rfl)) Via.refl e1 zP1 (g := (mkF m 5 #[.val (.ref lg), .val (.ref zz), .unset, .unset, .unset, .unset] [(.ref lg)])) rfl rfl (hb hby d10_5)
  refine Rch.st st2 ?_
  refine Rch.st (fun _ hr => XS.astoreN X2.here hx rfl (hb hby d10_8) rfl rfl (l' := #[.val (.ref lg), .val (.ref zz), .val (.ref sp), .unset, .unset, .unset]) rfl hr) ?_
  refine Rch.st (fun _ hr => XS.aloadN X2.here hx rfl (hb hby d10_9) rfl rfl hr) ?_
  show Rch p.tables e below _ (T2.setTop (mkF m 10 #[.val (.ref lg), .val (.ref zz), .val (.ref sp), .unset, .unset, .unset] [(.ref sp)]))
  obtain ⟨cl3, Ar3, -, Sz3, Ng3, -, -⟩ := id zP2
  refine Rch.st (fun t hr => X2.arraylength hx (by rw [e2]; exact Ar3.1) (State.isArrayOf_alike hZ.alike Ar3.2.1) (g := (mkF m 10 #[.val (.ref lg), .val (.ref zz), .val (.ref sp), .unset, .unset, .unset] [(.ref sp)])) rfl rfl (hb hby d10_10) t hr) ?_
  rw [len_of Sz3 Ng3]
  refine Rch.st (fun _ hr => XS.istoreN X2.here hx rfl (hb hby d10_11) rfl (l' := #[.val (.ref lg), .val (.ref zz), .val (.ref sp), .val (.int (2 : Int32)), .unset, .unset]) rfl hr) ?_
  refine Rch.st (fun _ hr => XS.iconst X2.here hx rfl (hb hby d10_12) hr) ?_
  refine Rch.st (fun _ hr => XS.istore X2.here hx rfl (hb hby d10_13) rfl (l' := #[.val (.ref lg), .val (.ref zz), .val (.ref sp), .val (.int (2 : Int32)), .val (.int (0 : Int32)), .unset]) rfl hr) ?_
  refine Rch.st (fun _ hr => XS.iload X2.here hx rfl (hb hby d10_15) rfl hr) ?_
  refine Rch.st (fun _ hr => XS.iloadN X2.here hx rfl (hb hby d10_17) rfl hr) ?_
  show Rch p.tables e below _ (T2.setTop (mkF m 18 #[.val (.ref lg), .val (.ref zz), .val (.ref sp), .val (.int (2 : Int32)), .val (.int (0 : Int32)), .unset] [(.int (2 : Int32)), (.int (0 : Int32))]))
  refine Rch.st (fun _ hr => XS.icmpNo X2.here hx rfl (hb hby d10_18) rfl (tlt (by decide : (0 : Int32) < (2 : Int32))).2.1 hr) ?_
  refine Rch.st (fun _ hr => XS.aloadN X2.here hx rfl (hb hby d10_21) rfl rfl hr) ?_
  refine Rch.st (fun _ hr => XS.iload X2.here hx rfl (hb hby d10_22) rfl hr) ?_
  obtain ⟨cl4, Ar4, -, Sz4, Ng4, Ha4, -⟩ := id zP2
  have hin4 := inb_of (j := (0 : Int32)) Sz4 ⟨by decide, by decide⟩
  have hat4 := Ha4.at hin4 (v := (.ref s0)) rfl
  refine Rch.st (fun t hr => X2.aaload hx (j := (0 : Int32)) (v := (.ref s0)) (by rw [e2]; exact Ar4.1) (State.isArrayOf_alike hZ.alike Ar4.2.1) rfl Ar4.2.2 hin4 hat4 (g := (mkF m 24 #[.val (.ref lg), .val (.ref zz), .val (.ref sp), .val (.int (2 : Int32)), .val (.int (0 : Int32)), .unset] [(.int (0 : Int32)), (.ref sp)])) rfl rfl (hb hby d10_24) t hr) ?_
  refine Rch.st (fun _ hr => XS.astore X2.here hx rfl (hb hby d10_25) rfl rfl (l' := #[.val (.ref lg), .val (.ref zz), .val (.ref sp), .val (.int (2 : Int32)), .val (.int (0 : Int32)), .val (.ref s0)]) rfl hr) ?_
  refine Rch.st (fun _ hr => XS.aloadN X2.here hx rfl (hb hby d10_27) rfl rfl hr) ?_
  show Rch p.tables e below _ (T2.setTop (mkF m 28 #[.val (.ref lg), .val (.ref zz), .val (.ref sp), .val (.int (2 : Int32)), .val (.int (0 : Int32)), .val (.ref s0)] [(.ref zz)]))
  refine Rch.st (fun _ hr => XS.aload X2.here hx rfl (hb hby d10_28) rfl rfl hr) ?_
  show Rch p.tables e below _ (T2.setTop (mkF m 30 #[.val (.ref lg), .val (.ref zz), .val (.ref sp), .val (.int (2 : Int32)), .val (.int (0 : Int32)), .val (.ref s0)] [(.ref s0), (.ref zz)]))
  refine own_kV X2 hx hZ (y := Y_28) (z := Y_28) hown (own_w hw 194 rfl) (own_w hw 195 rfl) (notFace_of_selects (args := #[]) (mvT hZ (own_w hw 197 rfl))) (own_w hw 197 rfl) (own_w hw 196 rfl) (own_w hw 28 rfl) (own_w hw 198 rfl) (by decide) (W := 0) (cadds l Z a0 hw [] zz s0 (0 : Int64) x0 sc kb kb wz wy h0 n0 zD0 zD1 zD2 zD3 zP0 Bzz zP3 hs (by omega)) (by decide) (by decide) e2 (zD5.1.ext zP0.2) (by decide) (by decide)  (by rw [hml]; rfl) (argsL := [(.ref s0)]) (rest := []) (lenOf pd_20 rfl) rfl rfl (hb hby d10_30) rfl (fun _ T5 Lc5 X5 hQ5 => ?_)
  obtain ⟨r_5, rfl, N5q, Kp5, Op5, R5_0⟩ := hQ5
  have N5 := Fr.app N0 N5q
  have K6 := (Keep.refl h0 []).trans Kp5 all0
  refine Rch.st (fun _ hr => XS.astoreN X5.here hx rfl (hb hby d10_33) rfl rfl (l' := #[.val (.ref lg), .val (.ref r_5), .val (.ref sp), .val (.int (2 : Int32)), .val (.int (0 : Int32)), .val (.ref s0)]) rfl hr) ?_
  refine Rch.st (fun _ hr => XS.iinc X5.here hx rfl (hb hby d10_34) rfl (l' := #[.val (.ref lg), .val (.ref r_5), .val (.ref sp), .val (.int (2 : Int32)), .val (.int (1 : Int32)), .val (.ref s0)]) rfl hr) ?_
  refine Rch.st (fun _ hr => XS.goto X5.here hx rfl (pc0 := 37) (pc' := 15) rfl (hb hby d10_37) (by decide) (by decide) hr) ?_
  refine Rch.st (fun _ hr => XS.iload X5.here hx rfl (hb hby d10_15) rfl hr) ?_
  show Rch p.tables e below _ (T5.setTop (mkF m 17 #[.val (.ref lg), .val (.ref r_5), .val (.ref sp), .val (.int (2 : Int32)), .val (.int (1 : Int32)), .val (.ref s0)] [(.int (1 : Int32))]))
  refine Rch.st (fun _ hr => XS.iloadN X5.here hx rfl (hb hby d10_17) rfl hr) ?_
  refine Rch.st (fun _ hr => XS.icmpNo X5.here hx rfl (hb hby d10_18) rfl (tlt (by decide : (1 : Int32) < (2 : Int32))).2.1 hr) ?_
  refine Rch.st (fun _ hr => XS.aloadN X5.here hx rfl (hb hby d10_21) rfl rfl hr) ?_
  refine Rch.st (fun _ hr => XS.iload X5.here hx rfl (hb hby d10_22) rfl hr) ?_
  have f7 := (zP2.keep Kp5 nin0)
  obtain ⟨cl8, Ar8, -, Sz8, Ng8, Ha8, -⟩ := id f7
  have hin8 := inb_of (j := (1 : Int32)) Sz8 ⟨by decide, by decide⟩
  have hat8 := Ha8.at hin8 (v := (.ref s1)) rfl
  refine Rch.st (fun t hr => X5.aaload hx (j := (1 : Int32)) (v := (.ref s1)) Ar8.1 (State.isArrayOf_alike hZ.alike Ar8.2.1) rfl Ar8.2.2 hin8 hat8 (g := (mkF m 24 #[.val (.ref lg), .val (.ref r_5), .val (.ref sp), .val (.int (2 : Int32)), .val (.int (1 : Int32)), .val (.ref s0)] [(.int (1 : Int32)), (.ref sp)])) rfl rfl (hb hby d10_24) t hr) ?_
  refine Rch.st (fun _ hr => XS.astore X5.here hx rfl (hb hby d10_25) rfl rfl (l' := #[.val (.ref lg), .val (.ref r_5), .val (.ref sp), .val (.int (2 : Int32)), .val (.int (1 : Int32)), .val (.ref s1)]) rfl hr) ?_
  show Rch p.tables e below _ (T5.setTop (mkF m 27 #[.val (.ref lg), .val (.ref r_5), .val (.ref sp), .val (.int (2 : Int32)), .val (.int (1 : Int32)), .val (.ref s1)] []))
  refine Rch.st (fun _ hr => XS.aloadN X5.here hx rfl (hb hby d10_27) rfl rfl hr) ?_
  refine Rch.st (fun _ hr => XS.aload X5.here hx rfl (hb hby d10_28) rfl rfl hr) ?_
  have f10 := (zP4.keep Kp5 nin0)
  show Rch p.tables e below _ (T5.setTop (mkF m 30 #[.val (.ref lg), .val (.ref r_5), .val (.ref sp), .val (.int (2 : Int32)), .val (.int (1 : Int32)), .val (.ref s1)] [(.ref s1), (.ref r_5)]))
  refine own_kV X5 hx hZ (y := Y_28) (z := Y_28) hown (own_w hw 194 rfl) (own_w hw 195 rfl) (notFace_of_selects (args := #[]) (mvT hZ (own_w hw 197 rfl))) (own_w hw 197 rfl) (own_w hw 196 rfl) (own_w hw 28 rfl) (own_w hw 198 rfl) (by decide) (W := 0) (cadds l Z a0 hw [] r_5 s1 ((0 : Int64) + x0) x1 sc (kb + kb) kb wz wy T5.heap n0 zD0 zD1 zD2 zD3 Op5 R5_0 f10 hs (by omega)) (by decide) (by decide) rfl R5_0.1 (by decide) (by decide)  (by rw [hml]; rfl) (argsL := [(.ref s1)]) (rest := []) (lenOf pd_20 rfl) rfl rfl (hb hby d10_30) rfl (fun _ T9 Lc9 X9 hQ9 => ?_)
  obtain ⟨r_9, rfl, N9q, Kp9, Op9, R9_0⟩ := hQ9
  have N9 := Fr.app N5 N9q
  have K11 := K6.trans Kp9 all0
  refine Rch.st (fun _ hr => XS.astoreN X9.here hx rfl (hb hby d10_33) rfl rfl (l' := #[.val (.ref lg), .val (.ref r_9), .val (.ref sp), .val (.int (2 : Int32)), .val (.int (1 : Int32)), .val (.ref s1)]) rfl hr) ?_
  refine Rch.st (fun _ hr => XS.iinc X9.here hx rfl (hb hby d10_34) rfl (l' := #[.val (.ref lg), .val (.ref r_9), .val (.ref sp), .val (.int (2 : Int32)), .val (.int (2 : Int32)), .val (.ref s1)]) rfl hr) ?_
  refine Rch.st (fun _ hr => XS.goto X9.here hx rfl (pc0 := 37) (pc' := 15) rfl (hb hby d10_37) (by decide) (by decide) hr) ?_
  show Rch p.tables e below _ (T9.setTop (mkF m 15 #[.val (.ref lg), .val (.ref r_9), .val (.ref sp), .val (.int (2 : Int32)), .val (.int (2 : Int32)), .val (.ref s1)] []))
  refine Rch.st (fun _ hr => XS.iload X9.here hx rfl (hb hby d10_15) rfl hr) ?_
  refine Rch.st (fun _ hr => XS.iloadN X9.here hx rfl (hb hby d10_17) rfl hr) ?_
  refine Rch.st (fun _ hr => XS.icmpYes X9.here hx rfl (pc0 := 18) (pc' := 40) rfl (hb hby d10_18) rfl (flt (by decide : ¬ ((2 : Int32) < (2 : Int32)))).2.1 (by decide) (by decide) hr) ?_
  refine Rch.st (fun _ hr => XS.aloadN X9.here hx rfl (hb hby d10_40) rfl rfl hr) ?_
  obtain ⟨fs, hr, hrun, hended, hW, hsame⟩ := X9.leave (v := some (.ref r_9)) (fun h => by rw [Bd.returns] at h; cases h)
  refine Rch.fin (u := T9.setFrames fs) (own_retA X9 hx Bd.returns rfl rfl rfl (hb hby d10_41) hr) ⟨_, hrun, hended, _, _, rfl, ?_, ⟨_, rfl⟩, hW, hsame.mono (by decide) (by decide)⟩
  show Q_crev2 Z lg sp ks s0 s1 x0 x1 sc kb wz wy zz h0 n0 _ T9.heap _
  exact ⟨r_9, rfl, N9, K11, Op9, R9_0⟩
abbrev Rm_ccharge2_0 : Room := { frames := 8, cells := 2, slots := 10, locals := 125 }
def Q_ccharge2_0 (Z : State) (lg : Addr) (c0 : Addr) (sp : Addr) (ks : ClassId) (rm : Addr) (kr : ClassId) (s0 : Addr) (s1 : Addr) (r0 : Addr) (r1 : Addr) (x0 : Int64) (x1 : Int64) (w0 : Int64) (w1 : Int64) (xc : Int64) (sc : Int32) (kb : Int) (wz : Addr) (wy : Addr) (h0 : Heap) (n0 : Nat) (v : Option Value) (h : Heap) (L : List Loc) : Prop := ∃ (t0 : Addr) (t1 : Addr) (u0 : Addr) (u1 : Addr) (y0 : Int64) (y1 : Int64) (v0 : Int64) (v1 : Int64), v = none ∧ Fr n0 L ∧ Keep h0 h [sp, rm] ∧ Old Z n0 h ∧ Arv Z h sp ks (.object "java/math/BigDecimal") (2 : Int32) [(.ref t0), (.ref t1)] .null ∧ Arv Z h rm kr (.object "java/math/BigDecimal") (2 : Int32) [(.ref u0), (.ref u1)] .null ∧ BE Z h t0 y0 sc (kb + (1 : Int)) ∧ BE Z h t1 y1 sc (kb + (1 : Int)) ∧ BE Z h u0 v0 sc (kb + (1 : Int)) ∧ BE Z h u1 v1 sc (kb + (1 : Int)) ∧ (((0 : Int64) + y0) + y1) = ((((0 : Int64) + x0) + x1) + xc)
theorem ef_ccharge2_0 (m : MethodId) (lg : Addr) (c0 : Addr) (sp : Addr) (ks : ClassId) (rm : Addr) (kr : ClassId) (s0 : Addr) (s1 : Addr) (r0 : Addr) (r1 : Addr) (x0 : Int64) (x1 : Int64) (w0 : Int64) (w1 : Int64) (xc : Int64) (sc : Int32) (kb : Int) (wz : Addr) (wy : Addr) : entryFrame m #[(.ref lg), (.int (0 : Int32)), (.ref c0)] 3 = mkF m 0 #[.val (.ref lg), .val (.int (0 : Int32)), .val (.ref c0)] [] := by first | (simp [entryFrame, mkF, argsToLocals, Value.category]; done) | rfl
set_option maxRecDepth 65536 in
set_option maxHeartbeats 40000000 in
theorem ccharge2_0 (l : Launch) (Z : State) (a0 : Array Value) (hw : ∀ d ∈ tables_1, d.before a0 Z = true) (ws : List Jvm.Cond) (lg : Addr) (c0 : Addr) (sp : Addr) (ks : ClassId) (rm : Addr) (kr : ClassId) (s0 : Addr) (s1 : Addr) (r0 : Addr) (r1 : Addr) (x0 : Int64) (x1 : Int64) (w0 : Int64) (w1 : Int64) (xc : Int64) (sc : Int32) (kb : Int) (wz : Addr) (wy : Addr) (h0 : Heap) (n0 : Nat) (zD0 : Sta Z Z.heap "java/math/BigDecimal" "ZERO_THROUGH_TEN" "[Ljava/math/BigDecimal;" (.ref wz)) (zD1 : ZTab Z Z.heap wz) (zD2 : Sta Z Z.heap "java/math/BigDecimal" "ZERO_SCALED_BY" "[Ljava/math/BigDecimal;" (.ref wy)) (zD3 : STab Z Z.heap wy) (zP0 : Old Z n0 h0) (zP1 : Exa Z h0 lg "com/example/slotwright/slotwright/Ledger") (zP2 : Fld Z h0 lg "com/example/slotwright/slotwright/Ledger" "spent" "[Ljava/math/BigDecimal;" (.ref sp)) (zP3 : Fld Z h0 lg "com/example/slotwright/slotwright/Ledger" "remaining" "[Ljava/math/BigDecimal;" (.ref rm)) (zP4 : Arv Z h0 sp ks (.object "java/math/BigDecimal") (2 : Int32) [(.ref s0), (.ref s1)] .null) (zP5 : Arv Z h0 rm kr (.object "java/math/BigDecimal") (2 : Int32) [(.ref r0), (.ref r1)] .null) (zP6 : Ovr Z ks "java/math/BigDecimal") (zP7 : Ovr Z kr "java/math/BigDecimal") (zP8 : BE Z h0 s0 x0 sc kb) (zP9 : BE Z h0 s1 x1 sc kb) (zP10 : BE Z h0 r0 w0 sc kb) (zP11 : BE Z h0 r1 w1 sc kb) (zP12 : BE Z h0 c0 xc sc (1 : Int)) (zP13 : n0 ≤ sp) (zP14 : n0 ≤ rm) (zP15 : sp ≠ rm) (hs : own_S sc) (hk : kb ≤ 100) :
    MetFree l (⟨"com/example/slotwright/slotwright/Ledger", "charge", "(ILjava/math/BigDecimal;)V"⟩ : MethodName) (head1 (Jvm.Cond.code (⟨"com/example/slotwright/slotwright/Ledger", "charge", "(ILjava/math/BigDecimal;)V"⟩ : MethodName) prog_23_method_3_code 3 none :: ws) Rm_ccharge2_0) (fun aA uU => aA = #[(.ref lg), (.int (0 : Int32)), (.ref c0)] ∧ Z.Warmed39 uU.vm ∧ uU.heap = h0) (fun _ _ _ _ _ => True) (fun _ uU oO uU' => ∃ vV lL, oO = .returned vV ∧ Q_ccharge2_0 Z lg c0 sp ks rm kr s0 s1 r0 r1 x0 x1 w0 w1 xc sc kb wz wy h0 n0 vV uU'.heap lL ∧ FrameEnd uU oO uU' lL Rm_ccharge2_0.cells Rm_ccharge2_0.slots) := by
  refine MetFree.of_bodySF (plainFor_of_name pn_com_example_slotwright_slotwright_Ledger) hisR ?_
  intro p e s m args below meth c s₁ Bd hml0 hP hK
  obtain ⟨rfl, hZ, hh⟩ := hP
  have hx := Bd.exec
  have hby := Bd.bytes
  have hml : c.maxLocals = 3 := hml0
  have hown : s.vm.findClass "com/example/slotwright/slotwright/Ledger" = some m.cls := findClass_of_methodNamed Bd.named
  have hnm := (name_of_methodNamed Bd.named Bd.method).1
  have X0 : Stand p l e Rm_ccharge2_0 s m #[(.ref lg), (.int (0 : Int32)), (.ref c0)] below meth c s₁ [] 0 0 := Stand.of_body Bd
  have e0 : s₁.heap = h0 := by rw [← hh, Bd.state]; rfl
  have N0 := Fr.nil n0
  refine Rch.out (Rch.st (fun t k => castTop (ef_ccharge2_0 m lg c0 sp ks rm kr s0 s1 r0 r1 x0 x1 w0 w1 xc sc kb wz wy) k) ?_)
  show Rch p.tables e below _ (s₁.setTop (mkF m 0 #[.val (.ref lg), .val (.int (0 : Int32)), .val (.ref c0)] []))
  refine Rch.st (fun _ hr => XS.aloadN X0.here hx rfl (hb hby d33_0) rfl rfl hr) ?_
  obtain ⟨T1, X1, e1, st1⟩ := getF X0 hx hZ hown (host := "") (Or.inl (own_w hw 56 rfl)) Via.refl e0 zP2 (g := (mkF m 1 #[.val (.ref lg), .val (.int (0 : Int32)), .val (.ref c0)] [(.ref lg)])) rfl rfl (hb hby d33_1)
  refine Rch.st st1 ?_
  refine Rch.st (fun _ hr => XS.iloadN X1.here hx rfl (hb hby d33_4) rfl hr) ?_
  refine Rch.st (fun _ hr => XS.aloadN X1.here hx rfl (hb hby d33_5) rfl rfl hr) ?_
  obtain ⟨T2, X2, e2, st2⟩ := getF X1 hx hZ hown (host := "") (Or.inl (own_w hw 56 rfl)) Via.refl e1 zP2 (g := (mkF m 6 #[.val (.ref lg), .val (.int (0 : Int32)), .val (.ref c0)] [(.ref lg), (.int (0 : Int32)), (.ref sp)])) rfl rfl (hb hby d33_6)
  refine Rch.st st2 ?_
  refine Rch.st (fun _ hr => XS.iloadN X2.here hx rfl (hb hby d33_9) rfl hr) ?_
  show Rch p.tables e below _ (T2.setTop (mkF m 10 #[.val (.ref lg), .val (.int (0 : Int32)), .val (.ref c0)] [(.int (0 : Int32)), (.ref sp), (.int (0 : Int32)), (.ref sp)]))
  obtain ⟨cl3, Ar3, -, Sz3, Ng3, Ha3, -⟩ := id zP4
  have hin3 := inb_of (j := (0 : Int32)) Sz3 ⟨by decide, by decide⟩
  have hat3 := Ha3.at hin3 (v := (.ref s0)) rfl
  refine Rch.st (fun t hr => X2.aaload hx (j := (0 : Int32)) (v := (.ref s0)) (by rw [e2]; exact Ar3.1) (State.isArrayOf_alike hZ.alike Ar3.2.1) rfl Ar3.2.2 hin3 hat3 (g := (mkF m 10 #[.val (.ref lg), .val (.int (0 : Int32)), .val (.ref c0)] [(.int (0 : Int32)), (.ref sp), (.int (0 : Int32)), (.ref sp)])) rfl rfl (hb hby d33_10) t hr) ?_
  refine Rch.st (fun _ hr => XS.aloadN X2.here hx rfl (hb hby d33_11) rfl rfl hr) ?_
  show Rch p.tables e below _ (T2.setTop (mkF m 12 #[.val (.ref lg), .val (.int (0 : Int32)), .val (.ref c0)] [(.ref c0), (.ref s0), (.int (0 : Int32)), (.ref sp)]))
  refine own_kV X2 hx hZ (y := Y_28) (z := Y_28) hown (own_w hw 194 rfl) (own_w hw 195 rfl) (notFace_of_selects (args := #[]) (mvT hZ (own_w hw 197 rfl))) (own_w hw 197 rfl) (own_w hw 196 rfl) (own_w hw 28 rfl) (own_w hw 198 rfl) (by decide) (W := 2) (cadds l Z a0 hw [] s0 c0 x0 xc sc kb (1 : Int) wz wy h0 n0 zD0 zD1 zD2 zD3 zP0 zP8 zP12 hs (by omega)) (by decide) (by decide) e2 zP8.1 (by decide) (by decide)  (by rw [hml]; rfl) (argsL := [(.ref c0)]) (rest := [(.int (0 : Int32)), (.ref sp)]) (lenOf pd_20 rfl) rfl rfl (hb hby d33_12) rfl (fun _ T4 Lc4 X4 hQ4 => ?_)
  obtain ⟨r_4, rfl, N4q, Kp4, Op4, R4_0⟩ := hQ4
  have N4 := Fr.app N0 N4q
  have K5 := (Keep.refl h0 [sp, rm]).trans Kp4 all0
  have f6 := (zP4.keep Kp4 nin0)
  obtain ⟨cl7, Ar7, qk7, Sz7, Ng7, Ha7, Gf7⟩ := id f6
  have hin7 := inb_of (j := (0 : Int32)) Sz7 ⟨by decide, by decide⟩
  obtain ⟨T8, h8, X8, e8, W8, st8⟩ := stR X4 hx hZ rfl Ar7 (j := (0 : Int32)) hin7 rfl (Sto.ofV Ar7 qk7 zP6 (Ins.self R4_0.1)) (g := (mkF m 15 #[.val (.ref lg), .val (.int (0 : Int32)), .val (.ref c0)] [(.ref r_4), (.int (0 : Int32)), (.ref sp)])) rfl rfl (hb hby d33_15)
  refine Rch.st st8 ?_
  have N8 := Fr.snoc X8 N4 zP13
  have f9 := (zP1.keep Kp4)
  have ne10 := (Exa.neArv f9 f6 (own_w hw 35 rfl))
  have f11 := (zP8.1.keep Kp4)
  have ne12 := (Exa.neArv f11 f6 (own_w hw 81 rfl))
  have f13 := (zP9.keep Kp4 nin0)
  have ne14 := (Exa.neArv f13.1 f6 (own_w hw 81 rfl))
  have f15 := (zP10.keep Kp4 nin0)
  have ne16 := (Exa.neArv f15.1 f6 (own_w hw 81 rfl))
  have f17 := (zP11.keep Kp4 nin0)
  have ne18 := (Exa.neArv f17.1 f6 (own_w hw 81 rfl))
  have f19 := (zP12.keep Kp4 nin0)
  have ne20 := (Exa.neArv f19.1 f6 (own_w hw 81 rfl))
  have ne21 := (Exa.neArv R4_0.1 f6 (own_w hw 81 rfl))
  have K22 := K5.wr W8 (Or.inl (List.mem_of_getElem? (i := 0) rfl))
  have V8 : Arv Z h8 sp ks (.object "java/math/BigDecimal") (2 : Int32) [(.ref r_4), (.ref s1)] .null := Arv.set Ar7 qk7 Sz7 Ng7 Ha7 Gf7 rfl W8 0 rfl (Nat.le_of_ble_eq_true rfl)
  refine Rch.st (fun _ hr => XS.aloadN X8.here hx rfl (hb hby d33_16) rfl rfl hr) ?_
  have f23 := ((zP3.keep Kp4 nin0).other W8 (Or.inl ne10))
  obtain ⟨T24, X24, e24, st24⟩ := getF X8 hx hZ hown (host := "") (Or.inl (own_w hw 58 rfl)) Via.refl e8 f23 (g := (mkF m 17 #[.val (.ref lg), .val (.int (0 : Int32)), .val (.ref c0)] [(.ref lg)])) rfl rfl (hb hby d33_17)
  refine Rch.st st24 ?_
  show Rch p.tables e below _ (T24.setTop (mkF m 20 #[.val (.ref lg), .val (.int (0 : Int32)), .val (.ref c0)] [(.ref rm)]))
  refine Rch.st (fun _ hr => XS.iloadN X24.here hx rfl (hb hby d33_20) rfl hr) ?_
  refine Rch.st (fun _ hr => XS.aloadN X24.here hx rfl (hb hby d33_21) rfl rfl hr) ?_
  obtain ⟨T25, X25, e25, st25⟩ := getF X24 hx hZ hown (host := "") (Or.inl (own_w hw 58 rfl)) Via.refl e24 f23 (g := (mkF m 22 #[.val (.ref lg), .val (.int (0 : Int32)), .val (.ref c0)] [(.ref lg), (.int (0 : Int32)), (.ref rm)])) rfl rfl (hb hby d33_22)
  refine Rch.st st25 ?_
  refine Rch.st (fun _ hr => XS.iloadN X25.here hx rfl (hb hby d33_25) rfl hr) ?_
  have f26 := ((zP5.keep Kp4 nin0).other W8 (Ne.symm zP15))
  obtain ⟨cl27, Ar27, -, Sz27, Ng27, Ha27, -⟩ := id f26
  have hin27 := inb_of (j := (0 : Int32)) Sz27 ⟨by decide, by decide⟩
  have hat27 := Ha27.at hin27 (v := (.ref r0)) rfl
  refine Rch.st (fun t hr => X25.aaload hx (j := (0 : Int32)) (v := (.ref r0)) (by rw [e25]; exact Ar27.1) (State.isArrayOf_alike hZ.alike Ar27.2.1) rfl Ar27.2.2 hin27 hat27 (g := (mkF m 26 #[.val (.ref lg), .val (.int (0 : Int32)), .val (.ref c0)] [(.int (0 : Int32)), (.ref rm), (.int (0 : Int32)), (.ref rm)])) rfl rfl (hb hby d33_26) t hr) ?_
  refine Rch.st (fun _ hr => XS.aloadN X25.here hx rfl (hb hby d33_27) rfl rfl hr) ?_
  show Rch p.tables e below _ (T25.setTop (mkF m 28 #[.val (.ref lg), .val (.int (0 : Int32)), .val (.ref c0)] [(.ref c0), (.ref r0), (.int (0 : Int32)), (.ref rm)]))
  have f29 := (f15.1.wr W8)
  have f30 := (Op4.wr W8 zP13)
  have f31 := (f15.other W8 ne16)
  have f32 := (f19.other W8 ne20)
  show Rch p.tables e below _ (T25.setTop (mkF m 28 #[.val (.ref lg), .val (.int (0 : Int32)), .val (.ref c0)] [(.ref c0), (.ref r0), (.int (0 : Int32)), (.ref rm)]))
  refine own_kV X25 hx hZ (y := Y_29) (z := Y_29) hown (own_w hw 222 rfl) (own_w hw 223 rfl) (notFace_of_selects (args := #[]) (mvT hZ (own_w hw 225 rfl))) (own_w hw 225 rfl) (own_w hw 224 rfl) (own_w hw 28 rfl) (own_w hw 226 rfl) (by decide) (W := 2) (csubs l Z a0 hw [] r0 c0 w0 xc sc kb (1 : Int) wz wy h8 n0 zD0 zD1 zD2 zD3 f30 f31 f32 hs (by omega)) (by decide) (by decide) e25 f29 (by decide) (by decide)  (by rw [hml]; rfl) (argsL := [(.ref c0)]) (rest := [(.int (0 : Int32)), (.ref rm)]) (lenOf pd_20 rfl) rfl rfl (hb hby d33_28) rfl (fun _ T28 Lc28 X28 hQ28 => ?_)
  obtain ⟨r_28, rfl, N28q, Kp28, Op28, R28_0⟩ := hQ28
  have N28 := Fr.app N8 N28q
  have K33 := K22.trans Kp28 all0
  have f34 := (f26.keep Kp28 nin0)
  obtain ⟨cl35, Ar35, qk35, Sz35, Ng35, Ha35, Gf35⟩ := id f34
  have hin35 := inb_of (j := (0 : Int32)) Sz35 ⟨by decide, by decide⟩
  obtain ⟨T36, h36, X36, e36, W36, st36⟩ := stR X28 hx hZ rfl Ar35 (j := (0 : Int32)) hin35 rfl (Sto.ofV Ar35 qk35 zP7 (Ins.self R28_0.1)) (g := (mkF m 31 #[.val (.ref lg), .val (.int (0 : Int32)), .val (.ref c0)] [(.ref r_28), (.int (0 : Int32)), (.ref rm)])) rfl rfl (hb hby d33_31)
  refine Rch.st st36 ?_
  have N36 := Fr.snoc X36 N28 zP14
  have f37 := ((f9.wr W8).keep Kp28)
  have ne38 := (Exa.neArv f37 f34 (own_w hw 35 rfl))
  have f39 := ((f11.wr W8).keep Kp28)
  have ne40 := (Exa.neArv f39 f34 (own_w hw 81 rfl))
  have f41 := ((f13.1.wr W8).keep Kp28)
  have ne42 := (Exa.neArv f41 f34 (own_w hw 81 rfl))
  have f43 := (f29.keep Kp28)
  have ne44 := (Exa.neArv f43 f34 (own_w hw 81 rfl))
  have f45 := ((f17.1.wr W8).keep Kp28)
  have ne46 := (Exa.neArv f45 f34 (own_w hw 81 rfl))
  have f47 := ((f19.1.wr W8).keep Kp28)
  have ne48 := (Exa.neArv f47 f34 (own_w hw 81 rfl))
  have f49 := ((R4_0.1.wr W8).keep Kp28)
  have ne50 := (Exa.neArv f49 f34 (own_w hw 81 rfl))
  have ne51 := (Exa.neArv R28_0.1 f34 (own_w hw 81 rfl))
  have K52 := K33.wr W36 (Or.inl (List.mem_of_getElem? (i := 1) rfl))
  have V36 : Arv Z h36 rm kr (.object "java/math/BigDecimal") (2 : Int32) [(.ref r_28), (.ref r1)] .null := Arv.set Ar35 qk35 Sz35 Ng35 Ha35 Gf35 rfl W36 0 rfl (Nat.le_of_ble_eq_true rfl)
  obtain ⟨fs, hr, hrun, hended, hW, hsame⟩ := X36.leave (v := none) (fun _ => rfl)
  have f53 := (((R4_0.other W8 ne21).keep Kp28 nin0).other W36 ne50)
  have f54 := (((f13.other W8 ne14).keep Kp28 nin0).other W36 ne42)
  have f55 := (R28_0.other W36 ne51)
  have f56 := (((f17.other W8 ne18).keep Kp28 nin0).other W36 ne46)
  have f57 := (Op28.wr W36 zP14)
  have f58 := ((V8.keep Kp28 nin0).other W36 zP15)
  refine Rch.fin (u := T36.setFrames fs) (X36.returnOut hx Bd.returns (hb hby d33_32) hr) ⟨_, hrun, hended, _, _, rfl, ?_, ⟨_, rfl⟩, hW, hsame.mono (by decide) (by decide)⟩
  show Q_ccharge2_0 Z lg c0 sp ks rm kr s0 s1 r0 r1 x0 x1 w0 w1 xc sc kb wz wy h0 n0 _ T36.heap _
  rw [e36]
  exact ⟨r_4, s1, r_28, r1, (x0 + xc), x1, (w0 + (-xc)), w1, rfl, N36, K52, f57, f58, V36, f53, (BE.mono f54 (by omega)), f55, (BE.mono f56 (by omega)), (own_s20 x0 x1 xc)⟩
abbrev Rm_ccharge2_1 : Room := { frames := 8, cells := 2, slots := 10, locals := 125 }
def Q_ccharge2_1 (Z : State) (lg : Addr) (c0 : Addr) (sp : Addr) (ks : ClassId) (rm : Addr) (kr : ClassId) (s0 : Addr) (s1 : Addr) (r0 : Addr) (r1 : Addr) (x0 : Int64) (x1 : Int64) (w0 : Int64) (w1 : Int64) (xc : Int64) (sc : Int32) (kb : Int) (wz : Addr) (wy : Addr) (h0 : Heap) (n0 : Nat) (v : Option Value) (h : Heap) (L : List Loc) : Prop := ∃ (t0 : Addr) (t1 : Addr) (u0 : Addr) (u1 : Addr) (y0 : Int64) (y1 : Int64) (v0 : Int64) (v1 : Int64), v = none ∧ Fr n0 L ∧ Keep h0 h [sp, rm] ∧ Old Z n0 h ∧ Arv Z h sp ks (.object "java/math/BigDecimal") (2 : Int32) [(.ref t0), (.ref t1)] .null ∧ Arv Z h rm kr (.object "java/math/BigDecimal") (2 : Int32) [(.ref u0), (.ref u1)] .null ∧ BE Z h t0 y0 sc (kb + (1 : Int)) ∧ BE Z h t1 y1 sc (kb + (1 : Int)) ∧ BE Z h u0 v0 sc (kb + (1 : Int)) ∧ BE Z h u1 v1 sc (kb + (1 : Int)) ∧ (((0 : Int64) + y0) + y1) = ((((0 : Int64) + x0) + x1) + xc)
theorem ef_ccharge2_1 (m : MethodId) (lg : Addr) (c0 : Addr) (sp : Addr) (ks : ClassId) (rm : Addr) (kr : ClassId) (s0 : Addr) (s1 : Addr) (r0 : Addr) (r1 : Addr) (x0 : Int64) (x1 : Int64) (w0 : Int64) (w1 : Int64) (xc : Int64) (sc : Int32) (kb : Int) (wz : Addr) (wy : Addr) : entryFrame m #[(.ref lg), (.int (1 : Int32)), (.ref c0)] 3 = mkF m 0 #[.val (.ref lg), .val (.int (1 : Int32)), .val (.ref c0)] [] := by first | (simp [entryFrame, mkF, argsToLocals, Value.category]; done) | rfl
set_option maxRecDepth 65536 in
set_option maxHeartbeats 40000000 in
theorem ccharge2_1 (l : Launch) (Z : State) (a0 : Array Value) (hw : ∀ d ∈ tables_1, d.before a0 Z = true) (ws : List Jvm.Cond) (lg : Addr) (c0 : Addr) (sp : Addr) (ks : ClassId) (rm : Addr) (kr : ClassId) (s0 : Addr) (s1 : Addr) (r0 : Addr) (r1 : Addr) (x0 : Int64) (x1 : Int64) (w0 : Int64) (w1 : Int64) (xc : Int64) (sc : Int32) (kb : Int) (wz : Addr) (wy : Addr) (h0 : Heap) (n0 : Nat) (zD0 : Sta Z Z.heap "java/math/BigDecimal" "ZERO_THROUGH_TEN" "[Ljava/math/BigDecimal;" (.ref wz)) (zD1 : ZTab Z Z.heap wz) (zD2 : Sta Z Z.heap "java/math/BigDecimal" "ZERO_SCALED_BY" "[Ljava/math/BigDecimal;" (.ref wy)) (zD3 : STab Z Z.heap wy) (zP0 : Old Z n0 h0) (zP1 : Exa Z h0 lg "com/example/slotwright/slotwright/Ledger") (zP2 : Fld Z h0 lg "com/example/slotwright/slotwright/Ledger" "spent" "[Ljava/math/BigDecimal;" (.ref sp)) (zP3 : Fld Z h0 lg "com/example/slotwright/slotwright/Ledger" "remaining" "[Ljava/math/BigDecimal;" (.ref rm)) (zP4 : Arv Z h0 sp ks (.object "java/math/BigDecimal") (2 : Int32) [(.ref s0), (.ref s1)] .null) (zP5 : Arv Z h0 rm kr (.object "java/math/BigDecimal") (2 : Int32) [(.ref r0), (.ref r1)] .null) (zP6 : Ovr Z ks "java/math/BigDecimal") (zP7 : Ovr Z kr "java/math/BigDecimal") (zP8 : BE Z h0 s0 x0 sc kb) (zP9 : BE Z h0 s1 x1 sc kb) (zP10 : BE Z h0 r0 w0 sc kb) (zP11 : BE Z h0 r1 w1 sc kb) (zP12 : BE Z h0 c0 xc sc (1 : Int)) (zP13 : n0 ≤ sp) (zP14 : n0 ≤ rm) (zP15 : sp ≠ rm) (hs : own_S sc) (hk : kb ≤ 100) :
    MetFree l (⟨"com/example/slotwright/slotwright/Ledger", "charge", "(ILjava/math/BigDecimal;)V"⟩ : MethodName) (head1 (Jvm.Cond.code (⟨"com/example/slotwright/slotwright/Ledger", "charge", "(ILjava/math/BigDecimal;)V"⟩ : MethodName) prog_23_method_3_code 3 none :: ws) Rm_ccharge2_1) (fun aA uU => aA = #[(.ref lg), (.int (1 : Int32)), (.ref c0)] ∧ Z.Warmed39 uU.vm ∧ uU.heap = h0) (fun _ _ _ _ _ => True) (fun _ uU oO uU' => ∃ vV lL, oO = .returned vV ∧ Q_ccharge2_1 Z lg c0 sp ks rm kr s0 s1 r0 r1 x0 x1 w0 w1 xc sc kb wz wy h0 n0 vV uU'.heap lL ∧ FrameEnd uU oO uU' lL Rm_ccharge2_1.cells Rm_ccharge2_1.slots) := by
  refine MetFree.of_bodySF (plainFor_of_name pn_com_example_slotwright_slotwright_Ledger) hisR ?_
  intro p e s m args below meth c s₁ Bd hml0 hP hK
  obtain ⟨rfl, hZ, hh⟩ := hP
  have hx := Bd.exec
  have hby := Bd.bytes
  have hml : c.maxLocals = 3 := hml0
  have hown : s.vm.findClass "com/example/slotwright/slotwright/Ledger" = some m.cls := findClass_of_methodNamed Bd.named
  have hnm := (name_of_methodNamed Bd.named Bd.method).1
  have X0 : Stand p l e Rm_ccharge2_1 s m #[(.ref lg), (.int (1 : Int32)), (.ref c0)] below meth c s₁ [] 0 0 := Stand.of_body Bd
  have e0 : s₁.heap = h0 := by rw [← hh, Bd.state]; rfl
  have N0 := Fr.nil n0
  refine Rch.out (Rch.st (fun t k => castTop (ef_ccharge2_1 m lg c0 sp ks rm kr s0 s1 r0 r1 x0 x1 w0 w1 xc sc kb wz wy) k) ?_)
  show Rch p.tables e below _ (s₁.setTop (mkF m 0 #[.val (.ref lg), .val (.int (1 : Int32)), .val (.ref c0)] []))
  refine Rch.st (fun _ hr => XS.aloadN X0.here hx rfl (hb hby d33_0) rfl rfl hr) ?_
  obtain ⟨T1, X1, e1, st1⟩ := getF X0 hx hZ hown (host := "") (Or.inl (own_w hw 56 rfl)) Via.refl e0 zP2 (g := (mkF m 1 #[.val (.ref lg), .val (.int (1 : Int32)), .val (.ref c0)] [(.ref lg)])) rfl rfl (hb hby d33_1)
  refine Rch.st st1 ?_
  refine Rch.st (fun _ hr => XS.iloadN X1.here hx rfl (hb hby d33_4) rfl hr) ?_
  refine Rch.st (fun _ hr => XS.aloadN X1.here hx rfl (hb hby d33_5) rfl rfl hr) ?_
  obtain ⟨T2, X2, e2, st2⟩ := getF X1 hx hZ hown (host := "") (Or.inl (own_w hw 56 rfl)) Via.refl e1 zP2 (g := (mkF m 6 #[.val (.ref lg), .val (.int (1 : Int32)), .val (.ref c0)] [(.ref lg), (.int (1 : Int32)), (.ref sp)])) rfl rfl (hb hby d33_6)
  refine Rch.st st2 ?_
  refine Rch.st (fun _ hr => XS.iloadN X2.here hx rfl (hb hby d33_9) rfl hr) ?_
  show Rch p.tables e below _ (T2.setTop (mkF m 10 #[.val (.ref lg), .val (.int (1 : Int32)), .val (.ref c0)] [(.int (1 : Int32)), (.ref sp), (.int (1 : Int32)), (.ref sp)]))
  obtain ⟨cl3, Ar3, -, Sz3, Ng3, Ha3, -⟩ := id zP4
  have hin3 := inb_of (j := (1 : Int32)) Sz3 ⟨by decide, by decide⟩
  have hat3 := Ha3.at hin3 (v := (.ref s1)) rfl
  refine Rch.st (fun t hr => X2.aaload hx (j := (1 : Int32)) (v := (.ref s1)) (by rw [e2]; exact Ar3.1) (State.isArrayOf_alike hZ.alike Ar3.2.1) rfl Ar3.2.2 hin3 hat3 (g := (mkF m 10 #[.val (.ref lg), .val (.int (1 : Int32)), .val (.ref c0)] [(.int (1 : Int32)), (.ref sp), (.int (1 : Int32)), (.ref sp)])) rfl rfl (hb hby d33_10) t hr) ?_
  refine Rch.st (fun _ hr => XS.aloadN X2.here hx rfl (hb hby d33_11) rfl rfl hr) ?_
  show Rch p.tables e below _ (T2.setTop (mkF m 12 #[.val (.ref lg), .val (.int (1 : Int32)), .val (.ref c0)] [(.ref c0), (.ref s1), (.int (1 : Int32)), (.ref sp)]))
  refine own_kV X2 hx hZ (y := Y_28) (z := Y_28) hown (own_w hw 194 rfl) (own_w hw 195 rfl) (notFace_of_selects (args := #[]) (mvT hZ (own_w hw 197 rfl))) (own_w hw 197 rfl) (own_w hw 196 rfl) (own_w hw 28 rfl) (own_w hw 198 rfl) (by decide) (W := 2) (cadds l Z a0 hw [] s1 c0 x1 xc sc kb (1 : Int) wz wy h0 n0 zD0 zD1 zD2 zD3 zP0 zP9 zP12 hs (by omega)) (by decide) (by decide) e2 zP9.1 (by decide) (by decide)  (by rw [hml]; rfl) (argsL := [(.ref c0)]) (rest := [(.int (1 : Int32)), (.ref sp)]) (lenOf pd_20 rfl) rfl rfl (hb hby d33_12) rfl (fun _ T4 Lc4 X4 hQ4 => ?_)
  obtain ⟨r_4, rfl, N4q, Kp4, Op4, R4_0⟩ := hQ4
  have N4 := Fr.app N0 N4q
  have K5 := (Keep.refl h0 [sp, rm]).trans Kp4 all0
  have f6 := (zP4.keep Kp4 nin0)
  obtain ⟨cl7, Ar7, qk7, Sz7, Ng7, Ha7, Gf7⟩ := id f6
  have hin7 := inb_of (j := (1 : Int32)) Sz7 ⟨by decide, by decide⟩
  obtain ⟨T8, h8, X8, e8, W8, st8⟩ := stR X4 hx hZ rfl Ar7 (j := (1 : Int32)) hin7 rfl (Sto.ofV Ar7 qk7 zP6 (Ins.self R4_0.1)) (g := (mkF m 15 #[.val (.ref lg), .val (.int (1 : Int32)), .val (.ref c0)] [(.ref r_4), (.int (1 : Int32)), (.ref sp)])) rfl rfl (hb hby d33_15)
  refine Rch.st st8 ?_
  have N8 := Fr.snoc X8 N4 zP13
  have f9 := (zP1.keep Kp4)
  have ne10 := (Exa.neArv f9 f6 (own_w hw 35 rfl))
  have f11 := (zP8.keep Kp4 nin0)
  have ne12 := (Exa.neArv f11.1 f6 (own_w hw 81 rfl))
  have f13 := (zP9.1.keep Kp4)
  have ne14 := (Exa.neArv f13 f6 (own_w hw 81 rfl))
  have f15 := (zP10.keep Kp4 nin0)
  have ne16 := (Exa.neArv f15.1 f6 (own_w hw 81 rfl))
  have f17 := (zP11.keep Kp4 nin0)
  have ne18 := (Exa.neArv f17.1 f6 (own_w hw 81 rfl))
  have f19 := (zP12.keep Kp4 nin0)
  have ne20 := (Exa.neArv f19.1 f6 (own_w hw 81 rfl))
  have ne21 := (Exa.neArv R4_0.1 f6 (own_w hw 81 rfl))
  have K22 := K5.wr W8 (Or.inl (List.mem_of_getElem? (i := 0) rfl))
  have V8 : Arv Z h8 sp ks (.object "java/math/BigDecimal") (2 : Int32) [(.ref s0), (.ref r_4)] .null := Arv.set Ar7 qk7 Sz7 Ng7 Ha7 Gf7 rfl W8 1 rfl (Nat.le_of_ble_eq_true rfl)
  refine Rch.st (fun _ hr => XS.aloadN X8.here hx rfl (hb hby d33_16) rfl rfl hr) ?_
  have f23 := ((zP3.keep Kp4 nin0).other W8 (Or.inl ne10))
  obtain ⟨T24, X24, e24, st24⟩ := getF X8 hx hZ hown (host := "") (Or.inl (own_w hw 58 rfl)) Via.refl e8 f23 (g := (mkF m 17 #[.val (.ref lg), .val (.int (1 : Int32)), .val (.ref c0)] [(.ref lg)])) rfl rfl (hb hby d33_17)
  refine Rch.st st24 ?_
  show Rch p.tables e below _ (T24.setTop (mkF m 20 #[.val (.ref lg), .val (.int (1 : Int32)), .val (.ref c0)] [(.ref rm)]))
  refine Rch.st (fun _ hr => XS.iloadN X24.here hx rfl (hb hby d33_20) rfl hr) ?_
  refine Rch.st (fun _ hr => XS.aloadN X24.here hx rfl (hb hby d33_21) rfl rfl hr) ?_
  obtain ⟨T25, X25, e25, st25⟩ := getF X24 hx hZ hown (host := "") (Or.inl (own_w hw 58 rfl)) Via.refl e24 f23 (g := (mkF m 22 #[.val (.ref lg), .val (.int (1 : Int32)), .val (.ref c0)] [(.ref lg), (.int (1 : Int32)), (.ref rm)])) rfl rfl (hb hby d33_22)
  refine Rch.st st25 ?_
  refine Rch.st (fun _ hr => XS.iloadN X25.here hx rfl (hb hby d33_25) rfl hr) ?_
  have f26 := ((zP5.keep Kp4 nin0).other W8 (Ne.symm zP15))
  obtain ⟨cl27, Ar27, -, Sz27, Ng27, Ha27, -⟩ := id f26
  have hin27 := inb_of (j := (1 : Int32)) Sz27 ⟨by decide, by decide⟩
  have hat27 := Ha27.at hin27 (v := (.ref r1)) rfl
  refine Rch.st (fun t hr => X25.aaload hx (j := (1 : Int32)) (v := (.ref r1)) (by rw [e25]; exact Ar27.1) (State.isArrayOf_alike hZ.alike Ar27.2.1) rfl Ar27.2.2 hin27 hat27 (g := (mkF m 26 #[.val (.ref lg), .val (.int (1 : Int32)), .val (.ref c0)] [(.int (1 : Int32)), (.ref rm), (.int (1 : Int32)), (.ref rm)])) rfl rfl (hb hby d33_26) t hr) ?_
  refine Rch.st (fun _ hr => XS.aloadN X25.here hx rfl (hb hby d33_27) rfl rfl hr) ?_
  show Rch p.tables e below _ (T25.setTop (mkF m 28 #[.val (.ref lg), .val (.int (1 : Int32)), .val (.ref c0)] [(.ref c0), (.ref r1), (.int (1 : Int32)), (.ref rm)]))
  have f29 := (f17.1.wr W8)
  have f30 := (Op4.wr W8 zP13)
  have f31 := (f17.other W8 ne18)
  have f32 := (f19.other W8 ne20)
  show Rch p.tables e below _ (T25.setTop (mkF m 28 #[.val (.ref lg), .val (.int (1 : Int32)), .val (.ref c0)] [(.ref c0), (.ref r1), (.int (1 : Int32)), (.ref rm)]))
  refine own_kV X25 hx hZ (y := Y_29) (z := Y_29) hown (own_w hw 222 rfl) (own_w hw 223 rfl) (notFace_of_selects (args := #[]) (mvT hZ (own_w hw 225 rfl))) (own_w hw 225 rfl) (own_w hw 224 rfl) (own_w hw 28 rfl) (own_w hw 226 rfl) (by decide) (W := 2) (csubs l Z a0 hw [] r1 c0 w1 xc sc kb (1 : Int) wz wy h8 n0 zD0 zD1 zD2 zD3 f30 f31 f32 hs (by omega)) (by decide) (by decide) e25 f29 (by decide) (by decide)  (by rw [hml]; rfl) (argsL := [(.ref c0)]) (rest := [(.int (1 : Int32)), (.ref rm)]) (lenOf pd_20 rfl) rfl rfl (hb hby d33_28) rfl (fun _ T28 Lc28 X28 hQ28 => ?_)
  obtain ⟨r_28, rfl, N28q, Kp28, Op28, R28_0⟩ := hQ28
  have N28 := Fr.app N8 N28q
  have K33 := K22.trans Kp28 all0
  have f34 := (f26.keep Kp28 nin0)
  obtain ⟨cl35, Ar35, qk35, Sz35, Ng35, Ha35, Gf35⟩ := id f34
  have hin35 := inb_of (j := (1 : Int32)) Sz35 ⟨by decide, by decide⟩
  obtain ⟨T36, h36, X36, e36, W36, st36⟩ := stR X28 hx hZ rfl Ar35 (j := (1 : Int32)) hin35 rfl (Sto.ofV Ar35 qk35 zP7 (Ins.self R28_0.1)) (g := (mkF m 31 #[.val (.ref lg), .val (.int (1 : Int32)), .val (.ref c0)] [(.ref r_28), (.int (1 : Int32)), (.ref rm)])) rfl rfl (hb hby d33_31)
  refine Rch.st st36 ?_
  have N36 := Fr.snoc X36 N28 zP14
  have f37 := ((f9.wr W8).keep Kp28)
  have ne38 := (Exa.neArv f37 f34 (own_w hw 35 rfl))
  have f39 := ((f11.1.wr W8).keep Kp28)
  have ne40 := (Exa.neArv f39 f34 (own_w hw 81 rfl))
  have f41 := ((f13.wr W8).keep Kp28)
  have ne42 := (Exa.neArv f41 f34 (own_w hw 81 rfl))
  have f43 := ((f15.1.wr W8).keep Kp28)
  have ne44 := (Exa.neArv f43 f34 (own_w hw 81 rfl))
  have f45 := (f29.keep Kp28)
  have ne46 := (Exa.neArv f45 f34 (own_w hw 81 rfl))
  have f47 := ((f19.1.wr W8).keep Kp28)
  have ne48 := (Exa.neArv f47 f34 (own_w hw 81 rfl))
  have f49 := ((R4_0.1.wr W8).keep Kp28)
  have ne50 := (Exa.neArv f49 f34 (own_w hw 81 rfl))
  have ne51 := (Exa.neArv R28_0.1 f34 (own_w hw 81 rfl))
  have K52 := K33.wr W36 (Or.inl (List.mem_of_getElem? (i := 1) rfl))
  have V36 : Arv Z h36 rm kr (.object "java/math/BigDecimal") (2 : Int32) [(.ref r0), (.ref r_28)] .null := Arv.set Ar35 qk35 Sz35 Ng35 Ha35 Gf35 rfl W36 1 rfl (Nat.le_of_ble_eq_true rfl)
  obtain ⟨fs, hr, hrun, hended, hW, hsame⟩ := X36.leave (v := none) (fun _ => rfl)
  have f53 := (((f11.other W8 ne12).keep Kp28 nin0).other W36 ne40)
  have f54 := (((R4_0.other W8 ne21).keep Kp28 nin0).other W36 ne50)
  have f55 := (((f15.other W8 ne16).keep Kp28 nin0).other W36 ne44)
  have f56 := (R28_0.other W36 ne51)
  have f57 := (Op28.wr W36 zP14)
  have f58 := ((V8.keep Kp28 nin0).other W36 zP15)
  refine Rch.fin (u := T36.setFrames fs) (X36.returnOut hx Bd.returns (hb hby d33_32) hr) ⟨_, hrun, hended, _, _, rfl, ?_, ⟨_, rfl⟩, hW, hsame.mono (by decide) (by decide)⟩
  show Q_ccharge2_1 Z lg c0 sp ks rm kr s0 s1 r0 r1 x0 x1 w0 w1 xc sc kb wz wy h0 n0 _ T36.heap _
  rw [e36]
  exact ⟨s0, r_4, r0, r_28, x0, (x1 + xc), w0, (w1 + (-xc)), rfl, N36, K52, f57, f58, V36, (BE.mono f53 (by omega)), f54, (BE.mono f55 (by omega)), f56, (own_s21 x0 x1 xc)⟩
abbrev Rm_ccharge2 : Room := { frames := 8, cells := 2, slots := 10, locals := 125 }
def Q_ccharge2 (Z : State) (lg : Addr) (c0 : Addr) (sp : Addr) (ks : ClassId) (rm : Addr) (kr : ClassId) (s0 : Addr) (s1 : Addr) (r0 : Addr) (r1 : Addr) (x0 : Int64) (x1 : Int64) (w0 : Int64) (w1 : Int64) (xc : Int64) (sc : Int32) (kb : Int) (wz : Addr) (wy : Addr) (i : Int32) (h0 : Heap) (n0 : Nat) (v : Option Value) (h : Heap) (L : List Loc) : Prop := ∃ (t0 : Addr) (t1 : Addr) (u0 : Addr) (u1 : Addr) (y0 : Int64) (y1 : Int64) (v0 : Int64) (v1 : Int64), v = none ∧ Fr n0 L ∧ Keep h0 h [sp, rm] ∧ Old Z n0 h ∧ Arv Z h sp ks (.object "java/math/BigDecimal") (2 : Int32) [(.ref t0), (.ref t1)] .null ∧ Arv Z h rm kr (.object "java/math/BigDecimal") (2 : Int32) [(.ref u0), (.ref u1)] .null ∧ BE Z h t0 y0 sc (kb + (1 : Int)) ∧ BE Z h t1 y1 sc (kb + (1 : Int)) ∧ BE Z h u0 v0 sc (kb + (1 : Int)) ∧ BE Z h u1 v1 sc (kb + (1 : Int)) ∧ (((0 : Int64) + y0) + y1) = ((((0 : Int64) + x0) + x1) + xc)
set_option maxRecDepth 65536 in
set_option maxHeartbeats 40000000 in
theorem ccharge2 (l : Launch) (Z : State) (a0 : Array Value) (hw : ∀ d ∈ tables_1, d.before a0 Z = true) (ws : List Jvm.Cond) (lg : Addr) (c0 : Addr) (sp : Addr) (ks : ClassId) (rm : Addr) (kr : ClassId) (s0 : Addr) (s1 : Addr) (r0 : Addr) (r1 : Addr) (x0 : Int64) (x1 : Int64) (w0 : Int64) (w1 : Int64) (xc : Int64) (sc : Int32) (kb : Int) (wz : Addr) (wy : Addr) (i : Int32) (h0 : Heap) (n0 : Nat) (zD0 : Sta Z Z.heap "java/math/BigDecimal" "ZERO_THROUGH_TEN" "[Ljava/math/BigDecimal;" (.ref wz)) (zD1 : ZTab Z Z.heap wz) (zD2 : Sta Z Z.heap "java/math/BigDecimal" "ZERO_SCALED_BY" "[Ljava/math/BigDecimal;" (.ref wy)) (zD3 : STab Z Z.heap wy) (zP0 : Old Z n0 h0) (zP1 : Exa Z h0 lg "com/example/slotwright/slotwright/Ledger") (zP2 : Fld Z h0 lg "com/example/slotwright/slotwright/Ledger" "spent" "[Ljava/math/BigDecimal;" (.ref sp)) (zP3 : Fld Z h0 lg "com/example/slotwright/slotwright/Ledger" "remaining" "[Ljava/math/BigDecimal;" (.ref rm)) (zP4 : Arv Z h0 sp ks (.object "java/math/BigDecimal") (2 : Int32) [(.ref s0), (.ref s1)] .null) (zP5 : Arv Z h0 rm kr (.object "java/math/BigDecimal") (2 : Int32) [(.ref r0), (.ref r1)] .null) (zP6 : Ovr Z ks "java/math/BigDecimal") (zP7 : Ovr Z kr "java/math/BigDecimal") (zP8 : BE Z h0 s0 x0 sc kb) (zP9 : BE Z h0 s1 x1 sc kb) (zP10 : BE Z h0 r0 w0 sc kb) (zP11 : BE Z h0 r1 w1 sc kb) (zP12 : BE Z h0 c0 xc sc (1 : Int)) (zP13 : n0 ≤ sp) (zP14 : n0 ≤ rm) (zP15 : sp ≠ rm) (hs : own_S sc) (hk : kb ≤ 100) (hi : i = (0 : Int32) ∨ i = (1 : Int32)) :
    MetFree l (⟨"com/example/slotwright/slotwright/Ledger", "charge", "(ILjava/math/BigDecimal;)V"⟩ : MethodName) (head1 (Jvm.Cond.code (⟨"com/example/slotwright/slotwright/Ledger", "charge", "(ILjava/math/BigDecimal;)V"⟩ : MethodName) prog_23_method_3_code 3 none :: ws) Rm_ccharge2) (fun aA uU => aA = #[(.ref lg), (.int i), (.ref c0)] ∧ Z.Warmed39 uU.vm ∧ uU.heap = h0) (fun _ _ _ _ _ => True) (fun _ uU oO uU' => ∃ vV lL, oO = .returned vV ∧ Q_ccharge2 Z lg c0 sp ks rm kr s0 s1 r0 r1 x0 x1 w0 w1 xc sc kb wz wy i h0 n0 vV uU'.heap lL ∧ FrameEnd uU oO uU' lL Rm_ccharge2.cells Rm_ccharge2.slots) := by
  rcases hi with rfl | rfl
  · exact ccharge2_0 l Z a0 hw ws lg c0 sp ks rm kr s0 s1 r0 r1 x0 x1 w0 w1 xc sc kb wz wy h0 n0 zD0 zD1 zD2 zD3 zP0 zP1 zP2 zP3 zP4 zP5 zP6 zP7 zP8 zP9 zP10 zP11 zP12 zP13 zP14 zP15 hs hk
  · exact ccharge2_1 l Z a0 hw ws lg c0 sp ks rm kr s0 s1 r0 r1 x0 x1 w0 w1 xc sc kb wz wy h0 n0 zD0 zD1 zD2 zD3 zP0 zP1 zP2 zP3 zP4 zP5 zP6 zP7 zP8 zP9 zP10 zP11 zP12 zP13 zP14 zP15 hs hk
abbrev Rm_cfill3 : Room := { frames := 0, cells := 0, slots := 0, locals := 0 }
def Q_cfill3 (Z : State) (a : Addr) (kf : ClassId) (z : Addr) (h0 : Heap) (n0 : Nat) (v : Option Value) (h : Heap) (L : List Loc) : Prop := v = none ∧ Fr n0 L ∧ Keep h0 h [a] ∧ Old Z n0 h ∧ Arv Z h a kf (.object "java/math/BigDecimal") (3 : Int32) [(.ref z), (.ref z), (.ref z)] .null
theorem ef_cfill3 (m : MethodId) (a : Addr) (kf : ClassId) (z : Addr) : entryFrame m #[(.ref a), (.ref z)] 4 = mkF m 0 #[.val (.ref a), .val (.ref z), .unset, .unset] [] := by first | (simp [entryFrame, mkF, argsToLocals, Value.category]; done) | rfl
set_option maxRecDepth 65536 in
set_option maxHeartbeats 40000000 in
theorem cfill3 (l : Launch) (Z : State) (a0 : Array Value) (hw : ∀ d ∈ tables_1, d.before a0 Z = true) (ws : List Jvm.Cond) (a : Addr) (kf : ClassId) (z : Addr) (h0 : Heap) (n0 : Nat) (zP0 : Old Z n0 h0) (zP1 : Arv Z h0 a kf (.object "java/math/BigDecimal") (3 : Int32) [.null, .null, .null] .null) (zP2 : Ovr Z kf "java/math/BigDecimal") (zP3 : Exa Z h0 z "java/math/BigDecimal") (zP4 : n0 ≤ a) :
    MetFree l (⟨"java/util/Arrays", "fill", "([Ljava/lang/Object;Ljava/lang/Object;)V"⟩ : MethodName) (head1 (Jvm.Cond.code (⟨"java/util/Arrays", "fill", "([Ljava/lang/Object;Ljava/lang/Object;)V"⟩ : MethodName) jdk_65_method_117_code 4 none :: ws) Rm_cfill3) (fun aA uU => aA = #[(.ref a), (.ref z)] ∧ Z.Warmed39 uU.vm ∧ uU.heap = h0) (fun _ _ _ _ _ => True) (fun _ uU oO uU' => ∃ vV lL, oO = .returned vV ∧ Q_cfill3 Z a kf z h0 n0 vV uU'.heap lL ∧ FrameEnd uU oO uU' lL Rm_cfill3.cells Rm_cfill3.slots) := by
  refine MetFree.of_bodySF (plainFor_of_name pn_java_util_Arrays) hisR ?_
  intro p e s m args below meth c s₁ Bd hml0 hP hK
  obtain ⟨rfl, hZ, hh⟩ := hP
  have hx := Bd.exec
  have hby := Bd.bytes
  have hml : c.maxLocals = 4 := hml0
  have hown : s.vm.findClass "java/util/Arrays" = some m.cls := findClass_of_methodNamed Bd.named
  have hnm := (name_of_methodNamed Bd.named Bd.method).1
  have X0 : Stand p l e Rm_cfill3 s m #[(.ref a), (.ref z)] below meth c s₁ [] 0 0 := Stand.of_body Bd
  have e0 : s₁.heap = h0 := by rw [← hh, Bd.state]; rfl
  have N0 := Fr.nil n0
  refine Rch.out (Rch.st (fun t k => castTop (ef_cfill3 m a kf z) k) ?_)
  show Rch p.tables e below _ (s₁.setTop (mkF m 0 #[.val (.ref a), .val (.ref z), .unset, .unset] []))
  refine Rch.st (fun _ hr => XS.iconst X0.here hx rfl (hb hby d9_0) hr) ?_
  refine Rch.st (fun _ hr => XS.istoreN X0.here hx rfl (hb hby d9_1) rfl (l' := #[.val (.ref a), .val (.ref z), .val (.int (0 : Int32)), .unset]) rfl hr) ?_
  refine Rch.st (fun _ hr => XS.aloadN X0.here hx rfl (hb hby d9_2) rfl rfl hr) ?_
  obtain ⟨cl1, Ar1, -, Sz1, Ng1, -, -⟩ := id zP1
  refine Rch.st (fun t hr => X0.arraylength hx (by rw [e0]; exact Ar1.1) (State.isArrayOf_alike hZ.alike Ar1.2.1) (g := (mkF m 3 #[.val (.ref a), .val (.ref z), .val (.int (0 : Int32)), .unset] [(.ref a)])) rfl rfl (hb hby d9_3) t hr) ?_
  rw [len_of Sz1 Ng1]
  refine Rch.st (fun _ hr => XS.istoreN X0.here hx rfl (hb hby d9_4) rfl (l' := #[.val (.ref a), .val (.ref z), .val (.int (0 : Int32)), .val (.int (3 : Int32))]) rfl hr) ?_
  refine Rch.st (fun _ hr => XS.iloadN X0.here hx rfl (hb hby d9_5) rfl hr) ?_
  show Rch p.tables e below _ (s₁.setTop (mkF m 6 #[.val (.ref a), .val (.ref z), .val (.int (0 : Int32)), .val (.int (3 : Int32))] [(.int (0 : Int32))]))
  refine Rch.st (fun _ hr => XS.iloadN X0.here hx rfl (hb hby d9_6) rfl hr) ?_
  refine Rch.st (fun _ hr => XS.icmpNo X0.here hx rfl (hb hby d9_7) rfl (tlt (by decide : (0 : Int32) < (3 : Int32))).2.1 hr) ?_
  refine Rch.st (fun _ hr => XS.aloadN X0.here hx rfl (hb hby d9_10) rfl rfl hr) ?_
  refine Rch.st (fun _ hr => XS.iloadN X0.here hx rfl (hb hby d9_11) rfl hr) ?_
  refine Rch.st (fun _ hr => XS.aloadN X0.here hx rfl (hb hby d9_12) rfl rfl hr) ?_
  obtain ⟨cl2, Ar2, qk2, Sz2, Ng2, Ha2, Gf2⟩ := id zP1
  have hin2 := inb_of (j := (0 : Int32)) Sz2 ⟨by decide, by decide⟩
  obtain ⟨T3, h3, X3, e3, W3, st3⟩ := stR X0 hx hZ e0 Ar2 (j := (0 : Int32)) hin2 rfl (Sto.ofV Ar2 qk2 zP2 (Ins.self zP3)) (g := (mkF m 13 #[.val (.ref a), .val (.ref z), .val (.int (0 : Int32)), .val (.int (3 : Int32))] [(.ref z), (.int (0 : Int32)), (.ref a)])) rfl rfl (hb hby d9_13)
  refine Rch.st st3 ?_
  have N3 := Fr.snoc X3 N0 zP4
  have ne4 := (Exa.neArv zP3 zP1 (own_w hw 81 rfl))
  have K5 := (Keep.refl h0 [a]).wr W3 (Or.inl (List.mem_of_getElem? (i := 0) rfl))
  have V3 : Arv Z h3 a kf (.object "java/math/BigDecimal") (3 : Int32) [(.ref z), .null, .null] .null := Arv.set Ar2 qk2 Sz2 Ng2 Ha2 Gf2 rfl W3 0 rfl (Nat.le_of_ble_eq_true rfl)
  show Rch p.tables e below _ (T3.setTop (mkF m 14 #[.val (.ref a), .val (.ref z), .val (.int (0 : Int32)), .val (.int (3 : Int32))] []))
  refine Rch.st (fun _ hr => XS.iinc X3.here hx rfl (hb hby d9_14) rfl (l' := #[.val (.ref a), .val (.ref z), .val (.int (1 : Int32)), .val (.int (3 : Int32))]) rfl hr) ?_
  refine Rch.st (fun _ hr => XS.goto X3.here hx rfl (pc0 := 17) (pc' := 5) rfl (hb hby d9_17) (by decide) (by decide) hr) ?_
  refine Rch.st (fun _ hr => XS.iloadN X3.here hx rfl (hb hby d9_5) rfl hr) ?_
  refine Rch.st (fun _ hr => XS.iloadN X3.here hx rfl (hb hby d9_6) rfl hr) ?_
  refine Rch.st (fun _ hr => XS.icmpNo X3.here hx rfl (hb hby d9_7) rfl (tlt (by decide : (1 : Int32) < (3 : Int32))).2.1 hr) ?_
  refine Rch.st (fun _ hr => XS.aloadN X3.here hx rfl (hb hby d9_10) rfl rfl hr) ?_
  show Rch p.tables e below _ (T3.setTop (mkF m 11 #[.val (.ref a), .val (.ref z), .val (.int (1 : Int32)), .val (.int (3 : Int32))] [(.ref a)]))
  refine Rch.st (fun _ hr => XS.iloadN X3.here hx rfl (hb hby d9_11) rfl hr) ?_
  refine Rch.st (fun _ hr => XS.aloadN X3.here hx rfl (hb hby d9_12) rfl rfl hr) ?_
  obtain ⟨cl6, Ar6, qk6, Sz6, Ng6, Ha6, Gf6⟩ := id V3
  have hin6 := inb_of (j := (1 : Int32)) Sz6 ⟨by decide, by decide⟩
  have f7 := (zP3.wr W3)
  obtain ⟨T8, h8, X8, e8, W8, st8⟩ := stR X3 hx hZ e3 Ar6 (j := (1 : Int32)) hin6 rfl (Sto.ofV Ar6 qk6 zP2 (Ins.self f7)) (g := (mkF m 13 #[.val (.ref a), .val (.ref z), .val (.int (1 : Int32)), .val (.int (3 : Int32))] [(.ref z), (.int (1 : Int32)), (.ref a)])) rfl rfl (hb hby d9_13)
  refine Rch.st st8 ?_
  have N8 := Fr.snoc X8 N3 zP4
  have f9 := (zP0.wr W3 zP4)
  have K10 := K5.wr W8 (Or.inl (List.mem_of_getElem? (i := 0) rfl))
  have V8 : Arv Z h8 a kf (.object "java/math/BigDecimal") (3 : Int32) [(.ref z), (.ref z), .null] .null := Arv.set Ar6 qk6 Sz6 Ng6 Ha6 Gf6 rfl W8 1 rfl (Nat.le_of_ble_eq_true rfl)
  refine Rch.st (fun _ hr => XS.iinc X8.here hx rfl (hb hby d9_14) rfl (l' := #[.val (.ref a), .val (.ref z), .val (.int (2 : Int32)), .val (.int (3 : Int32))]) rfl hr) ?_
  refine Rch.st (fun _ hr => XS.goto X8.here hx rfl (pc0 := 17) (pc' := 5) rfl (hb hby d9_17) (by decide) (by decide) hr) ?_
  refine Rch.st (fun _ hr => XS.iloadN X8.here hx rfl (hb hby d9_5) rfl hr) ?_
  show Rch p.tables e below _ (T8.setTop (mkF m 6 #[.val (.ref a), .val (.ref z), .val (.int (2 : Int32)), .val (.int (3 : Int32))] [(.int (2 : Int32))]))
  refine Rch.st (fun _ hr => XS.iloadN X8.here hx rfl (hb hby d9_6) rfl hr) ?_
  refine Rch.st (fun _ hr => XS.icmpNo X8.here hx rfl (hb hby d9_7) rfl (tlt (by decide : (2 : Int32) < (3 : Int32))).2.1 hr) ?_
  refine Rch.st (fun _ hr => XS.aloadN X8.here hx rfl (hb hby d9_10) rfl rfl hr) ?_
  refine Rch.st (fun _ hr => XS.iloadN X8.here hx rfl (hb hby d9_11) rfl hr) ?_
  refine Rch.st (fun _ hr => XS.aloadN X8.here hx rfl (hb hby d9_12) rfl rfl hr) ?_
  obtain ⟨cl11, Ar11, qk11, Sz11, Ng11, Ha11, Gf11⟩ := id V8
  have hin11 := inb_of (j := (2 : Int32)) Sz11 ⟨by decide, by decide⟩
  have f12 := (f7.wr W8)
  obtain ⟨T13, h13, X13, e13, W13, st13⟩ := stR X8 hx hZ e8 Ar11 (j := (2 : Int32)) hin11 rfl (Sto.ofV Ar11 qk11 zP2 (Ins.self f12)) (g := (mkF m 13 #[.val (.ref a), .val (.ref z), .val (.int (2 : Int32)), .val (.int (3 : Int32))] [(.ref z), (.int (2 : Int32)), (.ref a)])) rfl rfl (hb hby d9_13)
  refine Rch.st st13 ?_
  have N13 := Fr.snoc X13 N8 zP4
  have f14 := (f9.wr W8 zP4)
  have K15 := K10.wr W13 (Or.inl (List.mem_of_getElem? (i := 0) rfl))
  have V13 : Arv Z h13 a kf (.object "java/math/BigDecimal") (3 : Int32) [(.ref z), (.ref z), (.ref z)] .null := Arv.set Ar11 qk11 Sz11 Ng11 Ha11 Gf11 rfl W13 2 rfl (Nat.le_of_ble_eq_true rfl)
  show Rch p.tables e below _ (T13.setTop (mkF m 14 #[.val (.ref a), .val (.ref z), .val (.int (2 : Int32)), .val (.int (3 : Int32))] []))
  refine Rch.st (fun _ hr => XS.iinc X13.here hx rfl (hb hby d9_14) rfl (l' := #[.val (.ref a), .val (.ref z), .val (.int (3 : Int32)), .val (.int (3 : Int32))]) rfl hr) ?_
  refine Rch.st (fun _ hr => XS.goto X13.here hx rfl (pc0 := 17) (pc' := 5) rfl (hb hby d9_17) (by decide) (by decide) hr) ?_
  refine Rch.st (fun _ hr => XS.iloadN X13.here hx rfl (hb hby d9_5) rfl hr) ?_
  refine Rch.st (fun _ hr => XS.iloadN X13.here hx rfl (hb hby d9_6) rfl hr) ?_
  refine Rch.st (fun _ hr => XS.icmpYes X13.here hx rfl (pc0 := 7) (pc' := 20) rfl (hb hby d9_7) rfl (flt (by decide : ¬ ((3 : Int32) < (3 : Int32)))).2.1 (by decide) (by decide) hr) ?_
  obtain ⟨fs, hr, hrun, hended, hW, hsame⟩ := X13.leave (v := none) (fun _ => rfl)
  have f16 := (f14.wr W13 zP4)
  refine Rch.fin (u := T13.setFrames fs) (X13.returnOut hx Bd.returns (hb hby d9_20) hr) ⟨_, hrun, hended, _, _, rfl, ?_, ⟨_, rfl⟩, hW, hsame.mono (by decide) (by decide)⟩
  show Q_cfill3 Z a kf z h0 n0 _ T13.heap _
  rw [e13]
  exact ⟨rfl, N13, K15, f16, V13⟩
abbrev Rm_cledger3 : Room := { frames := 3, cells := 2, slots := 6, locals := 42 }
def Q_cledger3 (Z : State) (lg : Addr) (a : Addr) (d : Addr) (kd : ClassId) (ea : Addr) (eb : Addr) (ec : Addr) (r0 : Addr) (r1 : Addr) (r2 : Addr) (zz : Addr) (h0 : Heap) (n0 : Nat) (v : Option Value) (h : Heap) (L : List Loc) : Prop := ∃ (sp : Addr) (ks : ClassId) (rm : Addr) (kr : ClassId), v = none ∧ Fr n0 L ∧ Keep h0 h [lg] ∧ Old Z n0 h ∧ Exa Z h lg "com/example/slotwright/slotwright/Ledger" ∧ Fld Z h lg "com/example/slotwright/slotwright/Ledger" "spent" "[Ljava/math/BigDecimal;" (.ref sp) ∧ Fld Z h lg "com/example/slotwright/slotwright/Ledger" "remaining" "[Ljava/math/BigDecimal;" (.ref rm) ∧ h0.size ≤ sp ∧ h0.size ≤ rm ∧ Arv Z h sp ks (.object "java/math/BigDecimal") (3 : Int32) [(.ref zz), (.ref zz), (.ref zz)] .null ∧ Arv Z h rm kr (.object "java/math/BigDecimal") (3 : Int32) [(.ref r0), (.ref r1), (.ref r2)] .null ∧ Ovr Z ks "java/math/BigDecimal" ∧ Ovr Z kr "java/math/BigDecimal" ∧ sp ≠ rm
theorem ef_cledger3 (m : MethodId) (lg : Addr) (a : Addr) (d : Addr) (kd : ClassId) (ea : Addr) (eb : Addr) (ec : Addr) (r0 : Addr) (r1 : Addr) (r2 : Addr) (zz : Addr) : entryFrame m #[(.ref lg), (.ref a)] 3 = mkF m 0 #[.val (.ref lg), .val (.ref a), .unset] [] := by first | (simp [entryFrame, mkF, argsToLocals, Value.category]; done) | rfl
set_option maxRecDepth 65536 in
set_option maxHeartbeats 40000000 in
theorem cledger3 (l : Launch) (Z : State) (a0 : Array Value) (hw : ∀ d ∈ tables_1, d.before a0 Z = true) (ws : List Jvm.Cond) (lg : Addr) (a : Addr) (d : Addr) (kd : ClassId) (ea : Addr) (eb : Addr) (ec : Addr) (r0 : Addr) (r1 : Addr) (r2 : Addr) (zz : Addr) (h0 : Heap) (n0 : Nat) (zD0 : Sta Z Z.heap "java/math/BigDecimal" "ZERO" "Ljava/math/BigDecimal;" (.ref zz)) (zD1 : BDc Z Z.heap zz (0 : Int64) (0 : Int32)) (zP0 : Old Z n0 h0) (zP1 : Exa Z h0 lg "com/example/slotwright/slotwright/Ledger") (zP2 : Fld Z h0 lg "com/example/slotwright/slotwright/Ledger" "advertisers" "Ljava/util/List;" .null) (zP3 : Fld Z h0 lg "com/example/slotwright/slotwright/Ledger" "spent" "[Ljava/math/BigDecimal;" .null) (zP4 : Fld Z h0 lg "com/example/slotwright/slotwright/Ledger" "remaining" "[Ljava/math/BigDecimal;" .null) (zP5 : n0 ≤ lg) (zP6 : Exa Z h0 a "java/util/ArrayList") (zP7 : Fld Z h0 a "java/util/ArrayList" "size" "I" (.int (3 : Int32))) (zP8 : Fld Z h0 a "java/util/ArrayList" "elementData" "[Ljava/lang/Object;" (.ref d)) (zP9 : Arv Z h0 d kd (.object "java/lang/Object") (10 : Int32) [(.ref ea), (.ref eb), (.ref ec), .null, .null, .null, .null, .null, .null, .null] .null) (zP10 : Exa Z h0 ea "com/example/slotwright/slotwright/Market$Advertiser") (zP11 : Fld Z h0 ea "com/example/slotwright/slotwright/Market$Advertiser" "budget" "Ljava/math/BigDecimal;" (.ref r0)) (zP12 : Exa Z h0 r0 "java/math/BigDecimal") (zP13 : Exa Z h0 eb "com/example/slotwright/slotwright/Market$Advertiser") (zP14 : Fld Z h0 eb "com/example/slotwright/slotwright/Market$Advertiser" "budget" "Ljava/math/BigDecimal;" (.ref r1)) (zP15 : Exa Z h0 r1 "java/math/BigDecimal") (zP16 : Exa Z h0 ec "com/example/slotwright/slotwright/Market$Advertiser") (zP17 : Fld Z h0 ec "com/example/slotwright/slotwright/Market$Advertiser" "budget" "Ljava/math/BigDecimal;" (.ref r2)) (zP18 : Exa Z h0 r2 "java/math/BigDecimal") :
    MetFree l (⟨"com/example/slotwright/slotwright/Ledger", "<init>", "(Ljava/util/List;)V"⟩ : MethodName) (head1 (Jvm.Cond.code (⟨"com/example/slotwright/slotwright/Ledger", "<init>", "(Ljava/util/List;)V"⟩ : MethodName) prog_23_method_1_code 3 none :: ws) Rm_cledger3) (fun aA uU => aA = #[(.ref lg), (.ref a)] ∧ Z.Warmed39 uU.vm ∧ uU.heap = h0) (fun _ _ _ _ _ => True) (fun _ uU oO uU' => ∃ vV lL, oO = .returned vV ∧ Q_cledger3 Z lg a d kd ea eb ec r0 r1 r2 zz h0 n0 vV uU'.heap lL ∧ FrameEnd uU oO uU' lL Rm_cledger3.cells Rm_cledger3.slots) := by
  refine MetFree.of_bodySF (plainFor_of_name pn_com_example_slotwright_slotwright_Ledger) hisR ?_
  intro p e s m args below meth c s₁ Bd hml0 hP hK
  obtain ⟨rfl, hZ, hh⟩ := hP
  have hx := Bd.exec
  have hby := Bd.bytes
  have hml : c.maxLocals = 3 := hml0
  have hown : s.vm.findClass "com/example/slotwright/slotwright/Ledger" = some m.cls := findClass_of_methodNamed Bd.named
  have hnm := (name_of_methodNamed Bd.named Bd.method).1
  have X0 : Stand p l e Rm_cledger3 s m #[(.ref lg), (.ref a)] below meth c s₁ [] 0 0 := Stand.of_body Bd
  have e0 : s₁.heap = h0 := by rw [← hh, Bd.state]; rfl
  have N0 := Fr.nil n0
  refine Rch.out (Rch.st (fun t k => castTop (ef_cledger3 m lg a d kd ea eb ec r0 r1 r2 zz) k) ?_)
  show Rch p.tables e below _ (s₁.setTop (mkF m 0 #[.val (.ref lg), .val (.ref a), .unset] []))
  refine Rch.st (fun _ hr => XS.aloadN X0.here hx rfl (hb hby d7_0) rfl rfl hr) ?_
  obtain ⟨T1, X1, e1, st1⟩ := initO X0 hx hZ hown (own_w hw 40 rfl) (own_w hw 19 rfl) (own_w hw 20 rfl) e0 (g := (mkF m 1 #[.val (.ref lg), .val (.ref a), .unset] [(.ref lg)])) rfl (by rw [hml]; rfl) rfl (hb hby d7_1) (by decide) (W := 0) (own_mr rfl rfl) (by decide)
  refine Rch.st st1 ?_
  refine Rch.st (fun _ hr => XS.aloadN X1.here hx rfl (hb hby d7_4) rfl rfl hr) ?_
  refine Rch.st (fun _ hr => XS.aloadN X1.here hx rfl (hb hby d7_5) rfl rfl hr) ?_
  obtain ⟨T2, h2, X2, e2, W2, st2⟩ := putF X1 hx hZ hown (host := "") (Or.inl (own_w hw 41 rfl)) Via.refl e1 zP2 zP1 (Or.inr ⟨(own_w hw 42 rfl), rfl, hnm⟩) (own_w hw 35 rfl) (ty := (.object "java/util/List")) (by decide) rfl rfl (g := (mkF m 6 #[.val (.ref lg), .val (.ref a), .unset] [(.ref a), (.ref lg)])) rfl rfl (hb hby d7_6)
  refine Rch.st st2 ?_
  have N2 := Fr.snoc X2 N0 zP5
  have ne3 := (Exa.ne zP6 zP1 (by decide))
  have ne4 := (Ne.symm (Exa.neArv zP1 zP9 (own_w hw 35 rfl)))
  have ne5 := (Exa.ne zP10 zP1 (by decide))
  have ne6 := (Exa.ne zP12 zP1 (by decide))
  have ne7 := (Exa.ne zP13 zP1 (by decide))
  have ne8 := (Exa.ne zP15 zP1 (by decide))
  have ne9 := (Exa.ne zP16 zP1 (by decide))
  have ne10 := (Exa.ne zP18 zP1 (by decide))
  have K11 := (Keep.refl h0 [lg]).wr W2 (Or.inl (List.mem_of_getElem? (i := 0) rfl))
  have Fw2 := zP2.same W2
  refine Rch.st (fun _ hr => XS.aloadN X2.here hx rfl (hb hby d7_9) rfl rfl hr) ?_
  show Rch p.tables e below _ (T2.setTop (mkF m 10 #[.val (.ref lg), .val (.ref a), .unset] [(.ref lg)]))
  refine Rch.st (fun _ hr => XS.aloadN X2.here hx rfl (hb hby d7_10) rfl rfl hr) ?_
  have f13 := (zP6.wr W2)
  have f14 := (zP7.other W2 (Or.inl ne3))
  show Rch p.tables e below _ (T2.setTop (mkF m 11 #[.val (.ref lg), .val (.ref a), .unset] [(.ref a), (.ref lg)]))
  refine own_kF X2 hx hZ (xi := Y_22) (y := Y_23) hown (own_w hw 43 rfl) (own_w hw 44 rfl) (mvT hZ (own_w hw 45 rfl)) (own_w hw 46 rfl) (own_w hw 47 rfl) (own_w hw 48 rfl) (own_w hw 49 rfl) (own_w hw 50 rfl) (own_w hw 2 rfl) (own_w hw 51 rfl) (by decide) (W := 1) (csize l Z a0 hw [] a (3 : Int32) h2 n0 f14) (by decide) (by decide) e2 f13 (by decide) (by decide)  (by rw [hml]; rfl) (argsL := []) (rest := [(.ref lg)]) (lenOf pd_11 rfl) rfl rfl (hb hby d7_11) rfl (fun _ T12 Lc12 X12 hQ12 => ?_)
  obtain ⟨rfl, N12q, e12⟩ := hQ12
  have N12 := Fr.app N2 N12q
  obtain ⟨T15, h15, k15, X15, e15, E15, A15, O15, st15⟩ := newR X12 hx hZ hown (own_w hw 54 rfl) (own_w hw 55 rfl) e12 (g := (mkF m 16 #[.val (.ref lg), .val (.ref a), .unset] [(.int (3 : Int32)), (.ref lg)])) rfl (hb hby d7_16) rfl (by decide) (cap := 3) (by decide) (by decide) (by decide) (by decide)
  obtain ⟨b15, g15⟩ : ∃ z, z = h2.size := ⟨_, rfl⟩
  rw [← g15] at A15 st15
  refine Rch.st st15 ?_
  have q15 : h2.size ≤ b15 := Nat.le_of_eq g15.symm
  have f16 := (zP4.other W2 (Or.inr (slot_ne (Or.inr (own_w hw 59 rfl)) (Or.inr (own_w hw 42 rfl)) (by decide) (t := (.array (.object "java/math/BigDecimal"))) (t' := (.object "java/util/List")) (by decide) (by decide))))
  have ne17 := Nat.ne_of_lt (Nat.lt_of_lt_of_le f16.lt q15)
  have f18 := (zP8.other W2 (Or.inl ne3))
  have ne19 := Nat.ne_of_lt (Nat.lt_of_lt_of_le f18.lt q15)
  have f20 := (zP9.other W2 ne4)
  have ne21 := Nat.ne_of_lt (Nat.lt_of_lt_of_le f20.lt q15)
  have f22 := (zP11.other W2 (Or.inl ne5))
  have ne23 := Nat.ne_of_lt (Nat.lt_of_lt_of_le f22.lt q15)
  have f24 := (zP12.wr W2)
  have ne25 := Nat.ne_of_lt (Nat.lt_of_lt_of_le f24.lt q15)
  have f26 := (zP14.other W2 (Or.inl ne7))
  have ne27 := Nat.ne_of_lt (Nat.lt_of_lt_of_le f26.lt q15)
  have f28 := (zP15.wr W2)
  have ne29 := Nat.ne_of_lt (Nat.lt_of_lt_of_le f28.lt q15)
  have f30 := (zP17.other W2 (Or.inl ne9))
  have ne31 := Nat.ne_of_lt (Nat.lt_of_lt_of_le f30.lt q15)
  have f32 := (zP18.wr W2)
  have ne33 := Nat.ne_of_lt (Nat.lt_of_lt_of_le f32.lt q15)
  have f34 := (zP0.wr W2 zP5)
  have g_b15 : n0 ≤ b15 := Nat.le_trans (Nat.le_trans (Nat.le_of_eq f34.1.symm) f34.2.1) q15
  have sz_b15 : h0.size ≤ b15 := Nat.le_trans K11.1 q15
  have K35 := K11.ext E15
  have V15 : Arv Z h15 b15 k15 (.object "java/math/BigDecimal") (3 : Int32) [.null, .null, .null] .null := (Arv.new A15 (by decide)).pad (pad_rep [] .null 3)
  have f36 := ((zP3.other W2 (Or.inr (slot_ne (Or.inr (own_w hw 57 rfl)) (Or.inr (own_w hw 42 rfl)) (by decide) (t := (.array (.object "java/math/BigDecimal"))) (t' := (.object "java/util/List")) (by decide) (by decide)))).ext E15)
  have f37 := ((zP1.wr W2).ext E15)
  obtain ⟨T38, h38, X38, e38, W38, st38⟩ := putF X15 hx hZ hown (host := "") (Or.inl (own_w hw 56 rfl)) Via.refl e15 f36 f37 (Or.inr ⟨(own_w hw 57 rfl), rfl, hnm⟩) (own_w hw 35 rfl) (ty := (.array (.object "java/math/BigDecimal"))) (by decide) rfl rfl (g := (mkF m 19 #[.val (.ref lg), .val (.ref a), .unset] [(.ref b15), (.ref lg)])) rfl rfl (hb hby d7_19)
  refine Rch.st st38 ?_
  have N38 := Fr.snoc X38 N12 zP5
  have f39 := (f34.ext E15)
  have K40 := K35.wr W38 (Or.inl (List.mem_of_getElem? (i := 0) rfl))
  have Fw38 := f36.same W38
  refine Rch.st (fun _ hr => XS.aloadN X38.here hx rfl (hb hby d7_22) rfl rfl hr) ?_
  refine Rch.st (fun _ hr => XS.aloadN X38.here hx rfl (hb hby d7_23) rfl rfl hr) ?_
  show Rch p.tables e below _ (T38.setTop (mkF m 24 #[.val (.ref lg), .val (.ref a), .unset] [(.ref a), (.ref lg)]))
  have f42 := ((f13.ext E15).wr W38)
  have f43 := ((f14.ext E15).other W38 (Or.inl ne3))
  show Rch p.tables e below _ (T38.setTop (mkF m 24 #[.val (.ref lg), .val (.ref a), .unset] [(.ref a), (.ref lg)]))
  refine own_kF X38 hx hZ (xi := Y_22) (y := Y_23) hown (own_w hw 43 rfl) (own_w hw 44 rfl) (mvT hZ (own_w hw 45 rfl)) (own_w hw 46 rfl) (own_w hw 47 rfl) (own_w hw 48 rfl) (own_w hw 49 rfl) (own_w hw 50 rfl) (own_w hw 2 rfl) (own_w hw 51 rfl) (by decide) (W := 1) (csize l Z a0 hw [] a (3 : Int32) h38 n0 f43) (by decide) (by decide) e38 f42 (by decide) (by decide)  (by rw [hml]; rfl) (argsL := []) (rest := [(.ref lg)]) (lenOf pd_11 rfl) rfl rfl (hb hby d7_24) rfl (fun _ T41 Lc41 X41 hQ41 => ?_)
  obtain ⟨rfl, N41q, e41⟩ := hQ41
  have N41 := Fr.app N38 N41q
  obtain ⟨T44, h44, k44, X44, e44, E44, A44, O44, st44⟩ := newR X41 hx hZ hown (own_w hw 54 rfl) (own_w hw 55 rfl) e41 (g := (mkF m 29 #[.val (.ref lg), .val (.ref a), .unset] [(.int (3 : Int32)), (.ref lg)])) rfl (hb hby d7_29) rfl (by decide) (cap := 3) (by decide) (by decide) (by decide) (by decide)
  obtain ⟨b44, g44⟩ : ∃ z, z = h38.size := ⟨_, rfl⟩
  rw [← g44] at A44 st44
  refine Rch.st st44 ?_
  have q44 : h38.size ≤ b44 := Nat.le_of_eq g44.symm
  have f45 := ((f16.ext E15).other W38 (Or.inr (slot_ne (Or.inr (own_w hw 59 rfl)) (Or.inr (own_w hw 57 rfl)) (by decide) (t := (.array (.object "java/math/BigDecimal"))) (t' := (.array (.object "java/math/BigDecimal"))) (by decide) (by decide))))
  have ne46 := Nat.ne_of_lt (Nat.lt_of_lt_of_le f45.lt q44)
  have f47 := ((f18.ext E15).other W38 (Or.inl ne3))
  have ne48 := Nat.ne_of_lt (Nat.lt_of_lt_of_le f47.lt q44)
  have f49 := ((f20.ext E15).other W38 ne4)
  have ne50 := Nat.ne_of_lt (Nat.lt_of_lt_of_le f49.lt q44)
  have f51 := ((f22.ext E15).other W38 (Or.inl ne5))
  have ne52 := Nat.ne_of_lt (Nat.lt_of_lt_of_le f51.lt q44)
  have f53 := ((f24.ext E15).wr W38)
  have ne54 := Nat.ne_of_lt (Nat.lt_of_lt_of_le f53.lt q44)
  have f55 := ((f26.ext E15).other W38 (Or.inl ne7))
  have ne56 := Nat.ne_of_lt (Nat.lt_of_lt_of_le f55.lt q44)
  have f57 := ((f28.ext E15).wr W38)
  have ne58 := Nat.ne_of_lt (Nat.lt_of_lt_of_le f57.lt q44)
  have f59 := ((f30.ext E15).other W38 (Or.inl ne9))
  have ne60 := Nat.ne_of_lt (Nat.lt_of_lt_of_le f59.lt q44)
  have f61 := ((f32.ext E15).wr W38)
  have ne62 := Nat.ne_of_lt (Nat.lt_of_lt_of_le f61.lt q44)
  have f63 := (V15.other W38 (Ne.symm ne17))
  have ne64 := Nat.ne_of_lt (Nat.lt_of_lt_of_le f63.lt q44)
  have f65 := (f39.wr W38 zP5)
  have g_b44 : n0 ≤ b44 := Nat.le_trans (Nat.le_trans (Nat.le_of_eq f65.1.symm) f65.2.1) q44
  have sz_b44 : h0.size ≤ b44 := Nat.le_trans K40.1 q44
  have K66 := K40.ext E44
  have V44 : Arv Z h44 b44 k44 (.object "java/math/BigDecimal") (3 : Int32) [.null, .null, .null] .null := (Arv.new A44 (by decide)).pad (pad_rep [] .null 3)
  have f67 := (f45.ext E44)
  have f68 := ((f37.wr W38).ext E44)
  obtain ⟨T69, h69, X69, e69, W69, st69⟩ := putF X44 hx hZ hown (host := "") (Or.inl (own_w hw 58 rfl)) Via.refl e44 f67 f68 (Or.inr ⟨(own_w hw 59 rfl), rfl, hnm⟩) (own_w hw 35 rfl) (ty := (.array (.object "java/math/BigDecimal"))) (by decide) rfl rfl (g := (mkF m 32 #[.val (.ref lg), .val (.ref a), .unset] [(.ref b44), (.ref lg)])) rfl rfl (hb hby d7_32)
  refine Rch.st st69 ?_
  have N69 := Fr.snoc X69 N41 zP5
  have f70 := (f65.ext E44)
  have K71 := K66.wr W69 (Or.inl (List.mem_of_getElem? (i := 0) rfl))
  have Fw69 := f67.same W69
  refine Rch.st (fun _ hr => XS.aloadN X69.here hx rfl (hb hby d7_35) rfl rfl hr) ?_
  have f72 := ((Fw38.ext E44).other W69 (Or.inr (slot_ne (Or.inr (own_w hw 57 rfl)) (Or.inr (own_w hw 59 rfl)) (by decide) (t := (.array (.object "java/math/BigDecimal"))) (t' := (.array (.object "java/math/BigDecimal"))) (by decide) (by decide))))
  obtain ⟨T73, X73, e73, st73⟩ := getF X69 hx hZ hown (host := "") (Or.inl (own_w hw 56 rfl)) Via.refl e69 f72 (g := (mkF m 36 #[.val (.ref lg), .val (.ref a), .unset] [(.ref lg)])) rfl rfl (hb hby d7_36)
  refine Rch.st st73 ?_
  have f74 := (f70.wr W69 zP5)
  obtain ⟨T75, X75, e75, st75⟩ := getS2 X73 hx hZ hown (host := "") (Or.inl (own_w hw 60 rfl)) Via.refl e73 (zD0.ext f74.2) (g := (mkF m 39 #[.val (.ref lg), .val (.ref a), .unset] [(.ref b15)])) rfl (hb hby d7_39)
  refine Rch.st st75 ?_
  show Rch p.tables e below _ (T75.setTop (mkF m 42 #[.val (.ref lg), .val (.ref a), .unset] [(.ref zz), (.ref b15)]))
  have f77 := ((f63.ext E44).other W69 (Ne.symm ne17))
  have f78 := O15
  show Rch p.tables e below _ (T75.setTop (mkF m 42 #[.val (.ref lg), .val (.ref a), .unset] [(.ref zz), (.ref b15)]))
  refine own_kS X75 hx hZ (y := Y_24) hown (own_w hw 61 rfl) (own_w hw 62 rfl) (own_w hw 63 rfl) (own_w hw 64 rfl) (by decide) (W := 0) (cfill3 l Z a0 hw [] b15 k15 zz h69 n0 f74 f77 f78 (zD1.1.ext f74.2) g_b15) (by decide) (by decide) e75 (by decide) (by decide)  (by rw [hml]; rfl) (argsL := [(.ref b15), (.ref zz)]) (rest := []) (lenOf pd_18 rfl) rfl rfl (hb hby d7_42) rfl (fun _ T76 Lc76 X76 hQ76 => ?_)
  obtain ⟨rfl, N76q, Kp76, Op76, R76_0⟩ := hQ76
  have N76 := Fr.app N69 N76q
  have K79 := K71.trans Kp76 (allS (Or.inr sz_b15) all0)
  refine Rch.st (fun _ hr => XS.iconst X76.here hx rfl (hb hby d7_45) hr) ?_
  refine Rch.st (fun _ hr => XS.istoreN X76.here hx rfl (hb hby d7_46) rfl (l' := #[.val (.ref lg), .val (.ref a), .val (.int (0 : Int32))]) rfl hr) ?_
  refine Rch.st (fun _ hr => XS.iloadN X76.here hx rfl (hb hby d7_47) rfl hr) ?_
  refine Rch.st (fun _ hr => XS.aloadN X76.here hx rfl (hb hby d7_48) rfl rfl hr) ?_
  have f80 := (Fw69.keep Kp76 (ninS ne17 nin0))
  obtain ⟨T81, X81, e81, st81⟩ := getF X76 hx hZ hown (host := "") (Or.inl (own_w hw 58 rfl)) Via.refl rfl f80 (g := (mkF m 49 #[.val (.ref lg), .val (.ref a), .val (.int (0 : Int32))] [(.ref lg), (.int (0 : Int32))])) rfl rfl (hb hby d7_49)
  refine Rch.st st81 ?_
  show Rch p.tables e below _ (T81.setTop (mkF m 52 #[.val (.ref lg), .val (.ref a), .val (.int (0 : Int32))] [(.ref b44), (.int (0 : Int32))]))
  have f82 := ((V44.other W69 (Ne.symm ne46)).keep Kp76 (ninS (Ne.symm ne64) nin0))
  obtain ⟨cl83, Ar83, -, Sz83, Ng83, -, -⟩ := id f82
  refine Rch.st (fun t hr => X81.arraylength hx (by rw [e81]; exact Ar83.1) (State.isArrayOf_alike hZ.alike Ar83.2.1) (g := (mkF m 52 #[.val (.ref lg), .val (.ref a), .val (.int (0 : Int32))] [(.ref b44), (.int (0 : Int32))])) rfl rfl (hb hby d7_52) t hr) ?_
  rw [len_of Sz83 Ng83]
  refine Rch.st (fun _ hr => XS.icmpNo X81.here hx rfl (hb hby d7_53) rfl (tlt (by decide : (0 : Int32) < (3 : Int32))).2.1 hr) ?_
  refine Rch.st (fun _ hr => XS.aloadN X81.here hx rfl (hb hby d7_56) rfl rfl hr) ?_
  obtain ⟨T84, X84, e84, st84⟩ := getF X81 hx hZ hown (host := "") (Or.inl (own_w hw 58 rfl)) Via.refl e81 f80 (g := (mkF m 57 #[.val (.ref lg), .val (.ref a), .val (.int (0 : Int32))] [(.ref lg)])) rfl rfl (hb hby d7_57)
  refine Rch.st st84 ?_
  refine Rch.st (fun _ hr => XS.iloadN X84.here hx rfl (hb hby d7_60) rfl hr) ?_
  refine Rch.st (fun _ hr => XS.aloadN X84.here hx rfl (hb hby d7_61) rfl rfl hr) ?_
  show Rch p.tables e below _ (T84.setTop (mkF m 62 #[.val (.ref lg), .val (.ref a), .val (.int (0 : Int32))] [(.ref a), (.int (0 : Int32)), (.ref b44)]))
  refine Rch.st (fun _ hr => XS.iloadN X84.here hx rfl (hb hby d7_62) rfl hr) ?_
  have f86 := (((f42.ext E44).wr W69).keep Kp76)
  have f87 := (((f47.ext E44).other W69 (Or.inl ne3)).keep Kp76 (ninS ne19 nin0))
  have f88 := (((f43.ext E44).other W69 (Or.inl ne3)).keep Kp76 (ninS ne19 nin0))
  have f89 := (((f49.ext E44).other W69 ne4).keep Kp76 (ninS ne21 nin0))
  show Rch p.tables e below _ (T84.setTop (mkF m 63 #[.val (.ref lg), .val (.ref a), .val (.int (0 : Int32))] [(.int (0 : Int32)), (.ref a), (.int (0 : Int32)), (.ref b44)]))
  refine own_kF X84 hx hZ (xi := Y_25) (y := Y_26) hown (own_w hw 166 rfl) (own_w hw 167 rfl) (mvT hZ (own_w hw 168 rfl)) (own_w hw 169 rfl) (own_w hw 170 rfl) (own_w hw 171 rfl) (own_w hw 172 rfl) (own_w hw 50 rfl) (own_w hw 2 rfl) (own_w hw 173 rfl) (by decide) (W := 2) (cget3_0 l Z a0 hw [] a d kd ea eb ec T76.heap n0 f86 f87 f88 f89) (by decide) (by decide) e84 f86 (by decide) (by decide)  (by rw [hml]; rfl) (argsL := [(.int (0 : Int32))]) (rest := [(.int (0 : Int32)), (.ref b44)]) (lenOf pd_17 rfl) rfl rfl (hb hby d7_63) rfl (fun _ T85 Lc85 X85 hQ85 => ?_)
  obtain ⟨rfl, N85q, e85⟩ := hQ85
  have N85 := Fr.app N76 N85q
  have f90 := ((((((zP10.wr W2).ext E15).wr W38).ext E44).wr W69).keep Kp76)
  obtain ⟨T91, X91, e91, st91⟩ := castY X85 hx hZ hown (own_w hw 187 rfl) e85 (Ins.self f90) (g := (mkF m 68 #[.val (.ref lg), .val (.ref a), .val (.int (0 : Int32))] [(.ref ea), (.int (0 : Int32)), (.ref b44)])) rfl rfl (hb hby d7_68)
  refine Rch.st st91 ?_
  have f93 := (((f51.ext E44).other W69 (Or.inl ne5)).keep Kp76 (ninS ne23 nin0))
  show Rch p.tables e below _ (T91.setTop (mkF m 71 #[.val (.ref lg), .val (.ref a), .val (.int (0 : Int32))] [(.ref ea), (.int (0 : Int32)), (.ref b44)]))
  refine own_kV X91 hx hZ (y := Y_27) (z := Y_27) hown (own_w hw 189 rfl) (own_w hw 190 rfl) (notFace_of_selects (args := #[]) (mvT hZ (own_w hw 192 rfl))) (own_w hw 192 rfl) (own_w hw 191 rfl) (own_w hw 112 rfl) (own_w hw 193 rfl) (by decide) (W := 2) (cbudget l Z a0 hw [] ea r0 T76.heap n0 f93) (by decide) (by decide) e91 f90 (by decide) (by decide)  (by rw [hml]; rfl) (argsL := []) (rest := [(.int (0 : Int32)), (.ref b44)]) (lenOf pd_19 rfl) rfl rfl (hb hby d7_71) rfl (fun _ T92 Lc92 X92 hQ92 => ?_)
  obtain ⟨rfl, N92q, e92⟩ := hQ92
  have N92 := Fr.app N85 N92q
  obtain ⟨cl94, Ar94, qk94, Sz94, Ng94, Ha94, Gf94⟩ := id f82
  have hin94 := inb_of (j := (0 : Int32)) Sz94 ⟨by decide, by decide⟩
  have f95 := (((f53.ext E44).wr W69).keep Kp76)
  obtain ⟨T96, h96, X96, e96, W96, st96⟩ := stR X92 hx hZ e92 Ar94 (j := (0 : Int32)) hin94 rfl (Sto.ofV Ar94 qk94 O44 (Ins.self f95)) (g := (mkF m 74 #[.val (.ref lg), .val (.ref a), .val (.int (0 : Int32))] [(.ref r0), (.int (0 : Int32)), (.ref b44)])) rfl rfl (hb hby d7_74)
  refine Rch.st st96 ?_
  have N96 := Fr.snoc X96 N92 g_b44
  have K97 := K79.wr W96 (Or.inr sz_b44)
  have V96 : Arv Z h96 b44 k44 (.object "java/math/BigDecimal") (3 : Int32) [(.ref r0), .null, .null] .null := Arv.set Ar94 qk94 Sz94 Ng94 Ha94 Gf94 rfl W96 0 rfl (Nat.le_of_ble_eq_true rfl)
  refine Rch.st (fun _ hr => XS.iinc X96.here hx rfl (hb hby d7_75) rfl (l' := #[.val (.ref lg), .val (.ref a), .val (.int (1 : Int32))]) rfl hr) ?_
  show Rch p.tables e below _ (T96.setTop (mkF m 78 #[.val (.ref lg), .val (.ref a), .val (.int (1 : Int32))] []))
  refine Rch.st (fun _ hr => XS.goto X96.here hx rfl (pc0 := 78) (pc' := 47) rfl (hb hby d7_78) (by decide) (by decide) hr) ?_
  refine Rch.st (fun _ hr => XS.iloadN X96.here hx rfl (hb hby d7_47) rfl hr) ?_
  refine Rch.st (fun _ hr => XS.aloadN X96.here hx rfl (hb hby d7_48) rfl rfl hr) ?_
  have f98 := (f80.other W96 (Or.inl ne46))
  obtain ⟨T99, X99, e99, st99⟩ := getF X96 hx hZ hown (host := "") (Or.inl (own_w hw 58 rfl)) Via.refl e96 f98 (g := (mkF m 49 #[.val (.ref lg), .val (.ref a), .val (.int (1 : Int32))] [(.ref lg), (.int (1 : Int32))])) rfl rfl (hb hby d7_49)
  refine Rch.st st99 ?_
  obtain ⟨cl100, Ar100, -, Sz100, Ng100, -, -⟩ := id V96
  refine Rch.st (fun t hr => X99.arraylength hx (by rw [e99]; exact Ar100.1) (State.isArrayOf_alike hZ.alike Ar100.2.1) (g := (mkF m 52 #[.val (.ref lg), .val (.ref a), .val (.int (1 : Int32))] [(.ref b44), (.int (1 : Int32))])) rfl rfl (hb hby d7_52) t hr) ?_
  rw [len_of Sz100 Ng100]
  refine Rch.st (fun _ hr => XS.icmpNo X99.here hx rfl (hb hby d7_53) rfl (tlt (by decide : (1 : Int32) < (3 : Int32))).2.1 hr) ?_
  show Rch p.tables e below _ (T99.setTop (mkF m 56 #[.val (.ref lg), .val (.ref a), .val (.int (1 : Int32))] []))
  refine Rch.st (fun _ hr => XS.aloadN X99.here hx rfl (hb hby d7_56) rfl rfl hr) ?_
  obtain ⟨T101, X101, e101, st101⟩ := getF X99 hx hZ hown (host := "") (Or.inl (own_w hw 58 rfl)) Via.refl e99 f98 (g := (mkF m 57 #[.val (.ref lg), .val (.ref a), .val (.int (1 : Int32))] [(.ref lg)])) rfl rfl (hb hby d7_57)
  refine Rch.st st101 ?_
  refine Rch.st (fun _ hr => XS.iloadN X101.here hx rfl (hb hby d7_60) rfl hr) ?_
  refine Rch.st (fun _ hr => XS.aloadN X101.here hx rfl (hb hby d7_61) rfl rfl hr) ?_
  refine Rch.st (fun _ hr => XS.iloadN X101.here hx rfl (hb hby d7_62) rfl hr) ?_
  have f103 := (f86.wr W96)
  have f104 := (f87.other W96 (Or.inl ne48))
  have f105 := (f88.other W96 (Or.inl ne48))
  have f106 := (f89.other W96 ne50)
  show Rch p.tables e below _ (T101.setTop (mkF m 63 #[.val (.ref lg), .val (.ref a), .val (.int (1 : Int32))] [(.int (1 : Int32)), (.ref a), (.int (1 : Int32)), (.ref b44)]))
  refine own_kF X101 hx hZ (xi := Y_25) (y := Y_26) hown (own_w hw 166 rfl) (own_w hw 167 rfl) (mvT hZ (own_w hw 168 rfl)) (own_w hw 169 rfl) (own_w hw 170 rfl) (own_w hw 171 rfl) (own_w hw 172 rfl) (own_w hw 50 rfl) (own_w hw 2 rfl) (own_w hw 173 rfl) (by decide) (W := 2) (cget3_1 l Z a0 hw [] a d kd ea eb ec h96 n0 f103 f104 f105 f106) (by decide) (by decide) e101 f103 (by decide) (by decide)  (by rw [hml]; rfl) (argsL := [(.int (1 : Int32))]) (rest := [(.int (1 : Int32)), (.ref b44)]) (lenOf pd_17 rfl) rfl rfl (hb hby d7_63) rfl (fun _ T102 Lc102 X102 hQ102 => ?_)
  obtain ⟨rfl, N102q, e102⟩ := hQ102
  have N102 := Fr.app N96 N102q
  show Rch p.tables e below _ (T102.setTop (mkF m 68 #[.val (.ref lg), .val (.ref a), .val (.int (1 : Int32))] [(.ref eb), (.int (1 : Int32)), (.ref b44)]))
  have f107 := (((((((zP13.wr W2).ext E15).wr W38).ext E44).wr W69).keep Kp76).wr W96)
  obtain ⟨T108, X108, e108, st108⟩ := castY X102 hx hZ hown (own_w hw 187 rfl) e102 (Ins.self f107) (g := (mkF m 68 #[.val (.ref lg), .val (.ref a), .val (.int (1 : Int32))] [(.ref eb), (.int (1 : Int32)), (.ref b44)])) rfl rfl (hb hby d7_68)
  refine Rch.st st108 ?_
  have f110 := ((((f55.ext E44).other W69 (Or.inl ne7)).keep Kp76 (ninS ne27 nin0)).other W96 (Or.inl ne56))
  show Rch p.tables e below _ (T108.setTop (mkF m 71 #[.val (.ref lg), .val (.ref a), .val (.int (1 : Int32))] [(.ref eb), (.int (1 : Int32)), (.ref b44)]))
  refine own_kV X108 hx hZ (y := Y_27) (z := Y_27) hown (own_w hw 189 rfl) (own_w hw 190 rfl) (notFace_of_selects (args := #[]) (mvT hZ (own_w hw 192 rfl))) (own_w hw 192 rfl) (own_w hw 191 rfl) (own_w hw 112 rfl) (own_w hw 193 rfl) (by decide) (W := 2) (cbudget l Z a0 hw [] eb r1 h96 n0 f110) (by decide) (by decide) e108 f107 (by decide) (by decide)  (by rw [hml]; rfl) (argsL := []) (rest := [(.int (1 : Int32)), (.ref b44)]) (lenOf pd_19 rfl) rfl rfl (hb hby d7_71) rfl (fun _ T109 Lc109 X109 hQ109 => ?_)
  obtain ⟨rfl, N109q, e109⟩ := hQ109
  have N109 := Fr.app N102 N109q
  obtain ⟨cl111, Ar111, qk111, Sz111, Ng111, Ha111, Gf111⟩ := id V96
  have hin111 := inb_of (j := (1 : Int32)) Sz111 ⟨by decide, by decide⟩
  have f112 := ((((f57.ext E44).wr W69).keep Kp76).wr W96)
  obtain ⟨T113, h113, X113, e113, W113, st113⟩ := stR X109 hx hZ e109 Ar111 (j := (1 : Int32)) hin111 rfl (Sto.ofV Ar111 qk111 O44 (Ins.self f112)) (g := (mkF m 74 #[.val (.ref lg), .val (.ref a), .val (.int (1 : Int32))] [(.ref r1), (.int (1 : Int32)), (.ref b44)])) rfl rfl (hb hby d7_74)
  refine Rch.st st113 ?_
  have N113 := Fr.snoc X113 N109 g_b44
  have f114 := (Op76.wr W96 g_b44)
  have K115 := K97.wr W113 (Or.inr sz_b44)
  have V113 : Arv Z h113 b44 k44 (.object "java/math/BigDecimal") (3 : Int32) [(.ref r0), (.ref r1), .null] .null := Arv.set Ar111 qk111 Sz111 Ng111 Ha111 Gf111 rfl W113 1 rfl (Nat.le_of_ble_eq_true rfl)
  refine Rch.st (fun _ hr => XS.iinc X113.here hx rfl (hb hby d7_75) rfl (l' := #[.val (.ref lg), .val (.ref a), .val (.int (2 : Int32))]) rfl hr) ?_
  refine Rch.st (fun _ hr => XS.goto X113.here hx rfl (pc0 := 78) (pc' := 47) rfl (hb hby d7_78) (by decide) (by decide) hr) ?_
  refine Rch.st (fun _ hr => XS.iloadN X113.here hx rfl (hb hby d7_47) rfl hr) ?_
  show Rch p.tables e below _ (T113.setTop (mkF m 48 #[.val (.ref lg), .val (.ref a), .val (.int (2 : Int32))] [(.int (2 : Int32))]))
  refine Rch.st (fun _ hr => XS.aloadN X113.here hx rfl (hb hby d7_48) rfl rfl hr) ?_
  have f116 := (f98.other W113 (Or.inl ne46))
  obtain ⟨T117, X117, e117, st117⟩ := getF X113 hx hZ hown (host := "") (Or.inl (own_w hw 58 rfl)) Via.refl e113 f116 (g := (mkF m 49 #[.val (.ref lg), .val (.ref a), .val (.int (2 : Int32))] [(.ref lg), (.int (2 : Int32))])) rfl rfl (hb hby d7_49)
  refine Rch.st st117 ?_
  obtain ⟨cl118, Ar118, -, Sz118, Ng118, -, -⟩ := id V113
  refine Rch.st (fun t hr => X117.arraylength hx (by rw [e117]; exact Ar118.1) (State.isArrayOf_alike hZ.alike Ar118.2.1) (g := (mkF m 52 #[.val (.ref lg), .val (.ref a), .val (.int (2 : Int32))] [(.ref b44), (.int (2 : Int32))])) rfl rfl (hb hby d7_52) t hr) ?_
  rw [len_of Sz118 Ng118]
  refine Rch.st (fun _ hr => XS.icmpNo X117.here hx rfl (hb hby d7_53) rfl (tlt (by decide : (2 : Int32) < (3 : Int32))).2.1 hr) ?_
  refine Rch.st (fun _ hr => XS.aloadN X117.here hx rfl (hb hby d7_56) rfl rfl hr) ?_
  obtain ⟨T119, X119, e119, st119⟩ := getF X117 hx hZ hown (host := "") (Or.inl (own_w hw 58 rfl)) Via.refl e117 f116 (g := (mkF m 57 #[.val (.ref lg), .val (.ref a), .val (.int (2 : Int32))] [(.ref lg)])) rfl rfl (hb hby d7_57)
  refine Rch.st st119 ?_
  show Rch p.tables e below _ (T119.setTop (mkF m 60 #[.val (.ref lg), .val (.ref a), .val (.int (2 : Int32))] [(.ref b44)]))
  refine Rch.st (fun _ hr => XS.iloadN X119.here hx rfl (hb hby d7_60) rfl hr) ?_
  refine Rch.st (fun _ hr => XS.aloadN X119.here hx rfl (hb hby d7_61) rfl rfl hr) ?_
  refine Rch.st (fun _ hr => XS.iloadN X119.here hx rfl (hb hby d7_62) rfl hr) ?_
  have f121 := (f103.wr W113)
  have f122 := (f104.other W113 (Or.inl ne48))
  have f123 := (f105.other W113 (Or.inl ne48))
  have f124 := (f106.other W113 ne50)
  show Rch p.tables e below _ (T119.setTop (mkF m 63 #[.val (.ref lg), .val (.ref a), .val (.int (2 : Int32))] [(.int (2 : Int32)), (.ref a), (.int (2 : Int32)), (.ref b44)]))
  refine own_kF X119 hx hZ (xi := Y_25) (y := Y_26) hown (own_w hw 166 rfl) (own_w hw 167 rfl) (mvT hZ (own_w hw 168 rfl)) (own_w hw 169 rfl) (own_w hw 170 rfl) (own_w hw 171 rfl) (own_w hw 172 rfl) (own_w hw 50 rfl) (own_w hw 2 rfl) (own_w hw 173 rfl) (by decide) (W := 2) (cget3_2 l Z a0 hw [] a d kd ea eb ec h113 n0 f121 f122 f123 f124) (by decide) (by decide) e119 f121 (by decide) (by decide)  (by rw [hml]; rfl) (argsL := [(.int (2 : Int32))]) (rest := [(.int (2 : Int32)), (.ref b44)]) (lenOf pd_17 rfl) rfl rfl (hb hby d7_63) rfl (fun _ T120 Lc120 X120 hQ120 => ?_)
  obtain ⟨rfl, N120q, e120⟩ := hQ120
  have N120 := Fr.app N113 N120q
  have f125 := ((((((((zP16.wr W2).ext E15).wr W38).ext E44).wr W69).keep Kp76).wr W96).wr W113)
  obtain ⟨T126, X126, e126, st126⟩ := castY X120 hx hZ hown (own_w hw 187 rfl) e120 (Ins.self f125) (g := (mkF m 68 #[.val (.ref lg), .val (.ref a), .val (.int (2 : Int32))] [(.ref ec), (.int (2 : Int32)), (.ref b44)])) rfl rfl (hb hby d7_68)
  refine Rch.st st126 ?_
  have f128 := (((((f59.ext E44).other W69 (Or.inl ne9)).keep Kp76 (ninS ne31 nin0)).other W96 (Or.inl ne60)).other W113 (Or.inl ne60))
  show Rch p.tables e below _ (T126.setTop (mkF m 71 #[.val (.ref lg), .val (.ref a), .val (.int (2 : Int32))] [(.ref ec), (.int (2 : Int32)), (.ref b44)]))
  refine own_kV X126 hx hZ (y := Y_27) (z := Y_27) hown (own_w hw 189 rfl) (own_w hw 190 rfl) (notFace_of_selects (args := #[]) (mvT hZ (own_w hw 192 rfl))) (own_w hw 192 rfl) (own_w hw 191 rfl) (own_w hw 112 rfl) (own_w hw 193 rfl) (by decide) (W := 2) (cbudget l Z a0 hw [] ec r2 h113 n0 f128) (by decide) (by decide) e126 f125 (by decide) (by decide)  (by rw [hml]; rfl) (argsL := []) (rest := [(.int (2 : Int32)), (.ref b44)]) (lenOf pd_19 rfl) rfl rfl (hb hby d7_71) rfl (fun _ T127 Lc127 X127 hQ127 => ?_)
  obtain ⟨rfl, N127q, e127⟩ := hQ127
  have N127 := Fr.app N120 N127q
  show Rch p.tables e below _ (T127.setTop (mkF m 74 #[.val (.ref lg), .val (.ref a), .val (.int (2 : Int32))] [(.ref r2), (.int (2 : Int32)), (.ref b44)]))
  obtain ⟨cl129, Ar129, qk129, Sz129, Ng129, Ha129, Gf129⟩ := id V113
  have hin129 := inb_of (j := (2 : Int32)) Sz129 ⟨by decide, by decide⟩
  have f130 := (((((f61.ext E44).wr W69).keep Kp76).wr W96).wr W113)
  obtain ⟨T131, h131, X131, e131, W131, st131⟩ := stR X127 hx hZ e127 Ar129 (j := (2 : Int32)) hin129 rfl (Sto.ofV Ar129 qk129 O44 (Ins.self f130)) (g := (mkF m 74 #[.val (.ref lg), .val (.ref a), .val (.int (2 : Int32))] [(.ref r2), (.int (2 : Int32)), (.ref b44)])) rfl rfl (hb hby d7_74)
  refine Rch.st st131 ?_
  have N131 := Fr.snoc X131 N127 g_b44
  have f132 := (f114.wr W113 g_b44)
  have K133 := K115.wr W131 (Or.inr sz_b44)
  have V131 : Arv Z h131 b44 k44 (.object "java/math/BigDecimal") (3 : Int32) [(.ref r0), (.ref r1), (.ref r2)] .null := Arv.set Ar129 qk129 Sz129 Ng129 Ha129 Gf129 rfl W131 2 rfl (Nat.le_of_ble_eq_true rfl)
  refine Rch.st (fun _ hr => XS.iinc X131.here hx rfl (hb hby d7_75) rfl (l' := #[.val (.ref lg), .val (.ref a), .val (.int (3 : Int32))]) rfl hr) ?_
  refine Rch.st (fun _ hr => XS.goto X131.here hx rfl (pc0 := 78) (pc' := 47) rfl (hb hby d7_78) (by decide) (by decide) hr) ?_
  refine Rch.st (fun _ hr => XS.iloadN X131.here hx rfl (hb hby d7_47) rfl hr) ?_
  refine Rch.st (fun _ hr => XS.aloadN X131.here hx rfl (hb hby d7_48) rfl rfl hr) ?_
  have f134 := (f116.other W131 (Or.inl ne46))
  obtain ⟨T135, X135, e135, st135⟩ := getF X131 hx hZ hown (host := "") (Or.inl (own_w hw 58 rfl)) Via.refl e131 f134 (g := (mkF m 49 #[.val (.ref lg), .val (.ref a), .val (.int (3 : Int32))] [(.ref lg), (.int (3 : Int32))])) rfl rfl (hb hby d7_49)
  refine Rch.st st135 ?_
  show Rch p.tables e below _ (T135.setTop (mkF m 52 #[.val (.ref lg), .val (.ref a), .val (.int (3 : Int32))] [(.ref b44), (.int (3 : Int32))]))
  obtain ⟨cl136, Ar136, -, Sz136, Ng136, -, -⟩ := id V131
  refine Rch.st (fun t hr => X135.arraylength hx (by rw [e135]; exact Ar136.1) (State.isArrayOf_alike hZ.alike Ar136.2.1) (g := (mkF m 52 #[.val (.ref lg), .val (.ref a), .val (.int (3 : Int32))] [(.ref b44), (.int (3 : Int32))])) rfl rfl (hb hby d7_52) t hr) ?_
  rw [len_of Sz136 Ng136]
  refine Rch.st (fun _ hr => XS.icmpYes X135.here hx rfl (pc0 := 53) (pc' := 81) rfl (hb hby d7_53) rfl (flt (by decide : ¬ ((3 : Int32) < (3 : Int32)))).2.1 (by decide) (by decide) hr) ?_
  obtain ⟨fs, hr, hrun, hended, hW, hsame⟩ := X135.leave (v := none) (fun _ => rfl)
  have f137 := (f132.wr W131 g_b44)
  have f138 := (((((f68.wr W69).keep Kp76).wr W96).wr W113).wr W131)
  have f139 := ((((f72.keep Kp76 (ninS ne17 nin0)).other W96 (Or.inl ne46)).other W113 (Or.inl ne46)).other W131 (Or.inl ne46))
  have f140 := (((R76_0.other W96 ne64).other W113 ne64).other W131 ne64)
  have f141 := f78
  have f142 := O44
  refine Rch.fin (u := T135.setFrames fs) (X135.returnOut hx Bd.returns (hb hby d7_81) hr) ⟨_, hrun, hended, _, _, rfl, ?_, ⟨_, rfl⟩, hW, hsame.mono (by decide) (by decide)⟩
  show Q_cledger3 Z lg a d kd ea eb ec r0 r1 r2 zz h0 n0 _ T135.heap _
  rw [e135]
  exact ⟨b15, k15, b44, k44, rfl, N131, K133, f137, f138, f139, f134, sz_b15, sz_b44, f140, V131, f141, f142, ne64⟩
abbrev Rm_crev3 : Room := { frames := 8, cells := 3, slots := 15, locals := 123 }
def Q_crev3 (Z : State) (lg : Addr) (sp : Addr) (ks : ClassId) (s0 : Addr) (s1 : Addr) (s2 : Addr) (x0 : Int64) (x1 : Int64) (x2 : Int64) (sc : Int32) (kb : Int) (wz : Addr) (wy : Addr) (zz : Addr) (h0 : Heap) (n0 : Nat) (v : Option Value) (h : Heap) (L : List Loc) : Prop := ∃ (r : Addr), v = some (.ref r) ∧ Fr n0 L ∧ Keep h0 h [] ∧ Old Z n0 h ∧ BE Z h r ((((0 : Int64) + x0) + x1) + x2) sc (((kb + kb) + kb) + kb)
theorem ef_crev3 (m : MethodId) (lg : Addr) (sp : Addr) (ks : ClassId) (s0 : Addr) (s1 : Addr) (s2 : Addr) (x0 : Int64) (x1 : Int64) (x2 : Int64) (sc : Int32) (kb : Int) (wz : Addr) (wy : Addr) (zz : Addr) : entryFrame m #[(.ref lg)] 6 = mkF m 0 #[.val (.ref lg), .unset, .unset, .unset, .unset, .unset] [] := by first | (simp [entryFrame, mkF, argsToLocals, Value.category]; done) | rfl
set_option maxRecDepth 65536 in
set_option maxHeartbeats 40000000 in
theorem crev3 (l : Launch) (Z : State) (a0 : Array Value) (hw : ∀ d ∈ tables_1, d.before a0 Z = true) (ws : List Jvm.Cond) (lg : Addr) (sp : Addr) (ks : ClassId) (s0 : Addr) (s1 : Addr) (s2 : Addr) (x0 : Int64) (x1 : Int64) (x2 : Int64) (sc : Int32) (kb : Int) (wz : Addr) (wy : Addr) (zz : Addr) (h0 : Heap) (n0 : Nat) (zD0 : Sta Z Z.heap "java/math/BigDecimal" "ZERO_THROUGH_TEN" "[Ljava/math/BigDecimal;" (.ref wz)) (zD1 : ZTab Z Z.heap wz) (zD2 : Sta Z Z.heap "java/math/BigDecimal" "ZERO_SCALED_BY" "[Ljava/math/BigDecimal;" (.ref wy)) (zD3 : STab Z Z.heap wy) (zD4 : Sta Z Z.heap "java/math/BigDecimal" "ZERO" "Ljava/math/BigDecimal;" (.ref zz)) (zD5 : BDc Z Z.heap zz (0 : Int64) (0 : Int32)) (zP0 : Old Z n0 h0) (zP1 : Fld Z h0 lg "com/example/slotwright/slotwright/Ledger" "spent" "[Ljava/math/BigDecimal;" (.ref sp)) (zP2 : Arv Z h0 sp ks (.object "java/math/BigDecimal") (3 : Int32) [(.ref s0), (.ref s1), (.ref s2)] .null) (zP3 : BE Z h0 s0 x0 sc kb) (zP4 : BE Z h0 s1 x1 sc kb) (zP5 : BE Z h0 s2 x2 sc kb) (hs : own_S sc) (h0k : 0 ≤ kb) (hk : kb ≤ 100) :
    MetFree l (⟨"com/example/slotwright/slotwright/Ledger", "revenue", "()Ljava/math/BigDecimal;"⟩ : MethodName) (head1 (Jvm.Cond.code (⟨"com/example/slotwright/slotwright/Ledger", "revenue", "()Ljava/math/BigDecimal;"⟩ : MethodName) prog_23_method_8_code 6 (some (.object "java/math/BigDecimal")) :: ws) Rm_crev3) (fun aA uU => aA = #[(.ref lg)] ∧ Z.Warmed39 uU.vm ∧ uU.heap = h0) (fun _ _ _ _ _ => True) (fun _ uU oO uU' => ∃ vV lL, oO = .returned vV ∧ Q_crev3 Z lg sp ks s0 s1 s2 x0 x1 x2 sc kb wz wy zz h0 n0 vV uU'.heap lL ∧ FrameEnd uU oO uU' lL Rm_crev3.cells Rm_crev3.slots) := by
  refine MetFree.of_bodySF (plainFor_of_name pn_com_example_slotwright_slotwright_Ledger) hisR ?_
  intro p e s m args below meth c s₁ Bd hml0 hP hK
  obtain ⟨rfl, hZ, hh⟩ := hP
  have hx := Bd.exec
  have hby := Bd.bytes
  have hml : c.maxLocals = 6 := hml0
  have hown : s.vm.findClass "com/example/slotwright/slotwright/Ledger" = some m.cls := findClass_of_methodNamed Bd.named
  have hnm := (name_of_methodNamed Bd.named Bd.method).1
  have X0 : Stand p l e Rm_crev3 s m #[(.ref lg)] below meth c s₁ [] 0 0 := Stand.of_body Bd
  have e0 : s₁.heap = h0 := by rw [← hh, Bd.state]; rfl
  have N0 := Fr.nil n0
  refine Rch.out (Rch.st (fun t k => castTop (ef_crev3 m lg sp ks s0 s1 s2 x0 x1 x2 sc kb wz wy zz) k) ?_)
  show Rch p.tables e below _ (s₁.setTop (mkF m 0 #[.val (.ref lg), .unset, .unset, .unset, .unset, .unset] []))
  have Bzz : BE Z h0 zz (0 : Int64) sc kb := BE.zero (zD5.ext zP0.2) h0k
  obtain ⟨T1, X1, e1, st1⟩ := getS2 X0 hx hZ hown (host := "") (Or.inl (own_w hw 60 rfl)) Via.refl e0 (zD4.ext zP0.2) (g := (mkF m 0 #[.val (.ref lg), .unset, .unset, .unset, .unset, .unset] [])) rfl (hb hby d10_0)
  refine Rch.st st1 ?_
  refine Rch.st (fun _ hr => XS.astoreN X1.here hx rfl (hb hby d10_3) rfl rfl (l' := #[.val (.ref lg), .val (.ref zz), .unset, .unset, .unset, .unset]) rfl hr) ?_
  refine Rch.st (fun _ hr => XS.aloadN X1.here hx rfl (hb hby d10_4) rfl rfl hr) ?_
  obtain ⟨T2, X2, e2, st2⟩ := getF X1 hx hZ hown (host := "") (Or.inl (own_w hw 56 rfl)) Via.refl e1 zP1 (g := (mkF m 5 #[.val (.ref lg), .val (.ref zz), .unset, .unset, .unset, .unset] [(.ref lg)])) rfl rfl (hb hby d10_5)
  refine Rch.st st2 ?_
  refine Rch.st (fun _ hr => XS.astoreN X2.here hx rfl (hb hby d10_8) rfl rfl (l' := #[.val (.ref lg), .val (.ref zz), .val (.ref sp), .unset, .unset, .unset]) rfl hr) ?_
  refine Rch.st (fun _ hr => XS.aloadN X2.here hx rfl (hb hby d10_9) rfl rfl hr) ?_
  show Rch p.tables e below _ (T2.setTop (mkF m 10 #[.val (.ref lg), .val (.ref zz), .val (.ref sp), .unset, .unset, .unset] [(.ref sp)]))
  obtain ⟨cl3, Ar3, -, Sz3, Ng3, -, -⟩ := id zP2
  refine Rch.st (fun t hr => X2.arraylength hx (by rw [e2]; exact Ar3.1) (State.isArrayOf_alike hZ.alike Ar3.2.1) (g := (mkF m 10 #[.val (.ref lg), .val (.ref zz), .val (.ref sp), .unset, .unset, .unset] [(.ref sp)])) rfl rfl (hb hby d10_10) t hr) ?_
  rw [len_of Sz3 Ng3]
  refine Rch.st (fun _ hr => XS.istoreN X2.here hx rfl (hb hby d10_11) rfl (l' := #[.val (.ref lg), .val (.ref zz), .val (.ref sp), .val (.int (3 : Int32)), .unset, .unset]) rfl hr) ?_
  refine Rch.st (fun _ hr => XS.iconst X2.here hx rfl (hb hby d10_12) hr) ?_
  refine Rch.st (fun _ hr => XS.istore X2.here hx rfl (hb hby d10_13) rfl (l' := #[.val (.ref lg), .val (.ref zz), .val (.ref sp), .val (.int (3 : Int32)), .val (.int (0 : Int32)), .unset]) rfl hr) ?_
  refine Rch.st (fun _ hr => XS.iload X2.here hx rfl (hb hby d10_15) rfl hr) ?_
  refine Rch.st (fun _ hr => XS.iloadN X2.here hx rfl (hb hby d10_17) rfl hr) ?_
  show Rch p.tables e below _ (T2.setTop (mkF m 18 #[.val (.ref lg), .val (.ref zz), .val (.ref sp), .val (.int (3 : Int32)), .val (.int (0 : Int32)), .unset] [(.int (3 : Int32)), (.int (0 : Int32))]))
  refine Rch.st (fun _ hr => XS.icmpNo X2.here hx rfl (hb hby d10_18) rfl (tlt (by decide : (0 : Int32) < (3 : Int32))).2.1 hr) ?_
  refine Rch.st (fun _ hr => XS.aloadN X2.here hx rfl (hb hby d10_21) rfl rfl hr) ?_
  refine Rch.st (fun _ hr => XS.iload X2.here hx rfl (hb hby d10_22) rfl hr) ?_
  obtain ⟨cl4, Ar4, -, Sz4, Ng4, Ha4, -⟩ := id zP2
  have hin4 := inb_of (j := (0 : Int32)) Sz4 ⟨by decide, by decide⟩
  have hat4 := Ha4.at hin4 (v := (.ref s0)) rfl
  refine Rch.st (fun t hr => X2.aaload hx (j := (0 : Int32)) (v := (.ref s0)) (by rw [e2]; exact Ar4.1) (State.isArrayOf_alike hZ.alike Ar4.2.1) rfl Ar4.2.2 hin4 hat4 (g := (mkF m 24 #[.val (.ref lg), .val (.ref zz), .val (.ref sp), .val (.int (3 : Int32)), .val (.int (0 : Int32)), .unset] [(.int (0 : Int32)), (.ref sp)])) rfl rfl (hb hby d10_24) t hr) ?_
  refine Rch.st (fun _ hr => XS.astore X2.here hx rfl (hb hby d10_25) rfl rfl (l' := #[.val (.ref lg), .val (.ref zz), .val (.ref sp), .val (.int (3 : Int32)), .val (.int (0 : Int32)), .val (.ref s0)]) rfl hr) ?_
  refine Rch.st (fun _ hr => XS.aloadN X2.here hx rfl (hb hby d10_27) rfl rfl hr) ?_
  show Rch p.tables e below _ (T2.setTop (mkF m 28 #[.val (.ref lg), .val (.ref zz), .val (.ref sp), .val (.int (3 : Int32)), .val (.int (0 : Int32)), .val (.ref s0)] [(.ref zz)]))
  refine Rch.st (fun _ hr => XS.aload X2.here hx rfl (hb hby d10_28) rfl rfl hr) ?_
  show Rch p.tables e below _ (T2.setTop (mkF m 30 #[.val (.ref lg), .val (.ref zz), .val (.ref sp), .val (.int (3 : Int32)), .val (.int (0 : Int32)), .val (.ref s0)] [(.ref s0), (.ref zz)]))
  refine own_kV X2 hx hZ (y := Y_28) (z := Y_28) hown (own_w hw 194 rfl) (own_w hw 195 rfl) (notFace_of_selects (args := #[]) (mvT hZ (own_w hw 197 rfl))) (own_w hw 197 rfl) (own_w hw 196 rfl) (own_w hw 28 rfl) (own_w hw 198 rfl) (by decide) (W := 0) (cadds l Z a0 hw [] zz s0 (0 : Int64) x0 sc kb kb wz wy h0 n0 zD0 zD1 zD2 zD3 zP0 Bzz zP3 hs (by omega)) (by decide) (by decide) e2 (zD5.1.ext zP0.2) (by decide) (by decide)  (by rw [hml]; rfl) (argsL := [(.ref s0)]) (rest := []) (lenOf pd_20 rfl) rfl rfl (hb hby d10_30) rfl (fun _ T5 Lc5 X5 hQ5 => ?_)
  obtain ⟨r_5, rfl, N5q, Kp5, Op5, R5_0⟩ := hQ5
  have N5 := Fr.app N0 N5q
  have K6 := (Keep.refl h0 []).trans Kp5 all0
  refine Rch.st (fun _ hr => XS.astoreN X5.here hx rfl (hb hby d10_33) rfl rfl (l' := #[.val (.ref lg), .val (.ref r_5), .val (.ref sp), .val (.int (3 : Int32)), .val (.int (0 : Int32)), .val (.ref s0)]) rfl hr) ?_
  refine Rch.st (fun _ hr => XS.iinc X5.here hx rfl (hb hby d10_34) rfl (l' := #[.val (.ref lg), .val (.ref r_5), .val (.ref sp), .val (.int (3 : Int32)), .val (.int (1 : Int32)), .val (.ref s0)]) rfl hr) ?_
  refine Rch.st (fun _ hr => XS.goto X5.here hx rfl (pc0 := 37) (pc' := 15) rfl (hb hby d10_37) (by decide) (by decide) hr) ?_
  refine Rch.st (fun _ hr => XS.iload X5.here hx rfl (hb hby d10_15) rfl hr) ?_
  show Rch p.tables e below _ (T5.setTop (mkF m 17 #[.val (.ref lg), .val (.ref r_5), .val (.ref sp), .val (.int (3 : Int32)), .val (.int (1 : Int32)), .val (.ref s0)] [(.int (1 : Int32))]))
  refine Rch.st (fun _ hr => XS.iloadN X5.here hx rfl (hb hby d10_17) rfl hr) ?_
  refine Rch.st (fun _ hr => XS.icmpNo X5.here hx rfl (hb hby d10_18) rfl (tlt (by decide : (1 : Int32) < (3 : Int32))).2.1 hr) ?_
  refine Rch.st (fun _ hr => XS.aloadN X5.here hx rfl (hb hby d10_21) rfl rfl hr) ?_
  refine Rch.st (fun _ hr => XS.iload X5.here hx rfl (hb hby d10_22) rfl hr) ?_
  have f7 := (zP2.keep Kp5 nin0)
  obtain ⟨cl8, Ar8, -, Sz8, Ng8, Ha8, -⟩ := id f7
  have hin8 := inb_of (j := (1 : Int32)) Sz8 ⟨by decide, by decide⟩
  have hat8 := Ha8.at hin8 (v := (.ref s1)) rfl
  refine Rch.st (fun t hr => X5.aaload hx (j := (1 : Int32)) (v := (.ref s1)) Ar8.1 (State.isArrayOf_alike hZ.alike Ar8.2.1) rfl Ar8.2.2 hin8 hat8 (g := (mkF m 24 #[.val (.ref lg), .val (.ref r_5), .val (.ref sp), .val (.int (3 : Int32)), .val (.int (1 : Int32)), .val (.ref s0)] [(.int (1 : Int32)), (.ref sp)])) rfl rfl (hb hby d10_24) t hr) ?_
  refine Rch.st (fun _ hr => XS.astore X5.here hx rfl (hb hby d10_25) rfl rfl (l' := #[.val (.ref lg), .val (.ref r_5), .val (.ref sp), .val (.int (3 : Int32)), .val (.int (1 : Int32)), .val (.ref s1)]) rfl hr) ?_
  show Rch p.tables e below _ (T5.setTop (mkF m 27 #[.val (.ref lg), .val (.ref r_5), .val (.ref sp), .val (.int (3 : Int32)), .val (.int (1 : Int32)), .val (.ref s1)] []))
  refine Rch.st (fun _ hr => XS.aloadN X5.here hx rfl (hb hby d10_27) rfl rfl hr) ?_
  refine Rch.st (fun _ hr => XS.aload X5.here hx rfl (hb hby d10_28) rfl rfl hr) ?_
  have f10 := (zP4.keep Kp5 nin0)
  show Rch p.tables e below _ (T5.setTop (mkF m 30 #[.val (.ref lg), .val (.ref r_5), .val (.ref sp), .val (.int (3 : Int32)), .val (.int (1 : Int32)), .val (.ref s1)] [(.ref s1), (.ref r_5)]))
  refine own_kV X5 hx hZ (y := Y_28) (z := Y_28) hown (own_w hw 194 rfl) (own_w hw 195 rfl) (notFace_of_selects (args := #[]) (mvT hZ (own_w hw 197 rfl))) (own_w hw 197 rfl) (own_w hw 196 rfl) (own_w hw 28 rfl) (own_w hw 198 rfl) (by decide) (W := 0) (cadds l Z a0 hw [] r_5 s1 ((0 : Int64) + x0) x1 sc (kb + kb) kb wz wy T5.heap n0 zD0 zD1 zD2 zD3 Op5 R5_0 f10 hs (by omega)) (by decide) (by decide) rfl R5_0.1 (by decide) (by decide)  (by rw [hml]; rfl) (argsL := [(.ref s1)]) (rest := []) (lenOf pd_20 rfl) rfl rfl (hb hby d10_30) rfl (fun _ T9 Lc9 X9 hQ9 => ?_)
  obtain ⟨r_9, rfl, N9q, Kp9, Op9, R9_0⟩ := hQ9
  have N9 := Fr.app N5 N9q
  have K11 := K6.trans Kp9 all0
  refine Rch.st (fun _ hr => XS.astoreN X9.here hx rfl (hb hby d10_33) rfl rfl (l' := #[.val (.ref lg), .val (.ref r_9), .val (.ref sp), .val (.int (3 : Int32)), .val (.int (1 : Int32)), .val (.ref s1)]) rfl hr) ?_
  refine Rch.st (fun _ hr => XS.iinc X9.here hx rfl (hb hby d10_34) rfl (l' := #[.val (.ref lg), .val (.ref r_9), .val (.ref sp), .val (.int (3 : Int32)), .val (.int (2 : Int32)), .val (.ref s1)]) rfl hr) ?_
  refine Rch.st (fun _ hr => XS.goto X9.here hx rfl (pc0 := 37) (pc' := 15) rfl (hb hby d10_37) (by decide) (by decide) hr) ?_
  show Rch p.tables e below _ (T9.setTop (mkF m 15 #[.val (.ref lg), .val (.ref r_9), .val (.ref sp), .val (.int (3 : Int32)), .val (.int (2 : Int32)), .val (.ref s1)] []))
  refine Rch.st (fun _ hr => XS.iload X9.here hx rfl (hb hby d10_15) rfl hr) ?_
  refine Rch.st (fun _ hr => XS.iloadN X9.here hx rfl (hb hby d10_17) rfl hr) ?_
  refine Rch.st (fun _ hr => XS.icmpNo X9.here hx rfl (hb hby d10_18) rfl (tlt (by decide : (2 : Int32) < (3 : Int32))).2.1 hr) ?_
  refine Rch.st (fun _ hr => XS.aloadN X9.here hx rfl (hb hby d10_21) rfl rfl hr) ?_
  refine Rch.st (fun _ hr => XS.iload X9.here hx rfl (hb hby d10_22) rfl hr) ?_
  have f12 := (f7.keep Kp9 nin0)
  obtain ⟨cl13, Ar13, -, Sz13, Ng13, Ha13, -⟩ := id f12
  have hin13 := inb_of (j := (2 : Int32)) Sz13 ⟨by decide, by decide⟩
  have hat13 := Ha13.at hin13 (v := (.ref s2)) rfl
  refine Rch.st (fun t hr => X9.aaload hx (j := (2 : Int32)) (v := (.ref s2)) Ar13.1 (State.isArrayOf_alike hZ.alike Ar13.2.1) rfl Ar13.2.2 hin13 hat13 (g := (mkF m 24 #[.val (.ref lg), .val (.ref r_9), .val (.ref sp), .val (.int (3 : Int32)), .val (.int (2 : Int32)), .val (.ref s1)] [(.int (2 : Int32)), (.ref sp)])) rfl rfl (hb hby d10_24) t hr) ?_
  show Rch p.tables e below _ (T9.setTop (mkF m 25 #[.val (.ref lg), .val (.ref r_9), .val (.ref sp), .val (.int (3 : Int32)), .val (.int (2 : Int32)), .val (.ref s1)] [(.ref s2)]))
  refine Rch.st (fun _ hr => XS.astore X9.here hx rfl (hb hby d10_25) rfl rfl (l' := #[.val (.ref lg), .val (.ref r_9), .val (.ref sp), .val (.int (3 : Int32)), .val (.int (2 : Int32)), .val (.ref s2)]) rfl hr) ?_
  refine Rch.st (fun _ hr => XS.aloadN X9.here hx rfl (hb hby d10_27) rfl rfl hr) ?_
  refine Rch.st (fun _ hr => XS.aload X9.here hx rfl (hb hby d10_28) rfl rfl hr) ?_
  have f15 := ((zP5.keep Kp5 nin0).keep Kp9 nin0)
  show Rch p.tables e below _ (T9.setTop (mkF m 30 #[.val (.ref lg), .val (.ref r_9), .val (.ref sp), .val (.int (3 : Int32)), .val (.int (2 : Int32)), .val (.ref s2)] [(.ref s2), (.ref r_9)]))
  refine own_kV X9 hx hZ (y := Y_28) (z := Y_28) hown (own_w hw 194 rfl) (own_w hw 195 rfl) (notFace_of_selects (args := #[]) (mvT hZ (own_w hw 197 rfl))) (own_w hw 197 rfl) (own_w hw 196 rfl) (own_w hw 28 rfl) (own_w hw 198 rfl) (by decide) (W := 0) (cadds l Z a0 hw [] r_9 s2 (((0 : Int64) + x0) + x1) x2 sc ((kb + kb) + kb) kb wz wy T9.heap n0 zD0 zD1 zD2 zD3 Op9 R9_0 f15 hs (by omega)) (by decide) (by decide) rfl R9_0.1 (by decide) (by decide)  (by rw [hml]; rfl) (argsL := [(.ref s2)]) (rest := []) (lenOf pd_20 rfl) rfl rfl (hb hby d10_30) rfl (fun _ T14 Lc14 X14 hQ14 => ?_)
  obtain ⟨r_14, rfl, N14q, Kp14, Op14, R14_0⟩ := hQ14
  have N14 := Fr.app N9 N14q
  have K16 := K11.trans Kp14 all0
  refine Rch.st (fun _ hr => XS.astoreN X14.here hx rfl (hb hby d10_33) rfl rfl (l' := #[.val (.ref lg), .val (.ref r_14), .val (.ref sp), .val (.int (3 : Int32)), .val (.int (2 : Int32)), .val (.ref s2)]) rfl hr) ?_
  refine Rch.st (fun _ hr => XS.iinc X14.here hx rfl (hb hby d10_34) rfl (l' := #[.val (.ref lg), .val (.ref r_14), .val (.ref sp), .val (.int (3 : Int32)), .val (.int (3 : Int32)), .val (.ref s2)]) rfl hr) ?_
  show Rch p.tables e below _ (T14.setTop (mkF m 37 #[.val (.ref lg), .val (.ref r_14), .val (.ref sp), .val (.int (3 : Int32)), .val (.int (3 : Int32)), .val (.ref s2)] []))
  refine Rch.st (fun _ hr => XS.goto X14.here hx rfl (pc0 := 37) (pc' := 15) rfl (hb hby d10_37) (by decide) (by decide) hr) ?_
  refine Rch.st (fun _ hr => XS.iload X14.here hx rfl (hb hby d10_15) rfl hr) ?_
  refine Rch.st (fun _ hr => XS.iloadN X14.here hx rfl (hb hby d10_17) rfl hr) ?_
  refine Rch.st (fun _ hr => XS.icmpYes X14.here hx rfl (pc0 := 18) (pc' := 40) rfl (hb hby d10_18) rfl (flt (by decide : ¬ ((3 : Int32) < (3 : Int32)))).2.1 (by decide) (by decide) hr) ?_
  refine Rch.st (fun _ hr => XS.aloadN X14.here hx rfl (hb hby d10_40) rfl rfl hr) ?_
  obtain ⟨fs, hr, hrun, hended, hW, hsame⟩ := X14.leave (v := some (.ref r_14)) (fun h => by rw [Bd.returns] at h; cases h)
  refine Rch.fin (u := T14.setFrames fs) (own_retA X14 hx Bd.returns rfl rfl rfl (hb hby d10_41) hr) ⟨_, hrun, hended, _, _, rfl, ?_, ⟨_, rfl⟩, hW, hsame.mono (by decide) (by decide)⟩
  show Q_crev3 Z lg sp ks s0 s1 s2 x0 x1 x2 sc kb wz wy zz h0 n0 _ T14.heap _
  exact ⟨r_14, rfl, N14, K16, Op14, R14_0⟩
abbrev Rm_ccharge3_0 : Room := { frames := 8, cells := 2, slots := 10, locals := 125 }
def Q_ccharge3_0 (Z : State) (lg : Addr) (c0 : Addr) (sp : Addr) (ks : ClassId) (rm : Addr) (kr : ClassId) (s0 : Addr) (s1 : Addr) (s2 : Addr) (r0 : Addr) (r1 : Addr) (r2 : Addr) (x0 : Int64) (x1 : Int64) (x2 : Int64) (w0 : Int64) (w1 : Int64) (w2 : Int64) (xc : Int64) (sc : Int32) (kb : Int) (wz : Addr) (wy : Addr) (h0 : Heap) (n0 : Nat) (v : Option Value) (h : Heap) (L : List Loc) : Prop := ∃ (t0 : Addr) (t1 : Addr) (t2 : Addr) (u0 : Addr) (u1 : Addr) (u2 : Addr) (y0 : Int64) (y1 : Int64) (y2 : Int64) (v0 : Int64) (v1 : Int64) (v2 : Int64), v = none ∧ Fr n0 L ∧ Keep h0 h [sp, rm] ∧ Old Z n0 h ∧ Arv Z h sp ks (.object "java/math/BigDecimal") (3 : Int32) [(.ref t0), (.ref t1), (.ref t2)] .null ∧ Arv Z h rm kr (.object "java/math/BigDecimal") (3 : Int32) [(.ref u0), (.ref u1), (.ref u2)] .null ∧ BE Z h t0 y0 sc (kb + (1 : Int)) ∧ BE Z h t1 y1 sc (kb + (1 : Int)) ∧ BE Z h t2 y2 sc (kb + (1 : Int)) ∧ BE Z h u0 v0 sc (kb + (1 : Int)) ∧ BE Z h u1 v1 sc (kb + (1 : Int)) ∧ BE Z h u2 v2 sc (kb + (1 : Int)) ∧ ((((0 : Int64) + y0) + y1) + y2) = (((((0 : Int64) + x0) + x1) + x2) + xc)
theorem ef_ccharge3_0 (m : MethodId) (lg : Addr) (c0 : Addr) (sp : Addr) (ks : ClassId) (rm : Addr) (kr : ClassId) (s0 : Addr) (s1 : Addr) (s2 : Addr) (r0 : Addr) (r1 : Addr) (r2 : Addr) (x0 : Int64) (x1 : Int64) (x2 : Int64) (w0 : Int64) (w1 : Int64) (w2 : Int64) (xc : Int64) (sc : Int32) (kb : Int) (wz : Addr) (wy : Addr) : entryFrame m #[(.ref lg), (.int (0 : Int32)), (.ref c0)] 3 = mkF m 0 #[.val (.ref lg), .val (.int (0 : Int32)), .val (.ref c0)] [] := by first | (simp [entryFrame, mkF, argsToLocals, Value.category]; done) | rfl
set_option maxRecDepth 65536 in
set_option maxHeartbeats 40000000 in
theorem ccharge3_0 (l : Launch) (Z : State) (a0 : Array Value) (hw : ∀ d ∈ tables_1, d.before a0 Z = true) (ws : List Jvm.Cond) (lg : Addr) (c0 : Addr) (sp : Addr) (ks : ClassId) (rm : Addr) (kr : ClassId) (s0 : Addr) (s1 : Addr) (s2 : Addr) (r0 : Addr) (r1 : Addr) (r2 : Addr) (x0 : Int64) (x1 : Int64) (x2 : Int64) (w0 : Int64) (w1 : Int64) (w2 : Int64) (xc : Int64) (sc : Int32) (kb : Int) (wz : Addr) (wy : Addr) (h0 : Heap) (n0 : Nat) (zD0 : Sta Z Z.heap "java/math/BigDecimal" "ZERO_THROUGH_TEN" "[Ljava/math/BigDecimal;" (.ref wz)) (zD1 : ZTab Z Z.heap wz) (zD2 : Sta Z Z.heap "java/math/BigDecimal" "ZERO_SCALED_BY" "[Ljava/math/BigDecimal;" (.ref wy)) (zD3 : STab Z Z.heap wy) (zP0 : Old Z n0 h0) (zP1 : Exa Z h0 lg "com/example/slotwright/slotwright/Ledger") (zP2 : Fld Z h0 lg "com/example/slotwright/slotwright/Ledger" "spent" "[Ljava/math/BigDecimal;" (.ref sp)) (zP3 : Fld Z h0 lg "com/example/slotwright/slotwright/Ledger" "remaining" "[Ljava/math/BigDecimal;" (.ref rm)) (zP4 : Arv Z h0 sp ks (.object "java/math/BigDecimal") (3 : Int32) [(.ref s0), (.ref s1), (.ref s2)] .null) (zP5 : Arv Z h0 rm kr (.object "java/math/BigDecimal") (3 : Int32) [(.ref r0), (.ref r1), (.ref r2)] .null) (zP6 : Ovr Z ks "java/math/BigDecimal") (zP7 : Ovr Z kr "java/math/BigDecimal") (zP8 : BE Z h0 s0 x0 sc kb) (zP9 : BE Z h0 s1 x1 sc kb) (zP10 : BE Z h0 s2 x2 sc kb) (zP11 : BE Z h0 r0 w0 sc kb) (zP12 : BE Z h0 r1 w1 sc kb) (zP13 : BE Z h0 r2 w2 sc kb) (zP14 : BE Z h0 c0 xc sc (1 : Int)) (zP15 : n0 ≤ sp) (zP16 : n0 ≤ rm) (zP17 : sp ≠ rm) (hs : own_S sc) (hk : kb ≤ 100) :
    MetFree l (⟨"com/example/slotwright/slotwright/Ledger", "charge", "(ILjava/math/BigDecimal;)V"⟩ : MethodName) (head1 (Jvm.Cond.code (⟨"com/example/slotwright/slotwright/Ledger", "charge", "(ILjava/math/BigDecimal;)V"⟩ : MethodName) prog_23_method_3_code 3 none :: ws) Rm_ccharge3_0) (fun aA uU => aA = #[(.ref lg), (.int (0 : Int32)), (.ref c0)] ∧ Z.Warmed39 uU.vm ∧ uU.heap = h0) (fun _ _ _ _ _ => True) (fun _ uU oO uU' => ∃ vV lL, oO = .returned vV ∧ Q_ccharge3_0 Z lg c0 sp ks rm kr s0 s1 s2 r0 r1 r2 x0 x1 x2 w0 w1 w2 xc sc kb wz wy h0 n0 vV uU'.heap lL ∧ FrameEnd uU oO uU' lL Rm_ccharge3_0.cells Rm_ccharge3_0.slots) := by
  refine MetFree.of_bodySF (plainFor_of_name pn_com_example_slotwright_slotwright_Ledger) hisR ?_
  intro p e s m args below meth c s₁ Bd hml0 hP hK
  obtain ⟨rfl, hZ, hh⟩ := hP
  have hx := Bd.exec
  have hby := Bd.bytes
  have hml : c.maxLocals = 3 := hml0
  have hown : s.vm.findClass "com/example/slotwright/slotwright/Ledger" = some m.cls := findClass_of_methodNamed Bd.named
  have hnm := (name_of_methodNamed Bd.named Bd.method).1
  have X0 : Stand p l e Rm_ccharge3_0 s m #[(.ref lg), (.int (0 : Int32)), (.ref c0)] below meth c s₁ [] 0 0 := Stand.of_body Bd
  have e0 : s₁.heap = h0 := by rw [← hh, Bd.state]; rfl
  have N0 := Fr.nil n0
  refine Rch.out (Rch.st (fun t k => castTop (ef_ccharge3_0 m lg c0 sp ks rm kr s0 s1 s2 r0 r1 r2 x0 x1 x2 w0 w1 w2 xc sc kb wz wy) k) ?_)
  show Rch p.tables e below _ (s₁.setTop (mkF m 0 #[.val (.ref lg), .val (.int (0 : Int32)), .val (.ref c0)] []))
  refine Rch.st (fun _ hr => XS.aloadN X0.here hx rfl (hb hby d33_0) rfl rfl hr) ?_
  obtain ⟨T1, X1, e1, st1⟩ := getF X0 hx hZ hown (host := "") (Or.inl (own_w hw 56 rfl)) Via.refl e0 zP2 (g := (mkF m 1 #[.val (.ref lg), .val (.int (0 : Int32)), .val (.ref c0)] [(.ref lg)])) rfl rfl (hb hby d33_1)
  refine Rch.st st1 ?_
  refine Rch.st (fun _ hr => XS.iloadN X1.here hx rfl (hb hby d33_4) rfl hr) ?_
  refine Rch.st (fun _ hr => XS.aloadN X1.here hx rfl (hb hby d33_5) rfl rfl hr) ?_
  obtain ⟨T2, X2, e2, st2⟩ := getF X1 hx hZ hown (host := "") (Or.inl (own_w hw 56 rfl)) Via.refl e1 zP2 (g := (mkF m 6 #[.val (.ref lg), .val (.int (0 : Int32)), .val (.ref c0)] [(.ref lg), (.int (0 : Int32)), (.ref sp)])) rfl rfl (hb hby d33_6)
  refine Rch.st st2 ?_
  refine Rch.st (fun _ hr => XS.iloadN X2.here hx rfl (hb hby d33_9) rfl hr) ?_
  show Rch p.tables e below _ (T2.setTop (mkF m 10 #[.val (.ref lg), .val (.int (0 : Int32)), .val (.ref c0)] [(.int (0 : Int32)), (.ref sp), (.int (0 : Int32)), (.ref sp)]))
  obtain ⟨cl3, Ar3, -, Sz3, Ng3, Ha3, -⟩ := id zP4
  have hin3 := inb_of (j := (0 : Int32)) Sz3 ⟨by decide, by decide⟩
  have hat3 := Ha3.at hin3 (v := (.ref s0)) rfl
  refine Rch.st (fun t hr => X2.aaload hx (j := (0 : Int32)) (v := (.ref s0)) (by rw [e2]; exact Ar3.1) (State.isArrayOf_alike hZ.alike Ar3.2.1) rfl Ar3.2.2 hin3 hat3 (g := (mkF m 10 #[.val (.ref lg), .val (.int (0 : Int32)), .val (.ref c0)] [(.int (0 : Int32)), (.ref sp), (.int (0 : Int32)), (.ref sp)])) rfl rfl (hb hby d33_10) t hr) ?_
  refine Rch.st (fun _ hr => XS.aloadN X2.here hx rfl (hb hby d33_11) rfl rfl hr) ?_
  show Rch p.tables e below _ (T2.setTop (mkF m 12 #[.val (.ref lg), .val (.int (0 : Int32)), .val (.ref c0)] [(.ref c0), (.ref s0), (.int (0 : Int32)), (.ref sp)]))
  refine own_kV X2 hx hZ (y := Y_28) (z := Y_28) hown (own_w hw 194 rfl) (own_w hw 195 rfl) (notFace_of_selects (args := #[]) (mvT hZ (own_w hw 197 rfl))) (own_w hw 197 rfl) (own_w hw 196 rfl) (own_w hw 28 rfl) (own_w hw 198 rfl) (by decide) (W := 2) (cadds l Z a0 hw [] s0 c0 x0 xc sc kb (1 : Int) wz wy h0 n0 zD0 zD1 zD2 zD3 zP0 zP8 zP14 hs (by omega)) (by decide) (by decide) e2 zP8.1 (by decide) (by decide)  (by rw [hml]; rfl) (argsL := [(.ref c0)]) (rest := [(.int (0 : Int32)), (.ref sp)]) (lenOf pd_20 rfl) rfl rfl (hb hby d33_12) rfl (fun _ T4 Lc4 X4 hQ4 => ?_)
  obtain ⟨r_4, rfl, N4q, Kp4, Op4, R4_0⟩ := hQ4
  have N4 := Fr.app N0 N4q
  have K5 := (Keep.refl h0 [sp, rm]).trans Kp4 all0
  have f6 := (zP4.keep Kp4 nin0)
  obtain ⟨cl7, Ar7, qk7, Sz7, Ng7, Ha7, Gf7⟩ := id f6
  have hin7 := inb_of (j := (0 : Int32)) Sz7 ⟨by decide, by decide⟩
  obtain ⟨T8, h8, X8, e8, W8, st8⟩ := stR X4 hx hZ rfl Ar7 (j := (0 : Int32)) hin7 rfl (Sto.ofV Ar7 qk7 zP6 (Ins.self R4_0.1)) (g := (mkF m 15 #[.val (.ref lg), .val (.int (0 : Int32)), .val (.ref c0)] [(.ref r_4), (.int (0 : Int32)), (.ref sp)])) rfl rfl (hb hby d33_15)
  refine Rch.st st8 ?_
  have N8 := Fr.snoc X8 N4 zP15
  have f9 := (zP1.keep Kp4)
  have ne10 := (Exa.neArv f9 f6 (own_w hw 35 rfl))
  have f11 := (zP8.1.keep Kp4)
  have ne12 := (Exa.neArv f11 f6 (own_w hw 81 rfl))
  have f13 := (zP9.keep Kp4 nin0)
  have ne14 := (Exa.neArv f13.1 f6 (own_w hw 81 rfl))
  have f15 := (zP10.keep Kp4 nin0)
  have ne16 := (Exa.neArv f15.1 f6 (own_w hw 81 rfl))
  have f17 := (zP11.keep Kp4 nin0)
  have ne18 := (Exa.neArv f17.1 f6 (own_w hw 81 rfl))
  have f19 := (zP12.keep Kp4 nin0)
  have ne20 := (Exa.neArv f19.1 f6 (own_w hw 81 rfl))
  have f21 := (zP13.keep Kp4 nin0)
  have ne22 := (Exa.neArv f21.1 f6 (own_w hw 81 rfl))
  have f23 := (zP14.keep Kp4 nin0)
  have ne24 := (Exa.neArv f23.1 f6 (own_w hw 81 rfl))
  have ne25 := (Exa.neArv R4_0.1 f6 (own_w hw 81 rfl))
  have K26 := K5.wr W8 (Or.inl (List.mem_of_getElem? (i := 0) rfl))
  have V8 : Arv Z h8 sp ks (.object "java/math/BigDecimal") (3 : Int32) [(.ref r_4), (.ref s1), (.ref s2)] .null := Arv.set Ar7 qk7 Sz7 Ng7 Ha7 Gf7 rfl W8 0 rfl (Nat.le_of_ble_eq_true rfl)
  refine Rch.st (fun _ hr => XS.aloadN X8.here hx rfl (hb hby d33_16) rfl rfl hr) ?_
  have f27 := ((zP3.keep Kp4 nin0).other W8 (Or.inl ne10))
  obtain ⟨T28, X28, e28, st28⟩ := getF X8 hx hZ hown (host := "") (Or.inl (own_w hw 58 rfl)) Via.refl e8 f27 (g := (mkF m 17 #[.val (.ref lg), .val (.int (0 : Int32)), .val (.ref c0)] [(.ref lg)])) rfl rfl (hb hby d33_17)
  refine Rch.st st28 ?_
  show Rch p.tables e below _ (T28.setTop (mkF m 20 #[.val (.ref lg), .val (.int (0 : Int32)), .val (.ref c0)] [(.ref rm)]))
  refine Rch.st (fun _ hr => XS.iloadN X28.here hx rfl (hb hby d33_20) rfl hr) ?_
  refine Rch.st (fun _ hr => XS.aloadN X28.here hx rfl (hb hby d33_21) rfl rfl hr) ?_
  obtain ⟨T29, X29, e29, st29⟩ := getF X28 hx hZ hown (host := "") (Or.inl (own_w hw 58 rfl)) Via.refl e28 f27 (g := (mkF m 22 #[.val (.ref lg), .val (.int (0 : Int32)), .val (.ref c0)] [(.ref lg), (.int (0 : Int32)), (.ref rm)])) rfl rfl (hb hby d33_22)
  refine Rch.st st29 ?_
  refine Rch.st (fun _ hr => XS.iloadN X29.here hx rfl (hb hby d33_25) rfl hr) ?_
  have f30 := ((zP5.keep Kp4 nin0).other W8 (Ne.symm zP17))
  obtain ⟨cl31, Ar31, -, Sz31, Ng31, Ha31, -⟩ := id f30
  have hin31 := inb_of (j := (0 : Int32)) Sz31 ⟨by decide, by decide⟩
  have hat31 := Ha31.at hin31 (v := (.ref r0)) rfl
  refine Rch.st (fun t hr => X29.aaload hx (j := (0 : Int32)) (v := (.ref r0)) (by rw [e29]; exact Ar31.1) (State.isArrayOf_alike hZ.alike Ar31.2.1) rfl Ar31.2.2 hin31 hat31 (g := (mkF m 26 #[.val (.ref lg), .val (.int (0 : Int32)), .val (.ref c0)] [(.int (0 : Int32)), (.ref rm), (.int (0 : Int32)), (.ref rm)])) rfl rfl (hb hby d33_26) t hr) ?_
  refine Rch.st (fun _ hr => XS.aloadN X29.here hx rfl (hb hby d33_27) rfl rfl hr) ?_
  show Rch p.tables e below _ (T29.setTop (mkF m 28 #[.val (.ref lg), .val (.int (0 : Int32)), .val (.ref c0)] [(.ref c0), (.ref r0), (.int (0 : Int32)), (.ref rm)]))
  have f33 := (f17.1.wr W8)
  have f34 := (Op4.wr W8 zP15)
  have f35 := (f17.other W8 ne18)
  have f36 := (f23.other W8 ne24)
  show Rch p.tables e below _ (T29.setTop (mkF m 28 #[.val (.ref lg), .val (.int (0 : Int32)), .val (.ref c0)] [(.ref c0), (.ref r0), (.int (0 : Int32)), (.ref rm)]))
  refine own_kV X29 hx hZ (y := Y_29) (z := Y_29) hown (own_w hw 222 rfl) (own_w hw 223 rfl) (notFace_of_selects (args := #[]) (mvT hZ (own_w hw 225 rfl))) (own_w hw 225 rfl) (own_w hw 224 rfl) (own_w hw 28 rfl) (own_w hw 226 rfl) (by decide) (W := 2) (csubs l Z a0 hw [] r0 c0 w0 xc sc kb (1 : Int) wz wy h8 n0 zD0 zD1 zD2 zD3 f34 f35 f36 hs (by omega)) (by decide) (by decide) e29 f33 (by decide) (by decide)  (by rw [hml]; rfl) (argsL := [(.ref c0)]) (rest := [(.int (0 : Int32)), (.ref rm)]) (lenOf pd_20 rfl) rfl rfl (hb hby d33_28) rfl (fun _ T32 Lc32 X32 hQ32 => ?_)
  obtain ⟨r_32, rfl, N32q, Kp32, Op32, R32_0⟩ := hQ32
  have N32 := Fr.app N8 N32q
  have K37 := K26.trans Kp32 all0
  have f38 := (f30.keep Kp32 nin0)
  obtain ⟨cl39, Ar39, qk39, Sz39, Ng39, Ha39, Gf39⟩ := id f38
  have hin39 := inb_of (j := (0 : Int32)) Sz39 ⟨by decide, by decide⟩
  obtain ⟨T40, h40, X40, e40, W40, st40⟩ := stR X32 hx hZ rfl Ar39 (j := (0 : Int32)) hin39 rfl (Sto.ofV Ar39 qk39 zP7 (Ins.self R32_0.1)) (g := (mkF m 31 #[.val (.ref lg), .val (.int (0 : Int32)), .val (.ref c0)] [(.ref r_32), (.int (0 : Int32)), (.ref rm)])) rfl rfl (hb hby d33_31)
  refine Rch.st st40 ?_
  have N40 := Fr.snoc X40 N32 zP16
  have f41 := ((f9.wr W8).keep Kp32)
  have ne42 := (Exa.neArv f41 f38 (own_w hw 35 rfl))
  have f43 := ((f11.wr W8).keep Kp32)
  have ne44 := (Exa.neArv f43 f38 (own_w hw 81 rfl))
  have f45 := ((f13.1.wr W8).keep Kp32)
  have ne46 := (Exa.neArv f45 f38 (own_w hw 81 rfl))
  have f47 := ((f15.1.wr W8).keep Kp32)
  have ne48 := (Exa.neArv f47 f38 (own_w hw 81 rfl))
  have f49 := (f33.keep Kp32)
  have ne50 := (Exa.neArv f49 f38 (own_w hw 81 rfl))
  have f51 := ((f19.1.wr W8).keep Kp32)
  have ne52 := (Exa.neArv f51 f38 (own_w hw 81 rfl))
  have f53 := ((f21.1.wr W8).keep Kp32)
  have ne54 := (Exa.neArv f53 f38 (own_w hw 81 rfl))
  have f55 := ((f23.1.wr W8).keep Kp32)
  have ne56 := (Exa.neArv f55 f38 (own_w hw 81 rfl))
  have f57 := ((R4_0.1.wr W8).keep Kp32)
  have ne58 := (Exa.neArv f57 f38 (own_w hw 81 rfl))
  have ne59 := (Exa.neArv R32_0.1 f38 (own_w hw 81 rfl))
  have K60 := K37.wr W40 (Or.inl (List.mem_of_getElem? (i := 1) rfl))
  have V40 : Arv Z h40 rm kr (.object "java/math/BigDecimal") (3 : Int32) [(.ref r_32), (.ref r1), (.ref r2)] .null := Arv.set Ar39 qk39 Sz39 Ng39 Ha39 Gf39 rfl W40 0 rfl (Nat.le_of_ble_eq_true rfl)
  obtain ⟨fs, hr, hrun, hended, hW, hsame⟩ := X40.leave (v := none) (fun _ => rfl)
  have f61 := (((R4_0.other W8 ne25).keep Kp32 nin0).other W40 ne58)
  have f62 := (((f13.other W8 ne14).keep Kp32 nin0).other W40 ne46)
  have f63 := (((f15.other W8 ne16).keep Kp32 nin0).other W40 ne48)
  have f64 := (R32_0.other W40 ne59)
  have f65 := (((f19.other W8 ne20).keep Kp32 nin0).other W40 ne52)
  have f66 := (((f21.other W8 ne22).keep Kp32 nin0).other W40 ne54)
  have f67 := (Op32.wr W40 zP16)
  have f68 := ((V8.keep Kp32 nin0).other W40 zP17)
  refine Rch.fin (u := T40.setFrames fs) (X40.returnOut hx Bd.returns (hb hby d33_32) hr) ⟨_, hrun, hended, _, _, rfl, ?_, ⟨_, rfl⟩, hW, hsame.mono (by decide) (by decide)⟩
  show Q_ccharge3_0 Z lg c0 sp ks rm kr s0 s1 s2 r0 r1 r2 x0 x1 x2 w0 w1 w2 xc sc kb wz wy h0 n0 _ T40.heap _
  rw [e40]
  exact ⟨r_4, s1, s2, r_32, r1, r2, (x0 + xc), x1, x2, (w0 + (-xc)), w1, w2, rfl, N40, K60, f67, f68, V40, f61, (BE.mono f62 (by omega)), (BE.mono f63 (by omega)), f64, (BE.mono f65 (by omega)), (BE.mono f66 (by omega)), (own_s30 x0 x1 x2 xc)⟩
abbrev Rm_ccharge3_1 : Room := { frames := 8, cells := 2, slots := 10, locals := 125 }
def Q_ccharge3_1 (Z : State) (lg : Addr) (c0 : Addr) (sp : Addr) (ks : ClassId) (rm : Addr) (kr : ClassId) (s0 : Addr) (s1 : Addr) (s2 : Addr) (r0 : Addr) (r1 : Addr) (r2 : Addr) (x0 : Int64) (x1 : Int64) (x2 : Int64) (w0 : Int64) (w1 : Int64) (w2 : Int64) (xc : Int64) (sc : Int32) (kb : Int) (wz : Addr) (wy : Addr) (h0 : Heap) (n0 : Nat) (v : Option Value) (h : Heap) (L : List Loc) : Prop := ∃ (t0 : Addr) (t1 : Addr) (t2 : Addr) (u0 : Addr) (u1 : Addr) (u2 : Addr) (y0 : Int64) (y1 : Int64) (y2 : Int64) (v0 : Int64) (v1 : Int64) (v2 : Int64), v = none ∧ Fr n0 L ∧ Keep h0 h [sp, rm] ∧ Old Z n0 h ∧ Arv Z h sp ks (.object "java/math/BigDecimal") (3 : Int32) [(.ref t0), (.ref t1), (.ref t2)] .null ∧ Arv Z h rm kr (.object "java/math/BigDecimal") (3 : Int32) [(.ref u0), (.ref u1), (.ref u2)] .null ∧ BE Z h t0 y0 sc (kb + (1 : Int)) ∧ BE Z h t1 y1 sc (kb + (1 : Int)) ∧ BE Z h t2 y2 sc (kb + (1 : Int)) ∧ BE Z h u0 v0 sc (kb + (1 : Int)) ∧ BE Z h u1 v1 sc (kb + (1 : Int)) ∧ BE Z h u2 v2 sc (kb + (1 : Int)) ∧ ((((0 : Int64) + y0) + y1) + y2) = (((((0 : Int64) + x0) + x1) + x2) + xc)
theorem ef_ccharge3_1 (m : MethodId) (lg : Addr) (c0 : Addr) (sp : Addr) (ks : ClassId) (rm : Addr) (kr : ClassId) (s0 : Addr) (s1 : Addr) (s2 : Addr) (r0 : Addr) (r1 : Addr) (r2 : Addr) (x0 : Int64) (x1 : Int64) (x2 : Int64) (w0 : Int64) (w1 : Int64) (w2 : Int64) (xc : Int64) (sc : Int32) (kb : Int) (wz : Addr) (wy : Addr) : entryFrame m #[(.ref lg), (.int (1 : Int32)), (.ref c0)] 3 = mkF m 0 #[.val (.ref lg), .val (.int (1 : Int32)), .val (.ref c0)] [] := by first | (simp [entryFrame, mkF, argsToLocals, Value.category]; done) | rfl
set_option maxRecDepth 65536 in
set_option maxHeartbeats 40000000 in
theorem ccharge3_1 (l : Launch) (Z : State) (a0 : Array Value) (hw : ∀ d ∈ tables_1, d.before a0 Z = true) (ws : List Jvm.Cond) (lg : Addr) (c0 : Addr) (sp : Addr) (ks : ClassId) (rm : Addr) (kr : ClassId) (s0 : Addr) (s1 : Addr) (s2 : Addr) (r0 : Addr) (r1 : Addr) (r2 : Addr) (x0 : Int64) (x1 : Int64) (x2 : Int64) (w0 : Int64) (w1 : Int64) (w2 : Int64) (xc : Int64) (sc : Int32) (kb : Int) (wz : Addr) (wy : Addr) (h0 : Heap) (n0 : Nat) (zD0 : Sta Z Z.heap "java/math/BigDecimal" "ZERO_THROUGH_TEN" "[Ljava/math/BigDecimal;" (.ref wz)) (zD1 : ZTab Z Z.heap wz) (zD2 : Sta Z Z.heap "java/math/BigDecimal" "ZERO_SCALED_BY" "[Ljava/math/BigDecimal;" (.ref wy)) (zD3 : STab Z Z.heap wy) (zP0 : Old Z n0 h0) (zP1 : Exa Z h0 lg "com/example/slotwright/slotwright/Ledger") (zP2 : Fld Z h0 lg "com/example/slotwright/slotwright/Ledger" "spent" "[Ljava/math/BigDecimal;" (.ref sp)) (zP3 : Fld Z h0 lg "com/example/slotwright/slotwright/Ledger" "remaining" "[Ljava/math/BigDecimal;" (.ref rm)) (zP4 : Arv Z h0 sp ks (.object "java/math/BigDecimal") (3 : Int32) [(.ref s0), (.ref s1), (.ref s2)] .null) (zP5 : Arv Z h0 rm kr (.object "java/math/BigDecimal") (3 : Int32) [(.ref r0), (.ref r1), (.ref r2)] .null) (zP6 : Ovr Z ks "java/math/BigDecimal") (zP7 : Ovr Z kr "java/math/BigDecimal") (zP8 : BE Z h0 s0 x0 sc kb) (zP9 : BE Z h0 s1 x1 sc kb) (zP10 : BE Z h0 s2 x2 sc kb) (zP11 : BE Z h0 r0 w0 sc kb) (zP12 : BE Z h0 r1 w1 sc kb) (zP13 : BE Z h0 r2 w2 sc kb) (zP14 : BE Z h0 c0 xc sc (1 : Int)) (zP15 : n0 ≤ sp) (zP16 : n0 ≤ rm) (zP17 : sp ≠ rm) (hs : own_S sc) (hk : kb ≤ 100) :
    MetFree l (⟨"com/example/slotwright/slotwright/Ledger", "charge", "(ILjava/math/BigDecimal;)V"⟩ : MethodName) (head1 (Jvm.Cond.code (⟨"com/example/slotwright/slotwright/Ledger", "charge", "(ILjava/math/BigDecimal;)V"⟩ : MethodName) prog_23_method_3_code 3 none :: ws) Rm_ccharge3_1) (fun aA uU => aA = #[(.ref lg), (.int (1 : Int32)), (.ref c0)] ∧ Z.Warmed39 uU.vm ∧ uU.heap = h0) (fun _ _ _ _ _ => True) (fun _ uU oO uU' => ∃ vV lL, oO = .returned vV ∧ Q_ccharge3_1 Z lg c0 sp ks rm kr s0 s1 s2 r0 r1 r2 x0 x1 x2 w0 w1 w2 xc sc kb wz wy h0 n0 vV uU'.heap lL ∧ FrameEnd uU oO uU' lL Rm_ccharge3_1.cells Rm_ccharge3_1.slots) := by
  refine MetFree.of_bodySF (plainFor_of_name pn_com_example_slotwright_slotwright_Ledger) hisR ?_
  intro p e s m args below meth c s₁ Bd hml0 hP hK
  obtain ⟨rfl, hZ, hh⟩ := hP
  have hx := Bd.exec
  have hby := Bd.bytes
  have hml : c.maxLocals = 3 := hml0
  have hown : s.vm.findClass "com/example/slotwright/slotwright/Ledger" = some m.cls := findClass_of_methodNamed Bd.named
  have hnm := (name_of_methodNamed Bd.named Bd.method).1
  have X0 : Stand p l e Rm_ccharge3_1 s m #[(.ref lg), (.int (1 : Int32)), (.ref c0)] below meth c s₁ [] 0 0 := Stand.of_body Bd
  have e0 : s₁.heap = h0 := by rw [← hh, Bd.state]; rfl
  have N0 := Fr.nil n0
  refine Rch.out (Rch.st (fun t k => castTop (ef_ccharge3_1 m lg c0 sp ks rm kr s0 s1 s2 r0 r1 r2 x0 x1 x2 w0 w1 w2 xc sc kb wz wy) k) ?_)
  show Rch p.tables e below _ (s₁.setTop (mkF m 0 #[.val (.ref lg), .val (.int (1 : Int32)), .val (.ref c0)] []))
  refine Rch.st (fun _ hr => XS.aloadN X0.here hx rfl (hb hby d33_0) rfl rfl hr) ?_
  obtain ⟨T1, X1, e1, st1⟩ := getF X0 hx hZ hown (host := "") (Or.inl (own_w hw 56 rfl)) Via.refl e0 zP2 (g := (mkF m 1 #[.val (.ref lg), .val (.int (1 : Int32)), .val (.ref c0)] [(.ref lg)])) rfl rfl (hb hby d33_1)
  refine Rch.st st1 ?_
  refine Rch.st (fun _ hr => XS.iloadN X1.here hx rfl (hb hby d33_4) rfl hr) ?_
  refine Rch.st (fun _ hr => XS.aloadN X1.here hx rfl (hb hby d33_5) rfl rfl hr) ?_
  obtain ⟨T2, X2, e2, st2⟩ := getF X1 hx hZ hown (host := "") (Or.inl (own_w hw 56 rfl)) Via.refl e1 zP2 (g := (mkF m 6 #[.val (.ref lg), .val (.int (1 : Int32)), .val (.ref c0)] [(.ref lg), (.int (1 : Int32)), (.ref sp)])) rfl rfl (hb hby d33_6)
  refine Rch.st st2 ?_
  refine Rch.st (fun _ hr => XS.iloadN X2.here hx rfl (hb hby d33_9) rfl hr) ?_
  show Rch p.tables e below _ (T2.setTop (mkF m 10 #[.val (.ref lg), .val (.int (1 : Int32)), .val (.ref c0)] [(.int (1 : Int32)), (.ref sp), (.int (1 : Int32)), (.ref sp)]))
  obtain ⟨cl3, Ar3, -, Sz3, Ng3, Ha3, -⟩ := id zP4
  have hin3 := inb_of (j := (1 : Int32)) Sz3 ⟨by decide, by decide⟩
  have hat3 := Ha3.at hin3 (v := (.ref s1)) rfl
  refine Rch.st (fun t hr => X2.aaload hx (j := (1 : Int32)) (v := (.ref s1)) (by rw [e2]; exact Ar3.1) (State.isArrayOf_alike hZ.alike Ar3.2.1) rfl Ar3.2.2 hin3 hat3 (g := (mkF m 10 #[.val (.ref lg), .val (.int (1 : Int32)), .val (.ref c0)] [(.int (1 : Int32)), (.ref sp), (.int (1 : Int32)), (.ref sp)])) rfl rfl (hb hby d33_10) t hr) ?_
  refine Rch.st (fun _ hr => XS.aloadN X2.here hx rfl (hb hby d33_11) rfl rfl hr) ?_
  show Rch p.tables e below _ (T2.setTop (mkF m 12 #[.val (.ref lg), .val (.int (1 : Int32)), .val (.ref c0)] [(.ref c0), (.ref s1), (.int (1 : Int32)), (.ref sp)]))
  refine own_kV X2 hx hZ (y := Y_28) (z := Y_28) hown (own_w hw 194 rfl) (own_w hw 195 rfl) (notFace_of_selects (args := #[]) (mvT hZ (own_w hw 197 rfl))) (own_w hw 197 rfl) (own_w hw 196 rfl) (own_w hw 28 rfl) (own_w hw 198 rfl) (by decide) (W := 2) (cadds l Z a0 hw [] s1 c0 x1 xc sc kb (1 : Int) wz wy h0 n0 zD0 zD1 zD2 zD3 zP0 zP9 zP14 hs (by omega)) (by decide) (by decide) e2 zP9.1 (by decide) (by decide)  (by rw [hml]; rfl) (argsL := [(.ref c0)]) (rest := [(.int (1 : Int32)), (.ref sp)]) (lenOf pd_20 rfl) rfl rfl (hb hby d33_12) rfl (fun _ T4 Lc4 X4 hQ4 => ?_)
  obtain ⟨r_4, rfl, N4q, Kp4, Op4, R4_0⟩ := hQ4
  have N4 := Fr.app N0 N4q
  have K5 := (Keep.refl h0 [sp, rm]).trans Kp4 all0
  have f6 := (zP4.keep Kp4 nin0)
  obtain ⟨cl7, Ar7, qk7, Sz7, Ng7, Ha7, Gf7⟩ := id f6
  have hin7 := inb_of (j := (1 : Int32)) Sz7 ⟨by decide, by decide⟩
  obtain ⟨T8, h8, X8, e8, W8, st8⟩ := stR X4 hx hZ rfl Ar7 (j := (1 : Int32)) hin7 rfl (Sto.ofV Ar7 qk7 zP6 (Ins.self R4_0.1)) (g := (mkF m 15 #[.val (.ref lg), .val (.int (1 : Int32)), .val (.ref c0)] [(.ref r_4), (.int (1 : Int32)), (.ref sp)])) rfl rfl (hb hby d33_15)
  refine Rch.st st8 ?_
  have N8 := Fr.snoc X8 N4 zP15
  have f9 := (zP1.keep Kp4)
  have ne10 := (Exa.neArv f9 f6 (own_w hw 35 rfl))
  have f11 := (zP8.keep Kp4 nin0)
  have ne12 := (Exa.neArv f11.1 f6 (own_w hw 81 rfl))
  have f13 := (zP9.1.keep Kp4)
  have ne14 := (Exa.neArv f13 f6 (own_w hw 81 rfl))
  have f15 := (zP10.keep Kp4 nin0)
  have ne16 := (Exa.neArv f15.1 f6 (own_w hw 81 rfl))
  have f17 := (zP11.keep Kp4 nin0)
  have ne18 := (Exa.neArv f17.1 f6 (own_w hw 81 rfl))
  have f19 := (zP12.keep Kp4 nin0)
  have ne20 := (Exa.neArv f19.1 f6 (own_w hw 81 rfl))
  have f21 := (zP13.keep Kp4 nin0)
  have ne22 := (Exa.neArv f21.1 f6 (own_w hw 81 rfl))
  have f23 := (zP14.keep Kp4 nin0)
  have ne24 := (Exa.neArv f23.1 f6 (own_w hw 81 rfl))
  have ne25 := (Exa.neArv R4_0.1 f6 (own_w hw 81 rfl))
  have K26 := K5.wr W8 (Or.inl (List.mem_of_getElem? (i := 0) rfl))
  have V8 : Arv Z h8 sp ks (.object "java/math/BigDecimal") (3 : Int32) [(.ref s0), (.ref r_4), (.ref s2)] .null := Arv.set Ar7 qk7 Sz7 Ng7 Ha7 Gf7 rfl W8 1 rfl (Nat.le_of_ble_eq_true rfl)
  refine Rch.st (fun _ hr => XS.aloadN X8.here hx rfl (hb hby d33_16) rfl rfl hr) ?_
  have f27 := ((zP3.keep Kp4 nin0).other W8 (Or.inl ne10))
  obtain ⟨T28, X28, e28, st28⟩ := getF X8 hx hZ hown (host := "") (Or.inl (own_w hw 58 rfl)) Via.refl e8 f27 (g := (mkF m 17 #[.val (.ref lg), .val (.int (1 : Int32)), .val (.ref c0)] [(.ref lg)])) rfl rfl (hb hby d33_17)
  refine Rch.st st28 ?_
  show Rch p.tables e below _ (T28.setTop (mkF m 20 #[.val (.ref lg), .val (.int (1 : Int32)), .val (.ref c0)] [(.ref rm)]))
  refine Rch.st (fun _ hr => XS.iloadN X28.here hx rfl (hb hby d33_20) rfl hr) ?_
  refine Rch.st (fun _ hr => XS.aloadN X28.here hx rfl (hb hby d33_21) rfl rfl hr) ?_
  obtain ⟨T29, X29, e29, st29⟩ := getF X28 hx hZ hown (host := "") (Or.inl (own_w hw 58 rfl)) Via.refl e28 f27 (g := (mkF m 22 #[.val (.ref lg), .val (.int (1 : Int32)), .val (.ref c0)] [(.ref lg), (.int (1 : Int32)), (.ref rm)])) rfl rfl (hb hby d33_22)
  refine Rch.st st29 ?_
  refine Rch.st (fun _ hr => XS.iloadN X29.here hx rfl (hb hby d33_25) rfl hr) ?_
  have f30 := ((zP5.keep Kp4 nin0).other W8 (Ne.symm zP17))
  obtain ⟨cl31, Ar31, -, Sz31, Ng31, Ha31, -⟩ := id f30
  have hin31 := inb_of (j := (1 : Int32)) Sz31 ⟨by decide, by decide⟩
  have hat31 := Ha31.at hin31 (v := (.ref r1)) rfl
  refine Rch.st (fun t hr => X29.aaload hx (j := (1 : Int32)) (v := (.ref r1)) (by rw [e29]; exact Ar31.1) (State.isArrayOf_alike hZ.alike Ar31.2.1) rfl Ar31.2.2 hin31 hat31 (g := (mkF m 26 #[.val (.ref lg), .val (.int (1 : Int32)), .val (.ref c0)] [(.int (1 : Int32)), (.ref rm), (.int (1 : Int32)), (.ref rm)])) rfl rfl (hb hby d33_26) t hr) ?_
  refine Rch.st (fun _ hr => XS.aloadN X29.here hx rfl (hb hby d33_27) rfl rfl hr) ?_
  show Rch p.tables e below _ (T29.setTop (mkF m 28 #[.val (.ref lg), .val (.int (1 : Int32)), .val (.ref c0)] [(.ref c0), (.ref r1), (.int (1 : Int32)), (.ref rm)]))
  have f33 := (f19.1.wr W8)
  have f34 := (Op4.wr W8 zP15)
  have f35 := (f19.other W8 ne20)
  have f36 := (f23.other W8 ne24)
  show Rch p.tables e below _ (T29.setTop (mkF m 28 #[.val (.ref lg), .val (.int (1 : Int32)), .val (.ref c0)] [(.ref c0), (.ref r1), (.int (1 : Int32)), (.ref rm)]))
  refine own_kV X29 hx hZ (y := Y_29) (z := Y_29) hown (own_w hw 222 rfl) (own_w hw 223 rfl) (notFace_of_selects (args := #[]) (mvT hZ (own_w hw 225 rfl))) (own_w hw 225 rfl) (own_w hw 224 rfl) (own_w hw 28 rfl) (own_w hw 226 rfl) (by decide) (W := 2) (csubs l Z a0 hw [] r1 c0 w1 xc sc kb (1 : Int) wz wy h8 n0 zD0 zD1 zD2 zD3 f34 f35 f36 hs (by omega)) (by decide) (by decide) e29 f33 (by decide) (by decide)  (by rw [hml]; rfl) (argsL := [(.ref c0)]) (rest := [(.int (1 : Int32)), (.ref rm)]) (lenOf pd_20 rfl) rfl rfl (hb hby d33_28) rfl (fun _ T32 Lc32 X32 hQ32 => ?_)
  obtain ⟨r_32, rfl, N32q, Kp32, Op32, R32_0⟩ := hQ32
  have N32 := Fr.app N8 N32q
  have K37 := K26.trans Kp32 all0
  have f38 := (f30.keep Kp32 nin0)
  obtain ⟨cl39, Ar39, qk39, Sz39, Ng39, Ha39, Gf39⟩ := id f38
  have hin39 := inb_of (j := (1 : Int32)) Sz39 ⟨by decide, by decide⟩
  obtain ⟨T40, h40, X40, e40, W40, st40⟩ := stR X32 hx hZ rfl Ar39 (j := (1 : Int32)) hin39 rfl (Sto.ofV Ar39 qk39 zP7 (Ins.self R32_0.1)) (g := (mkF m 31 #[.val (.ref lg), .val (.int (1 : Int32)), .val (.ref c0)] [(.ref r_32), (.int (1 : Int32)), (.ref rm)])) rfl rfl (hb hby d33_31)
  refine Rch.st st40 ?_
  have N40 := Fr.snoc X40 N32 zP16
  have f41 := ((f9.wr W8).keep Kp32)
  have ne42 := (Exa.neArv f41 f38 (own_w hw 35 rfl))
  have f43 := ((f11.1.wr W8).keep Kp32)
  have ne44 := (Exa.neArv f43 f38 (own_w hw 81 rfl))
  have f45 := ((f13.wr W8).keep Kp32)
  have ne46 := (Exa.neArv f45 f38 (own_w hw 81 rfl))
  have f47 := ((f15.1.wr W8).keep Kp32)
  have ne48 := (Exa.neArv f47 f38 (own_w hw 81 rfl))
  have f49 := ((f17.1.wr W8).keep Kp32)
  have ne50 := (Exa.neArv f49 f38 (own_w hw 81 rfl))
  have f51 := (f33.keep Kp32)
  have ne52 := (Exa.neArv f51 f38 (own_w hw 81 rfl))
  have f53 := ((f21.1.wr W8).keep Kp32)
  have ne54 := (Exa.neArv f53 f38 (own_w hw 81 rfl))
  have f55 := ((f23.1.wr W8).keep Kp32)
  have ne56 := (Exa.neArv f55 f38 (own_w hw 81 rfl))
  have f57 := ((R4_0.1.wr W8).keep Kp32)
  have ne58 := (Exa.neArv f57 f38 (own_w hw 81 rfl))
  have ne59 := (Exa.neArv R32_0.1 f38 (own_w hw 81 rfl))
  have K60 := K37.wr W40 (Or.inl (List.mem_of_getElem? (i := 1) rfl))
  have V40 : Arv Z h40 rm kr (.object "java/math/BigDecimal") (3 : Int32) [(.ref r0), (.ref r_32), (.ref r2)] .null := Arv.set Ar39 qk39 Sz39 Ng39 Ha39 Gf39 rfl W40 1 rfl (Nat.le_of_ble_eq_true rfl)
  obtain ⟨fs, hr, hrun, hended, hW, hsame⟩ := X40.leave (v := none) (fun _ => rfl)
  have f61 := (((f11.other W8 ne12).keep Kp32 nin0).other W40 ne44)
  have f62 := (((R4_0.other W8 ne25).keep Kp32 nin0).other W40 ne58)
  have f63 := (((f15.other W8 ne16).keep Kp32 nin0).other W40 ne48)
  have f64 := (((f17.other W8 ne18).keep Kp32 nin0).other W40 ne50)
  have f65 := (R32_0.other W40 ne59)
  have f66 := (((f21.other W8 ne22).keep Kp32 nin0).other W40 ne54)
  have f67 := (Op32.wr W40 zP16)
  have f68 := ((V8.keep Kp32 nin0).other W40 zP17)
  refine Rch.fin (u := T40.setFrames fs) (X40.returnOut hx Bd.returns (hb hby d33_32) hr) ⟨_, hrun, hended, _, _, rfl, ?_, ⟨_, rfl⟩, hW, hsame.mono (by decide) (by decide)⟩
  show Q_ccharge3_1 Z lg c0 sp ks rm kr s0 s1 s2 r0 r1 r2 x0 x1 x2 w0 w1 w2 xc sc kb wz wy h0 n0 _ T40.heap _
  rw [e40]
  exact ⟨s0, r_4, s2, r0, r_32, r2, x0, (x1 + xc), x2, w0, (w1 + (-xc)), w2, rfl, N40, K60, f67, f68, V40, (BE.mono f61 (by omega)), f62, (BE.mono f63 (by omega)), (BE.mono f64 (by omega)), f65, (BE.mono f66 (by omega)), (own_s31 x0 x1 x2 xc)⟩
abbrev Rm_ccharge3_2 : Room := { frames := 8, cells := 2, slots := 10, locals := 125 }
def Q_ccharge3_2 (Z : State) (lg : Addr) (c0 : Addr) (sp : Addr) (ks : ClassId) (rm : Addr) (kr : ClassId) (s0 : Addr) (s1 : Addr) (s2 : Addr) (r0 : Addr) (r1 : Addr) (r2 : Addr) (x0 : Int64) (x1 : Int64) (x2 : Int64) (w0 : Int64) (w1 : Int64) (w2 : Int64) (xc : Int64) (sc : Int32) (kb : Int) (wz : Addr) (wy : Addr) (h0 : Heap) (n0 : Nat) (v : Option Value) (h : Heap) (L : List Loc) : Prop := ∃ (t0 : Addr) (t1 : Addr) (t2 : Addr) (u0 : Addr) (u1 : Addr) (u2 : Addr) (y0 : Int64) (y1 : Int64) (y2 : Int64) (v0 : Int64) (v1 : Int64) (v2 : Int64), v = none ∧ Fr n0 L ∧ Keep h0 h [sp, rm] ∧ Old Z n0 h ∧ Arv Z h sp ks (.object "java/math/BigDecimal") (3 : Int32) [(.ref t0), (.ref t1), (.ref t2)] .null ∧ Arv Z h rm kr (.object "java/math/BigDecimal") (3 : Int32) [(.ref u0), (.ref u1), (.ref u2)] .null ∧ BE Z h t0 y0 sc (kb + (1 : Int)) ∧ BE Z h t1 y1 sc (kb + (1 : Int)) ∧ BE Z h t2 y2 sc (kb + (1 : Int)) ∧ BE Z h u0 v0 sc (kb + (1 : Int)) ∧ BE Z h u1 v1 sc (kb + (1 : Int)) ∧ BE Z h u2 v2 sc (kb + (1 : Int)) ∧ ((((0 : Int64) + y0) + y1) + y2) = (((((0 : Int64) + x0) + x1) + x2) + xc)
theorem ef_ccharge3_2 (m : MethodId) (lg : Addr) (c0 : Addr) (sp : Addr) (ks : ClassId) (rm : Addr) (kr : ClassId) (s0 : Addr) (s1 : Addr) (s2 : Addr) (r0 : Addr) (r1 : Addr) (r2 : Addr) (x0 : Int64) (x1 : Int64) (x2 : Int64) (w0 : Int64) (w1 : Int64) (w2 : Int64) (xc : Int64) (sc : Int32) (kb : Int) (wz : Addr) (wy : Addr) : entryFrame m #[(.ref lg), (.int (2 : Int32)), (.ref c0)] 3 = mkF m 0 #[.val (.ref lg), .val (.int (2 : Int32)), .val (.ref c0)] [] := by first | (simp [entryFrame, mkF, argsToLocals, Value.category]; done) | rfl
set_option maxRecDepth 65536 in
set_option maxHeartbeats 40000000 in
theorem ccharge3_2 (l : Launch) (Z : State) (a0 : Array Value) (hw : ∀ d ∈ tables_1, d.before a0 Z = true) (ws : List Jvm.Cond) (lg : Addr) (c0 : Addr) (sp : Addr) (ks : ClassId) (rm : Addr) (kr : ClassId) (s0 : Addr) (s1 : Addr) (s2 : Addr) (r0 : Addr) (r1 : Addr) (r2 : Addr) (x0 : Int64) (x1 : Int64) (x2 : Int64) (w0 : Int64) (w1 : Int64) (w2 : Int64) (xc : Int64) (sc : Int32) (kb : Int) (wz : Addr) (wy : Addr) (h0 : Heap) (n0 : Nat) (zD0 : Sta Z Z.heap "java/math/BigDecimal" "ZERO_THROUGH_TEN" "[Ljava/math/BigDecimal;" (.ref wz)) (zD1 : ZTab Z Z.heap wz) (zD2 : Sta Z Z.heap "java/math/BigDecimal" "ZERO_SCALED_BY" "[Ljava/math/BigDecimal;" (.ref wy)) (zD3 : STab Z Z.heap wy) (zP0 : Old Z n0 h0) (zP1 : Exa Z h0 lg "com/example/slotwright/slotwright/Ledger") (zP2 : Fld Z h0 lg "com/example/slotwright/slotwright/Ledger" "spent" "[Ljava/math/BigDecimal;" (.ref sp)) (zP3 : Fld Z h0 lg "com/example/slotwright/slotwright/Ledger" "remaining" "[Ljava/math/BigDecimal;" (.ref rm)) (zP4 : Arv Z h0 sp ks (.object "java/math/BigDecimal") (3 : Int32) [(.ref s0), (.ref s1), (.ref s2)] .null) (zP5 : Arv Z h0 rm kr (.object "java/math/BigDecimal") (3 : Int32) [(.ref r0), (.ref r1), (.ref r2)] .null) (zP6 : Ovr Z ks "java/math/BigDecimal") (zP7 : Ovr Z kr "java/math/BigDecimal") (zP8 : BE Z h0 s0 x0 sc kb) (zP9 : BE Z h0 s1 x1 sc kb) (zP10 : BE Z h0 s2 x2 sc kb) (zP11 : BE Z h0 r0 w0 sc kb) (zP12 : BE Z h0 r1 w1 sc kb) (zP13 : BE Z h0 r2 w2 sc kb) (zP14 : BE Z h0 c0 xc sc (1 : Int)) (zP15 : n0 ≤ sp) (zP16 : n0 ≤ rm) (zP17 : sp ≠ rm) (hs : own_S sc) (hk : kb ≤ 100) :
    MetFree l (⟨"com/example/slotwright/slotwright/Ledger", "charge", "(ILjava/math/BigDecimal;)V"⟩ : MethodName) (head1 (Jvm.Cond.code (⟨"com/example/slotwright/slotwright/Ledger", "charge", "(ILjava/math/BigDecimal;)V"⟩ : MethodName) prog_23_method_3_code 3 none :: ws) Rm_ccharge3_2) (fun aA uU => aA = #[(.ref lg), (.int (2 : Int32)), (.ref c0)] ∧ Z.Warmed39 uU.vm ∧ uU.heap = h0) (fun _ _ _ _ _ => True) (fun _ uU oO uU' => ∃ vV lL, oO = .returned vV ∧ Q_ccharge3_2 Z lg c0 sp ks rm kr s0 s1 s2 r0 r1 r2 x0 x1 x2 w0 w1 w2 xc sc kb wz wy h0 n0 vV uU'.heap lL ∧ FrameEnd uU oO uU' lL Rm_ccharge3_2.cells Rm_ccharge3_2.slots) := by
  refine MetFree.of_bodySF (plainFor_of_name pn_com_example_slotwright_slotwright_Ledger) hisR ?_
  intro p e s m args below meth c s₁ Bd hml0 hP hK
  obtain ⟨rfl, hZ, hh⟩ := hP
  have hx := Bd.exec
  have hby := Bd.bytes
  have hml : c.maxLocals = 3 := hml0
  have hown : s.vm.findClass "com/example/slotwright/slotwright/Ledger" = some m.cls := findClass_of_methodNamed Bd.named
  have hnm := (name_of_methodNamed Bd.named Bd.method).1
  have X0 : Stand p l e Rm_ccharge3_2 s m #[(.ref lg), (.int (2 : Int32)), (.ref c0)] below meth c s₁ [] 0 0 := Stand.of_body Bd
  have e0 : s₁.heap = h0 := by rw [← hh, Bd.state]; rfl
  have N0 := Fr.nil n0
  refine Rch.out (Rch.st (fun t k => castTop (ef_ccharge3_2 m lg c0 sp ks rm kr s0 s1 s2 r0 r1 r2 x0 x1 x2 w0 w1 w2 xc sc kb wz wy) k) ?_)
  show Rch p.tables e below _ (s₁.setTop (mkF m 0 #[.val (.ref lg), .val (.int (2 : Int32)), .val (.ref c0)] []))
  refine Rch.st (fun _ hr => XS.aloadN X0.here hx rfl (hb hby d33_0) rfl rfl hr) ?_
  obtain ⟨T1, X1, e1, st1⟩ := getF X0 hx hZ hown (host := "") (Or.inl (own_w hw 56 rfl)) Via.refl e0 zP2 (g := (mkF m 1 #[.val (.ref lg), .val (.int (2 : Int32)), .val (.ref c0)] [(.ref lg)])) rfl rfl (hb hby d33_1)
  refine Rch.st st1 ?_
  refine Rch.st (fun _ hr => XS.iloadN X1.here hx rfl (hb hby d33_4) rfl hr) ?_
  refine Rch.st (fun _ hr => XS.aloadN X1.here hx rfl (hb hby d33_5) rfl rfl hr) ?_
  obtain ⟨T2, X2, e2, st2⟩ := getF X1 hx hZ hown (host := "") (Or.inl (own_w hw 56 rfl)) Via.refl e1 zP2 (g := (mkF m 6 #[.val (.ref lg), .val (.int (2 : Int32)), .val (.ref c0)] [(.ref lg), (.int (2 : Int32)), (.ref sp)])) rfl rfl (hb hby d33_6)
  refine Rch.st st2 ?_
  refine Rch.st (fun _ hr => XS.iloadN X2.here hx rfl (hb hby d33_9) rfl hr) ?_
  show Rch p.tables e below _ (T2.setTop (mkF m 10 #[.val (.ref lg), .val (.int (2 : Int32)), .val (.ref c0)] [(.int (2 : Int32)), (.ref sp), (.int (2 : Int32)), (.ref sp)]))
  obtain ⟨cl3, Ar3, -, Sz3, Ng3, Ha3, -⟩ := id zP4
  have hin3 := inb_of (j := (2 : Int32)) Sz3 ⟨by decide, by decide⟩
  have hat3 := Ha3.at hin3 (v := (.ref s2)) rfl
  refine Rch.st (fun t hr => X2.aaload hx (j := (2 : Int32)) (v := (.ref s2)) (by rw [e2]; exact Ar3.1) (State.isArrayOf_alike hZ.alike Ar3.2.1) rfl Ar3.2.2 hin3 hat3 (g := (mkF m 10 #[.val (.ref lg), .val (.int (2 : Int32)), .val (.ref c0)] [(.int (2 : Int32)), (.ref sp), (.int (2 : Int32)), (.ref sp)])) rfl rfl (hb hby d33_10) t hr) ?_
  refine Rch.st (fun _ hr => XS.aloadN X2.here hx rfl (hb hby d33_11) rfl rfl hr) ?_
  show Rch p.tables e below _ (T2.setTop (mkF m 12 #[.val (.ref lg), .val (.int (2 : Int32)), .val (.ref c0)] [(.ref c0), (.ref s2), (.int (2 : Int32)), (.ref sp)]))
  refine own_kV X2 hx hZ (y := Y_28) (z := Y_28) hown (own_w hw 194 rfl) (own_w hw 195 rfl) (notFace_of_selects (args := #[]) (mvT hZ (own_w hw 197 rfl))) (own_w hw 197 rfl) (own_w hw 196 rfl) (own_w hw 28 rfl) (own_w hw 198 rfl) (by decide) (W := 2) (cadds l Z a0 hw [] s2 c0 x2 xc sc kb (1 : Int) wz wy h0 n0 zD0 zD1 zD2 zD3 zP0 zP10 zP14 hs (by omega)) (by decide) (by decide) e2 zP10.1 (by decide) (by decide)  (by rw [hml]; rfl) (argsL := [(.ref c0)]) (rest := [(.int (2 : Int32)), (.ref sp)]) (lenOf pd_20 rfl) rfl rfl (hb hby d33_12) rfl (fun _ T4 Lc4 X4 hQ4 => ?_)
  obtain ⟨r_4, rfl, N4q, Kp4, Op4, R4_0⟩ := hQ4
  have N4 := Fr.app N0 N4q
  have K5 := (Keep.refl h0 [sp, rm]).trans Kp4 all0
  have f6 := (zP4.keep Kp4 nin0)
  obtain ⟨cl7, Ar7, qk7, Sz7, Ng7, Ha7, Gf7⟩ := id f6
  have hin7 := inb_of (j := (2 : Int32)) Sz7 ⟨by decide, by decide⟩
  obtain ⟨T8, h8, X8, e8, W8, st8⟩ := stR X4 hx hZ rfl Ar7 (j := (2 : Int32)) hin7 rfl (Sto.ofV Ar7 qk7 zP6 (Ins.self R4_0.1)) (g := (mkF m 15 #[.val (.ref lg), .val (.int (2 : Int32)), .val (.ref c0)] [(.ref r_4), (.int (2 : Int32)), (.ref sp)])) rfl rfl (hb hby d33_15)
  refine Rch.st st8 ?_
  have N8 := Fr.snoc X8 N4 zP15
  have f9 := (zP1.keep Kp4)
  have ne10 := (Exa.neArv f9 f6 (own_w hw 35 rfl))
  have f11 := (zP8.keep Kp4 nin0)
  have ne12 := (Exa.neArv f11.1 f6 (own_w hw 81 rfl))
  have f13 := (zP9.keep Kp4 nin0)
  have ne14 := (Exa.neArv f13.1 f6 (own_w hw 81 rfl))
  have f15 := (zP10.1.keep Kp4)
  have ne16 := (Exa.neArv f15 f6 (own_w hw 81 rfl))
  have f17 := (zP11.keep Kp4 nin0)
  have ne18 := (Exa.neArv f17.1 f6 (own_w hw 81 rfl))
  have f19 := (zP12.keep Kp4 nin0)
  have ne20 := (Exa.neArv f19.1 f6 (own_w hw 81 rfl))
  have f21 := (zP13.keep Kp4 nin0)
  have ne22 := (Exa.neArv f21.1 f6 (own_w hw 81 rfl))
  have f23 := (zP14.keep Kp4 nin0)
  have ne24 := (Exa.neArv f23.1 f6 (own_w hw 81 rfl))
  have ne25 := (Exa.neArv R4_0.1 f6 (own_w hw 81 rfl))
  have K26 := K5.wr W8 (Or.inl (List.mem_of_getElem? (i := 0) rfl))
  have V8 : Arv Z h8 sp ks (.object "java/math/BigDecimal") (3 : Int32) [(.ref s0), (.ref s1), (.ref r_4)] .null := Arv.set Ar7 qk7 Sz7 Ng7 Ha7 Gf7 rfl W8 2 rfl (Nat.le_of_ble_eq_true rfl)
  refine Rch.st (fun _ hr => XS.aloadN X8.here hx rfl (hb hby d33_16) rfl rfl hr) ?_
  have f27 := ((zP3.keep Kp4 nin0).other W8 (Or.inl ne10))
  obtain ⟨T28, X28, e28, st28⟩ := getF X8 hx hZ hown (host := "") (Or.inl (own_w hw 58 rfl)) Via.refl e8 f27 (g := (mkF m 17 #[.val (.ref lg), .val (.int (2 : Int32)), .val (.ref c0)] [(.ref lg)])) rfl rfl (hb hby d33_17)
  refine Rch.st st28 ?_
  show Rch p.tables e below _ (T28.setTop (mkF m 20 #[.val (.ref lg), .val (.int (2 : Int32)), .val (.ref c0)] [(.ref rm)]))
  refine Rch.st (fun _ hr => XS.iloadN X28.here hx rfl (hb hby d33_20) rfl hr) ?_
  refine Rch.st (fun _ hr => XS.aloadN X28.here hx rfl (hb hby d33_21) rfl rfl hr) ?_
  obtain ⟨T29, X29, e29, st29⟩ := getF X28 hx hZ hown (host := "") (Or.inl (own_w hw 58 rfl)) Via.refl e28 f27 (g := (mkF m 22 #[.val (.ref lg), .val (.int (2 : Int32)), .val (.ref c0)] [(.ref lg), (.int (2 : Int32)), (.ref rm)])) rfl rfl (hb hby d33_22)
  refine Rch.st st29 ?_
  refine Rch.st (fun _ hr => XS.iloadN X29.here hx rfl (hb hby d33_25) rfl hr) ?_
  have f30 := ((zP5.keep Kp4 nin0).other W8 (Ne.symm zP17))
  obtain ⟨cl31, Ar31, -, Sz31, Ng31, Ha31, -⟩ := id f30
  have hin31 := inb_of (j := (2 : Int32)) Sz31 ⟨by decide, by decide⟩
  have hat31 := Ha31.at hin31 (v := (.ref r2)) rfl
  refine Rch.st (fun t hr => X29.aaload hx (j := (2 : Int32)) (v := (.ref r2)) (by rw [e29]; exact Ar31.1) (State.isArrayOf_alike hZ.alike Ar31.2.1) rfl Ar31.2.2 hin31 hat31 (g := (mkF m 26 #[.val (.ref lg), .val (.int (2 : Int32)), .val (.ref c0)] [(.int (2 : Int32)), (.ref rm), (.int (2 : Int32)), (.ref rm)])) rfl rfl (hb hby d33_26) t hr) ?_
  refine Rch.st (fun _ hr => XS.aloadN X29.here hx rfl (hb hby d33_27) rfl rfl hr) ?_
  show Rch p.tables e below _ (T29.setTop (mkF m 28 #[.val (.ref lg), .val (.int (2 : Int32)), .val (.ref c0)] [(.ref c0), (.ref r2), (.int (2 : Int32)), (.ref rm)]))
  have f33 := (f21.1.wr W8)
  have f34 := (Op4.wr W8 zP15)
  have f35 := (f21.other W8 ne22)
  have f36 := (f23.other W8 ne24)
  show Rch p.tables e below _ (T29.setTop (mkF m 28 #[.val (.ref lg), .val (.int (2 : Int32)), .val (.ref c0)] [(.ref c0), (.ref r2), (.int (2 : Int32)), (.ref rm)]))
  refine own_kV X29 hx hZ (y := Y_29) (z := Y_29) hown (own_w hw 222 rfl) (own_w hw 223 rfl) (notFace_of_selects (args := #[]) (mvT hZ (own_w hw 225 rfl))) (own_w hw 225 rfl) (own_w hw 224 rfl) (own_w hw 28 rfl) (own_w hw 226 rfl) (by decide) (W := 2) (csubs l Z a0 hw [] r2 c0 w2 xc sc kb (1 : Int) wz wy h8 n0 zD0 zD1 zD2 zD3 f34 f35 f36 hs (by omega)) (by decide) (by decide) e29 f33 (by decide) (by decide)  (by rw [hml]; rfl) (argsL := [(.ref c0)]) (rest := [(.int (2 : Int32)), (.ref rm)]) (lenOf pd_20 rfl) rfl rfl (hb hby d33_28) rfl (fun _ T32 Lc32 X32 hQ32 => ?_)
  obtain ⟨r_32, rfl, N32q, Kp32, Op32, R32_0⟩ := hQ32
  have N32 := Fr.app N8 N32q
  have K37 := K26.trans Kp32 all0
  have f38 := (f30.keep Kp32 nin0)
  obtain ⟨cl39, Ar39, qk39, Sz39, Ng39, Ha39, Gf39⟩ := id f38
  have hin39 := inb_of (j := (2 : Int32)) Sz39 ⟨by decide, by decide⟩
  obtain ⟨T40, h40, X40, e40, W40, st40⟩ := stR X32 hx hZ rfl Ar39 (j := (2 : Int32)) hin39 rfl (Sto.ofV Ar39 qk39 zP7 (Ins.self R32_0.1)) (g := (mkF m 31 #[.val (.ref lg), .val (.int (2 : Int32)), .val (.ref c0)] [(.ref r_32), (.int (2 : Int32)), (.ref rm)])) rfl rfl (hb hby d33_31)
  refine Rch.st st40 ?_
  have N40 := Fr.snoc X40 N32 zP16
  have f41 := ((f9.wr W8).keep Kp32)
  have ne42 := (Exa.neArv f41 f38 (own_w hw 35 rfl))
  have f43 := ((f11.1.wr W8).keep Kp32)
  have ne44 := (Exa.neArv f43 f38 (own_w hw 81 rfl))
  have f45 := ((f13.1.wr W8).keep Kp32)
  have ne46 := (Exa.neArv f45 f38 (own_w hw 81 rfl))
  have f47 := ((f15.wr W8).keep Kp32)
  have ne48 := (Exa.neArv f47 f38 (own_w hw 81 rfl))
  have f49 := ((f17.1.wr W8).keep Kp32)
  have ne50 := (Exa.neArv f49 f38 (own_w hw 81 rfl))
  have f51 := ((f19.1.wr W8).keep Kp32)
  have ne52 := (Exa.neArv f51 f38 (own_w hw 81 rfl))
  have f53 := (f33.keep Kp32)
  have ne54 := (Exa.neArv f53 f38 (own_w hw 81 rfl))
  have f55 := ((f23.1.wr W8).keep Kp32)
  have ne56 := (Exa.neArv f55 f38 (own_w hw 81 rfl))
  have f57 := ((R4_0.1.wr W8).keep Kp32)
  have ne58 := (Exa.neArv f57 f38 (own_w hw 81 rfl))
  have ne59 := (Exa.neArv R32_0.1 f38 (own_w hw 81 rfl))
  have K60 := K37.wr W40 (Or.inl (List.mem_of_getElem? (i := 1) rfl))
  have V40 : Arv Z h40 rm kr (.object "java/math/BigDecimal") (3 : Int32) [(.ref r0), (.ref r1), (.ref r_32)] .null := Arv.set Ar39 qk39 Sz39 Ng39 Ha39 Gf39 rfl W40 2 rfl (Nat.le_of_ble_eq_true rfl)
  obtain ⟨fs, hr, hrun, hended, hW, hsame⟩ := X40.leave (v := none) (fun _ => rfl)
  have f61 := (((f11.other W8 ne12).keep Kp32 nin0).other W40 ne44)
  have f62 := (((f13.other W8 ne14).keep Kp32 nin0).other W40 ne46)
  have f63 := (((R4_0.other W8 ne25).keep Kp32 nin0).other W40 ne58)
  have f64 := (((f17.other W8 ne18).keep Kp32 nin0).other W40 ne50)
  have f65 := (((f19.other W8 ne20).keep Kp32 nin0).other W40 ne52)
  have f66 := (R32_0.other W40 ne59)
  have f67 := (Op32.wr W40 zP16)
  have f68 := ((V8.keep Kp32 nin0).other W40 zP17)
  refine Rch.fin (u := T40.setFrames fs) (X40.returnOut hx Bd.returns (hb hby d33_32) hr) ⟨_, hrun, hended, _, _, rfl, ?_, ⟨_, rfl⟩, hW, hsame.mono (by decide) (by decide)⟩
  show Q_ccharge3_2 Z lg c0 sp ks rm kr s0 s1 s2 r0 r1 r2 x0 x1 x2 w0 w1 w2 xc sc kb wz wy h0 n0 _ T40.heap _
  rw [e40]
  exact ⟨s0, s1, r_4, r0, r1, r_32, x0, x1, (x2 + xc), w0, w1, (w2 + (-xc)), rfl, N40, K60, f67, f68, V40, (BE.mono f61 (by omega)), (BE.mono f62 (by omega)), f63, (BE.mono f64 (by omega)), (BE.mono f65 (by omega)), f66, (own_s32 x0 x1 x2 xc)⟩
abbrev Rm_ccharge3 : Room := { frames := 8, cells := 2, slots := 10, locals := 125 }
def Q_ccharge3 (Z : State) (lg : Addr) (c0 : Addr) (sp : Addr) (ks : ClassId) (rm : Addr) (kr : ClassId) (s0 : Addr) (s1 : Addr) (s2 : Addr) (r0 : Addr) (r1 : Addr) (r2 : Addr) (x0 : Int64) (x1 : Int64) (x2 : Int64) (w0 : Int64) (w1 : Int64) (w2 : Int64) (xc : Int64) (sc : Int32) (kb : Int) (wz : Addr) (wy : Addr) (i : Int32) (h0 : Heap) (n0 : Nat) (v : Option Value) (h : Heap) (L : List Loc) : Prop := ∃ (t0 : Addr) (t1 : Addr) (t2 : Addr) (u0 : Addr) (u1 : Addr) (u2 : Addr) (y0 : Int64) (y1 : Int64) (y2 : Int64) (v0 : Int64) (v1 : Int64) (v2 : Int64), v = none ∧ Fr n0 L ∧ Keep h0 h [sp, rm] ∧ Old Z n0 h ∧ Arv Z h sp ks (.object "java/math/BigDecimal") (3 : Int32) [(.ref t0), (.ref t1), (.ref t2)] .null ∧ Arv Z h rm kr (.object "java/math/BigDecimal") (3 : Int32) [(.ref u0), (.ref u1), (.ref u2)] .null ∧ BE Z h t0 y0 sc (kb + (1 : Int)) ∧ BE Z h t1 y1 sc (kb + (1 : Int)) ∧ BE Z h t2 y2 sc (kb + (1 : Int)) ∧ BE Z h u0 v0 sc (kb + (1 : Int)) ∧ BE Z h u1 v1 sc (kb + (1 : Int)) ∧ BE Z h u2 v2 sc (kb + (1 : Int)) ∧ ((((0 : Int64) + y0) + y1) + y2) = (((((0 : Int64) + x0) + x1) + x2) + xc)
set_option maxRecDepth 65536 in
set_option maxHeartbeats 40000000 in
theorem ccharge3 (l : Launch) (Z : State) (a0 : Array Value) (hw : ∀ d ∈ tables_1, d.before a0 Z = true) (ws : List Jvm.Cond) (lg : Addr) (c0 : Addr) (sp : Addr) (ks : ClassId) (rm : Addr) (kr : ClassId) (s0 : Addr) (s1 : Addr) (s2 : Addr) (r0 : Addr) (r1 : Addr) (r2 : Addr) (x0 : Int64) (x1 : Int64) (x2 : Int64) (w0 : Int64) (w1 : Int64) (w2 : Int64) (xc : Int64) (sc : Int32) (kb : Int) (wz : Addr) (wy : Addr) (i : Int32) (h0 : Heap) (n0 : Nat) (zD0 : Sta Z Z.heap "java/math/BigDecimal" "ZERO_THROUGH_TEN" "[Ljava/math/BigDecimal;" (.ref wz)) (zD1 : ZTab Z Z.heap wz) (zD2 : Sta Z Z.heap "java/math/BigDecimal" "ZERO_SCALED_BY" "[Ljava/math/BigDecimal;" (.ref wy)) (zD3 : STab Z Z.heap wy) (zP0 : Old Z n0 h0) (zP1 : Exa Z h0 lg "com/example/slotwright/slotwright/Ledger") (zP2 : Fld Z h0 lg "com/example/slotwright/slotwright/Ledger" "spent" "[Ljava/math/BigDecimal;" (.ref sp)) (zP3 : Fld Z h0 lg "com/example/slotwright/slotwright/Ledger" "remaining" "[Ljava/math/BigDecimal;" (.ref rm)) (zP4 : Arv Z h0 sp ks (.object "java/math/BigDecimal") (3 : Int32) [(.ref s0), (.ref s1), (.ref s2)] .null) (zP5 : Arv Z h0 rm kr (.object "java/math/BigDecimal") (3 : Int32) [(.ref r0), (.ref r1), (.ref r2)] .null) (zP6 : Ovr Z ks "java/math/BigDecimal") (zP7 : Ovr Z kr "java/math/BigDecimal") (zP8 : BE Z h0 s0 x0 sc kb) (zP9 : BE Z h0 s1 x1 sc kb) (zP10 : BE Z h0 s2 x2 sc kb) (zP11 : BE Z h0 r0 w0 sc kb) (zP12 : BE Z h0 r1 w1 sc kb) (zP13 : BE Z h0 r2 w2 sc kb) (zP14 : BE Z h0 c0 xc sc (1 : Int)) (zP15 : n0 ≤ sp) (zP16 : n0 ≤ rm) (zP17 : sp ≠ rm) (hs : own_S sc) (hk : kb ≤ 100) (hi : i = (0 : Int32) ∨ i = (1 : Int32) ∨ i = (2 : Int32)) :
    MetFree l (⟨"com/example/slotwright/slotwright/Ledger", "charge", "(ILjava/math/BigDecimal;)V"⟩ : MethodName) (head1 (Jvm.Cond.code (⟨"com/example/slotwright/slotwright/Ledger", "charge", "(ILjava/math/BigDecimal;)V"⟩ : MethodName) prog_23_method_3_code 3 none :: ws) Rm_ccharge3) (fun aA uU => aA = #[(.ref lg), (.int i), (.ref c0)] ∧ Z.Warmed39 uU.vm ∧ uU.heap = h0) (fun _ _ _ _ _ => True) (fun _ uU oO uU' => ∃ vV lL, oO = .returned vV ∧ Q_ccharge3 Z lg c0 sp ks rm kr s0 s1 s2 r0 r1 r2 x0 x1 x2 w0 w1 w2 xc sc kb wz wy i h0 n0 vV uU'.heap lL ∧ FrameEnd uU oO uU' lL Rm_ccharge3.cells Rm_ccharge3.slots) := by
  rcases hi with rfl | rfl | rfl
  · exact ccharge3_0 l Z a0 hw ws lg c0 sp ks rm kr s0 s1 s2 r0 r1 r2 x0 x1 x2 w0 w1 w2 xc sc kb wz wy h0 n0 zD0 zD1 zD2 zD3 zP0 zP1 zP2 zP3 zP4 zP5 zP6 zP7 zP8 zP9 zP10 zP11 zP12 zP13 zP14 zP15 zP16 zP17 hs hk
  · exact ccharge3_1 l Z a0 hw ws lg c0 sp ks rm kr s0 s1 s2 r0 r1 r2 x0 x1 x2 w0 w1 w2 xc sc kb wz wy h0 n0 zD0 zD1 zD2 zD3 zP0 zP1 zP2 zP3 zP4 zP5 zP6 zP7 zP8 zP9 zP10 zP11 zP12 zP13 zP14 zP15 zP16 zP17 hs hk
  · exact ccharge3_2 l Z a0 hw ws lg c0 sp ks rm kr s0 s1 s2 r0 r1 r2 x0 x1 x2 w0 w1 w2 xc sc kb wz wy h0 n0 zD0 zD1 zD2 zD3 zP0 zP1 zP2 zP3 zP4 zP5 zP6 zP7 zP8 zP9 zP10 zP11 zP12 zP13 zP14 zP15 zP16 zP17 hs hk
theorem own_z1 : ((0 : Int64) + (0 : Int64)) = (0 : Int64) := by decide
theorem own_z2 : (((0 : Int64) + (0 : Int64)) + (0 : Int64)) = (0 : Int64) := by decide
theorem own_z3 : ((((0 : Int64) + (0 : Int64)) + (0 : Int64)) + (0 : Int64)) = (0 : Int64) := by decide
section CallsS
variable {p : Program} {l : Launch} {e : Env} {R : Room} {s : State} {vm0 : Vm} {k0 : Nat} {m : MethodId} {args : Array Value} {below : List Frame} {meth : Method} {c : Code} {T : State} {locs : List Loc} {cells slots : Nat} {Z : State} {a0 : Array Value} {h : Heap} {rm : Room} {W : Nat} {as' : Array Value} {Q : Option Value → Heap → List Loc → Prop}
theorem own_callIS (X : Stand p l e R (s.setVm vm0) m args below meth c T locs cells slots) (hx : p.tables.exec = Jvm.exec) (hZ : Z.Warmed39 (s.setVm vm0).vm) (hS : s.Since vm0 k0) (hk : k0 ≤ h.size) {own : String} {index : Nat} {y : MethodName} (hy1 : y.name = "<init>") {bytes : ByteArray} {maxL : Nat}
    (hown : (s.setVm vm0).vm.findClass own = some m.cls) (wl : (Cond.methodLink own index y).before a0 Z = true) (win : (Cond.instanceMethod y).before a0 Z = true) (wi : (Cond.initialized y.cls).before a0 Z = true) (wc : (Cond.code y bytes maxL none).before a0 Z = true) (hy : y.cls ≠ "java/lang/invoke/MethodHandle" ∧ y.cls ≠ "java/lang/invoke/VarHandle")
    (hM : MetFree l y (head1 [Cond.code y bytes maxL none] rm) (fun a U => a = as' ∧ Z.Warmed39 U.vm ∧ U.heap = h) (fun _ _ _ _ _ => True) (fun _ U o U' => ∃ v L, o = .returned v ∧ Q v U'.heap L ∧ ReturnedEndW U o U' L rm.cells rm.slots))
    (hf : rm.frames + 1 ≤ R.frames) (hl : W + (maxL + 11) + rm.locals ≤ R.locals) (eT : T.heap = h) (hc : cells + rm.cells ≤ R.cells) (hs : slots + rm.slots ≤ R.slots)
    {g : JFrame} (hg : g.method = m) (hsize : g.locals.size = c.maxLocals) {a : Addr} {argsL rest : List Value} (hlen : ∀ sig, parseMethodDescriptor y.desc = some sig → argsL.length = sig.parameters.length) (hstack : g.stack = argsL.reverse ++ .ref a :: rest) (hW : 2 * g.monitorRoom + (rest.map fun v => v.category).sum ≤ W) (hdg : decode c.code g.pc = .ok (.invokespecial index, 3)) (has : (.ref a :: argsL).toArray = as') :
    ∃ (v : Option Value) (T' : State) (L : List Loc), Stand p l e R (s.setVm T'.vm) m args below meth c T' (locs ++ L) (cells + rm.cells) (slots + rm.slots) ∧ Q v T'.heap L ∧ s.Since T'.vm T'.heap.size ∧ Z.Warmed39 (s.setVm T'.vm).vm ∧ (s.setVm T'.vm).vm.findClass own = some m.cls ∧ ∀ target, Steps p.tables e below (T'.setTop { g with pc := g.pc + 3, stack := v.toList ++ rest }) target → Steps p.tables e below (T.setTop g) target := by
  obtain ⟨v, _, ⟨T', L', k', n'⟩, -, X', hS', hg', ⟨Lc, hQ, h1, h2, h3⟩, st⟩ := X.specialBackS hx hy1 hown (mvT hZ wl) (mvT hZ win) (mvT hZ wc) hy (backOfS (W := W) hM hZ wc wi hf hl) hg hsize (Steps.refl _) (a := a) hlen hstack hW hdg (fun _ _ => ⟨has, eT, hc, hs⟩)
  dsimp only [Pt.U, Pt.locs, Pt.cells, Pt.slots] at X' h1 h2 h3 st hQ hS' hg'
  subst h1 h2 h3
  obtain ⟨r1, r2, r3, r4⟩ := rebS hS (by rw [eT]; exact hk) X' hS' hg' hZ hown
  exact ⟨v, T', Lc, r1, hQ, r2, r3, r4, fun t k => st.trans k⟩
theorem own_callVS (X : Stand p l e R (s.setVm vm0) m args below meth c T locs cells slots) (hx : p.tables.exec = Jvm.exec) (hZ : Z.Warmed39 (s.setVm vm0).vm) (hS : s.Since vm0 k0) (hk : k0 ≤ h.size) {own C : String} {index : Nat} {y z : MethodName} {bytes : ByteArray} {maxL : Nat} {ret : Option FieldType}
    (hown : (s.setVm vm0).vm.findClass own = some m.cls) (wl : (Cond.methodLink own index y).before a0 Z = true) (wd : (Cond.declares y).before a0 Z = true) (hnf : NotFace (s.setVm vm0) y) (wse : (Cond.selects C y z).before a0 Z = true) (win : (Cond.instanceMethod z).before a0 Z = true) (wi : (Cond.initialized z.cls).before a0 Z = true) (wc : (Cond.code z bytes maxL ret).before a0 Z = true) (hy : y.cls ≠ "java/lang/invoke/MethodHandle" ∧ y.cls ≠ "java/lang/invoke/VarHandle")
    (hM : MetFree l z (head1 [Cond.code z bytes maxL ret] rm) (fun a U => a = as' ∧ Z.Warmed39 U.vm ∧ U.heap = h) (fun _ _ _ _ _ => True) (fun _ U o U' => ∃ v L, o = .returned v ∧ Q v U'.heap L ∧ ReturnedEndW U o U' L rm.cells rm.slots))
    (hf : rm.frames + 1 ≤ R.frames) (hl : W + (maxL + 11) + rm.locals ≤ R.locals) (eT : T.heap = h) {b : Addr} (hE : Exa Z h b C) (hc : cells + rm.cells ≤ R.cells) (hs : slots + rm.slots ≤ R.slots)
    {g : JFrame} (hg : g.method = m) (hsize : g.locals.size = c.maxLocals) {argsL rest : List Value} (hlen : ∀ sig, parseMethodDescriptor y.desc = some sig → argsL.length = sig.parameters.length) (hstack : g.stack = argsL.reverse ++ .ref b :: rest) (hW : 2 * g.monitorRoom + (rest.map fun v => v.category).sum ≤ W) (hdg : decode c.code g.pc = .ok (.invokevirtual index, 3)) (has : (.ref b :: argsL).toArray = as') :
    ∃ (v : Option Value) (T' : State) (L : List Loc), Stand p l e R (s.setVm T'.vm) m args below meth c T' (locs ++ L) (cells + rm.cells) (slots + rm.slots) ∧ Q v T'.heap L ∧ s.Since T'.vm T'.heap.size ∧ Z.Warmed39 (s.setVm T'.vm).vm ∧ (s.setVm T'.vm).vm.findClass own = some m.cls ∧ ∀ target, Steps p.tables e below (T'.setTop { g with pc := g.pc + 3, stack := v.toList ++ rest }) target → Steps p.tables e below (T.setTop g) target := by
  obtain ⟨cq, kq, qa, qb, qc⟩ := isOf hZ eT hE
  obtain ⟨v, _, ⟨T', L', k', n'⟩, -, X', hS', hg', ⟨Lc, hQ, h1, h2, h3⟩, st⟩ := X.virtualBackS hx hown (mvT hZ wl) (mvT hZ wd) hnf (mvT hZ wse) (mvT hZ win) hy (backOfS (W := W) hM hZ wc wi hf hl) qa qc hg hsize (Steps.refl _) hlen hstack hW hdg (fun _ _ => ⟨has, eT, hc, hs⟩)
  dsimp only [Pt.U, Pt.locs, Pt.cells, Pt.slots] at X' h1 h2 h3 st hQ hS' hg'
  subst h1 h2 h3
  obtain ⟨r1, r2, r3, r4⟩ := rebS hS (by rw [eT]; exact hk) X' hS' hg' hZ hown
  exact ⟨v, T', Lc, r1, hQ, r2, r3, r4, fun t k => st.trans k⟩
end CallsS
abbrev Y_30 : MethodName := ⟨"java/util/ArrayList", "<init>", "()V"⟩
theorem pd_21 : parseMethodDescriptor "(Ljava/util/List;)V" = some ⟨[(.object "java/util/List")], none⟩ := by decide +kernel
abbrev Y_31 : MethodName := ⟨"com/example/slotwright/slotwright/Ledger", "<init>", "(Ljava/util/List;)V"⟩
abbrev Y_32 : MethodName := ⟨"com/example/slotwright/slotwright/Ledger", "revenue", "()Ljava/math/BigDecimal;"⟩
theorem pd_22 : parseMethodDescriptor "(Ljava/math/BigDecimal;)I" = some ⟨[(.object "java/math/BigDecimal")], some .int⟩ := by decide +kernel
abbrev Y_33 : MethodName := ⟨"java/math/BigDecimal", "compareTo", "(Ljava/math/BigDecimal;)I"⟩
theorem pd_23 : parseMethodDescriptor "(Ljava/lang/String;Ljava/math/BigDecimal;)V" = some ⟨[(.object "java/lang/String"), (.object "java/math/BigDecimal")], none⟩ := by decide +kernel
abbrev Y_34 : MethodName := ⟨"com/example/slotwright/slotwright/Market$Advertiser", "<init>", "(Ljava/lang/String;Ljava/math/BigDecimal;)V"⟩
theorem pd_24 : parseMethodDescriptor "(Ljava/lang/Object;)Z" = some ⟨[(.object "java/lang/Object")], some .boolean⟩ := by decide +kernel
abbrev Y_35 : MethodName := ⟨"java/util/List", "add", "(Ljava/lang/Object;)Z"⟩
abbrev Y_36 : MethodName := ⟨"java/util/ArrayList", "add", "(Ljava/lang/Object;)Z"⟩
theorem pd_25 : parseMethodDescriptor "(ILjava/math/BigDecimal;)V" = some ⟨[.int, (.object "java/math/BigDecimal")], none⟩ := by decide +kernel
abbrev Y_37 : MethodName := ⟨"com/example/slotwright/slotwright/Ledger", "charge", "(ILjava/math/BigDecimal;)V"⟩
def Q_claw (Z : State) (p0 : Int32) (p1 : Int32) (p2 : Int32) (p3 : Int32) (p4 : Int32) (p5 : Int32) (wz : Addr) (de : Addr) (kde : ClassId) (zz : Addr) (wy : Addr) (h0 : Heap) (n0 : Nat) (v : Option Value) (h : Heap) (L : List Loc) : Prop := v = some (.int (1 : Int32)) ∧ Fr n0 L ∧ Keep h0 h [] ∧ Old Z n0 h
theorem pn_com_example_slotwright_slotwright_LedgerRevenuePinLaw : plainName "com/example/slotwright/slotwright/LedgerRevenuePinLaw" = true := by first | (simp [plainName, overriddenIn]; done) | decide +kernel
theorem ef_claw (m : MethodId) (p0 : Int32) (p1 : Int32) (p2 : Int32) (p3 : Int32) (p4 : Int32) (p5 : Int32) (wz : Addr) (de : Addr) (kde : ClassId) (zz : Addr) (wy : Addr) : entryFrame m #[(.int p0), (.int p1), (.int p2), (.int p3), (.int p4), (.int p5)] maxLocals = mkF m 0 #[.val (.int p0), .val (.int p1), .val (.int p2), .val (.int p3), .val (.int p4), .val (.int p5), .unset, .unset, .unset, .unset, .unset, .unset, .unset, .unset, .unset, .unset, .unset] [] := by first | (simp [entryFrame, mkF, argsToLocals, Value.category, maxLocals]; done) | rfl
set_option maxRecDepth 65536 in
set_option maxHeartbeats 40000000 in
theorem claw (l : Launch) (Z : State) (a0 : Array Value) (hw : ∀ d ∈ tables_1, d.before a0 Z = true) (ws : List Jvm.Cond) (p0 : Int32) (p1 : Int32) (p2 : Int32) (p3 : Int32) (p4 : Int32) (p5 : Int32) (wz : Addr) (de : Addr) (kde : ClassId) (zz : Addr) (wy : Addr) (h0 : Heap) (n0 : Nat) (zD0 : Sta Z Z.heap "java/math/BigDecimal" "ZERO_THROUGH_TEN" "[Ljava/math/BigDecimal;" (.ref wz)) (zD1 : ZTab Z Z.heap wz) (zD2 : Sta Z Z.heap "java/util/ArrayList" "DEFAULTCAPACITY_EMPTY_ELEMENTDATA" "[Ljava/lang/Object;" (.ref de)) (zD3 : Arv Z Z.heap de kde (.object "java/lang/Object") (0 : Int32) [] .null) (zD4 : Sta Z Z.heap "java/math/BigDecimal" "ZERO" "Ljava/math/BigDecimal;" (.ref zz)) (zD5 : BDc Z Z.heap zz (0 : Int64) (0 : Int32)) (zD6 : Sta Z Z.heap "java/math/BigDecimal" "ZERO_SCALED_BY" "[Ljava/math/BigDecimal;" (.ref wy)) (zD7 : STab Z Z.heap wy) (zP0 : Old Z n0 h0) :
    MetFree l x (head1 (Jvm.Cond.code x code maxLocals ret :: ws) room_1) (fun aA uU => aA = #[(.int p0), (.int p1), (.int p2), (.int p3), (.int p4), (.int p5)] ∧ Z.Warmed39 uU.vm ∧ uU.heap = h0) (fun _ _ _ _ _ => True) (fun _ uU oO uU' => ∃ vV lL, oO = .returned vV ∧ Q_claw Z p0 p1 p2 p3 p4 p5 wz de kde zz wy h0 n0 vV uU'.heap lL ∧ ReturnedEndW uU oO uU' lL room_1.cells room_1.slots) := by
  refine MetFree.of_bodySF (plainFor_of_name pn_com_example_slotwright_slotwright_LedgerRevenuePinLaw) hisR ?_
  intro p e s m args below meth c s₁ Bd hml0 hP hK
  obtain ⟨rfl, hZ, hh⟩ := hP
  have hx := Bd.exec
  have hby := Bd.bytes
  have hml : c.maxLocals = 17 := hml0
  have hown : s.vm.findClass "com/example/slotwright/slotwright/LedgerRevenuePinLaw" = some m.cls := findClass_of_methodNamed Bd.named
  have hnm := (name_of_methodNamed Bd.named Bd.method).1
  have X0 : Stand p l e room_1 s m #[(.int p0), (.int p1), (.int p2), (.int p3), (.int p4), (.int p5)] below meth c s₁ [] 0 0 := Stand.of_body Bd
  have e0 : s₁.heap = h0 := by rw [← hh, Bd.state]; rfl
  have N0 := Fr.nil n0
  have hwS : ∀ a ∈ Bundle.stringAtoms, a.before a0 Z = true := fun d hd => hw d ((by decide +kernel : ∀ d ∈ Bundle.stringAtoms, d ∈ tables_1) d hd)
  refine Rch.out (Rch.st (fun t k => castTop (ef_claw m p0 p1 p2 p3 p4 p5 wz de kde zz wy) k) ?_)
  show Rch p.tables e below _ (s₁.setTop (mkF m 0 #[.val (.int p0), .val (.int p1), .val (.int p2), .val (.int p3), .val (.int p4), .val (.int p5), .unset, .unset, .unset, .unset, .unset, .unset, .unset, .unset, .unset, .unset, .unset] []))
  refine Rch.st (fun _ hr => XS.iloadN X0.here hx rfl (hb hby at_0) rfl hr) ?_
  refine Rch.st (fun _ hr => XS.iconst X0.here hx rfl (hb hby at_1) hr) ?_
  refine Rch.st (fun _ hr => XS.iand X0.here hx rfl (hb hby at_2) rfl hr) ?_
  refine Rch.st (fun _ hr => XS.istore X0.here hx rfl (hb hby at_3) rfl (l' := #[.val (.int p0), .val (.int p1), .val (.int p2), .val (.int p3), .val (.int p4), .val (.int p5), .val (.int (p0 &&& (3 : Int32))), .unset, .unset, .unset, .unset, .unset, .unset, .unset, .unset, .unset, .unset]) rfl hr) ?_
  show Rch p.tables e below _ (s₁.setTop (mkF m 5 #[.val (.int p0), .val (.int p1), .val (.int p2), .val (.int p3), .val (.int p4), .val (.int p5), .val (.int (p0 &&& (3 : Int32))), .unset, .unset, .unset, .unset, .unset, .unset, .unset, .unset, .unset, .unset] []))
  rcases own_and3 p0 with hn | hn | hn | hn
  · rw [hn]
    show Rch p.tables e below _ (s₁.setTop (mkF m 5 #[.val (.int p0), .val (.int p1), .val (.int p2), .val (.int p3), .val (.int p4), .val (.int p5), .val (.int (0 : Int32)), .unset, .unset, .unset, .unset, .unset, .unset, .unset, .unset, .unset, .unset] []))
    refine Rch.st (fun _ hr => XS.iloadN X0.here hx rfl (hb hby at_5) rfl hr) ?_
    refine Rch.st (fun _ hr => XS.iconst X0.here hx rfl (hb hby at_6) hr) ?_
    refine Rch.st (fun _ hr => XS.iushr X0.here hx rfl (hb hby at_7) rfl hr) ?_
    refine Rch.st (fun _ hr => XS.iconst X0.here hx rfl (hb hby at_8) hr) ?_
    refine Rch.st (fun _ hr => XS.iand X0.here hx rfl (hb hby at_9) rfl hr) ?_
    refine Rch.st (fun _ hr => XS.istore X0.here hx rfl (hb hby at_10) rfl (l' := #[.val (.int p0), .val (.int p1), .val (.int p2), .val (.int p3), .val (.int p4), .val (.int p5), .val (.int (0 : Int32)), .val (.int (((p0.toUInt32 >>> ((2 : Int32) &&& 31).toUInt32).toInt32) &&& (3 : Int32))), .unset, .unset, .unset, .unset, .unset, .unset, .unset, .unset, .unset]) rfl hr) ?_
    show Rch p.tables e below _ (s₁.setTop (mkF m 12 #[.val (.int p0), .val (.int p1), .val (.int p2), .val (.int p3), .val (.int p4), .val (.int p5), .val (.int (0 : Int32)), .val (.int (((p0.toUInt32 >>> ((2 : Int32) &&& 31).toUInt32).toInt32) &&& (3 : Int32))), .unset, .unset, .unset, .unset, .unset, .unset, .unset, .unset, .unset] []))
    obtain ⟨sc, hsc⟩ : ∃ z, z = (((p0.toUInt32 >>> ((2 : Int32) &&& 31).toUInt32).toInt32) &&& (3 : Int32)) ∧ (own_S z) := ⟨_, rfl, own_and3S _⟩
    rw [← hsc.1]
    show Rch p.tables e below _ (s₁.setTop (mkF m 12 #[.val (.int p0), .val (.int p1), .val (.int p2), .val (.int p3), .val (.int p4), .val (.int p5), .val (.int (0 : Int32)), .val (.int sc), .unset, .unset, .unset, .unset, .unset, .unset, .unset, .unset, .unset] []))
    refine Rch.st (fun _ hr => XS.iloadN X0.here hx rfl (hb hby at_12) rfl hr) ?_
    refine Rch.st (fun _ hr => XS.bipush X0.here hx rfl (hb hby at_13) hr) ?_
    refine Rch.st (fun _ hr => XS.iushr X0.here hx rfl (hb hby at_15) rfl hr) ?_
    refine Rch.st (fun _ hr => XS.iconst X0.here hx rfl (hb hby at_16) hr) ?_
    refine Rch.st (fun _ hr => XS.iand X0.here hx rfl (hb hby at_17) rfl hr) ?_
    refine Rch.st (fun _ hr => XS.istore X0.here hx rfl (hb hby at_18) rfl (l' := #[.val (.int p0), .val (.int p1), .val (.int p2), .val (.int p3), .val (.int p4), .val (.int p5), .val (.int (0 : Int32)), .val (.int sc), .val (.int (((p0.toUInt32 >>> ((10 : Int32) &&& 31).toUInt32).toInt32) &&& (3 : Int32))), .unset, .unset, .unset, .unset, .unset, .unset, .unset, .unset]) rfl hr) ?_
    show Rch p.tables e below _ (s₁.setTop (mkF m 20 #[.val (.int p0), .val (.int p1), .val (.int p2), .val (.int p3), .val (.int p4), .val (.int p5), .val (.int (0 : Int32)), .val (.int sc), .val (.int (((p0.toUInt32 >>> ((10 : Int32) &&& 31).toUInt32).toInt32) &&& (3 : Int32))), .unset, .unset, .unset, .unset, .unset, .unset, .unset, .unset] []))
    obtain ⟨cnt, hcnt⟩ : ∃ z, z = (((p0.toUInt32 >>> ((10 : Int32) &&& 31).toUInt32).toInt32) &&& (3 : Int32)) ∧ (own_S z) := ⟨_, rfl, own_and3S _⟩
    rw [← hcnt.1]
    show Rch p.tables e below _ (s₁.setTop (mkF m 20 #[.val (.int p0), .val (.int p1), .val (.int p2), .val (.int p3), .val (.int p4), .val (.int p5), .val (.int (0 : Int32)), .val (.int sc), .val (.int cnt), .unset, .unset, .unset, .unset, .unset, .unset, .unset, .unset] []))
    obtain ⟨T1, h1, X1, e1, E1, A1, D1, -, st1⟩ := newO X0 hx hZ hown (own_w hw 0 rfl) (own_w hw 1 rfl) (own_w hw 2 rfl) e0 (g := (mkF m 20 #[.val (.int p0), .val (.int p1), .val (.int p2), .val (.int p3), .val (.int p4), .val (.int p5), .val (.int (0 : Int32)), .val (.int sc), .val (.int cnt), .unset, .unset, .unset, .unset, .unset, .unset, .unset, .unset] [])) rfl (hb hby at_20) (by decide) (by decide)
    obtain ⟨b1, g1⟩ : ∃ z, z = h0.size := ⟨_, rfl⟩
    rw [← g1] at A1 D1 st1
    refine Rch.st st1 ?_
    have q1 : h0.size ≤ b1 := Nat.le_of_eq g1.symm
    have g_b1 : n0 ≤ b1 := Nat.le_trans (Nat.le_trans (Nat.le_of_eq zP0.1.symm) zP0.2.1) q1
    have sz_b1 : h0.size ≤ b1 := Nat.le_trans (Keep.refl h0 []).1 q1
    have K2 := (Keep.refl h0 []).ext E1
    have F1_modCount : Fld Z h1 b1 "java/util/AbstractList" "modCount" "I" (.int (0 : Int32)) := D1 (Or.inl (own_w hw 22 rfl)) (ty := .int) (by decide)
    have F1_elementData : Fld Z h1 b1 "java/util/ArrayList" "elementData" "[Ljava/lang/Object;" .null := D1 (Or.inl (own_w hw 25 rfl)) (ty := (.array (.object "java/lang/Object"))) (by decide)
    have F1_size : Fld Z h1 b1 "java/util/ArrayList" "size" "I" (.int (0 : Int32)) := D1 (Or.inl (own_w hw 53 rfl)) (ty := .int) (by decide)
    refine Rch.st (fun _ hr => XS.dup X1.here hx rfl (hb hby at_23) rfl rfl hr) ?_
    have f4 := (zP0.ext E1)
    show Rch p.tables e below _ (T1.setTop (mkF m 24 #[.val (.int p0), .val (.int p1), .val (.int p2), .val (.int p3), .val (.int p4), .val (.int p5), .val (.int (0 : Int32)), .val (.int sc), .val (.int cnt), .unset, .unset, .unset, .unset, .unset, .unset, .unset, .unset] [(.ref b1), (.ref b1)]))
    refine own_kI X1 hx hZ (y := Y_30) rfl hown (own_w hw 3 rfl) (own_w hw 4 rfl) (own_w hw 2 rfl) (own_w hw 5 rfl) (by decide) (W := 1) (calinit l Z a0 hw [] b1 de h1 n0 zD2 f4 A1 F1_elementData F1_size F1_modCount g_b1) (by decide) (by decide) e1 (by decide) (by decide)  (by rw [hml]; rfl) (a := b1) (argsL := []) (rest := [(.ref b1)]) (lenOf pd_0 rfl) rfl rfl (hb hby at_24) rfl (fun _ T3 Lc3 X3 hQ3 => ?_)
    obtain ⟨rfl, N3q, Kp3, Op3, R3_0, R3_1, R3_2, R3_3⟩ := hQ3
    have N3 := Fr.app N0 N3q
    have K5 := K2.trans Kp3 (allS (Or.inr sz_b1) all0)
    refine Rch.st (fun _ hr => XS.astore X3.here hx rfl (hb hby at_27) rfl rfl (l' := #[.val (.int p0), .val (.int p1), .val (.int p2), .val (.int p3), .val (.int p4), .val (.int p5), .val (.int (0 : Int32)), .val (.int sc), .val (.int cnt), .val (.ref b1), .unset, .unset, .unset, .unset, .unset, .unset, .unset]) rfl hr) ?_
    refine Rch.st (fun _ hr => XS.iloadN X3.here hx rfl (hb hby at_29) rfl hr) ?_
    refine Rch.st (fun _ hr => XS.i2l X3.here hx rfl (hb hby at_30) rfl hr) ?_
    refine Rch.st (fun _ hr => XS.iload X3.here hx rfl (hb hby at_31) rfl hr) ?_
    show Rch p.tables e below _ (T3.setTop (mkF m 33 #[.val (.int p0), .val (.int p1), .val (.int p2), .val (.int p3), .val (.int p4), .val (.int p5), .val (.int (0 : Int32)), .val (.int sc), .val (.int cnt), .val (.ref b1), .unset, .unset, .unset, .unset, .unset, .unset, .unset] [(.int sc), (.long (p1.toInt64))]))
    refine own_kS X3 hx hZ (y := Y_5) hown (own_w hw 26 rfl) (own_w hw 27 rfl) (own_w hw 28 rfl) (own_w hw 29 rfl) (by decide) (W := 0) (cvalueOfS l Z a0 hw [] (p1.toInt64) sc wz wy T3.heap n0 zD0 zD1 zD6 zD7 Op3 (Bk.ne (Bk.i2l p1) (by decide)) hsc.2.nn hsc.2.lt) (by decide) (by decide) rfl (by decide) (by decide)  (by rw [hml]; rfl) (argsL := [(.long (p1.toInt64)), (.int sc)]) (rest := []) (lenOf pd_5 rfl) rfl rfl (hb hby at_33) rfl (fun _ T6 Lc6 X6 hQ6 => ?_)
    obtain ⟨r_6, rfl, N6q, Kp6, Op6, R6_0⟩ := hQ6
    have N6 := Fr.app N3 N6q
    have K7 := K5.trans Kp6 all0
    have BE6 : BE Z T6.heap r_6 (p1.toInt64) sc (1 : Int) := ⟨R6_0.1, sc, R6_0, Or.inl rfl, ((Bk.i2l p1)).mono (by decide)⟩
    refine Rch.st (fun _ hr => XS.astore X6.here hx rfl (hb hby at_36) rfl rfl (l' := #[.val (.int p0), .val (.int p1), .val (.int p2), .val (.int p3), .val (.int p4), .val (.int p5), .val (.int (0 : Int32)), .val (.int sc), .val (.int cnt), .val (.ref b1), .val (.ref r_6), .unset, .unset, .unset, .unset, .unset, .unset]) rfl hr) ?_
    refine Rch.st (fun _ hr => XS.iload X6.here hx rfl (hb hby at_38) rfl hr) ?_
    refine Rch.st (fun _ hr => XS.iconst X6.here hx rfl (hb hby at_40) hr) ?_
    refine Rch.st (fun _ hr => XS.icmpYes X6.here hx rfl (pc0 := 41) (pc' := 63) rfl (hb hby at_41) rfl (tlt (by decide : (0 : Int32) < (1 : Int32))).1 (by decide) (by decide) hr) ?_
    refine Rch.st (fun _ hr => XS.iload X6.here hx rfl (hb hby at_63) rfl hr) ?_
    refine Rch.st (fun _ hr => XS.iconst X6.here hx rfl (hb hby at_65) hr) ?_
    refine Rch.st (fun _ hr => XS.icmpYes X6.here hx rfl (pc0 := 66) (pc' := 94) rfl (hb hby at_66) rfl (tlt (by decide : (0 : Int32) < (2 : Int32))).1 (by decide) (by decide) hr) ?_
    refine Rch.st (fun _ hr => XS.iload X6.here hx rfl (hb hby at_94) rfl hr) ?_
    show Rch p.tables e below _ (T6.setTop (mkF m 96 #[.val (.int p0), .val (.int p1), .val (.int p2), .val (.int p3), .val (.int p4), .val (.int p5), .val (.int (0 : Int32)), .val (.int sc), .val (.int cnt), .val (.ref b1), .val (.ref r_6), .unset, .unset, .unset, .unset, .unset, .unset] [(.int (0 : Int32))]))
    refine Rch.st (fun _ hr => XS.iconst X6.here hx rfl (hb hby at_96) hr) ?_
    refine Rch.st (fun _ hr => XS.icmpYes X6.here hx rfl (pc0 := 97) (pc' := 119) rfl (hb hby at_97) rfl (tlt (by decide : (0 : Int32) < (3 : Int32))).1 (by decide) (by decide) hr) ?_
    obtain ⟨T8, h8, X8, e8, E8, A8, D8, -, st8⟩ := newO X6 hx hZ hown (own_w hw 34 rfl) (own_w hw 35 rfl) (own_w hw 36 rfl) rfl (g := (mkF m 119 #[.val (.int p0), .val (.int p1), .val (.int p2), .val (.int p3), .val (.int p4), .val (.int p5), .val (.int (0 : Int32)), .val (.int sc), .val (.int cnt), .val (.ref b1), .val (.ref r_6), .unset, .unset, .unset, .unset, .unset, .unset] [])) rfl (hb hby at_119) (by decide) (by decide)
    obtain ⟨b8, g8⟩ : ∃ z, z = T6.heap.size := ⟨_, rfl⟩
    rw [← g8] at A8 D8 st8
    refine Rch.st st8 ?_
    have q8 : T6.heap.size ≤ b8 := Nat.le_of_eq g8.symm
    have f9 := (R3_3.keep Kp6 nin0)
    have ne10 := Nat.ne_of_lt (Nat.lt_of_lt_of_le f9.lt q8)
    have ne11 := Nat.ne_of_lt (Nat.lt_of_lt_of_le BE6.lt q8)
    have g_b8 : n0 ≤ b8 := Nat.le_trans (Nat.le_trans (Nat.le_of_eq Op6.1.symm) Op6.2.1) q8
    have sz_b8 : h0.size ≤ b8 := Nat.le_trans K7.1 q8
    have K12 := K7.ext E8
    have F8_advertisers : Fld Z h8 b8 "com/example/slotwright/slotwright/Ledger" "advertisers" "Ljava/util/List;" .null := D8 (Or.inr (own_w hw 42 rfl)) (ty := (.object "java/util/List")) (by decide)
    have F8_spent : Fld Z h8 b8 "com/example/slotwright/slotwright/Ledger" "spent" "[Ljava/math/BigDecimal;" .null := D8 (Or.inr (own_w hw 57 rfl)) (ty := (.array (.object "java/math/BigDecimal"))) (by decide)
    have F8_remaining : Fld Z h8 b8 "com/example/slotwright/slotwright/Ledger" "remaining" "[Ljava/math/BigDecimal;" .null := D8 (Or.inr (own_w hw 59 rfl)) (ty := (.array (.object "java/math/BigDecimal"))) (by decide)
    refine Rch.st (fun _ hr => XS.dup X8.here hx rfl (hb hby at_122) rfl rfl hr) ?_
    refine Rch.st (fun _ hr => XS.aload X8.here hx rfl (hb hby at_123) rfl rfl hr) ?_
    have f14 := (Op6.ext E8)
    have f15 := ((R3_0.keep Kp6).ext E8)
    have f16 := ((R3_2.keep Kp6 nin0).ext E8)
    show Rch p.tables e below _ (T8.setTop (mkF m 125 #[.val (.int p0), .val (.int p1), .val (.int p2), .val (.int p3), .val (.int p4), .val (.int p5), .val (.int (0 : Int32)), .val (.int sc), .val (.int cnt), .val (.ref b1), .val (.ref r_6), .unset, .unset, .unset, .unset, .unset, .unset] [(.ref b1), (.ref b8), (.ref b8)]))
    refine own_kI X8 hx hZ (y := Y_31) rfl hown (own_w hw 37 rfl) (own_w hw 38 rfl) (own_w hw 36 rfl) (own_w hw 39 rfl) (by decide) (W := 1) (cledger0 l Z a0 hw [] b8 b1 zz h8 n0 zD4 zD5 f14 A8 F8_advertisers F8_spent F8_remaining g_b8 f15 f16) (by decide) (by decide) e8 (by decide) (by decide)  (by rw [hml]; rfl) (a := b8) (argsL := [(.ref b1)]) (rest := [(.ref b8)]) (lenOf pd_21 rfl) rfl rfl (hb hby at_125) rfl (fun _ T13 Lc13 X13 hQ13 => ?_)
    obtain ⟨sp_13, ks_13, rm_13, kr_13, rfl, N13q, Kp13, Op13, R13_0, R13_1, R13_2, R13_3, R13_4, R13_5, R13_6, R13_7, R13_8, R13_9⟩ := hQ13
    have N13 := Fr.app N6 N13q
    have f17 := (f9.ext E8)
    have ne18 := Nat.ne_of_lt (Nat.lt_of_lt_of_le f17.lt R13_3)
    have f19 := (BE6.ext E8)
    have ne20 := Nat.ne_of_lt (Nat.lt_of_lt_of_le f19.lt R13_3)
    have ne21 := Nat.ne_of_lt (Nat.lt_of_lt_of_le F8_remaining.lt R13_3)
    have g_sp_13 : n0 ≤ sp_13 := Nat.le_trans (Nat.le_trans (Nat.le_of_eq f14.1.symm) f14.2.1) R13_3
    have sz_sp_13 : h0.size ≤ sp_13 := Nat.le_trans K12.1 R13_3
    have ne22 := Nat.ne_of_lt (Nat.lt_of_lt_of_le f17.lt R13_4)
    have ne23 := Nat.ne_of_lt (Nat.lt_of_lt_of_le f19.lt R13_4)
    have ne24 := Nat.ne_of_lt (Nat.lt_of_lt_of_le F8_remaining.lt R13_4)
    have g_rm_13 : n0 ≤ rm_13 := Nat.le_trans (Nat.le_trans (Nat.le_of_eq f14.1.symm) f14.2.1) R13_4
    have sz_rm_13 : h0.size ≤ rm_13 := Nat.le_trans K12.1 R13_4
    have K25 := K12.trans Kp13 (allS (Or.inr sz_b8) all0)
    have BEz13 : BE Z T13.heap zz (0 : Int64) sc (1 : Int) := BE.zero (zD5.ext Op13.2) (by decide)
    refine Rch.st (fun _ hr => XS.astore X13.here hx rfl (hb hby at_128) rfl rfl (l' := #[.val (.int p0), .val (.int p1), .val (.int p2), .val (.int p3), .val (.int p4), .val (.int p5), .val (.int (0 : Int32)), .val (.int sc), .val (.int cnt), .val (.ref b1), .val (.ref r_6), .val (.ref b8), .unset, .unset, .unset, .unset, .unset]) rfl hr) ?_
    refine Rch.st (fun _ hr => XS.lconst X13.here hx rfl (hb hby at_130) hr) ?_
    refine Rch.st (fun _ hr => XS.lstore X13.here hx rfl (hb hby at_131) rfl (l' := #[.val (.int p0), .val (.int p1), .val (.int p2), .val (.int p3), .val (.int p4), .val (.int p5), .val (.int (0 : Int32)), .val (.int sc), .val (.int cnt), .val (.ref b1), .val (.ref r_6), .val (.ref b8), .val (.long (0 : Int64)), .second, .unset, .unset, .unset]) rfl hr) ?_
    refine Rch.st (fun _ hr => XS.iload X13.here hx rfl (hb hby at_133) rfl hr) ?_
    refine Rch.st (fun _ hr => XS.ifYes X13.here hx rfl (pc0 := 135) (pc' := 253) rfl (hb hby at_135) rfl ((if0 _ _).trans (flt (by decide : ¬ ((0 : Int32) < (0 : Int32)))).2.2.2) (by decide) (by decide) hr) ?_
    refine Rch.st (fun _ hr => XS.aload X13.here hx rfl (hb hby at_253) rfl rfl hr) ?_
    show Rch p.tables e below _ (T13.setTop (mkF m 255 #[.val (.int p0), .val (.int p1), .val (.int p2), .val (.int p3), .val (.int p4), .val (.int p5), .val (.int (0 : Int32)), .val (.int sc), .val (.int cnt), .val (.ref b1), .val (.ref r_6), .val (.ref b8), .val (.long (0 : Int64)), .second, .unset, .unset, .unset] [(.ref b8)]))
    refine own_kV X13 hx hZ (y := Y_32) (z := Y_32) hown (own_w hw 65 rfl) (own_w hw 66 rfl) (notFace_of_selects (args := #[]) (mvT hZ (own_w hw 68 rfl))) (own_w hw 68 rfl) (own_w hw 67 rfl) (own_w hw 36 rfl) (own_w hw 69 rfl) (by decide) (W := 0) (crev0 l Z a0 hw [] b8 sp_13 ks_13 sc (1 : Int) wz wy zz T13.heap n0 zD0 zD1 zD6 zD7 zD4 zD5 Op13 R13_1 R13_5 hsc.2 (by decide) (by decide)) (by decide) (by decide) rfl R13_0 (by decide) (by decide)  (by rw [hml]; rfl) (argsL := []) (rest := []) (lenOf pd_19 rfl) rfl rfl (hb hby at_255) rfl (fun _ T26 Lc26 X26 hQ26 => ?_)
    obtain ⟨r_26, rfl, N26q, Kp26, Op26, R26_0⟩ := hQ26
    have N26 := Fr.app N13 N26q
    have K27 := K25.trans Kp26 all0
    refine Rch.st (fun _ hr => XS.lload X26.here hx rfl (hb hby at_258) rfl hr) ?_
    refine Rch.st (fun _ hr => XS.iload X26.here hx rfl (hb hby at_260) rfl hr) ?_
    show Rch p.tables e below _ (T26.setTop (mkF m 262 #[.val (.int p0), .val (.int p1), .val (.int p2), .val (.int p3), .val (.int p4), .val (.int p5), .val (.int (0 : Int32)), .val (.int sc), .val (.int cnt), .val (.ref b1), .val (.ref r_6), .val (.ref b8), .val (.long (0 : Int64)), .second, .unset, .unset, .unset] [(.int sc), (.long (0 : Int64)), (.ref r_26)]))
    refine own_kS X26 hx hZ (y := Y_5) hown (own_w hw 26 rfl) (own_w hw 27 rfl) (own_w hw 28 rfl) (own_w hw 29 rfl) (by decide) (W := 1) (cvalueOfS l Z a0 hw [] (0 : Int64) sc wz wy T26.heap n0 zD0 zD1 zD6 zD7 Op26 (Bk.ne Bk.zero (by decide)) hsc.2.nn hsc.2.lt) (by decide) (by decide) rfl (by decide) (by decide)  (by rw [hml]; rfl) (argsL := [(.long (0 : Int64)), (.int sc)]) (rest := [(.ref r_26)]) (lenOf pd_5 rfl) rfl rfl (hb hby at_262) rfl (fun _ T28 Lc28 X28 hQ28 => ?_)
    obtain ⟨r_28, rfl, N28q, Kp28, Op28, R28_0⟩ := hQ28
    have N28 := Fr.app N26 N28q
    have K29 := K27.trans Kp28 all0
    have BE28 : BE Z T28.heap r_28 (0 : Int64) sc (3 : Int) := ⟨R28_0.1, sc, R28_0, Or.inl rfl, (Bk.zero).mono (by decide)⟩
    show Rch p.tables e below _ (T28.setTop (mkF m 265 #[.val (.int p0), .val (.int p1), .val (.int p2), .val (.int p3), .val (.int p4), .val (.int p5), .val (.int (0 : Int32)), .val (.int sc), .val (.int cnt), .val (.ref b1), .val (.ref r_6), .val (.ref b8), .val (.long (0 : Int64)), .second, .unset, .unset, .unset] [(.ref r_28), (.ref r_26)]))
    have f31 := (R26_0.keep Kp28 nin0)
    show Rch p.tables e below _ (T28.setTop (mkF m 265 #[.val (.int p0), .val (.int p1), .val (.int p2), .val (.int p3), .val (.int p4), .val (.int p5), .val (.int (0 : Int32)), .val (.int sc), .val (.int cnt), .val (.ref b1), .val (.ref r_6), .val (.ref b8), .val (.long (0 : Int64)), .second, .unset, .unset, .unset] [(.ref r_28), (.ref r_26)]))
    refine own_kV X28 hx hZ (y := Y_33) (z := Y_33) hown (own_w hw 70 rfl) (own_w hw 71 rfl) (notFace_of_selects (args := #[]) (mvT hZ (own_w hw 73 rfl))) (own_w hw 73 rfl) (own_w hw 72 rfl) (own_w hw 28 rfl) (own_w hw 74 rfl) (by decide) (W := 0) (ccompare l Z a0 hw [] r_26 r_28 (0 : Int64) (0 : Int64) sc (1 : Int) (3 : Int) T28.heap n0 f31 BE28 hsc.2 (by decide) (by decide) rfl) (by decide) (by decide) rfl f31.1 (by decide) (by decide)  (by rw [hml]; rfl) (argsL := [(.ref r_28)]) (rest := []) (lenOf pd_22 rfl) rfl rfl (hb hby at_265) rfl (fun _ T30 Lc30 X30 hQ30 => ?_)
    obtain ⟨rfl, N30q, e30⟩ := hQ30
    have N30 := Fr.app N28 N30q
    refine Rch.st (fun _ hr => XS.ifNo X30.here hx rfl (hb hby at_268) rfl ((if0 _ _).trans (teq (by decide : (0 : Int32) = (0 : Int32))).2) hr) ?_
    refine Rch.st (fun _ hr => XS.iconst X30.here hx rfl (hb hby at_271) hr) ?_
    refine Rch.st (fun _ hr => XS.goto X30.here hx rfl (pc0 := 272) (pc' := 276) rfl (hb hby at_272) (by decide) (by decide) hr) ?_
    have hS0 : s.Since s.vm T28.heap.size := (State.WarmedH.refl s).since _
    obtain ⟨fs, hr, hrun, hended, hREW⟩ := Jvm.Stand.leaveW (s := s) (vm₁ := s.vm) X30 hS0 (by rw [e30]; exact (Nat.le_refl _)) (v := some (.int (1 : Int32))) (fun h => by rw [Bd.returns] at h; cases h)
    refine Rch.fin (u := T30.setFrames fs) (retN X30 hx (t := .boolean) Bd.returns (by simp) (hb hby at_276) hr) ⟨_, hrun, hended, _, _, rfl, ?_, hREW.1, hREW.2.1, hREW.2.2.1, hREW.2.2.2.mono (by decide) (by decide)⟩
    show Q_claw Z p0 p1 p2 p3 p4 p5 wz de kde zz wy h0 n0 _ T30.heap _
    rw [e30]
    exact ⟨rfl, N30, K29, Op28⟩
  · rw [hn]
    show Rch p.tables e below _ (s₁.setTop (mkF m 5 #[.val (.int p0), .val (.int p1), .val (.int p2), .val (.int p3), .val (.int p4), .val (.int p5), .val (.int (1 : Int32)), .unset, .unset, .unset, .unset, .unset, .unset, .unset, .unset, .unset, .unset] []))
    refine Rch.st (fun _ hr => XS.iloadN X0.here hx rfl (hb hby at_5) rfl hr) ?_
    refine Rch.st (fun _ hr => XS.iconst X0.here hx rfl (hb hby at_6) hr) ?_
    refine Rch.st (fun _ hr => XS.iushr X0.here hx rfl (hb hby at_7) rfl hr) ?_
    refine Rch.st (fun _ hr => XS.iconst X0.here hx rfl (hb hby at_8) hr) ?_
    refine Rch.st (fun _ hr => XS.iand X0.here hx rfl (hb hby at_9) rfl hr) ?_
    refine Rch.st (fun _ hr => XS.istore X0.here hx rfl (hb hby at_10) rfl (l' := #[.val (.int p0), .val (.int p1), .val (.int p2), .val (.int p3), .val (.int p4), .val (.int p5), .val (.int (1 : Int32)), .val (.int (((p0.toUInt32 >>> ((2 : Int32) &&& 31).toUInt32).toInt32) &&& (3 : Int32))), .unset, .unset, .unset, .unset, .unset, .unset, .unset, .unset, .unset]) rfl hr) ?_
    show Rch p.tables e below _ (s₁.setTop (mkF m 12 #[.val (.int p0), .val (.int p1), .val (.int p2), .val (.int p3), .val (.int p4), .val (.int p5), .val (.int (1 : Int32)), .val (.int (((p0.toUInt32 >>> ((2 : Int32) &&& 31).toUInt32).toInt32) &&& (3 : Int32))), .unset, .unset, .unset, .unset, .unset, .unset, .unset, .unset, .unset] []))
    obtain ⟨sc, hsc⟩ : ∃ z, z = (((p0.toUInt32 >>> ((2 : Int32) &&& 31).toUInt32).toInt32) &&& (3 : Int32)) ∧ (own_S z) := ⟨_, rfl, own_and3S _⟩
    rw [← hsc.1]
    show Rch p.tables e below _ (s₁.setTop (mkF m 12 #[.val (.int p0), .val (.int p1), .val (.int p2), .val (.int p3), .val (.int p4), .val (.int p5), .val (.int (1 : Int32)), .val (.int sc), .unset, .unset, .unset, .unset, .unset, .unset, .unset, .unset, .unset] []))
    refine Rch.st (fun _ hr => XS.iloadN X0.here hx rfl (hb hby at_12) rfl hr) ?_
    refine Rch.st (fun _ hr => XS.bipush X0.here hx rfl (hb hby at_13) hr) ?_
    refine Rch.st (fun _ hr => XS.iushr X0.here hx rfl (hb hby at_15) rfl hr) ?_
    refine Rch.st (fun _ hr => XS.iconst X0.here hx rfl (hb hby at_16) hr) ?_
    refine Rch.st (fun _ hr => XS.iand X0.here hx rfl (hb hby at_17) rfl hr) ?_
    refine Rch.st (fun _ hr => XS.istore X0.here hx rfl (hb hby at_18) rfl (l' := #[.val (.int p0), .val (.int p1), .val (.int p2), .val (.int p3), .val (.int p4), .val (.int p5), .val (.int (1 : Int32)), .val (.int sc), .val (.int (((p0.toUInt32 >>> ((10 : Int32) &&& 31).toUInt32).toInt32) &&& (3 : Int32))), .unset, .unset, .unset, .unset, .unset, .unset, .unset, .unset]) rfl hr) ?_
    show Rch p.tables e below _ (s₁.setTop (mkF m 20 #[.val (.int p0), .val (.int p1), .val (.int p2), .val (.int p3), .val (.int p4), .val (.int p5), .val (.int (1 : Int32)), .val (.int sc), .val (.int (((p0.toUInt32 >>> ((10 : Int32) &&& 31).toUInt32).toInt32) &&& (3 : Int32))), .unset, .unset, .unset, .unset, .unset, .unset, .unset, .unset] []))
    obtain ⟨cnt, hcnt⟩ : ∃ z, z = (((p0.toUInt32 >>> ((10 : Int32) &&& 31).toUInt32).toInt32) &&& (3 : Int32)) ∧ (own_S z) := ⟨_, rfl, own_and3S _⟩
    rw [← hcnt.1]
    show Rch p.tables e below _ (s₁.setTop (mkF m 20 #[.val (.int p0), .val (.int p1), .val (.int p2), .val (.int p3), .val (.int p4), .val (.int p5), .val (.int (1 : Int32)), .val (.int sc), .val (.int cnt), .unset, .unset, .unset, .unset, .unset, .unset, .unset, .unset] []))
    obtain ⟨T32, h32, X32, e32, E32, A32, D32, -, st32⟩ := newO X0 hx hZ hown (own_w hw 0 rfl) (own_w hw 1 rfl) (own_w hw 2 rfl) e0 (g := (mkF m 20 #[.val (.int p0), .val (.int p1), .val (.int p2), .val (.int p3), .val (.int p4), .val (.int p5), .val (.int (1 : Int32)), .val (.int sc), .val (.int cnt), .unset, .unset, .unset, .unset, .unset, .unset, .unset, .unset] [])) rfl (hb hby at_20) (by decide) (by decide)
    obtain ⟨b32, g32⟩ : ∃ z, z = h0.size := ⟨_, rfl⟩
    rw [← g32] at A32 D32 st32
    refine Rch.st st32 ?_
    have q32 : h0.size ≤ b32 := Nat.le_of_eq g32.symm
    have g_b32 : n0 ≤ b32 := Nat.le_trans (Nat.le_trans (Nat.le_of_eq zP0.1.symm) zP0.2.1) q32
    have sz_b32 : h0.size ≤ b32 := Nat.le_trans (Keep.refl h0 []).1 q32
    have K33 := (Keep.refl h0 []).ext E32
    have F32_modCount : Fld Z h32 b32 "java/util/AbstractList" "modCount" "I" (.int (0 : Int32)) := D32 (Or.inl (own_w hw 22 rfl)) (ty := .int) (by decide)
    have F32_elementData : Fld Z h32 b32 "java/util/ArrayList" "elementData" "[Ljava/lang/Object;" .null := D32 (Or.inl (own_w hw 25 rfl)) (ty := (.array (.object "java/lang/Object"))) (by decide)
    have F32_size : Fld Z h32 b32 "java/util/ArrayList" "size" "I" (.int (0 : Int32)) := D32 (Or.inl (own_w hw 53 rfl)) (ty := .int) (by decide)
    refine Rch.st (fun _ hr => XS.dup X32.here hx rfl (hb hby at_23) rfl rfl hr) ?_
    have f35 := (zP0.ext E32)
    show Rch p.tables e below _ (T32.setTop (mkF m 24 #[.val (.int p0), .val (.int p1), .val (.int p2), .val (.int p3), .val (.int p4), .val (.int p5), .val (.int (1 : Int32)), .val (.int sc), .val (.int cnt), .unset, .unset, .unset, .unset, .unset, .unset, .unset, .unset] [(.ref b32), (.ref b32)]))
    refine own_kI X32 hx hZ (y := Y_30) rfl hown (own_w hw 3 rfl) (own_w hw 4 rfl) (own_w hw 2 rfl) (own_w hw 5 rfl) (by decide) (W := 1) (calinit l Z a0 hw [] b32 de h32 n0 zD2 f35 A32 F32_elementData F32_size F32_modCount g_b32) (by decide) (by decide) e32 (by decide) (by decide)  (by rw [hml]; rfl) (a := b32) (argsL := []) (rest := [(.ref b32)]) (lenOf pd_0 rfl) rfl rfl (hb hby at_24) rfl (fun _ T34 Lc34 X34 hQ34 => ?_)
    obtain ⟨rfl, N34q, Kp34, Op34, R34_0, R34_1, R34_2, R34_3⟩ := hQ34
    have N34 := Fr.app N0 N34q
    have K36 := K33.trans Kp34 (allS (Or.inr sz_b32) all0)
    refine Rch.st (fun _ hr => XS.astore X34.here hx rfl (hb hby at_27) rfl rfl (l' := #[.val (.int p0), .val (.int p1), .val (.int p2), .val (.int p3), .val (.int p4), .val (.int p5), .val (.int (1 : Int32)), .val (.int sc), .val (.int cnt), .val (.ref b32), .unset, .unset, .unset, .unset, .unset, .unset, .unset]) rfl hr) ?_
    refine Rch.st (fun _ hr => XS.iloadN X34.here hx rfl (hb hby at_29) rfl hr) ?_
    refine Rch.st (fun _ hr => XS.i2l X34.here hx rfl (hb hby at_30) rfl hr) ?_
    refine Rch.st (fun _ hr => XS.iload X34.here hx rfl (hb hby at_31) rfl hr) ?_
    show Rch p.tables e below _ (T34.setTop (mkF m 33 #[.val (.int p0), .val (.int p1), .val (.int p2), .val (.int p3), .val (.int p4), .val (.int p5), .val (.int (1 : Int32)), .val (.int sc), .val (.int cnt), .val (.ref b32), .unset, .unset, .unset, .unset, .unset, .unset, .unset] [(.int sc), (.long (p1.toInt64))]))
    refine own_kS X34 hx hZ (y := Y_5) hown (own_w hw 26 rfl) (own_w hw 27 rfl) (own_w hw 28 rfl) (own_w hw 29 rfl) (by decide) (W := 0) (cvalueOfS l Z a0 hw [] (p1.toInt64) sc wz wy T34.heap n0 zD0 zD1 zD6 zD7 Op34 (Bk.ne (Bk.i2l p1) (by decide)) hsc.2.nn hsc.2.lt) (by decide) (by decide) rfl (by decide) (by decide)  (by rw [hml]; rfl) (argsL := [(.long (p1.toInt64)), (.int sc)]) (rest := []) (lenOf pd_5 rfl) rfl rfl (hb hby at_33) rfl (fun _ T37 Lc37 X37 hQ37 => ?_)
    obtain ⟨r_37, rfl, N37q, Kp37, Op37, R37_0⟩ := hQ37
    have N37 := Fr.app N34 N37q
    have K38 := K36.trans Kp37 all0
    have BE37 : BE Z T37.heap r_37 (p1.toInt64) sc (1 : Int) := ⟨R37_0.1, sc, R37_0, Or.inl rfl, ((Bk.i2l p1)).mono (by decide)⟩
    refine Rch.st (fun _ hr => XS.astore X37.here hx rfl (hb hby at_36) rfl rfl (l' := #[.val (.int p0), .val (.int p1), .val (.int p2), .val (.int p3), .val (.int p4), .val (.int p5), .val (.int (1 : Int32)), .val (.int sc), .val (.int cnt), .val (.ref b32), .val (.ref r_37), .unset, .unset, .unset, .unset, .unset, .unset]) rfl hr) ?_
    refine Rch.st (fun _ hr => XS.iload X37.here hx rfl (hb hby at_38) rfl hr) ?_
    refine Rch.st (fun _ hr => XS.iconst X37.here hx rfl (hb hby at_40) hr) ?_
    refine Rch.st (fun _ hr => XS.icmpNo X37.here hx rfl (hb hby at_41) rfl (flt (by decide : ¬ ((1 : Int32) < (1 : Int32)))).1 hr) ?_
    refine Rch.st (fun _ hr => XS.aload X37.here hx rfl (hb hby at_44) rfl rfl hr) ?_
    obtain ⟨T39, h39, X39, e39, E39, A39, D39, -, st39⟩ := newO X37 hx hZ hown (own_w hw 110 rfl) (own_w hw 111 rfl) (own_w hw 112 rfl) rfl (g := (mkF m 46 #[.val (.int p0), .val (.int p1), .val (.int p2), .val (.int p3), .val (.int p4), .val (.int p5), .val (.int (1 : Int32)), .val (.int sc), .val (.int cnt), .val (.ref b32), .val (.ref r_37), .unset, .unset, .unset, .unset, .unset, .unset] [(.ref b32)])) rfl (hb hby at_46) (by decide) (by decide)
    obtain ⟨b39, g39⟩ : ∃ z, z = T37.heap.size := ⟨_, rfl⟩
    rw [← g39] at A39 D39 st39
    refine Rch.st st39 ?_
    have q39 : T37.heap.size ≤ b39 := Nat.le_of_eq g39.symm
    have f40 := (R34_3.keep Kp37 nin0)
    have ne41 := Nat.ne_of_lt (Nat.lt_of_lt_of_le f40.lt q39)
    have ne42 := Nat.ne_of_lt (Nat.lt_of_lt_of_le BE37.lt q39)
    have g_b39 : n0 ≤ b39 := Nat.le_trans (Nat.le_trans (Nat.le_of_eq Op37.1.symm) Op37.2.1) q39
    have sz_b39 : h0.size ≤ b39 := Nat.le_trans K38.1 q39
    have K43 := K38.ext E39
    have F39_id : Fld Z h39 b39 "com/example/slotwright/slotwright/Market$Advertiser" "id" "Ljava/lang/String;" .null := D39 (Or.inr (own_w hw 131 rfl)) (ty := (.object "java/lang/String")) (by decide)
    have F39_budget : Fld Z h39 b39 "com/example/slotwright/slotwright/Market$Advertiser" "budget" "Ljava/math/BigDecimal;" .null := D39 (Or.inr (own_w hw 133 rfl)) (ty := (.object "java/math/BigDecimal")) (by decide)
    refine Rch.st (fun _ hr => XS.dup X39.here hx rfl (hb hby at_49) rfl rfl hr) ?_
    have hS0 : s.Since s.vm h39.size := (State.WarmedH.refl s).since _
    obtain ⟨b44, T44, h44, kk44, X44, e44, E44, hS44, hk44, hZ44, hown44, st44⟩ := ldcS (s := s) (vm0 := s.vm) X39 hx hZ hown (own_w hw 113 rfl) hwS e39 hS0 (Nat.le_refl _) (g := (mkF m 50 #[.val (.int p0), .val (.int p1), .val (.int p2), .val (.int p3), .val (.int p4), .val (.int p5), .val (.int (1 : Int32)), .val (.int sc), .val (.int cnt), .val (.ref b32), .val (.ref r_37), .unset, .unset, .unset, .unset, .unset, .unset] [(.ref b39), (.ref b39), (.ref b32)])) rfl (hb hby at_50) (n := 4) (by decide) (by decide) (by decide) (by decide)
    refine Rch.st st44 ?_
    have f45 := (Op37.ext E39)
    have K46 := K43.ext E44
    show Rch p.tables e below _ (T44.setTop (mkF m 52 #[.val (.int p0), .val (.int p1), .val (.int p2), .val (.int p3), .val (.int p4), .val (.int p5), .val (.int (1 : Int32)), .val (.int sc), .val (.int cnt), .val (.ref b32), .val (.ref r_37), .unset, .unset, .unset, .unset, .unset, .unset] [(.ref b44), (.ref b39), (.ref b39), (.ref b32)]))
    refine Rch.st (fun _ hr => XS.aload X44.here hx rfl (hb hby at_52) rfl rfl hr) ?_
    have f48 := (f45.ext E44)
    have f49 := (A39.ext E44)
    have f50 := (F39_id.ext E44)
    have f51 := (F39_budget.ext E44)
    show Rch p.tables e below _ (T44.setTop (mkF m 54 #[.val (.int p0), .val (.int p1), .val (.int p2), .val (.int p3), .val (.int p4), .val (.int p5), .val (.int (1 : Int32)), .val (.int sc), .val (.int cnt), .val (.ref b32), .val (.ref r_37), .unset, .unset, .unset, .unset, .unset, .unset] [(.ref r_37), (.ref b44), (.ref b39), (.ref b39), (.ref b32)]))
    refine own_kI X44 hx hZ44 (y := Y_34) rfl hown44 (own_w hw 121 rfl) (own_w hw 122 rfl) (own_w hw 112 rfl) (own_w hw 123 rfl) (by decide) (W := 2) (cadv l Z a0 hw [] b39 b44 r_37 h44 n0 f48 f49 f50 f51 g_b39) (by decide) (by decide) e44 (by decide) (by decide)  (by rw [hml]; rfl) (a := b39) (argsL := [(.ref b44), (.ref r_37)]) (rest := [(.ref b39), (.ref b32)]) (lenOf pd_23 rfl) rfl rfl (hb hby at_54) rfl (fun _ T47 Lc47 X47 hQ47 => ?_)
    obtain ⟨rfl, N47q, Kp47, Op47, R47_0, R47_1⟩ := hQ47
    have N47 := Fr.app N37 N47q
    have K52 := K46.trans Kp47 (allS (Or.inr sz_b39) all0)
    have f54 := ((((R34_0.keep Kp37).ext E39).ext E44).keep Kp47)
    have f55 := ((((R34_1.keep Kp37 nin0).ext E39).ext E44).keep Kp47 (ninS ne41 nin0))
    have f56 := ((((R34_2.keep Kp37 nin0).ext E39).ext E44).keep Kp47 (ninS ne41 nin0))
    have f57 := (((f40.ext E39).ext E44).keep Kp47 (ninS ne41 nin0))
    show Rch p.tables e below _ (T47.setTop (mkF m 57 #[.val (.int p0), .val (.int p1), .val (.int p2), .val (.int p3), .val (.int p4), .val (.int p5), .val (.int (1 : Int32)), .val (.int sc), .val (.int cnt), .val (.ref b32), .val (.ref r_37), .unset, .unset, .unset, .unset, .unset, .unset] [(.ref b39), (.ref b32)]))
    refine own_kF X47 hx hZ44 (xi := Y_35) (y := Y_36) hown44 (own_w hw 134 rfl) (own_w hw 135 rfl) (mvT hZ44 (own_w hw 136 rfl)) (own_w hw 137 rfl) (own_w hw 138 rfl) (own_w hw 139 rfl) (own_w hw 140 rfl) (own_w hw 50 rfl) (own_w hw 2 rfl) (own_w hw 141 rfl) (by decide) (W := 0) (cadd0 l Z a0 hw [] b32 de kde (0 : Int32) b39 T47.heap n0 zD2 zD3 Op47 f54 f55 f56 f57 R47_0 g_b32 ne41) (by decide) (by decide) rfl f54 (by decide) (by decide)  (by rw [hml]; rfl) (argsL := [(.ref b39)]) (rest := []) (lenOf pd_24 rfl) rfl rfl (hb hby at_57) rfl (fun _ T53 Lc53 X53 hQ53 => ?_)
    obtain ⟨d_53, kd_53, rfl, N53q, Kp53, Op53, R53_0, R53_1, R53_2, R53_3, R53_4, R53_5, R53_6⟩ := hQ53
    have N53 := Fr.app N47 N53q
    have ne58 := Nat.ne_of_lt (Nat.lt_of_lt_of_le f57.lt R53_4)
    have f59 := (((BE37.ext E39).ext E44).keep Kp47 (ninS ne42 nin0))
    have ne60 := Nat.ne_of_lt (Nat.lt_of_lt_of_le f59.lt R53_4)
    have ne61 := Nat.ne_of_lt (Nat.lt_of_lt_of_le R47_1.lt R53_4)
    have g_d_53 : n0 ≤ d_53 := Nat.le_trans (Nat.le_trans (Nat.le_of_eq Op47.1.symm) Op47.2.1) R53_4
    have sz_d_53 : h0.size ≤ d_53 := Nat.le_trans K52.1 R53_4
    have ne62 := (Exa.ne f59.1 f54 (by decide))
    have K63 := K52.trans Kp53 (allS (Or.inr sz_b32) all0)
    refine Rch.st (fun _ hr => XS.pop X53.here hx rfl (hb hby at_62) rfl rfl hr) ?_
    refine Rch.st (fun _ hr => XS.iload X53.here hx rfl (hb hby at_63) rfl hr) ?_
    refine Rch.st (fun _ hr => XS.iconst X53.here hx rfl (hb hby at_65) hr) ?_
    refine Rch.st (fun _ hr => XS.icmpYes X53.here hx rfl (pc0 := 66) (pc' := 94) rfl (hb hby at_66) rfl (tlt (by decide : (1 : Int32) < (2 : Int32))).1 (by decide) (by decide) hr) ?_
    refine Rch.st (fun _ hr => XS.iload X53.here hx rfl (hb hby at_94) rfl hr) ?_
    refine Rch.st (fun _ hr => XS.iconst X53.here hx rfl (hb hby at_96) hr) ?_
    refine Rch.st (fun _ hr => XS.icmpYes X53.here hx rfl (pc0 := 97) (pc' := 119) rfl (hb hby at_97) rfl (tlt (by decide : (1 : Int32) < (3 : Int32))).1 (by decide) (by decide) hr) ?_
    obtain ⟨T64, h64, X64, e64, E64, A64, D64, -, st64⟩ := newO X53 hx hZ44 hown44 (own_w hw 34 rfl) (own_w hw 35 rfl) (own_w hw 36 rfl) rfl (g := (mkF m 119 #[.val (.int p0), .val (.int p1), .val (.int p2), .val (.int p3), .val (.int p4), .val (.int p5), .val (.int (1 : Int32)), .val (.int sc), .val (.int cnt), .val (.ref b32), .val (.ref r_37), .unset, .unset, .unset, .unset, .unset, .unset] [])) rfl (hb hby at_119) (by decide) (by decide)
    obtain ⟨b64, g64⟩ : ∃ z, z = T53.heap.size := ⟨_, rfl⟩
    rw [← g64] at A64 D64 st64
    refine Rch.st st64 ?_
    have q64 : T53.heap.size ≤ b64 := Nat.le_of_eq g64.symm
    have ne65 := Nat.ne_of_lt (Nat.lt_of_lt_of_le R53_3.lt q64)
    have f66 := (f59.1.keep Kp53)
    have ne67 := Nat.ne_of_lt (Nat.lt_of_lt_of_le f66.lt q64)
    have f68 := (R47_1.keep Kp53 (ninS (Ne.symm ne41) nin0))
    have ne69 := Nat.ne_of_lt (Nat.lt_of_lt_of_le f68.lt q64)
    have ne70 := Nat.ne_of_lt (Nat.lt_of_lt_of_le R53_5.lt q64)
    have g_b64 : n0 ≤ b64 := Nat.le_trans (Nat.le_trans (Nat.le_of_eq Op53.1.symm) Op53.2.1) q64
    have sz_b64 : h0.size ≤ b64 := Nat.le_trans K63.1 q64
    have K71 := K63.ext E64
    have F64_advertisers : Fld Z h64 b64 "com/example/slotwright/slotwright/Ledger" "advertisers" "Ljava/util/List;" .null := D64 (Or.inr (own_w hw 42 rfl)) (ty := (.object "java/util/List")) (by decide)
    have F64_spent : Fld Z h64 b64 "com/example/slotwright/slotwright/Ledger" "spent" "[Ljava/math/BigDecimal;" .null := D64 (Or.inr (own_w hw 57 rfl)) (ty := (.array (.object "java/math/BigDecimal"))) (by decide)
    have F64_remaining : Fld Z h64 b64 "com/example/slotwright/slotwright/Ledger" "remaining" "[Ljava/math/BigDecimal;" .null := D64 (Or.inr (own_w hw 59 rfl)) (ty := (.array (.object "java/math/BigDecimal"))) (by decide)
    refine Rch.st (fun _ hr => XS.dup X64.here hx rfl (hb hby at_122) rfl rfl hr) ?_
    refine Rch.st (fun _ hr => XS.aload X64.here hx rfl (hb hby at_123) rfl rfl hr) ?_
    have f73 := (Op53.ext E64)
    have f74 := (R53_0.ext E64)
    have f75 := (R53_2.ext E64)
    have f76 := (R53_1.ext E64)
    have f77 := (R53_5.ext E64)
    have f78 := ((R47_0.keep Kp53).ext E64)
    have f79 := (f68.ext E64)
    have f80 := (f66.ext E64)
    show Rch p.tables e below _ (T64.setTop (mkF m 125 #[.val (.int p0), .val (.int p1), .val (.int p2), .val (.int p3), .val (.int p4), .val (.int p5), .val (.int (1 : Int32)), .val (.int sc), .val (.int cnt), .val (.ref b32), .val (.ref r_37), .unset, .unset, .unset, .unset, .unset, .unset] [(.ref b32), (.ref b64), (.ref b64)]))
    refine own_kI X64 hx hZ44 (y := Y_31) rfl hown44 (own_w hw 37 rfl) (own_w hw 38 rfl) (own_w hw 36 rfl) (own_w hw 39 rfl) (by decide) (W := 1) (cledger1 l Z a0 hw [] b64 b32 d_53 kd_53 b39 r_37 zz h64 n0 zD4 zD5 f73 A64 F64_advertisers F64_spent F64_remaining g_b64 f74 f75 f76 f77 f78 f79 f80) (by decide) (by decide) e64 (by decide) (by decide)  (by rw [hml]; rfl) (a := b64) (argsL := [(.ref b32)]) (rest := [(.ref b64)]) (lenOf pd_21 rfl) rfl rfl (hb hby at_125) rfl (fun _ T72 Lc72 X72 hQ72 => ?_)
    obtain ⟨sp_72, ks_72, rm_72, kr_72, rfl, N72q, Kp72, Op72, R72_0, R72_1, R72_2, R72_3, R72_4, R72_5, R72_6, R72_7, R72_8, R72_9⟩ := hQ72
    have N72 := Fr.app N53 N72q
    have f81 := (R53_3.ext E64)
    have ne82 := Nat.ne_of_lt (Nat.lt_of_lt_of_le f81.lt R72_3)
    have ne83 := Nat.ne_of_lt (Nat.lt_of_lt_of_le f80.lt R72_3)
    have ne84 := Nat.ne_of_lt (Nat.lt_of_lt_of_le f79.lt R72_3)
    have ne85 := Nat.ne_of_lt (Nat.lt_of_lt_of_le f77.lt R72_3)
    have ne86 := Nat.ne_of_lt (Nat.lt_of_lt_of_le F64_remaining.lt R72_3)
    have g_sp_72 : n0 ≤ sp_72 := Nat.le_trans (Nat.le_trans (Nat.le_of_eq f73.1.symm) f73.2.1) R72_3
    have sz_sp_72 : h0.size ≤ sp_72 := Nat.le_trans K71.1 R72_3
    have ne87 := Nat.ne_of_lt (Nat.lt_of_lt_of_le f81.lt R72_4)
    have ne88 := Nat.ne_of_lt (Nat.lt_of_lt_of_le f80.lt R72_4)
    have ne89 := Nat.ne_of_lt (Nat.lt_of_lt_of_le f79.lt R72_4)
    have ne90 := Nat.ne_of_lt (Nat.lt_of_lt_of_le f77.lt R72_4)
    have ne91 := Nat.ne_of_lt (Nat.lt_of_lt_of_le F64_remaining.lt R72_4)
    have g_rm_72 : n0 ≤ rm_72 := Nat.le_trans (Nat.le_trans (Nat.le_of_eq f73.1.symm) f73.2.1) R72_4
    have sz_rm_72 : h0.size ≤ rm_72 := Nat.le_trans K71.1 R72_4
    have K92 := K71.trans Kp72 (allS (Or.inr sz_b64) all0)
    have BEz72 : BE Z T72.heap zz (0 : Int64) sc (1 : Int) := BE.zero (zD5.ext Op72.2) (by decide)
    refine Rch.st (fun _ hr => XS.astore X72.here hx rfl (hb hby at_128) rfl rfl (l' := #[.val (.int p0), .val (.int p1), .val (.int p2), .val (.int p3), .val (.int p4), .val (.int p5), .val (.int (1 : Int32)), .val (.int sc), .val (.int cnt), .val (.ref b32), .val (.ref r_37), .val (.ref b64), .unset, .unset, .unset, .unset, .unset]) rfl hr) ?_
    refine Rch.st (fun _ hr => XS.lconst X72.here hx rfl (hb hby at_130) hr) ?_
    show Rch p.tables e below _ (T72.setTop (mkF m 131 #[.val (.int p0), .val (.int p1), .val (.int p2), .val (.int p3), .val (.int p4), .val (.int p5), .val (.int (1 : Int32)), .val (.int sc), .val (.int cnt), .val (.ref b32), .val (.ref r_37), .val (.ref b64), .unset, .unset, .unset, .unset, .unset] [(.long (0 : Int64))]))
    refine Rch.st (fun _ hr => XS.lstore X72.here hx rfl (hb hby at_131) rfl (l' := #[.val (.int p0), .val (.int p1), .val (.int p2), .val (.int p3), .val (.int p4), .val (.int p5), .val (.int (1 : Int32)), .val (.int sc), .val (.int cnt), .val (.ref b32), .val (.ref r_37), .val (.ref b64), .val (.long (0 : Int64)), .second, .unset, .unset, .unset]) rfl hr) ?_
    refine Rch.st (fun _ hr => XS.iload X72.here hx rfl (hb hby at_133) rfl hr) ?_
    refine Rch.st (fun _ hr => XS.ifNo X72.here hx rfl (hb hby at_135) rfl ((if0 _ _).trans (tlt (by decide : (0 : Int32) < (1 : Int32))).2.2.2) hr) ?_
    refine Rch.st (fun _ hr => XS.iloadN X72.here hx rfl (hb hby at_138) rfl hr) ?_
    refine Rch.st (fun _ hr => XS.iconst X72.here hx rfl (hb hby at_139) hr) ?_
    refine Rch.st (fun _ hr => XS.iushr X72.here hx rfl (hb hby at_140) rfl hr) ?_
    refine Rch.st (fun _ hr => XS.iconst X72.here hx rfl (hb hby at_141) hr) ?_
    refine Rch.st (fun _ hr => XS.iand X72.here hx rfl (hb hby at_142) rfl hr) ?_
    refine Rch.st (fun _ hr => XS.iload X72.here hx rfl (hb hby at_143) rfl hr) ?_
    refine Rch.st (fun _ hr => Jvm.RoadKit.iremM (g := (mkF m 145 #[.val (.int p0), .val (.int p1), .val (.int p2), .val (.int p3), .val (.int p4), .val (.int p5), .val (.int (1 : Int32)), .val (.int sc), .val (.int cnt), .val (.ref b32), .val (.ref r_37), .val (.ref b64), .val (.long (0 : Int64)), .second, .unset, .unset, .unset] [(.int (1 : Int32)), (.int (((p0.toUInt32 >>> ((4 : Int32) &&& 31).toUInt32).toInt32) &&& (3 : Int32)))])) X72 hx rfl (hb hby at_145) rfl (by decide) hr) ?_
    refine Rch.st (fun _ hr => XS.istore X72.here hx rfl (hb hby at_146) rfl (l' := #[.val (.int p0), .val (.int p1), .val (.int p2), .val (.int p3), .val (.int p4), .val (.int p5), .val (.int (1 : Int32)), .val (.int sc), .val (.int cnt), .val (.ref b32), .val (.ref r_37), .val (.ref b64), .val (.long (0 : Int64)), .second, .val (.int ((((p0.toUInt32 >>> ((4 : Int32) &&& 31).toUInt32).toInt32) &&& (3 : Int32)) % (1 : Int32))), .unset, .unset]) rfl hr) ?_
    show Rch p.tables e below _ (T72.setTop (mkF m 148 #[.val (.int p0), .val (.int p1), .val (.int p2), .val (.int p3), .val (.int p4), .val (.int p5), .val (.int (1 : Int32)), .val (.int sc), .val (.int cnt), .val (.ref b32), .val (.ref r_37), .val (.ref b64), .val (.long (0 : Int64)), .second, .val (.int ((((p0.toUInt32 >>> ((4 : Int32) &&& 31).toUInt32).toInt32) &&& (3 : Int32)) % (1 : Int32))), .unset, .unset] []))
    obtain ⟨ia, hia⟩ : ∃ z, z = ((((p0.toUInt32 >>> ((4 : Int32) &&& 31).toUInt32).toInt32) &&& (3 : Int32)) % (1 : Int32)) ∧ (z = (0 : Int32)) := ⟨_, rfl, own_rem1 _⟩
    rw [← hia.1]
    show Rch p.tables e below _ (T72.setTop (mkF m 148 #[.val (.int p0), .val (.int p1), .val (.int p2), .val (.int p3), .val (.int p4), .val (.int p5), .val (.int (1 : Int32)), .val (.int sc), .val (.int cnt), .val (.ref b32), .val (.ref r_37), .val (.ref b64), .val (.long (0 : Int64)), .second, .val (.int ia), .unset, .unset] []))
    refine Rch.st (fun _ hr => XS.iloadN X72.here hx rfl (hb hby at_148) rfl hr) ?_
    refine Rch.st (fun _ hr => XS.bipush X72.here hx rfl (hb hby at_149) hr) ?_
    refine Rch.st (fun _ hr => XS.iushr X72.here hx rfl (hb hby at_151) rfl hr) ?_
    refine Rch.st (fun _ hr => XS.iconst X72.here hx rfl (hb hby at_152) hr) ?_
    refine Rch.st (fun _ hr => XS.iand X72.here hx rfl (hb hby at_153) rfl hr) ?_
    refine Rch.st (fun _ hr => XS.iload X72.here hx rfl (hb hby at_154) rfl hr) ?_
    refine Rch.st (fun _ hr => Jvm.RoadKit.iremM (g := (mkF m 156 #[.val (.int p0), .val (.int p1), .val (.int p2), .val (.int p3), .val (.int p4), .val (.int p5), .val (.int (1 : Int32)), .val (.int sc), .val (.int cnt), .val (.ref b32), .val (.ref r_37), .val (.ref b64), .val (.long (0 : Int64)), .second, .val (.int ia), .unset, .unset] [(.int (1 : Int32)), (.int (((p0.toUInt32 >>> ((6 : Int32) &&& 31).toUInt32).toInt32) &&& (3 : Int32)))])) X72 hx rfl (hb hby at_156) rfl (by decide) hr) ?_
    refine Rch.st (fun _ hr => XS.istore X72.here hx rfl (hb hby at_157) rfl (l' := #[.val (.int p0), .val (.int p1), .val (.int p2), .val (.int p3), .val (.int p4), .val (.int p5), .val (.int (1 : Int32)), .val (.int sc), .val (.int cnt), .val (.ref b32), .val (.ref r_37), .val (.ref b64), .val (.long (0 : Int64)), .second, .val (.int ia), .val (.int ((((p0.toUInt32 >>> ((6 : Int32) &&& 31).toUInt32).toInt32) &&& (3 : Int32)) % (1 : Int32))), .unset]) rfl hr) ?_
    show Rch p.tables e below _ (T72.setTop (mkF m 159 #[.val (.int p0), .val (.int p1), .val (.int p2), .val (.int p3), .val (.int p4), .val (.int p5), .val (.int (1 : Int32)), .val (.int sc), .val (.int cnt), .val (.ref b32), .val (.ref r_37), .val (.ref b64), .val (.long (0 : Int64)), .second, .val (.int ia), .val (.int ((((p0.toUInt32 >>> ((6 : Int32) &&& 31).toUInt32).toInt32) &&& (3 : Int32)) % (1 : Int32))), .unset] []))
    obtain ⟨ib, hib⟩ : ∃ z, z = ((((p0.toUInt32 >>> ((6 : Int32) &&& 31).toUInt32).toInt32) &&& (3 : Int32)) % (1 : Int32)) ∧ (z = (0 : Int32)) := ⟨_, rfl, own_rem1 _⟩
    rw [← hib.1]
    show Rch p.tables e below _ (T72.setTop (mkF m 159 #[.val (.int p0), .val (.int p1), .val (.int p2), .val (.int p3), .val (.int p4), .val (.int p5), .val (.int (1 : Int32)), .val (.int sc), .val (.int cnt), .val (.ref b32), .val (.ref r_37), .val (.ref b64), .val (.long (0 : Int64)), .second, .val (.int ia), .val (.int ib), .unset] []))
    refine Rch.st (fun _ hr => XS.iloadN X72.here hx rfl (hb hby at_159) rfl hr) ?_
    refine Rch.st (fun _ hr => XS.bipush X72.here hx rfl (hb hby at_160) hr) ?_
    refine Rch.st (fun _ hr => XS.iushr X72.here hx rfl (hb hby at_162) rfl hr) ?_
    refine Rch.st (fun _ hr => XS.iconst X72.here hx rfl (hb hby at_163) hr) ?_
    refine Rch.st (fun _ hr => XS.iand X72.here hx rfl (hb hby at_164) rfl hr) ?_
    refine Rch.st (fun _ hr => XS.iload X72.here hx rfl (hb hby at_165) rfl hr) ?_
    refine Rch.st (fun _ hr => Jvm.RoadKit.iremM (g := (mkF m 167 #[.val (.int p0), .val (.int p1), .val (.int p2), .val (.int p3), .val (.int p4), .val (.int p5), .val (.int (1 : Int32)), .val (.int sc), .val (.int cnt), .val (.ref b32), .val (.ref r_37), .val (.ref b64), .val (.long (0 : Int64)), .second, .val (.int ia), .val (.int ib), .unset] [(.int (1 : Int32)), (.int (((p0.toUInt32 >>> ((8 : Int32) &&& 31).toUInt32).toInt32) &&& (3 : Int32)))])) X72 hx rfl (hb hby at_167) rfl (by decide) hr) ?_
    refine Rch.st (fun _ hr => XS.istore X72.here hx rfl (hb hby at_168) rfl (l' := #[.val (.int p0), .val (.int p1), .val (.int p2), .val (.int p3), .val (.int p4), .val (.int p5), .val (.int (1 : Int32)), .val (.int sc), .val (.int cnt), .val (.ref b32), .val (.ref r_37), .val (.ref b64), .val (.long (0 : Int64)), .second, .val (.int ia), .val (.int ib), .val (.int ((((p0.toUInt32 >>> ((8 : Int32) &&& 31).toUInt32).toInt32) &&& (3 : Int32)) % (1 : Int32)))]) rfl hr) ?_
    show Rch p.tables e below _ (T72.setTop (mkF m 170 #[.val (.int p0), .val (.int p1), .val (.int p2), .val (.int p3), .val (.int p4), .val (.int p5), .val (.int (1 : Int32)), .val (.int sc), .val (.int cnt), .val (.ref b32), .val (.ref r_37), .val (.ref b64), .val (.long (0 : Int64)), .second, .val (.int ia), .val (.int ib), .val (.int ((((p0.toUInt32 >>> ((8 : Int32) &&& 31).toUInt32).toInt32) &&& (3 : Int32)) % (1 : Int32)))] []))
    obtain ⟨ic, hic⟩ : ∃ z, z = ((((p0.toUInt32 >>> ((8 : Int32) &&& 31).toUInt32).toInt32) &&& (3 : Int32)) % (1 : Int32)) ∧ (z = (0 : Int32)) := ⟨_, rfl, own_rem1 _⟩
    rw [← hic.1]
    show Rch p.tables e below _ (T72.setTop (mkF m 170 #[.val (.int p0), .val (.int p1), .val (.int p2), .val (.int p3), .val (.int p4), .val (.int p5), .val (.int (1 : Int32)), .val (.int sc), .val (.int cnt), .val (.ref b32), .val (.ref r_37), .val (.ref b64), .val (.long (0 : Int64)), .second, .val (.int ia), .val (.int ib), .val (.int ic)] []))
    refine Rch.st (fun _ hr => XS.iload X72.here hx rfl (hb hby at_170) rfl hr) ?_
    refine Rch.st (fun _ hr => XS.iconst X72.here hx rfl (hb hby at_172) hr) ?_
    by_cases hc93 : cnt < (1 : Int32)
    · refine Rch.st (fun _ hr => XS.icmpYes X72.here hx rfl (pc0 := 173) (pc' := 197) rfl (hb hby at_173) rfl (tlt hc93).1 (by decide) (by decide) hr) ?_
      refine Rch.st (fun _ hr => XS.iload X72.here hx rfl (hb hby at_197) rfl hr) ?_
      refine Rch.st (fun _ hr => XS.iconst X72.here hx rfl (hb hby at_199) hr) ?_
      refine Rch.st (fun _ hr => XS.icmpYes X72.here hx rfl (pc0 := 200) (pc' := 224) rfl (hb hby at_200) rfl (tlt (own_lt12 hc93)).1 (by decide) (by decide) hr) ?_
      refine Rch.st (fun _ hr => XS.iload X72.here hx rfl (hb hby at_224) rfl hr) ?_
      refine Rch.st (fun _ hr => XS.iconst X72.here hx rfl (hb hby at_226) hr) ?_
      refine Rch.st (fun _ hr => XS.icmpYes X72.here hx rfl (pc0 := 227) (pc' := 253) rfl (hb hby at_227) rfl (tlt (own_lt23 (own_lt12 hc93))).1 (by decide) (by decide) hr) ?_
      refine Rch.st (fun _ hr => XS.aload X72.here hx rfl (hb hby at_253) rfl rfl hr) ?_
      show Rch p.tables e below _ (T72.setTop (mkF m 255 #[.val (.int p0), .val (.int p1), .val (.int p2), .val (.int p3), .val (.int p4), .val (.int p5), .val (.int (1 : Int32)), .val (.int sc), .val (.int cnt), .val (.ref b32), .val (.ref r_37), .val (.ref b64), .val (.long (0 : Int64)), .second, .val (.int ia), .val (.int ib), .val (.int ic)] [(.ref b64)]))
      refine own_kV X72 hx hZ44 (y := Y_32) (z := Y_32) hown44 (own_w hw 65 rfl) (own_w hw 66 rfl) (notFace_of_selects (args := #[]) (mvT hZ44 (own_w hw 68 rfl))) (own_w hw 68 rfl) (own_w hw 67 rfl) (own_w hw 36 rfl) (own_w hw 69 rfl) (by decide) (W := 0) (crev1 l Z a0 hw [] b64 sp_72 ks_72 zz (0 : Int64) sc (1 : Int) wz wy zz T72.heap n0 zD0 zD1 zD6 zD7 zD4 zD5 Op72 R72_1 R72_5 BEz72 hsc.2 (by decide) (by decide)) (by decide) (by decide) rfl R72_0 (by decide) (by decide)  (by rw [hml]; rfl) (argsL := []) (rest := []) (lenOf pd_19 rfl) rfl rfl (hb hby at_255) rfl (fun _ T94 Lc94 X94 hQ94 => ?_)
      obtain ⟨r_94, rfl, N94q, Kp94, Op94, R94_0⟩ := hQ94
      have N94 := Fr.app N72 N94q
      have K95 := K92.trans Kp94 all0
      refine Rch.st (fun _ hr => XS.lload X94.here hx rfl (hb hby at_258) rfl hr) ?_
      refine Rch.st (fun _ hr => XS.iload X94.here hx rfl (hb hby at_260) rfl hr) ?_
      show Rch p.tables e below _ (T94.setTop (mkF m 262 #[.val (.int p0), .val (.int p1), .val (.int p2), .val (.int p3), .val (.int p4), .val (.int p5), .val (.int (1 : Int32)), .val (.int sc), .val (.int cnt), .val (.ref b32), .val (.ref r_37), .val (.ref b64), .val (.long (0 : Int64)), .second, .val (.int ia), .val (.int ib), .val (.int ic)] [(.int sc), (.long (0 : Int64)), (.ref r_94)]))
      refine own_kS X94 hx hZ44 (y := Y_5) hown44 (own_w hw 26 rfl) (own_w hw 27 rfl) (own_w hw 28 rfl) (own_w hw 29 rfl) (by decide) (W := 1) (cvalueOfS l Z a0 hw [] (0 : Int64) sc wz wy T94.heap n0 zD0 zD1 zD6 zD7 Op94 (Bk.ne Bk.zero (by decide)) hsc.2.nn hsc.2.lt) (by decide) (by decide) rfl (by decide) (by decide)  (by rw [hml]; rfl) (argsL := [(.long (0 : Int64)), (.int sc)]) (rest := [(.ref r_94)]) (lenOf pd_5 rfl) rfl rfl (hb hby at_262) rfl (fun _ T96 Lc96 X96 hQ96 => ?_)
      obtain ⟨r_96, rfl, N96q, Kp96, Op96, R96_0⟩ := hQ96
      have N96 := Fr.app N94 N96q
      have K97 := K95.trans Kp96 all0
      have BE96 : BE Z T96.heap r_96 (0 : Int64) sc (3 : Int) := ⟨R96_0.1, sc, R96_0, Or.inl rfl, (Bk.zero).mono (by decide)⟩
      have f99 := (R94_0.keep Kp96 nin0)
      show Rch p.tables e below _ (T96.setTop (mkF m 265 #[.val (.int p0), .val (.int p1), .val (.int p2), .val (.int p3), .val (.int p4), .val (.int p5), .val (.int (1 : Int32)), .val (.int sc), .val (.int cnt), .val (.ref b32), .val (.ref r_37), .val (.ref b64), .val (.long (0 : Int64)), .second, .val (.int ia), .val (.int ib), .val (.int ic)] [(.ref r_96), (.ref r_94)]))
      refine own_kV X96 hx hZ44 (y := Y_33) (z := Y_33) hown44 (own_w hw 70 rfl) (own_w hw 71 rfl) (notFace_of_selects (args := #[]) (mvT hZ44 (own_w hw 73 rfl))) (own_w hw 73 rfl) (own_w hw 72 rfl) (own_w hw 28 rfl) (own_w hw 74 rfl) (by decide) (W := 0) (ccompare l Z a0 hw [] r_94 r_96 ((0 : Int64) + (0 : Int64)) (0 : Int64) sc ((1 : Int) + (1 : Int)) (3 : Int) T96.heap n0 f99 BE96 hsc.2 (by decide) (by decide) (by rw [own_z1])) (by decide) (by decide) rfl f99.1 (by decide) (by decide)  (by rw [hml]; rfl) (argsL := [(.ref r_96)]) (rest := []) (lenOf pd_22 rfl) rfl rfl (hb hby at_265) rfl (fun _ T98 Lc98 X98 hQ98 => ?_)
      obtain ⟨rfl, N98q, e98⟩ := hQ98
      have N98 := Fr.app N96 N98q
      refine Rch.st (fun _ hr => XS.ifNo X98.here hx rfl (hb hby at_268) rfl ((if0 _ _).trans (teq (by decide : (0 : Int32) = (0 : Int32))).2) hr) ?_
      show Rch p.tables e below _ (T98.setTop (mkF m 271 #[.val (.int p0), .val (.int p1), .val (.int p2), .val (.int p3), .val (.int p4), .val (.int p5), .val (.int (1 : Int32)), .val (.int sc), .val (.int cnt), .val (.ref b32), .val (.ref r_37), .val (.ref b64), .val (.long (0 : Int64)), .second, .val (.int ia), .val (.int ib), .val (.int ic)] []))
      refine Rch.st (fun _ hr => XS.iconst X98.here hx rfl (hb hby at_271) hr) ?_
      refine Rch.st (fun _ hr => XS.goto X98.here hx rfl (pc0 := 272) (pc' := 276) rfl (hb hby at_272) (by decide) (by decide) hr) ?_
      obtain ⟨fs, hr, hrun, hended, hREW⟩ := Jvm.Stand.leaveW (s := s) (vm₁ := T44.vm) X98 hS44 (by rw [e98]; exact (Nat.le_trans (Nat.le_trans (Nat.le_trans (Nat.le_trans (Nat.le_trans (Nat.le_trans hk44 Kp47.1) Kp53.1) E64.1) Kp72.1) Kp94.1) Kp96.1)) (v := some (.int (1 : Int32))) (fun h => by rw [Bd.returns] at h; cases h)
      refine Rch.fin (u := T98.setFrames fs) (retN X98 hx (t := .boolean) Bd.returns (by simp) (hb hby at_276) hr) ⟨_, hrun, hended, _, _, rfl, ?_, hREW.1, hREW.2.1, hREW.2.2.1, hREW.2.2.2.mono (by decide) (by decide)⟩
      show Q_claw Z p0 p1 p2 p3 p4 p5 wz de kde zz wy h0 n0 _ T98.heap _
      rw [e98]
      exact ⟨rfl, N98, K97, Op96⟩
    · refine Rch.st (fun _ hr => XS.icmpNo X72.here hx rfl (hb hby at_173) rfl (flt hc93).1 hr) ?_
      refine Rch.st (fun _ hr => XS.aload X72.here hx rfl (hb hby at_176) rfl rfl hr) ?_
      refine Rch.st (fun _ hr => XS.iload X72.here hx rfl (hb hby at_178) rfl hr) ?_
      refine Rch.st (fun _ hr => XS.iloadN X72.here hx rfl (hb hby at_180) rfl hr) ?_
      refine Rch.st (fun _ hr => XS.i2l X72.here hx rfl (hb hby at_181) rfl hr) ?_
      refine Rch.st (fun _ hr => XS.iload X72.here hx rfl (hb hby at_182) rfl hr) ?_
      show Rch p.tables e below _ (T72.setTop (mkF m 184 #[.val (.int p0), .val (.int p1), .val (.int p2), .val (.int p3), .val (.int p4), .val (.int p5), .val (.int (1 : Int32)), .val (.int sc), .val (.int cnt), .val (.ref b32), .val (.ref r_37), .val (.ref b64), .val (.long (0 : Int64)), .second, .val (.int ia), .val (.int ib), .val (.int ic)] [(.int sc), (.long (p2.toInt64)), (.int ia), (.ref b64)]))
      refine own_kS X72 hx hZ44 (y := Y_5) hown44 (own_w hw 26 rfl) (own_w hw 27 rfl) (own_w hw 28 rfl) (own_w hw 29 rfl) (by decide) (W := 2) (cvalueOfS l Z a0 hw [] (p2.toInt64) sc wz wy T72.heap n0 zD0 zD1 zD6 zD7 Op72 (Bk.ne (Bk.i2l p2) (by decide)) hsc.2.nn hsc.2.lt) (by decide) (by decide) rfl (by decide) (by decide)  (by rw [hml]; rfl) (argsL := [(.long (p2.toInt64)), (.int sc)]) (rest := [(.int ia), (.ref b64)]) (lenOf pd_5 rfl) rfl rfl (hb hby at_184) rfl (fun _ T100 Lc100 X100 hQ100 => ?_)
      obtain ⟨r_100, rfl, N100q, Kp100, Op100, R100_0⟩ := hQ100
      have N100 := Fr.app N72 N100q
      have K101 := K92.trans Kp100 all0
      have BE100 : BE Z T100.heap r_100 (p2.toInt64) sc (1 : Int) := ⟨R100_0.1, sc, R100_0, Or.inl rfl, ((Bk.i2l p2)).mono (by decide)⟩
      have f103 := (R72_0.keep Kp100)
      have f104 := (R72_1.keep Kp100 nin0)
      have f105 := (R72_2.keep Kp100 nin0)
      have f106 := (R72_5.keep Kp100 nin0)
      have f107 := (R72_6.keep Kp100 nin0)
      have f108 := R72_7
      have f109 := R72_8
      have f110 := (BEz72.keep Kp100 nin0)
      have f111 := ((((f59.keep Kp53 (ninS ne62 nin0)).ext E64).keep Kp72 (ninS ne67 nin0)).keep Kp100 nin0)
      show Rch p.tables e below _ (T100.setTop (mkF m 187 #[.val (.int p0), .val (.int p1), .val (.int p2), .val (.int p3), .val (.int p4), .val (.int p5), .val (.int (1 : Int32)), .val (.int sc), .val (.int cnt), .val (.ref b32), .val (.ref r_37), .val (.ref b64), .val (.long (0 : Int64)), .second, .val (.int ia), .val (.int ib), .val (.int ic)] [(.ref r_100), (.int ia), (.ref b64)]))
      refine own_kV X100 hx hZ44 (y := Y_37) (z := Y_37) hown44 (own_w hw 211 rfl) (own_w hw 212 rfl) (notFace_of_selects (args := #[]) (mvT hZ44 (own_w hw 214 rfl))) (own_w hw 214 rfl) (own_w hw 213 rfl) (own_w hw 36 rfl) (own_w hw 215 rfl) (by decide) (W := 0) (ccharge1 l Z a0 hw [] b64 r_100 sp_72 ks_72 rm_72 kr_72 zz r_37 (0 : Int64) (p1.toInt64) (p2.toInt64) sc (1 : Int) wz wy ia T100.heap n0 zD0 zD1 zD6 zD7 Op100 f103 f104 f105 f106 f107 f108 f109 f110 f111 BE100 g_sp_72 g_rm_72 R72_9 hsc.2 (by decide) hia.2) (by decide) (by decide) rfl f103 (by decide) (by decide)  (by rw [hml]; rfl) (argsL := [(.int ia), (.ref r_100)]) (rest := []) (lenOf pd_25 rfl) rfl rfl (hb hby at_187) rfl (fun _ T102 Lc102 X102 hQ102 => ?_)
      obtain ⟨t0_102, u0_102, y0_102, v0_102, rfl, N102q, Kp102, Op102, R102_0, R102_1, R102_2, R102_3, R102_4⟩ := hQ102
      have N102 := Fr.app N100 N102q
      have ne112 := (Exa.neArv (zD5.1.ext Op100.2) f106 (own_w hw 81 rfl))
      have ne113 := (Exa.neArv BE100.1 f106 (own_w hw 81 rfl))
      have ne114 := (Exa.neArv (zD5.1.ext Op100.2) f107 (own_w hw 81 rfl))
      have ne115 := (Exa.neArv BE100.1 f107 (own_w hw 81 rfl))
      have K116 := K101.trans Kp102 (allS (Or.inr sz_sp_72) (allS (Or.inr sz_rm_72) all0))
      refine Rch.st (fun _ hr => XS.lload X102.here hx rfl (hb hby at_190) rfl hr) ?_
      refine Rch.st (fun _ hr => XS.iloadN X102.here hx rfl (hb hby at_192) rfl hr) ?_
      refine Rch.st (fun _ hr => XS.i2l X102.here hx rfl (hb hby at_193) rfl hr) ?_
      refine Rch.st (fun _ hr => XS.ladd X102.here hx rfl (hb hby at_194) rfl hr) ?_
      refine Rch.st (fun _ hr => XS.lstore X102.here hx rfl (hb hby at_195) rfl (l' := #[.val (.int p0), .val (.int p1), .val (.int p2), .val (.int p3), .val (.int p4), .val (.int p5), .val (.int (1 : Int32)), .val (.int sc), .val (.int cnt), .val (.ref b32), .val (.ref r_37), .val (.ref b64), .val (.long ((0 : Int64) + (p2.toInt64))), .second, .val (.int ia), .val (.int ib), .val (.int ic)]) rfl hr) ?_
      refine Rch.st (fun _ hr => XS.iload X102.here hx rfl (hb hby at_197) rfl hr) ?_
      show Rch p.tables e below _ (T102.setTop (mkF m 199 #[.val (.int p0), .val (.int p1), .val (.int p2), .val (.int p3), .val (.int p4), .val (.int p5), .val (.int (1 : Int32)), .val (.int sc), .val (.int cnt), .val (.ref b32), .val (.ref r_37), .val (.ref b64), .val (.long ((0 : Int64) + (p2.toInt64))), .second, .val (.int ia), .val (.int ib), .val (.int ic)] [(.int cnt)]))
      refine Rch.st (fun _ hr => XS.iconst X102.here hx rfl (hb hby at_199) hr) ?_
      by_cases hc117 : cnt < (2 : Int32)
      · refine Rch.st (fun _ hr => XS.icmpYes X102.here hx rfl (pc0 := 200) (pc' := 224) rfl (hb hby at_200) rfl (tlt hc117).1 (by decide) (by decide) hr) ?_
        refine Rch.st (fun _ hr => XS.iload X102.here hx rfl (hb hby at_224) rfl hr) ?_
        refine Rch.st (fun _ hr => XS.iconst X102.here hx rfl (hb hby at_226) hr) ?_
        refine Rch.st (fun _ hr => XS.icmpYes X102.here hx rfl (pc0 := 227) (pc' := 253) rfl (hb hby at_227) rfl (tlt (own_lt23 hc117)).1 (by decide) (by decide) hr) ?_
        refine Rch.st (fun _ hr => XS.aload X102.here hx rfl (hb hby at_253) rfl rfl hr) ?_
        have f119 := (f103.keep Kp102)
        have f120 := (f104.keep Kp102 (ninS ne86 (ninS ne91 nin0)))
        show Rch p.tables e below _ (T102.setTop (mkF m 255 #[.val (.int p0), .val (.int p1), .val (.int p2), .val (.int p3), .val (.int p4), .val (.int p5), .val (.int (1 : Int32)), .val (.int sc), .val (.int cnt), .val (.ref b32), .val (.ref r_37), .val (.ref b64), .val (.long ((0 : Int64) + (p2.toInt64))), .second, .val (.int ia), .val (.int ib), .val (.int ic)] [(.ref b64)]))
        refine own_kV X102 hx hZ44 (y := Y_32) (z := Y_32) hown44 (own_w hw 65 rfl) (own_w hw 66 rfl) (notFace_of_selects (args := #[]) (mvT hZ44 (own_w hw 68 rfl))) (own_w hw 68 rfl) (own_w hw 67 rfl) (own_w hw 36 rfl) (own_w hw 69 rfl) (by decide) (W := 0) (crev1 l Z a0 hw [] b64 sp_72 ks_72 t0_102 y0_102 sc ((1 : Int) + (1 : Int)) wz wy zz T102.heap n0 zD0 zD1 zD6 zD7 zD4 zD5 Op102 f120 R102_0 R102_2 hsc.2 (by decide) (by decide)) (by decide) (by decide) rfl f119 (by decide) (by decide)  (by rw [hml]; rfl) (argsL := []) (rest := []) (lenOf pd_19 rfl) rfl rfl (hb hby at_255) rfl (fun _ T118 Lc118 X118 hQ118 => ?_)
        obtain ⟨r_118, rfl, N118q, Kp118, Op118, R118_0⟩ := hQ118
        have N118 := Fr.app N102 N118q
        have K121 := K116.trans Kp118 all0
        refine Rch.st (fun _ hr => XS.lload X118.here hx rfl (hb hby at_258) rfl hr) ?_
        refine Rch.st (fun _ hr => XS.iload X118.here hx rfl (hb hby at_260) rfl hr) ?_
        show Rch p.tables e below _ (T118.setTop (mkF m 262 #[.val (.int p0), .val (.int p1), .val (.int p2), .val (.int p3), .val (.int p4), .val (.int p5), .val (.int (1 : Int32)), .val (.int sc), .val (.int cnt), .val (.ref b32), .val (.ref r_37), .val (.ref b64), .val (.long ((0 : Int64) + (p2.toInt64))), .second, .val (.int ia), .val (.int ib), .val (.int ic)] [(.int sc), (.long ((0 : Int64) + (p2.toInt64))), (.ref r_118)]))
        refine own_kS X118 hx hZ44 (y := Y_5) hown44 (own_w hw 26 rfl) (own_w hw 27 rfl) (own_w hw 28 rfl) (own_w hw 29 rfl) (by decide) (W := 1) (cvalueOfS l Z a0 hw [] ((0 : Int64) + (p2.toInt64)) sc wz wy T118.heap n0 zD0 zD1 zD6 zD7 Op118 (Bk.ne (Bk.add Bk.zero (Bk.i2l p2) (by decide)).2 (by decide)) hsc.2.nn hsc.2.lt) (by decide) (by decide) rfl (by decide) (by decide)  (by rw [hml]; rfl) (argsL := [(.long ((0 : Int64) + (p2.toInt64))), (.int sc)]) (rest := [(.ref r_118)]) (lenOf pd_5 rfl) rfl rfl (hb hby at_262) rfl (fun _ T122 Lc122 X122 hQ122 => ?_)
        obtain ⟨r_122, rfl, N122q, Kp122, Op122, R122_0⟩ := hQ122
        have N122 := Fr.app N118 N122q
        have K123 := K121.trans Kp122 all0
        have BE122 : BE Z T122.heap r_122 ((0 : Int64) + (p2.toInt64)) sc (3 : Int) := ⟨R122_0.1, sc, R122_0, Or.inl rfl, ((Bk.add Bk.zero (Bk.i2l p2) (by decide)).2).mono (by decide)⟩
        have f125 := (R118_0.keep Kp122 nin0)
        show Rch p.tables e below _ (T122.setTop (mkF m 265 #[.val (.int p0), .val (.int p1), .val (.int p2), .val (.int p3), .val (.int p4), .val (.int p5), .val (.int (1 : Int32)), .val (.int sc), .val (.int cnt), .val (.ref b32), .val (.ref r_37), .val (.ref b64), .val (.long ((0 : Int64) + (p2.toInt64))), .second, .val (.int ia), .val (.int ib), .val (.int ic)] [(.ref r_122), (.ref r_118)]))
        refine own_kV X122 hx hZ44 (y := Y_33) (z := Y_33) hown44 (own_w hw 70 rfl) (own_w hw 71 rfl) (notFace_of_selects (args := #[]) (mvT hZ44 (own_w hw 73 rfl))) (own_w hw 73 rfl) (own_w hw 72 rfl) (own_w hw 28 rfl) (own_w hw 74 rfl) (by decide) (W := 0) (ccompare l Z a0 hw [] r_118 r_122 ((0 : Int64) + y0_102) ((0 : Int64) + (p2.toInt64)) sc (((1 : Int) + (1 : Int)) + ((1 : Int) + (1 : Int))) (3 : Int) T122.heap n0 f125 BE122 hsc.2 (by decide) (by decide) (by rw [R102_4, own_z1])) (by decide) (by decide) rfl f125.1 (by decide) (by decide)  (by rw [hml]; rfl) (argsL := [(.ref r_122)]) (rest := []) (lenOf pd_22 rfl) rfl rfl (hb hby at_265) rfl (fun _ T124 Lc124 X124 hQ124 => ?_)
        obtain ⟨rfl, N124q, e124⟩ := hQ124
        have N124 := Fr.app N122 N124q
        refine Rch.st (fun _ hr => XS.ifNo X124.here hx rfl (hb hby at_268) rfl ((if0 _ _).trans (teq (by decide : (0 : Int32) = (0 : Int32))).2) hr) ?_
        refine Rch.st (fun _ hr => XS.iconst X124.here hx rfl (hb hby at_271) hr) ?_
        refine Rch.st (fun _ hr => XS.goto X124.here hx rfl (pc0 := 272) (pc' := 276) rfl (hb hby at_272) (by decide) (by decide) hr) ?_
        obtain ⟨fs, hr, hrun, hended, hREW⟩ := Jvm.Stand.leaveW (s := s) (vm₁ := T44.vm) X124 hS44 (by rw [e124]; exact (Nat.le_trans (Nat.le_trans (Nat.le_trans (Nat.le_trans (Nat.le_trans (Nat.le_trans (Nat.le_trans (Nat.le_trans hk44 Kp47.1) Kp53.1) E64.1) Kp72.1) Kp100.1) Kp102.1) Kp118.1) Kp122.1)) (v := some (.int (1 : Int32))) (fun h => by rw [Bd.returns] at h; cases h)
        refine Rch.fin (u := T124.setFrames fs) (retN X124 hx (t := .boolean) Bd.returns (by simp) (hb hby at_276) hr) ⟨_, hrun, hended, _, _, rfl, ?_, hREW.1, hREW.2.1, hREW.2.2.1, hREW.2.2.2.mono (by decide) (by decide)⟩
        show Q_claw Z p0 p1 p2 p3 p4 p5 wz de kde zz wy h0 n0 _ T124.heap _
        rw [e124]
        exact ⟨rfl, N124, K123, Op122⟩
      · refine Rch.st (fun _ hr => XS.icmpNo X102.here hx rfl (hb hby at_200) rfl (flt hc117).1 hr) ?_
        refine Rch.st (fun _ hr => XS.aload X102.here hx rfl (hb hby at_203) rfl rfl hr) ?_
        refine Rch.st (fun _ hr => XS.iload X102.here hx rfl (hb hby at_205) rfl hr) ?_
        refine Rch.st (fun _ hr => XS.iloadN X102.here hx rfl (hb hby at_207) rfl hr) ?_
        refine Rch.st (fun _ hr => XS.i2l X102.here hx rfl (hb hby at_208) rfl hr) ?_
        refine Rch.st (fun _ hr => XS.iload X102.here hx rfl (hb hby at_209) rfl hr) ?_
        show Rch p.tables e below _ (T102.setTop (mkF m 211 #[.val (.int p0), .val (.int p1), .val (.int p2), .val (.int p3), .val (.int p4), .val (.int p5), .val (.int (1 : Int32)), .val (.int sc), .val (.int cnt), .val (.ref b32), .val (.ref r_37), .val (.ref b64), .val (.long ((0 : Int64) + (p2.toInt64))), .second, .val (.int ia), .val (.int ib), .val (.int ic)] [(.int sc), (.long (p3.toInt64)), (.int ib), (.ref b64)]))
        refine own_kS X102 hx hZ44 (y := Y_5) hown44 (own_w hw 26 rfl) (own_w hw 27 rfl) (own_w hw 28 rfl) (own_w hw 29 rfl) (by decide) (W := 2) (cvalueOfS l Z a0 hw [] (p3.toInt64) sc wz wy T102.heap n0 zD0 zD1 zD6 zD7 Op102 (Bk.ne (Bk.i2l p3) (by decide)) hsc.2.nn hsc.2.lt) (by decide) (by decide) rfl (by decide) (by decide)  (by rw [hml]; rfl) (argsL := [(.long (p3.toInt64)), (.int sc)]) (rest := [(.int ib), (.ref b64)]) (lenOf pd_5 rfl) rfl rfl (hb hby at_211) rfl (fun _ T126 Lc126 X126 hQ126 => ?_)
        obtain ⟨r_126, rfl, N126q, Kp126, Op126, R126_0⟩ := hQ126
        have N126 := Fr.app N102 N126q
        have K127 := K116.trans Kp126 all0
        have BE126 : BE Z T126.heap r_126 (p3.toInt64) sc (1 : Int) := ⟨R126_0.1, sc, R126_0, Or.inl rfl, ((Bk.i2l p3)).mono (by decide)⟩
        have f129 := ((f103.keep Kp102).keep Kp126)
        have f130 := ((f104.keep Kp102 (ninS ne86 (ninS ne91 nin0))).keep Kp126 nin0)
        have f131 := ((f105.keep Kp102 (ninS ne86 (ninS ne91 nin0))).keep Kp126 nin0)
        have f132 := (R102_0.keep Kp126 nin0)
        have f133 := (R102_1.keep Kp126 nin0)
        have f134 := f108
        have f135 := f109
        have f136 := (R102_2.keep Kp126 nin0)
        have f137 := (R102_3.keep Kp126 nin0)
        show Rch p.tables e below _ (T126.setTop (mkF m 214 #[.val (.int p0), .val (.int p1), .val (.int p2), .val (.int p3), .val (.int p4), .val (.int p5), .val (.int (1 : Int32)), .val (.int sc), .val (.int cnt), .val (.ref b32), .val (.ref r_37), .val (.ref b64), .val (.long ((0 : Int64) + (p2.toInt64))), .second, .val (.int ia), .val (.int ib), .val (.int ic)] [(.ref r_126), (.int ib), (.ref b64)]))
        refine own_kV X126 hx hZ44 (y := Y_37) (z := Y_37) hown44 (own_w hw 211 rfl) (own_w hw 212 rfl) (notFace_of_selects (args := #[]) (mvT hZ44 (own_w hw 214 rfl))) (own_w hw 214 rfl) (own_w hw 213 rfl) (own_w hw 36 rfl) (own_w hw 215 rfl) (by decide) (W := 0) (ccharge1 l Z a0 hw [] b64 r_126 sp_72 ks_72 rm_72 kr_72 t0_102 u0_102 y0_102 v0_102 (p3.toInt64) sc ((1 : Int) + (1 : Int)) wz wy ib T126.heap n0 zD0 zD1 zD6 zD7 Op126 f129 f130 f131 f132 f133 f134 f135 f136 f137 BE126 g_sp_72 g_rm_72 R72_9 hsc.2 (by decide) hib.2) (by decide) (by decide) rfl f129 (by decide) (by decide)  (by rw [hml]; rfl) (argsL := [(.int ib), (.ref r_126)]) (rest := []) (lenOf pd_25 rfl) rfl rfl (hb hby at_214) rfl (fun _ T128 Lc128 X128 hQ128 => ?_)
        obtain ⟨t0_128, u0_128, y0_128, v0_128, rfl, N128q, Kp128, Op128, R128_0, R128_1, R128_2, R128_3, R128_4⟩ := hQ128
        have N128 := Fr.app N126 N128q
        have ne138 := (Exa.neArv f136.1 f132 (own_w hw 81 rfl))
        have ne139 := (Exa.neArv f137.1 f132 (own_w hw 81 rfl))
        have ne140 := (Exa.neArv BE126.1 f132 (own_w hw 81 rfl))
        have ne141 := (Exa.neArv f136.1 f133 (own_w hw 81 rfl))
        have ne142 := (Exa.neArv f137.1 f133 (own_w hw 81 rfl))
        have ne143 := (Exa.neArv BE126.1 f133 (own_w hw 81 rfl))
        have K144 := K127.trans Kp128 (allS (Or.inr sz_sp_72) (allS (Or.inr sz_rm_72) all0))
        refine Rch.st (fun _ hr => XS.lload X128.here hx rfl (hb hby at_217) rfl hr) ?_
        refine Rch.st (fun _ hr => XS.iloadN X128.here hx rfl (hb hby at_219) rfl hr) ?_
        refine Rch.st (fun _ hr => XS.i2l X128.here hx rfl (hb hby at_220) rfl hr) ?_
        refine Rch.st (fun _ hr => XS.ladd X128.here hx rfl (hb hby at_221) rfl hr) ?_
        refine Rch.st (fun _ hr => XS.lstore X128.here hx rfl (hb hby at_222) rfl (l' := #[.val (.int p0), .val (.int p1), .val (.int p2), .val (.int p3), .val (.int p4), .val (.int p5), .val (.int (1 : Int32)), .val (.int sc), .val (.int cnt), .val (.ref b32), .val (.ref r_37), .val (.ref b64), .val (.long (((0 : Int64) + (p2.toInt64)) + (p3.toInt64))), .second, .val (.int ia), .val (.int ib), .val (.int ic)]) rfl hr) ?_
        refine Rch.st (fun _ hr => XS.iload X128.here hx rfl (hb hby at_224) rfl hr) ?_
        refine Rch.st (fun _ hr => XS.iconst X128.here hx rfl (hb hby at_226) hr) ?_
        show Rch p.tables e below _ (T128.setTop (mkF m 227 #[.val (.int p0), .val (.int p1), .val (.int p2), .val (.int p3), .val (.int p4), .val (.int p5), .val (.int (1 : Int32)), .val (.int sc), .val (.int cnt), .val (.ref b32), .val (.ref r_37), .val (.ref b64), .val (.long (((0 : Int64) + (p2.toInt64)) + (p3.toInt64))), .second, .val (.int ia), .val (.int ib), .val (.int ic)] [(.int (3 : Int32)), (.int cnt)]))
        by_cases hc145 : cnt < (3 : Int32)
        · refine Rch.st (fun _ hr => XS.icmpYes X128.here hx rfl (pc0 := 227) (pc' := 253) rfl (hb hby at_227) rfl (tlt hc145).1 (by decide) (by decide) hr) ?_
          refine Rch.st (fun _ hr => XS.aload X128.here hx rfl (hb hby at_253) rfl rfl hr) ?_
          have f147 := (f129.keep Kp128)
          have f148 := (f130.keep Kp128 (ninS ne86 (ninS ne91 nin0)))
          show Rch p.tables e below _ (T128.setTop (mkF m 255 #[.val (.int p0), .val (.int p1), .val (.int p2), .val (.int p3), .val (.int p4), .val (.int p5), .val (.int (1 : Int32)), .val (.int sc), .val (.int cnt), .val (.ref b32), .val (.ref r_37), .val (.ref b64), .val (.long (((0 : Int64) + (p2.toInt64)) + (p3.toInt64))), .second, .val (.int ia), .val (.int ib), .val (.int ic)] [(.ref b64)]))
          refine own_kV X128 hx hZ44 (y := Y_32) (z := Y_32) hown44 (own_w hw 65 rfl) (own_w hw 66 rfl) (notFace_of_selects (args := #[]) (mvT hZ44 (own_w hw 68 rfl))) (own_w hw 68 rfl) (own_w hw 67 rfl) (own_w hw 36 rfl) (own_w hw 69 rfl) (by decide) (W := 0) (crev1 l Z a0 hw [] b64 sp_72 ks_72 t0_128 y0_128 sc (((1 : Int) + (1 : Int)) + (1 : Int)) wz wy zz T128.heap n0 zD0 zD1 zD6 zD7 zD4 zD5 Op128 f148 R128_0 R128_2 hsc.2 (by decide) (by decide)) (by decide) (by decide) rfl f147 (by decide) (by decide)  (by rw [hml]; rfl) (argsL := []) (rest := []) (lenOf pd_19 rfl) rfl rfl (hb hby at_255) rfl (fun _ T146 Lc146 X146 hQ146 => ?_)
          obtain ⟨r_146, rfl, N146q, Kp146, Op146, R146_0⟩ := hQ146
          have N146 := Fr.app N128 N146q
          have K149 := K144.trans Kp146 all0
          refine Rch.st (fun _ hr => XS.lload X146.here hx rfl (hb hby at_258) rfl hr) ?_
          refine Rch.st (fun _ hr => XS.iload X146.here hx rfl (hb hby at_260) rfl hr) ?_
          show Rch p.tables e below _ (T146.setTop (mkF m 262 #[.val (.int p0), .val (.int p1), .val (.int p2), .val (.int p3), .val (.int p4), .val (.int p5), .val (.int (1 : Int32)), .val (.int sc), .val (.int cnt), .val (.ref b32), .val (.ref r_37), .val (.ref b64), .val (.long (((0 : Int64) + (p2.toInt64)) + (p3.toInt64))), .second, .val (.int ia), .val (.int ib), .val (.int ic)] [(.int sc), (.long (((0 : Int64) + (p2.toInt64)) + (p3.toInt64))), (.ref r_146)]))
          refine own_kS X146 hx hZ44 (y := Y_5) hown44 (own_w hw 26 rfl) (own_w hw 27 rfl) (own_w hw 28 rfl) (own_w hw 29 rfl) (by decide) (W := 1) (cvalueOfS l Z a0 hw [] (((0 : Int64) + (p2.toInt64)) + (p3.toInt64)) sc wz wy T146.heap n0 zD0 zD1 zD6 zD7 Op146 (Bk.ne (Bk.add (Bk.add Bk.zero (Bk.i2l p2) (by decide)).2 (Bk.i2l p3) (by decide)).2 (by decide)) hsc.2.nn hsc.2.lt) (by decide) (by decide) rfl (by decide) (by decide)  (by rw [hml]; rfl) (argsL := [(.long (((0 : Int64) + (p2.toInt64)) + (p3.toInt64))), (.int sc)]) (rest := [(.ref r_146)]) (lenOf pd_5 rfl) rfl rfl (hb hby at_262) rfl (fun _ T150 Lc150 X150 hQ150 => ?_)
          obtain ⟨r_150, rfl, N150q, Kp150, Op150, R150_0⟩ := hQ150
          have N150 := Fr.app N146 N150q
          have K151 := K149.trans Kp150 all0
          have BE150 : BE Z T150.heap r_150 (((0 : Int64) + (p2.toInt64)) + (p3.toInt64)) sc (3 : Int) := ⟨R150_0.1, sc, R150_0, Or.inl rfl, ((Bk.add (Bk.add Bk.zero (Bk.i2l p2) (by decide)).2 (Bk.i2l p3) (by decide)).2).mono (by decide)⟩
          have f153 := (R146_0.keep Kp150 nin0)
          show Rch p.tables e below _ (T150.setTop (mkF m 265 #[.val (.int p0), .val (.int p1), .val (.int p2), .val (.int p3), .val (.int p4), .val (.int p5), .val (.int (1 : Int32)), .val (.int sc), .val (.int cnt), .val (.ref b32), .val (.ref r_37), .val (.ref b64), .val (.long (((0 : Int64) + (p2.toInt64)) + (p3.toInt64))), .second, .val (.int ia), .val (.int ib), .val (.int ic)] [(.ref r_150), (.ref r_146)]))
          refine own_kV X150 hx hZ44 (y := Y_33) (z := Y_33) hown44 (own_w hw 70 rfl) (own_w hw 71 rfl) (notFace_of_selects (args := #[]) (mvT hZ44 (own_w hw 73 rfl))) (own_w hw 73 rfl) (own_w hw 72 rfl) (own_w hw 28 rfl) (own_w hw 74 rfl) (by decide) (W := 0) (ccompare l Z a0 hw [] r_146 r_150 ((0 : Int64) + y0_128) (((0 : Int64) + (p2.toInt64)) + (p3.toInt64)) sc ((((1 : Int) + (1 : Int)) + (1 : Int)) + (((1 : Int) + (1 : Int)) + (1 : Int))) (3 : Int) T150.heap n0 f153 BE150 hsc.2 (by decide) (by decide) (by rw [R128_4, R102_4, own_z1])) (by decide) (by decide) rfl f153.1 (by decide) (by decide)  (by rw [hml]; rfl) (argsL := [(.ref r_150)]) (rest := []) (lenOf pd_22 rfl) rfl rfl (hb hby at_265) rfl (fun _ T152 Lc152 X152 hQ152 => ?_)
          obtain ⟨rfl, N152q, e152⟩ := hQ152
          have N152 := Fr.app N150 N152q
          refine Rch.st (fun _ hr => XS.ifNo X152.here hx rfl (hb hby at_268) rfl ((if0 _ _).trans (teq (by decide : (0 : Int32) = (0 : Int32))).2) hr) ?_
          refine Rch.st (fun _ hr => XS.iconst X152.here hx rfl (hb hby at_271) hr) ?_
          refine Rch.st (fun _ hr => XS.goto X152.here hx rfl (pc0 := 272) (pc' := 276) rfl (hb hby at_272) (by decide) (by decide) hr) ?_
          obtain ⟨fs, hr, hrun, hended, hREW⟩ := Jvm.Stand.leaveW (s := s) (vm₁ := T44.vm) X152 hS44 (by rw [e152]; exact (Nat.le_trans (Nat.le_trans (Nat.le_trans (Nat.le_trans (Nat.le_trans (Nat.le_trans (Nat.le_trans (Nat.le_trans (Nat.le_trans (Nat.le_trans hk44 Kp47.1) Kp53.1) E64.1) Kp72.1) Kp100.1) Kp102.1) Kp126.1) Kp128.1) Kp146.1) Kp150.1)) (v := some (.int (1 : Int32))) (fun h => by rw [Bd.returns] at h; cases h)
          refine Rch.fin (u := T152.setFrames fs) (retN X152 hx (t := .boolean) Bd.returns (by simp) (hb hby at_276) hr) ⟨_, hrun, hended, _, _, rfl, ?_, hREW.1, hREW.2.1, hREW.2.2.1, hREW.2.2.2.mono (by decide) (by decide)⟩
          show Q_claw Z p0 p1 p2 p3 p4 p5 wz de kde zz wy h0 n0 _ T152.heap _
          rw [e152]
          exact ⟨rfl, N152, K151, Op150⟩
        · refine Rch.st (fun _ hr => XS.icmpNo X128.here hx rfl (hb hby at_227) rfl (flt hc145).1 hr) ?_
          refine Rch.st (fun _ hr => XS.aload X128.here hx rfl (hb hby at_230) rfl rfl hr) ?_
          refine Rch.st (fun _ hr => XS.iload X128.here hx rfl (hb hby at_232) rfl hr) ?_
          refine Rch.st (fun _ hr => XS.iload X128.here hx rfl (hb hby at_234) rfl hr) ?_
          refine Rch.st (fun _ hr => XS.i2l X128.here hx rfl (hb hby at_236) rfl hr) ?_
          refine Rch.st (fun _ hr => XS.iload X128.here hx rfl (hb hby at_237) rfl hr) ?_
          show Rch p.tables e below _ (T128.setTop (mkF m 239 #[.val (.int p0), .val (.int p1), .val (.int p2), .val (.int p3), .val (.int p4), .val (.int p5), .val (.int (1 : Int32)), .val (.int sc), .val (.int cnt), .val (.ref b32), .val (.ref r_37), .val (.ref b64), .val (.long (((0 : Int64) + (p2.toInt64)) + (p3.toInt64))), .second, .val (.int ia), .val (.int ib), .val (.int ic)] [(.int sc), (.long (p4.toInt64)), (.int ic), (.ref b64)]))
          refine own_kS X128 hx hZ44 (y := Y_5) hown44 (own_w hw 26 rfl) (own_w hw 27 rfl) (own_w hw 28 rfl) (own_w hw 29 rfl) (by decide) (W := 2) (cvalueOfS l Z a0 hw [] (p4.toInt64) sc wz wy T128.heap n0 zD0 zD1 zD6 zD7 Op128 (Bk.ne (Bk.i2l p4) (by decide)) hsc.2.nn hsc.2.lt) (by decide) (by decide) rfl (by decide) (by decide)  (by rw [hml]; rfl) (argsL := [(.long (p4.toInt64)), (.int sc)]) (rest := [(.int ic), (.ref b64)]) (lenOf pd_5 rfl) rfl rfl (hb hby at_239) rfl (fun _ T154 Lc154 X154 hQ154 => ?_)
          obtain ⟨r_154, rfl, N154q, Kp154, Op154, R154_0⟩ := hQ154
          have N154 := Fr.app N128 N154q
          have K155 := K144.trans Kp154 all0
          have BE154 : BE Z T154.heap r_154 (p4.toInt64) sc (1 : Int) := ⟨R154_0.1, sc, R154_0, Or.inl rfl, ((Bk.i2l p4)).mono (by decide)⟩
          have f157 := ((f129.keep Kp128).keep Kp154)
          have f158 := ((f130.keep Kp128 (ninS ne86 (ninS ne91 nin0))).keep Kp154 nin0)
          have f159 := ((f131.keep Kp128 (ninS ne86 (ninS ne91 nin0))).keep Kp154 nin0)
          have f160 := (R128_0.keep Kp154 nin0)
          have f161 := (R128_1.keep Kp154 nin0)
          have f162 := f134
          have f163 := f135
          have f164 := (R128_2.keep Kp154 nin0)
          have f165 := (R128_3.keep Kp154 nin0)
          show Rch p.tables e below _ (T154.setTop (mkF m 242 #[.val (.int p0), .val (.int p1), .val (.int p2), .val (.int p3), .val (.int p4), .val (.int p5), .val (.int (1 : Int32)), .val (.int sc), .val (.int cnt), .val (.ref b32), .val (.ref r_37), .val (.ref b64), .val (.long (((0 : Int64) + (p2.toInt64)) + (p3.toInt64))), .second, .val (.int ia), .val (.int ib), .val (.int ic)] [(.ref r_154), (.int ic), (.ref b64)]))
          refine own_kV X154 hx hZ44 (y := Y_37) (z := Y_37) hown44 (own_w hw 211 rfl) (own_w hw 212 rfl) (notFace_of_selects (args := #[]) (mvT hZ44 (own_w hw 214 rfl))) (own_w hw 214 rfl) (own_w hw 213 rfl) (own_w hw 36 rfl) (own_w hw 215 rfl) (by decide) (W := 0) (ccharge1 l Z a0 hw [] b64 r_154 sp_72 ks_72 rm_72 kr_72 t0_128 u0_128 y0_128 v0_128 (p4.toInt64) sc (((1 : Int) + (1 : Int)) + (1 : Int)) wz wy ic T154.heap n0 zD0 zD1 zD6 zD7 Op154 f157 f158 f159 f160 f161 f162 f163 f164 f165 BE154 g_sp_72 g_rm_72 R72_9 hsc.2 (by decide) hic.2) (by decide) (by decide) rfl f157 (by decide) (by decide)  (by rw [hml]; rfl) (argsL := [(.int ic), (.ref r_154)]) (rest := []) (lenOf pd_25 rfl) rfl rfl (hb hby at_242) rfl (fun _ T156 Lc156 X156 hQ156 => ?_)
          obtain ⟨t0_156, u0_156, y0_156, v0_156, rfl, N156q, Kp156, Op156, R156_0, R156_1, R156_2, R156_3, R156_4⟩ := hQ156
          have N156 := Fr.app N154 N156q
          have ne166 := (Exa.neArv f164.1 f160 (own_w hw 81 rfl))
          have ne167 := (Exa.neArv f165.1 f160 (own_w hw 81 rfl))
          have ne168 := (Exa.neArv BE154.1 f160 (own_w hw 81 rfl))
          have ne169 := (Exa.neArv f164.1 f161 (own_w hw 81 rfl))
          have ne170 := (Exa.neArv f165.1 f161 (own_w hw 81 rfl))
          have ne171 := (Exa.neArv BE154.1 f161 (own_w hw 81 rfl))
          have K172 := K155.trans Kp156 (allS (Or.inr sz_sp_72) (allS (Or.inr sz_rm_72) all0))
          refine Rch.st (fun _ hr => XS.lload X156.here hx rfl (hb hby at_245) rfl hr) ?_
          refine Rch.st (fun _ hr => XS.iload X156.here hx rfl (hb hby at_247) rfl hr) ?_
          refine Rch.st (fun _ hr => XS.i2l X156.here hx rfl (hb hby at_249) rfl hr) ?_
          refine Rch.st (fun _ hr => XS.ladd X156.here hx rfl (hb hby at_250) rfl hr) ?_
          refine Rch.st (fun _ hr => XS.lstore X156.here hx rfl (hb hby at_251) rfl (l' := #[.val (.int p0), .val (.int p1), .val (.int p2), .val (.int p3), .val (.int p4), .val (.int p5), .val (.int (1 : Int32)), .val (.int sc), .val (.int cnt), .val (.ref b32), .val (.ref r_37), .val (.ref b64), .val (.long ((((0 : Int64) + (p2.toInt64)) + (p3.toInt64)) + (p4.toInt64))), .second, .val (.int ia), .val (.int ib), .val (.int ic)]) rfl hr) ?_
          refine Rch.st (fun _ hr => XS.aload X156.here hx rfl (hb hby at_253) rfl rfl hr) ?_
          have f174 := (f157.keep Kp156)
          have f175 := (f158.keep Kp156 (ninS ne86 (ninS ne91 nin0)))
          show Rch p.tables e below _ (T156.setTop (mkF m 255 #[.val (.int p0), .val (.int p1), .val (.int p2), .val (.int p3), .val (.int p4), .val (.int p5), .val (.int (1 : Int32)), .val (.int sc), .val (.int cnt), .val (.ref b32), .val (.ref r_37), .val (.ref b64), .val (.long ((((0 : Int64) + (p2.toInt64)) + (p3.toInt64)) + (p4.toInt64))), .second, .val (.int ia), .val (.int ib), .val (.int ic)] [(.ref b64)]))
          refine own_kV X156 hx hZ44 (y := Y_32) (z := Y_32) hown44 (own_w hw 65 rfl) (own_w hw 66 rfl) (notFace_of_selects (args := #[]) (mvT hZ44 (own_w hw 68 rfl))) (own_w hw 68 rfl) (own_w hw 67 rfl) (own_w hw 36 rfl) (own_w hw 69 rfl) (by decide) (W := 0) (crev1 l Z a0 hw [] b64 sp_72 ks_72 t0_156 y0_156 sc ((((1 : Int) + (1 : Int)) + (1 : Int)) + (1 : Int)) wz wy zz T156.heap n0 zD0 zD1 zD6 zD7 zD4 zD5 Op156 f175 R156_0 R156_2 hsc.2 (by decide) (by decide)) (by decide) (by decide) rfl f174 (by decide) (by decide)  (by rw [hml]; rfl) (argsL := []) (rest := []) (lenOf pd_19 rfl) rfl rfl (hb hby at_255) rfl (fun _ T173 Lc173 X173 hQ173 => ?_)
          obtain ⟨r_173, rfl, N173q, Kp173, Op173, R173_0⟩ := hQ173
          have N173 := Fr.app N156 N173q
          have K176 := K172.trans Kp173 all0
          refine Rch.st (fun _ hr => XS.lload X173.here hx rfl (hb hby at_258) rfl hr) ?_
          show Rch p.tables e below _ (T173.setTop (mkF m 260 #[.val (.int p0), .val (.int p1), .val (.int p2), .val (.int p3), .val (.int p4), .val (.int p5), .val (.int (1 : Int32)), .val (.int sc), .val (.int cnt), .val (.ref b32), .val (.ref r_37), .val (.ref b64), .val (.long ((((0 : Int64) + (p2.toInt64)) + (p3.toInt64)) + (p4.toInt64))), .second, .val (.int ia), .val (.int ib), .val (.int ic)] [(.long ((((0 : Int64) + (p2.toInt64)) + (p3.toInt64)) + (p4.toInt64))), (.ref r_173)]))
          refine Rch.st (fun _ hr => XS.iload X173.here hx rfl (hb hby at_260) rfl hr) ?_
          show Rch p.tables e below _ (T173.setTop (mkF m 262 #[.val (.int p0), .val (.int p1), .val (.int p2), .val (.int p3), .val (.int p4), .val (.int p5), .val (.int (1 : Int32)), .val (.int sc), .val (.int cnt), .val (.ref b32), .val (.ref r_37), .val (.ref b64), .val (.long ((((0 : Int64) + (p2.toInt64)) + (p3.toInt64)) + (p4.toInt64))), .second, .val (.int ia), .val (.int ib), .val (.int ic)] [(.int sc), (.long ((((0 : Int64) + (p2.toInt64)) + (p3.toInt64)) + (p4.toInt64))), (.ref r_173)]))
          refine own_kS X173 hx hZ44 (y := Y_5) hown44 (own_w hw 26 rfl) (own_w hw 27 rfl) (own_w hw 28 rfl) (own_w hw 29 rfl) (by decide) (W := 1) (cvalueOfS l Z a0 hw [] ((((0 : Int64) + (p2.toInt64)) + (p3.toInt64)) + (p4.toInt64)) sc wz wy T173.heap n0 zD0 zD1 zD6 zD7 Op173 (Bk.ne (Bk.add (Bk.add (Bk.add Bk.zero (Bk.i2l p2) (by decide)).2 (Bk.i2l p3) (by decide)).2 (Bk.i2l p4) (by decide)).2 (by decide)) hsc.2.nn hsc.2.lt) (by decide) (by decide) rfl (by decide) (by decide)  (by rw [hml]; rfl) (argsL := [(.long ((((0 : Int64) + (p2.toInt64)) + (p3.toInt64)) + (p4.toInt64))), (.int sc)]) (rest := [(.ref r_173)]) (lenOf pd_5 rfl) rfl rfl (hb hby at_262) rfl (fun _ T177 Lc177 X177 hQ177 => ?_)
          obtain ⟨r_177, rfl, N177q, Kp177, Op177, R177_0⟩ := hQ177
          have N177 := Fr.app N173 N177q
          have K178 := K176.trans Kp177 all0
          have BE177 : BE Z T177.heap r_177 ((((0 : Int64) + (p2.toInt64)) + (p3.toInt64)) + (p4.toInt64)) sc (3 : Int) := ⟨R177_0.1, sc, R177_0, Or.inl rfl, ((Bk.add (Bk.add (Bk.add Bk.zero (Bk.i2l p2) (by decide)).2 (Bk.i2l p3) (by decide)).2 (Bk.i2l p4) (by decide)).2).mono (by decide)⟩
          have f180 := (R173_0.keep Kp177 nin0)
          show Rch p.tables e below _ (T177.setTop (mkF m 265 #[.val (.int p0), .val (.int p1), .val (.int p2), .val (.int p3), .val (.int p4), .val (.int p5), .val (.int (1 : Int32)), .val (.int sc), .val (.int cnt), .val (.ref b32), .val (.ref r_37), .val (.ref b64), .val (.long ((((0 : Int64) + (p2.toInt64)) + (p3.toInt64)) + (p4.toInt64))), .second, .val (.int ia), .val (.int ib), .val (.int ic)] [(.ref r_177), (.ref r_173)]))
          refine own_kV X177 hx hZ44 (y := Y_33) (z := Y_33) hown44 (own_w hw 70 rfl) (own_w hw 71 rfl) (notFace_of_selects (args := #[]) (mvT hZ44 (own_w hw 73 rfl))) (own_w hw 73 rfl) (own_w hw 72 rfl) (own_w hw 28 rfl) (own_w hw 74 rfl) (by decide) (W := 0) (ccompare l Z a0 hw [] r_173 r_177 ((0 : Int64) + y0_156) ((((0 : Int64) + (p2.toInt64)) + (p3.toInt64)) + (p4.toInt64)) sc (((((1 : Int) + (1 : Int)) + (1 : Int)) + (1 : Int)) + ((((1 : Int) + (1 : Int)) + (1 : Int)) + (1 : Int))) (3 : Int) T177.heap n0 f180 BE177 hsc.2 (by decide) (by decide) (by rw [R156_4, R128_4, R102_4, own_z1])) (by decide) (by decide) rfl f180.1 (by decide) (by decide)  (by rw [hml]; rfl) (argsL := [(.ref r_177)]) (rest := []) (lenOf pd_22 rfl) rfl rfl (hb hby at_265) rfl (fun _ T179 Lc179 X179 hQ179 => ?_)
          obtain ⟨rfl, N179q, e179⟩ := hQ179
          have N179 := Fr.app N177 N179q
          refine Rch.st (fun _ hr => XS.ifNo X179.here hx rfl (hb hby at_268) rfl ((if0 _ _).trans (teq (by decide : (0 : Int32) = (0 : Int32))).2) hr) ?_
          refine Rch.st (fun _ hr => XS.iconst X179.here hx rfl (hb hby at_271) hr) ?_
          refine Rch.st (fun _ hr => XS.goto X179.here hx rfl (pc0 := 272) (pc' := 276) rfl (hb hby at_272) (by decide) (by decide) hr) ?_
          obtain ⟨fs, hr, hrun, hended, hREW⟩ := Jvm.Stand.leaveW (s := s) (vm₁ := T44.vm) X179 hS44 (by rw [e179]; exact (Nat.le_trans (Nat.le_trans (Nat.le_trans (Nat.le_trans (Nat.le_trans (Nat.le_trans (Nat.le_trans (Nat.le_trans (Nat.le_trans (Nat.le_trans (Nat.le_trans (Nat.le_trans hk44 Kp47.1) Kp53.1) E64.1) Kp72.1) Kp100.1) Kp102.1) Kp126.1) Kp128.1) Kp154.1) Kp156.1) Kp173.1) Kp177.1)) (v := some (.int (1 : Int32))) (fun h => by rw [Bd.returns] at h; cases h)
          refine Rch.fin (u := T179.setFrames fs) (retN X179 hx (t := .boolean) Bd.returns (by simp) (hb hby at_276) hr) ⟨_, hrun, hended, _, _, rfl, ?_, hREW.1, hREW.2.1, hREW.2.2.1, hREW.2.2.2.mono (by decide) (by decide)⟩
          show Q_claw Z p0 p1 p2 p3 p4 p5 wz de kde zz wy h0 n0 _ T179.heap _
          rw [e179]
          exact ⟨rfl, N179, K178, Op177⟩
  · rw [hn]
    show Rch p.tables e below _ (s₁.setTop (mkF m 5 #[.val (.int p0), .val (.int p1), .val (.int p2), .val (.int p3), .val (.int p4), .val (.int p5), .val (.int (2 : Int32)), .unset, .unset, .unset, .unset, .unset, .unset, .unset, .unset, .unset, .unset] []))
    refine Rch.st (fun _ hr => XS.iloadN X0.here hx rfl (hb hby at_5) rfl hr) ?_
    refine Rch.st (fun _ hr => XS.iconst X0.here hx rfl (hb hby at_6) hr) ?_
    refine Rch.st (fun _ hr => XS.iushr X0.here hx rfl (hb hby at_7) rfl hr) ?_
    refine Rch.st (fun _ hr => XS.iconst X0.here hx rfl (hb hby at_8) hr) ?_
    refine Rch.st (fun _ hr => XS.iand X0.here hx rfl (hb hby at_9) rfl hr) ?_
    refine Rch.st (fun _ hr => XS.istore X0.here hx rfl (hb hby at_10) rfl (l' := #[.val (.int p0), .val (.int p1), .val (.int p2), .val (.int p3), .val (.int p4), .val (.int p5), .val (.int (2 : Int32)), .val (.int (((p0.toUInt32 >>> ((2 : Int32) &&& 31).toUInt32).toInt32) &&& (3 : Int32))), .unset, .unset, .unset, .unset, .unset, .unset, .unset, .unset, .unset]) rfl hr) ?_
    show Rch p.tables e below _ (s₁.setTop (mkF m 12 #[.val (.int p0), .val (.int p1), .val (.int p2), .val (.int p3), .val (.int p4), .val (.int p5), .val (.int (2 : Int32)), .val (.int (((p0.toUInt32 >>> ((2 : Int32) &&& 31).toUInt32).toInt32) &&& (3 : Int32))), .unset, .unset, .unset, .unset, .unset, .unset, .unset, .unset, .unset] []))
    obtain ⟨sc, hsc⟩ : ∃ z, z = (((p0.toUInt32 >>> ((2 : Int32) &&& 31).toUInt32).toInt32) &&& (3 : Int32)) ∧ (own_S z) := ⟨_, rfl, own_and3S _⟩
    rw [← hsc.1]
    show Rch p.tables e below _ (s₁.setTop (mkF m 12 #[.val (.int p0), .val (.int p1), .val (.int p2), .val (.int p3), .val (.int p4), .val (.int p5), .val (.int (2 : Int32)), .val (.int sc), .unset, .unset, .unset, .unset, .unset, .unset, .unset, .unset, .unset] []))
    refine Rch.st (fun _ hr => XS.iloadN X0.here hx rfl (hb hby at_12) rfl hr) ?_
    refine Rch.st (fun _ hr => XS.bipush X0.here hx rfl (hb hby at_13) hr) ?_
    refine Rch.st (fun _ hr => XS.iushr X0.here hx rfl (hb hby at_15) rfl hr) ?_
    refine Rch.st (fun _ hr => XS.iconst X0.here hx rfl (hb hby at_16) hr) ?_
    refine Rch.st (fun _ hr => XS.iand X0.here hx rfl (hb hby at_17) rfl hr) ?_
    refine Rch.st (fun _ hr => XS.istore X0.here hx rfl (hb hby at_18) rfl (l' := #[.val (.int p0), .val (.int p1), .val (.int p2), .val (.int p3), .val (.int p4), .val (.int p5), .val (.int (2 : Int32)), .val (.int sc), .val (.int (((p0.toUInt32 >>> ((10 : Int32) &&& 31).toUInt32).toInt32) &&& (3 : Int32))), .unset, .unset, .unset, .unset, .unset, .unset, .unset, .unset]) rfl hr) ?_
    show Rch p.tables e below _ (s₁.setTop (mkF m 20 #[.val (.int p0), .val (.int p1), .val (.int p2), .val (.int p3), .val (.int p4), .val (.int p5), .val (.int (2 : Int32)), .val (.int sc), .val (.int (((p0.toUInt32 >>> ((10 : Int32) &&& 31).toUInt32).toInt32) &&& (3 : Int32))), .unset, .unset, .unset, .unset, .unset, .unset, .unset, .unset] []))
    obtain ⟨cnt, hcnt⟩ : ∃ z, z = (((p0.toUInt32 >>> ((10 : Int32) &&& 31).toUInt32).toInt32) &&& (3 : Int32)) ∧ (own_S z) := ⟨_, rfl, own_and3S _⟩
    rw [← hcnt.1]
    show Rch p.tables e below _ (s₁.setTop (mkF m 20 #[.val (.int p0), .val (.int p1), .val (.int p2), .val (.int p3), .val (.int p4), .val (.int p5), .val (.int (2 : Int32)), .val (.int sc), .val (.int cnt), .unset, .unset, .unset, .unset, .unset, .unset, .unset, .unset] []))
    obtain ⟨T181, h181, X181, e181, E181, A181, D181, -, st181⟩ := newO X0 hx hZ hown (own_w hw 0 rfl) (own_w hw 1 rfl) (own_w hw 2 rfl) e0 (g := (mkF m 20 #[.val (.int p0), .val (.int p1), .val (.int p2), .val (.int p3), .val (.int p4), .val (.int p5), .val (.int (2 : Int32)), .val (.int sc), .val (.int cnt), .unset, .unset, .unset, .unset, .unset, .unset, .unset, .unset] [])) rfl (hb hby at_20) (by decide) (by decide)
    obtain ⟨b181, g181⟩ : ∃ z, z = h0.size := ⟨_, rfl⟩
    rw [← g181] at A181 D181 st181
    refine Rch.st st181 ?_
    have q181 : h0.size ≤ b181 := Nat.le_of_eq g181.symm
    have g_b181 : n0 ≤ b181 := Nat.le_trans (Nat.le_trans (Nat.le_of_eq zP0.1.symm) zP0.2.1) q181
    have sz_b181 : h0.size ≤ b181 := Nat.le_trans (Keep.refl h0 []).1 q181
    have K182 := (Keep.refl h0 []).ext E181
    have F181_modCount : Fld Z h181 b181 "java/util/AbstractList" "modCount" "I" (.int (0 : Int32)) := D181 (Or.inl (own_w hw 22 rfl)) (ty := .int) (by decide)
    have F181_elementData : Fld Z h181 b181 "java/util/ArrayList" "elementData" "[Ljava/lang/Object;" .null := D181 (Or.inl (own_w hw 25 rfl)) (ty := (.array (.object "java/lang/Object"))) (by decide)
    have F181_size : Fld Z h181 b181 "java/util/ArrayList" "size" "I" (.int (0 : Int32)) := D181 (Or.inl (own_w hw 53 rfl)) (ty := .int) (by decide)
    refine Rch.st (fun _ hr => XS.dup X181.here hx rfl (hb hby at_23) rfl rfl hr) ?_
    have f184 := (zP0.ext E181)
    show Rch p.tables e below _ (T181.setTop (mkF m 24 #[.val (.int p0), .val (.int p1), .val (.int p2), .val (.int p3), .val (.int p4), .val (.int p5), .val (.int (2 : Int32)), .val (.int sc), .val (.int cnt), .unset, .unset, .unset, .unset, .unset, .unset, .unset, .unset] [(.ref b181), (.ref b181)]))
    refine own_kI X181 hx hZ (y := Y_30) rfl hown (own_w hw 3 rfl) (own_w hw 4 rfl) (own_w hw 2 rfl) (own_w hw 5 rfl) (by decide) (W := 1) (calinit l Z a0 hw [] b181 de h181 n0 zD2 f184 A181 F181_elementData F181_size F181_modCount g_b181) (by decide) (by decide) e181 (by decide) (by decide)  (by rw [hml]; rfl) (a := b181) (argsL := []) (rest := [(.ref b181)]) (lenOf pd_0 rfl) rfl rfl (hb hby at_24) rfl (fun _ T183 Lc183 X183 hQ183 => ?_)
    obtain ⟨rfl, N183q, Kp183, Op183, R183_0, R183_1, R183_2, R183_3⟩ := hQ183
    have N183 := Fr.app N0 N183q
    have K185 := K182.trans Kp183 (allS (Or.inr sz_b181) all0)
    refine Rch.st (fun _ hr => XS.astore X183.here hx rfl (hb hby at_27) rfl rfl (l' := #[.val (.int p0), .val (.int p1), .val (.int p2), .val (.int p3), .val (.int p4), .val (.int p5), .val (.int (2 : Int32)), .val (.int sc), .val (.int cnt), .val (.ref b181), .unset, .unset, .unset, .unset, .unset, .unset, .unset]) rfl hr) ?_
    refine Rch.st (fun _ hr => XS.iloadN X183.here hx rfl (hb hby at_29) rfl hr) ?_
    refine Rch.st (fun _ hr => XS.i2l X183.here hx rfl (hb hby at_30) rfl hr) ?_
    refine Rch.st (fun _ hr => XS.iload X183.here hx rfl (hb hby at_31) rfl hr) ?_
    show Rch p.tables e below _ (T183.setTop (mkF m 33 #[.val (.int p0), .val (.int p1), .val (.int p2), .val (.int p3), .val (.int p4), .val (.int p5), .val (.int (2 : Int32)), .val (.int sc), .val (.int cnt), .val (.ref b181), .unset, .unset, .unset, .unset, .unset, .unset, .unset] [(.int sc), (.long (p1.toInt64))]))
    refine own_kS X183 hx hZ (y := Y_5) hown (own_w hw 26 rfl) (own_w hw 27 rfl) (own_w hw 28 rfl) (own_w hw 29 rfl) (by decide) (W := 0) (cvalueOfS l Z a0 hw [] (p1.toInt64) sc wz wy T183.heap n0 zD0 zD1 zD6 zD7 Op183 (Bk.ne (Bk.i2l p1) (by decide)) hsc.2.nn hsc.2.lt) (by decide) (by decide) rfl (by decide) (by decide)  (by rw [hml]; rfl) (argsL := [(.long (p1.toInt64)), (.int sc)]) (rest := []) (lenOf pd_5 rfl) rfl rfl (hb hby at_33) rfl (fun _ T186 Lc186 X186 hQ186 => ?_)
    obtain ⟨r_186, rfl, N186q, Kp186, Op186, R186_0⟩ := hQ186
    have N186 := Fr.app N183 N186q
    have K187 := K185.trans Kp186 all0
    have BE186 : BE Z T186.heap r_186 (p1.toInt64) sc (1 : Int) := ⟨R186_0.1, sc, R186_0, Or.inl rfl, ((Bk.i2l p1)).mono (by decide)⟩
    refine Rch.st (fun _ hr => XS.astore X186.here hx rfl (hb hby at_36) rfl rfl (l' := #[.val (.int p0), .val (.int p1), .val (.int p2), .val (.int p3), .val (.int p4), .val (.int p5), .val (.int (2 : Int32)), .val (.int sc), .val (.int cnt), .val (.ref b181), .val (.ref r_186), .unset, .unset, .unset, .unset, .unset, .unset]) rfl hr) ?_
    refine Rch.st (fun _ hr => XS.iload X186.here hx rfl (hb hby at_38) rfl hr) ?_
    refine Rch.st (fun _ hr => XS.iconst X186.here hx rfl (hb hby at_40) hr) ?_
    refine Rch.st (fun _ hr => XS.icmpNo X186.here hx rfl (hb hby at_41) rfl (flt (by decide : ¬ ((2 : Int32) < (1 : Int32)))).1 hr) ?_
    refine Rch.st (fun _ hr => XS.aload X186.here hx rfl (hb hby at_44) rfl rfl hr) ?_
    obtain ⟨T188, h188, X188, e188, E188, A188, D188, -, st188⟩ := newO X186 hx hZ hown (own_w hw 110 rfl) (own_w hw 111 rfl) (own_w hw 112 rfl) rfl (g := (mkF m 46 #[.val (.int p0), .val (.int p1), .val (.int p2), .val (.int p3), .val (.int p4), .val (.int p5), .val (.int (2 : Int32)), .val (.int sc), .val (.int cnt), .val (.ref b181), .val (.ref r_186), .unset, .unset, .unset, .unset, .unset, .unset] [(.ref b181)])) rfl (hb hby at_46) (by decide) (by decide)
    obtain ⟨b188, g188⟩ : ∃ z, z = T186.heap.size := ⟨_, rfl⟩
    rw [← g188] at A188 D188 st188
    refine Rch.st st188 ?_
    have q188 : T186.heap.size ≤ b188 := Nat.le_of_eq g188.symm
    have f189 := (R183_3.keep Kp186 nin0)
    have ne190 := Nat.ne_of_lt (Nat.lt_of_lt_of_le f189.lt q188)
    have ne191 := Nat.ne_of_lt (Nat.lt_of_lt_of_le BE186.lt q188)
    have g_b188 : n0 ≤ b188 := Nat.le_trans (Nat.le_trans (Nat.le_of_eq Op186.1.symm) Op186.2.1) q188
    have sz_b188 : h0.size ≤ b188 := Nat.le_trans K187.1 q188
    have K192 := K187.ext E188
    have F188_id : Fld Z h188 b188 "com/example/slotwright/slotwright/Market$Advertiser" "id" "Ljava/lang/String;" .null := D188 (Or.inr (own_w hw 131 rfl)) (ty := (.object "java/lang/String")) (by decide)
    have F188_budget : Fld Z h188 b188 "com/example/slotwright/slotwright/Market$Advertiser" "budget" "Ljava/math/BigDecimal;" .null := D188 (Or.inr (own_w hw 133 rfl)) (ty := (.object "java/math/BigDecimal")) (by decide)
    refine Rch.st (fun _ hr => XS.dup X188.here hx rfl (hb hby at_49) rfl rfl hr) ?_
    have hS0 : s.Since s.vm h188.size := (State.WarmedH.refl s).since _
    obtain ⟨b193, T193, h193, kk193, X193, e193, E193, hS193, hk193, hZ193, hown193, st193⟩ := ldcS (s := s) (vm0 := s.vm) X188 hx hZ hown (own_w hw 113 rfl) hwS e188 hS0 (Nat.le_refl _) (g := (mkF m 50 #[.val (.int p0), .val (.int p1), .val (.int p2), .val (.int p3), .val (.int p4), .val (.int p5), .val (.int (2 : Int32)), .val (.int sc), .val (.int cnt), .val (.ref b181), .val (.ref r_186), .unset, .unset, .unset, .unset, .unset, .unset] [(.ref b188), (.ref b188), (.ref b181)])) rfl (hb hby at_50) (n := 4) (by decide) (by decide) (by decide) (by decide)
    refine Rch.st st193 ?_
    have f194 := (Op186.ext E188)
    have K195 := K192.ext E193
    show Rch p.tables e below _ (T193.setTop (mkF m 52 #[.val (.int p0), .val (.int p1), .val (.int p2), .val (.int p3), .val (.int p4), .val (.int p5), .val (.int (2 : Int32)), .val (.int sc), .val (.int cnt), .val (.ref b181), .val (.ref r_186), .unset, .unset, .unset, .unset, .unset, .unset] [(.ref b193), (.ref b188), (.ref b188), (.ref b181)]))
    refine Rch.st (fun _ hr => XS.aload X193.here hx rfl (hb hby at_52) rfl rfl hr) ?_
    have f197 := (f194.ext E193)
    have f198 := (A188.ext E193)
    have f199 := (F188_id.ext E193)
    have f200 := (F188_budget.ext E193)
    show Rch p.tables e below _ (T193.setTop (mkF m 54 #[.val (.int p0), .val (.int p1), .val (.int p2), .val (.int p3), .val (.int p4), .val (.int p5), .val (.int (2 : Int32)), .val (.int sc), .val (.int cnt), .val (.ref b181), .val (.ref r_186), .unset, .unset, .unset, .unset, .unset, .unset] [(.ref r_186), (.ref b193), (.ref b188), (.ref b188), (.ref b181)]))
    refine own_kI X193 hx hZ193 (y := Y_34) rfl hown193 (own_w hw 121 rfl) (own_w hw 122 rfl) (own_w hw 112 rfl) (own_w hw 123 rfl) (by decide) (W := 2) (cadv l Z a0 hw [] b188 b193 r_186 h193 n0 f197 f198 f199 f200 g_b188) (by decide) (by decide) e193 (by decide) (by decide)  (by rw [hml]; rfl) (a := b188) (argsL := [(.ref b193), (.ref r_186)]) (rest := [(.ref b188), (.ref b181)]) (lenOf pd_23 rfl) rfl rfl (hb hby at_54) rfl (fun _ T196 Lc196 X196 hQ196 => ?_)
    obtain ⟨rfl, N196q, Kp196, Op196, R196_0, R196_1⟩ := hQ196
    have N196 := Fr.app N186 N196q
    have K201 := K195.trans Kp196 (allS (Or.inr sz_b188) all0)
    have f203 := ((((R183_0.keep Kp186).ext E188).ext E193).keep Kp196)
    have f204 := ((((R183_1.keep Kp186 nin0).ext E188).ext E193).keep Kp196 (ninS ne190 nin0))
    have f205 := ((((R183_2.keep Kp186 nin0).ext E188).ext E193).keep Kp196 (ninS ne190 nin0))
    have f206 := (((f189.ext E188).ext E193).keep Kp196 (ninS ne190 nin0))
    show Rch p.tables e below _ (T196.setTop (mkF m 57 #[.val (.int p0), .val (.int p1), .val (.int p2), .val (.int p3), .val (.int p4), .val (.int p5), .val (.int (2 : Int32)), .val (.int sc), .val (.int cnt), .val (.ref b181), .val (.ref r_186), .unset, .unset, .unset, .unset, .unset, .unset] [(.ref b188), (.ref b181)]))
    refine own_kF X196 hx hZ193 (xi := Y_35) (y := Y_36) hown193 (own_w hw 134 rfl) (own_w hw 135 rfl) (mvT hZ193 (own_w hw 136 rfl)) (own_w hw 137 rfl) (own_w hw 138 rfl) (own_w hw 139 rfl) (own_w hw 140 rfl) (own_w hw 50 rfl) (own_w hw 2 rfl) (own_w hw 141 rfl) (by decide) (W := 0) (cadd0 l Z a0 hw [] b181 de kde (0 : Int32) b188 T196.heap n0 zD2 zD3 Op196 f203 f204 f205 f206 R196_0 g_b181 ne190) (by decide) (by decide) rfl f203 (by decide) (by decide)  (by rw [hml]; rfl) (argsL := [(.ref b188)]) (rest := []) (lenOf pd_24 rfl) rfl rfl (hb hby at_57) rfl (fun _ T202 Lc202 X202 hQ202 => ?_)
    obtain ⟨d_202, kd_202, rfl, N202q, Kp202, Op202, R202_0, R202_1, R202_2, R202_3, R202_4, R202_5, R202_6⟩ := hQ202
    have N202 := Fr.app N196 N202q
    have ne207 := Nat.ne_of_lt (Nat.lt_of_lt_of_le f206.lt R202_4)
    have f208 := (((BE186.ext E188).ext E193).keep Kp196 (ninS ne191 nin0))
    have ne209 := Nat.ne_of_lt (Nat.lt_of_lt_of_le f208.lt R202_4)
    have ne210 := Nat.ne_of_lt (Nat.lt_of_lt_of_le R196_1.lt R202_4)
    have g_d_202 : n0 ≤ d_202 := Nat.le_trans (Nat.le_trans (Nat.le_of_eq Op196.1.symm) Op196.2.1) R202_4
    have sz_d_202 : h0.size ≤ d_202 := Nat.le_trans K201.1 R202_4
    have ne211 := (Exa.ne f208.1 f203 (by decide))
    have K212 := K201.trans Kp202 (allS (Or.inr sz_b181) all0)
    refine Rch.st (fun _ hr => XS.pop X202.here hx rfl (hb hby at_62) rfl rfl hr) ?_
    refine Rch.st (fun _ hr => XS.iload X202.here hx rfl (hb hby at_63) rfl hr) ?_
    refine Rch.st (fun _ hr => XS.iconst X202.here hx rfl (hb hby at_65) hr) ?_
    refine Rch.st (fun _ hr => XS.icmpNo X202.here hx rfl (hb hby at_66) rfl (flt (by decide : ¬ ((2 : Int32) < (2 : Int32)))).1 hr) ?_
    refine Rch.st (fun _ hr => XS.aload X202.here hx rfl (hb hby at_69) rfl rfl hr) ?_
    obtain ⟨T213, h213, X213, e213, E213, A213, D213, -, st213⟩ := newO X202 hx hZ193 hown193 (own_w hw 110 rfl) (own_w hw 111 rfl) (own_w hw 112 rfl) rfl (g := (mkF m 71 #[.val (.int p0), .val (.int p1), .val (.int p2), .val (.int p3), .val (.int p4), .val (.int p5), .val (.int (2 : Int32)), .val (.int sc), .val (.int cnt), .val (.ref b181), .val (.ref r_186), .unset, .unset, .unset, .unset, .unset, .unset] [(.ref b181)])) rfl (hb hby at_71) (by decide) (by decide)
    obtain ⟨b213, g213⟩ : ∃ z, z = T202.heap.size := ⟨_, rfl⟩
    rw [← g213] at A213 D213 st213
    refine Rch.st st213 ?_
    have q213 : T202.heap.size ≤ b213 := Nat.le_of_eq g213.symm
    have ne214 := Nat.ne_of_lt (Nat.lt_of_lt_of_le R202_3.lt q213)
    have f215 := (f208.1.keep Kp202)
    have ne216 := Nat.ne_of_lt (Nat.lt_of_lt_of_le f215.lt q213)
    have f217 := (R196_1.keep Kp202 (ninS (Ne.symm ne190) nin0))
    have ne218 := Nat.ne_of_lt (Nat.lt_of_lt_of_le f217.lt q213)
    have ne219 := Nat.ne_of_lt (Nat.lt_of_lt_of_le R202_5.lt q213)
    have g_b213 : n0 ≤ b213 := Nat.le_trans (Nat.le_trans (Nat.le_of_eq Op202.1.symm) Op202.2.1) q213
    have sz_b213 : h0.size ≤ b213 := Nat.le_trans K212.1 q213
    have K220 := K212.ext E213
    have F213_id : Fld Z h213 b213 "com/example/slotwright/slotwright/Market$Advertiser" "id" "Ljava/lang/String;" .null := D213 (Or.inr (own_w hw 131 rfl)) (ty := (.object "java/lang/String")) (by decide)
    have F213_budget : Fld Z h213 b213 "com/example/slotwright/slotwright/Market$Advertiser" "budget" "Ljava/math/BigDecimal;" .null := D213 (Or.inr (own_w hw 133 rfl)) (ty := (.object "java/math/BigDecimal")) (by decide)
    refine Rch.st (fun _ hr => XS.dup X213.here hx rfl (hb hby at_74) rfl rfl hr) ?_
    obtain ⟨b221, T221, h221, kk221, X221, e221, E221, hS221, hk221, hZ221, hown221, st221⟩ := ldcS (s := s) (vm0 := T193.vm) X213 hx hZ193 hown193 (own_w hw 209 rfl) hwS e213 hS193 (Nat.le_trans (Nat.le_trans (Nat.le_trans hk193 Kp196.1) Kp202.1) E213.1) (g := (mkF m 75 #[.val (.int p0), .val (.int p1), .val (.int p2), .val (.int p3), .val (.int p4), .val (.int p5), .val (.int (2 : Int32)), .val (.int sc), .val (.int cnt), .val (.ref b181), .val (.ref r_186), .unset, .unset, .unset, .unset, .unset, .unset] [(.ref b213), (.ref b213), (.ref b181)])) rfl (hb hby at_75) (n := 4) (by decide) (by decide) (by decide) (by decide)
    refine Rch.st st221 ?_
    have f222 := (Op202.ext E213)
    have K223 := K220.ext E221
    refine Rch.st (fun _ hr => XS.iload X221.here hx rfl (hb hby at_77) rfl hr) ?_
    refine Rch.st (fun _ hr => XS.i2l X221.here hx rfl (hb hby at_79) rfl hr) ?_
    refine Rch.st (fun _ hr => XS.iload X221.here hx rfl (hb hby at_80) rfl hr) ?_
    have f225 := (f222.ext E221)
    show Rch p.tables e below _ (T221.setTop (mkF m 82 #[.val (.int p0), .val (.int p1), .val (.int p2), .val (.int p3), .val (.int p4), .val (.int p5), .val (.int (2 : Int32)), .val (.int sc), .val (.int cnt), .val (.ref b181), .val (.ref r_186), .unset, .unset, .unset, .unset, .unset, .unset] [(.int sc), (.long (p5.toInt64)), (.ref b221), (.ref b213), (.ref b213), (.ref b181)]))
    refine own_kS X221 hx hZ221 (y := Y_5) hown221 (own_w hw 26 rfl) (own_w hw 27 rfl) (own_w hw 28 rfl) (own_w hw 29 rfl) (by decide) (W := 4) (cvalueOfS l Z a0 hw [] (p5.toInt64) sc wz wy h221 n0 zD0 zD1 zD6 zD7 f225 (Bk.ne (Bk.i2l p5) (by decide)) hsc.2.nn hsc.2.lt) (by decide) (by decide) e221 (by decide) (by decide)  (by rw [hml]; rfl) (argsL := [(.long (p5.toInt64)), (.int sc)]) (rest := [(.ref b221), (.ref b213), (.ref b213), (.ref b181)]) (lenOf pd_5 rfl) rfl rfl (hb hby at_82) rfl (fun _ T224 Lc224 X224 hQ224 => ?_)
    obtain ⟨r_224, rfl, N224q, Kp224, Op224, R224_0⟩ := hQ224
    have N224 := Fr.app N202 N224q
    have K226 := K223.trans Kp224 all0
    have BE224 : BE Z T224.heap r_224 (p5.toInt64) sc (1 : Int) := ⟨R224_0.1, sc, R224_0, Or.inl rfl, ((Bk.i2l p5)).mono (by decide)⟩
    have f228 := ((A213.ext E221).keep Kp224)
    have f229 := ((F213_id.ext E221).keep Kp224 nin0)
    have f230 := ((F213_budget.ext E221).keep Kp224 nin0)
    show Rch p.tables e below _ (T224.setTop (mkF m 85 #[.val (.int p0), .val (.int p1), .val (.int p2), .val (.int p3), .val (.int p4), .val (.int p5), .val (.int (2 : Int32)), .val (.int sc), .val (.int cnt), .val (.ref b181), .val (.ref r_186), .unset, .unset, .unset, .unset, .unset, .unset] [(.ref r_224), (.ref b221), (.ref b213), (.ref b213), (.ref b181)]))
    refine own_kI X224 hx hZ221 (y := Y_34) rfl hown221 (own_w hw 121 rfl) (own_w hw 122 rfl) (own_w hw 112 rfl) (own_w hw 123 rfl) (by decide) (W := 2) (cadv l Z a0 hw [] b213 b221 r_224 T224.heap n0 Op224 f228 f229 f230 g_b213) (by decide) (by decide) rfl (by decide) (by decide)  (by rw [hml]; rfl) (a := b213) (argsL := [(.ref b221), (.ref r_224)]) (rest := [(.ref b213), (.ref b181)]) (lenOf pd_23 rfl) rfl rfl (hb hby at_85) rfl (fun _ T227 Lc227 X227 hQ227 => ?_)
    obtain ⟨rfl, N227q, Kp227, Op227, R227_0, R227_1⟩ := hQ227
    have N227 := Fr.app N224 N227q
    have ne231 := (Exa.ne BE224.1 f228 (by decide))
    have K232 := K226.trans Kp227 (allS (Or.inr sz_b213) all0)
    show Rch p.tables e below _ (T227.setTop (mkF m 88 #[.val (.int p0), .val (.int p1), .val (.int p2), .val (.int p3), .val (.int p4), .val (.int p5), .val (.int (2 : Int32)), .val (.int sc), .val (.int cnt), .val (.ref b181), .val (.ref r_186), .unset, .unset, .unset, .unset, .unset, .unset] [(.ref b213), (.ref b181)]))
    have f234 := ((((R202_0.ext E213).ext E221).keep Kp224).keep Kp227)
    have f235 := ((((R202_1.ext E213).ext E221).keep Kp224 nin0).keep Kp227 (ninS ne214 nin0))
    have f236 := ((((R202_2.ext E213).ext E221).keep Kp224 nin0).keep Kp227 (ninS ne214 nin0))
    have f237 := ((((R202_3.ext E213).ext E221).keep Kp224 nin0).keep Kp227 (ninS ne214 nin0))
    have f238 := ((((R202_5.ext E213).ext E221).keep Kp224 nin0).keep Kp227 (ninS ne219 nin0))
    have f239 := R202_6
    show Rch p.tables e below _ (T227.setTop (mkF m 88 #[.val (.int p0), .val (.int p1), .val (.int p2), .val (.int p3), .val (.int p4), .val (.int p5), .val (.int (2 : Int32)), .val (.int sc), .val (.int cnt), .val (.ref b181), .val (.ref r_186), .unset, .unset, .unset, .unset, .unset, .unset] [(.ref b213), (.ref b181)]))
    refine own_kF X227 hx hZ221 (xi := Y_35) (y := Y_36) hown221 (own_w hw 134 rfl) (own_w hw 135 rfl) (mvT hZ221 (own_w hw 136 rfl)) (own_w hw 137 rfl) (own_w hw 138 rfl) (own_w hw 139 rfl) (own_w hw 140 rfl) (own_w hw 50 rfl) (own_w hw 2 rfl) (own_w hw 141 rfl) (by decide) (W := 0) (cadd1 l Z a0 hw [] b181 d_202 kd_202 ((0 : Int32) + (1 : Int32)) b188 b213 T227.heap n0 Op227 f234 f235 f236 f237 R227_0 f238 f239 g_b181 g_d_202 ne207) (by decide) (by decide) rfl f234 (by decide) (by decide)  (by rw [hml]; rfl) (argsL := [(.ref b213)]) (rest := []) (lenOf pd_24 rfl) rfl rfl (hb hby at_88) rfl (fun _ T233 Lc233 X233 hQ233 => ?_)
    obtain ⟨rfl, N233q, Kp233, Op233, R233_0, R233_1, R233_2, R233_3, R233_4⟩ := hQ233
    have N233 := Fr.app N227 N233q
    have f240 := (BE224.1.keep Kp227)
    have ne241 := (Exa.ne f240 f234 (by decide))
    have ne242 := (Exa.neArv f240 f238 (own_w hw 81 rfl))
    have K243 := K232.trans Kp233 (allS (Or.inr sz_b181) (allS (Or.inr sz_d_202) all0))
    refine Rch.st (fun _ hr => XS.pop X233.here hx rfl (hb hby at_93) rfl rfl hr) ?_
    refine Rch.st (fun _ hr => XS.iload X233.here hx rfl (hb hby at_94) rfl hr) ?_
    refine Rch.st (fun _ hr => XS.iconst X233.here hx rfl (hb hby at_96) hr) ?_
    refine Rch.st (fun _ hr => XS.icmpYes X233.here hx rfl (pc0 := 97) (pc' := 119) rfl (hb hby at_97) rfl (tlt (by decide : (2 : Int32) < (3 : Int32))).1 (by decide) (by decide) hr) ?_
    obtain ⟨T244, h244, X244, e244, E244, A244, D244, -, st244⟩ := newO X233 hx hZ221 hown221 (own_w hw 34 rfl) (own_w hw 35 rfl) (own_w hw 36 rfl) rfl (g := (mkF m 119 #[.val (.int p0), .val (.int p1), .val (.int p2), .val (.int p3), .val (.int p4), .val (.int p5), .val (.int (2 : Int32)), .val (.int sc), .val (.int cnt), .val (.ref b181), .val (.ref r_186), .unset, .unset, .unset, .unset, .unset, .unset] [])) rfl (hb hby at_119) (by decide) (by decide)
    obtain ⟨b244, g244⟩ : ∃ z, z = T233.heap.size := ⟨_, rfl⟩
    rw [← g244] at A244 D244 st244
    refine Rch.st st244 ?_
    have q244 : T233.heap.size ≤ b244 := Nat.le_of_eq g244.symm
    have ne245 := Nat.ne_of_lt (Nat.lt_of_lt_of_le R233_3.lt q244)
    have f246 := (((((f215.ext E213).ext E221).keep Kp224).keep Kp227).keep Kp233)
    have ne247 := Nat.ne_of_lt (Nat.lt_of_lt_of_le f246.lt q244)
    have f248 := (((((f217.ext E213).ext E221).keep Kp224 nin0).keep Kp227 (ninS ne218 nin0)).keep Kp233 (ninS (Ne.symm ne190) (ninS ne210 nin0)))
    have ne249 := Nat.ne_of_lt (Nat.lt_of_lt_of_le f248.lt q244)
    have f250 := (R227_1.keep Kp233 (ninS (Ne.symm ne214) (ninS (Ne.symm ne219) nin0)))
    have ne251 := Nat.ne_of_lt (Nat.lt_of_lt_of_le f250.lt q244)
    have f252 := (f240.keep Kp233)
    have ne253 := Nat.ne_of_lt (Nat.lt_of_lt_of_le f252.lt q244)
    have ne254 := Nat.ne_of_lt (Nat.lt_of_lt_of_le R233_4.lt q244)
    have g_b244 : n0 ≤ b244 := Nat.le_trans (Nat.le_trans (Nat.le_of_eq Op233.1.symm) Op233.2.1) q244
    have sz_b244 : h0.size ≤ b244 := Nat.le_trans K243.1 q244
    have K255 := K243.ext E244
    have F244_advertisers : Fld Z h244 b244 "com/example/slotwright/slotwright/Ledger" "advertisers" "Ljava/util/List;" .null := D244 (Or.inr (own_w hw 42 rfl)) (ty := (.object "java/util/List")) (by decide)
    have F244_spent : Fld Z h244 b244 "com/example/slotwright/slotwright/Ledger" "spent" "[Ljava/math/BigDecimal;" .null := D244 (Or.inr (own_w hw 57 rfl)) (ty := (.array (.object "java/math/BigDecimal"))) (by decide)
    have F244_remaining : Fld Z h244 b244 "com/example/slotwright/slotwright/Ledger" "remaining" "[Ljava/math/BigDecimal;" .null := D244 (Or.inr (own_w hw 59 rfl)) (ty := (.array (.object "java/math/BigDecimal"))) (by decide)
    refine Rch.st (fun _ hr => XS.dup X244.here hx rfl (hb hby at_122) rfl rfl hr) ?_
    refine Rch.st (fun _ hr => XS.aload X244.here hx rfl (hb hby at_123) rfl rfl hr) ?_
    have f257 := (Op233.ext E244)
    have f258 := (R233_0.ext E244)
    have f259 := (R233_2.ext E244)
    have f260 := (R233_1.ext E244)
    have f261 := (R233_4.ext E244)
    have f262 := (((((((R196_0.keep Kp202).ext E213).ext E221).keep Kp224).keep Kp227).keep Kp233).ext E244)
    have f263 := (f248.ext E244)
    have f264 := (f246.ext E244)
    have f265 := ((R227_0.keep Kp233).ext E244)
    have f266 := (f250.ext E244)
    have f267 := (f252.ext E244)
    show Rch p.tables e below _ (T244.setTop (mkF m 125 #[.val (.int p0), .val (.int p1), .val (.int p2), .val (.int p3), .val (.int p4), .val (.int p5), .val (.int (2 : Int32)), .val (.int sc), .val (.int cnt), .val (.ref b181), .val (.ref r_186), .unset, .unset, .unset, .unset, .unset, .unset] [(.ref b181), (.ref b244), (.ref b244)]))
    refine own_kI X244 hx hZ221 (y := Y_31) rfl hown221 (own_w hw 37 rfl) (own_w hw 38 rfl) (own_w hw 36 rfl) (own_w hw 39 rfl) (by decide) (W := 1) (cledger2 l Z a0 hw [] b244 b181 d_202 kd_202 b188 b213 r_186 r_224 zz h244 n0 zD4 zD5 f257 A244 F244_advertisers F244_spent F244_remaining g_b244 f258 f259 f260 f261 f262 f263 f264 f265 f266 f267) (by decide) (by decide) e244 (by decide) (by decide)  (by rw [hml]; rfl) (a := b244) (argsL := [(.ref b181)]) (rest := [(.ref b244)]) (lenOf pd_21 rfl) rfl rfl (hb hby at_125) rfl (fun _ T256 Lc256 X256 hQ256 => ?_)
    obtain ⟨sp_256, ks_256, rm_256, kr_256, rfl, N256q, Kp256, Op256, R256_0, R256_1, R256_2, R256_3, R256_4, R256_5, R256_6, R256_7, R256_8, R256_9⟩ := hQ256
    have N256 := Fr.app N233 N256q
    have f268 := (R233_3.ext E244)
    have ne269 := Nat.ne_of_lt (Nat.lt_of_lt_of_le f268.lt R256_3)
    have ne270 := Nat.ne_of_lt (Nat.lt_of_lt_of_le f264.lt R256_3)
    have ne271 := Nat.ne_of_lt (Nat.lt_of_lt_of_le f263.lt R256_3)
    have ne272 := Nat.ne_of_lt (Nat.lt_of_lt_of_le f266.lt R256_3)
    have ne273 := Nat.ne_of_lt (Nat.lt_of_lt_of_le f267.lt R256_3)
    have ne274 := Nat.ne_of_lt (Nat.lt_of_lt_of_le f261.lt R256_3)
    have ne275 := Nat.ne_of_lt (Nat.lt_of_lt_of_le F244_remaining.lt R256_3)
    have g_sp_256 : n0 ≤ sp_256 := Nat.le_trans (Nat.le_trans (Nat.le_of_eq f257.1.symm) f257.2.1) R256_3
    have sz_sp_256 : h0.size ≤ sp_256 := Nat.le_trans K255.1 R256_3
    have ne276 := Nat.ne_of_lt (Nat.lt_of_lt_of_le f268.lt R256_4)
    have ne277 := Nat.ne_of_lt (Nat.lt_of_lt_of_le f264.lt R256_4)
    have ne278 := Nat.ne_of_lt (Nat.lt_of_lt_of_le f263.lt R256_4)
    have ne279 := Nat.ne_of_lt (Nat.lt_of_lt_of_le f266.lt R256_4)
    have ne280 := Nat.ne_of_lt (Nat.lt_of_lt_of_le f267.lt R256_4)
    have ne281 := Nat.ne_of_lt (Nat.lt_of_lt_of_le f261.lt R256_4)
    have ne282 := Nat.ne_of_lt (Nat.lt_of_lt_of_le F244_remaining.lt R256_4)
    have g_rm_256 : n0 ≤ rm_256 := Nat.le_trans (Nat.le_trans (Nat.le_of_eq f257.1.symm) f257.2.1) R256_4
    have sz_rm_256 : h0.size ≤ rm_256 := Nat.le_trans K255.1 R256_4
    have K283 := K255.trans Kp256 (allS (Or.inr sz_b244) all0)
    have BEz256 : BE Z T256.heap zz (0 : Int64) sc (1 : Int) := BE.zero (zD5.ext Op256.2) (by decide)
    refine Rch.st (fun _ hr => XS.astore X256.here hx rfl (hb hby at_128) rfl rfl (l' := #[.val (.int p0), .val (.int p1), .val (.int p2), .val (.int p3), .val (.int p4), .val (.int p5), .val (.int (2 : Int32)), .val (.int sc), .val (.int cnt), .val (.ref b181), .val (.ref r_186), .val (.ref b244), .unset, .unset, .unset, .unset, .unset]) rfl hr) ?_
    refine Rch.st (fun _ hr => XS.lconst X256.here hx rfl (hb hby at_130) hr) ?_
    refine Rch.st (fun _ hr => XS.lstore X256.here hx rfl (hb hby at_131) rfl (l' := #[.val (.int p0), .val (.int p1), .val (.int p2), .val (.int p3), .val (.int p4), .val (.int p5), .val (.int (2 : Int32)), .val (.int sc), .val (.int cnt), .val (.ref b181), .val (.ref r_186), .val (.ref b244), .val (.long (0 : Int64)), .second, .unset, .unset, .unset]) rfl hr) ?_
    refine Rch.st (fun _ hr => XS.iload X256.here hx rfl (hb hby at_133) rfl hr) ?_
    refine Rch.st (fun _ hr => XS.ifNo X256.here hx rfl (hb hby at_135) rfl ((if0 _ _).trans (tlt (by decide : (0 : Int32) < (2 : Int32))).2.2.2) hr) ?_
    refine Rch.st (fun _ hr => XS.iloadN X256.here hx rfl (hb hby at_138) rfl hr) ?_
    refine Rch.st (fun _ hr => XS.iconst X256.here hx rfl (hb hby at_139) hr) ?_
    show Rch p.tables e below _ (T256.setTop (mkF m 140 #[.val (.int p0), .val (.int p1), .val (.int p2), .val (.int p3), .val (.int p4), .val (.int p5), .val (.int (2 : Int32)), .val (.int sc), .val (.int cnt), .val (.ref b181), .val (.ref r_186), .val (.ref b244), .val (.long (0 : Int64)), .second, .unset, .unset, .unset] [(.int (4 : Int32)), (.int p0)]))
    refine Rch.st (fun _ hr => XS.iushr X256.here hx rfl (hb hby at_140) rfl hr) ?_
    refine Rch.st (fun _ hr => XS.iconst X256.here hx rfl (hb hby at_141) hr) ?_
    refine Rch.st (fun _ hr => XS.iand X256.here hx rfl (hb hby at_142) rfl hr) ?_
    refine Rch.st (fun _ hr => XS.iload X256.here hx rfl (hb hby at_143) rfl hr) ?_
    refine Rch.st (fun _ hr => Jvm.RoadKit.iremM (g := (mkF m 145 #[.val (.int p0), .val (.int p1), .val (.int p2), .val (.int p3), .val (.int p4), .val (.int p5), .val (.int (2 : Int32)), .val (.int sc), .val (.int cnt), .val (.ref b181), .val (.ref r_186), .val (.ref b244), .val (.long (0 : Int64)), .second, .unset, .unset, .unset] [(.int (2 : Int32)), (.int (((p0.toUInt32 >>> ((4 : Int32) &&& 31).toUInt32).toInt32) &&& (3 : Int32)))])) X256 hx rfl (hb hby at_145) rfl (by decide) hr) ?_
    refine Rch.st (fun _ hr => XS.istore X256.here hx rfl (hb hby at_146) rfl (l' := #[.val (.int p0), .val (.int p1), .val (.int p2), .val (.int p3), .val (.int p4), .val (.int p5), .val (.int (2 : Int32)), .val (.int sc), .val (.int cnt), .val (.ref b181), .val (.ref r_186), .val (.ref b244), .val (.long (0 : Int64)), .second, .val (.int ((((p0.toUInt32 >>> ((4 : Int32) &&& 31).toUInt32).toInt32) &&& (3 : Int32)) % (2 : Int32))), .unset, .unset]) rfl hr) ?_
    show Rch p.tables e below _ (T256.setTop (mkF m 148 #[.val (.int p0), .val (.int p1), .val (.int p2), .val (.int p3), .val (.int p4), .val (.int p5), .val (.int (2 : Int32)), .val (.int sc), .val (.int cnt), .val (.ref b181), .val (.ref r_186), .val (.ref b244), .val (.long (0 : Int64)), .second, .val (.int ((((p0.toUInt32 >>> ((4 : Int32) &&& 31).toUInt32).toInt32) &&& (3 : Int32)) % (2 : Int32))), .unset, .unset] []))
    obtain ⟨ia, hia⟩ : ∃ z, z = ((((p0.toUInt32 >>> ((4 : Int32) &&& 31).toUInt32).toInt32) &&& (3 : Int32)) % (2 : Int32)) ∧ (z = (0 : Int32) ∨ z = (1 : Int32)) := ⟨_, rfl, own_rem2 _⟩
    rw [← hia.1]
    show Rch p.tables e below _ (T256.setTop (mkF m 148 #[.val (.int p0), .val (.int p1), .val (.int p2), .val (.int p3), .val (.int p4), .val (.int p5), .val (.int (2 : Int32)), .val (.int sc), .val (.int cnt), .val (.ref b181), .val (.ref r_186), .val (.ref b244), .val (.long (0 : Int64)), .second, .val (.int ia), .unset, .unset] []))
    refine Rch.st (fun _ hr => XS.iloadN X256.here hx rfl (hb hby at_148) rfl hr) ?_
    refine Rch.st (fun _ hr => XS.bipush X256.here hx rfl (hb hby at_149) hr) ?_
    refine Rch.st (fun _ hr => XS.iushr X256.here hx rfl (hb hby at_151) rfl hr) ?_
    refine Rch.st (fun _ hr => XS.iconst X256.here hx rfl (hb hby at_152) hr) ?_
    refine Rch.st (fun _ hr => XS.iand X256.here hx rfl (hb hby at_153) rfl hr) ?_
    refine Rch.st (fun _ hr => XS.iload X256.here hx rfl (hb hby at_154) rfl hr) ?_
    refine Rch.st (fun _ hr => Jvm.RoadKit.iremM (g := (mkF m 156 #[.val (.int p0), .val (.int p1), .val (.int p2), .val (.int p3), .val (.int p4), .val (.int p5), .val (.int (2 : Int32)), .val (.int sc), .val (.int cnt), .val (.ref b181), .val (.ref r_186), .val (.ref b244), .val (.long (0 : Int64)), .second, .val (.int ia), .unset, .unset] [(.int (2 : Int32)), (.int (((p0.toUInt32 >>> ((6 : Int32) &&& 31).toUInt32).toInt32) &&& (3 : Int32)))])) X256 hx rfl (hb hby at_156) rfl (by decide) hr) ?_
    refine Rch.st (fun _ hr => XS.istore X256.here hx rfl (hb hby at_157) rfl (l' := #[.val (.int p0), .val (.int p1), .val (.int p2), .val (.int p3), .val (.int p4), .val (.int p5), .val (.int (2 : Int32)), .val (.int sc), .val (.int cnt), .val (.ref b181), .val (.ref r_186), .val (.ref b244), .val (.long (0 : Int64)), .second, .val (.int ia), .val (.int ((((p0.toUInt32 >>> ((6 : Int32) &&& 31).toUInt32).toInt32) &&& (3 : Int32)) % (2 : Int32))), .unset]) rfl hr) ?_
    show Rch p.tables e below _ (T256.setTop (mkF m 159 #[.val (.int p0), .val (.int p1), .val (.int p2), .val (.int p3), .val (.int p4), .val (.int p5), .val (.int (2 : Int32)), .val (.int sc), .val (.int cnt), .val (.ref b181), .val (.ref r_186), .val (.ref b244), .val (.long (0 : Int64)), .second, .val (.int ia), .val (.int ((((p0.toUInt32 >>> ((6 : Int32) &&& 31).toUInt32).toInt32) &&& (3 : Int32)) % (2 : Int32))), .unset] []))
    obtain ⟨ib, hib⟩ : ∃ z, z = ((((p0.toUInt32 >>> ((6 : Int32) &&& 31).toUInt32).toInt32) &&& (3 : Int32)) % (2 : Int32)) ∧ (z = (0 : Int32) ∨ z = (1 : Int32)) := ⟨_, rfl, own_rem2 _⟩
    rw [← hib.1]
    show Rch p.tables e below _ (T256.setTop (mkF m 159 #[.val (.int p0), .val (.int p1), .val (.int p2), .val (.int p3), .val (.int p4), .val (.int p5), .val (.int (2 : Int32)), .val (.int sc), .val (.int cnt), .val (.ref b181), .val (.ref r_186), .val (.ref b244), .val (.long (0 : Int64)), .second, .val (.int ia), .val (.int ib), .unset] []))
    refine Rch.st (fun _ hr => XS.iloadN X256.here hx rfl (hb hby at_159) rfl hr) ?_
    refine Rch.st (fun _ hr => XS.bipush X256.here hx rfl (hb hby at_160) hr) ?_
    refine Rch.st (fun _ hr => XS.iushr X256.here hx rfl (hb hby at_162) rfl hr) ?_
    refine Rch.st (fun _ hr => XS.iconst X256.here hx rfl (hb hby at_163) hr) ?_
    refine Rch.st (fun _ hr => XS.iand X256.here hx rfl (hb hby at_164) rfl hr) ?_
    refine Rch.st (fun _ hr => XS.iload X256.here hx rfl (hb hby at_165) rfl hr) ?_
    refine Rch.st (fun _ hr => Jvm.RoadKit.iremM (g := (mkF m 167 #[.val (.int p0), .val (.int p1), .val (.int p2), .val (.int p3), .val (.int p4), .val (.int p5), .val (.int (2 : Int32)), .val (.int sc), .val (.int cnt), .val (.ref b181), .val (.ref r_186), .val (.ref b244), .val (.long (0 : Int64)), .second, .val (.int ia), .val (.int ib), .unset] [(.int (2 : Int32)), (.int (((p0.toUInt32 >>> ((8 : Int32) &&& 31).toUInt32).toInt32) &&& (3 : Int32)))])) X256 hx rfl (hb hby at_167) rfl (by decide) hr) ?_
    refine Rch.st (fun _ hr => XS.istore X256.here hx rfl (hb hby at_168) rfl (l' := #[.val (.int p0), .val (.int p1), .val (.int p2), .val (.int p3), .val (.int p4), .val (.int p5), .val (.int (2 : Int32)), .val (.int sc), .val (.int cnt), .val (.ref b181), .val (.ref r_186), .val (.ref b244), .val (.long (0 : Int64)), .second, .val (.int ia), .val (.int ib), .val (.int ((((p0.toUInt32 >>> ((8 : Int32) &&& 31).toUInt32).toInt32) &&& (3 : Int32)) % (2 : Int32)))]) rfl hr) ?_
    show Rch p.tables e below _ (T256.setTop (mkF m 170 #[.val (.int p0), .val (.int p1), .val (.int p2), .val (.int p3), .val (.int p4), .val (.int p5), .val (.int (2 : Int32)), .val (.int sc), .val (.int cnt), .val (.ref b181), .val (.ref r_186), .val (.ref b244), .val (.long (0 : Int64)), .second, .val (.int ia), .val (.int ib), .val (.int ((((p0.toUInt32 >>> ((8 : Int32) &&& 31).toUInt32).toInt32) &&& (3 : Int32)) % (2 : Int32)))] []))
    obtain ⟨ic, hic⟩ : ∃ z, z = ((((p0.toUInt32 >>> ((8 : Int32) &&& 31).toUInt32).toInt32) &&& (3 : Int32)) % (2 : Int32)) ∧ (z = (0 : Int32) ∨ z = (1 : Int32)) := ⟨_, rfl, own_rem2 _⟩
    rw [← hic.1]
    show Rch p.tables e below _ (T256.setTop (mkF m 170 #[.val (.int p0), .val (.int p1), .val (.int p2), .val (.int p3), .val (.int p4), .val (.int p5), .val (.int (2 : Int32)), .val (.int sc), .val (.int cnt), .val (.ref b181), .val (.ref r_186), .val (.ref b244), .val (.long (0 : Int64)), .second, .val (.int ia), .val (.int ib), .val (.int ic)] []))
    refine Rch.st (fun _ hr => XS.iload X256.here hx rfl (hb hby at_170) rfl hr) ?_
    refine Rch.st (fun _ hr => XS.iconst X256.here hx rfl (hb hby at_172) hr) ?_
    by_cases hc284 : cnt < (1 : Int32)
    · refine Rch.st (fun _ hr => XS.icmpYes X256.here hx rfl (pc0 := 173) (pc' := 197) rfl (hb hby at_173) rfl (tlt hc284).1 (by decide) (by decide) hr) ?_
      refine Rch.st (fun _ hr => XS.iload X256.here hx rfl (hb hby at_197) rfl hr) ?_
      refine Rch.st (fun _ hr => XS.iconst X256.here hx rfl (hb hby at_199) hr) ?_
      refine Rch.st (fun _ hr => XS.icmpYes X256.here hx rfl (pc0 := 200) (pc' := 224) rfl (hb hby at_200) rfl (tlt (own_lt12 hc284)).1 (by decide) (by decide) hr) ?_
      refine Rch.st (fun _ hr => XS.iload X256.here hx rfl (hb hby at_224) rfl hr) ?_
      refine Rch.st (fun _ hr => XS.iconst X256.here hx rfl (hb hby at_226) hr) ?_
      refine Rch.st (fun _ hr => XS.icmpYes X256.here hx rfl (pc0 := 227) (pc' := 253) rfl (hb hby at_227) rfl (tlt (own_lt23 (own_lt12 hc284))).1 (by decide) (by decide) hr) ?_
      refine Rch.st (fun _ hr => XS.aload X256.here hx rfl (hb hby at_253) rfl rfl hr) ?_
      show Rch p.tables e below _ (T256.setTop (mkF m 255 #[.val (.int p0), .val (.int p1), .val (.int p2), .val (.int p3), .val (.int p4), .val (.int p5), .val (.int (2 : Int32)), .val (.int sc), .val (.int cnt), .val (.ref b181), .val (.ref r_186), .val (.ref b244), .val (.long (0 : Int64)), .second, .val (.int ia), .val (.int ib), .val (.int ic)] [(.ref b244)]))
      refine own_kV X256 hx hZ221 (y := Y_32) (z := Y_32) hown221 (own_w hw 65 rfl) (own_w hw 66 rfl) (notFace_of_selects (args := #[]) (mvT hZ221 (own_w hw 68 rfl))) (own_w hw 68 rfl) (own_w hw 67 rfl) (own_w hw 36 rfl) (own_w hw 69 rfl) (by decide) (W := 0) (crev2 l Z a0 hw [] b244 sp_256 ks_256 zz zz (0 : Int64) (0 : Int64) sc (1 : Int) wz wy zz T256.heap n0 zD0 zD1 zD6 zD7 zD4 zD5 Op256 R256_1 R256_5 BEz256 BEz256 hsc.2 (by decide) (by decide)) (by decide) (by decide) rfl R256_0 (by decide) (by decide)  (by rw [hml]; rfl) (argsL := []) (rest := []) (lenOf pd_19 rfl) rfl rfl (hb hby at_255) rfl (fun _ T285 Lc285 X285 hQ285 => ?_)
      obtain ⟨r_285, rfl, N285q, Kp285, Op285, R285_0⟩ := hQ285
      have N285 := Fr.app N256 N285q
      have K286 := K283.trans Kp285 all0
      refine Rch.st (fun _ hr => XS.lload X285.here hx rfl (hb hby at_258) rfl hr) ?_
      refine Rch.st (fun _ hr => XS.iload X285.here hx rfl (hb hby at_260) rfl hr) ?_
      show Rch p.tables e below _ (T285.setTop (mkF m 262 #[.val (.int p0), .val (.int p1), .val (.int p2), .val (.int p3), .val (.int p4), .val (.int p5), .val (.int (2 : Int32)), .val (.int sc), .val (.int cnt), .val (.ref b181), .val (.ref r_186), .val (.ref b244), .val (.long (0 : Int64)), .second, .val (.int ia), .val (.int ib), .val (.int ic)] [(.int sc), (.long (0 : Int64)), (.ref r_285)]))
      refine own_kS X285 hx hZ221 (y := Y_5) hown221 (own_w hw 26 rfl) (own_w hw 27 rfl) (own_w hw 28 rfl) (own_w hw 29 rfl) (by decide) (W := 1) (cvalueOfS l Z a0 hw [] (0 : Int64) sc wz wy T285.heap n0 zD0 zD1 zD6 zD7 Op285 (Bk.ne Bk.zero (by decide)) hsc.2.nn hsc.2.lt) (by decide) (by decide) rfl (by decide) (by decide)  (by rw [hml]; rfl) (argsL := [(.long (0 : Int64)), (.int sc)]) (rest := [(.ref r_285)]) (lenOf pd_5 rfl) rfl rfl (hb hby at_262) rfl (fun _ T287 Lc287 X287 hQ287 => ?_)
      obtain ⟨r_287, rfl, N287q, Kp287, Op287, R287_0⟩ := hQ287
      have N287 := Fr.app N285 N287q
      have K288 := K286.trans Kp287 all0
      have BE287 : BE Z T287.heap r_287 (0 : Int64) sc (3 : Int) := ⟨R287_0.1, sc, R287_0, Or.inl rfl, (Bk.zero).mono (by decide)⟩
      have f290 := (R285_0.keep Kp287 nin0)
      show Rch p.tables e below _ (T287.setTop (mkF m 265 #[.val (.int p0), .val (.int p1), .val (.int p2), .val (.int p3), .val (.int p4), .val (.int p5), .val (.int (2 : Int32)), .val (.int sc), .val (.int cnt), .val (.ref b181), .val (.ref r_186), .val (.ref b244), .val (.long (0 : Int64)), .second, .val (.int ia), .val (.int ib), .val (.int ic)] [(.ref r_287), (.ref r_285)]))
      refine own_kV X287 hx hZ221 (y := Y_33) (z := Y_33) hown221 (own_w hw 70 rfl) (own_w hw 71 rfl) (notFace_of_selects (args := #[]) (mvT hZ221 (own_w hw 73 rfl))) (own_w hw 73 rfl) (own_w hw 72 rfl) (own_w hw 28 rfl) (own_w hw 74 rfl) (by decide) (W := 0) (ccompare l Z a0 hw [] r_285 r_287 (((0 : Int64) + (0 : Int64)) + (0 : Int64)) (0 : Int64) sc (((1 : Int) + (1 : Int)) + (1 : Int)) (3 : Int) T287.heap n0 f290 BE287 hsc.2 (by decide) (by decide) (by rw [own_z2])) (by decide) (by decide) rfl f290.1 (by decide) (by decide)  (by rw [hml]; rfl) (argsL := [(.ref r_287)]) (rest := []) (lenOf pd_22 rfl) rfl rfl (hb hby at_265) rfl (fun _ T289 Lc289 X289 hQ289 => ?_)
      obtain ⟨rfl, N289q, e289⟩ := hQ289
      have N289 := Fr.app N287 N289q
      refine Rch.st (fun _ hr => XS.ifNo X289.here hx rfl (hb hby at_268) rfl ((if0 _ _).trans (teq (by decide : (0 : Int32) = (0 : Int32))).2) hr) ?_
      show Rch p.tables e below _ (T289.setTop (mkF m 271 #[.val (.int p0), .val (.int p1), .val (.int p2), .val (.int p3), .val (.int p4), .val (.int p5), .val (.int (2 : Int32)), .val (.int sc), .val (.int cnt), .val (.ref b181), .val (.ref r_186), .val (.ref b244), .val (.long (0 : Int64)), .second, .val (.int ia), .val (.int ib), .val (.int ic)] []))
      refine Rch.st (fun _ hr => XS.iconst X289.here hx rfl (hb hby at_271) hr) ?_
      refine Rch.st (fun _ hr => XS.goto X289.here hx rfl (pc0 := 272) (pc' := 276) rfl (hb hby at_272) (by decide) (by decide) hr) ?_
      obtain ⟨fs, hr, hrun, hended, hREW⟩ := Jvm.Stand.leaveW (s := s) (vm₁ := T221.vm) X289 hS221 (by rw [e289]; exact (Nat.le_trans (Nat.le_trans (Nat.le_trans (Nat.le_trans (Nat.le_trans (Nat.le_trans (Nat.le_trans hk221 Kp224.1) Kp227.1) Kp233.1) E244.1) Kp256.1) Kp285.1) Kp287.1)) (v := some (.int (1 : Int32))) (fun h => by rw [Bd.returns] at h; cases h)
      refine Rch.fin (u := T289.setFrames fs) (retN X289 hx (t := .boolean) Bd.returns (by simp) (hb hby at_276) hr) ⟨_, hrun, hended, _, _, rfl, ?_, hREW.1, hREW.2.1, hREW.2.2.1, hREW.2.2.2.mono (by decide) (by decide)⟩
      show Q_claw Z p0 p1 p2 p3 p4 p5 wz de kde zz wy h0 n0 _ T289.heap _
      rw [e289]
      exact ⟨rfl, N289, K288, Op287⟩
    · refine Rch.st (fun _ hr => XS.icmpNo X256.here hx rfl (hb hby at_173) rfl (flt hc284).1 hr) ?_
      refine Rch.st (fun _ hr => XS.aload X256.here hx rfl (hb hby at_176) rfl rfl hr) ?_
      refine Rch.st (fun _ hr => XS.iload X256.here hx rfl (hb hby at_178) rfl hr) ?_
      refine Rch.st (fun _ hr => XS.iloadN X256.here hx rfl (hb hby at_180) rfl hr) ?_
      refine Rch.st (fun _ hr => XS.i2l X256.here hx rfl (hb hby at_181) rfl hr) ?_
      refine Rch.st (fun _ hr => XS.iload X256.here hx rfl (hb hby at_182) rfl hr) ?_
      show Rch p.tables e below _ (T256.setTop (mkF m 184 #[.val (.int p0), .val (.int p1), .val (.int p2), .val (.int p3), .val (.int p4), .val (.int p5), .val (.int (2 : Int32)), .val (.int sc), .val (.int cnt), .val (.ref b181), .val (.ref r_186), .val (.ref b244), .val (.long (0 : Int64)), .second, .val (.int ia), .val (.int ib), .val (.int ic)] [(.int sc), (.long (p2.toInt64)), (.int ia), (.ref b244)]))
      refine own_kS X256 hx hZ221 (y := Y_5) hown221 (own_w hw 26 rfl) (own_w hw 27 rfl) (own_w hw 28 rfl) (own_w hw 29 rfl) (by decide) (W := 2) (cvalueOfS l Z a0 hw [] (p2.toInt64) sc wz wy T256.heap n0 zD0 zD1 zD6 zD7 Op256 (Bk.ne (Bk.i2l p2) (by decide)) hsc.2.nn hsc.2.lt) (by decide) (by decide) rfl (by decide) (by decide)  (by rw [hml]; rfl) (argsL := [(.long (p2.toInt64)), (.int sc)]) (rest := [(.int ia), (.ref b244)]) (lenOf pd_5 rfl) rfl rfl (hb hby at_184) rfl (fun _ T291 Lc291 X291 hQ291 => ?_)
      obtain ⟨r_291, rfl, N291q, Kp291, Op291, R291_0⟩ := hQ291
      have N291 := Fr.app N256 N291q
      have K292 := K283.trans Kp291 all0
      have BE291 : BE Z T291.heap r_291 (p2.toInt64) sc (1 : Int) := ⟨R291_0.1, sc, R291_0, Or.inl rfl, ((Bk.i2l p2)).mono (by decide)⟩
      have f294 := (R256_0.keep Kp291)
      have f295 := (R256_1.keep Kp291 nin0)
      have f296 := (R256_2.keep Kp291 nin0)
      have f297 := (R256_5.keep Kp291 nin0)
      have f298 := (R256_6.keep Kp291 nin0)
      have f299 := R256_7
      have f300 := R256_8
      have f301 := (BEz256.keep Kp291 nin0)
      have f302 := (((((((((f208.keep Kp202 (ninS ne211 nin0)).ext E213).ext E221).keep Kp224 nin0).keep Kp227 (ninS ne216 nin0)).keep Kp233 (ninS ne211 (ninS ne209 nin0))).ext E244).keep Kp256 (ninS ne247 nin0)).keep Kp291 nin0)
      have f303 := (((((BE224.keep Kp227 (ninS ne231 nin0)).keep Kp233 (ninS ne241 (ninS ne242 nin0))).ext E244).keep Kp256 (ninS ne253 nin0)).keep Kp291 nin0)
      show Rch p.tables e below _ (T291.setTop (mkF m 187 #[.val (.int p0), .val (.int p1), .val (.int p2), .val (.int p3), .val (.int p4), .val (.int p5), .val (.int (2 : Int32)), .val (.int sc), .val (.int cnt), .val (.ref b181), .val (.ref r_186), .val (.ref b244), .val (.long (0 : Int64)), .second, .val (.int ia), .val (.int ib), .val (.int ic)] [(.ref r_291), (.int ia), (.ref b244)]))
      refine own_kV X291 hx hZ221 (y := Y_37) (z := Y_37) hown221 (own_w hw 211 rfl) (own_w hw 212 rfl) (notFace_of_selects (args := #[]) (mvT hZ221 (own_w hw 214 rfl))) (own_w hw 214 rfl) (own_w hw 213 rfl) (own_w hw 36 rfl) (own_w hw 215 rfl) (by decide) (W := 0) (ccharge2 l Z a0 hw [] b244 r_291 sp_256 ks_256 rm_256 kr_256 zz zz r_186 r_224 (0 : Int64) (0 : Int64) (p1.toInt64) (p5.toInt64) (p2.toInt64) sc (1 : Int) wz wy ia T291.heap n0 zD0 zD1 zD6 zD7 Op291 f294 f295 f296 f297 f298 f299 f300 f301 f301 f302 f303 BE291 g_sp_256 g_rm_256 R256_9 hsc.2 (by decide) hia.2) (by decide) (by decide) rfl f294 (by decide) (by decide)  (by rw [hml]; rfl) (argsL := [(.int ia), (.ref r_291)]) (rest := []) (lenOf pd_25 rfl) rfl rfl (hb hby at_187) rfl (fun _ T293 Lc293 X293 hQ293 => ?_)
      obtain ⟨t0_293, t1_293, u0_293, u1_293, y0_293, y1_293, v0_293, v1_293, rfl, N293q, Kp293, Op293, R293_0, R293_1, R293_2, R293_3, R293_4, R293_5, R293_6⟩ := hQ293
      have N293 := Fr.app N291 N293q
      have ne304 := (Exa.neArv (zD5.1.ext Op291.2) f297 (own_w hw 81 rfl))
      have ne305 := (Exa.neArv BE291.1 f297 (own_w hw 81 rfl))
      have ne306 := (Exa.neArv (zD5.1.ext Op291.2) f298 (own_w hw 81 rfl))
      have ne307 := (Exa.neArv BE291.1 f298 (own_w hw 81 rfl))
      have K308 := K292.trans Kp293 (allS (Or.inr sz_sp_256) (allS (Or.inr sz_rm_256) all0))
      refine Rch.st (fun _ hr => XS.lload X293.here hx rfl (hb hby at_190) rfl hr) ?_
      refine Rch.st (fun _ hr => XS.iloadN X293.here hx rfl (hb hby at_192) rfl hr) ?_
      refine Rch.st (fun _ hr => XS.i2l X293.here hx rfl (hb hby at_193) rfl hr) ?_
      refine Rch.st (fun _ hr => XS.ladd X293.here hx rfl (hb hby at_194) rfl hr) ?_
      refine Rch.st (fun _ hr => XS.lstore X293.here hx rfl (hb hby at_195) rfl (l' := #[.val (.int p0), .val (.int p1), .val (.int p2), .val (.int p3), .val (.int p4), .val (.int p5), .val (.int (2 : Int32)), .val (.int sc), .val (.int cnt), .val (.ref b181), .val (.ref r_186), .val (.ref b244), .val (.long ((0 : Int64) + (p2.toInt64))), .second, .val (.int ia), .val (.int ib), .val (.int ic)]) rfl hr) ?_
      refine Rch.st (fun _ hr => XS.iload X293.here hx rfl (hb hby at_197) rfl hr) ?_
      show Rch p.tables e below _ (T293.setTop (mkF m 199 #[.val (.int p0), .val (.int p1), .val (.int p2), .val (.int p3), .val (.int p4), .val (.int p5), .val (.int (2 : Int32)), .val (.int sc), .val (.int cnt), .val (.ref b181), .val (.ref r_186), .val (.ref b244), .val (.long ((0 : Int64) + (p2.toInt64))), .second, .val (.int ia), .val (.int ib), .val (.int ic)] [(.int cnt)]))
      refine Rch.st (fun _ hr => XS.iconst X293.here hx rfl (hb hby at_199) hr) ?_
      by_cases hc309 : cnt < (2 : Int32)
      · refine Rch.st (fun _ hr => XS.icmpYes X293.here hx rfl (pc0 := 200) (pc' := 224) rfl (hb hby at_200) rfl (tlt hc309).1 (by decide) (by decide) hr) ?_
        refine Rch.st (fun _ hr => XS.iload X293.here hx rfl (hb hby at_224) rfl hr) ?_
        refine Rch.st (fun _ hr => XS.iconst X293.here hx rfl (hb hby at_226) hr) ?_
        refine Rch.st (fun _ hr => XS.icmpYes X293.here hx rfl (pc0 := 227) (pc' := 253) rfl (hb hby at_227) rfl (tlt (own_lt23 hc309)).1 (by decide) (by decide) hr) ?_
        refine Rch.st (fun _ hr => XS.aload X293.here hx rfl (hb hby at_253) rfl rfl hr) ?_
        have f311 := (f294.keep Kp293)
        have f312 := (f295.keep Kp293 (ninS ne275 (ninS ne282 nin0)))
        show Rch p.tables e below _ (T293.setTop (mkF m 255 #[.val (.int p0), .val (.int p1), .val (.int p2), .val (.int p3), .val (.int p4), .val (.int p5), .val (.int (2 : Int32)), .val (.int sc), .val (.int cnt), .val (.ref b181), .val (.ref r_186), .val (.ref b244), .val (.long ((0 : Int64) + (p2.toInt64))), .second, .val (.int ia), .val (.int ib), .val (.int ic)] [(.ref b244)]))
        refine own_kV X293 hx hZ221 (y := Y_32) (z := Y_32) hown221 (own_w hw 65 rfl) (own_w hw 66 rfl) (notFace_of_selects (args := #[]) (mvT hZ221 (own_w hw 68 rfl))) (own_w hw 68 rfl) (own_w hw 67 rfl) (own_w hw 36 rfl) (own_w hw 69 rfl) (by decide) (W := 0) (crev2 l Z a0 hw [] b244 sp_256 ks_256 t0_293 t1_293 y0_293 y1_293 sc ((1 : Int) + (1 : Int)) wz wy zz T293.heap n0 zD0 zD1 zD6 zD7 zD4 zD5 Op293 f312 R293_0 R293_2 R293_3 hsc.2 (by decide) (by decide)) (by decide) (by decide) rfl f311 (by decide) (by decide)  (by rw [hml]; rfl) (argsL := []) (rest := []) (lenOf pd_19 rfl) rfl rfl (hb hby at_255) rfl (fun _ T310 Lc310 X310 hQ310 => ?_)
        obtain ⟨r_310, rfl, N310q, Kp310, Op310, R310_0⟩ := hQ310
        have N310 := Fr.app N293 N310q
        have K313 := K308.trans Kp310 all0
        refine Rch.st (fun _ hr => XS.lload X310.here hx rfl (hb hby at_258) rfl hr) ?_
        refine Rch.st (fun _ hr => XS.iload X310.here hx rfl (hb hby at_260) rfl hr) ?_
        show Rch p.tables e below _ (T310.setTop (mkF m 262 #[.val (.int p0), .val (.int p1), .val (.int p2), .val (.int p3), .val (.int p4), .val (.int p5), .val (.int (2 : Int32)), .val (.int sc), .val (.int cnt), .val (.ref b181), .val (.ref r_186), .val (.ref b244), .val (.long ((0 : Int64) + (p2.toInt64))), .second, .val (.int ia), .val (.int ib), .val (.int ic)] [(.int sc), (.long ((0 : Int64) + (p2.toInt64))), (.ref r_310)]))
        refine own_kS X310 hx hZ221 (y := Y_5) hown221 (own_w hw 26 rfl) (own_w hw 27 rfl) (own_w hw 28 rfl) (own_w hw 29 rfl) (by decide) (W := 1) (cvalueOfS l Z a0 hw [] ((0 : Int64) + (p2.toInt64)) sc wz wy T310.heap n0 zD0 zD1 zD6 zD7 Op310 (Bk.ne (Bk.add Bk.zero (Bk.i2l p2) (by decide)).2 (by decide)) hsc.2.nn hsc.2.lt) (by decide) (by decide) rfl (by decide) (by decide)  (by rw [hml]; rfl) (argsL := [(.long ((0 : Int64) + (p2.toInt64))), (.int sc)]) (rest := [(.ref r_310)]) (lenOf pd_5 rfl) rfl rfl (hb hby at_262) rfl (fun _ T314 Lc314 X314 hQ314 => ?_)
        obtain ⟨r_314, rfl, N314q, Kp314, Op314, R314_0⟩ := hQ314
        have N314 := Fr.app N310 N314q
        have K315 := K313.trans Kp314 all0
        have BE314 : BE Z T314.heap r_314 ((0 : Int64) + (p2.toInt64)) sc (3 : Int) := ⟨R314_0.1, sc, R314_0, Or.inl rfl, ((Bk.add Bk.zero (Bk.i2l p2) (by decide)).2).mono (by decide)⟩
        have f317 := (R310_0.keep Kp314 nin0)
        show Rch p.tables e below _ (T314.setTop (mkF m 265 #[.val (.int p0), .val (.int p1), .val (.int p2), .val (.int p3), .val (.int p4), .val (.int p5), .val (.int (2 : Int32)), .val (.int sc), .val (.int cnt), .val (.ref b181), .val (.ref r_186), .val (.ref b244), .val (.long ((0 : Int64) + (p2.toInt64))), .second, .val (.int ia), .val (.int ib), .val (.int ic)] [(.ref r_314), (.ref r_310)]))
        refine own_kV X314 hx hZ221 (y := Y_33) (z := Y_33) hown221 (own_w hw 70 rfl) (own_w hw 71 rfl) (notFace_of_selects (args := #[]) (mvT hZ221 (own_w hw 73 rfl))) (own_w hw 73 rfl) (own_w hw 72 rfl) (own_w hw 28 rfl) (own_w hw 74 rfl) (by decide) (W := 0) (ccompare l Z a0 hw [] r_310 r_314 (((0 : Int64) + y0_293) + y1_293) ((0 : Int64) + (p2.toInt64)) sc ((((1 : Int) + (1 : Int)) + ((1 : Int) + (1 : Int))) + ((1 : Int) + (1 : Int))) (3 : Int) T314.heap n0 f317 BE314 hsc.2 (by decide) (by decide) (by rw [R293_6, own_z2])) (by decide) (by decide) rfl f317.1 (by decide) (by decide)  (by rw [hml]; rfl) (argsL := [(.ref r_314)]) (rest := []) (lenOf pd_22 rfl) rfl rfl (hb hby at_265) rfl (fun _ T316 Lc316 X316 hQ316 => ?_)
        obtain ⟨rfl, N316q, e316⟩ := hQ316
        have N316 := Fr.app N314 N316q
        refine Rch.st (fun _ hr => XS.ifNo X316.here hx rfl (hb hby at_268) rfl ((if0 _ _).trans (teq (by decide : (0 : Int32) = (0 : Int32))).2) hr) ?_
        refine Rch.st (fun _ hr => XS.iconst X316.here hx rfl (hb hby at_271) hr) ?_
        refine Rch.st (fun _ hr => XS.goto X316.here hx rfl (pc0 := 272) (pc' := 276) rfl (hb hby at_272) (by decide) (by decide) hr) ?_
        obtain ⟨fs, hr, hrun, hended, hREW⟩ := Jvm.Stand.leaveW (s := s) (vm₁ := T221.vm) X316 hS221 (by rw [e316]; exact (Nat.le_trans (Nat.le_trans (Nat.le_trans (Nat.le_trans (Nat.le_trans (Nat.le_trans (Nat.le_trans (Nat.le_trans (Nat.le_trans hk221 Kp224.1) Kp227.1) Kp233.1) E244.1) Kp256.1) Kp291.1) Kp293.1) Kp310.1) Kp314.1)) (v := some (.int (1 : Int32))) (fun h => by rw [Bd.returns] at h; cases h)
        refine Rch.fin (u := T316.setFrames fs) (retN X316 hx (t := .boolean) Bd.returns (by simp) (hb hby at_276) hr) ⟨_, hrun, hended, _, _, rfl, ?_, hREW.1, hREW.2.1, hREW.2.2.1, hREW.2.2.2.mono (by decide) (by decide)⟩
        show Q_claw Z p0 p1 p2 p3 p4 p5 wz de kde zz wy h0 n0 _ T316.heap _
        rw [e316]
        exact ⟨rfl, N316, K315, Op314⟩
      · refine Rch.st (fun _ hr => XS.icmpNo X293.here hx rfl (hb hby at_200) rfl (flt hc309).1 hr) ?_
        refine Rch.st (fun _ hr => XS.aload X293.here hx rfl (hb hby at_203) rfl rfl hr) ?_
        refine Rch.st (fun _ hr => XS.iload X293.here hx rfl (hb hby at_205) rfl hr) ?_
        refine Rch.st (fun _ hr => XS.iloadN X293.here hx rfl (hb hby at_207) rfl hr) ?_
        refine Rch.st (fun _ hr => XS.i2l X293.here hx rfl (hb hby at_208) rfl hr) ?_
        refine Rch.st (fun _ hr => XS.iload X293.here hx rfl (hb hby at_209) rfl hr) ?_
        show Rch p.tables e below _ (T293.setTop (mkF m 211 #[.val (.int p0), .val (.int p1), .val (.int p2), .val (.int p3), .val (.int p4), .val (.int p5), .val (.int (2 : Int32)), .val (.int sc), .val (.int cnt), .val (.ref b181), .val (.ref r_186), .val (.ref b244), .val (.long ((0 : Int64) + (p2.toInt64))), .second, .val (.int ia), .val (.int ib), .val (.int ic)] [(.int sc), (.long (p3.toInt64)), (.int ib), (.ref b244)]))
        refine own_kS X293 hx hZ221 (y := Y_5) hown221 (own_w hw 26 rfl) (own_w hw 27 rfl) (own_w hw 28 rfl) (own_w hw 29 rfl) (by decide) (W := 2) (cvalueOfS l Z a0 hw [] (p3.toInt64) sc wz wy T293.heap n0 zD0 zD1 zD6 zD7 Op293 (Bk.ne (Bk.i2l p3) (by decide)) hsc.2.nn hsc.2.lt) (by decide) (by decide) rfl (by decide) (by decide)  (by rw [hml]; rfl) (argsL := [(.long (p3.toInt64)), (.int sc)]) (rest := [(.int ib), (.ref b244)]) (lenOf pd_5 rfl) rfl rfl (hb hby at_211) rfl (fun _ T318 Lc318 X318 hQ318 => ?_)
        obtain ⟨r_318, rfl, N318q, Kp318, Op318, R318_0⟩ := hQ318
        have N318 := Fr.app N293 N318q
        have K319 := K308.trans Kp318 all0
        have BE318 : BE Z T318.heap r_318 (p3.toInt64) sc (1 : Int) := ⟨R318_0.1, sc, R318_0, Or.inl rfl, ((Bk.i2l p3)).mono (by decide)⟩
        have f321 := ((f294.keep Kp293).keep Kp318)
        have f322 := ((f295.keep Kp293 (ninS ne275 (ninS ne282 nin0))).keep Kp318 nin0)
        have f323 := ((f296.keep Kp293 (ninS ne275 (ninS ne282 nin0))).keep Kp318 nin0)
        have f324 := (R293_0.keep Kp318 nin0)
        have f325 := (R293_1.keep Kp318 nin0)
        have f326 := f299
        have f327 := f300
        have f328 := (R293_2.keep Kp318 nin0)
        have f329 := (R293_3.keep Kp318 nin0)
        have f330 := (R293_4.keep Kp318 nin0)
        have f331 := (R293_5.keep Kp318 nin0)
        show Rch p.tables e below _ (T318.setTop (mkF m 214 #[.val (.int p0), .val (.int p1), .val (.int p2), .val (.int p3), .val (.int p4), .val (.int p5), .val (.int (2 : Int32)), .val (.int sc), .val (.int cnt), .val (.ref b181), .val (.ref r_186), .val (.ref b244), .val (.long ((0 : Int64) + (p2.toInt64))), .second, .val (.int ia), .val (.int ib), .val (.int ic)] [(.ref r_318), (.int ib), (.ref b244)]))
        refine own_kV X318 hx hZ221 (y := Y_37) (z := Y_37) hown221 (own_w hw 211 rfl) (own_w hw 212 rfl) (notFace_of_selects (args := #[]) (mvT hZ221 (own_w hw 214 rfl))) (own_w hw 214 rfl) (own_w hw 213 rfl) (own_w hw 36 rfl) (own_w hw 215 rfl) (by decide) (W := 0) (ccharge2 l Z a0 hw [] b244 r_318 sp_256 ks_256 rm_256 kr_256 t0_293 t1_293 u0_293 u1_293 y0_293 y1_293 v0_293 v1_293 (p3.toInt64) sc ((1 : Int) + (1 : Int)) wz wy ib T318.heap n0 zD0 zD1 zD6 zD7 Op318 f321 f322 f323 f324 f325 f326 f327 f328 f329 f330 f331 BE318 g_sp_256 g_rm_256 R256_9 hsc.2 (by decide) hib.2) (by decide) (by decide) rfl f321 (by decide) (by decide)  (by rw [hml]; rfl) (argsL := [(.int ib), (.ref r_318)]) (rest := []) (lenOf pd_25 rfl) rfl rfl (hb hby at_214) rfl (fun _ T320 Lc320 X320 hQ320 => ?_)
        obtain ⟨t0_320, t1_320, u0_320, u1_320, y0_320, y1_320, v0_320, v1_320, rfl, N320q, Kp320, Op320, R320_0, R320_1, R320_2, R320_3, R320_4, R320_5, R320_6⟩ := hQ320
        have N320 := Fr.app N318 N320q
        have ne332 := (Exa.neArv f328.1 f324 (own_w hw 81 rfl))
        have ne333 := (Exa.neArv f329.1 f324 (own_w hw 81 rfl))
        have ne334 := (Exa.neArv f330.1 f324 (own_w hw 81 rfl))
        have ne335 := (Exa.neArv f331.1 f324 (own_w hw 81 rfl))
        have ne336 := (Exa.neArv BE318.1 f324 (own_w hw 81 rfl))
        have ne337 := (Exa.neArv f328.1 f325 (own_w hw 81 rfl))
        have ne338 := (Exa.neArv f329.1 f325 (own_w hw 81 rfl))
        have ne339 := (Exa.neArv f330.1 f325 (own_w hw 81 rfl))
        have ne340 := (Exa.neArv f331.1 f325 (own_w hw 81 rfl))
        have ne341 := (Exa.neArv BE318.1 f325 (own_w hw 81 rfl))
        have K342 := K319.trans Kp320 (allS (Or.inr sz_sp_256) (allS (Or.inr sz_rm_256) all0))
        refine Rch.st (fun _ hr => XS.lload X320.here hx rfl (hb hby at_217) rfl hr) ?_
        refine Rch.st (fun _ hr => XS.iloadN X320.here hx rfl (hb hby at_219) rfl hr) ?_
        refine Rch.st (fun _ hr => XS.i2l X320.here hx rfl (hb hby at_220) rfl hr) ?_
        refine Rch.st (fun _ hr => XS.ladd X320.here hx rfl (hb hby at_221) rfl hr) ?_
        refine Rch.st (fun _ hr => XS.lstore X320.here hx rfl (hb hby at_222) rfl (l' := #[.val (.int p0), .val (.int p1), .val (.int p2), .val (.int p3), .val (.int p4), .val (.int p5), .val (.int (2 : Int32)), .val (.int sc), .val (.int cnt), .val (.ref b181), .val (.ref r_186), .val (.ref b244), .val (.long (((0 : Int64) + (p2.toInt64)) + (p3.toInt64))), .second, .val (.int ia), .val (.int ib), .val (.int ic)]) rfl hr) ?_
        refine Rch.st (fun _ hr => XS.iload X320.here hx rfl (hb hby at_224) rfl hr) ?_
        refine Rch.st (fun _ hr => XS.iconst X320.here hx rfl (hb hby at_226) hr) ?_
        show Rch p.tables e below _ (T320.setTop (mkF m 227 #[.val (.int p0), .val (.int p1), .val (.int p2), .val (.int p3), .val (.int p4), .val (.int p5), .val (.int (2 : Int32)), .val (.int sc), .val (.int cnt), .val (.ref b181), .val (.ref r_186), .val (.ref b244), .val (.long (((0 : Int64) + (p2.toInt64)) + (p3.toInt64))), .second, .val (.int ia), .val (.int ib), .val (.int ic)] [(.int (3 : Int32)), (.int cnt)]))
        by_cases hc343 : cnt < (3 : Int32)
        · refine Rch.st (fun _ hr => XS.icmpYes X320.here hx rfl (pc0 := 227) (pc' := 253) rfl (hb hby at_227) rfl (tlt hc343).1 (by decide) (by decide) hr) ?_
          refine Rch.st (fun _ hr => XS.aload X320.here hx rfl (hb hby at_253) rfl rfl hr) ?_
          have f345 := (f321.keep Kp320)
          have f346 := (f322.keep Kp320 (ninS ne275 (ninS ne282 nin0)))
          show Rch p.tables e below _ (T320.setTop (mkF m 255 #[.val (.int p0), .val (.int p1), .val (.int p2), .val (.int p3), .val (.int p4), .val (.int p5), .val (.int (2 : Int32)), .val (.int sc), .val (.int cnt), .val (.ref b181), .val (.ref r_186), .val (.ref b244), .val (.long (((0 : Int64) + (p2.toInt64)) + (p3.toInt64))), .second, .val (.int ia), .val (.int ib), .val (.int ic)] [(.ref b244)]))
          refine own_kV X320 hx hZ221 (y := Y_32) (z := Y_32) hown221 (own_w hw 65 rfl) (own_w hw 66 rfl) (notFace_of_selects (args := #[]) (mvT hZ221 (own_w hw 68 rfl))) (own_w hw 68 rfl) (own_w hw 67 rfl) (own_w hw 36 rfl) (own_w hw 69 rfl) (by decide) (W := 0) (crev2 l Z a0 hw [] b244 sp_256 ks_256 t0_320 t1_320 y0_320 y1_320 sc (((1 : Int) + (1 : Int)) + (1 : Int)) wz wy zz T320.heap n0 zD0 zD1 zD6 zD7 zD4 zD5 Op320 f346 R320_0 R320_2 R320_3 hsc.2 (by decide) (by decide)) (by decide) (by decide) rfl f345 (by decide) (by decide)  (by rw [hml]; rfl) (argsL := []) (rest := []) (lenOf pd_19 rfl) rfl rfl (hb hby at_255) rfl (fun _ T344 Lc344 X344 hQ344 => ?_)
          obtain ⟨r_344, rfl, N344q, Kp344, Op344, R344_0⟩ := hQ344
          have N344 := Fr.app N320 N344q
          have K347 := K342.trans Kp344 all0
          refine Rch.st (fun _ hr => XS.lload X344.here hx rfl (hb hby at_258) rfl hr) ?_
          refine Rch.st (fun _ hr => XS.iload X344.here hx rfl (hb hby at_260) rfl hr) ?_
          show Rch p.tables e below _ (T344.setTop (mkF m 262 #[.val (.int p0), .val (.int p1), .val (.int p2), .val (.int p3), .val (.int p4), .val (.int p5), .val (.int (2 : Int32)), .val (.int sc), .val (.int cnt), .val (.ref b181), .val (.ref r_186), .val (.ref b244), .val (.long (((0 : Int64) + (p2.toInt64)) + (p3.toInt64))), .second, .val (.int ia), .val (.int ib), .val (.int ic)] [(.int sc), (.long (((0 : Int64) + (p2.toInt64)) + (p3.toInt64))), (.ref r_344)]))
          refine own_kS X344 hx hZ221 (y := Y_5) hown221 (own_w hw 26 rfl) (own_w hw 27 rfl) (own_w hw 28 rfl) (own_w hw 29 rfl) (by decide) (W := 1) (cvalueOfS l Z a0 hw [] (((0 : Int64) + (p2.toInt64)) + (p3.toInt64)) sc wz wy T344.heap n0 zD0 zD1 zD6 zD7 Op344 (Bk.ne (Bk.add (Bk.add Bk.zero (Bk.i2l p2) (by decide)).2 (Bk.i2l p3) (by decide)).2 (by decide)) hsc.2.nn hsc.2.lt) (by decide) (by decide) rfl (by decide) (by decide)  (by rw [hml]; rfl) (argsL := [(.long (((0 : Int64) + (p2.toInt64)) + (p3.toInt64))), (.int sc)]) (rest := [(.ref r_344)]) (lenOf pd_5 rfl) rfl rfl (hb hby at_262) rfl (fun _ T348 Lc348 X348 hQ348 => ?_)
          obtain ⟨r_348, rfl, N348q, Kp348, Op348, R348_0⟩ := hQ348
          have N348 := Fr.app N344 N348q
          have K349 := K347.trans Kp348 all0
          have BE348 : BE Z T348.heap r_348 (((0 : Int64) + (p2.toInt64)) + (p3.toInt64)) sc (3 : Int) := ⟨R348_0.1, sc, R348_0, Or.inl rfl, ((Bk.add (Bk.add Bk.zero (Bk.i2l p2) (by decide)).2 (Bk.i2l p3) (by decide)).2).mono (by decide)⟩
          have f351 := (R344_0.keep Kp348 nin0)
          show Rch p.tables e below _ (T348.setTop (mkF m 265 #[.val (.int p0), .val (.int p1), .val (.int p2), .val (.int p3), .val (.int p4), .val (.int p5), .val (.int (2 : Int32)), .val (.int sc), .val (.int cnt), .val (.ref b181), .val (.ref r_186), .val (.ref b244), .val (.long (((0 : Int64) + (p2.toInt64)) + (p3.toInt64))), .second, .val (.int ia), .val (.int ib), .val (.int ic)] [(.ref r_348), (.ref r_344)]))
          refine own_kV X348 hx hZ221 (y := Y_33) (z := Y_33) hown221 (own_w hw 70 rfl) (own_w hw 71 rfl) (notFace_of_selects (args := #[]) (mvT hZ221 (own_w hw 73 rfl))) (own_w hw 73 rfl) (own_w hw 72 rfl) (own_w hw 28 rfl) (own_w hw 74 rfl) (by decide) (W := 0) (ccompare l Z a0 hw [] r_344 r_348 (((0 : Int64) + y0_320) + y1_320) (((0 : Int64) + (p2.toInt64)) + (p3.toInt64)) sc (((((1 : Int) + (1 : Int)) + (1 : Int)) + (((1 : Int) + (1 : Int)) + (1 : Int))) + (((1 : Int) + (1 : Int)) + (1 : Int))) (3 : Int) T348.heap n0 f351 BE348 hsc.2 (by decide) (by decide) (by rw [R320_6, R293_6, own_z2])) (by decide) (by decide) rfl f351.1 (by decide) (by decide)  (by rw [hml]; rfl) (argsL := [(.ref r_348)]) (rest := []) (lenOf pd_22 rfl) rfl rfl (hb hby at_265) rfl (fun _ T350 Lc350 X350 hQ350 => ?_)
          obtain ⟨rfl, N350q, e350⟩ := hQ350
          have N350 := Fr.app N348 N350q
          refine Rch.st (fun _ hr => XS.ifNo X350.here hx rfl (hb hby at_268) rfl ((if0 _ _).trans (teq (by decide : (0 : Int32) = (0 : Int32))).2) hr) ?_
          refine Rch.st (fun _ hr => XS.iconst X350.here hx rfl (hb hby at_271) hr) ?_
          refine Rch.st (fun _ hr => XS.goto X350.here hx rfl (pc0 := 272) (pc' := 276) rfl (hb hby at_272) (by decide) (by decide) hr) ?_
          obtain ⟨fs, hr, hrun, hended, hREW⟩ := Jvm.Stand.leaveW (s := s) (vm₁ := T221.vm) X350 hS221 (by rw [e350]; exact (Nat.le_trans (Nat.le_trans (Nat.le_trans (Nat.le_trans (Nat.le_trans (Nat.le_trans (Nat.le_trans (Nat.le_trans (Nat.le_trans (Nat.le_trans (Nat.le_trans hk221 Kp224.1) Kp227.1) Kp233.1) E244.1) Kp256.1) Kp291.1) Kp293.1) Kp318.1) Kp320.1) Kp344.1) Kp348.1)) (v := some (.int (1 : Int32))) (fun h => by rw [Bd.returns] at h; cases h)
          refine Rch.fin (u := T350.setFrames fs) (retN X350 hx (t := .boolean) Bd.returns (by simp) (hb hby at_276) hr) ⟨_, hrun, hended, _, _, rfl, ?_, hREW.1, hREW.2.1, hREW.2.2.1, hREW.2.2.2.mono (by decide) (by decide)⟩
          show Q_claw Z p0 p1 p2 p3 p4 p5 wz de kde zz wy h0 n0 _ T350.heap _
          rw [e350]
          exact ⟨rfl, N350, K349, Op348⟩
        · refine Rch.st (fun _ hr => XS.icmpNo X320.here hx rfl (hb hby at_227) rfl (flt hc343).1 hr) ?_
          refine Rch.st (fun _ hr => XS.aload X320.here hx rfl (hb hby at_230) rfl rfl hr) ?_
          refine Rch.st (fun _ hr => XS.iload X320.here hx rfl (hb hby at_232) rfl hr) ?_
          refine Rch.st (fun _ hr => XS.iload X320.here hx rfl (hb hby at_234) rfl hr) ?_
          refine Rch.st (fun _ hr => XS.i2l X320.here hx rfl (hb hby at_236) rfl hr) ?_
          refine Rch.st (fun _ hr => XS.iload X320.here hx rfl (hb hby at_237) rfl hr) ?_
          show Rch p.tables e below _ (T320.setTop (mkF m 239 #[.val (.int p0), .val (.int p1), .val (.int p2), .val (.int p3), .val (.int p4), .val (.int p5), .val (.int (2 : Int32)), .val (.int sc), .val (.int cnt), .val (.ref b181), .val (.ref r_186), .val (.ref b244), .val (.long (((0 : Int64) + (p2.toInt64)) + (p3.toInt64))), .second, .val (.int ia), .val (.int ib), .val (.int ic)] [(.int sc), (.long (p4.toInt64)), (.int ic), (.ref b244)]))
          refine own_kS X320 hx hZ221 (y := Y_5) hown221 (own_w hw 26 rfl) (own_w hw 27 rfl) (own_w hw 28 rfl) (own_w hw 29 rfl) (by decide) (W := 2) (cvalueOfS l Z a0 hw [] (p4.toInt64) sc wz wy T320.heap n0 zD0 zD1 zD6 zD7 Op320 (Bk.ne (Bk.i2l p4) (by decide)) hsc.2.nn hsc.2.lt) (by decide) (by decide) rfl (by decide) (by decide)  (by rw [hml]; rfl) (argsL := [(.long (p4.toInt64)), (.int sc)]) (rest := [(.int ic), (.ref b244)]) (lenOf pd_5 rfl) rfl rfl (hb hby at_239) rfl (fun _ T352 Lc352 X352 hQ352 => ?_)
          obtain ⟨r_352, rfl, N352q, Kp352, Op352, R352_0⟩ := hQ352
          have N352 := Fr.app N320 N352q
          have K353 := K342.trans Kp352 all0
          have BE352 : BE Z T352.heap r_352 (p4.toInt64) sc (1 : Int) := ⟨R352_0.1, sc, R352_0, Or.inl rfl, ((Bk.i2l p4)).mono (by decide)⟩
          have f355 := ((f321.keep Kp320).keep Kp352)
          have f356 := ((f322.keep Kp320 (ninS ne275 (ninS ne282 nin0))).keep Kp352 nin0)
          have f357 := ((f323.keep Kp320 (ninS ne275 (ninS ne282 nin0))).keep Kp352 nin0)
          have f358 := (R320_0.keep Kp352 nin0)
          have f359 := (R320_1.keep Kp352 nin0)
          have f360 := f326
          have f361 := f327
          have f362 := (R320_2.keep Kp352 nin0)
          have f363 := (R320_3.keep Kp352 nin0)
          have f364 := (R320_4.keep Kp352 nin0)
          have f365 := (R320_5.keep Kp352 nin0)
          show Rch p.tables e below _ (T352.setTop (mkF m 242 #[.val (.int p0), .val (.int p1), .val (.int p2), .val (.int p3), .val (.int p4), .val (.int p5), .val (.int (2 : Int32)), .val (.int sc), .val (.int cnt), .val (.ref b181), .val (.ref r_186), .val (.ref b244), .val (.long (((0 : Int64) + (p2.toInt64)) + (p3.toInt64))), .second, .val (.int ia), .val (.int ib), .val (.int ic)] [(.ref r_352), (.int ic), (.ref b244)]))
          refine own_kV X352 hx hZ221 (y := Y_37) (z := Y_37) hown221 (own_w hw 211 rfl) (own_w hw 212 rfl) (notFace_of_selects (args := #[]) (mvT hZ221 (own_w hw 214 rfl))) (own_w hw 214 rfl) (own_w hw 213 rfl) (own_w hw 36 rfl) (own_w hw 215 rfl) (by decide) (W := 0) (ccharge2 l Z a0 hw [] b244 r_352 sp_256 ks_256 rm_256 kr_256 t0_320 t1_320 u0_320 u1_320 y0_320 y1_320 v0_320 v1_320 (p4.toInt64) sc (((1 : Int) + (1 : Int)) + (1 : Int)) wz wy ic T352.heap n0 zD0 zD1 zD6 zD7 Op352 f355 f356 f357 f358 f359 f360 f361 f362 f363 f364 f365 BE352 g_sp_256 g_rm_256 R256_9 hsc.2 (by decide) hic.2) (by decide) (by decide) rfl f355 (by decide) (by decide)  (by rw [hml]; rfl) (argsL := [(.int ic), (.ref r_352)]) (rest := []) (lenOf pd_25 rfl) rfl rfl (hb hby at_242) rfl (fun _ T354 Lc354 X354 hQ354 => ?_)
          obtain ⟨t0_354, t1_354, u0_354, u1_354, y0_354, y1_354, v0_354, v1_354, rfl, N354q, Kp354, Op354, R354_0, R354_1, R354_2, R354_3, R354_4, R354_5, R354_6⟩ := hQ354
          have N354 := Fr.app N352 N354q
          have ne366 := (Exa.neArv f362.1 f358 (own_w hw 81 rfl))
          have ne367 := (Exa.neArv f363.1 f358 (own_w hw 81 rfl))
          have ne368 := (Exa.neArv f364.1 f358 (own_w hw 81 rfl))
          have ne369 := (Exa.neArv f365.1 f358 (own_w hw 81 rfl))
          have ne370 := (Exa.neArv BE352.1 f358 (own_w hw 81 rfl))
          have ne371 := (Exa.neArv f362.1 f359 (own_w hw 81 rfl))
          have ne372 := (Exa.neArv f363.1 f359 (own_w hw 81 rfl))
          have ne373 := (Exa.neArv f364.1 f359 (own_w hw 81 rfl))
          have ne374 := (Exa.neArv f365.1 f359 (own_w hw 81 rfl))
          have ne375 := (Exa.neArv BE352.1 f359 (own_w hw 81 rfl))
          have K376 := K353.trans Kp354 (allS (Or.inr sz_sp_256) (allS (Or.inr sz_rm_256) all0))
          refine Rch.st (fun _ hr => XS.lload X354.here hx rfl (hb hby at_245) rfl hr) ?_
          refine Rch.st (fun _ hr => XS.iload X354.here hx rfl (hb hby at_247) rfl hr) ?_
          refine Rch.st (fun _ hr => XS.i2l X354.here hx rfl (hb hby at_249) rfl hr) ?_
          refine Rch.st (fun _ hr => XS.ladd X354.here hx rfl (hb hby at_250) rfl hr) ?_
          refine Rch.st (fun _ hr => XS.lstore X354.here hx rfl (hb hby at_251) rfl (l' := #[.val (.int p0), .val (.int p1), .val (.int p2), .val (.int p3), .val (.int p4), .val (.int p5), .val (.int (2 : Int32)), .val (.int sc), .val (.int cnt), .val (.ref b181), .val (.ref r_186), .val (.ref b244), .val (.long ((((0 : Int64) + (p2.toInt64)) + (p3.toInt64)) + (p4.toInt64))), .second, .val (.int ia), .val (.int ib), .val (.int ic)]) rfl hr) ?_
          refine Rch.st (fun _ hr => XS.aload X354.here hx rfl (hb hby at_253) rfl rfl hr) ?_
          have f378 := (f355.keep Kp354)
          have f379 := (f356.keep Kp354 (ninS ne275 (ninS ne282 nin0)))
          show Rch p.tables e below _ (T354.setTop (mkF m 255 #[.val (.int p0), .val (.int p1), .val (.int p2), .val (.int p3), .val (.int p4), .val (.int p5), .val (.int (2 : Int32)), .val (.int sc), .val (.int cnt), .val (.ref b181), .val (.ref r_186), .val (.ref b244), .val (.long ((((0 : Int64) + (p2.toInt64)) + (p3.toInt64)) + (p4.toInt64))), .second, .val (.int ia), .val (.int ib), .val (.int ic)] [(.ref b244)]))
          refine own_kV X354 hx hZ221 (y := Y_32) (z := Y_32) hown221 (own_w hw 65 rfl) (own_w hw 66 rfl) (notFace_of_selects (args := #[]) (mvT hZ221 (own_w hw 68 rfl))) (own_w hw 68 rfl) (own_w hw 67 rfl) (own_w hw 36 rfl) (own_w hw 69 rfl) (by decide) (W := 0) (crev2 l Z a0 hw [] b244 sp_256 ks_256 t0_354 t1_354 y0_354 y1_354 sc ((((1 : Int) + (1 : Int)) + (1 : Int)) + (1 : Int)) wz wy zz T354.heap n0 zD0 zD1 zD6 zD7 zD4 zD5 Op354 f379 R354_0 R354_2 R354_3 hsc.2 (by decide) (by decide)) (by decide) (by decide) rfl f378 (by decide) (by decide)  (by rw [hml]; rfl) (argsL := []) (rest := []) (lenOf pd_19 rfl) rfl rfl (hb hby at_255) rfl (fun _ T377 Lc377 X377 hQ377 => ?_)
          obtain ⟨r_377, rfl, N377q, Kp377, Op377, R377_0⟩ := hQ377
          have N377 := Fr.app N354 N377q
          have K380 := K376.trans Kp377 all0
          refine Rch.st (fun _ hr => XS.lload X377.here hx rfl (hb hby at_258) rfl hr) ?_
          show Rch p.tables e below _ (T377.setTop (mkF m 260 #[.val (.int p0), .val (.int p1), .val (.int p2), .val (.int p3), .val (.int p4), .val (.int p5), .val (.int (2 : Int32)), .val (.int sc), .val (.int cnt), .val (.ref b181), .val (.ref r_186), .val (.ref b244), .val (.long ((((0 : Int64) + (p2.toInt64)) + (p3.toInt64)) + (p4.toInt64))), .second, .val (.int ia), .val (.int ib), .val (.int ic)] [(.long ((((0 : Int64) + (p2.toInt64)) + (p3.toInt64)) + (p4.toInt64))), (.ref r_377)]))
          refine Rch.st (fun _ hr => XS.iload X377.here hx rfl (hb hby at_260) rfl hr) ?_
          show Rch p.tables e below _ (T377.setTop (mkF m 262 #[.val (.int p0), .val (.int p1), .val (.int p2), .val (.int p3), .val (.int p4), .val (.int p5), .val (.int (2 : Int32)), .val (.int sc), .val (.int cnt), .val (.ref b181), .val (.ref r_186), .val (.ref b244), .val (.long ((((0 : Int64) + (p2.toInt64)) + (p3.toInt64)) + (p4.toInt64))), .second, .val (.int ia), .val (.int ib), .val (.int ic)] [(.int sc), (.long ((((0 : Int64) + (p2.toInt64)) + (p3.toInt64)) + (p4.toInt64))), (.ref r_377)]))
          refine own_kS X377 hx hZ221 (y := Y_5) hown221 (own_w hw 26 rfl) (own_w hw 27 rfl) (own_w hw 28 rfl) (own_w hw 29 rfl) (by decide) (W := 1) (cvalueOfS l Z a0 hw [] ((((0 : Int64) + (p2.toInt64)) + (p3.toInt64)) + (p4.toInt64)) sc wz wy T377.heap n0 zD0 zD1 zD6 zD7 Op377 (Bk.ne (Bk.add (Bk.add (Bk.add Bk.zero (Bk.i2l p2) (by decide)).2 (Bk.i2l p3) (by decide)).2 (Bk.i2l p4) (by decide)).2 (by decide)) hsc.2.nn hsc.2.lt) (by decide) (by decide) rfl (by decide) (by decide)  (by rw [hml]; rfl) (argsL := [(.long ((((0 : Int64) + (p2.toInt64)) + (p3.toInt64)) + (p4.toInt64))), (.int sc)]) (rest := [(.ref r_377)]) (lenOf pd_5 rfl) rfl rfl (hb hby at_262) rfl (fun _ T381 Lc381 X381 hQ381 => ?_)
          obtain ⟨r_381, rfl, N381q, Kp381, Op381, R381_0⟩ := hQ381
          have N381 := Fr.app N377 N381q
          have K382 := K380.trans Kp381 all0
          have BE381 : BE Z T381.heap r_381 ((((0 : Int64) + (p2.toInt64)) + (p3.toInt64)) + (p4.toInt64)) sc (3 : Int) := ⟨R381_0.1, sc, R381_0, Or.inl rfl, ((Bk.add (Bk.add (Bk.add Bk.zero (Bk.i2l p2) (by decide)).2 (Bk.i2l p3) (by decide)).2 (Bk.i2l p4) (by decide)).2).mono (by decide)⟩
          have f384 := (R377_0.keep Kp381 nin0)
          show Rch p.tables e below _ (T381.setTop (mkF m 265 #[.val (.int p0), .val (.int p1), .val (.int p2), .val (.int p3), .val (.int p4), .val (.int p5), .val (.int (2 : Int32)), .val (.int sc), .val (.int cnt), .val (.ref b181), .val (.ref r_186), .val (.ref b244), .val (.long ((((0 : Int64) + (p2.toInt64)) + (p3.toInt64)) + (p4.toInt64))), .second, .val (.int ia), .val (.int ib), .val (.int ic)] [(.ref r_381), (.ref r_377)]))
          refine own_kV X381 hx hZ221 (y := Y_33) (z := Y_33) hown221 (own_w hw 70 rfl) (own_w hw 71 rfl) (notFace_of_selects (args := #[]) (mvT hZ221 (own_w hw 73 rfl))) (own_w hw 73 rfl) (own_w hw 72 rfl) (own_w hw 28 rfl) (own_w hw 74 rfl) (by decide) (W := 0) (ccompare l Z a0 hw [] r_377 r_381 (((0 : Int64) + y0_354) + y1_354) ((((0 : Int64) + (p2.toInt64)) + (p3.toInt64)) + (p4.toInt64)) sc ((((((1 : Int) + (1 : Int)) + (1 : Int)) + (1 : Int)) + ((((1 : Int) + (1 : Int)) + (1 : Int)) + (1 : Int))) + ((((1 : Int) + (1 : Int)) + (1 : Int)) + (1 : Int))) (3 : Int) T381.heap n0 f384 BE381 hsc.2 (by decide) (by decide) (by rw [R354_6, R320_6, R293_6, own_z2])) (by decide) (by decide) rfl f384.1 (by decide) (by decide)  (by rw [hml]; rfl) (argsL := [(.ref r_381)]) (rest := []) (lenOf pd_22 rfl) rfl rfl (hb hby at_265) rfl (fun _ T383 Lc383 X383 hQ383 => ?_)
          obtain ⟨rfl, N383q, e383⟩ := hQ383
          have N383 := Fr.app N381 N383q
          refine Rch.st (fun _ hr => XS.ifNo X383.here hx rfl (hb hby at_268) rfl ((if0 _ _).trans (teq (by decide : (0 : Int32) = (0 : Int32))).2) hr) ?_
          refine Rch.st (fun _ hr => XS.iconst X383.here hx rfl (hb hby at_271) hr) ?_
          refine Rch.st (fun _ hr => XS.goto X383.here hx rfl (pc0 := 272) (pc' := 276) rfl (hb hby at_272) (by decide) (by decide) hr) ?_
          obtain ⟨fs, hr, hrun, hended, hREW⟩ := Jvm.Stand.leaveW (s := s) (vm₁ := T221.vm) X383 hS221 (by rw [e383]; exact (Nat.le_trans (Nat.le_trans (Nat.le_trans (Nat.le_trans (Nat.le_trans (Nat.le_trans (Nat.le_trans (Nat.le_trans (Nat.le_trans (Nat.le_trans (Nat.le_trans (Nat.le_trans (Nat.le_trans hk221 Kp224.1) Kp227.1) Kp233.1) E244.1) Kp256.1) Kp291.1) Kp293.1) Kp318.1) Kp320.1) Kp352.1) Kp354.1) Kp377.1) Kp381.1)) (v := some (.int (1 : Int32))) (fun h => by rw [Bd.returns] at h; cases h)
          refine Rch.fin (u := T383.setFrames fs) (retN X383 hx (t := .boolean) Bd.returns (by simp) (hb hby at_276) hr) ⟨_, hrun, hended, _, _, rfl, ?_, hREW.1, hREW.2.1, hREW.2.2.1, hREW.2.2.2.mono (by decide) (by decide)⟩
          show Q_claw Z p0 p1 p2 p3 p4 p5 wz de kde zz wy h0 n0 _ T383.heap _
          rw [e383]
          exact ⟨rfl, N383, K382, Op381⟩
  · rw [hn]
    show Rch p.tables e below _ (s₁.setTop (mkF m 5 #[.val (.int p0), .val (.int p1), .val (.int p2), .val (.int p3), .val (.int p4), .val (.int p5), .val (.int (3 : Int32)), .unset, .unset, .unset, .unset, .unset, .unset, .unset, .unset, .unset, .unset] []))
    refine Rch.st (fun _ hr => XS.iloadN X0.here hx rfl (hb hby at_5) rfl hr) ?_
    refine Rch.st (fun _ hr => XS.iconst X0.here hx rfl (hb hby at_6) hr) ?_
    refine Rch.st (fun _ hr => XS.iushr X0.here hx rfl (hb hby at_7) rfl hr) ?_
    refine Rch.st (fun _ hr => XS.iconst X0.here hx rfl (hb hby at_8) hr) ?_
    refine Rch.st (fun _ hr => XS.iand X0.here hx rfl (hb hby at_9) rfl hr) ?_
    refine Rch.st (fun _ hr => XS.istore X0.here hx rfl (hb hby at_10) rfl (l' := #[.val (.int p0), .val (.int p1), .val (.int p2), .val (.int p3), .val (.int p4), .val (.int p5), .val (.int (3 : Int32)), .val (.int (((p0.toUInt32 >>> ((2 : Int32) &&& 31).toUInt32).toInt32) &&& (3 : Int32))), .unset, .unset, .unset, .unset, .unset, .unset, .unset, .unset, .unset]) rfl hr) ?_
    show Rch p.tables e below _ (s₁.setTop (mkF m 12 #[.val (.int p0), .val (.int p1), .val (.int p2), .val (.int p3), .val (.int p4), .val (.int p5), .val (.int (3 : Int32)), .val (.int (((p0.toUInt32 >>> ((2 : Int32) &&& 31).toUInt32).toInt32) &&& (3 : Int32))), .unset, .unset, .unset, .unset, .unset, .unset, .unset, .unset, .unset] []))
    obtain ⟨sc, hsc⟩ : ∃ z, z = (((p0.toUInt32 >>> ((2 : Int32) &&& 31).toUInt32).toInt32) &&& (3 : Int32)) ∧ (own_S z) := ⟨_, rfl, own_and3S _⟩
    rw [← hsc.1]
    show Rch p.tables e below _ (s₁.setTop (mkF m 12 #[.val (.int p0), .val (.int p1), .val (.int p2), .val (.int p3), .val (.int p4), .val (.int p5), .val (.int (3 : Int32)), .val (.int sc), .unset, .unset, .unset, .unset, .unset, .unset, .unset, .unset, .unset] []))
    refine Rch.st (fun _ hr => XS.iloadN X0.here hx rfl (hb hby at_12) rfl hr) ?_
    refine Rch.st (fun _ hr => XS.bipush X0.here hx rfl (hb hby at_13) hr) ?_
    refine Rch.st (fun _ hr => XS.iushr X0.here hx rfl (hb hby at_15) rfl hr) ?_
    refine Rch.st (fun _ hr => XS.iconst X0.here hx rfl (hb hby at_16) hr) ?_
    refine Rch.st (fun _ hr => XS.iand X0.here hx rfl (hb hby at_17) rfl hr) ?_
    refine Rch.st (fun _ hr => XS.istore X0.here hx rfl (hb hby at_18) rfl (l' := #[.val (.int p0), .val (.int p1), .val (.int p2), .val (.int p3), .val (.int p4), .val (.int p5), .val (.int (3 : Int32)), .val (.int sc), .val (.int (((p0.toUInt32 >>> ((10 : Int32) &&& 31).toUInt32).toInt32) &&& (3 : Int32))), .unset, .unset, .unset, .unset, .unset, .unset, .unset, .unset]) rfl hr) ?_
    show Rch p.tables e below _ (s₁.setTop (mkF m 20 #[.val (.int p0), .val (.int p1), .val (.int p2), .val (.int p3), .val (.int p4), .val (.int p5), .val (.int (3 : Int32)), .val (.int sc), .val (.int (((p0.toUInt32 >>> ((10 : Int32) &&& 31).toUInt32).toInt32) &&& (3 : Int32))), .unset, .unset, .unset, .unset, .unset, .unset, .unset, .unset] []))
    obtain ⟨cnt, hcnt⟩ : ∃ z, z = (((p0.toUInt32 >>> ((10 : Int32) &&& 31).toUInt32).toInt32) &&& (3 : Int32)) ∧ (own_S z) := ⟨_, rfl, own_and3S _⟩
    rw [← hcnt.1]
    show Rch p.tables e below _ (s₁.setTop (mkF m 20 #[.val (.int p0), .val (.int p1), .val (.int p2), .val (.int p3), .val (.int p4), .val (.int p5), .val (.int (3 : Int32)), .val (.int sc), .val (.int cnt), .unset, .unset, .unset, .unset, .unset, .unset, .unset, .unset] []))
    obtain ⟨T385, h385, X385, e385, E385, A385, D385, -, st385⟩ := newO X0 hx hZ hown (own_w hw 0 rfl) (own_w hw 1 rfl) (own_w hw 2 rfl) e0 (g := (mkF m 20 #[.val (.int p0), .val (.int p1), .val (.int p2), .val (.int p3), .val (.int p4), .val (.int p5), .val (.int (3 : Int32)), .val (.int sc), .val (.int cnt), .unset, .unset, .unset, .unset, .unset, .unset, .unset, .unset] [])) rfl (hb hby at_20) (by decide) (by decide)
    obtain ⟨b385, g385⟩ : ∃ z, z = h0.size := ⟨_, rfl⟩
    rw [← g385] at A385 D385 st385
    refine Rch.st st385 ?_
    have q385 : h0.size ≤ b385 := Nat.le_of_eq g385.symm
    have g_b385 : n0 ≤ b385 := Nat.le_trans (Nat.le_trans (Nat.le_of_eq zP0.1.symm) zP0.2.1) q385
    have sz_b385 : h0.size ≤ b385 := Nat.le_trans (Keep.refl h0 []).1 q385
    have K386 := (Keep.refl h0 []).ext E385
    have F385_modCount : Fld Z h385 b385 "java/util/AbstractList" "modCount" "I" (.int (0 : Int32)) := D385 (Or.inl (own_w hw 22 rfl)) (ty := .int) (by decide)
    have F385_elementData : Fld Z h385 b385 "java/util/ArrayList" "elementData" "[Ljava/lang/Object;" .null := D385 (Or.inl (own_w hw 25 rfl)) (ty := (.array (.object "java/lang/Object"))) (by decide)
    have F385_size : Fld Z h385 b385 "java/util/ArrayList" "size" "I" (.int (0 : Int32)) := D385 (Or.inl (own_w hw 53 rfl)) (ty := .int) (by decide)
    refine Rch.st (fun _ hr => XS.dup X385.here hx rfl (hb hby at_23) rfl rfl hr) ?_
    have f388 := (zP0.ext E385)
    show Rch p.tables e below _ (T385.setTop (mkF m 24 #[.val (.int p0), .val (.int p1), .val (.int p2), .val (.int p3), .val (.int p4), .val (.int p5), .val (.int (3 : Int32)), .val (.int sc), .val (.int cnt), .unset, .unset, .unset, .unset, .unset, .unset, .unset, .unset] [(.ref b385), (.ref b385)]))
    refine own_kI X385 hx hZ (y := Y_30) rfl hown (own_w hw 3 rfl) (own_w hw 4 rfl) (own_w hw 2 rfl) (own_w hw 5 rfl) (by decide) (W := 1) (calinit l Z a0 hw [] b385 de h385 n0 zD2 f388 A385 F385_elementData F385_size F385_modCount g_b385) (by decide) (by decide) e385 (by decide) (by decide)  (by rw [hml]; rfl) (a := b385) (argsL := []) (rest := [(.ref b385)]) (lenOf pd_0 rfl) rfl rfl (hb hby at_24) rfl (fun _ T387 Lc387 X387 hQ387 => ?_)
    obtain ⟨rfl, N387q, Kp387, Op387, R387_0, R387_1, R387_2, R387_3⟩ := hQ387
    have N387 := Fr.app N0 N387q
    have K389 := K386.trans Kp387 (allS (Or.inr sz_b385) all0)
    refine Rch.st (fun _ hr => XS.astore X387.here hx rfl (hb hby at_27) rfl rfl (l' := #[.val (.int p0), .val (.int p1), .val (.int p2), .val (.int p3), .val (.int p4), .val (.int p5), .val (.int (3 : Int32)), .val (.int sc), .val (.int cnt), .val (.ref b385), .unset, .unset, .unset, .unset, .unset, .unset, .unset]) rfl hr) ?_
    refine Rch.st (fun _ hr => XS.iloadN X387.here hx rfl (hb hby at_29) rfl hr) ?_
    refine Rch.st (fun _ hr => XS.i2l X387.here hx rfl (hb hby at_30) rfl hr) ?_
    refine Rch.st (fun _ hr => XS.iload X387.here hx rfl (hb hby at_31) rfl hr) ?_
    show Rch p.tables e below _ (T387.setTop (mkF m 33 #[.val (.int p0), .val (.int p1), .val (.int p2), .val (.int p3), .val (.int p4), .val (.int p5), .val (.int (3 : Int32)), .val (.int sc), .val (.int cnt), .val (.ref b385), .unset, .unset, .unset, .unset, .unset, .unset, .unset] [(.int sc), (.long (p1.toInt64))]))
    refine own_kS X387 hx hZ (y := Y_5) hown (own_w hw 26 rfl) (own_w hw 27 rfl) (own_w hw 28 rfl) (own_w hw 29 rfl) (by decide) (W := 0) (cvalueOfS l Z a0 hw [] (p1.toInt64) sc wz wy T387.heap n0 zD0 zD1 zD6 zD7 Op387 (Bk.ne (Bk.i2l p1) (by decide)) hsc.2.nn hsc.2.lt) (by decide) (by decide) rfl (by decide) (by decide)  (by rw [hml]; rfl) (argsL := [(.long (p1.toInt64)), (.int sc)]) (rest := []) (lenOf pd_5 rfl) rfl rfl (hb hby at_33) rfl (fun _ T390 Lc390 X390 hQ390 => ?_)
    obtain ⟨r_390, rfl, N390q, Kp390, Op390, R390_0⟩ := hQ390
    have N390 := Fr.app N387 N390q
    have K391 := K389.trans Kp390 all0
    have BE390 : BE Z T390.heap r_390 (p1.toInt64) sc (1 : Int) := ⟨R390_0.1, sc, R390_0, Or.inl rfl, ((Bk.i2l p1)).mono (by decide)⟩
    refine Rch.st (fun _ hr => XS.astore X390.here hx rfl (hb hby at_36) rfl rfl (l' := #[.val (.int p0), .val (.int p1), .val (.int p2), .val (.int p3), .val (.int p4), .val (.int p5), .val (.int (3 : Int32)), .val (.int sc), .val (.int cnt), .val (.ref b385), .val (.ref r_390), .unset, .unset, .unset, .unset, .unset, .unset]) rfl hr) ?_
    refine Rch.st (fun _ hr => XS.iload X390.here hx rfl (hb hby at_38) rfl hr) ?_
    refine Rch.st (fun _ hr => XS.iconst X390.here hx rfl (hb hby at_40) hr) ?_
    refine Rch.st (fun _ hr => XS.icmpNo X390.here hx rfl (hb hby at_41) rfl (flt (by decide : ¬ ((3 : Int32) < (1 : Int32)))).1 hr) ?_
    refine Rch.st (fun _ hr => XS.aload X390.here hx rfl (hb hby at_44) rfl rfl hr) ?_
    obtain ⟨T392, h392, X392, e392, E392, A392, D392, -, st392⟩ := newO X390 hx hZ hown (own_w hw 110 rfl) (own_w hw 111 rfl) (own_w hw 112 rfl) rfl (g := (mkF m 46 #[.val (.int p0), .val (.int p1), .val (.int p2), .val (.int p3), .val (.int p4), .val (.int p5), .val (.int (3 : Int32)), .val (.int sc), .val (.int cnt), .val (.ref b385), .val (.ref r_390), .unset, .unset, .unset, .unset, .unset, .unset] [(.ref b385)])) rfl (hb hby at_46) (by decide) (by decide)
    obtain ⟨b392, g392⟩ : ∃ z, z = T390.heap.size := ⟨_, rfl⟩
    rw [← g392] at A392 D392 st392
    refine Rch.st st392 ?_
    have q392 : T390.heap.size ≤ b392 := Nat.le_of_eq g392.symm
    have f393 := (R387_3.keep Kp390 nin0)
    have ne394 := Nat.ne_of_lt (Nat.lt_of_lt_of_le f393.lt q392)
    have ne395 := Nat.ne_of_lt (Nat.lt_of_lt_of_le BE390.lt q392)
    have g_b392 : n0 ≤ b392 := Nat.le_trans (Nat.le_trans (Nat.le_of_eq Op390.1.symm) Op390.2.1) q392
    have sz_b392 : h0.size ≤ b392 := Nat.le_trans K391.1 q392
    have K396 := K391.ext E392
    have F392_id : Fld Z h392 b392 "com/example/slotwright/slotwright/Market$Advertiser" "id" "Ljava/lang/String;" .null := D392 (Or.inr (own_w hw 131 rfl)) (ty := (.object "java/lang/String")) (by decide)
    have F392_budget : Fld Z h392 b392 "com/example/slotwright/slotwright/Market$Advertiser" "budget" "Ljava/math/BigDecimal;" .null := D392 (Or.inr (own_w hw 133 rfl)) (ty := (.object "java/math/BigDecimal")) (by decide)
    refine Rch.st (fun _ hr => XS.dup X392.here hx rfl (hb hby at_49) rfl rfl hr) ?_
    have hS0 : s.Since s.vm h392.size := (State.WarmedH.refl s).since _
    obtain ⟨b397, T397, h397, kk397, X397, e397, E397, hS397, hk397, hZ397, hown397, st397⟩ := ldcS (s := s) (vm0 := s.vm) X392 hx hZ hown (own_w hw 113 rfl) hwS e392 hS0 (Nat.le_refl _) (g := (mkF m 50 #[.val (.int p0), .val (.int p1), .val (.int p2), .val (.int p3), .val (.int p4), .val (.int p5), .val (.int (3 : Int32)), .val (.int sc), .val (.int cnt), .val (.ref b385), .val (.ref r_390), .unset, .unset, .unset, .unset, .unset, .unset] [(.ref b392), (.ref b392), (.ref b385)])) rfl (hb hby at_50) (n := 4) (by decide) (by decide) (by decide) (by decide)
    refine Rch.st st397 ?_
    have f398 := (Op390.ext E392)
    have K399 := K396.ext E397
    show Rch p.tables e below _ (T397.setTop (mkF m 52 #[.val (.int p0), .val (.int p1), .val (.int p2), .val (.int p3), .val (.int p4), .val (.int p5), .val (.int (3 : Int32)), .val (.int sc), .val (.int cnt), .val (.ref b385), .val (.ref r_390), .unset, .unset, .unset, .unset, .unset, .unset] [(.ref b397), (.ref b392), (.ref b392), (.ref b385)]))
    refine Rch.st (fun _ hr => XS.aload X397.here hx rfl (hb hby at_52) rfl rfl hr) ?_
    have f401 := (f398.ext E397)
    have f402 := (A392.ext E397)
    have f403 := (F392_id.ext E397)
    have f404 := (F392_budget.ext E397)
    show Rch p.tables e below _ (T397.setTop (mkF m 54 #[.val (.int p0), .val (.int p1), .val (.int p2), .val (.int p3), .val (.int p4), .val (.int p5), .val (.int (3 : Int32)), .val (.int sc), .val (.int cnt), .val (.ref b385), .val (.ref r_390), .unset, .unset, .unset, .unset, .unset, .unset] [(.ref r_390), (.ref b397), (.ref b392), (.ref b392), (.ref b385)]))
    refine own_kI X397 hx hZ397 (y := Y_34) rfl hown397 (own_w hw 121 rfl) (own_w hw 122 rfl) (own_w hw 112 rfl) (own_w hw 123 rfl) (by decide) (W := 2) (cadv l Z a0 hw [] b392 b397 r_390 h397 n0 f401 f402 f403 f404 g_b392) (by decide) (by decide) e397 (by decide) (by decide)  (by rw [hml]; rfl) (a := b392) (argsL := [(.ref b397), (.ref r_390)]) (rest := [(.ref b392), (.ref b385)]) (lenOf pd_23 rfl) rfl rfl (hb hby at_54) rfl (fun _ T400 Lc400 X400 hQ400 => ?_)
    obtain ⟨rfl, N400q, Kp400, Op400, R400_0, R400_1⟩ := hQ400
    have N400 := Fr.app N390 N400q
    have K405 := K399.trans Kp400 (allS (Or.inr sz_b392) all0)
    have f407 := ((((R387_0.keep Kp390).ext E392).ext E397).keep Kp400)
    have f408 := ((((R387_1.keep Kp390 nin0).ext E392).ext E397).keep Kp400 (ninS ne394 nin0))
    have f409 := ((((R387_2.keep Kp390 nin0).ext E392).ext E397).keep Kp400 (ninS ne394 nin0))
    have f410 := (((f393.ext E392).ext E397).keep Kp400 (ninS ne394 nin0))
    show Rch p.tables e below _ (T400.setTop (mkF m 57 #[.val (.int p0), .val (.int p1), .val (.int p2), .val (.int p3), .val (.int p4), .val (.int p5), .val (.int (3 : Int32)), .val (.int sc), .val (.int cnt), .val (.ref b385), .val (.ref r_390), .unset, .unset, .unset, .unset, .unset, .unset] [(.ref b392), (.ref b385)]))
    refine own_kF X400 hx hZ397 (xi := Y_35) (y := Y_36) hown397 (own_w hw 134 rfl) (own_w hw 135 rfl) (mvT hZ397 (own_w hw 136 rfl)) (own_w hw 137 rfl) (own_w hw 138 rfl) (own_w hw 139 rfl) (own_w hw 140 rfl) (own_w hw 50 rfl) (own_w hw 2 rfl) (own_w hw 141 rfl) (by decide) (W := 0) (cadd0 l Z a0 hw [] b385 de kde (0 : Int32) b392 T400.heap n0 zD2 zD3 Op400 f407 f408 f409 f410 R400_0 g_b385 ne394) (by decide) (by decide) rfl f407 (by decide) (by decide)  (by rw [hml]; rfl) (argsL := [(.ref b392)]) (rest := []) (lenOf pd_24 rfl) rfl rfl (hb hby at_57) rfl (fun _ T406 Lc406 X406 hQ406 => ?_)
    obtain ⟨d_406, kd_406, rfl, N406q, Kp406, Op406, R406_0, R406_1, R406_2, R406_3, R406_4, R406_5, R406_6⟩ := hQ406
    have N406 := Fr.app N400 N406q
    have ne411 := Nat.ne_of_lt (Nat.lt_of_lt_of_le f410.lt R406_4)
    have f412 := (((BE390.ext E392).ext E397).keep Kp400 (ninS ne395 nin0))
    have ne413 := Nat.ne_of_lt (Nat.lt_of_lt_of_le f412.lt R406_4)
    have ne414 := Nat.ne_of_lt (Nat.lt_of_lt_of_le R400_1.lt R406_4)
    have g_d_406 : n0 ≤ d_406 := Nat.le_trans (Nat.le_trans (Nat.le_of_eq Op400.1.symm) Op400.2.1) R406_4
    have sz_d_406 : h0.size ≤ d_406 := Nat.le_trans K405.1 R406_4
    have ne415 := (Exa.ne f412.1 f407 (by decide))
    have K416 := K405.trans Kp406 (allS (Or.inr sz_b385) all0)
    refine Rch.st (fun _ hr => XS.pop X406.here hx rfl (hb hby at_62) rfl rfl hr) ?_
    refine Rch.st (fun _ hr => XS.iload X406.here hx rfl (hb hby at_63) rfl hr) ?_
    refine Rch.st (fun _ hr => XS.iconst X406.here hx rfl (hb hby at_65) hr) ?_
    refine Rch.st (fun _ hr => XS.icmpNo X406.here hx rfl (hb hby at_66) rfl (flt (by decide : ¬ ((3 : Int32) < (2 : Int32)))).1 hr) ?_
    refine Rch.st (fun _ hr => XS.aload X406.here hx rfl (hb hby at_69) rfl rfl hr) ?_
    obtain ⟨T417, h417, X417, e417, E417, A417, D417, -, st417⟩ := newO X406 hx hZ397 hown397 (own_w hw 110 rfl) (own_w hw 111 rfl) (own_w hw 112 rfl) rfl (g := (mkF m 71 #[.val (.int p0), .val (.int p1), .val (.int p2), .val (.int p3), .val (.int p4), .val (.int p5), .val (.int (3 : Int32)), .val (.int sc), .val (.int cnt), .val (.ref b385), .val (.ref r_390), .unset, .unset, .unset, .unset, .unset, .unset] [(.ref b385)])) rfl (hb hby at_71) (by decide) (by decide)
    obtain ⟨b417, g417⟩ : ∃ z, z = T406.heap.size := ⟨_, rfl⟩
    rw [← g417] at A417 D417 st417
    refine Rch.st st417 ?_
    have q417 : T406.heap.size ≤ b417 := Nat.le_of_eq g417.symm
    have ne418 := Nat.ne_of_lt (Nat.lt_of_lt_of_le R406_3.lt q417)
    have f419 := (f412.1.keep Kp406)
    have ne420 := Nat.ne_of_lt (Nat.lt_of_lt_of_le f419.lt q417)
    have f421 := (R400_1.keep Kp406 (ninS (Ne.symm ne394) nin0))
    have ne422 := Nat.ne_of_lt (Nat.lt_of_lt_of_le f421.lt q417)
    have ne423 := Nat.ne_of_lt (Nat.lt_of_lt_of_le R406_5.lt q417)
    have g_b417 : n0 ≤ b417 := Nat.le_trans (Nat.le_trans (Nat.le_of_eq Op406.1.symm) Op406.2.1) q417
    have sz_b417 : h0.size ≤ b417 := Nat.le_trans K416.1 q417
    have K424 := K416.ext E417
    have F417_id : Fld Z h417 b417 "com/example/slotwright/slotwright/Market$Advertiser" "id" "Ljava/lang/String;" .null := D417 (Or.inr (own_w hw 131 rfl)) (ty := (.object "java/lang/String")) (by decide)
    have F417_budget : Fld Z h417 b417 "com/example/slotwright/slotwright/Market$Advertiser" "budget" "Ljava/math/BigDecimal;" .null := D417 (Or.inr (own_w hw 133 rfl)) (ty := (.object "java/math/BigDecimal")) (by decide)
    refine Rch.st (fun _ hr => XS.dup X417.here hx rfl (hb hby at_74) rfl rfl hr) ?_
    obtain ⟨b425, T425, h425, kk425, X425, e425, E425, hS425, hk425, hZ425, hown425, st425⟩ := ldcS (s := s) (vm0 := T397.vm) X417 hx hZ397 hown397 (own_w hw 209 rfl) hwS e417 hS397 (Nat.le_trans (Nat.le_trans (Nat.le_trans hk397 Kp400.1) Kp406.1) E417.1) (g := (mkF m 75 #[.val (.int p0), .val (.int p1), .val (.int p2), .val (.int p3), .val (.int p4), .val (.int p5), .val (.int (3 : Int32)), .val (.int sc), .val (.int cnt), .val (.ref b385), .val (.ref r_390), .unset, .unset, .unset, .unset, .unset, .unset] [(.ref b417), (.ref b417), (.ref b385)])) rfl (hb hby at_75) (n := 4) (by decide) (by decide) (by decide) (by decide)
    refine Rch.st st425 ?_
    have f426 := (Op406.ext E417)
    have K427 := K424.ext E425
    refine Rch.st (fun _ hr => XS.iload X425.here hx rfl (hb hby at_77) rfl hr) ?_
    refine Rch.st (fun _ hr => XS.i2l X425.here hx rfl (hb hby at_79) rfl hr) ?_
    refine Rch.st (fun _ hr => XS.iload X425.here hx rfl (hb hby at_80) rfl hr) ?_
    have f429 := (f426.ext E425)
    show Rch p.tables e below _ (T425.setTop (mkF m 82 #[.val (.int p0), .val (.int p1), .val (.int p2), .val (.int p3), .val (.int p4), .val (.int p5), .val (.int (3 : Int32)), .val (.int sc), .val (.int cnt), .val (.ref b385), .val (.ref r_390), .unset, .unset, .unset, .unset, .unset, .unset] [(.int sc), (.long (p5.toInt64)), (.ref b425), (.ref b417), (.ref b417), (.ref b385)]))
    refine own_kS X425 hx hZ425 (y := Y_5) hown425 (own_w hw 26 rfl) (own_w hw 27 rfl) (own_w hw 28 rfl) (own_w hw 29 rfl) (by decide) (W := 4) (cvalueOfS l Z a0 hw [] (p5.toInt64) sc wz wy h425 n0 zD0 zD1 zD6 zD7 f429 (Bk.ne (Bk.i2l p5) (by decide)) hsc.2.nn hsc.2.lt) (by decide) (by decide) e425 (by decide) (by decide)  (by rw [hml]; rfl) (argsL := [(.long (p5.toInt64)), (.int sc)]) (rest := [(.ref b425), (.ref b417), (.ref b417), (.ref b385)]) (lenOf pd_5 rfl) rfl rfl (hb hby at_82) rfl (fun _ T428 Lc428 X428 hQ428 => ?_)
    obtain ⟨r_428, rfl, N428q, Kp428, Op428, R428_0⟩ := hQ428
    have N428 := Fr.app N406 N428q
    have K430 := K427.trans Kp428 all0
    have BE428 : BE Z T428.heap r_428 (p5.toInt64) sc (1 : Int) := ⟨R428_0.1, sc, R428_0, Or.inl rfl, ((Bk.i2l p5)).mono (by decide)⟩
    have f432 := ((A417.ext E425).keep Kp428)
    have f433 := ((F417_id.ext E425).keep Kp428 nin0)
    have f434 := ((F417_budget.ext E425).keep Kp428 nin0)
    show Rch p.tables e below _ (T428.setTop (mkF m 85 #[.val (.int p0), .val (.int p1), .val (.int p2), .val (.int p3), .val (.int p4), .val (.int p5), .val (.int (3 : Int32)), .val (.int sc), .val (.int cnt), .val (.ref b385), .val (.ref r_390), .unset, .unset, .unset, .unset, .unset, .unset] [(.ref r_428), (.ref b425), (.ref b417), (.ref b417), (.ref b385)]))
    refine own_kI X428 hx hZ425 (y := Y_34) rfl hown425 (own_w hw 121 rfl) (own_w hw 122 rfl) (own_w hw 112 rfl) (own_w hw 123 rfl) (by decide) (W := 2) (cadv l Z a0 hw [] b417 b425 r_428 T428.heap n0 Op428 f432 f433 f434 g_b417) (by decide) (by decide) rfl (by decide) (by decide)  (by rw [hml]; rfl) (a := b417) (argsL := [(.ref b425), (.ref r_428)]) (rest := [(.ref b417), (.ref b385)]) (lenOf pd_23 rfl) rfl rfl (hb hby at_85) rfl (fun _ T431 Lc431 X431 hQ431 => ?_)
    obtain ⟨rfl, N431q, Kp431, Op431, R431_0, R431_1⟩ := hQ431
    have N431 := Fr.app N428 N431q
    have ne435 := (Exa.ne BE428.1 f432 (by decide))
    have K436 := K430.trans Kp431 (allS (Or.inr sz_b417) all0)
    show Rch p.tables e below _ (T431.setTop (mkF m 88 #[.val (.int p0), .val (.int p1), .val (.int p2), .val (.int p3), .val (.int p4), .val (.int p5), .val (.int (3 : Int32)), .val (.int sc), .val (.int cnt), .val (.ref b385), .val (.ref r_390), .unset, .unset, .unset, .unset, .unset, .unset] [(.ref b417), (.ref b385)]))
    have f438 := ((((R406_0.ext E417).ext E425).keep Kp428).keep Kp431)
    have f439 := ((((R406_1.ext E417).ext E425).keep Kp428 nin0).keep Kp431 (ninS ne418 nin0))
    have f440 := ((((R406_2.ext E417).ext E425).keep Kp428 nin0).keep Kp431 (ninS ne418 nin0))
    have f441 := ((((R406_3.ext E417).ext E425).keep Kp428 nin0).keep Kp431 (ninS ne418 nin0))
    have f442 := ((((R406_5.ext E417).ext E425).keep Kp428 nin0).keep Kp431 (ninS ne423 nin0))
    have f443 := R406_6
    show Rch p.tables e below _ (T431.setTop (mkF m 88 #[.val (.int p0), .val (.int p1), .val (.int p2), .val (.int p3), .val (.int p4), .val (.int p5), .val (.int (3 : Int32)), .val (.int sc), .val (.int cnt), .val (.ref b385), .val (.ref r_390), .unset, .unset, .unset, .unset, .unset, .unset] [(.ref b417), (.ref b385)]))
    refine own_kF X431 hx hZ425 (xi := Y_35) (y := Y_36) hown425 (own_w hw 134 rfl) (own_w hw 135 rfl) (mvT hZ425 (own_w hw 136 rfl)) (own_w hw 137 rfl) (own_w hw 138 rfl) (own_w hw 139 rfl) (own_w hw 140 rfl) (own_w hw 50 rfl) (own_w hw 2 rfl) (own_w hw 141 rfl) (by decide) (W := 0) (cadd1 l Z a0 hw [] b385 d_406 kd_406 ((0 : Int32) + (1 : Int32)) b392 b417 T431.heap n0 Op431 f438 f439 f440 f441 R431_0 f442 f443 g_b385 g_d_406 ne411) (by decide) (by decide) rfl f438 (by decide) (by decide)  (by rw [hml]; rfl) (argsL := [(.ref b417)]) (rest := []) (lenOf pd_24 rfl) rfl rfl (hb hby at_88) rfl (fun _ T437 Lc437 X437 hQ437 => ?_)
    obtain ⟨rfl, N437q, Kp437, Op437, R437_0, R437_1, R437_2, R437_3, R437_4⟩ := hQ437
    have N437 := Fr.app N431 N437q
    have f444 := (BE428.1.keep Kp431)
    have ne445 := (Exa.ne f444 f438 (by decide))
    have ne446 := (Exa.neArv f444 f442 (own_w hw 81 rfl))
    have K447 := K436.trans Kp437 (allS (Or.inr sz_b385) (allS (Or.inr sz_d_406) all0))
    refine Rch.st (fun _ hr => XS.pop X437.here hx rfl (hb hby at_93) rfl rfl hr) ?_
    refine Rch.st (fun _ hr => XS.iload X437.here hx rfl (hb hby at_94) rfl hr) ?_
    refine Rch.st (fun _ hr => XS.iconst X437.here hx rfl (hb hby at_96) hr) ?_
    refine Rch.st (fun _ hr => XS.icmpNo X437.here hx rfl (hb hby at_97) rfl (flt (by decide : ¬ ((3 : Int32) < (3 : Int32)))).1 hr) ?_
    refine Rch.st (fun _ hr => XS.aload X437.here hx rfl (hb hby at_100) rfl rfl hr) ?_
    obtain ⟨T448, h448, X448, e448, E448, A448, D448, -, st448⟩ := newO X437 hx hZ425 hown425 (own_w hw 110 rfl) (own_w hw 111 rfl) (own_w hw 112 rfl) rfl (g := (mkF m 102 #[.val (.int p0), .val (.int p1), .val (.int p2), .val (.int p3), .val (.int p4), .val (.int p5), .val (.int (3 : Int32)), .val (.int sc), .val (.int cnt), .val (.ref b385), .val (.ref r_390), .unset, .unset, .unset, .unset, .unset, .unset] [(.ref b385)])) rfl (hb hby at_102) (by decide) (by decide)
    obtain ⟨b448, g448⟩ : ∃ z, z = T437.heap.size := ⟨_, rfl⟩
    rw [← g448] at A448 D448 st448
    refine Rch.st st448 ?_
    have q448 : T437.heap.size ≤ b448 := Nat.le_of_eq g448.symm
    have ne449 := Nat.ne_of_lt (Nat.lt_of_lt_of_le R437_3.lt q448)
    have f450 := (((((f419.ext E417).ext E425).keep Kp428).keep Kp431).keep Kp437)
    have ne451 := Nat.ne_of_lt (Nat.lt_of_lt_of_le f450.lt q448)
    have f452 := (((((f421.ext E417).ext E425).keep Kp428 nin0).keep Kp431 (ninS ne422 nin0)).keep Kp437 (ninS (Ne.symm ne394) (ninS ne414 nin0)))
    have ne453 := Nat.ne_of_lt (Nat.lt_of_lt_of_le f452.lt q448)
    have f454 := (R431_1.keep Kp437 (ninS (Ne.symm ne418) (ninS (Ne.symm ne423) nin0)))
    have ne455 := Nat.ne_of_lt (Nat.lt_of_lt_of_le f454.lt q448)
    have f456 := (f444.keep Kp437)
    have ne457 := Nat.ne_of_lt (Nat.lt_of_lt_of_le f456.lt q448)
    have ne458 := Nat.ne_of_lt (Nat.lt_of_lt_of_le R437_4.lt q448)
    have g_b448 : n0 ≤ b448 := Nat.le_trans (Nat.le_trans (Nat.le_of_eq Op437.1.symm) Op437.2.1) q448
    have sz_b448 : h0.size ≤ b448 := Nat.le_trans K447.1 q448
    have K459 := K447.ext E448
    have F448_id : Fld Z h448 b448 "com/example/slotwright/slotwright/Market$Advertiser" "id" "Ljava/lang/String;" .null := D448 (Or.inr (own_w hw 131 rfl)) (ty := (.object "java/lang/String")) (by decide)
    have F448_budget : Fld Z h448 b448 "com/example/slotwright/slotwright/Market$Advertiser" "budget" "Ljava/math/BigDecimal;" .null := D448 (Or.inr (own_w hw 133 rfl)) (ty := (.object "java/math/BigDecimal")) (by decide)
    refine Rch.st (fun _ hr => XS.dup X448.here hx rfl (hb hby at_105) rfl rfl hr) ?_
    obtain ⟨b460, T460, h460, kk460, X460, e460, E460, hS460, hk460, hZ460, hown460, st460⟩ := ldcS (s := s) (vm0 := T425.vm) X448 hx hZ425 hown425 (own_w hw 210 rfl) hwS e448 hS425 (Nat.le_trans (Nat.le_trans (Nat.le_trans (Nat.le_trans hk425 Kp428.1) Kp431.1) Kp437.1) E448.1) (g := (mkF m 106 #[.val (.int p0), .val (.int p1), .val (.int p2), .val (.int p3), .val (.int p4), .val (.int p5), .val (.int (3 : Int32)), .val (.int sc), .val (.int cnt), .val (.ref b385), .val (.ref r_390), .unset, .unset, .unset, .unset, .unset, .unset] [(.ref b448), (.ref b448), (.ref b385)])) rfl (hb hby at_106) (n := 4) (by decide) (by decide) (by decide) (by decide)
    refine Rch.st st460 ?_
    have f461 := (Op437.ext E448)
    have K462 := K459.ext E460
    refine Rch.st (fun _ hr => XS.aload X460.here hx rfl (hb hby at_108) rfl rfl hr) ?_
    have f464 := (f461.ext E460)
    have f465 := (A448.ext E460)
    have f466 := (F448_id.ext E460)
    have f467 := (F448_budget.ext E460)
    show Rch p.tables e below _ (T460.setTop (mkF m 110 #[.val (.int p0), .val (.int p1), .val (.int p2), .val (.int p3), .val (.int p4), .val (.int p5), .val (.int (3 : Int32)), .val (.int sc), .val (.int cnt), .val (.ref b385), .val (.ref r_390), .unset, .unset, .unset, .unset, .unset, .unset] [(.ref r_390), (.ref b460), (.ref b448), (.ref b448), (.ref b385)]))
    refine own_kI X460 hx hZ460 (y := Y_34) rfl hown460 (own_w hw 121 rfl) (own_w hw 122 rfl) (own_w hw 112 rfl) (own_w hw 123 rfl) (by decide) (W := 2) (cadv l Z a0 hw [] b448 b460 r_390 h460 n0 f464 f465 f466 f467 g_b448) (by decide) (by decide) e460 (by decide) (by decide)  (by rw [hml]; rfl) (a := b448) (argsL := [(.ref b460), (.ref r_390)]) (rest := [(.ref b448), (.ref b385)]) (lenOf pd_23 rfl) rfl rfl (hb hby at_110) rfl (fun _ T463 Lc463 X463 hQ463 => ?_)
    obtain ⟨rfl, N463q, Kp463, Op463, R463_0, R463_1⟩ := hQ463
    have N463 := Fr.app N437 N463q
    have K468 := K462.trans Kp463 (allS (Or.inr sz_b448) all0)
    have f470 := (((R437_0.ext E448).ext E460).keep Kp463)
    have f471 := (((R437_1.ext E448).ext E460).keep Kp463 (ninS ne449 nin0))
    have f472 := (((R437_2.ext E448).ext E460).keep Kp463 (ninS ne449 nin0))
    have f473 := (((R437_3.ext E448).ext E460).keep Kp463 (ninS ne449 nin0))
    have f474 := (((R437_4.ext E448).ext E460).keep Kp463 (ninS ne458 nin0))
    have f475 := f443
    show Rch p.tables e below _ (T463.setTop (mkF m 113 #[.val (.int p0), .val (.int p1), .val (.int p2), .val (.int p3), .val (.int p4), .val (.int p5), .val (.int (3 : Int32)), .val (.int sc), .val (.int cnt), .val (.ref b385), .val (.ref r_390), .unset, .unset, .unset, .unset, .unset, .unset] [(.ref b448), (.ref b385)]))
    refine own_kF X463 hx hZ460 (xi := Y_35) (y := Y_36) hown460 (own_w hw 134 rfl) (own_w hw 135 rfl) (mvT hZ460 (own_w hw 136 rfl)) (own_w hw 137 rfl) (own_w hw 138 rfl) (own_w hw 139 rfl) (own_w hw 140 rfl) (own_w hw 50 rfl) (own_w hw 2 rfl) (own_w hw 141 rfl) (by decide) (W := 0) (cadd2 l Z a0 hw [] b385 d_406 kd_406 (((0 : Int32) + (1 : Int32)) + (1 : Int32)) b392 b417 b448 T463.heap n0 Op463 f470 f471 f472 f473 R463_0 f474 f475 g_b385 g_d_406 ne411) (by decide) (by decide) rfl f470 (by decide) (by decide)  (by rw [hml]; rfl) (argsL := [(.ref b448)]) (rest := []) (lenOf pd_24 rfl) rfl rfl (hb hby at_113) rfl (fun _ T469 Lc469 X469 hQ469 => ?_)
    obtain ⟨rfl, N469q, Kp469, Op469, R469_0, R469_1, R469_2, R469_3, R469_4⟩ := hQ469
    have N469 := Fr.app N463 N469q
    have K476 := K468.trans Kp469 (allS (Or.inr sz_b385) (allS (Or.inr sz_d_406) all0))
    refine Rch.st (fun _ hr => XS.pop X469.here hx rfl (hb hby at_118) rfl rfl hr) ?_
    obtain ⟨T477, h477, X477, e477, E477, A477, D477, -, st477⟩ := newO X469 hx hZ460 hown460 (own_w hw 34 rfl) (own_w hw 35 rfl) (own_w hw 36 rfl) rfl (g := (mkF m 119 #[.val (.int p0), .val (.int p1), .val (.int p2), .val (.int p3), .val (.int p4), .val (.int p5), .val (.int (3 : Int32)), .val (.int sc), .val (.int cnt), .val (.ref b385), .val (.ref r_390), .unset, .unset, .unset, .unset, .unset, .unset] [])) rfl (hb hby at_119) (by decide) (by decide)
    obtain ⟨b477, g477⟩ : ∃ z, z = T469.heap.size := ⟨_, rfl⟩
    rw [← g477] at A477 D477 st477
    refine Rch.st st477 ?_
    have q477 : T469.heap.size ≤ b477 := Nat.le_of_eq g477.symm
    have ne478 := Nat.ne_of_lt (Nat.lt_of_lt_of_le R469_3.lt q477)
    have f479 := ((((f450.ext E448).ext E460).keep Kp463).keep Kp469)
    have ne480 := Nat.ne_of_lt (Nat.lt_of_lt_of_le f479.lt q477)
    have f481 := ((((f452.ext E448).ext E460).keep Kp463 (ninS ne453 nin0)).keep Kp469 (ninS (Ne.symm ne394) (ninS ne414 nin0)))
    have ne482 := Nat.ne_of_lt (Nat.lt_of_lt_of_le f481.lt q477)
    have f483 := ((((f454.ext E448).ext E460).keep Kp463 (ninS ne455 nin0)).keep Kp469 (ninS (Ne.symm ne418) (ninS (Ne.symm ne423) nin0)))
    have ne484 := Nat.ne_of_lt (Nat.lt_of_lt_of_le f483.lt q477)
    have f485 := ((((f456.ext E448).ext E460).keep Kp463).keep Kp469)
    have ne486 := Nat.ne_of_lt (Nat.lt_of_lt_of_le f485.lt q477)
    have f487 := (R463_1.keep Kp469 (ninS (Ne.symm ne449) (ninS (Ne.symm ne458) nin0)))
    have ne488 := Nat.ne_of_lt (Nat.lt_of_lt_of_le f487.lt q477)
    have ne489 := Nat.ne_of_lt (Nat.lt_of_lt_of_le R469_4.lt q477)
    have g_b477 : n0 ≤ b477 := Nat.le_trans (Nat.le_trans (Nat.le_of_eq Op469.1.symm) Op469.2.1) q477
    have sz_b477 : h0.size ≤ b477 := Nat.le_trans K476.1 q477
    have K490 := K476.ext E477
    have F477_advertisers : Fld Z h477 b477 "com/example/slotwright/slotwright/Ledger" "advertisers" "Ljava/util/List;" .null := D477 (Or.inr (own_w hw 42 rfl)) (ty := (.object "java/util/List")) (by decide)
    have F477_spent : Fld Z h477 b477 "com/example/slotwright/slotwright/Ledger" "spent" "[Ljava/math/BigDecimal;" .null := D477 (Or.inr (own_w hw 57 rfl)) (ty := (.array (.object "java/math/BigDecimal"))) (by decide)
    have F477_remaining : Fld Z h477 b477 "com/example/slotwright/slotwright/Ledger" "remaining" "[Ljava/math/BigDecimal;" .null := D477 (Or.inr (own_w hw 59 rfl)) (ty := (.array (.object "java/math/BigDecimal"))) (by decide)
    refine Rch.st (fun _ hr => XS.dup X477.here hx rfl (hb hby at_122) rfl rfl hr) ?_
    refine Rch.st (fun _ hr => XS.aload X477.here hx rfl (hb hby at_123) rfl rfl hr) ?_
    show Rch p.tables e below _ (T477.setTop (mkF m 125 #[.val (.int p0), .val (.int p1), .val (.int p2), .val (.int p3), .val (.int p4), .val (.int p5), .val (.int (3 : Int32)), .val (.int sc), .val (.int cnt), .val (.ref b385), .val (.ref r_390), .unset, .unset, .unset, .unset, .unset, .unset] [(.ref b385), (.ref b477), (.ref b477)]))
    have f492 := (Op469.ext E477)
    have f493 := (R469_0.ext E477)
    have f494 := (R469_2.ext E477)
    have f495 := (R469_1.ext E477)
    have f496 := (R469_4.ext E477)
    have f497 := (((((((((((R400_0.keep Kp406).ext E417).ext E425).keep Kp428).keep Kp431).keep Kp437).ext E448).ext E460).keep Kp463).keep Kp469).ext E477)
    have f498 := (f481.ext E477)
    have f499 := (f479.ext E477)
    have f500 := ((((((R431_0.keep Kp437).ext E448).ext E460).keep Kp463).keep Kp469).ext E477)
    have f501 := (f483.ext E477)
    have f502 := (f485.ext E477)
    have f503 := ((R463_0.keep Kp469).ext E477)
    have f504 := (f487.ext E477)
    show Rch p.tables e below _ (T477.setTop (mkF m 125 #[.val (.int p0), .val (.int p1), .val (.int p2), .val (.int p3), .val (.int p4), .val (.int p5), .val (.int (3 : Int32)), .val (.int sc), .val (.int cnt), .val (.ref b385), .val (.ref r_390), .unset, .unset, .unset, .unset, .unset, .unset] [(.ref b385), (.ref b477), (.ref b477)]))
    refine own_kI X477 hx hZ460 (y := Y_31) rfl hown460 (own_w hw 37 rfl) (own_w hw 38 rfl) (own_w hw 36 rfl) (own_w hw 39 rfl) (by decide) (W := 1) (cledger3 l Z a0 hw [] b477 b385 d_406 kd_406 b392 b417 b448 r_390 r_428 r_390 zz h477 n0 zD4 zD5 f492 A477 F477_advertisers F477_spent F477_remaining g_b477 f493 f494 f495 f496 f497 f498 f499 f500 f501 f502 f503 f504 f499) (by decide) (by decide) e477 (by decide) (by decide)  (by rw [hml]; rfl) (a := b477) (argsL := [(.ref b385)]) (rest := [(.ref b477)]) (lenOf pd_21 rfl) rfl rfl (hb hby at_125) rfl (fun _ T491 Lc491 X491 hQ491 => ?_)
    obtain ⟨sp_491, ks_491, rm_491, kr_491, rfl, N491q, Kp491, Op491, R491_0, R491_1, R491_2, R491_3, R491_4, R491_5, R491_6, R491_7, R491_8, R491_9⟩ := hQ491
    have N491 := Fr.app N469 N491q
    have f505 := (R469_3.ext E477)
    have ne506 := Nat.ne_of_lt (Nat.lt_of_lt_of_le f505.lt R491_3)
    have ne507 := Nat.ne_of_lt (Nat.lt_of_lt_of_le f499.lt R491_3)
    have ne508 := Nat.ne_of_lt (Nat.lt_of_lt_of_le f498.lt R491_3)
    have ne509 := Nat.ne_of_lt (Nat.lt_of_lt_of_le f501.lt R491_3)
    have ne510 := Nat.ne_of_lt (Nat.lt_of_lt_of_le f502.lt R491_3)
    have ne511 := Nat.ne_of_lt (Nat.lt_of_lt_of_le f504.lt R491_3)
    have ne512 := Nat.ne_of_lt (Nat.lt_of_lt_of_le f496.lt R491_3)
    have ne513 := Nat.ne_of_lt (Nat.lt_of_lt_of_le F477_remaining.lt R491_3)
    have g_sp_491 : n0 ≤ sp_491 := Nat.le_trans (Nat.le_trans (Nat.le_of_eq f492.1.symm) f492.2.1) R491_3
    have sz_sp_491 : h0.size ≤ sp_491 := Nat.le_trans K490.1 R491_3
    have ne514 := Nat.ne_of_lt (Nat.lt_of_lt_of_le f505.lt R491_4)
    have ne515 := Nat.ne_of_lt (Nat.lt_of_lt_of_le f499.lt R491_4)
    have ne516 := Nat.ne_of_lt (Nat.lt_of_lt_of_le f498.lt R491_4)
    have ne517 := Nat.ne_of_lt (Nat.lt_of_lt_of_le f501.lt R491_4)
    have ne518 := Nat.ne_of_lt (Nat.lt_of_lt_of_le f502.lt R491_4)
    have ne519 := Nat.ne_of_lt (Nat.lt_of_lt_of_le f504.lt R491_4)
    have ne520 := Nat.ne_of_lt (Nat.lt_of_lt_of_le f496.lt R491_4)
    have ne521 := Nat.ne_of_lt (Nat.lt_of_lt_of_le F477_remaining.lt R491_4)
    have g_rm_491 : n0 ≤ rm_491 := Nat.le_trans (Nat.le_trans (Nat.le_of_eq f492.1.symm) f492.2.1) R491_4
    have sz_rm_491 : h0.size ≤ rm_491 := Nat.le_trans K490.1 R491_4
    have K522 := K490.trans Kp491 (allS (Or.inr sz_b477) all0)
    have BEz491 : BE Z T491.heap zz (0 : Int64) sc (1 : Int) := BE.zero (zD5.ext Op491.2) (by decide)
    refine Rch.st (fun _ hr => XS.astore X491.here hx rfl (hb hby at_128) rfl rfl (l' := #[.val (.int p0), .val (.int p1), .val (.int p2), .val (.int p3), .val (.int p4), .val (.int p5), .val (.int (3 : Int32)), .val (.int sc), .val (.int cnt), .val (.ref b385), .val (.ref r_390), .val (.ref b477), .unset, .unset, .unset, .unset, .unset]) rfl hr) ?_
    refine Rch.st (fun _ hr => XS.lconst X491.here hx rfl (hb hby at_130) hr) ?_
    refine Rch.st (fun _ hr => XS.lstore X491.here hx rfl (hb hby at_131) rfl (l' := #[.val (.int p0), .val (.int p1), .val (.int p2), .val (.int p3), .val (.int p4), .val (.int p5), .val (.int (3 : Int32)), .val (.int sc), .val (.int cnt), .val (.ref b385), .val (.ref r_390), .val (.ref b477), .val (.long (0 : Int64)), .second, .unset, .unset, .unset]) rfl hr) ?_
    refine Rch.st (fun _ hr => XS.iload X491.here hx rfl (hb hby at_133) rfl hr) ?_
    refine Rch.st (fun _ hr => XS.ifNo X491.here hx rfl (hb hby at_135) rfl ((if0 _ _).trans (tlt (by decide : (0 : Int32) < (3 : Int32))).2.2.2) hr) ?_
    refine Rch.st (fun _ hr => XS.iloadN X491.here hx rfl (hb hby at_138) rfl hr) ?_
    refine Rch.st (fun _ hr => XS.iconst X491.here hx rfl (hb hby at_139) hr) ?_
    refine Rch.st (fun _ hr => XS.iushr X491.here hx rfl (hb hby at_140) rfl hr) ?_
    refine Rch.st (fun _ hr => XS.iconst X491.here hx rfl (hb hby at_141) hr) ?_
    refine Rch.st (fun _ hr => XS.iand X491.here hx rfl (hb hby at_142) rfl hr) ?_
    refine Rch.st (fun _ hr => XS.iload X491.here hx rfl (hb hby at_143) rfl hr) ?_
    refine Rch.st (fun _ hr => Jvm.RoadKit.iremM (g := (mkF m 145 #[.val (.int p0), .val (.int p1), .val (.int p2), .val (.int p3), .val (.int p4), .val (.int p5), .val (.int (3 : Int32)), .val (.int sc), .val (.int cnt), .val (.ref b385), .val (.ref r_390), .val (.ref b477), .val (.long (0 : Int64)), .second, .unset, .unset, .unset] [(.int (3 : Int32)), (.int (((p0.toUInt32 >>> ((4 : Int32) &&& 31).toUInt32).toInt32) &&& (3 : Int32)))])) X491 hx rfl (hb hby at_145) rfl (by decide) hr) ?_
    refine Rch.st (fun _ hr => XS.istore X491.here hx rfl (hb hby at_146) rfl (l' := #[.val (.int p0), .val (.int p1), .val (.int p2), .val (.int p3), .val (.int p4), .val (.int p5), .val (.int (3 : Int32)), .val (.int sc), .val (.int cnt), .val (.ref b385), .val (.ref r_390), .val (.ref b477), .val (.long (0 : Int64)), .second, .val (.int ((((p0.toUInt32 >>> ((4 : Int32) &&& 31).toUInt32).toInt32) &&& (3 : Int32)) % (3 : Int32))), .unset, .unset]) rfl hr) ?_
    show Rch p.tables e below _ (T491.setTop (mkF m 148 #[.val (.int p0), .val (.int p1), .val (.int p2), .val (.int p3), .val (.int p4), .val (.int p5), .val (.int (3 : Int32)), .val (.int sc), .val (.int cnt), .val (.ref b385), .val (.ref r_390), .val (.ref b477), .val (.long (0 : Int64)), .second, .val (.int ((((p0.toUInt32 >>> ((4 : Int32) &&& 31).toUInt32).toInt32) &&& (3 : Int32)) % (3 : Int32))), .unset, .unset] []))
    obtain ⟨ia, hia⟩ : ∃ z, z = ((((p0.toUInt32 >>> ((4 : Int32) &&& 31).toUInt32).toInt32) &&& (3 : Int32)) % (3 : Int32)) ∧ (z = (0 : Int32) ∨ z = (1 : Int32) ∨ z = (2 : Int32)) := ⟨_, rfl, own_rem3 _⟩
    rw [← hia.1]
    show Rch p.tables e below _ (T491.setTop (mkF m 148 #[.val (.int p0), .val (.int p1), .val (.int p2), .val (.int p3), .val (.int p4), .val (.int p5), .val (.int (3 : Int32)), .val (.int sc), .val (.int cnt), .val (.ref b385), .val (.ref r_390), .val (.ref b477), .val (.long (0 : Int64)), .second, .val (.int ia), .unset, .unset] []))
    refine Rch.st (fun _ hr => XS.iloadN X491.here hx rfl (hb hby at_148) rfl hr) ?_
    refine Rch.st (fun _ hr => XS.bipush X491.here hx rfl (hb hby at_149) hr) ?_
    refine Rch.st (fun _ hr => XS.iushr X491.here hx rfl (hb hby at_151) rfl hr) ?_
    refine Rch.st (fun _ hr => XS.iconst X491.here hx rfl (hb hby at_152) hr) ?_
    refine Rch.st (fun _ hr => XS.iand X491.here hx rfl (hb hby at_153) rfl hr) ?_
    refine Rch.st (fun _ hr => XS.iload X491.here hx rfl (hb hby at_154) rfl hr) ?_
    refine Rch.st (fun _ hr => Jvm.RoadKit.iremM (g := (mkF m 156 #[.val (.int p0), .val (.int p1), .val (.int p2), .val (.int p3), .val (.int p4), .val (.int p5), .val (.int (3 : Int32)), .val (.int sc), .val (.int cnt), .val (.ref b385), .val (.ref r_390), .val (.ref b477), .val (.long (0 : Int64)), .second, .val (.int ia), .unset, .unset] [(.int (3 : Int32)), (.int (((p0.toUInt32 >>> ((6 : Int32) &&& 31).toUInt32).toInt32) &&& (3 : Int32)))])) X491 hx rfl (hb hby at_156) rfl (by decide) hr) ?_
    refine Rch.st (fun _ hr => XS.istore X491.here hx rfl (hb hby at_157) rfl (l' := #[.val (.int p0), .val (.int p1), .val (.int p2), .val (.int p3), .val (.int p4), .val (.int p5), .val (.int (3 : Int32)), .val (.int sc), .val (.int cnt), .val (.ref b385), .val (.ref r_390), .val (.ref b477), .val (.long (0 : Int64)), .second, .val (.int ia), .val (.int ((((p0.toUInt32 >>> ((6 : Int32) &&& 31).toUInt32).toInt32) &&& (3 : Int32)) % (3 : Int32))), .unset]) rfl hr) ?_
    show Rch p.tables e below _ (T491.setTop (mkF m 159 #[.val (.int p0), .val (.int p1), .val (.int p2), .val (.int p3), .val (.int p4), .val (.int p5), .val (.int (3 : Int32)), .val (.int sc), .val (.int cnt), .val (.ref b385), .val (.ref r_390), .val (.ref b477), .val (.long (0 : Int64)), .second, .val (.int ia), .val (.int ((((p0.toUInt32 >>> ((6 : Int32) &&& 31).toUInt32).toInt32) &&& (3 : Int32)) % (3 : Int32))), .unset] []))
    obtain ⟨ib, hib⟩ : ∃ z, z = ((((p0.toUInt32 >>> ((6 : Int32) &&& 31).toUInt32).toInt32) &&& (3 : Int32)) % (3 : Int32)) ∧ (z = (0 : Int32) ∨ z = (1 : Int32) ∨ z = (2 : Int32)) := ⟨_, rfl, own_rem3 _⟩
    rw [← hib.1]
    show Rch p.tables e below _ (T491.setTop (mkF m 159 #[.val (.int p0), .val (.int p1), .val (.int p2), .val (.int p3), .val (.int p4), .val (.int p5), .val (.int (3 : Int32)), .val (.int sc), .val (.int cnt), .val (.ref b385), .val (.ref r_390), .val (.ref b477), .val (.long (0 : Int64)), .second, .val (.int ia), .val (.int ib), .unset] []))
    refine Rch.st (fun _ hr => XS.iloadN X491.here hx rfl (hb hby at_159) rfl hr) ?_
    refine Rch.st (fun _ hr => XS.bipush X491.here hx rfl (hb hby at_160) hr) ?_
    refine Rch.st (fun _ hr => XS.iushr X491.here hx rfl (hb hby at_162) rfl hr) ?_
    refine Rch.st (fun _ hr => XS.iconst X491.here hx rfl (hb hby at_163) hr) ?_
    refine Rch.st (fun _ hr => XS.iand X491.here hx rfl (hb hby at_164) rfl hr) ?_
    refine Rch.st (fun _ hr => XS.iload X491.here hx rfl (hb hby at_165) rfl hr) ?_
    refine Rch.st (fun _ hr => Jvm.RoadKit.iremM (g := (mkF m 167 #[.val (.int p0), .val (.int p1), .val (.int p2), .val (.int p3), .val (.int p4), .val (.int p5), .val (.int (3 : Int32)), .val (.int sc), .val (.int cnt), .val (.ref b385), .val (.ref r_390), .val (.ref b477), .val (.long (0 : Int64)), .second, .val (.int ia), .val (.int ib), .unset] [(.int (3 : Int32)), (.int (((p0.toUInt32 >>> ((8 : Int32) &&& 31).toUInt32).toInt32) &&& (3 : Int32)))])) X491 hx rfl (hb hby at_167) rfl (by decide) hr) ?_
    refine Rch.st (fun _ hr => XS.istore X491.here hx rfl (hb hby at_168) rfl (l' := #[.val (.int p0), .val (.int p1), .val (.int p2), .val (.int p3), .val (.int p4), .val (.int p5), .val (.int (3 : Int32)), .val (.int sc), .val (.int cnt), .val (.ref b385), .val (.ref r_390), .val (.ref b477), .val (.long (0 : Int64)), .second, .val (.int ia), .val (.int ib), .val (.int ((((p0.toUInt32 >>> ((8 : Int32) &&& 31).toUInt32).toInt32) &&& (3 : Int32)) % (3 : Int32)))]) rfl hr) ?_
    show Rch p.tables e below _ (T491.setTop (mkF m 170 #[.val (.int p0), .val (.int p1), .val (.int p2), .val (.int p3), .val (.int p4), .val (.int p5), .val (.int (3 : Int32)), .val (.int sc), .val (.int cnt), .val (.ref b385), .val (.ref r_390), .val (.ref b477), .val (.long (0 : Int64)), .second, .val (.int ia), .val (.int ib), .val (.int ((((p0.toUInt32 >>> ((8 : Int32) &&& 31).toUInt32).toInt32) &&& (3 : Int32)) % (3 : Int32)))] []))
    obtain ⟨ic, hic⟩ : ∃ z, z = ((((p0.toUInt32 >>> ((8 : Int32) &&& 31).toUInt32).toInt32) &&& (3 : Int32)) % (3 : Int32)) ∧ (z = (0 : Int32) ∨ z = (1 : Int32) ∨ z = (2 : Int32)) := ⟨_, rfl, own_rem3 _⟩
    rw [← hic.1]
    show Rch p.tables e below _ (T491.setTop (mkF m 170 #[.val (.int p0), .val (.int p1), .val (.int p2), .val (.int p3), .val (.int p4), .val (.int p5), .val (.int (3 : Int32)), .val (.int sc), .val (.int cnt), .val (.ref b385), .val (.ref r_390), .val (.ref b477), .val (.long (0 : Int64)), .second, .val (.int ia), .val (.int ib), .val (.int ic)] []))
    refine Rch.st (fun _ hr => XS.iload X491.here hx rfl (hb hby at_170) rfl hr) ?_
    refine Rch.st (fun _ hr => XS.iconst X491.here hx rfl (hb hby at_172) hr) ?_
    by_cases hc523 : cnt < (1 : Int32)
    · refine Rch.st (fun _ hr => XS.icmpYes X491.here hx rfl (pc0 := 173) (pc' := 197) rfl (hb hby at_173) rfl (tlt hc523).1 (by decide) (by decide) hr) ?_
      refine Rch.st (fun _ hr => XS.iload X491.here hx rfl (hb hby at_197) rfl hr) ?_
      refine Rch.st (fun _ hr => XS.iconst X491.here hx rfl (hb hby at_199) hr) ?_
      refine Rch.st (fun _ hr => XS.icmpYes X491.here hx rfl (pc0 := 200) (pc' := 224) rfl (hb hby at_200) rfl (tlt (own_lt12 hc523)).1 (by decide) (by decide) hr) ?_
      refine Rch.st (fun _ hr => XS.iload X491.here hx rfl (hb hby at_224) rfl hr) ?_
      refine Rch.st (fun _ hr => XS.iconst X491.here hx rfl (hb hby at_226) hr) ?_
      refine Rch.st (fun _ hr => XS.icmpYes X491.here hx rfl (pc0 := 227) (pc' := 253) rfl (hb hby at_227) rfl (tlt (own_lt23 (own_lt12 hc523))).1 (by decide) (by decide) hr) ?_
      refine Rch.st (fun _ hr => XS.aload X491.here hx rfl (hb hby at_253) rfl rfl hr) ?_
      show Rch p.tables e below _ (T491.setTop (mkF m 255 #[.val (.int p0), .val (.int p1), .val (.int p2), .val (.int p3), .val (.int p4), .val (.int p5), .val (.int (3 : Int32)), .val (.int sc), .val (.int cnt), .val (.ref b385), .val (.ref r_390), .val (.ref b477), .val (.long (0 : Int64)), .second, .val (.int ia), .val (.int ib), .val (.int ic)] [(.ref b477)]))
      refine own_kV X491 hx hZ460 (y := Y_32) (z := Y_32) hown460 (own_w hw 65 rfl) (own_w hw 66 rfl) (notFace_of_selects (args := #[]) (mvT hZ460 (own_w hw 68 rfl))) (own_w hw 68 rfl) (own_w hw 67 rfl) (own_w hw 36 rfl) (own_w hw 69 rfl) (by decide) (W := 0) (crev3 l Z a0 hw [] b477 sp_491 ks_491 zz zz zz (0 : Int64) (0 : Int64) (0 : Int64) sc (1 : Int) wz wy zz T491.heap n0 zD0 zD1 zD6 zD7 zD4 zD5 Op491 R491_1 R491_5 BEz491 BEz491 BEz491 hsc.2 (by decide) (by decide)) (by decide) (by decide) rfl R491_0 (by decide) (by decide)  (by rw [hml]; rfl) (argsL := []) (rest := []) (lenOf pd_19 rfl) rfl rfl (hb hby at_255) rfl (fun _ T524 Lc524 X524 hQ524 => ?_)
      obtain ⟨r_524, rfl, N524q, Kp524, Op524, R524_0⟩ := hQ524
      have N524 := Fr.app N491 N524q
      have K525 := K522.trans Kp524 all0
      refine Rch.st (fun _ hr => XS.lload X524.here hx rfl (hb hby at_258) rfl hr) ?_
      refine Rch.st (fun _ hr => XS.iload X524.here hx rfl (hb hby at_260) rfl hr) ?_
      show Rch p.tables e below _ (T524.setTop (mkF m 262 #[.val (.int p0), .val (.int p1), .val (.int p2), .val (.int p3), .val (.int p4), .val (.int p5), .val (.int (3 : Int32)), .val (.int sc), .val (.int cnt), .val (.ref b385), .val (.ref r_390), .val (.ref b477), .val (.long (0 : Int64)), .second, .val (.int ia), .val (.int ib), .val (.int ic)] [(.int sc), (.long (0 : Int64)), (.ref r_524)]))
      refine own_kS X524 hx hZ460 (y := Y_5) hown460 (own_w hw 26 rfl) (own_w hw 27 rfl) (own_w hw 28 rfl) (own_w hw 29 rfl) (by decide) (W := 1) (cvalueOfS l Z a0 hw [] (0 : Int64) sc wz wy T524.heap n0 zD0 zD1 zD6 zD7 Op524 (Bk.ne Bk.zero (by decide)) hsc.2.nn hsc.2.lt) (by decide) (by decide) rfl (by decide) (by decide)  (by rw [hml]; rfl) (argsL := [(.long (0 : Int64)), (.int sc)]) (rest := [(.ref r_524)]) (lenOf pd_5 rfl) rfl rfl (hb hby at_262) rfl (fun _ T526 Lc526 X526 hQ526 => ?_)
      obtain ⟨r_526, rfl, N526q, Kp526, Op526, R526_0⟩ := hQ526
      have N526 := Fr.app N524 N526q
      have K527 := K525.trans Kp526 all0
      have BE526 : BE Z T526.heap r_526 (0 : Int64) sc (3 : Int) := ⟨R526_0.1, sc, R526_0, Or.inl rfl, (Bk.zero).mono (by decide)⟩
      have f529 := (R524_0.keep Kp526 nin0)
      show Rch p.tables e below _ (T526.setTop (mkF m 265 #[.val (.int p0), .val (.int p1), .val (.int p2), .val (.int p3), .val (.int p4), .val (.int p5), .val (.int (3 : Int32)), .val (.int sc), .val (.int cnt), .val (.ref b385), .val (.ref r_390), .val (.ref b477), .val (.long (0 : Int64)), .second, .val (.int ia), .val (.int ib), .val (.int ic)] [(.ref r_526), (.ref r_524)]))
      refine own_kV X526 hx hZ460 (y := Y_33) (z := Y_33) hown460 (own_w hw 70 rfl) (own_w hw 71 rfl) (notFace_of_selects (args := #[]) (mvT hZ460 (own_w hw 73 rfl))) (own_w hw 73 rfl) (own_w hw 72 rfl) (own_w hw 28 rfl) (own_w hw 74 rfl) (by decide) (W := 0) (ccompare l Z a0 hw [] r_524 r_526 ((((0 : Int64) + (0 : Int64)) + (0 : Int64)) + (0 : Int64)) (0 : Int64) sc ((((1 : Int) + (1 : Int)) + (1 : Int)) + (1 : Int)) (3 : Int) T526.heap n0 f529 BE526 hsc.2 (by decide) (by decide) (by rw [own_z3])) (by decide) (by decide) rfl f529.1 (by decide) (by decide)  (by rw [hml]; rfl) (argsL := [(.ref r_526)]) (rest := []) (lenOf pd_22 rfl) rfl rfl (hb hby at_265) rfl (fun _ T528 Lc528 X528 hQ528 => ?_)
      obtain ⟨rfl, N528q, e528⟩ := hQ528
      have N528 := Fr.app N526 N528q
      refine Rch.st (fun _ hr => XS.ifNo X528.here hx rfl (hb hby at_268) rfl ((if0 _ _).trans (teq (by decide : (0 : Int32) = (0 : Int32))).2) hr) ?_
      show Rch p.tables e below _ (T528.setTop (mkF m 271 #[.val (.int p0), .val (.int p1), .val (.int p2), .val (.int p3), .val (.int p4), .val (.int p5), .val (.int (3 : Int32)), .val (.int sc), .val (.int cnt), .val (.ref b385), .val (.ref r_390), .val (.ref b477), .val (.long (0 : Int64)), .second, .val (.int ia), .val (.int ib), .val (.int ic)] []))
      refine Rch.st (fun _ hr => XS.iconst X528.here hx rfl (hb hby at_271) hr) ?_
      refine Rch.st (fun _ hr => XS.goto X528.here hx rfl (pc0 := 272) (pc' := 276) rfl (hb hby at_272) (by decide) (by decide) hr) ?_
      obtain ⟨fs, hr, hrun, hended, hREW⟩ := Jvm.Stand.leaveW (s := s) (vm₁ := T460.vm) X528 hS460 (by rw [e528]; exact (Nat.le_trans (Nat.le_trans (Nat.le_trans (Nat.le_trans (Nat.le_trans (Nat.le_trans hk460 Kp463.1) Kp469.1) E477.1) Kp491.1) Kp524.1) Kp526.1)) (v := some (.int (1 : Int32))) (fun h => by rw [Bd.returns] at h; cases h)
      refine Rch.fin (u := T528.setFrames fs) (retN X528 hx (t := .boolean) Bd.returns (by simp) (hb hby at_276) hr) ⟨_, hrun, hended, _, _, rfl, ?_, hREW.1, hREW.2.1, hREW.2.2.1, hREW.2.2.2.mono (by decide) (by decide)⟩
      show Q_claw Z p0 p1 p2 p3 p4 p5 wz de kde zz wy h0 n0 _ T528.heap _
      rw [e528]
      exact ⟨rfl, N528, K527, Op526⟩
    · refine Rch.st (fun _ hr => XS.icmpNo X491.here hx rfl (hb hby at_173) rfl (flt hc523).1 hr) ?_
      refine Rch.st (fun _ hr => XS.aload X491.here hx rfl (hb hby at_176) rfl rfl hr) ?_
      refine Rch.st (fun _ hr => XS.iload X491.here hx rfl (hb hby at_178) rfl hr) ?_
      refine Rch.st (fun _ hr => XS.iloadN X491.here hx rfl (hb hby at_180) rfl hr) ?_
      refine Rch.st (fun _ hr => XS.i2l X491.here hx rfl (hb hby at_181) rfl hr) ?_
      refine Rch.st (fun _ hr => XS.iload X491.here hx rfl (hb hby at_182) rfl hr) ?_
      show Rch p.tables e below _ (T491.setTop (mkF m 184 #[.val (.int p0), .val (.int p1), .val (.int p2), .val (.int p3), .val (.int p4), .val (.int p5), .val (.int (3 : Int32)), .val (.int sc), .val (.int cnt), .val (.ref b385), .val (.ref r_390), .val (.ref b477), .val (.long (0 : Int64)), .second, .val (.int ia), .val (.int ib), .val (.int ic)] [(.int sc), (.long (p2.toInt64)), (.int ia), (.ref b477)]))
      refine own_kS X491 hx hZ460 (y := Y_5) hown460 (own_w hw 26 rfl) (own_w hw 27 rfl) (own_w hw 28 rfl) (own_w hw 29 rfl) (by decide) (W := 2) (cvalueOfS l Z a0 hw [] (p2.toInt64) sc wz wy T491.heap n0 zD0 zD1 zD6 zD7 Op491 (Bk.ne (Bk.i2l p2) (by decide)) hsc.2.nn hsc.2.lt) (by decide) (by decide) rfl (by decide) (by decide)  (by rw [hml]; rfl) (argsL := [(.long (p2.toInt64)), (.int sc)]) (rest := [(.int ia), (.ref b477)]) (lenOf pd_5 rfl) rfl rfl (hb hby at_184) rfl (fun _ T530 Lc530 X530 hQ530 => ?_)
      obtain ⟨r_530, rfl, N530q, Kp530, Op530, R530_0⟩ := hQ530
      have N530 := Fr.app N491 N530q
      have K531 := K522.trans Kp530 all0
      have BE530 : BE Z T530.heap r_530 (p2.toInt64) sc (1 : Int) := ⟨R530_0.1, sc, R530_0, Or.inl rfl, ((Bk.i2l p2)).mono (by decide)⟩
      have f533 := (R491_0.keep Kp530)
      have f534 := (R491_1.keep Kp530 nin0)
      have f535 := (R491_2.keep Kp530 nin0)
      have f536 := (R491_5.keep Kp530 nin0)
      have f537 := (R491_6.keep Kp530 nin0)
      have f538 := R491_7
      have f539 := R491_8
      have f540 := (BEz491.keep Kp530 nin0)
      have f541 := (((((((((((((f412.keep Kp406 (ninS ne415 nin0)).ext E417).ext E425).keep Kp428 nin0).keep Kp431 (ninS ne420 nin0)).keep Kp437 (ninS ne415 (ninS ne413 nin0))).ext E448).ext E460).keep Kp463 (ninS ne451 nin0)).keep Kp469 (ninS ne415 (ninS ne413 nin0))).ext E477).keep Kp491 (ninS ne480 nin0)).keep Kp530 nin0)
      have f542 := (((((((((BE428.keep Kp431 (ninS ne435 nin0)).keep Kp437 (ninS ne445 (ninS ne446 nin0))).ext E448).ext E460).keep Kp463 (ninS ne457 nin0)).keep Kp469 (ninS ne445 (ninS ne446 nin0))).ext E477).keep Kp491 (ninS ne486 nin0)).keep Kp530 nin0)
      show Rch p.tables e below _ (T530.setTop (mkF m 187 #[.val (.int p0), .val (.int p1), .val (.int p2), .val (.int p3), .val (.int p4), .val (.int p5), .val (.int (3 : Int32)), .val (.int sc), .val (.int cnt), .val (.ref b385), .val (.ref r_390), .val (.ref b477), .val (.long (0 : Int64)), .second, .val (.int ia), .val (.int ib), .val (.int ic)] [(.ref r_530), (.int ia), (.ref b477)]))
      refine own_kV X530 hx hZ460 (y := Y_37) (z := Y_37) hown460 (own_w hw 211 rfl) (own_w hw 212 rfl) (notFace_of_selects (args := #[]) (mvT hZ460 (own_w hw 214 rfl))) (own_w hw 214 rfl) (own_w hw 213 rfl) (own_w hw 36 rfl) (own_w hw 215 rfl) (by decide) (W := 0) (ccharge3 l Z a0 hw [] b477 r_530 sp_491 ks_491 rm_491 kr_491 zz zz zz r_390 r_428 r_390 (0 : Int64) (0 : Int64) (0 : Int64) (p1.toInt64) (p5.toInt64) (p1.toInt64) (p2.toInt64) sc (1 : Int) wz wy ia T530.heap n0 zD0 zD1 zD6 zD7 Op530 f533 f534 f535 f536 f537 f538 f539 f540 f540 f540 f541 f542 f541 BE530 g_sp_491 g_rm_491 R491_9 hsc.2 (by decide) hia.2) (by decide) (by decide) rfl f533 (by decide) (by decide)  (by rw [hml]; rfl) (argsL := [(.int ia), (.ref r_530)]) (rest := []) (lenOf pd_25 rfl) rfl rfl (hb hby at_187) rfl (fun _ T532 Lc532 X532 hQ532 => ?_)
      obtain ⟨t0_532, t1_532, t2_532, u0_532, u1_532, u2_532, y0_532, y1_532, y2_532, v0_532, v1_532, v2_532, rfl, N532q, Kp532, Op532, R532_0, R532_1, R532_2, R532_3, R532_4, R532_5, R532_6, R532_7, R532_8⟩ := hQ532
      have N532 := Fr.app N530 N532q
      have ne543 := (Exa.neArv (zD5.1.ext Op530.2) f536 (own_w hw 81 rfl))
      have ne544 := (Exa.neArv BE530.1 f536 (own_w hw 81 rfl))
      have ne545 := (Exa.neArv (zD5.1.ext Op530.2) f537 (own_w hw 81 rfl))
      have ne546 := (Exa.neArv BE530.1 f537 (own_w hw 81 rfl))
      have K547 := K531.trans Kp532 (allS (Or.inr sz_sp_491) (allS (Or.inr sz_rm_491) all0))
      refine Rch.st (fun _ hr => XS.lload X532.here hx rfl (hb hby at_190) rfl hr) ?_
      refine Rch.st (fun _ hr => XS.iloadN X532.here hx rfl (hb hby at_192) rfl hr) ?_
      refine Rch.st (fun _ hr => XS.i2l X532.here hx rfl (hb hby at_193) rfl hr) ?_
      refine Rch.st (fun _ hr => XS.ladd X532.here hx rfl (hb hby at_194) rfl hr) ?_
      refine Rch.st (fun _ hr => XS.lstore X532.here hx rfl (hb hby at_195) rfl (l' := #[.val (.int p0), .val (.int p1), .val (.int p2), .val (.int p3), .val (.int p4), .val (.int p5), .val (.int (3 : Int32)), .val (.int sc), .val (.int cnt), .val (.ref b385), .val (.ref r_390), .val (.ref b477), .val (.long ((0 : Int64) + (p2.toInt64))), .second, .val (.int ia), .val (.int ib), .val (.int ic)]) rfl hr) ?_
      refine Rch.st (fun _ hr => XS.iload X532.here hx rfl (hb hby at_197) rfl hr) ?_
      show Rch p.tables e below _ (T532.setTop (mkF m 199 #[.val (.int p0), .val (.int p1), .val (.int p2), .val (.int p3), .val (.int p4), .val (.int p5), .val (.int (3 : Int32)), .val (.int sc), .val (.int cnt), .val (.ref b385), .val (.ref r_390), .val (.ref b477), .val (.long ((0 : Int64) + (p2.toInt64))), .second, .val (.int ia), .val (.int ib), .val (.int ic)] [(.int cnt)]))
      refine Rch.st (fun _ hr => XS.iconst X532.here hx rfl (hb hby at_199) hr) ?_
      by_cases hc548 : cnt < (2 : Int32)
      · refine Rch.st (fun _ hr => XS.icmpYes X532.here hx rfl (pc0 := 200) (pc' := 224) rfl (hb hby at_200) rfl (tlt hc548).1 (by decide) (by decide) hr) ?_
        refine Rch.st (fun _ hr => XS.iload X532.here hx rfl (hb hby at_224) rfl hr) ?_
        refine Rch.st (fun _ hr => XS.iconst X532.here hx rfl (hb hby at_226) hr) ?_
        refine Rch.st (fun _ hr => XS.icmpYes X532.here hx rfl (pc0 := 227) (pc' := 253) rfl (hb hby at_227) rfl (tlt (own_lt23 hc548)).1 (by decide) (by decide) hr) ?_
        refine Rch.st (fun _ hr => XS.aload X532.here hx rfl (hb hby at_253) rfl rfl hr) ?_
        have f550 := (f533.keep Kp532)
        have f551 := (f534.keep Kp532 (ninS ne513 (ninS ne521 nin0)))
        show Rch p.tables e below _ (T532.setTop (mkF m 255 #[.val (.int p0), .val (.int p1), .val (.int p2), .val (.int p3), .val (.int p4), .val (.int p5), .val (.int (3 : Int32)), .val (.int sc), .val (.int cnt), .val (.ref b385), .val (.ref r_390), .val (.ref b477), .val (.long ((0 : Int64) + (p2.toInt64))), .second, .val (.int ia), .val (.int ib), .val (.int ic)] [(.ref b477)]))
        refine own_kV X532 hx hZ460 (y := Y_32) (z := Y_32) hown460 (own_w hw 65 rfl) (own_w hw 66 rfl) (notFace_of_selects (args := #[]) (mvT hZ460 (own_w hw 68 rfl))) (own_w hw 68 rfl) (own_w hw 67 rfl) (own_w hw 36 rfl) (own_w hw 69 rfl) (by decide) (W := 0) (crev3 l Z a0 hw [] b477 sp_491 ks_491 t0_532 t1_532 t2_532 y0_532 y1_532 y2_532 sc ((1 : Int) + (1 : Int)) wz wy zz T532.heap n0 zD0 zD1 zD6 zD7 zD4 zD5 Op532 f551 R532_0 R532_2 R532_3 R532_4 hsc.2 (by decide) (by decide)) (by decide) (by decide) rfl f550 (by decide) (by decide)  (by rw [hml]; rfl) (argsL := []) (rest := []) (lenOf pd_19 rfl) rfl rfl (hb hby at_255) rfl (fun _ T549 Lc549 X549 hQ549 => ?_)
        obtain ⟨r_549, rfl, N549q, Kp549, Op549, R549_0⟩ := hQ549
        have N549 := Fr.app N532 N549q
        have K552 := K547.trans Kp549 all0
        refine Rch.st (fun _ hr => XS.lload X549.here hx rfl (hb hby at_258) rfl hr) ?_
        refine Rch.st (fun _ hr => XS.iload X549.here hx rfl (hb hby at_260) rfl hr) ?_
        show Rch p.tables e below _ (T549.setTop (mkF m 262 #[.val (.int p0), .val (.int p1), .val (.int p2), .val (.int p3), .val (.int p4), .val (.int p5), .val (.int (3 : Int32)), .val (.int sc), .val (.int cnt), .val (.ref b385), .val (.ref r_390), .val (.ref b477), .val (.long ((0 : Int64) + (p2.toInt64))), .second, .val (.int ia), .val (.int ib), .val (.int ic)] [(.int sc), (.long ((0 : Int64) + (p2.toInt64))), (.ref r_549)]))
        refine own_kS X549 hx hZ460 (y := Y_5) hown460 (own_w hw 26 rfl) (own_w hw 27 rfl) (own_w hw 28 rfl) (own_w hw 29 rfl) (by decide) (W := 1) (cvalueOfS l Z a0 hw [] ((0 : Int64) + (p2.toInt64)) sc wz wy T549.heap n0 zD0 zD1 zD6 zD7 Op549 (Bk.ne (Bk.add Bk.zero (Bk.i2l p2) (by decide)).2 (by decide)) hsc.2.nn hsc.2.lt) (by decide) (by decide) rfl (by decide) (by decide)  (by rw [hml]; rfl) (argsL := [(.long ((0 : Int64) + (p2.toInt64))), (.int sc)]) (rest := [(.ref r_549)]) (lenOf pd_5 rfl) rfl rfl (hb hby at_262) rfl (fun _ T553 Lc553 X553 hQ553 => ?_)
        obtain ⟨r_553, rfl, N553q, Kp553, Op553, R553_0⟩ := hQ553
        have N553 := Fr.app N549 N553q
        have K554 := K552.trans Kp553 all0
        have BE553 : BE Z T553.heap r_553 ((0 : Int64) + (p2.toInt64)) sc (3 : Int) := ⟨R553_0.1, sc, R553_0, Or.inl rfl, ((Bk.add Bk.zero (Bk.i2l p2) (by decide)).2).mono (by decide)⟩
        have f556 := (R549_0.keep Kp553 nin0)
        show Rch p.tables e below _ (T553.setTop (mkF m 265 #[.val (.int p0), .val (.int p1), .val (.int p2), .val (.int p3), .val (.int p4), .val (.int p5), .val (.int (3 : Int32)), .val (.int sc), .val (.int cnt), .val (.ref b385), .val (.ref r_390), .val (.ref b477), .val (.long ((0 : Int64) + (p2.toInt64))), .second, .val (.int ia), .val (.int ib), .val (.int ic)] [(.ref r_553), (.ref r_549)]))
        refine own_kV X553 hx hZ460 (y := Y_33) (z := Y_33) hown460 (own_w hw 70 rfl) (own_w hw 71 rfl) (notFace_of_selects (args := #[]) (mvT hZ460 (own_w hw 73 rfl))) (own_w hw 73 rfl) (own_w hw 72 rfl) (own_w hw 28 rfl) (own_w hw 74 rfl) (by decide) (W := 0) (ccompare l Z a0 hw [] r_549 r_553 ((((0 : Int64) + y0_532) + y1_532) + y2_532) ((0 : Int64) + (p2.toInt64)) sc (((((1 : Int) + (1 : Int)) + ((1 : Int) + (1 : Int))) + ((1 : Int) + (1 : Int))) + ((1 : Int) + (1 : Int))) (3 : Int) T553.heap n0 f556 BE553 hsc.2 (by decide) (by decide) (by rw [R532_8, own_z3])) (by decide) (by decide) rfl f556.1 (by decide) (by decide)  (by rw [hml]; rfl) (argsL := [(.ref r_553)]) (rest := []) (lenOf pd_22 rfl) rfl rfl (hb hby at_265) rfl (fun _ T555 Lc555 X555 hQ555 => ?_)
        obtain ⟨rfl, N555q, e555⟩ := hQ555
        have N555 := Fr.app N553 N555q
        refine Rch.st (fun _ hr => XS.ifNo X555.here hx rfl (hb hby at_268) rfl ((if0 _ _).trans (teq (by decide : (0 : Int32) = (0 : Int32))).2) hr) ?_
        refine Rch.st (fun _ hr => XS.iconst X555.here hx rfl (hb hby at_271) hr) ?_
        refine Rch.st (fun _ hr => XS.goto X555.here hx rfl (pc0 := 272) (pc' := 276) rfl (hb hby at_272) (by decide) (by decide) hr) ?_
        obtain ⟨fs, hr, hrun, hended, hREW⟩ := Jvm.Stand.leaveW (s := s) (vm₁ := T460.vm) X555 hS460 (by rw [e555]; exact (Nat.le_trans (Nat.le_trans (Nat.le_trans (Nat.le_trans (Nat.le_trans (Nat.le_trans (Nat.le_trans (Nat.le_trans hk460 Kp463.1) Kp469.1) E477.1) Kp491.1) Kp530.1) Kp532.1) Kp549.1) Kp553.1)) (v := some (.int (1 : Int32))) (fun h => by rw [Bd.returns] at h; cases h)
        refine Rch.fin (u := T555.setFrames fs) (retN X555 hx (t := .boolean) Bd.returns (by simp) (hb hby at_276) hr) ⟨_, hrun, hended, _, _, rfl, ?_, hREW.1, hREW.2.1, hREW.2.2.1, hREW.2.2.2.mono (by decide) (by decide)⟩
        show Q_claw Z p0 p1 p2 p3 p4 p5 wz de kde zz wy h0 n0 _ T555.heap _
        rw [e555]
        exact ⟨rfl, N555, K554, Op553⟩
      · refine Rch.st (fun _ hr => XS.icmpNo X532.here hx rfl (hb hby at_200) rfl (flt hc548).1 hr) ?_
        refine Rch.st (fun _ hr => XS.aload X532.here hx rfl (hb hby at_203) rfl rfl hr) ?_
        refine Rch.st (fun _ hr => XS.iload X532.here hx rfl (hb hby at_205) rfl hr) ?_
        refine Rch.st (fun _ hr => XS.iloadN X532.here hx rfl (hb hby at_207) rfl hr) ?_
        refine Rch.st (fun _ hr => XS.i2l X532.here hx rfl (hb hby at_208) rfl hr) ?_
        refine Rch.st (fun _ hr => XS.iload X532.here hx rfl (hb hby at_209) rfl hr) ?_
        show Rch p.tables e below _ (T532.setTop (mkF m 211 #[.val (.int p0), .val (.int p1), .val (.int p2), .val (.int p3), .val (.int p4), .val (.int p5), .val (.int (3 : Int32)), .val (.int sc), .val (.int cnt), .val (.ref b385), .val (.ref r_390), .val (.ref b477), .val (.long ((0 : Int64) + (p2.toInt64))), .second, .val (.int ia), .val (.int ib), .val (.int ic)] [(.int sc), (.long (p3.toInt64)), (.int ib), (.ref b477)]))
        refine own_kS X532 hx hZ460 (y := Y_5) hown460 (own_w hw 26 rfl) (own_w hw 27 rfl) (own_w hw 28 rfl) (own_w hw 29 rfl) (by decide) (W := 2) (cvalueOfS l Z a0 hw [] (p3.toInt64) sc wz wy T532.heap n0 zD0 zD1 zD6 zD7 Op532 (Bk.ne (Bk.i2l p3) (by decide)) hsc.2.nn hsc.2.lt) (by decide) (by decide) rfl (by decide) (by decide)  (by rw [hml]; rfl) (argsL := [(.long (p3.toInt64)), (.int sc)]) (rest := [(.int ib), (.ref b477)]) (lenOf pd_5 rfl) rfl rfl (hb hby at_211) rfl (fun _ T557 Lc557 X557 hQ557 => ?_)
        obtain ⟨r_557, rfl, N557q, Kp557, Op557, R557_0⟩ := hQ557
        have N557 := Fr.app N532 N557q
        have K558 := K547.trans Kp557 all0
        have BE557 : BE Z T557.heap r_557 (p3.toInt64) sc (1 : Int) := ⟨R557_0.1, sc, R557_0, Or.inl rfl, ((Bk.i2l p3)).mono (by decide)⟩
        have f560 := ((f533.keep Kp532).keep Kp557)
        have f561 := ((f534.keep Kp532 (ninS ne513 (ninS ne521 nin0))).keep Kp557 nin0)
        have f562 := ((f535.keep Kp532 (ninS ne513 (ninS ne521 nin0))).keep Kp557 nin0)
        have f563 := (R532_0.keep Kp557 nin0)
        have f564 := (R532_1.keep Kp557 nin0)
        have f565 := f538
        have f566 := f539
        have f567 := (R532_2.keep Kp557 nin0)
        have f568 := (R532_3.keep Kp557 nin0)
        have f569 := (R532_4.keep Kp557 nin0)
        have f570 := (R532_5.keep Kp557 nin0)
        have f571 := (R532_6.keep Kp557 nin0)
        have f572 := (R532_7.keep Kp557 nin0)
        show Rch p.tables e below _ (T557.setTop (mkF m 214 #[.val (.int p0), .val (.int p1), .val (.int p2), .val (.int p3), .val (.int p4), .val (.int p5), .val (.int (3 : Int32)), .val (.int sc), .val (.int cnt), .val (.ref b385), .val (.ref r_390), .val (.ref b477), .val (.long ((0 : Int64) + (p2.toInt64))), .second, .val (.int ia), .val (.int ib), .val (.int ic)] [(.ref r_557), (.int ib), (.ref b477)]))
        refine own_kV X557 hx hZ460 (y := Y_37) (z := Y_37) hown460 (own_w hw 211 rfl) (own_w hw 212 rfl) (notFace_of_selects (args := #[]) (mvT hZ460 (own_w hw 214 rfl))) (own_w hw 214 rfl) (own_w hw 213 rfl) (own_w hw 36 rfl) (own_w hw 215 rfl) (by decide) (W := 0) (ccharge3 l Z a0 hw [] b477 r_557 sp_491 ks_491 rm_491 kr_491 t0_532 t1_532 t2_532 u0_532 u1_532 u2_532 y0_532 y1_532 y2_532 v0_532 v1_532 v2_532 (p3.toInt64) sc ((1 : Int) + (1 : Int)) wz wy ib T557.heap n0 zD0 zD1 zD6 zD7 Op557 f560 f561 f562 f563 f564 f565 f566 f567 f568 f569 f570 f571 f572 BE557 g_sp_491 g_rm_491 R491_9 hsc.2 (by decide) hib.2) (by decide) (by decide) rfl f560 (by decide) (by decide)  (by rw [hml]; rfl) (argsL := [(.int ib), (.ref r_557)]) (rest := []) (lenOf pd_25 rfl) rfl rfl (hb hby at_214) rfl (fun _ T559 Lc559 X559 hQ559 => ?_)
        obtain ⟨t0_559, t1_559, t2_559, u0_559, u1_559, u2_559, y0_559, y1_559, y2_559, v0_559, v1_559, v2_559, rfl, N559q, Kp559, Op559, R559_0, R559_1, R559_2, R559_3, R559_4, R559_5, R559_6, R559_7, R559_8⟩ := hQ559
        have N559 := Fr.app N557 N559q
        have ne573 := (Exa.neArv f567.1 f563 (own_w hw 81 rfl))
        have ne574 := (Exa.neArv f568.1 f563 (own_w hw 81 rfl))
        have ne575 := (Exa.neArv f569.1 f563 (own_w hw 81 rfl))
        have ne576 := (Exa.neArv f570.1 f563 (own_w hw 81 rfl))
        have ne577 := (Exa.neArv f571.1 f563 (own_w hw 81 rfl))
        have ne578 := (Exa.neArv f572.1 f563 (own_w hw 81 rfl))
        have ne579 := (Exa.neArv BE557.1 f563 (own_w hw 81 rfl))
        have ne580 := (Exa.neArv f567.1 f564 (own_w hw 81 rfl))
        have ne581 := (Exa.neArv f568.1 f564 (own_w hw 81 rfl))
        have ne582 := (Exa.neArv f569.1 f564 (own_w hw 81 rfl))
        have ne583 := (Exa.neArv f570.1 f564 (own_w hw 81 rfl))
        have ne584 := (Exa.neArv f571.1 f564 (own_w hw 81 rfl))
        have ne585 := (Exa.neArv f572.1 f564 (own_w hw 81 rfl))
        have ne586 := (Exa.neArv BE557.1 f564 (own_w hw 81 rfl))
        have K587 := K558.trans Kp559 (allS (Or.inr sz_sp_491) (allS (Or.inr sz_rm_491) all0))
        refine Rch.st (fun _ hr => XS.lload X559.here hx rfl (hb hby at_217) rfl hr) ?_
        refine Rch.st (fun _ hr => XS.iloadN X559.here hx rfl (hb hby at_219) rfl hr) ?_
        refine Rch.st (fun _ hr => XS.i2l X559.here hx rfl (hb hby at_220) rfl hr) ?_
        refine Rch.st (fun _ hr => XS.ladd X559.here hx rfl (hb hby at_221) rfl hr) ?_
        refine Rch.st (fun _ hr => XS.lstore X559.here hx rfl (hb hby at_222) rfl (l' := #[.val (.int p0), .val (.int p1), .val (.int p2), .val (.int p3), .val (.int p4), .val (.int p5), .val (.int (3 : Int32)), .val (.int sc), .val (.int cnt), .val (.ref b385), .val (.ref r_390), .val (.ref b477), .val (.long (((0 : Int64) + (p2.toInt64)) + (p3.toInt64))), .second, .val (.int ia), .val (.int ib), .val (.int ic)]) rfl hr) ?_
        refine Rch.st (fun _ hr => XS.iload X559.here hx rfl (hb hby at_224) rfl hr) ?_
        refine Rch.st (fun _ hr => XS.iconst X559.here hx rfl (hb hby at_226) hr) ?_
        show Rch p.tables e below _ (T559.setTop (mkF m 227 #[.val (.int p0), .val (.int p1), .val (.int p2), .val (.int p3), .val (.int p4), .val (.int p5), .val (.int (3 : Int32)), .val (.int sc), .val (.int cnt), .val (.ref b385), .val (.ref r_390), .val (.ref b477), .val (.long (((0 : Int64) + (p2.toInt64)) + (p3.toInt64))), .second, .val (.int ia), .val (.int ib), .val (.int ic)] [(.int (3 : Int32)), (.int cnt)]))
        by_cases hc588 : cnt < (3 : Int32)
        · refine Rch.st (fun _ hr => XS.icmpYes X559.here hx rfl (pc0 := 227) (pc' := 253) rfl (hb hby at_227) rfl (tlt hc588).1 (by decide) (by decide) hr) ?_
          refine Rch.st (fun _ hr => XS.aload X559.here hx rfl (hb hby at_253) rfl rfl hr) ?_
          have f590 := (f560.keep Kp559)
          have f591 := (f561.keep Kp559 (ninS ne513 (ninS ne521 nin0)))
          show Rch p.tables e below _ (T559.setTop (mkF m 255 #[.val (.int p0), .val (.int p1), .val (.int p2), .val (.int p3), .val (.int p4), .val (.int p5), .val (.int (3 : Int32)), .val (.int sc), .val (.int cnt), .val (.ref b385), .val (.ref r_390), .val (.ref b477), .val (.long (((0 : Int64) + (p2.toInt64)) + (p3.toInt64))), .second, .val (.int ia), .val (.int ib), .val (.int ic)] [(.ref b477)]))
          refine own_kV X559 hx hZ460 (y := Y_32) (z := Y_32) hown460 (own_w hw 65 rfl) (own_w hw 66 rfl) (notFace_of_selects (args := #[]) (mvT hZ460 (own_w hw 68 rfl))) (own_w hw 68 rfl) (own_w hw 67 rfl) (own_w hw 36 rfl) (own_w hw 69 rfl) (by decide) (W := 0) (crev3 l Z a0 hw [] b477 sp_491 ks_491 t0_559 t1_559 t2_559 y0_559 y1_559 y2_559 sc (((1 : Int) + (1 : Int)) + (1 : Int)) wz wy zz T559.heap n0 zD0 zD1 zD6 zD7 zD4 zD5 Op559 f591 R559_0 R559_2 R559_3 R559_4 hsc.2 (by decide) (by decide)) (by decide) (by decide) rfl f590 (by decide) (by decide)  (by rw [hml]; rfl) (argsL := []) (rest := []) (lenOf pd_19 rfl) rfl rfl (hb hby at_255) rfl (fun _ T589 Lc589 X589 hQ589 => ?_)
          obtain ⟨r_589, rfl, N589q, Kp589, Op589, R589_0⟩ := hQ589
          have N589 := Fr.app N559 N589q
          have K592 := K587.trans Kp589 all0
          refine Rch.st (fun _ hr => XS.lload X589.here hx rfl (hb hby at_258) rfl hr) ?_
          refine Rch.st (fun _ hr => XS.iload X589.here hx rfl (hb hby at_260) rfl hr) ?_
          show Rch p.tables e below _ (T589.setTop (mkF m 262 #[.val (.int p0), .val (.int p1), .val (.int p2), .val (.int p3), .val (.int p4), .val (.int p5), .val (.int (3 : Int32)), .val (.int sc), .val (.int cnt), .val (.ref b385), .val (.ref r_390), .val (.ref b477), .val (.long (((0 : Int64) + (p2.toInt64)) + (p3.toInt64))), .second, .val (.int ia), .val (.int ib), .val (.int ic)] [(.int sc), (.long (((0 : Int64) + (p2.toInt64)) + (p3.toInt64))), (.ref r_589)]))
          refine own_kS X589 hx hZ460 (y := Y_5) hown460 (own_w hw 26 rfl) (own_w hw 27 rfl) (own_w hw 28 rfl) (own_w hw 29 rfl) (by decide) (W := 1) (cvalueOfS l Z a0 hw [] (((0 : Int64) + (p2.toInt64)) + (p3.toInt64)) sc wz wy T589.heap n0 zD0 zD1 zD6 zD7 Op589 (Bk.ne (Bk.add (Bk.add Bk.zero (Bk.i2l p2) (by decide)).2 (Bk.i2l p3) (by decide)).2 (by decide)) hsc.2.nn hsc.2.lt) (by decide) (by decide) rfl (by decide) (by decide)  (by rw [hml]; rfl) (argsL := [(.long (((0 : Int64) + (p2.toInt64)) + (p3.toInt64))), (.int sc)]) (rest := [(.ref r_589)]) (lenOf pd_5 rfl) rfl rfl (hb hby at_262) rfl (fun _ T593 Lc593 X593 hQ593 => ?_)
          obtain ⟨r_593, rfl, N593q, Kp593, Op593, R593_0⟩ := hQ593
          have N593 := Fr.app N589 N593q
          have K594 := K592.trans Kp593 all0
          have BE593 : BE Z T593.heap r_593 (((0 : Int64) + (p2.toInt64)) + (p3.toInt64)) sc (3 : Int) := ⟨R593_0.1, sc, R593_0, Or.inl rfl, ((Bk.add (Bk.add Bk.zero (Bk.i2l p2) (by decide)).2 (Bk.i2l p3) (by decide)).2).mono (by decide)⟩
          have f596 := (R589_0.keep Kp593 nin0)
          show Rch p.tables e below _ (T593.setTop (mkF m 265 #[.val (.int p0), .val (.int p1), .val (.int p2), .val (.int p3), .val (.int p4), .val (.int p5), .val (.int (3 : Int32)), .val (.int sc), .val (.int cnt), .val (.ref b385), .val (.ref r_390), .val (.ref b477), .val (.long (((0 : Int64) + (p2.toInt64)) + (p3.toInt64))), .second, .val (.int ia), .val (.int ib), .val (.int ic)] [(.ref r_593), (.ref r_589)]))
          refine own_kV X593 hx hZ460 (y := Y_33) (z := Y_33) hown460 (own_w hw 70 rfl) (own_w hw 71 rfl) (notFace_of_selects (args := #[]) (mvT hZ460 (own_w hw 73 rfl))) (own_w hw 73 rfl) (own_w hw 72 rfl) (own_w hw 28 rfl) (own_w hw 74 rfl) (by decide) (W := 0) (ccompare l Z a0 hw [] r_589 r_593 ((((0 : Int64) + y0_559) + y1_559) + y2_559) (((0 : Int64) + (p2.toInt64)) + (p3.toInt64)) sc ((((((1 : Int) + (1 : Int)) + (1 : Int)) + (((1 : Int) + (1 : Int)) + (1 : Int))) + (((1 : Int) + (1 : Int)) + (1 : Int))) + (((1 : Int) + (1 : Int)) + (1 : Int))) (3 : Int) T593.heap n0 f596 BE593 hsc.2 (by decide) (by decide) (by rw [R559_8, R532_8, own_z3])) (by decide) (by decide) rfl f596.1 (by decide) (by decide)  (by rw [hml]; rfl) (argsL := [(.ref r_593)]) (rest := []) (lenOf pd_22 rfl) rfl rfl (hb hby at_265) rfl (fun _ T595 Lc595 X595 hQ595 => ?_)
          obtain ⟨rfl, N595q, e595⟩ := hQ595
          have N595 := Fr.app N593 N595q
          refine Rch.st (fun _ hr => XS.ifNo X595.here hx rfl (hb hby at_268) rfl ((if0 _ _).trans (teq (by decide : (0 : Int32) = (0 : Int32))).2) hr) ?_
          refine Rch.st (fun _ hr => XS.iconst X595.here hx rfl (hb hby at_271) hr) ?_
          refine Rch.st (fun _ hr => XS.goto X595.here hx rfl (pc0 := 272) (pc' := 276) rfl (hb hby at_272) (by decide) (by decide) hr) ?_
          obtain ⟨fs, hr, hrun, hended, hREW⟩ := Jvm.Stand.leaveW (s := s) (vm₁ := T460.vm) X595 hS460 (by rw [e595]; exact (Nat.le_trans (Nat.le_trans (Nat.le_trans (Nat.le_trans (Nat.le_trans (Nat.le_trans (Nat.le_trans (Nat.le_trans (Nat.le_trans (Nat.le_trans hk460 Kp463.1) Kp469.1) E477.1) Kp491.1) Kp530.1) Kp532.1) Kp557.1) Kp559.1) Kp589.1) Kp593.1)) (v := some (.int (1 : Int32))) (fun h => by rw [Bd.returns] at h; cases h)
          refine Rch.fin (u := T595.setFrames fs) (retN X595 hx (t := .boolean) Bd.returns (by simp) (hb hby at_276) hr) ⟨_, hrun, hended, _, _, rfl, ?_, hREW.1, hREW.2.1, hREW.2.2.1, hREW.2.2.2.mono (by decide) (by decide)⟩
          show Q_claw Z p0 p1 p2 p3 p4 p5 wz de kde zz wy h0 n0 _ T595.heap _
          rw [e595]
          exact ⟨rfl, N595, K594, Op593⟩
        · refine Rch.st (fun _ hr => XS.icmpNo X559.here hx rfl (hb hby at_227) rfl (flt hc588).1 hr) ?_
          refine Rch.st (fun _ hr => XS.aload X559.here hx rfl (hb hby at_230) rfl rfl hr) ?_
          refine Rch.st (fun _ hr => XS.iload X559.here hx rfl (hb hby at_232) rfl hr) ?_
          refine Rch.st (fun _ hr => XS.iload X559.here hx rfl (hb hby at_234) rfl hr) ?_
          refine Rch.st (fun _ hr => XS.i2l X559.here hx rfl (hb hby at_236) rfl hr) ?_
          refine Rch.st (fun _ hr => XS.iload X559.here hx rfl (hb hby at_237) rfl hr) ?_
          show Rch p.tables e below _ (T559.setTop (mkF m 239 #[.val (.int p0), .val (.int p1), .val (.int p2), .val (.int p3), .val (.int p4), .val (.int p5), .val (.int (3 : Int32)), .val (.int sc), .val (.int cnt), .val (.ref b385), .val (.ref r_390), .val (.ref b477), .val (.long (((0 : Int64) + (p2.toInt64)) + (p3.toInt64))), .second, .val (.int ia), .val (.int ib), .val (.int ic)] [(.int sc), (.long (p4.toInt64)), (.int ic), (.ref b477)]))
          refine own_kS X559 hx hZ460 (y := Y_5) hown460 (own_w hw 26 rfl) (own_w hw 27 rfl) (own_w hw 28 rfl) (own_w hw 29 rfl) (by decide) (W := 2) (cvalueOfS l Z a0 hw [] (p4.toInt64) sc wz wy T559.heap n0 zD0 zD1 zD6 zD7 Op559 (Bk.ne (Bk.i2l p4) (by decide)) hsc.2.nn hsc.2.lt) (by decide) (by decide) rfl (by decide) (by decide)  (by rw [hml]; rfl) (argsL := [(.long (p4.toInt64)), (.int sc)]) (rest := [(.int ic), (.ref b477)]) (lenOf pd_5 rfl) rfl rfl (hb hby at_239) rfl (fun _ T597 Lc597 X597 hQ597 => ?_)
          obtain ⟨r_597, rfl, N597q, Kp597, Op597, R597_0⟩ := hQ597
          have N597 := Fr.app N559 N597q
          have K598 := K587.trans Kp597 all0
          have BE597 : BE Z T597.heap r_597 (p4.toInt64) sc (1 : Int) := ⟨R597_0.1, sc, R597_0, Or.inl rfl, ((Bk.i2l p4)).mono (by decide)⟩
          have f600 := ((f560.keep Kp559).keep Kp597)
          have f601 := ((f561.keep Kp559 (ninS ne513 (ninS ne521 nin0))).keep Kp597 nin0)
          have f602 := ((f562.keep Kp559 (ninS ne513 (ninS ne521 nin0))).keep Kp597 nin0)
          have f603 := (R559_0.keep Kp597 nin0)
          have f604 := (R559_1.keep Kp597 nin0)
          have f605 := f565
          have f606 := f566
          have f607 := (R559_2.keep Kp597 nin0)
          have f608 := (R559_3.keep Kp597 nin0)
          have f609 := (R559_4.keep Kp597 nin0)
          have f610 := (R559_5.keep Kp597 nin0)
          have f611 := (R559_6.keep Kp597 nin0)
          have f612 := (R559_7.keep Kp597 nin0)
          show Rch p.tables e below _ (T597.setTop (mkF m 242 #[.val (.int p0), .val (.int p1), .val (.int p2), .val (.int p3), .val (.int p4), .val (.int p5), .val (.int (3 : Int32)), .val (.int sc), .val (.int cnt), .val (.ref b385), .val (.ref r_390), .val (.ref b477), .val (.long (((0 : Int64) + (p2.toInt64)) + (p3.toInt64))), .second, .val (.int ia), .val (.int ib), .val (.int ic)] [(.ref r_597), (.int ic), (.ref b477)]))
          refine own_kV X597 hx hZ460 (y := Y_37) (z := Y_37) hown460 (own_w hw 211 rfl) (own_w hw 212 rfl) (notFace_of_selects (args := #[]) (mvT hZ460 (own_w hw 214 rfl))) (own_w hw 214 rfl) (own_w hw 213 rfl) (own_w hw 36 rfl) (own_w hw 215 rfl) (by decide) (W := 0) (ccharge3 l Z a0 hw [] b477 r_597 sp_491 ks_491 rm_491 kr_491 t0_559 t1_559 t2_559 u0_559 u1_559 u2_559 y0_559 y1_559 y2_559 v0_559 v1_559 v2_559 (p4.toInt64) sc (((1 : Int) + (1 : Int)) + (1 : Int)) wz wy ic T597.heap n0 zD0 zD1 zD6 zD7 Op597 f600 f601 f602 f603 f604 f605 f606 f607 f608 f609 f610 f611 f612 BE597 g_sp_491 g_rm_491 R491_9 hsc.2 (by decide) hic.2) (by decide) (by decide) rfl f600 (by decide) (by decide)  (by rw [hml]; rfl) (argsL := [(.int ic), (.ref r_597)]) (rest := []) (lenOf pd_25 rfl) rfl rfl (hb hby at_242) rfl (fun _ T599 Lc599 X599 hQ599 => ?_)
          obtain ⟨t0_599, t1_599, t2_599, u0_599, u1_599, u2_599, y0_599, y1_599, y2_599, v0_599, v1_599, v2_599, rfl, N599q, Kp599, Op599, R599_0, R599_1, R599_2, R599_3, R599_4, R599_5, R599_6, R599_7, R599_8⟩ := hQ599
          have N599 := Fr.app N597 N599q
          have ne613 := (Exa.neArv f607.1 f603 (own_w hw 81 rfl))
          have ne614 := (Exa.neArv f608.1 f603 (own_w hw 81 rfl))
          have ne615 := (Exa.neArv f609.1 f603 (own_w hw 81 rfl))
          have ne616 := (Exa.neArv f610.1 f603 (own_w hw 81 rfl))
          have ne617 := (Exa.neArv f611.1 f603 (own_w hw 81 rfl))
          have ne618 := (Exa.neArv f612.1 f603 (own_w hw 81 rfl))
          have ne619 := (Exa.neArv BE597.1 f603 (own_w hw 81 rfl))
          have ne620 := (Exa.neArv f607.1 f604 (own_w hw 81 rfl))
          have ne621 := (Exa.neArv f608.1 f604 (own_w hw 81 rfl))
          have ne622 := (Exa.neArv f609.1 f604 (own_w hw 81 rfl))
          have ne623 := (Exa.neArv f610.1 f604 (own_w hw 81 rfl))
          have ne624 := (Exa.neArv f611.1 f604 (own_w hw 81 rfl))
          have ne625 := (Exa.neArv f612.1 f604 (own_w hw 81 rfl))
          have ne626 := (Exa.neArv BE597.1 f604 (own_w hw 81 rfl))
          have K627 := K598.trans Kp599 (allS (Or.inr sz_sp_491) (allS (Or.inr sz_rm_491) all0))
          refine Rch.st (fun _ hr => XS.lload X599.here hx rfl (hb hby at_245) rfl hr) ?_
          refine Rch.st (fun _ hr => XS.iload X599.here hx rfl (hb hby at_247) rfl hr) ?_
          refine Rch.st (fun _ hr => XS.i2l X599.here hx rfl (hb hby at_249) rfl hr) ?_
          refine Rch.st (fun _ hr => XS.ladd X599.here hx rfl (hb hby at_250) rfl hr) ?_
          refine Rch.st (fun _ hr => XS.lstore X599.here hx rfl (hb hby at_251) rfl (l' := #[.val (.int p0), .val (.int p1), .val (.int p2), .val (.int p3), .val (.int p4), .val (.int p5), .val (.int (3 : Int32)), .val (.int sc), .val (.int cnt), .val (.ref b385), .val (.ref r_390), .val (.ref b477), .val (.long ((((0 : Int64) + (p2.toInt64)) + (p3.toInt64)) + (p4.toInt64))), .second, .val (.int ia), .val (.int ib), .val (.int ic)]) rfl hr) ?_
          refine Rch.st (fun _ hr => XS.aload X599.here hx rfl (hb hby at_253) rfl rfl hr) ?_
          have f629 := (f600.keep Kp599)
          have f630 := (f601.keep Kp599 (ninS ne513 (ninS ne521 nin0)))
          show Rch p.tables e below _ (T599.setTop (mkF m 255 #[.val (.int p0), .val (.int p1), .val (.int p2), .val (.int p3), .val (.int p4), .val (.int p5), .val (.int (3 : Int32)), .val (.int sc), .val (.int cnt), .val (.ref b385), .val (.ref r_390), .val (.ref b477), .val (.long ((((0 : Int64) + (p2.toInt64)) + (p3.toInt64)) + (p4.toInt64))), .second, .val (.int ia), .val (.int ib), .val (.int ic)] [(.ref b477)]))
          refine own_kV X599 hx hZ460 (y := Y_32) (z := Y_32) hown460 (own_w hw 65 rfl) (own_w hw 66 rfl) (notFace_of_selects (args := #[]) (mvT hZ460 (own_w hw 68 rfl))) (own_w hw 68 rfl) (own_w hw 67 rfl) (own_w hw 36 rfl) (own_w hw 69 rfl) (by decide) (W := 0) (crev3 l Z a0 hw [] b477 sp_491 ks_491 t0_599 t1_599 t2_599 y0_599 y1_599 y2_599 sc ((((1 : Int) + (1 : Int)) + (1 : Int)) + (1 : Int)) wz wy zz T599.heap n0 zD0 zD1 zD6 zD7 zD4 zD5 Op599 f630 R599_0 R599_2 R599_3 R599_4 hsc.2 (by decide) (by decide)) (by decide) (by decide) rfl f629 (by decide) (by decide)  (by rw [hml]; rfl) (argsL := []) (rest := []) (lenOf pd_19 rfl) rfl rfl (hb hby at_255) rfl (fun _ T628 Lc628 X628 hQ628 => ?_)
          obtain ⟨r_628, rfl, N628q, Kp628, Op628, R628_0⟩ := hQ628
          have N628 := Fr.app N599 N628q
          have K631 := K627.trans Kp628 all0
          refine Rch.st (fun _ hr => XS.lload X628.here hx rfl (hb hby at_258) rfl hr) ?_
          show Rch p.tables e below _ (T628.setTop (mkF m 260 #[.val (.int p0), .val (.int p1), .val (.int p2), .val (.int p3), .val (.int p4), .val (.int p5), .val (.int (3 : Int32)), .val (.int sc), .val (.int cnt), .val (.ref b385), .val (.ref r_390), .val (.ref b477), .val (.long ((((0 : Int64) + (p2.toInt64)) + (p3.toInt64)) + (p4.toInt64))), .second, .val (.int ia), .val (.int ib), .val (.int ic)] [(.long ((((0 : Int64) + (p2.toInt64)) + (p3.toInt64)) + (p4.toInt64))), (.ref r_628)]))
          refine Rch.st (fun _ hr => XS.iload X628.here hx rfl (hb hby at_260) rfl hr) ?_
          show Rch p.tables e below _ (T628.setTop (mkF m 262 #[.val (.int p0), .val (.int p1), .val (.int p2), .val (.int p3), .val (.int p4), .val (.int p5), .val (.int (3 : Int32)), .val (.int sc), .val (.int cnt), .val (.ref b385), .val (.ref r_390), .val (.ref b477), .val (.long ((((0 : Int64) + (p2.toInt64)) + (p3.toInt64)) + (p4.toInt64))), .second, .val (.int ia), .val (.int ib), .val (.int ic)] [(.int sc), (.long ((((0 : Int64) + (p2.toInt64)) + (p3.toInt64)) + (p4.toInt64))), (.ref r_628)]))
          refine own_kS X628 hx hZ460 (y := Y_5) hown460 (own_w hw 26 rfl) (own_w hw 27 rfl) (own_w hw 28 rfl) (own_w hw 29 rfl) (by decide) (W := 1) (cvalueOfS l Z a0 hw [] ((((0 : Int64) + (p2.toInt64)) + (p3.toInt64)) + (p4.toInt64)) sc wz wy T628.heap n0 zD0 zD1 zD6 zD7 Op628 (Bk.ne (Bk.add (Bk.add (Bk.add Bk.zero (Bk.i2l p2) (by decide)).2 (Bk.i2l p3) (by decide)).2 (Bk.i2l p4) (by decide)).2 (by decide)) hsc.2.nn hsc.2.lt) (by decide) (by decide) rfl (by decide) (by decide)  (by rw [hml]; rfl) (argsL := [(.long ((((0 : Int64) + (p2.toInt64)) + (p3.toInt64)) + (p4.toInt64))), (.int sc)]) (rest := [(.ref r_628)]) (lenOf pd_5 rfl) rfl rfl (hb hby at_262) rfl (fun _ T632 Lc632 X632 hQ632 => ?_)
          obtain ⟨r_632, rfl, N632q, Kp632, Op632, R632_0⟩ := hQ632
          have N632 := Fr.app N628 N632q
          have K633 := K631.trans Kp632 all0
          have BE632 : BE Z T632.heap r_632 ((((0 : Int64) + (p2.toInt64)) + (p3.toInt64)) + (p4.toInt64)) sc (3 : Int) := ⟨R632_0.1, sc, R632_0, Or.inl rfl, ((Bk.add (Bk.add (Bk.add Bk.zero (Bk.i2l p2) (by decide)).2 (Bk.i2l p3) (by decide)).2 (Bk.i2l p4) (by decide)).2).mono (by decide)⟩
          have f635 := (R628_0.keep Kp632 nin0)
          show Rch p.tables e below _ (T632.setTop (mkF m 265 #[.val (.int p0), .val (.int p1), .val (.int p2), .val (.int p3), .val (.int p4), .val (.int p5), .val (.int (3 : Int32)), .val (.int sc), .val (.int cnt), .val (.ref b385), .val (.ref r_390), .val (.ref b477), .val (.long ((((0 : Int64) + (p2.toInt64)) + (p3.toInt64)) + (p4.toInt64))), .second, .val (.int ia), .val (.int ib), .val (.int ic)] [(.ref r_632), (.ref r_628)]))
          refine own_kV X632 hx hZ460 (y := Y_33) (z := Y_33) hown460 (own_w hw 70 rfl) (own_w hw 71 rfl) (notFace_of_selects (args := #[]) (mvT hZ460 (own_w hw 73 rfl))) (own_w hw 73 rfl) (own_w hw 72 rfl) (own_w hw 28 rfl) (own_w hw 74 rfl) (by decide) (W := 0) (ccompare l Z a0 hw [] r_628 r_632 ((((0 : Int64) + y0_599) + y1_599) + y2_599) ((((0 : Int64) + (p2.toInt64)) + (p3.toInt64)) + (p4.toInt64)) sc (((((((1 : Int) + (1 : Int)) + (1 : Int)) + (1 : Int)) + ((((1 : Int) + (1 : Int)) + (1 : Int)) + (1 : Int))) + ((((1 : Int) + (1 : Int)) + (1 : Int)) + (1 : Int))) + ((((1 : Int) + (1 : Int)) + (1 : Int)) + (1 : Int))) (3 : Int) T632.heap n0 f635 BE632 hsc.2 (by decide) (by decide) (by rw [R599_8, R559_8, R532_8, own_z3])) (by decide) (by decide) rfl f635.1 (by decide) (by decide)  (by rw [hml]; rfl) (argsL := [(.ref r_632)]) (rest := []) (lenOf pd_22 rfl) rfl rfl (hb hby at_265) rfl (fun _ T634 Lc634 X634 hQ634 => ?_)
          obtain ⟨rfl, N634q, e634⟩ := hQ634
          have N634 := Fr.app N632 N634q
          refine Rch.st (fun _ hr => XS.ifNo X634.here hx rfl (hb hby at_268) rfl ((if0 _ _).trans (teq (by decide : (0 : Int32) = (0 : Int32))).2) hr) ?_
          refine Rch.st (fun _ hr => XS.iconst X634.here hx rfl (hb hby at_271) hr) ?_
          refine Rch.st (fun _ hr => XS.goto X634.here hx rfl (pc0 := 272) (pc' := 276) rfl (hb hby at_272) (by decide) (by decide) hr) ?_
          obtain ⟨fs, hr, hrun, hended, hREW⟩ := Jvm.Stand.leaveW (s := s) (vm₁ := T460.vm) X634 hS460 (by rw [e634]; exact (Nat.le_trans (Nat.le_trans (Nat.le_trans (Nat.le_trans (Nat.le_trans (Nat.le_trans (Nat.le_trans (Nat.le_trans (Nat.le_trans (Nat.le_trans (Nat.le_trans (Nat.le_trans hk460 Kp463.1) Kp469.1) E477.1) Kp491.1) Kp530.1) Kp532.1) Kp557.1) Kp559.1) Kp597.1) Kp599.1) Kp628.1) Kp632.1)) (v := some (.int (1 : Int32))) (fun h => by rw [Bd.returns] at h; cases h)
          refine Rch.fin (u := T634.setFrames fs) (retN X634 hx (t := .boolean) Bd.returns (by simp) (hb hby at_276) hr) ⟨_, hrun, hended, _, _, rfl, ?_, hREW.1, hREW.2.1, hREW.2.2.1, hREW.2.2.2.mono (by decide) (by decide)⟩
          show Q_claw Z p0 p1 p2 p3 p4 p5 wz de kde zz wy h0 n0 _ T634.heap _
          rw [e634]
          exact ⟨rfl, N634, K633, Op632⟩
set_option maxRecDepth 65536 in
set_option maxHeartbeats 40000000 in
theorem comes_1 {Post : Tables → Env → Array Value → State → Outcome → State → Prop} (hpost : ∀ tb e args s v u, (limb_1_1.after args s (.returned v) u = true ∧ limb_1_2.after args s (.returned v) u = true ∧ True) → ReturnedEndW s (.returned v) u (Jvm.fieldLocs frame_1_writes args s ++ Jvm.arrayLocs frame_1_arrays args s ++ Jvm.staticLocs frame_1_statics s) 64 3392 → Post tb e args s (.returned v) u) :
    ArmFor flags0 classFile x code maxLocals ret World_1 tables_1 room_1 Calls_1 rest_1 Pre_1 Post := by
  intro l hfl _ _ p e ha hc hk s m args below hf hA hF happ hP
  obtain ⟨hcalls, hrest, hpre⟩ := hP
  obtain ⟨-, -, -, hnamed, -, -, -, hat⟩ := (Spec.applies_iff hf).mp happ
  obtain ⟨hg, hn⟩ := and_e (Cond.before_iff.mp (show (Jvm.Cond.and given_1 narrow_1).before args s = true from hpre))
  obtain ⟨g1, g2⟩ := and_e hg
  obtain ⟨g3, g4⟩ := and_e g2
  obtain ⟨g5, g6⟩ := and_e g4
  obtain ⟨g7, g8⟩ := and_e g6
  obtain ⟨g9, g10⟩ := and_e g8
  obtain ⟨g11, g12⟩ := and_e g10
  obtain ⟨v0, v1, v2, v3, v4, v5, rfl⟩ : ∃ v0 v1 v2 v3 v4 v5 : Value, args = #[v0, v1, v2, v3, v4, v5] := by
    have hs : args.size = 6 := by simpa [Cond.value, given_1] using g1
    obtain ⟨L⟩ := args
    match L, hs with
    | [v0, v1, v2, v3, v4, v5], _ => exact ⟨v0, v1, v2, v3, v4, v5, rfl⟩
  have hw := fun d (hd : d ∈ tables_1) => atoms_spec (ws := Jvm.Cond.code x code maxLocals ret :: tables_1) hat d (List.mem_cons_of_mem _ hd)
  have hfit : Fit s := fun {y c} hc i hi => by
    obtain ⟨ha, rfl⟩ := Array.getElem?_eq_some_iff.mp hc
    have q := List.all_eq_true.mp ((Array.all_eq_true_iff_forall_mem.mp hF) _ (Array.getElem_mem ha)) i (List.mem_range.mpr hi)
    simpa [Array.getElem?_eq_getElem hi] using q
  obtain ⟨hsets, hown0⟩ := atoms_of _ (rest_1_c_eq ▸ (show rest_1_c.before _ s = true from hrest))
  obtain ⟨i0, ei0⟩ := is_v g3
  obtain rfl : v0 = (.int i0) := Option.some.inj ei0
  obtain ⟨i1, ei1⟩ := is_v g5
  obtain rfl : v1 = (.int i1) := Option.some.inj ei1
  obtain ⟨i2, ei2⟩ := is_v g7
  obtain rfl : v2 = (.int i2) := Option.some.inj ei2
  obtain ⟨i3, ei3⟩ := is_v g9
  obtain rfl : v3 = (.int i3) := Option.some.inj ei3
  obtain ⟨i4, ei4⟩ := is_v g11
  obtain rfl : v4 = (.int i4) := Option.some.inj ei4
  obtain ⟨i5, ei5⟩ := is_v g12
  obtain rfl : v5 = (.int i5) := Option.some.inj ei5
  obtain ⟨de, ev_de⟩ := exa_v (Cond.before_iff.mp (own_w hsets 7 rfl))
  obtain ⟨cde, Ade⟩ := Arr.start ev_de (Cond.before_iff.mp (own_w hsets 6 rfl))
  obtain ⟨le1, le2⟩ := own_len ev_de Ade (own_eqInt (Cond.before_iff.mp (own_w hsets 8 rfl)))
  have D2 := Sta.start ev_de (Or.inr ⟨(own_w hw 2 rfl), (own_w hsets 2 rfl)⟩)
  obtain ⟨kde, hkde⟩ : ∃ z, z = cde.cls := ⟨_, rfl⟩
  have D3 : Arv s s.heap de kde (.object "java/lang/Object") (0 : Int32) [] .null := by rw [hkde]; exact Arv.start hfit Ade le1 le2 (by decide) rfl trivial
  obtain ⟨wz, ev_wz⟩ := exa_v (Cond.before_iff.mp (own_w hsets 28 rfl))
  obtain ⟨cz, Az⟩ := Arr.start ev_wz (Cond.before_iff.mp (own_w hsets 27 rfl))
  obtain ⟨lz1, lz2⟩ := own_len ev_wz Az (own_eqInt (Cond.before_iff.mp (own_w hsets 29 rfl)))
  have D0 := Sta.start ev_wz (Or.inl (own_w hsets 10 rfl))
  obtain ⟨z0, evz0⟩ := exa_v (Cond.before_iff.mp (own_w hsets 31 rfl))
  have el0 := (elem_in evz0 ev_wz (Term.int_eval 0) Az.1).2
  have B0 : BDc s s.heap z0 (Int64.ofNat 0) 0 := ⟨Exa.start evz0 (Cond.before_iff.mp (own_w hsets 31 rfl)), Fld.start ((fld_at evz0).symm.trans (own_eqLong (Cond.before_iff.mp (own_w hsets 33 rfl)))), Fld.start ((fld_at evz0).symm.trans (own_eqInt (Cond.before_iff.mp (own_w hsets 32 rfl))))⟩
  obtain ⟨z1, evz1⟩ := exa_v (Cond.before_iff.mp (own_w hsets 41 rfl))
  have el1 := (elem_in evz1 ev_wz (Term.int_eval 1) Az.1).2
  have B1 : BDc s s.heap z1 (Int64.ofNat 1) 0 := ⟨Exa.start evz1 (Cond.before_iff.mp (own_w hsets 41 rfl)), Fld.start ((fld_at evz1).symm.trans (own_eqLong (Cond.before_iff.mp (own_w hsets 43 rfl)))), Fld.start ((fld_at evz1).symm.trans (own_eqInt (Cond.before_iff.mp (own_w hsets 42 rfl))))⟩
  obtain ⟨z2, evz2⟩ := exa_v (Cond.before_iff.mp (own_w hsets 51 rfl))
  have el2 := (elem_in evz2 ev_wz (Term.int_eval 2) Az.1).2
  have B2 : BDc s s.heap z2 (Int64.ofNat 2) 0 := ⟨Exa.start evz2 (Cond.before_iff.mp (own_w hsets 51 rfl)), Fld.start ((fld_at evz2).symm.trans (own_eqLong (Cond.before_iff.mp (own_w hsets 53 rfl)))), Fld.start ((fld_at evz2).symm.trans (own_eqInt (Cond.before_iff.mp (own_w hsets 52 rfl))))⟩
  obtain ⟨z3, evz3⟩ := exa_v (Cond.before_iff.mp (own_w hsets 60 rfl))
  have el3 := (elem_in evz3 ev_wz (Term.int_eval 3) Az.1).2
  have B3 : BDc s s.heap z3 (Int64.ofNat 3) 0 := ⟨Exa.start evz3 (Cond.before_iff.mp (own_w hsets 60 rfl)), Fld.start ((fld_at evz3).symm.trans (own_eqLong (Cond.before_iff.mp (own_w hsets 62 rfl)))), Fld.start ((fld_at evz3).symm.trans (own_eqInt (Cond.before_iff.mp (own_w hsets 61 rfl))))⟩
  obtain ⟨z4, evz4⟩ := exa_v (Cond.before_iff.mp (own_w hsets 68 rfl))
  have el4 := (elem_in evz4 ev_wz (Term.int_eval 4) Az.1).2
  have B4 : BDc s s.heap z4 (Int64.ofNat 4) 0 := ⟨Exa.start evz4 (Cond.before_iff.mp (own_w hsets 68 rfl)), Fld.start ((fld_at evz4).symm.trans (own_eqLong (Cond.before_iff.mp (own_w hsets 70 rfl)))), Fld.start ((fld_at evz4).symm.trans (own_eqInt (Cond.before_iff.mp (own_w hsets 69 rfl))))⟩
  obtain ⟨z5, evz5⟩ := exa_v (Cond.before_iff.mp (own_w hsets 76 rfl))
  have el5 := (elem_in evz5 ev_wz (Term.int_eval 5) Az.1).2
  have B5 : BDc s s.heap z5 (Int64.ofNat 5) 0 := ⟨Exa.start evz5 (Cond.before_iff.mp (own_w hsets 76 rfl)), Fld.start ((fld_at evz5).symm.trans (own_eqLong (Cond.before_iff.mp (own_w hsets 78 rfl)))), Fld.start ((fld_at evz5).symm.trans (own_eqInt (Cond.before_iff.mp (own_w hsets 77 rfl))))⟩
  obtain ⟨z6, evz6⟩ := exa_v (Cond.before_iff.mp (own_w hsets 84 rfl))
  have el6 := (elem_in evz6 ev_wz (Term.int_eval 6) Az.1).2
  have B6 : BDc s s.heap z6 (Int64.ofNat 6) 0 := ⟨Exa.start evz6 (Cond.before_iff.mp (own_w hsets 84 rfl)), Fld.start ((fld_at evz6).symm.trans (own_eqLong (Cond.before_iff.mp (own_w hsets 86 rfl)))), Fld.start ((fld_at evz6).symm.trans (own_eqInt (Cond.before_iff.mp (own_w hsets 85 rfl))))⟩
  obtain ⟨z7, evz7⟩ := exa_v (Cond.before_iff.mp (own_w hsets 92 rfl))
  have el7 := (elem_in evz7 ev_wz (Term.int_eval 7) Az.1).2
  have B7 : BDc s s.heap z7 (Int64.ofNat 7) 0 := ⟨Exa.start evz7 (Cond.before_iff.mp (own_w hsets 92 rfl)), Fld.start ((fld_at evz7).symm.trans (own_eqLong (Cond.before_iff.mp (own_w hsets 94 rfl)))), Fld.start ((fld_at evz7).symm.trans (own_eqInt (Cond.before_iff.mp (own_w hsets 93 rfl))))⟩
  obtain ⟨z8, evz8⟩ := exa_v (Cond.before_iff.mp (own_w hsets 100 rfl))
  have el8 := (elem_in evz8 ev_wz (Term.int_eval 8) Az.1).2
  have B8 : BDc s s.heap z8 (Int64.ofNat 8) 0 := ⟨Exa.start evz8 (Cond.before_iff.mp (own_w hsets 100 rfl)), Fld.start ((fld_at evz8).symm.trans (own_eqLong (Cond.before_iff.mp (own_w hsets 102 rfl)))), Fld.start ((fld_at evz8).symm.trans (own_eqInt (Cond.before_iff.mp (own_w hsets 101 rfl))))⟩
  obtain ⟨z9, evz9⟩ := exa_v (Cond.before_iff.mp (own_w hsets 108 rfl))
  have el9 := (elem_in evz9 ev_wz (Term.int_eval 9) Az.1).2
  have B9 : BDc s s.heap z9 (Int64.ofNat 9) 0 := ⟨Exa.start evz9 (Cond.before_iff.mp (own_w hsets 108 rfl)), Fld.start ((fld_at evz9).symm.trans (own_eqLong (Cond.before_iff.mp (own_w hsets 110 rfl)))), Fld.start ((fld_at evz9).symm.trans (own_eqInt (Cond.before_iff.mp (own_w hsets 109 rfl))))⟩
  obtain ⟨z10, evz10⟩ := exa_v (Cond.before_iff.mp (own_w hsets 117 rfl))
  have el10 := (elem_in evz10 ev_wz (Term.int_eval 10) Az.1).2
  have B10 : BDc s s.heap z10 (Int64.ofNat 10) 0 := ⟨Exa.start evz10 (Cond.before_iff.mp (own_w hsets 117 rfl)), Fld.start ((fld_at evz10).symm.trans (own_eqLong (Cond.before_iff.mp (own_w hsets 119 rfl)))), Fld.start ((fld_at evz10).symm.trans (own_eqInt (Cond.before_iff.mp (own_w hsets 118 rfl))))⟩
  have D1 : ZTab s s.heap wz := ⟨cz, Az, own_sz lz1 lz2, fun k hk => match k, hk with
    | 0, _ => ⟨z0, el0, B0⟩
    | 1, _ => ⟨z1, el1, B1⟩
    | 2, _ => ⟨z2, el2, B2⟩
    | 3, _ => ⟨z3, el3, B3⟩
    | 4, _ => ⟨z4, el4, B4⟩
    | 5, _ => ⟨z5, el5, B5⟩
    | 6, _ => ⟨z6, el6, B6⟩
    | 7, _ => ⟨z7, el7, B7⟩
    | 8, _ => ⟨z8, el8, B8⟩
    | 9, _ => ⟨z9, el9, B9⟩
    | 10, _ => ⟨z10, el10, B10⟩
    | n + 11, q => absurd q (by omega)⟩
  obtain ⟨zz, evzz⟩ := exa_v (Cond.before_iff.mp (own_w hsets 130 rfl))
  have D4 := Sta.start evzz (Or.inl (own_w hsets 12 rfl))
  have D5 : BDc s s.heap zz (0 : Int64) (0 : Int32) := ⟨Exa.start evzz (Cond.before_iff.mp (own_w hsets 130 rfl)), Fld.start ((fld_at evzz).symm.trans (own_eqLong (Cond.before_iff.mp (own_w hsets 132 rfl)))), Fld.start ((fld_at evzz).symm.trans (own_eqInt (Cond.before_iff.mp (own_w hsets 131 rfl))))⟩
  obtain ⟨wy, ev_wy⟩ := exa_v (Cond.before_iff.mp (own_w hsets 146 rfl))
  obtain ⟨cy, Ay⟩ := Arr.start ev_wy (Cond.before_iff.mp (own_w hsets 145 rfl))
  obtain ⟨ly1, ly2⟩ := own_len ev_wy Ay (own_eqInt (Cond.before_iff.mp (own_w hsets 147 rfl)))
  have D6 := Sta.start ev_wy (Or.inl (own_w hsets 140 rfl))
  obtain ⟨y0, evy0⟩ := exa_v (Cond.before_iff.mp (own_w hsets 149 rfl))
  have ey0 := (elem_in evy0 ev_wy (Term.int_eval 0) Ay.1).2
  have By0 : BDc s s.heap y0 (0 : Int64) (Int32.ofNat 0) := ⟨Exa.start evy0 (Cond.before_iff.mp (own_w hsets 149 rfl)), Fld.start ((fld_at evy0).symm.trans (own_eqLong (Cond.before_iff.mp (own_w hsets 151 rfl)))), Fld.start ((fld_at evy0).symm.trans (own_eqInt (Cond.before_iff.mp (own_w hsets 150 rfl))))⟩
  obtain ⟨y1, evy1⟩ := exa_v (Cond.before_iff.mp (own_w hsets 158 rfl))
  have ey1 := (elem_in evy1 ev_wy (Term.int_eval 1) Ay.1).2
  have By1 : BDc s s.heap y1 (0 : Int64) (Int32.ofNat 1) := ⟨Exa.start evy1 (Cond.before_iff.mp (own_w hsets 158 rfl)), Fld.start ((fld_at evy1).symm.trans (own_eqLong (Cond.before_iff.mp (own_w hsets 160 rfl)))), Fld.start ((fld_at evy1).symm.trans (own_eqInt (Cond.before_iff.mp (own_w hsets 159 rfl))))⟩
  obtain ⟨y2, evy2⟩ := exa_v (Cond.before_iff.mp (own_w hsets 167 rfl))
  have ey2 := (elem_in evy2 ev_wy (Term.int_eval 2) Ay.1).2
  have By2 : BDc s s.heap y2 (0 : Int64) (Int32.ofNat 2) := ⟨Exa.start evy2 (Cond.before_iff.mp (own_w hsets 167 rfl)), Fld.start ((fld_at evy2).symm.trans (own_eqLong (Cond.before_iff.mp (own_w hsets 169 rfl)))), Fld.start ((fld_at evy2).symm.trans (own_eqInt (Cond.before_iff.mp (own_w hsets 168 rfl))))⟩
  obtain ⟨y3, evy3⟩ := exa_v (Cond.before_iff.mp (own_w hsets 176 rfl))
  have ey3 := (elem_in evy3 ev_wy (Term.int_eval 3) Ay.1).2
  have By3 : BDc s s.heap y3 (0 : Int64) (Int32.ofNat 3) := ⟨Exa.start evy3 (Cond.before_iff.mp (own_w hsets 176 rfl)), Fld.start ((fld_at evy3).symm.trans (own_eqLong (Cond.before_iff.mp (own_w hsets 178 rfl)))), Fld.start ((fld_at evy3).symm.trans (own_eqInt (Cond.before_iff.mp (own_w hsets 177 rfl))))⟩
  obtain ⟨y4, evy4⟩ := exa_v (Cond.before_iff.mp (own_w hsets 185 rfl))
  have ey4 := (elem_in evy4 ev_wy (Term.int_eval 4) Ay.1).2
  have By4 : BDc s s.heap y4 (0 : Int64) (Int32.ofNat 4) := ⟨Exa.start evy4 (Cond.before_iff.mp (own_w hsets 185 rfl)), Fld.start ((fld_at evy4).symm.trans (own_eqLong (Cond.before_iff.mp (own_w hsets 187 rfl)))), Fld.start ((fld_at evy4).symm.trans (own_eqInt (Cond.before_iff.mp (own_w hsets 186 rfl))))⟩
  obtain ⟨y5, evy5⟩ := exa_v (Cond.before_iff.mp (own_w hsets 194 rfl))
  have ey5 := (elem_in evy5 ev_wy (Term.int_eval 5) Ay.1).2
  have By5 : BDc s s.heap y5 (0 : Int64) (Int32.ofNat 5) := ⟨Exa.start evy5 (Cond.before_iff.mp (own_w hsets 194 rfl)), Fld.start ((fld_at evy5).symm.trans (own_eqLong (Cond.before_iff.mp (own_w hsets 196 rfl)))), Fld.start ((fld_at evy5).symm.trans (own_eqInt (Cond.before_iff.mp (own_w hsets 195 rfl))))⟩
  obtain ⟨y6, evy6⟩ := exa_v (Cond.before_iff.mp (own_w hsets 203 rfl))
  have ey6 := (elem_in evy6 ev_wy (Term.int_eval 6) Ay.1).2
  have By6 : BDc s s.heap y6 (0 : Int64) (Int32.ofNat 6) := ⟨Exa.start evy6 (Cond.before_iff.mp (own_w hsets 203 rfl)), Fld.start ((fld_at evy6).symm.trans (own_eqLong (Cond.before_iff.mp (own_w hsets 205 rfl)))), Fld.start ((fld_at evy6).symm.trans (own_eqInt (Cond.before_iff.mp (own_w hsets 204 rfl))))⟩
  obtain ⟨y7, evy7⟩ := exa_v (Cond.before_iff.mp (own_w hsets 212 rfl))
  have ey7 := (elem_in evy7 ev_wy (Term.int_eval 7) Ay.1).2
  have By7 : BDc s s.heap y7 (0 : Int64) (Int32.ofNat 7) := ⟨Exa.start evy7 (Cond.before_iff.mp (own_w hsets 212 rfl)), Fld.start ((fld_at evy7).symm.trans (own_eqLong (Cond.before_iff.mp (own_w hsets 214 rfl)))), Fld.start ((fld_at evy7).symm.trans (own_eqInt (Cond.before_iff.mp (own_w hsets 213 rfl))))⟩
  obtain ⟨y8, evy8⟩ := exa_v (Cond.before_iff.mp (own_w hsets 221 rfl))
  have ey8 := (elem_in evy8 ev_wy (Term.int_eval 8) Ay.1).2
  have By8 : BDc s s.heap y8 (0 : Int64) (Int32.ofNat 8) := ⟨Exa.start evy8 (Cond.before_iff.mp (own_w hsets 221 rfl)), Fld.start ((fld_at evy8).symm.trans (own_eqLong (Cond.before_iff.mp (own_w hsets 223 rfl)))), Fld.start ((fld_at evy8).symm.trans (own_eqInt (Cond.before_iff.mp (own_w hsets 222 rfl))))⟩
  obtain ⟨y9, evy9⟩ := exa_v (Cond.before_iff.mp (own_w hsets 230 rfl))
  have ey9 := (elem_in evy9 ev_wy (Term.int_eval 9) Ay.1).2
  have By9 : BDc s s.heap y9 (0 : Int64) (Int32.ofNat 9) := ⟨Exa.start evy9 (Cond.before_iff.mp (own_w hsets 230 rfl)), Fld.start ((fld_at evy9).symm.trans (own_eqLong (Cond.before_iff.mp (own_w hsets 232 rfl)))), Fld.start ((fld_at evy9).symm.trans (own_eqInt (Cond.before_iff.mp (own_w hsets 231 rfl))))⟩
  obtain ⟨y10, evy10⟩ := exa_v (Cond.before_iff.mp (own_w hsets 239 rfl))
  have ey10 := (elem_in evy10 ev_wy (Term.int_eval 10) Ay.1).2
  have By10 : BDc s s.heap y10 (0 : Int64) (Int32.ofNat 10) := ⟨Exa.start evy10 (Cond.before_iff.mp (own_w hsets 239 rfl)), Fld.start ((fld_at evy10).symm.trans (own_eqLong (Cond.before_iff.mp (own_w hsets 241 rfl)))), Fld.start ((fld_at evy10).symm.trans (own_eqInt (Cond.before_iff.mp (own_w hsets 240 rfl))))⟩
  obtain ⟨y11, evy11⟩ := exa_v (Cond.before_iff.mp (own_w hsets 248 rfl))
  have ey11 := (elem_in evy11 ev_wy (Term.int_eval 11) Ay.1).2
  have By11 : BDc s s.heap y11 (0 : Int64) (Int32.ofNat 11) := ⟨Exa.start evy11 (Cond.before_iff.mp (own_w hsets 248 rfl)), Fld.start ((fld_at evy11).symm.trans (own_eqLong (Cond.before_iff.mp (own_w hsets 250 rfl)))), Fld.start ((fld_at evy11).symm.trans (own_eqInt (Cond.before_iff.mp (own_w hsets 249 rfl))))⟩
  obtain ⟨y12, evy12⟩ := exa_v (Cond.before_iff.mp (own_w hsets 257 rfl))
  have ey12 := (elem_in evy12 ev_wy (Term.int_eval 12) Ay.1).2
  have By12 : BDc s s.heap y12 (0 : Int64) (Int32.ofNat 12) := ⟨Exa.start evy12 (Cond.before_iff.mp (own_w hsets 257 rfl)), Fld.start ((fld_at evy12).symm.trans (own_eqLong (Cond.before_iff.mp (own_w hsets 259 rfl)))), Fld.start ((fld_at evy12).symm.trans (own_eqInt (Cond.before_iff.mp (own_w hsets 258 rfl))))⟩
  obtain ⟨y13, evy13⟩ := exa_v (Cond.before_iff.mp (own_w hsets 266 rfl))
  have ey13 := (elem_in evy13 ev_wy (Term.int_eval 13) Ay.1).2
  have By13 : BDc s s.heap y13 (0 : Int64) (Int32.ofNat 13) := ⟨Exa.start evy13 (Cond.before_iff.mp (own_w hsets 266 rfl)), Fld.start ((fld_at evy13).symm.trans (own_eqLong (Cond.before_iff.mp (own_w hsets 268 rfl)))), Fld.start ((fld_at evy13).symm.trans (own_eqInt (Cond.before_iff.mp (own_w hsets 267 rfl))))⟩
  obtain ⟨y14, evy14⟩ := exa_v (Cond.before_iff.mp (own_w hsets 275 rfl))
  have ey14 := (elem_in evy14 ev_wy (Term.int_eval 14) Ay.1).2
  have By14 : BDc s s.heap y14 (0 : Int64) (Int32.ofNat 14) := ⟨Exa.start evy14 (Cond.before_iff.mp (own_w hsets 275 rfl)), Fld.start ((fld_at evy14).symm.trans (own_eqLong (Cond.before_iff.mp (own_w hsets 277 rfl)))), Fld.start ((fld_at evy14).symm.trans (own_eqInt (Cond.before_iff.mp (own_w hsets 276 rfl))))⟩
  obtain ⟨y15, evy15⟩ := exa_v (Cond.before_iff.mp (own_w hsets 284 rfl))
  have ey15 := (elem_in evy15 ev_wy (Term.int_eval 15) Ay.1).2
  have By15 : BDc s s.heap y15 (0 : Int64) (Int32.ofNat 15) := ⟨Exa.start evy15 (Cond.before_iff.mp (own_w hsets 284 rfl)), Fld.start ((fld_at evy15).symm.trans (own_eqLong (Cond.before_iff.mp (own_w hsets 286 rfl)))), Fld.start ((fld_at evy15).symm.trans (own_eqInt (Cond.before_iff.mp (own_w hsets 285 rfl))))⟩
  have D7 : STab s s.heap wy := ⟨cy, Ay, own_sz ly1 ly2, fun k hk => match k, hk with
    | 0, _ => ⟨y0, ey0, By0⟩
    | 1, _ => ⟨y1, ey1, By1⟩
    | 2, _ => ⟨y2, ey2, By2⟩
    | 3, _ => ⟨y3, ey3, By3⟩
    | 4, _ => ⟨y4, ey4, By4⟩
    | 5, _ => ⟨y5, ey5, By5⟩
    | 6, _ => ⟨y6, ey6, By6⟩
    | 7, _ => ⟨y7, ey7, By7⟩
    | 8, _ => ⟨y8, ey8, By8⟩
    | 9, _ => ⟨y9, ey9, By9⟩
    | 10, _ => ⟨y10, ey10, By10⟩
    | 11, _ => ⟨y11, ey11, By11⟩
    | 12, _ => ⟨y12, ey12, By12⟩
    | 13, _ => ⟨y13, ey13, By13⟩
    | 14, _ => ⟨y14, ey14, By14⟩
    | 15, _ => ⟨y15, ey15, By15⟩
    | n + 16, q => absurd q (by omega)⟩
  obtain ⟨n, o, h1, h2, h3, _, L, rfl, hQ, hq⟩ := claw l s _ hw tables_1 i0 i1 i2 i3 i4 i5 wz de kde zz wy s.heap s.heap.size D0 D1 D2 D3 D4 D5 D6 D7 (Old.start s) p e ha hc hk s m _ below hf ((Spec.applies_iff_loose hf).mp happ).1 ⟨rfl, State.Warmed39.refl s, rfl⟩ trivial
  obtain ⟨rfl, N, -⟩ := hQ
  refine ⟨n, _, h1, h2, h3, hpost _ _ _ _ _ _ ⟨Cond.after_iff.mpr rfl, Cond.after_iff.mpr (eq_i res_at (Term.int_eval (1)) rfl), trivial⟩ ⟨hq.1, hq.2.1, hq.2.2.1, (hq.2.2.2.sift fun y hy => Or.inr (N y hy)).mono (by decide) (by decide)⟩⟩
theorem main_1_1 : Claimed_1_1 := comes_1 fun _ _ _ _ _ _ h hF => ⟨h.1, hF⟩
theorem main_1_2 : Claimed_1_2 := comes_1 fun _ _ _ _ _ _ h hF => ⟨h.2.1, hF⟩
end Jvm.Pilot.@@N@@
namespace Jvm.Pilot.@@N@@
open Jvm Jvm.ClassFile Sem Op Lib Jvm.Free Jvm.Stand Jvm.Pilot.@@N@@.Jvm.D
/-! MADE BY PROGRAM (witnessworld.py) out of the Statement's table words and the real class files: 34 classes; the members and pool entries that the words name. The judged class is class 1, her method 1. -/
namespace start1
open Jvm.ClassFile
def u (s : String) : CpInfo := .utf8 (stringToUtf16 s)
/-- a pool by its gaps: so many unusable entries, then the entry; so many at the end -/
def gap : Nat → List CpInfo → List CpInfo
  | 0, r => r
  | n + 1, r => .unusable :: gap n r
def poolList (es : List (Nat × CpInfo)) (last : Nat) : List CpInfo := es.foldr (fun e r => gap e.1 (e.2 :: r)) (gap last [])
def pool (es : List (Nat × CpInfo)) (last : Nat) : Array CpInfo := ⟨poolList es last⟩
def fileOf (pool : Array CpInfo) (this : Nat) (attrs : Array Attribute := #[]) (ms : Array MethodInfo := #[]) (fl : Nat := 33) (sup : Nat := 0) (ifs : Array Nat := #[]) (fds : Array FieldInfo := #[]) : ClassFile where
  minorVersion := 0
  majorVersion := 65
  constantPool := pool
  accessFlags := fl
  thisClass := this
  superClass := sup
  interfaces := ifs
  fields := fds
  methods := ms
  attributes := attrs
def plain (name : String) (sup : Option ClassId) : Class where
  name := name
  kind := .ordinary
  loader := none
  accessFlags := 33
  super := sup
  interfaces := #[]
  cf := none
  fields := #[]
  methods := #[]
  instanceTypes := #[]
  staticTypes := #[]
  resolved := #[]
  callSites := []
  init := .initialized
  statics := none
  mirror := none

def pool0 : Array CpInfo := pool [(5, u "<init>"), (0, u "()V"), (1, .class_ 10), (1, u "java/lang/Object")] 113

def k0c0 : Code := { maxStack := 0, maxLocals := 1, code := object_method_1_code, exceptionTable := #[], attributes := #[] }
def k0m0 : Method := { name := "<init>", desc := "()V", sig := { parameters := [], returnType := none }, accessFlags := 1, code := some k0c0 }
/-- java/lang/Object -/
def k0 : Class := { plain "java/lang/Object" none with
  accessFlags := 33
  interfaces := #[]
  cf := some (fileOf pool0 8 #[] #[{ accessFlags := 1, nameIndex := 5, descriptorIndex := 6, attributes := #[] }] 33 0 #[] #[])
  fields := #[]
  methods := #[k0m0]
  instanceTypes := #[]
  staticTypes := #[]
  resolved := Array.replicate 124 none
  statics := none }

def pool1 : Array CpInfo := pool [(2, .class_ 4), (0, .nameAndType 5 6), (0, u "java/lang/Object"), (0, u "<init>"), (0, u "()V"), (0, .class_ 8), (0, u "java/util/ArrayList"), (0, .methodref 7 3), (0, .methodref 11 12), (0, .class_ 13), (0, .nameAndType 14 15), (0, u "java/math/BigDecimal"), (0, u "valueOf"), (0, u "(JI)Ljava/math/BigDecimal;"), (0, .class_ 17), (0, u "com/example/slotwright/slotwright/Market$Advertiser"), (0, .string 19), (0, u "a"), (0, .methodref 16 21), (0, .nameAndType 5 22), (0, u "(Ljava/lang/String;Ljava/math/BigDecimal;)V"), (0, .interfaceMethodref 24 25), (0, .class_ 26), (0, .nameAndType 27 28), (0, u "java/util/List"), (0, u "add"), (0, u "(Ljava/lang/Object;)Z"), (0, .string 30), (0, u "b"), (0, .string 32), (0, u "c"), (0, .class_ 34), (0, u "com/example/slotwright/slotwright/Ledger"), (0, .methodref 33 36), (0, .nameAndType 5 37), (0, u "(Ljava/util/List;)V"), (0, .methodref 33 39), (0, .nameAndType 40 41), (0, u "charge"), (0, u "(ILjava/math/BigDecimal;)V"), (0, .methodref 33 43), (0, .nameAndType 44 45), (0, u "revenue"), (0, u "()Ljava/math/BigDecimal;"), (0, .methodref 11 47), (0, .nameAndType 48 49), (0, u "compareTo"), (0, u "(Ljava/math/BigDecimal;)I"), (0, .class_ 51), (0, u "com/example/slotwright/slotwright/LedgerRevenuePinLaw"), (2, u "law"), (0, u "(IIIIII)Z")] 7

def k1m0 : Method := { name := "<init>", desc := "()V", sig := { parameters := [], returnType := none }, accessFlags := 2, code := none }
def k1c1 : Code := { maxStack := 7, maxLocals := 17, code := code, exceptionTable := #[], attributes := #[] }
def k1m1 : Method := { name := "law", desc := "(IIIIII)Z", sig := { parameters := [.int, .int, .int, .int, .int, .int], returnType := some .boolean }, accessFlags := 9, code := some k1c1 }
/-- com/example/slotwright/slotwright/LedgerRevenuePinLaw -/
def k1 : Class := { plain "com/example/slotwright/slotwright/LedgerRevenuePinLaw" (some 0) with
  accessFlags := 49
  interfaces := #[]
  cf := some (fileOf pool1 50 #[] #[{ accessFlags := 2, nameIndex := 5, descriptorIndex := 6, attributes := #[] }, { accessFlags := 9, nameIndex := 54, descriptorIndex := 55, attributes := #[] }] 49 2 #[] #[])
  fields := #[]
  methods := #[k1m0, k1m1]
  instanceTypes := #[]
  staticTypes := #[]
  resolved := Array.replicate 63 none
  statics := none }

def pool2 : Array CpInfo := pool [(8, .class_ 10), (1, u "java/lang/Iterable"), (24, .class_ 36), (0, u "java/lang/Object")] 25

/-- java/lang/Iterable -/
def k2 : Class := { plain "java/lang/Iterable" (some 0) with
  accessFlags := 1537
  interfaces := #[]
  cf := some (fileOf pool2 8 #[] #[] 1537 35 #[] #[])
  fields := #[]
  methods := #[]
  instanceTypes := #[]
  staticTypes := #[]
  resolved := Array.replicate 62 none
  statics := none }

def pool3 : Array CpInfo := pool [(10, .class_ 12), (1, u "java/util/Collection"), (47, .class_ 61), (0, u "java/lang/Object"), (0, .class_ 63), (0, u "java/lang/Iterable")] 51

/-- java/util/Collection -/
def k3 : Class := { plain "java/util/Collection" (some 0) with
  accessFlags := 1537
  interfaces := #[2]
  cf := some (fileOf pool3 10 #[] #[] 1537 60 #[62] #[])
  fields := #[]
  methods := #[]
  instanceTypes := #[]
  staticTypes := #[]
  resolved := Array.replicate 115 none
  statics := none }

def pool4 : Array CpInfo := pool [(1, .methodref 2 3), (0, .class_ 4), (0, .nameAndType 5 6), (0, u "java/lang/Object"), (0, u "<init>"), (0, u "()V"), (1, .class_ 10), (1, u "java/util/AbstractCollection"), (66, .class_ 78), (0, u "java/util/Collection")] 81

def k4c0 : Code := { maxStack := 1, maxLocals := 1, code := jdk_22_method_1_code, exceptionTable := #[], attributes := #[] }
def k4m0 : Method := { name := "<init>", desc := "()V", sig := { parameters := [], returnType := none }, accessFlags := 4, code := some k4c0 }
/-- java/util/AbstractCollection -/
def k4 : Class := { plain "java/util/AbstractCollection" (some 0) with
  accessFlags := 1057
  interfaces := #[3]
  cf := some (fileOf pool4 8 #[] #[{ accessFlags := 4, nameIndex := 5, descriptorIndex := 6, attributes := #[] }] 1057 2 #[77] #[])
  fields := #[]
  methods := #[k4m0]
  instanceTypes := #[]
  staticTypes := #[]
  resolved := Array.replicate 160 none
  statics := none }

def pool5 : Array CpInfo := pool [(8, .class_ 10), (1, u "java/util/SequencedCollection"), (15, .class_ 27), (0, u "java/lang/Object"), (0, .class_ 29), (0, u "java/util/Collection")] 27

/-- java/util/SequencedCollection -/
def k5 : Class := { plain "java/util/SequencedCollection" (some 0) with
  accessFlags := 1537
  interfaces := #[3]
  cf := some (fileOf pool5 8 #[] #[] 1537 26 #[28] #[])
  fields := #[]
  methods := #[]
  instanceTypes := #[]
  staticTypes := #[]
  resolved := Array.replicate 57 none
  statics := none }

def pool6 : Array CpInfo := pool [(8, .class_ 10), (1, u "java/util/List"), (49, u "add"), (3, u "(Ljava/lang/Object;)Z"), (10, u "get"), (0, u "(I)Ljava/lang/Object;"), (2, u "size"), (0, u "()I"), (22, .class_ 104), (0, u "java/lang/Object"), (15, .class_ 121), (0, u "java/util/SequencedCollection")] 129

def k6m0 : Method := { name := "size", desc := "()I", sig := { parameters := [], returnType := some .int }, accessFlags := 1025, code := none }
def k6m1 : Method := { name := "add", desc := "(Ljava/lang/Object;)Z", sig := { parameters := [(.object "java/lang/Object")], returnType := some .boolean }, accessFlags := 1025, code := none }
def k6m2 : Method := { name := "get", desc := "(I)Ljava/lang/Object;", sig := { parameters := [.int], returnType := some (.object "java/lang/Object") }, accessFlags := 1025, code := none }
/-- java/util/List -/
def k6 : Class := { plain "java/util/List" (some 0) with
  accessFlags := 1537
  interfaces := #[5]
  cf := some (fileOf pool6 8 #[] #[{ accessFlags := 1025, nameIndex := 79, descriptorIndex := 80, attributes := #[] }, { accessFlags := 1025, nameIndex := 60, descriptorIndex := 64, attributes := #[] }, { accessFlags := 1025, nameIndex := 75, descriptorIndex := 76, attributes := #[] }] 1537 103 #[120] #[])
  fields := #[]
  methods := #[k6m0, k6m1, k6m2]
  instanceTypes := #[]
  staticTypes := #[]
  resolved := Array.replicate 251 none
  statics := none }

def pool7 : Array CpInfo := pool [(1, .methodref 2 3), (0, .class_ 4), (0, .nameAndType 5 6), (0, u "java/util/AbstractCollection"), (0, u "<init>"), (0, u "()V"), (0, .fieldref 8 9), (0, .class_ 10), (0, .nameAndType 11 12), (0, u "java/util/AbstractList"), (0, u "modCount"), (0, u "I"), (64, .class_ 78), (0, u "java/util/AbstractList$Itr"), (3, .class_ 83), (0, u "java/util/AbstractList$ListItr"), (9, .class_ 94), (0, u "java/util/AbstractList$RandomAccessSubList"), (3, .class_ 99), (0, u "java/util/AbstractList$SubList"), (33, .class_ 134), (0, u "java/util/List"), (73, .class_ 209), (0, u "java/util/AbstractList$SubList$1"), (0, .class_ 211), (0, u "java/util/AbstractList$RandomAccessSpliterator")] 6

def k7c0 : Code := { maxStack := 2, maxLocals := 1, code := jdk_39_method_1_code, exceptionTable := #[], attributes := #[] }
def k7m0 : Method := { name := "<init>", desc := "()V", sig := { parameters := [], returnType := none }, accessFlags := 4, code := some k7c0 }
/-- java/util/AbstractList -/
def k7 : Class := { plain "java/util/AbstractList" (some 4) with
  accessFlags := 1057
  interfaces := #[6]
  cf := some (fileOf pool7 8 #[.nestMembers #[93, 98, 208, 210, 82, 77]] #[{ accessFlags := 4, nameIndex := 5, descriptorIndex := 6, attributes := #[] }] 1057 2 #[133] #[{ accessFlags := 132, nameIndex := 11, descriptorIndex := 12, attributes := #[] }])
  fields := #[{ name := "modCount", type := .int, accessFlags := 132, slot := 0, constantValue := 0 }]
  methods := #[k7m0]
  instanceTypes := #[.int]
  staticTypes := #[]
  resolved := Array.replicate 218 none
  statics := none }

def pool8 : Array CpInfo := pool [(1, .class_ 2), (0, u "java/util/RandomAccess"), (0, .class_ 4), (0, u "java/lang/Object")] 2

/-- java/util/RandomAccess -/
def k8 : Class := { plain "java/util/RandomAccess" (some 0) with
  accessFlags := 1537
  interfaces := #[]
  cf := some (fileOf pool8 1 #[] #[] 1537 3 #[] #[])
  fields := #[]
  methods := #[]
  instanceTypes := #[]
  staticTypes := #[]
  resolved := Array.replicate 7 none
  statics := none }

def pool9 : Array CpInfo := pool [(1, .class_ 2), (0, u "java/lang/Cloneable"), (0, .class_ 4), (0, u "java/lang/Object")] 2

/-- java/lang/Cloneable -/
def k9 : Class := { plain "java/lang/Cloneable" (some 0) with
  accessFlags := 1537
  interfaces := #[]
  cf := some (fileOf pool9 1 #[] #[] 1537 3 #[] #[])
  fields := #[]
  methods := #[]
  instanceTypes := #[]
  staticTypes := #[]
  resolved := Array.replicate 7 none
  statics := none }

def pool10 : Array CpInfo := pool [(1, .class_ 2), (0, u "java/io/Serializable"), (0, .class_ 4), (0, u "java/lang/Object")] 2

/-- java/io/Serializable -/
def k10 : Class := { plain "java/io/Serializable" (some 0) with
  accessFlags := 1537
  interfaces := #[]
  cf := some (fileOf pool10 1 #[] #[] 1537 3 #[] #[])
  fields := #[]
  methods := #[]
  instanceTypes := #[]
  staticTypes := #[]
  resolved := Array.replicate 7 none
  statics := none }

def pool11 : Array CpInfo := pool [(1, .methodref 2 3), (0, .class_ 4), (0, .nameAndType 5 6), (0, u "java/util/AbstractList"), (0, u "<init>"), (0, u "()V"), (0, .class_ 8), (0, u "java/lang/Object"), (0, .fieldref 10 11), (0, .class_ 12), (0, .nameAndType 13 14), (0, u "java/util/ArrayList"), (0, u "elementData"), (0, u "[Ljava/lang/Object;"), (2, u "EMPTY_ELEMENTDATA"), (21, .fieldref 10 40), (0, .nameAndType 41 14), (0, u "DEFAULTCAPACITY_EMPTY_ELEMENTDATA"), (5, u "()[Ljava/lang/Object;"), (0, .fieldref 10 49), (0, .nameAndType 50 51), (0, u "size"), (0, u "I"), (11, .fieldref 10 64), (0, .nameAndType 65 51), (0, u "modCount"), (3, .methodref 10 70), (0, .nameAndType 71 72), (0, u "grow"), (0, u "(I)[Ljava/lang/Object;"), (6, .methodref 80 81), (0, .class_ 82), (0, .nameAndType 83 84), (0, u "java/lang/Math"), (0, u "max"), (0, u "(II)I"), (11, u "(Ljava/lang/Object;)Z"), (21, .methodref 119 120), (0, .class_ 121), (0, .nameAndType 122 84), (0, u "java/util/Objects"), (0, u "checkIndex"), (0, .methodref 10 124), (0, .nameAndType 13 125), (0, u "(I)Ljava/lang/Object;"), (3, .methodref 10 130), (0, .nameAndType 71 47), (0, .methodref 10 132), (0, .nameAndType 133 134), (0, u "add"), (0, u "(Ljava/lang/Object;[Ljava/lang/Object;I)V"), (13, .class_ 149), (0, u "java/util/List"), (36, u "()I"), (75, .class_ 263), (0, u "java/util/ArrayList$ListItr"), (3, .class_ 268), (0, u "java/util/ArrayList$Itr"), (7, .class_ 277), (0, u "java/util/ArrayList$SubList"), (12, .class_ 291), (0, u "java/util/ArrayList$ArrayListSpliterator"), (37, .class_ 330), (0, u "java/util/RandomAccess"), (0, .class_ 332), (0, u "java/lang/Cloneable"), (0, .class_ 334), (0, u "java/io/Serializable"), (0, u "serialVersionUID"), (0, u "J"), (3, u "DEFAULT_CAPACITY"), (40, u "get"), (118, .class_ 501), (0, u "java/util/ArrayList$SubList$2"), (0, .class_ 503), (0, u "java/util/ArrayList$SubList$1")] 5

def k11c0 : Code := { maxStack := 2, maxLocals := 1, code := jdk_38_method_2_code, exceptionTable := #[], attributes := #[] }
def k11m0 : Method := { name := "<init>", desc := "()V", sig := { parameters := [], returnType := none }, accessFlags := 1, code := some k11c0 }
def k11c1 : Code := { maxStack := 4, maxLocals := 4, code := jdk_38_method_6_code, exceptionTable := #[], attributes := #[] }
def k11m1 : Method := { name := "grow", desc := "(I)[Ljava/lang/Object;", sig := { parameters := [.int], returnType := some (.array (.object "java/lang/Object")) }, accessFlags := 2, code := some k11c1 }
def k11c2 : Code := { maxStack := 3, maxLocals := 1, code := jdk_38_method_7_code, exceptionTable := #[], attributes := #[] }
def k11m2 : Method := { name := "grow", desc := "()[Ljava/lang/Object;", sig := { parameters := [], returnType := some (.array (.object "java/lang/Object")) }, accessFlags := 2, code := some k11c2 }
def k11c3 : Code := { maxStack := 1, maxLocals := 1, code := jdk_38_method_8_code, exceptionTable := #[], attributes := #[] }
def k11m3 : Method := { name := "size", desc := "()I", sig := { parameters := [], returnType := some .int }, accessFlags := 1, code := some k11c3 }
def k11c4 : Code := { maxStack := 2, maxLocals := 2, code := jdk_38_method_18_code, exceptionTable := #[], attributes := #[] }
def k11m4 : Method := { name := "elementData", desc := "(I)Ljava/lang/Object;", sig := { parameters := [.int], returnType := some (.object "java/lang/Object") }, accessFlags := 0, code := some k11c4 }
def k11c5 : Code := { maxStack := 2, maxLocals := 2, code := jdk_38_method_20_code, exceptionTable := #[], attributes := #[] }
def k11m5 : Method := { name := "get", desc := "(I)Ljava/lang/Object;", sig := { parameters := [.int], returnType := some (.object "java/lang/Object") }, accessFlags := 1, code := some k11c5 }
def k11c6 : Code := { maxStack := 3, maxLocals := 4, code := jdk_38_method_24_code, exceptionTable := #[], attributes := #[] }
def k11m6 : Method := { name := "add", desc := "(Ljava/lang/Object;[Ljava/lang/Object;I)V", sig := { parameters := [(.object "java/lang/Object"), (.array (.object "java/lang/Object")), .int], returnType := none }, accessFlags := 2, code := some k11c6 }
def k11c7 : Code := { maxStack := 4, maxLocals := 2, code := jdk_38_method_25_code, exceptionTable := #[], attributes := #[] }
def k11m7 : Method := { name := "add", desc := "(Ljava/lang/Object;)Z", sig := { parameters := [(.object "java/lang/Object")], returnType := some .boolean }, accessFlags := 1, code := some k11c7 }
/-- java/util/ArrayList -/
def k11 : Class := { plain "java/util/ArrayList" (some 7) with
  accessFlags := 33
  interfaces := #[6, 8, 9, 10]
  cf := some (fileOf pool11 10 #[.nestMembers #[290, 276, 500, 502, 262, 267]] #[{ accessFlags := 1, nameIndex := 5, descriptorIndex := 6, attributes := #[] }, { accessFlags := 2, nameIndex := 71, descriptorIndex := 72, attributes := #[] }, { accessFlags := 2, nameIndex := 71, descriptorIndex := 47, attributes := #[] }, { accessFlags := 1, nameIndex := 50, descriptorIndex := 186, attributes := #[] }, { accessFlags := 0, nameIndex := 13, descriptorIndex := 125, attributes := #[] }, { accessFlags := 1, nameIndex := 381, descriptorIndex := 125, attributes := #[] }, { accessFlags := 2, nameIndex := 133, descriptorIndex := 134, attributes := #[] }, { accessFlags := 1, nameIndex := 133, descriptorIndex := 96, attributes := #[] }] 33 2 #[148, 329, 331, 333] #[{ accessFlags := 26, nameIndex := 335, descriptorIndex := 336, attributes := #[] }, { accessFlags := 26, nameIndex := 340, descriptorIndex := 51, attributes := #[] }, { accessFlags := 26, nameIndex := 17, descriptorIndex := 14, attributes := #[] }, { accessFlags := 26, nameIndex := 41, descriptorIndex := 14, attributes := #[] }, { accessFlags := 128, nameIndex := 13, descriptorIndex := 14, attributes := #[] }, { accessFlags := 2, nameIndex := 50, descriptorIndex := 51, attributes := #[] }])
  fields := #[{ name := "serialVersionUID", type := .long, accessFlags := 26, slot := 0, constantValue := 0 }, { name := "DEFAULT_CAPACITY", type := .int, accessFlags := 26, slot := 1, constantValue := 0 }, { name := "EMPTY_ELEMENTDATA", type := (.array (.object "java/lang/Object")), accessFlags := 26, slot := 2, constantValue := 0 }, { name := "DEFAULTCAPACITY_EMPTY_ELEMENTDATA", type := (.array (.object "java/lang/Object")), accessFlags := 26, slot := 3, constantValue := 0 }, { name := "elementData", type := (.array (.object "java/lang/Object")), accessFlags := 128, slot := 1, constantValue := 0 }, { name := "size", type := .int, accessFlags := 2, slot := 2, constantValue := 0 }]
  methods := #[k11m0, k11m1, k11m2, k11m3, k11m4, k11m5, k11m6, k11m7]
  instanceTypes := #[.int, (.array (.object "java/lang/Object")), .int]
  staticTypes := #[.long, .int, (.array (.object "java/lang/Object")), (.array (.object "java/lang/Object"))]
  resolved := Array.replicate 509 none
  statics := some 0 }

def pool12 : Array CpInfo := pool [(1, .methodref 2 3), (0, .class_ 4), (0, .nameAndType 5 6), (0, u "java/lang/Object"), (0, u "<init>"), (0, u "()V"), (1, .class_ 10), (1, u "java/lang/Number"), (2, .class_ 14), (0, u "java/io/Serializable"), (0, u "serialVersionUID"), (0, u "J")] 20

def k12c0 : Code := { maxStack := 1, maxLocals := 1, code := jdk_18_method_1_code, exceptionTable := #[], attributes := #[] }
def k12m0 : Method := { name := "<init>", desc := "()V", sig := { parameters := [], returnType := none }, accessFlags := 1, code := some k12c0 }
/-- java/lang/Number -/
def k12 : Class := { plain "java/lang/Number" (some 0) with
  accessFlags := 1057
  interfaces := #[10]
  cf := some (fileOf pool12 8 #[] #[{ accessFlags := 1, nameIndex := 5, descriptorIndex := 6, attributes := #[] }] 1057 2 #[13] #[{ accessFlags := 26, nameIndex := 15, descriptorIndex := 16, attributes := #[] }])
  fields := #[{ name := "serialVersionUID", type := .long, accessFlags := 26, slot := 0, constantValue := 0 }]
  methods := #[k12m0]
  instanceTypes := #[]
  staticTypes := #[.long]
  resolved := Array.replicate 37 none
  statics := none }

def pool13 : Array CpInfo := pool [(1, .class_ 2), (0, u "java/lang/Comparable"), (0, .class_ 4), (0, u "java/lang/Object")] 7

/-- java/lang/Comparable -/
def k13 : Class := { plain "java/lang/Comparable" (some 0) with
  accessFlags := 1537
  interfaces := #[]
  cf := some (fileOf pool13 1 #[] #[] 1537 3 #[] #[])
  fields := #[]
  methods := #[]
  instanceTypes := #[]
  staticTypes := #[]
  resolved := Array.replicate 12 none
  statics := none }

def pool14 : Array CpInfo := pool [(3, .class_ 4), (0, u "java/math/BigDecimal"), (2, .class_ 8), (0, u "java/lang/Long"), (2, .methodref 12 13), (0, .class_ 14), (0, .nameAndType 15 16), (0, u "java/lang/Number"), (0, u "<init>"), (0, u "()V"), (0, .fieldref 3 18), (0, .nameAndType 19 20), (0, u "scale"), (0, u "I"), (0, .fieldref 3 22), (0, .nameAndType 23 20), (0, u "precision"), (0, .fieldref 3 25), (0, .nameAndType 26 27), (0, u "intCompact"), (0, u "J"), (0, .fieldref 3 29), (0, .nameAndType 30 31), (0, u "intVal"), (0, u "Ljava/math/BigInteger;"), (65, u "LONG_TEN_POWERS_TABLE"), (0, u "[J"), (16, u "(J)I"), (9, .long 9223372036854775808), (36, u "()I"), (24, u "ZERO"), (2, u "INFLATED_BIGINT"), (4, u "valueOf"), (10, u "TWO"), (29, .methodref 3 237), (0, .nameAndType 195 238), (0, u "(J)Ljava/math/BigDecimal;"), (0, .methodref 3 240), (0, .nameAndType 241 242), (0, u "zeroValueOf"), (0, u "(I)Ljava/math/BigDecimal;"), (0, .methodref 3 244), (0, .nameAndType 15 245), (0, u "(Ljava/math/BigInteger;JII)V"), (0, .fieldref 3 247), (0, .nameAndType 248 249), (0, u "ZERO_THROUGH_TEN"), (0, u "[Ljava/math/BigDecimal;"), (0, .fieldref 3 251), (0, .nameAndType 252 249), (0, u "ZERO_SCALED_BY"), (4, .methodref 3 258), (0, .nameAndType 259 260), (0, u "add"), (0, u "(JIJI)Ljava/math/BigDecimal;"), (8, u "(Ljava/math/BigDecimal;)Ljava/math/BigDecimal;"), (0, .methodref 3 271), (0, .nameAndType 272 162), (0, u "signum"), (40, u "$assertionsDisabled"), (0, u "Z"), (7, u "(JJ)J"), (4, u "checkScale"), (0, .methodref 3 329), (0, .nameAndType 195 330), (0, u "(JI)Ljava/math/BigDecimal;"), (5, u "subtract"), (7, u "(JJI)Ljava/math/BigDecimal;"), (94, u "(Ljava/math/BigDecimal;)I"), (38, u "ONE_TENTH"), (0, u "Ljava/math/BigDecimal;"), (2, u "compareTo"), (2, u "TEN"), (14, .class_ 502), (1, u "java/math/BigDecimal$1"), (15, u "ONE_HALF"), (16, u "ONE"), (60, .methodref 7 597), (0, .nameAndType 272 115), (1, .methodref 3 600), (0, .nameAndType 601 602), (0, u "longMultiplyPowerTen"), (0, u "(JI)J"), (32, u "(JJ)I"), (7, u "stringCache"), (0, u "Ljava/lang/String;"), (52, .class_ 699), (1, u "java/math/BigDecimal$LongOverflow"), (8, u "FLOAT_10_POW"), (0, u "[F"), (39, u "DOUBLE_10_POW"), (0, u "[D"), (19, .class_ 772), (1, u "java/math/BigDecimal$StringBuilderHelper"), (35, u "BIG_TEN_POWERS_TABLE_MAX"), (2, u "BIG_TEN_POWERS_TABLE"), (0, u "[Ljava/math/BigInteger;"), (14, u "THRESHOLDS_TABLE"), (23, .class_ 853), (1, u "java/math/BigDecimal$UnsafeHolder"), (140, .methodref 3 995), (0, .nameAndType 327 635), (0, .methodref 3 997), (0, .nameAndType 259 322), (2, .methodref 3 1001), (0, .nameAndType 259 344), (66, u "LONGLONG_TEN_POWERS_TABLE"), (0, u "[[J"), (112, u "BIG_TEN_POWERS_TABLE_INITLEN"), (113, .class_ 1297), (0, u "java/lang/Comparable"), (0, u "L"), (0, u "D"), (1, u "P_F"), (1, u "Q_MIN_F"), (1, u "Q_MAX_F"), (1, u "P_D"), (1, u "Q_MIN_D"), (1, u "Q_MAX_D"), (1, u "INFLATED"), (0, u "MAX_COMPACT_DIGITS"), (1, u "serialVersionUID"), (2, u "HALF_LONG_MAX_VALUE"), (0, u "HALF_LONG_MIN_VALUE"), (0, u "ROUND_UP"), (6, u "ROUND_DOWN"), (1, u "ROUND_CEILING"), (1, u "ROUND_FLOOR"), (1, u "ROUND_HALF_UP"), (1, u "ROUND_HALF_DOWN"), (1, u "ROUND_HALF_EVEN"), (1, u "ROUND_UNNECESSARY"), (1, u "DIV_NUM_BASE")] 294

def k14c0 : Code := { maxStack := 3, maxLocals := 6, code := jdk_17_method_1_code, exceptionTable := #[], attributes := #[] }
def k14m0 : Method := { name := "<init>", desc := "(Ljava/math/BigInteger;JII)V", sig := { parameters := [(.object "java/math/BigInteger"), .long, .int, .int], returnType := none }, accessFlags := 0, code := some k14c0 }
def k14c1 : Code := { maxStack := 7, maxLocals := 3, code := jdk_17_method_20_code, exceptionTable := #[], attributes := #[] }
def k14m1 : Method := { name := "valueOf", desc := "(JI)Ljava/math/BigDecimal;", sig := { parameters := [.long, .int], returnType := some (.object "java/math/BigDecimal") }, accessFlags := 9, code := some k14c1 }
def k14c2 : Code := { maxStack := 7, maxLocals := 2, code := jdk_17_method_21_code, exceptionTable := #[], attributes := #[] }
def k14m2 : Method := { name := "valueOf", desc := "(J)Ljava/math/BigDecimal;", sig := { parameters := [.long], returnType := some (.object "java/math/BigDecimal") }, accessFlags := 9, code := some k14c2 }
def k14c3 : Code := { maxStack := 7, maxLocals := 1, code := jdk_17_method_24_code, exceptionTable := #[], attributes := #[] }
def k14m3 : Method := { name := "zeroValueOf", desc := "(I)Ljava/math/BigDecimal;", sig := { parameters := [.int], returnType := some (.object "java/math/BigDecimal") }, accessFlags := 8, code := some k14c3 }
def k14c4 : Code := { maxStack := 6, maxLocals := 2, code := jdk_17_method_26_code, exceptionTable := #[], attributes := #[] }
def k14m4 : Method := { name := "add", desc := "(Ljava/math/BigDecimal;)Ljava/math/BigDecimal;", sig := { parameters := [(.object "java/math/BigDecimal")], returnType := some (.object "java/math/BigDecimal") }, accessFlags := 1, code := some k14c4 }
def k14c5 : Code := { maxStack := 6, maxLocals := 2, code := jdk_17_method_29_code, exceptionTable := #[], attributes := #[] }
def k14m5 : Method := { name := "subtract", desc := "(Ljava/math/BigDecimal;)Ljava/math/BigDecimal;", sig := { parameters := [(.object "java/math/BigDecimal")], returnType := some (.object "java/math/BigDecimal") }, accessFlags := 1, code := some k14c5 }
def k14c6 : Code := { maxStack := 4, maxLocals := 1, code := jdk_17_method_58_code, exceptionTable := #[], attributes := #[] }
def k14m6 : Method := { name := "signum", desc := "()I", sig := { parameters := [], returnType := some .int }, accessFlags := 1, code := some k14c6 }
def k14c7 : Code := { maxStack := 4, maxLocals := 6, code := jdk_17_method_70_code, exceptionTable := #[], attributes := #[] }
def k14m7 : Method := { name := "compareTo", desc := "(Ljava/math/BigDecimal;)I", sig := { parameters := [(.object "java/math/BigDecimal")], returnType := some .int }, accessFlags := 1, code := some k14c7 }
def k14c8 : Code := { maxStack := 4, maxLocals := 7, code := jdk_17_method_97_code, exceptionTable := #[], attributes := #[] }
def k14m8 : Method := { name := "longMultiplyPowerTen", desc := "(JI)J", sig := { parameters := [.long, .int], returnType := some .long }, accessFlags := 10, code := some k14c8 }
def k14c9 : Code := { maxStack := 4, maxLocals := 5, code := jdk_17_method_113_code, exceptionTable := #[], attributes := #[] }
def k14m9 : Method := { name := "checkScale", desc := "(JJ)I", sig := { parameters := [.long, .long], returnType := some .int }, accessFlags := 10, code := some k14c9 }
def k14c10 : Code := { maxStack := 6, maxLocals := 6, code := jdk_17_method_132_code, exceptionTable := #[], attributes := #[] }
def k14m10 : Method := { name := "add", desc := "(JJ)J", sig := { parameters := [.long, .long], returnType := some .long }, accessFlags := 10, code := some k14c10 }
def k14c11 : Code := { maxStack := 5, maxLocals := 7, code := jdk_17_method_133_code, exceptionTable := #[], attributes := #[] }
def k14m11 : Method := { name := "add", desc := "(JJI)Ljava/math/BigDecimal;", sig := { parameters := [.long, .long, .int], returnType := some (.object "java/math/BigDecimal") }, accessFlags := 10, code := some k14c11 }
def k14c12 : Code := { maxStack := 7, maxLocals := 12, code := jdk_17_method_134_code, exceptionTable := #[], attributes := #[] }
def k14m12 : Method := { name := "add", desc := "(JIJI)Ljava/math/BigDecimal;", sig := { parameters := [.long, .int, .long, .int], returnType := some (.object "java/math/BigDecimal") }, accessFlags := 10, code := some k14c12 }
/-- java/math/BigDecimal -/
def k14 : Class := { plain "java/math/BigDecimal" (some 12) with
  accessFlags := 33
  interfaces := #[13]
  cf := some (fileOf pool14 3 #[.nestMembers #[500, 851, 770, 697]] #[{ accessFlags := 0, nameIndex := 15, descriptorIndex := 245, attributes := #[] }, { accessFlags := 9, nameIndex := 195, descriptorIndex := 330, attributes := #[] }, { accessFlags := 9, nameIndex := 195, descriptorIndex := 238, attributes := #[] }, { accessFlags := 8, nameIndex := 241, descriptorIndex := 242, attributes := #[] }, { accessFlags := 1, nameIndex := 259, descriptorIndex := 269, attributes := #[] }, { accessFlags := 1, nameIndex := 336, descriptorIndex := 269, attributes := #[] }, { accessFlags := 1, nameIndex := 272, descriptorIndex := 162, attributes := #[] }, { accessFlags := 1, nameIndex := 482, descriptorIndex := 439, attributes := #[] }, { accessFlags := 10, nameIndex := 601, descriptorIndex := 602, attributes := #[] }, { accessFlags := 10, nameIndex := 327, descriptorIndex := 635, attributes := #[] }, { accessFlags := 10, nameIndex := 259, descriptorIndex := 322, attributes := #[] }, { accessFlags := 10, nameIndex := 259, descriptorIndex := 344, attributes := #[] }, { accessFlags := 10, nameIndex := 259, descriptorIndex := 260, attributes := #[] }] 33 12 #[1296] #[{ accessFlags := 26, nameIndex := 1298, descriptorIndex := 1299, attributes := #[] }, { accessFlags := 26, nameIndex := 1301, descriptorIndex := 20, attributes := #[] }, { accessFlags := 26, nameIndex := 1303, descriptorIndex := 20, attributes := #[] }, { accessFlags := 26, nameIndex := 1305, descriptorIndex := 20, attributes := #[] }, { accessFlags := 26, nameIndex := 1307, descriptorIndex := 20, attributes := #[] }, { accessFlags := 26, nameIndex := 1309, descriptorIndex := 20, attributes := #[] }, { accessFlags := 26, nameIndex := 1311, descriptorIndex := 20, attributes := #[] }, { accessFlags := 18, nameIndex := 30, descriptorIndex := 31, attributes := #[] }, { accessFlags := 18, nameIndex := 19, descriptorIndex := 20, attributes := #[] }, { accessFlags := 130, nameIndex := 23, descriptorIndex := 20, attributes := #[] }, { accessFlags := 130, nameIndex := 643, descriptorIndex := 644, attributes := #[] }, { accessFlags := 24, nameIndex := 1313, descriptorIndex := 27, attributes := #[] }, { accessFlags := 26, nameIndex := 190, descriptorIndex := 31, attributes := #[] }, { accessFlags := 146, nameIndex := 26, descriptorIndex := 27, attributes := #[] }, { accessFlags := 26, nameIndex := 1314, descriptorIndex := 20, attributes := #[] }, { accessFlags := 26, nameIndex := 1316, descriptorIndex := 27, attributes := #[] }, { accessFlags := 26, nameIndex := 248, descriptorIndex := 249, attributes := #[] }, { accessFlags := 26, nameIndex := 252, descriptorIndex := 249, attributes := #[] }, { accessFlags := 26, nameIndex := 1319, descriptorIndex := 27, attributes := #[] }, { accessFlags := 26, nameIndex := 1320, descriptorIndex := 27, attributes := #[] }, { accessFlags := 25, nameIndex := 187, descriptorIndex := 479, attributes := #[] }, { accessFlags := 25, nameIndex := 535, descriptorIndex := 479, attributes := #[] }, { accessFlags := 25, nameIndex := 206, descriptorIndex := 479, attributes := #[] }, { accessFlags := 25, nameIndex := 485, descriptorIndex := 479, attributes := #[] }, { accessFlags := 26, nameIndex := 478, descriptorIndex := 479, attributes := #[] }, { accessFlags := 26, nameIndex := 518, descriptorIndex := 479, attributes := #[] }, { accessFlags := 25, nameIndex := 1321, descriptorIndex := 20, attributes := #[] }, { accessFlags := 25, nameIndex := 1328, descriptorIndex := 20, attributes := #[] }, { accessFlags := 25, nameIndex := 1330, descriptorIndex := 20, attributes := #[] }, { accessFlags := 25, nameIndex := 1332, descriptorIndex := 20, attributes := #[] }, { accessFlags := 25, nameIndex := 1334, descriptorIndex := 20, attributes := #[] }, { accessFlags := 25, nameIndex := 1336, descriptorIndex := 20, attributes := #[] }, { accessFlags := 25, nameIndex := 1338, descriptorIndex := 20, attributes := #[] }, { accessFlags := 25, nameIndex := 1340, descriptorIndex := 20, attributes := #[] }, { accessFlags := 26, nameIndex := 749, descriptorIndex := 750, attributes := #[] }, { accessFlags := 26, nameIndex := 708, descriptorIndex := 709, attributes := #[] }, { accessFlags := 26, nameIndex := 97, descriptorIndex := 98, attributes := #[] }, { accessFlags := 74, nameIndex := 811, descriptorIndex := 812, attributes := #[] }, { accessFlags := 26, nameIndex := 1182, descriptorIndex := 20, attributes := #[] }, { accessFlags := 26, nameIndex := 808, descriptorIndex := 20, attributes := #[] }, { accessFlags := 26, nameIndex := 827, descriptorIndex := 98, attributes := #[] }, { accessFlags := 26, nameIndex := 1342, descriptorIndex := 27, attributes := #[] }, { accessFlags := 26, nameIndex := 1068, descriptorIndex := 1069, attributes := #[] }, { accessFlags := 4120, nameIndex := 313, descriptorIndex := 314, attributes := #[] }])
  fields := #[{ name := "L", type := .double, accessFlags := 26, slot := 0, constantValue := 0 }, { name := "P_F", type := .int, accessFlags := 26, slot := 1, constantValue := 0 }, { name := "Q_MIN_F", type := .int, accessFlags := 26, slot := 2, constantValue := 0 }, { name := "Q_MAX_F", type := .int, accessFlags := 26, slot := 3, constantValue := 0 }, { name := "P_D", type := .int, accessFlags := 26, slot := 4, constantValue := 0 }, { name := "Q_MIN_D", type := .int, accessFlags := 26, slot := 5, constantValue := 0 }, { name := "Q_MAX_D", type := .int, accessFlags := 26, slot := 6, constantValue := 0 }, { name := "intVal", type := (.object "java/math/BigInteger"), accessFlags := 18, slot := 0, constantValue := 0 }, { name := "scale", type := .int, accessFlags := 18, slot := 1, constantValue := 0 }, { name := "precision", type := .int, accessFlags := 130, slot := 2, constantValue := 0 }, { name := "stringCache", type := (.object "java/lang/String"), accessFlags := 130, slot := 3, constantValue := 0 }, { name := "INFLATED", type := .long, accessFlags := 24, slot := 7, constantValue := 0 }, { name := "INFLATED_BIGINT", type := (.object "java/math/BigInteger"), accessFlags := 26, slot := 8, constantValue := 0 }, { name := "intCompact", type := .long, accessFlags := 146, slot := 4, constantValue := 0 }, { name := "MAX_COMPACT_DIGITS", type := .int, accessFlags := 26, slot := 9, constantValue := 0 }, { name := "serialVersionUID", type := .long, accessFlags := 26, slot := 10, constantValue := 0 }, { name := "ZERO_THROUGH_TEN", type := (.array (.object "java/math/BigDecimal")), accessFlags := 26, slot := 11, constantValue := 0 }, { name := "ZERO_SCALED_BY", type := (.array (.object "java/math/BigDecimal")), accessFlags := 26, slot := 12, constantValue := 0 }, { name := "HALF_LONG_MAX_VALUE", type := .long, accessFlags := 26, slot := 13, constantValue := 0 }, { name := "HALF_LONG_MIN_VALUE", type := .long, accessFlags := 26, slot := 14, constantValue := 0 }, { name := "ZERO", type := (.object "java/math/BigDecimal"), accessFlags := 25, slot := 15, constantValue := 0 }, { name := "ONE", type := (.object "java/math/BigDecimal"), accessFlags := 25, slot := 16, constantValue := 0 }, { name := "TWO", type := (.object "java/math/BigDecimal"), accessFlags := 25, slot := 17, constantValue := 0 }, { name := "TEN", type := (.object "java/math/BigDecimal"), accessFlags := 25, slot := 18, constantValue := 0 }, { name := "ONE_TENTH", type := (.object "java/math/BigDecimal"), accessFlags := 26, slot := 19, constantValue := 0 }, { name := "ONE_HALF", type := (.object "java/math/BigDecimal"), accessFlags := 26, slot := 20, constantValue := 0 }, { name := "ROUND_UP", type := .int, accessFlags := 25, slot := 21, constantValue := 0 }, { name := "ROUND_DOWN", type := .int, accessFlags := 25, slot := 22, constantValue := 0 }, { name := "ROUND_CEILING", type := .int, accessFlags := 25, slot := 23, constantValue := 0 }, { name := "ROUND_FLOOR", type := .int, accessFlags := 25, slot := 24, constantValue := 0 }, { name := "ROUND_HALF_UP", type := .int, accessFlags := 25, slot := 25, constantValue := 0 }, { name := "ROUND_HALF_DOWN", type := .int, accessFlags := 25, slot := 26, constantValue := 0 }, { name := "ROUND_HALF_EVEN", type := .int, accessFlags := 25, slot := 27, constantValue := 0 }, { name := "ROUND_UNNECESSARY", type := .int, accessFlags := 25, slot := 28, constantValue := 0 }, { name := "DOUBLE_10_POW", type := (.array .double), accessFlags := 26, slot := 29, constantValue := 0 }, { name := "FLOAT_10_POW", type := (.array .float), accessFlags := 26, slot := 30, constantValue := 0 }, { name := "LONG_TEN_POWERS_TABLE", type := (.array .long), accessFlags := 26, slot := 31, constantValue := 0 }, { name := "BIG_TEN_POWERS_TABLE", type := (.array (.object "java/math/BigInteger")), accessFlags := 74, slot := 32, constantValue := 0 }, { name := "BIG_TEN_POWERS_TABLE_INITLEN", type := .int, accessFlags := 26, slot := 33, constantValue := 0 }, { name := "BIG_TEN_POWERS_TABLE_MAX", type := .int, accessFlags := 26, slot := 34, constantValue := 0 }, { name := "THRESHOLDS_TABLE", type := (.array .long), accessFlags := 26, slot := 35, constantValue := 0 }, { name := "DIV_NUM_BASE", type := .long, accessFlags := 26, slot := 36, constantValue := 0 }, { name := "LONGLONG_TEN_POWERS_TABLE", type := (.array (.array .long)), accessFlags := 26, slot := 37, constantValue := 0 }, { name := "$assertionsDisabled", type := .boolean, accessFlags := 4120, slot := 38, constantValue := 0 }]
  methods := #[k14m0, k14m1, k14m2, k14m3, k14m4, k14m5, k14m6, k14m7, k14m8, k14m9, k14m10, k14m11, k14m12]
  instanceTypes := #[(.object "java/math/BigInteger"), .int, .int, (.object "java/lang/String"), .long]
  staticTypes := #[.double, .int, .int, .int, .int, .int, .int, .long, (.object "java/math/BigInteger"), .int, .long, (.array (.object "java/math/BigDecimal")), (.array (.object "java/math/BigDecimal")), .long, .long, (.object "java/math/BigDecimal"), (.object "java/math/BigDecimal"), (.object "java/math/BigDecimal"), (.object "java/math/BigDecimal"), (.object "java/math/BigDecimal"), (.object "java/math/BigDecimal"), .int, .int, .int, .int, .int, .int, .int, .int, (.array .double), (.array .float), (.array .long), (.array (.object "java/math/BigInteger")), .int, .int, (.array .long), .long, (.array (.array .long)), .boolean]
  resolved := Array.replicate 1637 none
  statics := some 1 }

def pool15 : Array CpInfo := pool [(1, .methodref 2 3), (0, .class_ 4), (0, .nameAndType 5 6), (0, u "java/lang/Object"), (0, u "<init>"), (0, u "()V"), (0, .fieldref 8 9), (0, .class_ 10), (0, .nameAndType 11 12), (0, u "com/example/slotwright/slotwright/Ledger"), (0, u "advertisers"), (0, u "Ljava/util/List;"), (0, .interfaceMethodref 14 15), (0, .class_ 16), (0, .nameAndType 17 18), (0, u "java/util/List"), (0, u "size"), (0, u "()I"), (0, .class_ 20), (0, u "java/math/BigDecimal"), (0, .fieldref 8 22), (0, .nameAndType 23 24), (0, u "spent"), (0, u "[Ljava/math/BigDecimal;"), (0, .fieldref 8 26), (0, .nameAndType 27 24), (0, u "remaining"), (0, .fieldref 19 29), (0, .nameAndType 30 31), (0, u "ZERO"), (0, u "Ljava/math/BigDecimal;"), (0, .methodref 33 34), (0, .class_ 35), (0, .nameAndType 36 37), (0, u "java/util/Arrays"), (0, u "fill"), (0, u "([Ljava/lang/Object;Ljava/lang/Object;)V"), (0, .interfaceMethodref 14 39), (0, .nameAndType 40 41), (0, u "get"), (0, u "(I)Ljava/lang/Object;"), (0, .class_ 43), (0, u "com/example/slotwright/slotwright/Market$Advertiser"), (0, .methodref 42 45), (0, .nameAndType 46 47), (0, u "budget"), (0, u "()Ljava/math/BigDecimal;"), (1, .class_ 51), (1, u "com/example/slotwright/slotwright/Ledger$Charge"), (6, u "charge"), (0, u "(ILjava/math/BigDecimal;)V"), (0, .methodref 19 61), (0, .nameAndType 62 63), (0, u "add"), (0, u "(Ljava/math/BigDecimal;)Ljava/math/BigDecimal;"), (0, .methodref 19 65), (0, .nameAndType 66 63), (0, u "subtract"), (13, u "(Ljava/util/List;)V"), (8, u "revenue")] 11

def k15c0 : Code := { maxStack := 4, maxLocals := 3, code := prog_23_method_1_code, exceptionTable := #[], attributes := #[] }
def k15m0 : Method := { name := "<init>", desc := "(Ljava/util/List;)V", sig := { parameters := [(.object "java/util/List")], returnType := none }, accessFlags := 0, code := some k15c0 }
def k15c1 : Code := { maxStack := 4, maxLocals := 3, code := prog_23_method_3_code, exceptionTable := #[], attributes := #[] }
def k15m1 : Method := { name := "charge", desc := "(ILjava/math/BigDecimal;)V", sig := { parameters := [.int, (.object "java/math/BigDecimal")], returnType := none }, accessFlags := 0, code := some k15c1 }
def k15c2 : Code := { maxStack := 2, maxLocals := 6, code := prog_23_method_8_code, exceptionTable := #[], attributes := #[] }
def k15m2 : Method := { name := "revenue", desc := "()Ljava/math/BigDecimal;", sig := { parameters := [], returnType := some (.object "java/math/BigDecimal") }, accessFlags := 0, code := some k15c2 }
/-- com/example/slotwright/slotwright/Ledger -/
def k15 : Class := { plain "com/example/slotwright/slotwright/Ledger" (some 0) with
  accessFlags := 48
  interfaces := #[]
  cf := some (fileOf pool15 8 #[.nestMembers #[49]] #[{ accessFlags := 0, nameIndex := 5, descriptorIndex := 80, attributes := #[] }, { accessFlags := 0, nameIndex := 58, descriptorIndex := 59, attributes := #[] }, { accessFlags := 0, nameIndex := 89, descriptorIndex := 47, attributes := #[] }] 48 2 #[] #[{ accessFlags := 18, nameIndex := 11, descriptorIndex := 12, attributes := #[] }, { accessFlags := 18, nameIndex := 23, descriptorIndex := 24, attributes := #[] }, { accessFlags := 18, nameIndex := 27, descriptorIndex := 24, attributes := #[] }])
  fields := #[{ name := "advertisers", type := (.object "java/util/List"), accessFlags := 18, slot := 0, constantValue := 0 }, { name := "spent", type := (.array (.object "java/math/BigDecimal")), accessFlags := 18, slot := 1, constantValue := 0 }, { name := "remaining", type := (.array (.object "java/math/BigDecimal")), accessFlags := 18, slot := 2, constantValue := 0 }]
  methods := #[k15m0, k15m1, k15m2]
  instanceTypes := #[(.object "java/util/List"), (.array (.object "java/math/BigDecimal")), (.array (.object "java/math/BigDecimal"))]
  staticTypes := #[]
  resolved := Array.replicate 101 none
  statics := none }

def pool16 : Array CpInfo := pool [(2, .class_ 4), (1, u "java/lang/Object"), (0, u "<init>"), (0, u "()V"), (7, .class_ 16), (1, u "java/util/Arrays"), (57, .class_ 76), (1, u "java/util/Arrays$NaturalOrder"), (36, .class_ 115), (1, u "java/util/Arrays$LegacyMergeSort"), (1, u "Z"), (257, .class_ 376), (0, u "java/util/Arrays$ArrayList"), (68, u "$assertionsDisabled"), (269, u "MIN_ARRAY_SORT_GRAN"), (0, u "I"), (2, u "INSERTIONSORT_THRESHOLD"), (120, u "fill"), (17, u "([Ljava/lang/Object;Ljava/lang/Object;)V"), (116, .class_ 976), (0, u "java/util/Arrays$ArrayItr")] 52

def k16m0 : Method := { name := "<init>", desc := "()V", sig := { parameters := [], returnType := none }, accessFlags := 2, code := none }
def k16c1 : Code := { maxStack := 3, maxLocals := 4, code := jdk_65_method_117_code, exceptionTable := #[], attributes := #[] }
def k16m1 : Method := { name := "fill", desc := "([Ljava/lang/Object;Ljava/lang/Object;)V", sig := { parameters := [(.array (.object "java/lang/Object")), (.object "java/lang/Object")], returnType := none }, accessFlags := 9, code := some k16c1 }
/-- java/util/Arrays -/
def k16 : Class := { plain "java/util/Arrays" (some 0) with
  accessFlags := 49
  interfaces := #[]
  cf := some (fileOf pool16 14 #[.nestMembers #[975, 375, 113, 74]] #[{ accessFlags := 2, nameIndex := 5, descriptorIndex := 6, attributes := #[] }, { accessFlags := 9, nameIndex := 840, descriptorIndex := 858, attributes := #[] }] 49 2 #[] #[{ accessFlags := 26, nameIndex := 715, descriptorIndex := 716, attributes := #[] }, { accessFlags := 26, nameIndex := 719, descriptorIndex := 716, attributes := #[] }, { accessFlags := 4120, nameIndex := 445, descriptorIndex := 117, attributes := #[] }])
  fields := #[{ name := "MIN_ARRAY_SORT_GRAN", type := .int, accessFlags := 26, slot := 0, constantValue := 0 }, { name := "INSERTIONSORT_THRESHOLD", type := .int, accessFlags := 26, slot := 1, constantValue := 0 }, { name := "$assertionsDisabled", type := .boolean, accessFlags := 4120, slot := 2, constantValue := 0 }]
  methods := #[k16m0, k16m1]
  instanceTypes := #[]
  staticTypes := #[.int, .int, .boolean]
  resolved := Array.replicate 1029 none
  statics := none }

def pool17 : Array CpInfo := pool [(1, .class_ 2), (0, u "java/lang/constant/Constable"), (0, .class_ 4), (0, u "java/lang/Object")] 6

/-- java/lang/constant/Constable -/
def k17 : Class := { plain "java/lang/constant/Constable" (some 0) with
  accessFlags := 1537
  interfaces := #[]
  cf := some (fileOf pool17 1 #[] #[] 1537 3 #[] #[])
  fields := #[]
  methods := #[]
  instanceTypes := #[]
  staticTypes := #[]
  resolved := Array.replicate 11 none
  statics := none }

def pool18 : Array CpInfo := pool [(1, .class_ 2), (0, u "java/lang/constant/ConstantDesc"), (0, .class_ 4), (0, u "java/lang/Object")] 32

/-- java/lang/constant/ConstantDesc -/
def k18 : Class := { plain "java/lang/constant/ConstantDesc" (some 0) with
  accessFlags := 1537
  interfaces := #[]
  cf := some (fileOf pool18 1 #[] #[] 1537 3 #[] #[])
  fields := #[]
  methods := #[]
  instanceTypes := #[]
  staticTypes := #[]
  resolved := Array.replicate 37 none
  statics := none }

def pool19 : Array CpInfo := pool [(1, .class_ 2), (0, u "java/lang/Long"), (98, u "(J)I"), (133, .class_ 237), (1, u "java/lang/Long$LongCache"), (33, .class_ 272), (0, u "java/lang/Number"), (2, u "value"), (0, u "J"), (84, u "TYPE"), (0, u "Ljava/lang/Class;"), (0, .class_ 364), (0, u "java/lang/Comparable"), (0, .class_ 366), (0, u "java/lang/constant/Constable"), (0, .class_ 368), (0, u "java/lang/constant/ConstantDesc"), (0, u "MIN_VALUE"), (1, u "MAX_VALUE"), (4, u "SIZE"), (0, u "I"), (1, u "BYTES"), (1, u "serialVersionUID"), (115, u "signum")] 26

def k19c0 : Code := { maxStack := 5, maxLocals := 2, code := jdk_35_method_57_code, exceptionTable := #[], attributes := #[] }
def k19m0 : Method := { name := "signum", desc := "(J)I", sig := { parameters := [.long], returnType := some .int }, accessFlags := 9, code := some k19c0 }
/-- java/lang/Long -/
def k19 : Class := { plain "java/lang/Long" (some 12) with
  accessFlags := 49
  interfaces := #[13, 17, 18]
  cf := some (fileOf pool19 1 #[.nestMembers #[235]] #[{ accessFlags := 9, nameIndex := 497, descriptorIndex := 101, attributes := #[] }] 49 271 #[363, 365, 367] #[{ accessFlags := 25, nameIndex := 369, descriptorIndex := 276, attributes := #[] }, { accessFlags := 25, nameIndex := 371, descriptorIndex := 276, attributes := #[] }, { accessFlags := 25, nameIndex := 361, descriptorIndex := 362, attributes := #[] }, { accessFlags := 18, nameIndex := 275, descriptorIndex := 276, attributes := #[] }, { accessFlags := 25, nameIndex := 376, descriptorIndex := 377, attributes := #[] }, { accessFlags := 25, nameIndex := 379, descriptorIndex := 377, attributes := #[] }, { accessFlags := 26, nameIndex := 381, descriptorIndex := 276, attributes := #[] }])
  fields := #[{ name := "MIN_VALUE", type := .long, accessFlags := 25, slot := 0, constantValue := 0 }, { name := "MAX_VALUE", type := .long, accessFlags := 25, slot := 1, constantValue := 0 }, { name := "TYPE", type := (.object "java/lang/Class"), accessFlags := 25, slot := 2, constantValue := 0 }, { name := "value", type := .long, accessFlags := 18, slot := 0, constantValue := 0 }, { name := "SIZE", type := .int, accessFlags := 25, slot := 3, constantValue := 0 }, { name := "BYTES", type := .int, accessFlags := 25, slot := 4, constantValue := 0 }, { name := "serialVersionUID", type := .long, accessFlags := 26, slot := 5, constantValue := 0 }]
  methods := #[k19m0]
  instanceTypes := #[.long]
  staticTypes := #[.long, .long, (.object "java/lang/Class"), .int, .int, .long]
  resolved := Array.replicate 524 none
  statics := none }

def pool20 : Array CpInfo := pool [(1, .methodref 2 3), (0, .class_ 4), (0, .nameAndType 5 6), (0, u "java/lang/Object"), (0, u "<init>"), (0, u "()V"), (0, .class_ 8), (0, u "java/lang/Record")] 13

def k20c0 : Code := { maxStack := 1, maxLocals := 1, code := jdk_30_method_1_code, exceptionTable := #[], attributes := #[] }
def k20m0 : Method := { name := "<init>", desc := "()V", sig := { parameters := [], returnType := none }, accessFlags := 4, code := some k20c0 }
/-- java/lang/Record -/
def k20 : Class := { plain "java/lang/Record" (some 0) with
  accessFlags := 1057
  interfaces := #[]
  cf := some (fileOf pool20 7 #[] #[{ accessFlags := 4, nameIndex := 5, descriptorIndex := 6, attributes := #[] }] 1057 2 #[] #[])
  fields := #[]
  methods := #[k20m0]
  instanceTypes := #[]
  staticTypes := #[]
  resolved := Array.replicate 22 none
  statics := none }

def pool21 : Array CpInfo := pool [(1, .methodref 2 3), (0, .class_ 4), (0, .nameAndType 5 6), (0, u "java/lang/Record"), (0, u "<init>"), (0, u "()V"), (0, .fieldref 8 9), (0, .class_ 10), (0, .nameAndType 11 12), (0, u "com/example/slotwright/slotwright/Market$Advertiser"), (0, u "id"), (0, u "Ljava/lang/String;"), (0, .fieldref 8 14), (0, .nameAndType 15 16), (0, u "budget"), (0, u "Ljava/math/BigDecimal;"), (12, u "(Ljava/lang/String;Ljava/math/BigDecimal;)V"), (6, u "()Ljava/math/BigDecimal;"), (3, .class_ 41), (0, u "com/example/slotwright/slotwright/Market")] 20

def k21c0 : Code := { maxStack := 2, maxLocals := 3, code := prog_27_method_1_code, exceptionTable := #[], attributes := #[] }
def k21m0 : Method := { name := "<init>", desc := "(Ljava/lang/String;Ljava/math/BigDecimal;)V", sig := { parameters := [(.object "java/lang/String"), (.object "java/math/BigDecimal")], returnType := none }, accessFlags := 0, code := some k21c0 }
def k21c1 : Code := { maxStack := 1, maxLocals := 1, code := prog_27_method_6_code, exceptionTable := #[], attributes := #[] }
def k21m1 : Method := { name := "budget", desc := "()Ljava/math/BigDecimal;", sig := { parameters := [], returnType := some (.object "java/math/BigDecimal") }, accessFlags := 1, code := some k21c1 }
/-- com/example/slotwright/slotwright/Market$Advertiser -/
def k21 : Class := { plain "com/example/slotwright/slotwright/Market$Advertiser" (some 20) with
  accessFlags := 48
  interfaces := #[]
  cf := some (fileOf pool21 8 #[.nestHost 40] #[{ accessFlags := 0, nameIndex := 5, descriptorIndex := 29, attributes := #[] }, { accessFlags := 1, nameIndex := 15, descriptorIndex := 36, attributes := #[] }] 48 2 #[] #[{ accessFlags := 18, nameIndex := 11, descriptorIndex := 12, attributes := #[] }, { accessFlags := 18, nameIndex := 15, descriptorIndex := 16, attributes := #[] }])
  fields := #[{ name := "id", type := (.object "java/lang/String"), accessFlags := 18, slot := 0, constantValue := 0 }, { name := "budget", type := (.object "java/math/BigDecimal"), accessFlags := 18, slot := 1, constantValue := 0 }]
  methods := #[k21m0, k21m1]
  instanceTypes := #[(.object "java/lang/String"), (.object "java/math/BigDecimal")]
  staticTypes := #[]
  resolved := Array.replicate 62 none
  statics := none }

def pool22 : Array CpInfo := pool [(2, .class_ 4), (1, u "java/lang/CharSequence"), (42, .class_ 48), (0, u "java/lang/CharSequence$1CodePointIterator"), (10, .class_ 60), (0, u "java/lang/CharSequence$1CharIterator"), (5, .class_ 67), (0, u "java/lang/Object")] 63

/-- java/lang/CharSequence -/
def k22 : Class := { plain "java/lang/CharSequence" (some 0) with
  accessFlags := 1537
  interfaces := #[]
  cf := some (fileOf pool22 2 #[.nestMembers #[47, 59]] #[] 1537 66 #[] #[])
  fields := #[]
  methods := #[]
  instanceTypes := #[]
  staticTypes := #[]
  resolved := Array.replicate 131 none
  statics := none }

def pool23 : Array CpInfo := pool [(2, .class_ 4), (1, u "java/lang/Object"), (0, u "<init>"), (0, u "()V"), (3, .class_ 12), (1, u "java/lang/String"), (0, u "value"), (0, u "[B"), (2, u "coder"), (0, u "B"), (2, u "hash"), (0, u "I"), (2, u "hashIsZero"), (0, u "Z"), (13, u "COMPACT_STRINGS"), (534, .class_ 576), (0, u "java/lang/CharSequence"), (22, u "CASE_INSENSITIVE_ORDER"), (0, u "Ljava/util/Comparator;"), (500, u "serialPersistentFields"), (0, u "[Ljava/io/ObjectStreamField;"), (0, .class_ 1104), (0, u "java/lang/String$CaseInsensitiveComparator"), (1, .class_ 1107), (0, u "java/io/Serializable"), (0, .class_ 1109), (0, u "java/lang/Comparable"), (0, .class_ 1111), (0, u "java/lang/constant/Constable"), (0, .class_ 1113), (0, u "java/lang/constant/ConstantDesc"), (2, u "serialVersionUID"), (0, u "J"), (3, u "REPL"), (0, u "C"), (2, u "LATIN1"), (1, u "UTF16")] 323

def k23m0 : Method := { name := "<init>", desc := "()V", sig := { parameters := [], returnType := none }, accessFlags := 1, code := none }
/-- java/lang/String -/
def k23 : Class := { plain "java/lang/String" (some 0) with
  accessFlags := 49
  interfaces := #[10, 13, 22, 17, 18]
  cf := some (fileOf pool23 10 #[.nestMembers #[1103]] #[{ accessFlags := 1, nameIndex := 5, descriptorIndex := 6, attributes := #[] }] 49 2 #[1106, 1108, 575, 1110, 1112] #[{ accessFlags := 18, nameIndex := 13, descriptorIndex := 14, attributes := #[] }, { accessFlags := 18, nameIndex := 17, descriptorIndex := 18, attributes := #[] }, { accessFlags := 2, nameIndex := 21, descriptorIndex := 22, attributes := #[] }, { accessFlags := 2, nameIndex := 25, descriptorIndex := 26, attributes := #[] }, { accessFlags := 26, nameIndex := 1116, descriptorIndex := 1117, attributes := #[] }, { accessFlags := 24, nameIndex := 40, descriptorIndex := 26, attributes := #[] }, { accessFlags := 26, nameIndex := 1101, descriptorIndex := 1102, attributes := #[] }, { accessFlags := 26, nameIndex := 1121, descriptorIndex := 1122, attributes := #[] }, { accessFlags := 25, nameIndex := 599, descriptorIndex := 600, attributes := #[] }, { accessFlags := 24, nameIndex := 1125, descriptorIndex := 18, attributes := #[] }, { accessFlags := 24, nameIndex := 1127, descriptorIndex := 18, attributes := #[] }])
  fields := #[{ name := "value", type := (.array .byte), accessFlags := 18, slot := 0, constantValue := 0 }, { name := "coder", type := .byte, accessFlags := 18, slot := 1, constantValue := 0 }, { name := "hash", type := .int, accessFlags := 2, slot := 2, constantValue := 0 }, { name := "hashIsZero", type := .boolean, accessFlags := 2, slot := 3, constantValue := 0 }, { name := "serialVersionUID", type := .long, accessFlags := 26, slot := 0, constantValue := 0 }, { name := "COMPACT_STRINGS", type := .boolean, accessFlags := 24, slot := 1, constantValue := 0 }, { name := "serialPersistentFields", type := (.array (.object "java/io/ObjectStreamField")), accessFlags := 26, slot := 2, constantValue := 0 }, { name := "REPL", type := .char, accessFlags := 26, slot := 3, constantValue := 0 }, { name := "CASE_INSENSITIVE_ORDER", type := (.object "java/util/Comparator"), accessFlags := 25, slot := 4, constantValue := 0 }, { name := "LATIN1", type := .byte, accessFlags := 24, slot := 5, constantValue := 0 }, { name := "UTF16", type := .byte, accessFlags := 24, slot := 6, constantValue := 0 }]
  methods := #[k23m0]
  instanceTypes := #[(.array .byte), .byte, .int, .boolean]
  staticTypes := #[.long, .boolean, (.array (.object "java/io/ObjectStreamField")), .char, (.object "java/util/Comparator"), .byte, .byte]
  resolved := Array.replicate 1451 none
  statics := none }

def pool24 : Array CpInfo := pool [(1, .class_ 2), (0, u "java/lang/Math"), (1, .class_ 6), (1, u "java/lang/Object"), (0, u "<init>"), (0, u "()V"), (89, .class_ 100), (1, u "java/lang/Math$RandomNumberGeneratorHolder"), (71, u "negativeZeroFloatBits"), (0, u "J"), (2, u "negativeZeroDoubleBits"), (21, u "max"), (46, u "$assertionsDisabled"), (0, u "Z"), (88, u "(II)I"), (2, u "twoToTheDoubleScaleDown"), (0, u "D"), (4, u "twoToTheDoubleScaleUp"), (9, u "E"), (3, u "PI"), (2, u "TAU"), (2, u "DEGREES_TO_RADIANS"), (0, u "RADIANS_TO_DEGREES")] 94

def k24m0 : Method := { name := "<init>", desc := "()V", sig := { parameters := [], returnType := none }, accessFlags := 2, code := none }
def k24c1 : Code := { maxStack := 2, maxLocals := 2, code := jdk_29_method_65_code, exceptionTable := #[], attributes := #[] }
def k24m1 : Method := { name := "max", desc := "(II)I", sig := { parameters := [.int, .int], returnType := some .int }, accessFlags := 9, code := some k24c1 }
/-- java/lang/Math -/
def k24 : Class := { plain "java/lang/Math" (some 0) with
  accessFlags := 49
  interfaces := #[]
  cf := some (fileOf pool24 1 #[.nestMembers #[98]] #[{ accessFlags := 2, nameIndex := 7, descriptorIndex := 8, attributes := #[] }, { accessFlags := 9, nameIndex := 198, descriptorIndex := 335, attributes := #[] }] 49 4 #[] #[{ accessFlags := 25, nameIndex := 354, descriptorIndex := 339, attributes := #[] }, { accessFlags := 25, nameIndex := 358, descriptorIndex := 339, attributes := #[] }, { accessFlags := 25, nameIndex := 361, descriptorIndex := 339, attributes := #[] }, { accessFlags := 26, nameIndex := 364, descriptorIndex := 339, attributes := #[] }, { accessFlags := 26, nameIndex := 365, descriptorIndex := 339, attributes := #[] }, { accessFlags := 26, nameIndex := 172, descriptorIndex := 173, attributes := #[] }, { accessFlags := 26, nameIndex := 176, descriptorIndex := 173, attributes := #[] }, { accessFlags := 8, nameIndex := 344, descriptorIndex := 339, attributes := #[] }, { accessFlags := 8, nameIndex := 338, descriptorIndex := 339, attributes := #[] }, { accessFlags := 4120, nameIndex := 245, descriptorIndex := 246, attributes := #[] }])
  fields := #[{ name := "E", type := .double, accessFlags := 25, slot := 0, constantValue := 0 }, { name := "PI", type := .double, accessFlags := 25, slot := 1, constantValue := 0 }, { name := "TAU", type := .double, accessFlags := 25, slot := 2, constantValue := 0 }, { name := "DEGREES_TO_RADIANS", type := .double, accessFlags := 26, slot := 3, constantValue := 0 }, { name := "RADIANS_TO_DEGREES", type := .double, accessFlags := 26, slot := 4, constantValue := 0 }, { name := "negativeZeroFloatBits", type := .long, accessFlags := 26, slot := 5, constantValue := 0 }, { name := "negativeZeroDoubleBits", type := .long, accessFlags := 26, slot := 6, constantValue := 0 }, { name := "twoToTheDoubleScaleUp", type := .double, accessFlags := 8, slot := 7, constantValue := 0 }, { name := "twoToTheDoubleScaleDown", type := .double, accessFlags := 8, slot := 8, constantValue := 0 }, { name := "$assertionsDisabled", type := .boolean, accessFlags := 4120, slot := 9, constantValue := 0 }]
  methods := #[k24m0, k24m1]
  instanceTypes := #[]
  staticTypes := #[.double, .double, .double, .double, .double, .long, .long, .double, .double, .boolean]
  resolved := Array.replicate 460 none
  statics := none }

def pool25 : Array CpInfo := pool [(2, .class_ 4), (1, u "java/lang/Object"), (0, u "<init>"), (0, u "()V"), (35, .class_ 44), (1, u "java/util/Objects"), (60, .methodref 106 107), (0, .class_ 108), (0, .nameAndType 109 110), (0, u "jdk/internal/util/Preconditions"), (0, u "checkIndex"), (0, u "(IILjava/util/function/BiFunction;)I"), (60, u "(II)I")] 12

def k25m0 : Method := { name := "<init>", desc := "()V", sig := { parameters := [], returnType := none }, accessFlags := 2, code := none }
def k25c1 : Code := { maxStack := 3, maxLocals := 2, code := jdk_31_method_17_code, exceptionTable := #[], attributes := #[] }
def k25m1 : Method := { name := "checkIndex", desc := "(II)I", sig := { parameters := [.int, .int], returnType := some .int }, accessFlags := 9, code := some k25c1 }
/-- java/util/Objects -/
def k25 : Class := { plain "java/util/Objects" (some 0) with
  accessFlags := 49
  interfaces := #[]
  cf := some (fileOf pool25 42 #[] #[{ accessFlags := 2, nameIndex := 5, descriptorIndex := 6, attributes := #[] }, { accessFlags := 9, nameIndex := 109, descriptorIndex := 171, attributes := #[] }] 49 2 #[] #[])
  fields := #[]
  methods := #[k25m0, k25m1]
  instanceTypes := #[]
  staticTypes := #[]
  resolved := Array.replicate 184 none
  statics := none }

def pool26 : Array CpInfo := pool [(2, .class_ 4), (1, u "java/lang/Object"), (0, u "<init>"), (0, u "()V"), (17, .class_ 26), (1, u "jdk/internal/util/Preconditions"), (6, u "checkIndex"), (21, .class_ 56), (0, u "jdk/internal/util/Preconditions$4"), (57, .class_ 115), (0, u "jdk/internal/util/Preconditions$1"), (7, u "SIOOBE_FORMATTER"), (0, u "Ljava/util/function/BiFunction;"), (0, .class_ 126), (0, u "jdk/internal/util/Preconditions$2"), (3, u "AIOOBE_FORMATTER"), (0, .class_ 132), (0, u "jdk/internal/util/Preconditions$3"), (3, u "IOOBE_FORMATTER"), (41, u "(IILjava/util/function/BiFunction;)I")] 15

def k26m0 : Method := { name := "<init>", desc := "()V", sig := { parameters := [], returnType := none }, accessFlags := 1, code := none }
def k26c1 : Code := { maxStack := 3, maxLocals := 3, code := jdk_41_method_11_code, exceptionTable := #[], attributes := #[] }
def k26m1 : Method := { name := "checkIndex", desc := "(IILjava/util/function/BiFunction;)I", sig := { parameters := [.int, .int, (.object "java/util/function/BiFunction")], returnType := some .int }, accessFlags := 9, code := some k26c1 }
/-- jdk/internal/util/Preconditions -/
def k26 : Class := { plain "jdk/internal/util/Preconditions" (some 0) with
  accessFlags := 33
  interfaces := #[]
  cf := some (fileOf pool26 24 #[.nestMembers #[55, 131, 125, 114]] #[{ accessFlags := 1, nameIndex := 5, descriptorIndex := 6, attributes := #[] }, { accessFlags := 9, nameIndex := 33, descriptorIndex := 178, attributes := #[] }] 33 2 #[] #[{ accessFlags := 25, nameIndex := 123, descriptorIndex := 124, attributes := #[] }, { accessFlags := 25, nameIndex := 130, descriptorIndex := 124, attributes := #[] }, { accessFlags := 25, nameIndex := 136, descriptorIndex := 124, attributes := #[] }])
  fields := #[{ name := "SIOOBE_FORMATTER", type := (.object "java/util/function/BiFunction"), accessFlags := 25, slot := 0, constantValue := 0 }, { name := "AIOOBE_FORMATTER", type := (.object "java/util/function/BiFunction"), accessFlags := 25, slot := 1, constantValue := 0 }, { name := "IOOBE_FORMATTER", type := (.object "java/util/function/BiFunction"), accessFlags := 25, slot := 2, constantValue := 0 }]
  methods := #[k26m0, k26m1]
  instanceTypes := #[]
  staticTypes := #[(.object "java/util/function/BiFunction"), (.object "java/util/function/BiFunction"), (.object "java/util/function/BiFunction")]
  resolved := Array.replicate 194 none
  statics := none }

def pool27 : Array CpInfo := pool [(4, .class_ 6), (1, u "java/lang/Number"), (16, .class_ 25), (1, u "java/math/BigInteger"), (0, u "ZERO"), (0, u "Ljava/math/BigInteger;"), (2, u "mag"), (0, u "[I"), (2, u "signum"), (0, u "I"), (59, u "bitsPerDigit"), (0, u "[J"), (9, u "digitsPerInt"), (12, u "intRadix"), (60, u "SMALL_PRIME_PRODUCT"), (79, u "ONE"), (6, u "TWO"), (43, u "$assertionsDisabled"), (0, u "Z"), (36, u "posConst"), (0, u "[Ljava/math/BigInteger;"), (4, u "negConst"), (116, .class_ 474), (1, u "java/math/BigInteger$RecursiveOp"), (106, u "NEGATIVE_ONE"), (91, u "bnExpModThreshTable"), (72, u "lowestSetBitPlusTwo"), (2, u "bitLengthPlusOne"), (2, u "bitCountPlusOne"), (6, u "LOG_TWO"), (0, u "D"), (2, u "logCache"), (0, u "[D"), (13, u "NUM_ZEROS"), (2, u "ZEROS"), (0, u "Ljava/lang/String;"), (9, u "longRadix"), (5, u "digitsPerLong"), (22, u "powerCache"), (0, u "[[Ljava/math/BigInteger;"), (45, u "firstNonzeroIntNumPlusTwo"), (38, .class_ 909), (1, u "java/math/BigInteger$UnsafeHolder"), (141, u "TEN"), (106, u "serialPersistentFields"), (0, u "[Ljava/io/ObjectStreamField;"), (0, .class_ 1161), (0, u "java/lang/Comparable"), (0, u "LONG_MASK"), (0, u "J"), (1, u "MAX_MAG_LENGTH"), (0, u "PRIME_SEARCH_BIT_LENGTH_LIMIT"), (1, u "KARATSUBA_THRESHOLD"), (1, u "TOOM_COOK_THRESHOLD"), (1, u "KARATSUBA_SQUARE_THRESHOLD"), (1, u "TOOM_COOK_SQUARE_THRESHOLD"), (1, u "BURNIKEL_ZIEGLER_THRESHOLD"), (0, u "BURNIKEL_ZIEGLER_OFFSET"), (1, u "SCHOENHAGE_BASE_CONVERSION_THRESHOLD"), (1, u "MULTIPLY_SQUARE_THRESHOLD"), (0, u "MONTGOMERY_INTRINSIC_THRESHOLD"), (1, u "SMALL_PRIME_THRESHOLD"), (1, u "DEFAULT_PRIME_CERTAINTY"), (1, u "MAX_CONSTANT"), (3, u "serialVersionUID"), (338, .class_ 1532), (0, u "java/math/BigInteger$RecursiveOp$RecursiveSquare"), (0, .class_ 1534), (0, u "java/math/BigInteger$RecursiveOp$RecursiveMultiply")] 7

/-- java/math/BigInteger -/
def k27 : Class := { plain "java/math/BigInteger" (some 12) with
  accessFlags := 33
  interfaces := #[13]
  cf := some (fileOf pool27 23 #[.nestMembers #[907, 472, 1531, 1533]] #[] 33 4 #[1160] #[{ accessFlags := 16, nameIndex := 34, descriptorIndex := 35, attributes := #[] }, { accessFlags := 16, nameIndex := 30, descriptorIndex := 31, attributes := #[] }, { accessFlags := 2, nameIndex := 752, descriptorIndex := 35, attributes := #[] }, { accessFlags := 2, nameIndex := 749, descriptorIndex := 35, attributes := #[] }, { accessFlags := 2, nameIndex := 746, descriptorIndex := 35, attributes := #[] }, { accessFlags := 2, nameIndex := 868, descriptorIndex := 35, attributes := #[] }, { accessFlags := 24, nameIndex := 1162, descriptorIndex := 1163, attributes := #[] }, { accessFlags := 26, nameIndex := 1165, descriptorIndex := 35, attributes := #[] }, { accessFlags := 26, nameIndex := 1166, descriptorIndex := 35, attributes := #[] }, { accessFlags := 26, nameIndex := 1168, descriptorIndex := 35, attributes := #[] }, { accessFlags := 26, nameIndex := 1170, descriptorIndex := 35, attributes := #[] }, { accessFlags := 26, nameIndex := 1172, descriptorIndex := 35, attributes := #[] }, { accessFlags := 26, nameIndex := 1174, descriptorIndex := 35, attributes := #[] }, { accessFlags := 24, nameIndex := 1176, descriptorIndex := 35, attributes := #[] }, { accessFlags := 24, nameIndex := 1177, descriptorIndex := 35, attributes := #[] }, { accessFlags := 26, nameIndex := 1179, descriptorIndex := 35, attributes := #[] }, { accessFlags := 26, nameIndex := 1181, descriptorIndex := 35, attributes := #[] }, { accessFlags := 26, nameIndex := 1182, descriptorIndex := 35, attributes := #[] }, { accessFlags := 10, nameIndex := 95, descriptorIndex := 96, attributes := #[] }, { accessFlags := 26, nameIndex := 1184, descriptorIndex := 35, attributes := #[] }, { accessFlags := 26, nameIndex := 1186, descriptorIndex := 35, attributes := #[] }, { accessFlags := 26, nameIndex := 180, descriptorIndex := 27, attributes := #[] }, { accessFlags := 26, nameIndex := 1188, descriptorIndex := 35, attributes := #[] }, { accessFlags := 26, nameIndex := 349, descriptorIndex := 350, attributes := #[] }, { accessFlags := 26, nameIndex := 355, descriptorIndex := 350, attributes := #[] }, { accessFlags := 74, nameIndex := 821, descriptorIndex := 822, attributes := #[] }, { accessFlags := 26, nameIndex := 763, descriptorIndex := 764, attributes := #[] }, { accessFlags := 26, nameIndex := 759, descriptorIndex := 760, attributes := #[] }, { accessFlags := 25, nameIndex := 26, descriptorIndex := 27, attributes := #[] }, { accessFlags := 25, nameIndex := 260, descriptorIndex := 27, attributes := #[] }, { accessFlags := 25, nameIndex := 267, descriptorIndex := 27, attributes := #[] }, { accessFlags := 26, nameIndex := 581, descriptorIndex := 27, attributes := #[] }, { accessFlags := 25, nameIndex := 1051, descriptorIndex := 27, attributes := #[] }, { accessFlags := 8, nameIndex := 673, descriptorIndex := 31, attributes := #[] }, { accessFlags := 10, nameIndex := 778, descriptorIndex := 35, attributes := #[] }, { accessFlags := 26, nameIndex := 781, descriptorIndex := 782, attributes := #[] }, { accessFlags := 10, nameIndex := 798, descriptorIndex := 31, attributes := #[] }, { accessFlags := 10, nameIndex := 792, descriptorIndex := 350, attributes := #[] }, { accessFlags := 10, nameIndex := 106, descriptorIndex := 31, attributes := #[] }, { accessFlags := 10, nameIndex := 119, descriptorIndex := 31, attributes := #[] }, { accessFlags := 26, nameIndex := 1192, descriptorIndex := 1163, attributes := #[] }, { accessFlags := 26, nameIndex := 1158, descriptorIndex := 1159, attributes := #[] }, { accessFlags := 4120, nameIndex := 311, descriptorIndex := 312, attributes := #[] }])
  fields := #[{ name := "signum", type := .int, accessFlags := 16, slot := 0, constantValue := 0 }, { name := "mag", type := (.array .int), accessFlags := 16, slot := 1, constantValue := 0 }, { name := "bitCountPlusOne", type := .int, accessFlags := 2, slot := 2, constantValue := 0 }, { name := "bitLengthPlusOne", type := .int, accessFlags := 2, slot := 3, constantValue := 0 }, { name := "lowestSetBitPlusTwo", type := .int, accessFlags := 2, slot := 4, constantValue := 0 }, { name := "firstNonzeroIntNumPlusTwo", type := .int, accessFlags := 2, slot := 5, constantValue := 0 }, { name := "LONG_MASK", type := .long, accessFlags := 24, slot := 0, constantValue := 0 }, { name := "MAX_MAG_LENGTH", type := .int, accessFlags := 26, slot := 1, constantValue := 0 }, { name := "PRIME_SEARCH_BIT_LENGTH_LIMIT", type := .int, accessFlags := 26, slot := 2, constantValue := 0 }, { name := "KARATSUBA_THRESHOLD", type := .int, accessFlags := 26, slot := 3, constantValue := 0 }, { name := "TOOM_COOK_THRESHOLD", type := .int, accessFlags := 26, slot := 4, constantValue := 0 }, { name := "KARATSUBA_SQUARE_THRESHOLD", type := .int, accessFlags := 26, slot := 5, constantValue := 0 }, { name := "TOOM_COOK_SQUARE_THRESHOLD", type := .int, accessFlags := 26, slot := 6, constantValue := 0 }, { name := "BURNIKEL_ZIEGLER_THRESHOLD", type := .int, accessFlags := 24, slot := 7, constantValue := 0 }, { name := "BURNIKEL_ZIEGLER_OFFSET", type := .int, accessFlags := 24, slot := 8, constantValue := 0 }, { name := "SCHOENHAGE_BASE_CONVERSION_THRESHOLD", type := .int, accessFlags := 26, slot := 9, constantValue := 0 }, { name := "MULTIPLY_SQUARE_THRESHOLD", type := .int, accessFlags := 26, slot := 10, constantValue := 0 }, { name := "MONTGOMERY_INTRINSIC_THRESHOLD", type := .int, accessFlags := 26, slot := 11, constantValue := 0 }, { name := "bitsPerDigit", type := (.array .long), accessFlags := 10, slot := 12, constantValue := 0 }, { name := "SMALL_PRIME_THRESHOLD", type := .int, accessFlags := 26, slot := 13, constantValue := 0 }, { name := "DEFAULT_PRIME_CERTAINTY", type := .int, accessFlags := 26, slot := 14, constantValue := 0 }, { name := "SMALL_PRIME_PRODUCT", type := (.object "java/math/BigInteger"), accessFlags := 26, slot := 15, constantValue := 0 }, { name := "MAX_CONSTANT", type := .int, accessFlags := 26, slot := 16, constantValue := 0 }, { name := "posConst", type := (.array (.object "java/math/BigInteger")), accessFlags := 26, slot := 17, constantValue := 0 }, { name := "negConst", type := (.array (.object "java/math/BigInteger")), accessFlags := 26, slot := 18, constantValue := 0 }, { name := "powerCache", type := (.array (.array (.object "java/math/BigInteger"))), accessFlags := 74, slot := 19, constantValue := 0 }, { name := "logCache", type := (.array .double), accessFlags := 26, slot := 20, constantValue := 0 }, { name := "LOG_TWO", type := .double, accessFlags := 26, slot := 21, constantValue := 0 }, { name := "ZERO", type := (.object "java/math/BigInteger"), accessFlags := 25, slot := 22, constantValue := 0 }, { name := "ONE", type := (.object "java/math/BigInteger"), accessFlags := 25, slot := 23, constantValue := 0 }, { name := "TWO", type := (.object "java/math/BigInteger"), accessFlags := 25, slot := 24, constantValue := 0 }, { name := "NEGATIVE_ONE", type := (.object "java/math/BigInteger"), accessFlags := 26, slot := 25, constantValue := 0 }, { name := "TEN", type := (.object "java/math/BigInteger"), accessFlags := 25, slot := 26, constantValue := 0 }, { name := "bnExpModThreshTable", type := (.array .int), accessFlags := 8, slot := 27, constantValue := 0 }, { name := "NUM_ZEROS", type := .int, accessFlags := 10, slot := 28, constantValue := 0 }, { name := "ZEROS", type := (.object "java/lang/String"), accessFlags := 26, slot := 29, constantValue := 0 }, { name := "digitsPerLong", type := (.array .int), accessFlags := 10, slot := 30, constantValue := 0 }, { name := "longRadix", type := (.array (.object "java/math/BigInteger")), accessFlags := 10, slot := 31, constantValue := 0 }, { name := "digitsPerInt", type := (.array .int), accessFlags := 10, slot := 32, constantValue := 0 }, { name := "intRadix", type := (.array .int), accessFlags := 10, slot := 33, constantValue := 0 }, { name := "serialVersionUID", type := .long, accessFlags := 26, slot := 34, constantValue := 0 }, { name := "serialPersistentFields", type := (.array (.object "java/io/ObjectStreamField")), accessFlags := 26, slot := 35, constantValue := 0 }, { name := "$assertionsDisabled", type := .boolean, accessFlags := 4120, slot := 36, constantValue := 0 }]
  methods := #[]
  instanceTypes := #[.int, (.array .int), .int, .int, .int, .int]
  staticTypes := #[.long, .int, .int, .int, .int, .int, .int, .int, .int, .int, .int, .int, (.array .long), .int, .int, (.object "java/math/BigInteger"), .int, (.array (.object "java/math/BigInteger")), (.array (.object "java/math/BigInteger")), (.array (.array (.object "java/math/BigInteger"))), (.array .double), .double, (.object "java/math/BigInteger"), (.object "java/math/BigInteger"), (.object "java/math/BigInteger"), (.object "java/math/BigInteger"), (.object "java/math/BigInteger"), (.array .int), .int, (.object "java/lang/String"), (.array .int), (.array (.object "java/math/BigInteger")), (.array .int), (.array .int), .long, (.array (.object "java/io/ObjectStreamField")), .boolean]
  resolved := Array.replicate 1542 none
  statics := some 2 }

/-- the primitive byte -/
def k28 : Class := { plain "byte" none with kind := .primitive 'B', accessFlags := 0x411 }
/-- [B -/
def k29 : Class := { plain "[B" (some 0) with kind := .array 28 .byte, interfaces := #[9, 10], accessFlags := 1041 }

/-- the primitive int -/
def k30 : Class := { plain "int" none with kind := .primitive 'I', accessFlags := 0x411 }
/-- [I -/
def k31 : Class := { plain "[I" (some 0) with kind := .array 30 .int, interfaces := #[9, 10], accessFlags := 1041 }

/-- [Ljava/lang/Object; -/
def k32 : Class := { plain "[Ljava/lang/Object;" (some 0) with kind := .array 0 (.object "java/lang/Object"), interfaces := #[9, 10], accessFlags := 1041 }

/-- [Ljava/math/BigDecimal; -/
def k33 : Class := { plain "[Ljava/math/BigDecimal;" (some 0) with kind := .array 14 (.object "java/math/BigDecimal"), interfaces := #[9, 10], accessFlags := 1041 }

def heap : Heap := #[{ cls := 11, slots := #[.long 0, .int 0, .ref 53, .ref 54], vm := .statics 11 },
  { cls := 14, slots := #[.double 0, .int 0, .int 0, .int 0, .int 0, .int 0, .int 0, .long 0, .null, .int 0, .long 0, .ref 3, .ref 4, .long 0, .long 0, .ref 5, .ref 8, .ref 11, .ref 35, .null, .null, .int 0, .int 0, .int 0, .int 0, .int 0, .int 0, .int 0, .int 0, .null, .null, .null, .null, .int 0, .int 0, .null, .long 0, .null, .int 0], vm := .statics 14 },
  { cls := 27, slots := #[.long 0, .int 0, .int 0, .int 0, .int 0, .int 0, .int 0, .int 0, .int 0, .int 0, .int 0, .int 0, .null, .int 0, .int 0, .null, .int 0, .null, .null, .null, .null, .double 0, .ref 6, .ref 9, .ref 12, .null, .ref 36, .null, .int 0, .null, .null, .null, .null, .null, .long 0, .null, .int 0], vm := .statics 27 },
  { cls := 33, slots := #[.ref 5, .ref 8, .ref 11, .ref 14, .ref 17, .ref 20, .ref 23, .ref 26, .ref 29, .ref 32, .ref 35], vm := .none },
  { cls := 33, slots := #[.ref 5, .ref 38, .ref 39, .ref 40, .ref 41, .ref 42, .ref 43, .ref 44, .ref 45, .ref 46, .ref 47, .ref 48, .ref 49, .ref 50, .ref 51, .ref 52], vm := .none },
  { cls := 14, slots := #[.ref 6, .int 0, .int 0, .null, .long 0], vm := .none },
  { cls := 27, slots := #[.int 0, .ref 7, .int 0, .int 0, .int 0, .int 0], vm := .none },
  { cls := 31, slots := #[], vm := .none },
  { cls := 14, slots := #[.ref 9, .int 0, .int 0, .null, .long 1], vm := .none },
  { cls := 27, slots := #[.int 1, .ref 10, .int 0, .int 0, .int 0, .int 0], vm := .none },
  { cls := 31, slots := #[.int 0], vm := .none },
  { cls := 14, slots := #[.ref 12, .int 0, .int 0, .null, .long 2], vm := .none },
  { cls := 27, slots := #[.int 1, .ref 13, .int 0, .int 0, .int 0, .int 0], vm := .none },
  { cls := 31, slots := #[.int 0], vm := .none },
  { cls := 14, slots := #[.ref 15, .int 0, .int 0, .null, .long 3], vm := .none },
  { cls := 27, slots := #[.int 1, .ref 16, .int 0, .int 0, .int 0, .int 0], vm := .none },
  { cls := 31, slots := #[.int 0], vm := .none },
  { cls := 14, slots := #[.ref 18, .int 0, .int 0, .null, .long 4], vm := .none },
  { cls := 27, slots := #[.int 1, .ref 19, .int 0, .int 0, .int 0, .int 0], vm := .none },
  { cls := 31, slots := #[.int 0], vm := .none },
  { cls := 14, slots := #[.ref 21, .int 0, .int 0, .null, .long 5], vm := .none },
  { cls := 27, slots := #[.int 1, .ref 22, .int 0, .int 0, .int 0, .int 0], vm := .none },
  { cls := 31, slots := #[.int 0], vm := .none },
  { cls := 14, slots := #[.ref 24, .int 0, .int 0, .null, .long 6], vm := .none },
  { cls := 27, slots := #[.int 1, .ref 25, .int 0, .int 0, .int 0, .int 0], vm := .none },
  { cls := 31, slots := #[.int 0], vm := .none },
  { cls := 14, slots := #[.ref 27, .int 0, .int 0, .null, .long 7], vm := .none },
  { cls := 27, slots := #[.int 1, .ref 28, .int 0, .int 0, .int 0, .int 0], vm := .none },
  { cls := 31, slots := #[.int 0], vm := .none },
  { cls := 14, slots := #[.ref 30, .int 0, .int 0, .null, .long 8], vm := .none },
  { cls := 27, slots := #[.int 1, .ref 31, .int 0, .int 0, .int 0, .int 0], vm := .none },
  { cls := 31, slots := #[.int 0], vm := .none },
  { cls := 14, slots := #[.ref 33, .int 0, .int 0, .null, .long 9], vm := .none },
  { cls := 27, slots := #[.int 1, .ref 34, .int 0, .int 0, .int 0, .int 0], vm := .none },
  { cls := 31, slots := #[.int 0], vm := .none },
  { cls := 14, slots := #[.ref 36, .int 0, .int 0, .null, .long 10], vm := .none },
  { cls := 27, slots := #[.int 1, .ref 37, .int 0, .int 0, .int 0, .int 0], vm := .none },
  { cls := 31, slots := #[.int 0], vm := .none },
  { cls := 14, slots := #[.ref 6, .int 1, .int 0, .null, .long 0], vm := .none },
  { cls := 14, slots := #[.ref 6, .int 2, .int 0, .null, .long 0], vm := .none },
  { cls := 14, slots := #[.ref 6, .int 3, .int 0, .null, .long 0], vm := .none },
  { cls := 14, slots := #[.ref 6, .int 4, .int 0, .null, .long 0], vm := .none },
  { cls := 14, slots := #[.ref 6, .int 5, .int 0, .null, .long 0], vm := .none },
  { cls := 14, slots := #[.ref 6, .int 6, .int 0, .null, .long 0], vm := .none },
  { cls := 14, slots := #[.ref 6, .int 7, .int 0, .null, .long 0], vm := .none },
  { cls := 14, slots := #[.ref 6, .int 8, .int 0, .null, .long 0], vm := .none },
  { cls := 14, slots := #[.ref 6, .int 9, .int 0, .null, .long 0], vm := .none },
  { cls := 14, slots := #[.ref 6, .int 10, .int 0, .null, .long 0], vm := .none },
  { cls := 14, slots := #[.ref 6, .int 11, .int 0, .null, .long 0], vm := .none },
  { cls := 14, slots := #[.ref 6, .int 12, .int 0, .null, .long 0], vm := .none },
  { cls := 14, slots := #[.ref 6, .int 13, .int 0, .null, .long 0], vm := .none },
  { cls := 14, slots := #[.ref 6, .int 14, .int 0, .null, .long 0], vm := .none },
  { cls := 14, slots := #[.ref 6, .int 15, .int 0, .null, .long 0], vm := .none },
  { cls := 32, slots := #[], vm := .none },
  { cls := 32, slots := #[], vm := .none }]
def classes : Array Class := #[k0, k1, k2, k3, k4, k5, k6, k7, k8, k9, k10, k11, k12, k13, k14, k15, k16, k17, k18, k19, k20, k21, k22, k23, k24, k25, k26, k27, k28, k29, k30, k31, k32, k33]
def interned : List (Array UInt16 × Addr) := []
def slotsUsed : Nat := 313
def theMethod : MethodId := ⟨1, 1⟩
def args0 : Array Value := #[.int 1, .int 2, .int 3, .int 4, .int 5, .int 6]
def aboutOver (below : List Frame) : State where
  vm := { classes := classes, interned := interned.toArray }
  heap := heap
  slotsUsed := slotsUsed
  threads := #[{ frames := .invoking theMethod args0 :: below }]
def below0 : List Frame := [.native { method := ⟨0, 0⟩, args := #[] }]
def about1 : State := aboutOver below0
def p0 : Program := .bare "" "" ""
def e0 : Env := launch0.env 0 0 0
theorem w_frames : about1.frames = Frame.invoking theMethod args0 :: below0 := rfl
set_option maxRecDepth 65536 in
theorem w_args : argsFit about1.vm theMethod args0 = true := by decide +kernel
set_option maxRecDepth 65536 in
theorem w_heap : heapFits about1 = true := by decide +kernel
set_option maxRecDepth 65536 in
theorem w_runnable : about1.curStatus? = some .runnable := by decide +kernel
set_option maxRecDepth 65536 in
theorem w_alone : about1.alone = true := by decide +kernel
set_option maxRecDepth 65536 in
theorem w_named : about1.methodNamed? x = some theMethod := by decide +kernel
set_option maxRecDepth 65536 in
theorem w_hears : about1.hears theMethod below0 = true := by decide +kernel
set_option maxRecDepth 65536 in
theorem w_ripe : about1.ripe theMethod args0 below0 = true := by decide +kernel
theorem w_running : about1.status = .running := rfl
set_option maxRecDepth 65536 in
theorem w_room : about1.hasRoom e0.platform room_1 = true :=
  launch0.hasRoom_least _ room_1 (by decide +kernel) (by decide +kernel) (by decide +kernel) (by decide +kernel) (by decide +kernel) (by decide +kernel)
theorem allAtoms_all (ts : List Jvm.Cond) (a : Array Jvm.Value) (st : Jvm.State) : (allAtoms ts).before a st = ts.all (fun c => c.before a st) := by
  induction ts with
  | nil => rfl
  | cons c t ih =>
    show (Jvm.Cond.and c (allAtoms t)).before a st = _
    rw [Jvm.Cond.before_and, ih, List.all_cons]
def words1 : List Jvm.Cond := Jvm.Cond.code x code maxLocals ret :: tables_1
/-- a 'code' word, met by the world's own term for the bytes: nothing is compared byte by byte -/
theorem code_word {y : MethodName} {bytes : ByteArray} {mx : Nat} {rt : Option FieldType} {a : Array Value} {s : State} {m : MethodId} {meth : Method} {c : Code} (h1 : s.methodNamed? y = some m) (h2 : s.vm.method? m = some meth) (h3 : meth.code = some c) (h4 : c.code = bytes)
    (h5 : (c.maxLocals == mx && c.exceptionTable.isEmpty && decide (c.maxStack ≤ mostOperands) && decide (meth.sig.returnType = rt) && !meth.locks && decide (parseMethodDescriptor y.desc = some meth.sig)) = true) : (Jvm.Cond.code y bytes mx rt).before a s = true := by
  simp only [Bool.and_eq_true, beq_iff_eq, Bool.not_eq_true', decide_eq_true_eq] at h5
  obtain ⟨⟨⟨⟨⟨g1, g2⟩, g3⟩, g4⟩, g5⟩, g6⟩ := h5
  simp [Cond.before, Cond.holds, Cond.value, h1, h2, h3, h4, g1, g2, g3, g4, g5, g6]
def isCode : Jvm.Cond → Bool
  | .code _ _ _ _ => true
  | _ => false
theorem all_split {L : List Jvm.Cond} {P : Jvm.Cond → Bool} (h1 : L.all (fun c => isCode c || P c) = true) (h2 : ∀ c ∈ L.filter isCode, P c = true) : L.all P = true := by
  refine List.all_eq_true.mpr fun c hc => ?_
  have h := List.all_eq_true.mp h1 c hc
  rcases Bool.eq_false_or_eq_true (isCode c) with hi | hi
  · exact h2 c (List.mem_filter.mpr ⟨hc, hi⟩)
  · simpa [hi] using h
set_option maxRecDepth 65536 in
theorem w_c0 : (Jvm.Cond.code x code maxLocals ret).before args0 about1 = true := code_word (m := ⟨1, 1⟩) (meth := k1m1) (c := k1c1) (by decide +kernel) rfl rfl rfl (by decide +kernel)
set_option maxRecDepth 65536 in
theorem w_c1 : (Jvm.Cond.code ({ cls := "java/util/ArrayList", name := "<init>", desc := "()V" } : Jvm.MethodName) jdk_38_method_2_code (1 : Nat) (Option.none : Option Jvm.ClassFile.FieldType)).before args0 about1 = true := code_word (m := ⟨11, 0⟩) (meth := k11m0) (c := k11c0) (by decide +kernel) rfl rfl rfl (by decide +kernel)
set_option maxRecDepth 65536 in
theorem w_c2 : (Jvm.Cond.code ({ cls := "java/util/AbstractList", name := "<init>", desc := "()V" } : Jvm.MethodName) jdk_39_method_1_code (1 : Nat) (Option.none : Option Jvm.ClassFile.FieldType)).before args0 about1 = true := code_word (m := ⟨7, 0⟩) (meth := k7m0) (c := k7c0) (by decide +kernel) rfl rfl rfl (by decide +kernel)
set_option maxRecDepth 65536 in
theorem w_c3 : (Jvm.Cond.code ({ cls := "java/util/AbstractCollection", name := "<init>", desc := "()V" } : Jvm.MethodName) jdk_22_method_1_code (1 : Nat) (Option.none : Option Jvm.ClassFile.FieldType)).before args0 about1 = true := code_word (m := ⟨4, 0⟩) (meth := k4m0) (c := k4c0) (by decide +kernel) rfl rfl rfl (by decide +kernel)
set_option maxRecDepth 65536 in
theorem w_c4 : (Jvm.Cond.code ({ cls := "java/lang/Object", name := "<init>", desc := "()V" } : Jvm.MethodName) object_method_1_code (1 : Nat) (Option.none : Option Jvm.ClassFile.FieldType)).before args0 about1 = true := code_word (m := ⟨0, 0⟩) (meth := k0m0) (c := k0c0) (by decide +kernel) rfl rfl rfl (by decide +kernel)
set_option maxRecDepth 65536 in
theorem w_c5 : (Jvm.Cond.code ({ cls := "java/math/BigDecimal", name := "valueOf", desc := "(JI)Ljava/math/BigDecimal;" } : Jvm.MethodName) jdk_17_method_20_code (3 : Nat) (Option.some (Jvm.ClassFile.FieldType.object "java/math/BigDecimal"))).before args0 about1 = true := code_word (m := ⟨14, 1⟩) (meth := k14m1) (c := k14c1) (by decide +kernel) rfl rfl rfl (by decide +kernel)
set_option maxRecDepth 65536 in
theorem w_c6 : (Jvm.Cond.code ({ cls := "java/math/BigDecimal", name := "valueOf", desc := "(J)Ljava/math/BigDecimal;" } : Jvm.MethodName) jdk_17_method_21_code (2 : Nat) (Option.some (Jvm.ClassFile.FieldType.object "java/math/BigDecimal"))).before args0 about1 = true := code_word (m := ⟨14, 2⟩) (meth := k14m2) (c := k14c2) (by decide +kernel) rfl rfl rfl (by decide +kernel)
set_option maxRecDepth 65536 in
theorem w_c7 : (Jvm.Cond.code ({ cls := "com/example/slotwright/slotwright/Ledger", name := "<init>", desc := "(Ljava/util/List;)V" } : Jvm.MethodName) prog_23_method_1_code (3 : Nat) (Option.none : Option Jvm.ClassFile.FieldType)).before args0 about1 = true := code_word (m := ⟨15, 0⟩) (meth := k15m0) (c := k15c0) (by decide +kernel) rfl rfl rfl (by decide +kernel)
set_option maxRecDepth 65536 in
theorem w_c8 : (Jvm.Cond.code ({ cls := "java/util/ArrayList", name := "size", desc := "()I" } : Jvm.MethodName) jdk_38_method_8_code (1 : Nat) (Option.some Jvm.ClassFile.FieldType.int)).before args0 about1 = true := code_word (m := ⟨11, 3⟩) (meth := k11m3) (c := k11c3) (by decide +kernel) rfl rfl rfl (by decide +kernel)
set_option maxRecDepth 65536 in
theorem w_c9 : (Jvm.Cond.code ({ cls := "java/util/Arrays", name := "fill", desc := "([Ljava/lang/Object;Ljava/lang/Object;)V" } : Jvm.MethodName) jdk_65_method_117_code (4 : Nat) (Option.none : Option Jvm.ClassFile.FieldType)).before args0 about1 = true := code_word (m := ⟨16, 1⟩) (meth := k16m1) (c := k16c1) (by decide +kernel) rfl rfl rfl (by decide +kernel)
set_option maxRecDepth 65536 in
theorem w_c10 : (Jvm.Cond.code ({ cls := "com/example/slotwright/slotwright/Ledger", name := "revenue", desc := "()Ljava/math/BigDecimal;" } : Jvm.MethodName) prog_23_method_8_code (6 : Nat) (Option.some (Jvm.ClassFile.FieldType.object "java/math/BigDecimal"))).before args0 about1 = true := code_word (m := ⟨15, 2⟩) (meth := k15m2) (c := k15c2) (by decide +kernel) rfl rfl rfl (by decide +kernel)
set_option maxRecDepth 65536 in
theorem w_c11 : (Jvm.Cond.code ({ cls := "java/math/BigDecimal", name := "compareTo", desc := "(Ljava/math/BigDecimal;)I" } : Jvm.MethodName) jdk_17_method_70_code (6 : Nat) (Option.some Jvm.ClassFile.FieldType.int)).before args0 about1 = true := code_word (m := ⟨14, 7⟩) (meth := k14m7) (c := k14c7) (by decide +kernel) rfl rfl rfl (by decide +kernel)
set_option maxRecDepth 65536 in
theorem w_c12 : (Jvm.Cond.code ({ cls := "java/math/BigDecimal", name := "<init>", desc := "(Ljava/math/BigInteger;JII)V" } : Jvm.MethodName) jdk_17_method_1_code (6 : Nat) (Option.none : Option Jvm.ClassFile.FieldType)).before args0 about1 = true := code_word (m := ⟨14, 0⟩) (meth := k14m0) (c := k14c0) (by decide +kernel) rfl rfl rfl (by decide +kernel)
set_option maxRecDepth 65536 in
theorem w_c13 : (Jvm.Cond.code ({ cls := "java/lang/Number", name := "<init>", desc := "()V" } : Jvm.MethodName) jdk_18_method_1_code (1 : Nat) (Option.none : Option Jvm.ClassFile.FieldType)).before args0 about1 = true := code_word (m := ⟨12, 0⟩) (meth := k12m0) (c := k12c0) (by decide +kernel) rfl rfl rfl (by decide +kernel)
set_option maxRecDepth 65536 in
theorem w_c14 : (Jvm.Cond.code ({ cls := "java/math/BigDecimal", name := "zeroValueOf", desc := "(I)Ljava/math/BigDecimal;" } : Jvm.MethodName) jdk_17_method_24_code (1 : Nat) (Option.some (Jvm.ClassFile.FieldType.object "java/math/BigDecimal"))).before args0 about1 = true := code_word (m := ⟨14, 3⟩) (meth := k14m3) (c := k14c3) (by decide +kernel) rfl rfl rfl (by decide +kernel)
set_option maxRecDepth 65536 in
theorem w_c15 : (Jvm.Cond.code ({ cls := "java/math/BigDecimal", name := "signum", desc := "()I" } : Jvm.MethodName) jdk_17_method_58_code (1 : Nat) (Option.some Jvm.ClassFile.FieldType.int)).before args0 about1 = true := code_word (m := ⟨14, 6⟩) (meth := k14m6) (c := k14c6) (by decide +kernel) rfl rfl rfl (by decide +kernel)
set_option maxRecDepth 65536 in
theorem w_c16 : (Jvm.Cond.code ({ cls := "java/lang/Long", name := "signum", desc := "(J)I" } : Jvm.MethodName) jdk_35_method_57_code (2 : Nat) (Option.some Jvm.ClassFile.FieldType.int)).before args0 about1 = true := code_word (m := ⟨19, 0⟩) (meth := k19m0) (c := k19c0) (by decide +kernel) rfl rfl rfl (by decide +kernel)
set_option maxRecDepth 65536 in
theorem w_c17 : (Jvm.Cond.code ({ cls := "com/example/slotwright/slotwright/Market$Advertiser", name := "<init>", desc := "(Ljava/lang/String;Ljava/math/BigDecimal;)V" } : Jvm.MethodName) prog_27_method_1_code (3 : Nat) (Option.none : Option Jvm.ClassFile.FieldType)).before args0 about1 = true := code_word (m := ⟨21, 0⟩) (meth := k21m0) (c := k21c0) (by decide +kernel) rfl rfl rfl (by decide +kernel)
set_option maxRecDepth 65536 in
theorem w_c18 : (Jvm.Cond.code ({ cls := "java/lang/Record", name := "<init>", desc := "()V" } : Jvm.MethodName) jdk_30_method_1_code (1 : Nat) (Option.none : Option Jvm.ClassFile.FieldType)).before args0 about1 = true := code_word (m := ⟨20, 0⟩) (meth := k20m0) (c := k20c0) (by decide +kernel) rfl rfl rfl (by decide +kernel)
set_option maxRecDepth 65536 in
theorem w_c19 : (Jvm.Cond.code ({ cls := "java/util/ArrayList", name := "add", desc := "(Ljava/lang/Object;)Z" } : Jvm.MethodName) jdk_38_method_25_code (2 : Nat) (Option.some Jvm.ClassFile.FieldType.boolean)).before args0 about1 = true := code_word (m := ⟨11, 7⟩) (meth := k11m7) (c := k11c7) (by decide +kernel) rfl rfl rfl (by decide +kernel)
set_option maxRecDepth 65536 in
theorem w_c20 : (Jvm.Cond.code ({ cls := "java/util/ArrayList", name := "add", desc := "(Ljava/lang/Object;[Ljava/lang/Object;I)V" } : Jvm.MethodName) jdk_38_method_24_code (4 : Nat) (Option.none : Option Jvm.ClassFile.FieldType)).before args0 about1 = true := code_word (m := ⟨11, 6⟩) (meth := k11m6) (c := k11c6) (by decide +kernel) rfl rfl rfl (by decide +kernel)
set_option maxRecDepth 65536 in
theorem w_c21 : (Jvm.Cond.code ({ cls := "java/util/ArrayList", name := "grow", desc := "()[Ljava/lang/Object;" } : Jvm.MethodName) jdk_38_method_7_code (1 : Nat) (Option.some (Jvm.ClassFile.FieldType.array (Jvm.ClassFile.FieldType.object "java/lang/Object")))).before args0 about1 = true := code_word (m := ⟨11, 2⟩) (meth := k11m2) (c := k11c2) (by decide +kernel) rfl rfl rfl (by decide +kernel)
set_option maxRecDepth 65536 in
theorem w_c22 : (Jvm.Cond.code ({ cls := "java/util/ArrayList", name := "grow", desc := "(I)[Ljava/lang/Object;" } : Jvm.MethodName) jdk_38_method_6_code (4 : Nat) (Option.some (Jvm.ClassFile.FieldType.array (Jvm.ClassFile.FieldType.object "java/lang/Object")))).before args0 about1 = true := code_word (m := ⟨11, 1⟩) (meth := k11m1) (c := k11c1) (by decide +kernel) rfl rfl rfl (by decide +kernel)
set_option maxRecDepth 65536 in
theorem w_c23 : (Jvm.Cond.code ({ cls := "java/lang/Math", name := "max", desc := "(II)I" } : Jvm.MethodName) jdk_29_method_65_code (2 : Nat) (Option.some Jvm.ClassFile.FieldType.int)).before args0 about1 = true := code_word (m := ⟨24, 1⟩) (meth := k24m1) (c := k24c1) (by decide +kernel) rfl rfl rfl (by decide +kernel)
set_option maxRecDepth 65536 in
theorem w_c24 : (Jvm.Cond.code ({ cls := "java/util/ArrayList", name := "get", desc := "(I)Ljava/lang/Object;" } : Jvm.MethodName) jdk_38_method_20_code (2 : Nat) (Option.some (Jvm.ClassFile.FieldType.object "java/lang/Object"))).before args0 about1 = true := code_word (m := ⟨11, 5⟩) (meth := k11m5) (c := k11c5) (by decide +kernel) rfl rfl rfl (by decide +kernel)
set_option maxRecDepth 65536 in
theorem w_c25 : (Jvm.Cond.code ({ cls := "java/util/Objects", name := "checkIndex", desc := "(II)I" } : Jvm.MethodName) jdk_31_method_17_code (2 : Nat) (Option.some Jvm.ClassFile.FieldType.int)).before args0 about1 = true := code_word (m := ⟨25, 1⟩) (meth := k25m1) (c := k25c1) (by decide +kernel) rfl rfl rfl (by decide +kernel)
set_option maxRecDepth 65536 in
theorem w_c26 : (Jvm.Cond.code ({ cls := "jdk/internal/util/Preconditions", name := "checkIndex", desc := "(IILjava/util/function/BiFunction;)I" } : Jvm.MethodName) jdk_41_method_11_code (3 : Nat) (Option.some Jvm.ClassFile.FieldType.int)).before args0 about1 = true := code_word (m := ⟨26, 1⟩) (meth := k26m1) (c := k26c1) (by decide +kernel) rfl rfl rfl (by decide +kernel)
set_option maxRecDepth 65536 in
theorem w_c27 : (Jvm.Cond.code ({ cls := "java/util/ArrayList", name := "elementData", desc := "(I)Ljava/lang/Object;" } : Jvm.MethodName) jdk_38_method_18_code (2 : Nat) (Option.some (Jvm.ClassFile.FieldType.object "java/lang/Object"))).before args0 about1 = true := code_word (m := ⟨11, 4⟩) (meth := k11m4) (c := k11c4) (by decide +kernel) rfl rfl rfl (by decide +kernel)
set_option maxRecDepth 65536 in
theorem w_c28 : (Jvm.Cond.code ({ cls := "com/example/slotwright/slotwright/Market$Advertiser", name := "budget", desc := "()Ljava/math/BigDecimal;" } : Jvm.MethodName) prog_27_method_6_code (1 : Nat) (Option.some (Jvm.ClassFile.FieldType.object "java/math/BigDecimal"))).before args0 about1 = true := code_word (m := ⟨21, 1⟩) (meth := k21m1) (c := k21c1) (by decide +kernel) rfl rfl rfl (by decide +kernel)
set_option maxRecDepth 65536 in
theorem w_c29 : (Jvm.Cond.code ({ cls := "java/math/BigDecimal", name := "add", desc := "(Ljava/math/BigDecimal;)Ljava/math/BigDecimal;" } : Jvm.MethodName) jdk_17_method_26_code (2 : Nat) (Option.some (Jvm.ClassFile.FieldType.object "java/math/BigDecimal"))).before args0 about1 = true := code_word (m := ⟨14, 4⟩) (meth := k14m4) (c := k14c4) (by decide +kernel) rfl rfl rfl (by decide +kernel)
set_option maxRecDepth 65536 in
theorem w_c30 : (Jvm.Cond.code ({ cls := "java/math/BigDecimal", name := "add", desc := "(JIJI)Ljava/math/BigDecimal;" } : Jvm.MethodName) jdk_17_method_134_code (12 : Nat) (Option.some (Jvm.ClassFile.FieldType.object "java/math/BigDecimal"))).before args0 about1 = true := code_word (m := ⟨14, 12⟩) (meth := k14m12) (c := k14c12) (by decide +kernel) rfl rfl rfl (by decide +kernel)
set_option maxRecDepth 65536 in
theorem w_c31 : (Jvm.Cond.code ({ cls := "java/math/BigDecimal", name := "add", desc := "(JJI)Ljava/math/BigDecimal;" } : Jvm.MethodName) jdk_17_method_133_code (7 : Nat) (Option.some (Jvm.ClassFile.FieldType.object "java/math/BigDecimal"))).before args0 about1 = true := code_word (m := ⟨14, 11⟩) (meth := k14m11) (c := k14c11) (by decide +kernel) rfl rfl rfl (by decide +kernel)
set_option maxRecDepth 65536 in
theorem w_c32 : (Jvm.Cond.code ({ cls := "java/math/BigDecimal", name := "add", desc := "(JJ)J" } : Jvm.MethodName) jdk_17_method_132_code (6 : Nat) (Option.some Jvm.ClassFile.FieldType.long)).before args0 about1 = true := code_word (m := ⟨14, 10⟩) (meth := k14m10) (c := k14c10) (by decide +kernel) rfl rfl rfl (by decide +kernel)
set_option maxRecDepth 65536 in
theorem w_c33 : (Jvm.Cond.code ({ cls := "com/example/slotwright/slotwright/Ledger", name := "charge", desc := "(ILjava/math/BigDecimal;)V" } : Jvm.MethodName) prog_23_method_3_code (3 : Nat) (Option.none : Option Jvm.ClassFile.FieldType)).before args0 about1 = true := code_word (m := ⟨15, 1⟩) (meth := k15m1) (c := k15c1) (by decide +kernel) rfl rfl rfl (by decide +kernel)
set_option maxRecDepth 65536 in
theorem w_c34 : (Jvm.Cond.code ({ cls := "java/math/BigDecimal", name := "checkScale", desc := "(JJ)I" } : Jvm.MethodName) jdk_17_method_113_code (5 : Nat) (Option.some Jvm.ClassFile.FieldType.int)).before args0 about1 = true := code_word (m := ⟨14, 9⟩) (meth := k14m9) (c := k14c9) (by decide +kernel) rfl rfl rfl (by decide +kernel)
set_option maxRecDepth 65536 in
theorem w_c35 : (Jvm.Cond.code ({ cls := "java/math/BigDecimal", name := "longMultiplyPowerTen", desc := "(JI)J" } : Jvm.MethodName) jdk_17_method_97_code (7 : Nat) (Option.some Jvm.ClassFile.FieldType.long)).before args0 about1 = true := code_word (m := ⟨14, 8⟩) (meth := k14m8) (c := k14c8) (by decide +kernel) rfl rfl rfl (by decide +kernel)
set_option maxRecDepth 65536 in
theorem w_c36 : (Jvm.Cond.code ({ cls := "java/math/BigDecimal", name := "subtract", desc := "(Ljava/math/BigDecimal;)Ljava/math/BigDecimal;" } : Jvm.MethodName) jdk_17_method_29_code (2 : Nat) (Option.some (Jvm.ClassFile.FieldType.object "java/math/BigDecimal"))).before args0 about1 = true := code_word (m := ⟨14, 5⟩) (meth := k14m5) (c := k14c5) (by decide +kernel) rfl rfl rfl (by decide +kernel)
def codes1 : List Jvm.Cond := [Jvm.Cond.code x code maxLocals ret, Jvm.Cond.code ({ cls := "java/util/ArrayList", name := "<init>", desc := "()V" } : Jvm.MethodName) jdk_38_method_2_code (1 : Nat) (Option.none : Option Jvm.ClassFile.FieldType), Jvm.Cond.code ({ cls := "java/util/AbstractList", name := "<init>", desc := "()V" } : Jvm.MethodName) jdk_39_method_1_code (1 : Nat) (Option.none : Option Jvm.ClassFile.FieldType), Jvm.Cond.code ({ cls := "java/util/AbstractCollection", name := "<init>", desc := "()V" } : Jvm.MethodName) jdk_22_method_1_code (1 : Nat) (Option.none : Option Jvm.ClassFile.FieldType), Jvm.Cond.code ({ cls := "java/lang/Object", name := "<init>", desc := "()V" } : Jvm.MethodName) object_method_1_code (1 : Nat) (Option.none : Option Jvm.ClassFile.FieldType), Jvm.Cond.code ({ cls := "java/math/BigDecimal", name := "valueOf", desc := "(JI)Ljava/math/BigDecimal;" } : Jvm.MethodName) jdk_17_method_20_code (3 : Nat) (Option.some (Jvm.ClassFile.FieldType.object "java/math/BigDecimal")), Jvm.Cond.code ({ cls := "java/math/BigDecimal", name := "valueOf", desc := "(J)Ljava/math/BigDecimal;" } : Jvm.MethodName) jdk_17_method_21_code (2 : Nat) (Option.some (Jvm.ClassFile.FieldType.object "java/math/BigDecimal")), Jvm.Cond.code ({ cls := "com/example/slotwright/slotwright/Ledger", name := "<init>", desc := "(Ljava/util/List;)V" } : Jvm.MethodName) prog_23_method_1_code (3 : Nat) (Option.none : Option Jvm.ClassFile.FieldType), Jvm.Cond.code ({ cls := "java/util/ArrayList", name := "size", desc := "()I" } : Jvm.MethodName) jdk_38_method_8_code (1 : Nat) (Option.some Jvm.ClassFile.FieldType.int), Jvm.Cond.code ({ cls := "java/util/Arrays", name := "fill", desc := "([Ljava/lang/Object;Ljava/lang/Object;)V" } : Jvm.MethodName) jdk_65_method_117_code (4 : Nat) (Option.none : Option Jvm.ClassFile.FieldType), Jvm.Cond.code ({ cls := "com/example/slotwright/slotwright/Ledger", name := "revenue", desc := "()Ljava/math/BigDecimal;" } : Jvm.MethodName) prog_23_method_8_code (6 : Nat) (Option.some (Jvm.ClassFile.FieldType.object "java/math/BigDecimal")), Jvm.Cond.code ({ cls := "java/math/BigDecimal", name := "compareTo", desc := "(Ljava/math/BigDecimal;)I" } : Jvm.MethodName) jdk_17_method_70_code (6 : Nat) (Option.some Jvm.ClassFile.FieldType.int), Jvm.Cond.code ({ cls := "java/math/BigDecimal", name := "<init>", desc := "(Ljava/math/BigInteger;JII)V" } : Jvm.MethodName) jdk_17_method_1_code (6 : Nat) (Option.none : Option Jvm.ClassFile.FieldType), Jvm.Cond.code ({ cls := "java/lang/Number", name := "<init>", desc := "()V" } : Jvm.MethodName) jdk_18_method_1_code (1 : Nat) (Option.none : Option Jvm.ClassFile.FieldType), Jvm.Cond.code ({ cls := "java/math/BigDecimal", name := "zeroValueOf", desc := "(I)Ljava/math/BigDecimal;" } : Jvm.MethodName) jdk_17_method_24_code (1 : Nat) (Option.some (Jvm.ClassFile.FieldType.object "java/math/BigDecimal")), Jvm.Cond.code ({ cls := "java/math/BigDecimal", name := "signum", desc := "()I" } : Jvm.MethodName) jdk_17_method_58_code (1 : Nat) (Option.some Jvm.ClassFile.FieldType.int), Jvm.Cond.code ({ cls := "java/lang/Long", name := "signum", desc := "(J)I" } : Jvm.MethodName) jdk_35_method_57_code (2 : Nat) (Option.some Jvm.ClassFile.FieldType.int), Jvm.Cond.code ({ cls := "com/example/slotwright/slotwright/Market$Advertiser", name := "<init>", desc := "(Ljava/lang/String;Ljava/math/BigDecimal;)V" } : Jvm.MethodName) prog_27_method_1_code (3 : Nat) (Option.none : Option Jvm.ClassFile.FieldType), Jvm.Cond.code ({ cls := "java/lang/Record", name := "<init>", desc := "()V" } : Jvm.MethodName) jdk_30_method_1_code (1 : Nat) (Option.none : Option Jvm.ClassFile.FieldType), Jvm.Cond.code ({ cls := "java/util/ArrayList", name := "add", desc := "(Ljava/lang/Object;)Z" } : Jvm.MethodName) jdk_38_method_25_code (2 : Nat) (Option.some Jvm.ClassFile.FieldType.boolean), Jvm.Cond.code ({ cls := "java/util/ArrayList", name := "add", desc := "(Ljava/lang/Object;[Ljava/lang/Object;I)V" } : Jvm.MethodName) jdk_38_method_24_code (4 : Nat) (Option.none : Option Jvm.ClassFile.FieldType), Jvm.Cond.code ({ cls := "java/util/ArrayList", name := "grow", desc := "()[Ljava/lang/Object;" } : Jvm.MethodName) jdk_38_method_7_code (1 : Nat) (Option.some (Jvm.ClassFile.FieldType.array (Jvm.ClassFile.FieldType.object "java/lang/Object"))), Jvm.Cond.code ({ cls := "java/util/ArrayList", name := "grow", desc := "(I)[Ljava/lang/Object;" } : Jvm.MethodName) jdk_38_method_6_code (4 : Nat) (Option.some (Jvm.ClassFile.FieldType.array (Jvm.ClassFile.FieldType.object "java/lang/Object"))), Jvm.Cond.code ({ cls := "java/lang/Math", name := "max", desc := "(II)I" } : Jvm.MethodName) jdk_29_method_65_code (2 : Nat) (Option.some Jvm.ClassFile.FieldType.int), Jvm.Cond.code ({ cls := "java/util/ArrayList", name := "get", desc := "(I)Ljava/lang/Object;" } : Jvm.MethodName) jdk_38_method_20_code (2 : Nat) (Option.some (Jvm.ClassFile.FieldType.object "java/lang/Object")), Jvm.Cond.code ({ cls := "java/util/Objects", name := "checkIndex", desc := "(II)I" } : Jvm.MethodName) jdk_31_method_17_code (2 : Nat) (Option.some Jvm.ClassFile.FieldType.int), Jvm.Cond.code ({ cls := "jdk/internal/util/Preconditions", name := "checkIndex", desc := "(IILjava/util/function/BiFunction;)I" } : Jvm.MethodName) jdk_41_method_11_code (3 : Nat) (Option.some Jvm.ClassFile.FieldType.int), Jvm.Cond.code ({ cls := "java/util/ArrayList", name := "elementData", desc := "(I)Ljava/lang/Object;" } : Jvm.MethodName) jdk_38_method_18_code (2 : Nat) (Option.some (Jvm.ClassFile.FieldType.object "java/lang/Object")), Jvm.Cond.code ({ cls := "com/example/slotwright/slotwright/Market$Advertiser", name := "budget", desc := "()Ljava/math/BigDecimal;" } : Jvm.MethodName) prog_27_method_6_code (1 : Nat) (Option.some (Jvm.ClassFile.FieldType.object "java/math/BigDecimal")), Jvm.Cond.code ({ cls := "java/math/BigDecimal", name := "add", desc := "(Ljava/math/BigDecimal;)Ljava/math/BigDecimal;" } : Jvm.MethodName) jdk_17_method_26_code (2 : Nat) (Option.some (Jvm.ClassFile.FieldType.object "java/math/BigDecimal")), Jvm.Cond.code ({ cls := "java/math/BigDecimal", name := "add", desc := "(JIJI)Ljava/math/BigDecimal;" } : Jvm.MethodName) jdk_17_method_134_code (12 : Nat) (Option.some (Jvm.ClassFile.FieldType.object "java/math/BigDecimal")), Jvm.Cond.code ({ cls := "java/math/BigDecimal", name := "add", desc := "(JJI)Ljava/math/BigDecimal;" } : Jvm.MethodName) jdk_17_method_133_code (7 : Nat) (Option.some (Jvm.ClassFile.FieldType.object "java/math/BigDecimal")), Jvm.Cond.code ({ cls := "java/math/BigDecimal", name := "add", desc := "(JJ)J" } : Jvm.MethodName) jdk_17_method_132_code (6 : Nat) (Option.some Jvm.ClassFile.FieldType.long), Jvm.Cond.code ({ cls := "com/example/slotwright/slotwright/Ledger", name := "charge", desc := "(ILjava/math/BigDecimal;)V" } : Jvm.MethodName) prog_23_method_3_code (3 : Nat) (Option.none : Option Jvm.ClassFile.FieldType), Jvm.Cond.code ({ cls := "java/math/BigDecimal", name := "checkScale", desc := "(JJ)I" } : Jvm.MethodName) jdk_17_method_113_code (5 : Nat) (Option.some Jvm.ClassFile.FieldType.int), Jvm.Cond.code ({ cls := "java/math/BigDecimal", name := "longMultiplyPowerTen", desc := "(JI)J" } : Jvm.MethodName) jdk_17_method_97_code (7 : Nat) (Option.some Jvm.ClassFile.FieldType.long), Jvm.Cond.code ({ cls := "java/math/BigDecimal", name := "subtract", desc := "(Ljava/math/BigDecimal;)Ljava/math/BigDecimal;" } : Jvm.MethodName) jdk_17_method_29_code (2 : Nat) (Option.some (Jvm.ClassFile.FieldType.object "java/math/BigDecimal"))]
set_option maxRecDepth 65536 in
theorem codes_eq : words1.filter isCode = codes1 := rfl
theorem w_codes : ∀ c ∈ words1.filter isCode, c.before args0 about1 = true := by
  rw [codes_eq]
  intro c hc
  simp only [codes1, List.mem_cons, List.not_mem_nil, or_false] at hc
  rcases hc with rfl | rfl | rfl | rfl | rfl | rfl | rfl | rfl | rfl | rfl | rfl | rfl | rfl | rfl | rfl | rfl | rfl | rfl | rfl | rfl | rfl | rfl | rfl | rfl | rfl | rfl | rfl | rfl | rfl | rfl | rfl | rfl | rfl | rfl | rfl | rfl | rfl
  · exact w_c0
  · exact w_c1
  · exact w_c2
  · exact w_c3
  · exact w_c4
  · exact w_c5
  · exact w_c6
  · exact w_c7
  · exact w_c8
  · exact w_c9
  · exact w_c10
  · exact w_c11
  · exact w_c12
  · exact w_c13
  · exact w_c14
  · exact w_c15
  · exact w_c16
  · exact w_c17
  · exact w_c18
  · exact w_c19
  · exact w_c20
  · exact w_c21
  · exact w_c22
  · exact w_c23
  · exact w_c24
  · exact w_c25
  · exact w_c26
  · exact w_c27
  · exact w_c28
  · exact w_c29
  · exact w_c30
  · exact w_c31
  · exact w_c32
  · exact w_c33
  · exact w_c34
  · exact w_c35
  · exact w_c36
set_option maxRecDepth 65536 in
theorem w_t1 : (words1.take 24).all (fun c => isCode c || c.before args0 about1) = true := by decide +kernel
set_option maxRecDepth 65536 in
theorem w_t2 : ((words1.drop 24).take 24).all (fun c => isCode c || c.before args0 about1) = true := by decide +kernel
set_option maxRecDepth 65536 in
theorem w_t3 : (((words1.drop 24).drop 24).take 24).all (fun c => isCode c || c.before args0 about1) = true := by decide +kernel
set_option maxRecDepth 65536 in
theorem w_t4 : ((((words1.drop 24).drop 24).drop 24).take 24).all (fun c => isCode c || c.before args0 about1) = true := by decide +kernel
set_option maxRecDepth 65536 in
theorem w_t5 : (((((words1.drop 24).drop 24).drop 24).drop 24).take 24).all (fun c => isCode c || c.before args0 about1) = true := by decide +kernel
set_option maxRecDepth 65536 in
theorem w_t6 : ((((((words1.drop 24).drop 24).drop 24).drop 24).drop 24).take 24).all (fun c => isCode c || c.before args0 about1) = true := by decide +kernel
set_option maxRecDepth 65536 in
theorem w_t7 : (((((((words1.drop 24).drop 24).drop 24).drop 24).drop 24).drop 24).take 24).all (fun c => isCode c || c.before args0 about1) = true := by decide +kernel
set_option maxRecDepth 65536 in
theorem w_t8 : ((((((((words1.drop 24).drop 24).drop 24).drop 24).drop 24).drop 24).drop 24).take 24).all (fun c => isCode c || c.before args0 about1) = true := by decide +kernel
set_option maxRecDepth 65536 in
theorem w_t9 : (((((((((words1.drop 24).drop 24).drop 24).drop 24).drop 24).drop 24).drop 24).drop 24).take 24).all (fun c => isCode c || c.before args0 about1) = true := by decide +kernel
set_option maxRecDepth 65536 in
theorem w_t10 : (((((((((words1.drop 24).drop 24).drop 24).drop 24).drop 24).drop 24).drop 24).drop 24).drop 24).all (fun c => isCode c || c.before args0 about1) = true := by decide +kernel
theorem w_tables : (allAtoms (Jvm.Cond.code x code maxLocals ret :: tables_1)).before args0 about1 = true := by
  rw [allAtoms_all]
  show words1.all (fun c => c.before args0 about1) = true
  refine all_split ?_ w_codes
  rw [← List.take_append_drop 24 words1, List.all_append, w_t1, ← List.take_append_drop 24 (words1.drop 24), List.all_append, w_t2, ← List.take_append_drop 24 ((words1.drop 24).drop 24), List.all_append, w_t3, ← List.take_append_drop 24 (((words1.drop 24).drop 24).drop 24), List.all_append, w_t4, ← List.take_append_drop 24 ((((words1.drop 24).drop 24).drop 24).drop 24), List.all_append, w_t5, ← List.take_append_drop 24 (((((words1.drop 24).drop 24).drop 24).drop 24).drop 24), List.all_append, w_t6, ← List.take_append_drop 24 ((((((words1.drop 24).drop 24).drop 24).drop 24).drop 24).drop 24), List.all_append, w_t7, ← List.take_append_drop 24 (((((((words1.drop 24).drop 24).drop 24).drop 24).drop 24).drop 24).drop 24), List.all_append, w_t8, ← List.take_append_drop 24 ((((((((words1.drop 24).drop 24).drop 24).drop 24).drop 24).drop 24).drop 24).drop 24), List.all_append, w_t9, w_t10]
  rfl
set_option maxRecDepth 65536 in
theorem w_rest : rest_1_c.before args0 about1 = true := by decide +kernel
set_option maxRecDepth 65536 in
theorem w_case : (Jvm.Cond.and given_1 narrow_1).before args0 about1 = true := by decide +kernel
theorem w_applies : (headSpec (Jvm.Cond.code x code maxLocals ret :: tables_1) room_1).applies x e0.platform about1 = true :=
  (Spec.applies_iff w_frames).mpr ⟨w_running, w_runnable, w_alone, w_named, w_hears, w_ripe, w_room, w_tables⟩
theorem atStart : AtStart classFile x code maxLocals ret World_1 tables_1 room_1 Calls_1 rest_1 Pre_1 launch0 p0 e0 about1 theMethod args0 below0 :=
  ⟨lists_1, trivial, launch0.admits_env _ _ _, launch0.least_env, fairChoices_fair.cas, fairChoices_fair.clock, w_frames, w_args, w_heap, w_applies, trivial, w_rest, w_case⟩
end start1
theorem witness_1 : WitnessClaimed_1 := ⟨start1.p0, start1.e0, start1.about1, start1.theMethod, start1.args0, start1.below0, start1.atStart⟩
end Jvm.Pilot.@@N@@
