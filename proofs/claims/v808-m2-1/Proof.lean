import JvmDerived
import JvmDerived.Pilot.@@N@@Statement
import JvmDerived.Pilot.@@N@@Code
set_option linter.unusedVariables false
set_option linter.unusedSimpArgs false
namespace Jvm.Pilot.@@N@@
open Jvm Jvm.ClassFile Sem Op Lib Jvm.Free Jvm.Stand Jvm.LawKit Jvm.RoadKit Bundle Jvm.Pilot.@@N@@.Jvm.D
theorem own_w {ws : List Jvm.Cond} {a0 : Array Value} {Z : State} (hw : ∀ d ∈ ws, d.before a0 Z = true) (i : Nat) {d : Jvm.Cond} (h : ws[i]? = some d) : d.before a0 Z = true := hw _ (List.mem_of_getElem? h)
/-- the run comes to a state of which P holds -/
def Rch (tb : Tables) (e : Env) (below : List Frame) (P : State → Prop) (t : State) : Prop := ∃ u, Steps tb e below t u ∧ P u
theorem Rch.st {tb : Tables} {e : Env} {below : List Frame} {P : State → Prop} {t t' : State} (h : ∀ target, Steps tb e below t' target → Steps tb e below t target) (k : Rch tb e below P t') : Rch tb e below P t := by
  obtain ⟨u, h1, h2⟩ := k
  exact ⟨u, h u h1, h2⟩
theorem Rch.tr {tb : Tables} {e : Env} {below : List Frame} {P : State → Prop} {t t' : State} (h : Steps tb e below t t') (k : Rch tb e below P t') : Rch tb e below P t := by
  obtain ⟨u, h1, h2⟩ := k
  exact ⟨u, h.trans h1, h2⟩
theorem Rch.fin {tb : Tables} {e : Env} {below : List Frame} {P : State → Prop} {t u : State} (h : Steps tb e below t u) (k : P u) : Rch tb e below P t := ⟨u, h, k⟩
theorem Rch.out {tb : Tables} {e : Env} {below : List Frame} {P : State → Outcome → Prop} {t : State} (h : Rch tb e below (fun u => ∃ o, P u o) t) : ∃ u o, Steps tb e below t u ∧ P u o := by
  obtain ⟨u, h1, o, h2⟩ := h
  exact ⟨u, o, h1, h2⟩
theorem own_eqInt {t : Term} {n : Int32} {args : Array Value} {s : State} (h : (Cond.eq t (.int n)).value args s none s [] = some true) : t.eval args s none [] s = some (.int n) := by
  have hn : (Term.int n).eval args s none [] s = some (.int n) := rfl
  cases hv : t.eval args s none [] s with
  | none => simp [Cond.value, hv] at h
  | some x => cases x <;> simp [Cond.value, hv, hn] at h ⊢; exact h
theorem own_retI {p : Program} {l : Launch} {e : Env} {R : Room} {s : State} {m : MethodId} {args : Array Value} {below : List Frame} {meth : Method} {c : Code} {T : State} {locs : List Loc} {cells slots : Nat} (X : Stand p l e R s m args below meth c T locs cells slots) (hx : p.tables.exec = Jvm.exec) {pc : Nat} {Ls : Array Slot} {z : Int32} {rest : List Value} (hret : meth.sig.returnType = some .int) (hd : decode c.code pc = .ok (.ireturn, 1)) {fs : List Frame}
    (hl : ∀ (f : JFrame) (acts : List Action), f.method = m → f.locked = none → f.entered = [] → (doReturn e (T.setTop f) acts (some (.int z))).1 = T.setFrames fs) : Steps p.tables e below (T.setTop (mkF m pc Ls (.int z :: rest))) (T.setFrames fs) :=
  retOut X hx hret rfl (Or.inl ⟨rfl, Or.inl rfl, z, rfl⟩) hd hl
theorem own_retA {p : Program} {l : Launch} {e : Env} {R : Room} {s : State} {m : MethodId} {args : Array Value} {below : List Frame} {meth : Method} {c : Code} {T : State} {locs : List Loc} {cells slots : Nat} (X : Stand p l e R s m args below meth c T locs cells slots) (hx : p.tables.exec = Jvm.exec) {pc : Nat} {Ls : Array Slot} {w : Value} {t : FieldType} {rest : List Value} (hret : meth.sig.returnType = some t) (hn : narrow t w = w) (ht : t.isReference = true) (hw : w.isRef = true) (hd : decode c.code pc = .ok (.areturn, 1)) {fs : List Frame}
    (hl : ∀ (f : JFrame) (acts : List Action), f.method = m → f.locked = none → f.entered = [] → (doReturn e (T.setTop f) acts (some w)).1 = T.setFrames fs) : Steps p.tables e below (T.setTop (mkF m pc Ls (w :: rest))) (T.setFrames fs) :=
  retOut X hx hret hn (Or.inr (Or.inr (Or.inr (Or.inr ⟨rfl, ht, hw⟩)))) hd hl
theorem own_retJ {p : Program} {l : Launch} {e : Env} {R : Room} {s : State} {m : MethodId} {args : Array Value} {below : List Frame} {meth : Method} {c : Code} {T : State} {locs : List Loc} {cells slots : Nat} (X : Stand p l e R s m args below meth c T locs cells slots) (hx : p.tables.exec = Jvm.exec) {pc : Nat} {Ls : Array Slot} {z : Int64} {rest : List Value} (hret : meth.sig.returnType = some .long) (hd : decode c.code pc = .ok (.lreturn, 1)) {fs : List Frame}
    (hl : ∀ (f : JFrame) (acts : List Action), f.method = m → f.locked = none → f.entered = [] → (doReturn e (T.setTop f) acts (some (.long z))).1 = T.setFrames fs) : Steps p.tables e below (T.setTop (mkF m pc Ls (.long z :: rest))) (T.setFrames fs) :=
  retOut X hx hret rfl (Or.inr (Or.inl ⟨rfl, rfl, z, rfl⟩)) hd hl
theorem own_retD {p : Program} {l : Launch} {e : Env} {R : Room} {s : State} {m : MethodId} {args : Array Value} {below : List Frame} {meth : Method} {c : Code} {T : State} {locs : List Loc} {cells slots : Nat} (X : Stand p l e R s m args below meth c T locs cells slots) (hx : p.tables.exec = Jvm.exec) {pc : Nat} {Ls : Array Slot} {z : UInt64} {rest : List Value} (hret : meth.sig.returnType = some .double) (hd : decode c.code pc = .ok (.dreturn, 1)) {fs : List Frame}
    (hl : ∀ (f : JFrame) (acts : List Action), f.method = m → f.locked = none → f.entered = [] → (doReturn e (T.setTop f) acts (some (.double z))).1 = T.setFrames fs) : Steps p.tables e below (T.setTop (mkF m pc Ls (.double z :: rest))) (T.setFrames fs) :=
  retOut X hx hret rfl (Or.inr (Or.inr (Or.inl ⟨rfl, rfl, z, rfl⟩))) hd hl

/-- a BigDecimal with the compact value x at the scale sc -/
def BDc (Z : State) (h : Heap) (a : Addr) (x : Int64) (sc : Int32) : Prop := Exa Z h a "java/math/BigDecimal" ∧ Fld Z h a "java/math/BigDecimal" "intCompact" "J" (.long x) ∧ Fld Z h a "java/math/BigDecimal" "scale" "I" (.int sc)
theorem BDc.ext {Z : State} {h h' : Heap} {a : Addr} {x : Int64} {sc : Int32} (F : BDc Z h a x sc) (E : Ext h h') : BDc Z h' a x sc := ⟨F.1.ext E, F.2.1.ext E, F.2.2.ext E⟩
theorem BDc.keep {Z : State} {h h' : Heap} {a : Addr} {x : Int64} {sc : Int32} {ws : List Addr} (F : BDc Z h a x sc) (K : Keep h h' ws) (q : a ∉ ws) : BDc Z h' a x sc := ⟨F.1.keep K, F.2.1.keep K q, F.2.2.keep K q⟩
theorem BDc.other {Z : State} {h h' : Heap} {a b : Addr} {x : Int64} {sc : Int32} {sl : Nat} {v : Value} (F : BDc Z h a x sc) (W : Wr h h' b sl v) (q : a ≠ b) : BDc Z h' a x sc := ⟨F.1.wr W, F.2.1.other W (Or.inl q), F.2.2.other W (Or.inl q)⟩
theorem BDc.lt {Z : State} {h : Heap} {a : Addr} {x : Int64} {sc : Int32} (F : BDc Z h a x sc) : a < h.size := F.1.lt
/-- the table of the small ones -/
def ZTab (Z : State) (h : Heap) (a : Addr) : Prop := ∃ cl : Cell, Arr Z h a cl (.object "java/math/BigDecimal") ∧ cl.slots.size = (11 : Int32).toNatClampNeg ∧ ∀ k : Nat, k < 11 → ∃ z, cl.slots[k]? = some (.ref z) ∧ BDc Z h z (Int64.ofNat k) 0
theorem ZTab.ext {Z : State} {h h' : Heap} {a : Addr} (F : ZTab Z h a) (E : Ext h h') : ZTab Z h' a := by
  obtain ⟨cl, A, S, H⟩ := F
  exact ⟨cl, A.ext E, S, fun k hk => by obtain ⟨z, h1, h2⟩ := H k hk; exact ⟨z, h1, h2.ext E⟩⟩
/-- n ints' worth -/
def Bk (n : Int) (x : Int64) : Prop := -(n * 2147483648) ≤ x.toInt ∧ x.toInt ≤ n * 2147483648
theorem Bk.i2l (x : Int32) : Bk 1 x.toInt64 := by
  have h1 := c_i2l x
  have h2 := rng32 x
  unfold Bk; rw [h1]; omega
theorem Bk.zero : Bk 0 (0 : Int64) := by unfold Bk; decide
theorem Bk.mono {n m : Int} {x : Int64} (h : Bk n x) (q : n ≤ m) : Bk m x := by unfold Bk at *; omega
theorem Bk.add {n m : Int} {x y : Int64} (hx : Bk n x) (hy : Bk m y) (q : n + m ≤ 1000) : (x + y).toInt = x.toInt + y.toInt ∧ Bk (n + m) (x + y) := by
  unfold Bk at *
  have e : (x + y).toInt = x.toInt + y.toInt := by rw [Int64.toInt_add]; exact Int.bmod_eq_of_le (by omega) (by omega)
  rw [e]; exact ⟨rfl, by omega, by omega⟩
theorem Bk.neg {n : Int} {x : Int64} (hx : Bk n x) (q : n ≤ 1000) : (-x).toInt = -x.toInt ∧ Bk n (-x) := by
  unfold Bk at *
  have e : (-x).toInt = -x.toInt := by rw [Int64.toInt_neg]; exact Int.bmod_eq_of_le (by omega) (by omega)
  rw [e]; exact ⟨rfl, by omega, by omega⟩
theorem Bk.ne {n : Int} {x : Int64} (hx : Bk n x) (q : n ≤ 1000) : ¬ x = (-9223372036854775808 : Int64) := fun e => by
  subst e
  have h := hx.1
  rw [show (-9223372036854775808 : Int64).toInt = -9223372036854775808 from by decide] at h
  omega
theorem own_noflow {n m : Int} {x y : Int64} (hx : Bk n x) (hy : Bk m y) (q : n + m ≤ 1000) : ¬ (((x + y) ^^^ x) &&& ((x + y) ^^^ y)) < (0 : Int64) := by
  have e := (Bk.add hx hy q).1
  rw [Jvm.Free.XT.and_neg64, Jvm.Free.XT.xor_neg64, Jvm.Free.XT.xor_neg64, Jvm.Free.XT.negI64, Jvm.Free.XT.negI64, Jvm.Free.XT.negI64, e]
  omega
def own_sg (x : Int64) : Int32 := ((x >>> ((63 : Int32) &&& 0x3f).toInt64) ||| ((((-x)).toUInt64 >>> ((63 : Int32) &&& 0x3f).toInt64.toUInt64).toInt64)).toInt32
theorem own_len {args : Array Value} {Z : State} {t : Term} {a : Addr} {cl : Cell} {ty : FieldType} {z : Int32} (ev : t.eval args Z none [] Z = some (.ref a)) (A : Arr Z Z.heap a cl ty) (h : (Term.length t).eval args Z none [] Z = some (.int z)) : cl.slots.size < 2 ^ 31 ∧ cl.slots.size.toInt32 = z := by
  have q := Arr.fin (Vm.Alike.refl _) A
  by_cases hl : cl.slots.size < 2 ^ 31
  · rw [len_f ev q hl] at h
    exact ⟨hl, Value.int.inj (Option.some.inj h)⟩
  · simp [Term.eval, ev, q, hl] at h
theorem own_sz {cl : Cell} {z : Int32} (q : cl.slots.size < 2 ^ 31) (e : cl.slots.size.toInt32 = z) : cl.slots.size = z.toNatClampNeg := by
  subst e
  show _ = (cl.slots.size.toInt32).toInt.toNat
  rw [len_toInt q]; rfl
theorem own_eqLong {t : Term} {n : Int64} {args : Array Value} {s : State} (h : (Cond.eq t (.long n)).value args s none s [] = some true) : t.eval args s none [] s = some (.long n) := by
  have hn : (Term.long n).eval args s none [] s = some (.long n) := rfl
  cases hv : t.eval args s none [] s with
  | none => simp [Cond.value, hv] at h
  | some x => cases x <;> simp [Cond.value, hv, hn] at h ⊢; exact h
section Calls
variable {p : Program} {l : Launch} {e : Env} {R : Room} {s : State} {m : MethodId} {args : Array Value} {below : List Frame} {meth : Method} {c : Code} {T : State} {locs : List Loc} {cells slots : Nat} {Z : State} {a0 : Array Value} {h : Heap} {rm : Room} {W : Nat} {as' : Array Value} {Q : Option Value → Heap → List Loc → Prop}
theorem own_callS (X : Stand p l e R s m args below meth c T locs cells slots) (hx : p.tables.exec = Jvm.exec) (hZ : Z.Warmed39 s.vm) {own : String} {index : Nat} {y : MethodName} {bytes : ByteArray} {maxL : Nat} {ret : Option FieldType}
    (hown : s.vm.findClass own = some m.cls) (wl : (Cond.methodLink own index y).before a0 Z = true) (wst : (Cond.static y).before a0 Z = true) (wi : (Cond.initialized y.cls).before a0 Z = true) (wc : (Cond.code y bytes maxL ret).before a0 Z = true) (hy : y.cls ≠ "java/lang/invoke/MethodHandle" ∧ y.cls ≠ "java/lang/invoke/VarHandle")
    (hM : MetFree l y (head1 [Cond.code y bytes maxL ret] rm) (fun a U => a = as' ∧ Z.Warmed39 U.vm ∧ U.heap = h) (fun _ _ _ _ _ => True) (fun _ U o U' => ∃ v L, o = .returned v ∧ Q v U'.heap L ∧ FrameEnd U o U' L rm.cells rm.slots))
    (hf : rm.frames + 1 ≤ R.frames) (hl : W + (maxL + 11) + rm.locals ≤ R.locals) (eT : T.heap = h) (hc : cells + rm.cells ≤ R.cells) (hs : slots + rm.slots ≤ R.slots)
    {g : JFrame} (hg : g.method = m) (hsize : g.locals.size = c.maxLocals) {argsL rest : List Value} (hlen : ∀ sig, parseMethodDescriptor y.desc = some sig → argsL.length = sig.parameters.length) (hstack : g.stack = argsL.reverse ++ rest) (hW : 2 * g.monitorRoom + (rest.map fun v => v.category).sum ≤ W) (hdg : decode c.code g.pc = .ok (.invokestatic index, 3)) (has : argsL.toArray = as') :
    ∃ (v : Option Value) (T' : State) (L : List Loc), Stand p l e R s m args below meth c T' (locs ++ L) (cells + rm.cells) (slots + rm.slots) ∧ Q v T'.heap L ∧ ∀ target, Steps p.tables e below (T'.setTop { g with pc := g.pc + 3, stack := v.toList ++ rest }) target → Steps p.tables e below (T.setTop g) target := by
  obtain ⟨v, _, ⟨T', L', k', n'⟩, -, X', ⟨Lc, hQ, h1, h2, h3⟩, st⟩ := Jvm.LawKit.callS X hx hown (mvT hZ wl) (mvT hZ wst) (mvT hZ wi) (mvT hZ wc) hy (backOf (W := W) hM hZ wc wi hf hl) hg hsize hlen hstack hW hdg (fun _ _ => ⟨has, eT, hc, hs⟩)
  dsimp only [Pt.U, Pt.locs, Pt.cells, Pt.slots] at X' h1 h2 h3 st hQ
  subst h1 h2 h3
  exact ⟨v, T', Lc, X', hQ, st⟩
theorem own_callI (X : Stand p l e R s m args below meth c T locs cells slots) (hx : p.tables.exec = Jvm.exec) (hZ : Z.Warmed39 s.vm) {own : String} {index : Nat} {y : MethodName} (hy1 : y.name = "<init>") {bytes : ByteArray} {maxL : Nat}
    (hown : s.vm.findClass own = some m.cls) (wl : (Cond.methodLink own index y).before a0 Z = true) (win : (Cond.instanceMethod y).before a0 Z = true) (wi : (Cond.initialized y.cls).before a0 Z = true) (wc : (Cond.code y bytes maxL none).before a0 Z = true) (hy : y.cls ≠ "java/lang/invoke/MethodHandle" ∧ y.cls ≠ "java/lang/invoke/VarHandle")
    (hM : MetFree l y (head1 [Cond.code y bytes maxL none] rm) (fun a U => a = as' ∧ Z.Warmed39 U.vm ∧ U.heap = h) (fun _ _ _ _ _ => True) (fun _ U o U' => ∃ v L, o = .returned v ∧ Q v U'.heap L ∧ FrameEnd U o U' L rm.cells rm.slots))
    (hf : rm.frames + 1 ≤ R.frames) (hl : W + (maxL + 11) + rm.locals ≤ R.locals) (eT : T.heap = h) (hc : cells + rm.cells ≤ R.cells) (hs : slots + rm.slots ≤ R.slots)
    {g : JFrame} (hg : g.method = m) (hsize : g.locals.size = c.maxLocals) {a : Addr} {argsL rest : List Value} (hlen : ∀ sig, parseMethodDescriptor y.desc = some sig → argsL.length = sig.parameters.length) (hstack : g.stack = argsL.reverse ++ .ref a :: rest) (hW : 2 * g.monitorRoom + (rest.map fun v => v.category).sum ≤ W) (hdg : decode c.code g.pc = .ok (.invokespecial index, 3)) (has : (.ref a :: argsL).toArray = as') :
    ∃ (v : Option Value) (T' : State) (L : List Loc), Stand p l e R s m args below meth c T' (locs ++ L) (cells + rm.cells) (slots + rm.slots) ∧ Q v T'.heap L ∧ ∀ target, Steps p.tables e below (T'.setTop { g with pc := g.pc + 3, stack := v.toList ++ rest }) target → Steps p.tables e below (T.setTop g) target := by
  obtain ⟨v, _, ⟨T', L', k', n'⟩, -, X', ⟨Lc, hQ, h1, h2, h3⟩, st⟩ := X.specialBack hx hy1 hown (mvT hZ wl) (mvT hZ win) (mvT hZ wc) hy (backOf (W := W) hM hZ wc wi hf hl) hg hsize (Steps.refl _) (a := a) hlen hstack hW hdg (fun _ _ => ⟨has, eT, hc, hs⟩)
  dsimp only [Pt.U, Pt.locs, Pt.cells, Pt.slots] at X' h1 h2 h3 st hQ
  subst h1 h2 h3
  exact ⟨v, T', Lc, X', hQ, fun t k => st.trans k⟩
theorem own_callV (X : Stand p l e R s m args below meth c T locs cells slots) (hx : p.tables.exec = Jvm.exec) (hZ : Z.Warmed39 s.vm) {own C : String} {index : Nat} {y z : MethodName} {bytes : ByteArray} {maxL : Nat} {ret : Option FieldType}
    (hown : s.vm.findClass own = some m.cls) (wl : (Cond.methodLink own index y).before a0 Z = true) (wd : (Cond.declares y).before a0 Z = true) (hnf : NotFace s y) (wse : (Cond.selects C y z).before a0 Z = true) (win : (Cond.instanceMethod z).before a0 Z = true) (wi : (Cond.initialized z.cls).before a0 Z = true) (wc : (Cond.code z bytes maxL ret).before a0 Z = true) (hy : y.cls ≠ "java/lang/invoke/MethodHandle" ∧ y.cls ≠ "java/lang/invoke/VarHandle")
    (hM : MetFree l z (head1 [Cond.code z bytes maxL ret] rm) (fun a U => a = as' ∧ Z.Warmed39 U.vm ∧ U.heap = h) (fun _ _ _ _ _ => True) (fun _ U o U' => ∃ v L, o = .returned v ∧ Q v U'.heap L ∧ FrameEnd U o U' L rm.cells rm.slots))
    (hf : rm.frames + 1 ≤ R.frames) (hl : W + (maxL + 11) + rm.locals ≤ R.locals) (eT : T.heap = h) {b : Addr} (hE : Exa Z h b C) (hc : cells + rm.cells ≤ R.cells) (hs : slots + rm.slots ≤ R.slots)
    {g : JFrame} (hg : g.method = m) (hsize : g.locals.size = c.maxLocals) {argsL rest : List Value} (hlen : ∀ sig, parseMethodDescriptor y.desc = some sig → argsL.length = sig.parameters.length) (hstack : g.stack = argsL.reverse ++ .ref b :: rest) (hW : 2 * g.monitorRoom + (rest.map fun v => v.category).sum ≤ W) (hdg : decode c.code g.pc = .ok (.invokevirtual index, 3)) (has : (.ref b :: argsL).toArray = as') :
    ∃ (v : Option Value) (T' : State) (L : List Loc), Stand p l e R s m args below meth c T' (locs ++ L) (cells + rm.cells) (slots + rm.slots) ∧ Q v T'.heap L ∧ ∀ target, Steps p.tables e below (T'.setTop { g with pc := g.pc + 3, stack := v.toList ++ rest }) target → Steps p.tables e below (T.setTop g) target := by
  obtain ⟨cq, kq, qa, qb, qc⟩ := isOf hZ eT hE
  obtain ⟨v, _, ⟨T', L', k', n'⟩, -, X', ⟨Lc, hQ, h1, h2, h3⟩, st⟩ := X.virtualBack hx hown (mvT hZ wl) (mvT hZ wd) hnf (mvT hZ wse) (mvT hZ win) hy (backOf (W := W) hM hZ wc wi hf hl) qa qc hg hsize (Steps.refl _) hlen hstack hW hdg (fun _ _ => ⟨has, eT, hc, hs⟩)
  dsimp only [Pt.U, Pt.locs, Pt.cells, Pt.slots] at X' h1 h2 h3 st hQ
  subst h1 h2 h3
  exact ⟨v, T', Lc, X', hQ, fun t k => st.trans k⟩
theorem own_callF (X : Stand p l e R s m args below meth c T locs cells slots) (hx : p.tables.exec = Jvm.exec) (hZ : Z.Warmed39 s.vm) {own C : String} {index count : Nat} {xi y : MethodName} {bytes : ByteArray} {maxL : Nat} {ret : Option FieldType}
    (hown : s.vm.findClass own = some m.cls) (wl : (Cond.methodLink own index xi).before a0 Z = true) (wd : (Cond.declares xi).before a0 Z = true) (wfa : (Cond.interfaceMethod xi.cls xi.cls xi.name xi.desc).before args s = true) (wse : (Cond.selects C xi y).before a0 Z = true) (win : (Cond.instanceMethod y).before a0 Z = true) (wpu : (Cond.publicMethod y).before a0 Z = true) (wun : (Cond.unhidden C xi.name xi.desc).before a0 Z = true) (wca : (Cond.castable C xi.cls).before a0 Z = true) (wi : (Cond.initialized y.cls).before a0 Z = true) (wc : (Cond.code y bytes maxL ret).before a0 Z = true) (hy : xi.cls ≠ "java/lang/invoke/MethodHandle" ∧ xi.cls ≠ "java/lang/invoke/VarHandle")
    (hM : MetFree l y (head1 [Cond.code y bytes maxL ret] rm) (fun a U => a = as' ∧ Z.Warmed39 U.vm ∧ U.heap = h) (fun _ _ _ _ _ => True) (fun _ U o U' => ∃ v L, o = .returned v ∧ Q v U'.heap L ∧ FrameEnd U o U' L rm.cells rm.slots))
    (hf : rm.frames + 1 ≤ R.frames) (hl : W + (maxL + 11) + rm.locals ≤ R.locals) (eT : T.heap = h) {b : Addr} (hE : Exa Z h b C) (hc : cells + rm.cells ≤ R.cells) (hs : slots + rm.slots ≤ R.slots)
    {g : JFrame} (hg : g.method = m) (hsize : g.locals.size = c.maxLocals) {argsL rest : List Value} (hlen : ∀ sig, parseMethodDescriptor xi.desc = some sig → argsL.length = sig.parameters.length) (hstack : g.stack = argsL.reverse ++ .ref b :: rest) (hW : 2 * g.monitorRoom + (rest.map fun v => v.category).sum ≤ W) (hdg : decode c.code g.pc = .ok (.invokeinterface index count, 5)) (has : (.ref b :: argsL).toArray = as') :
    ∃ (v : Option Value) (T' : State) (L : List Loc), Stand p l e R s m args below meth c T' (locs ++ L) (cells + rm.cells) (slots + rm.slots) ∧ Q v T'.heap L ∧ ∀ target, Steps p.tables e below (T'.setTop { g with pc := g.pc + 5, stack := v.toList ++ rest }) target → Steps p.tables e below (T.setTop g) target := by
  obtain ⟨cq, kq, qa, qb, qc⟩ := isOf hZ eT hE
  obtain ⟨v, _, ⟨T', L', k', n'⟩, -, X', ⟨Lc, hQ, h1, h2, h3⟩, st⟩ := X.interfaceBack hx hown (mvT hZ wl) (mvT hZ wd) wfa (mvT hZ wse) (mvT hZ win) (mvT hZ wpu) (mvT hZ wun) (mvT hZ wca) hy (backOf (W := W) hM hZ wc wi hf hl) qa qb qc hg hsize (Steps.refl _) hlen hstack hW hdg (fun _ _ => ⟨has, eT, hc, hs⟩)
  dsimp only [Pt.U, Pt.locs, Pt.cells, Pt.slots] at X' h1 h2 h3 st hQ
  subst h1 h2 h3
  exact ⟨v, T', Lc, X', hQ, fun t k => st.trans k⟩
theorem own_callP (X : Stand p l e R s m args below meth c T locs cells slots) (hx : p.tables.exec = Jvm.exec) (hZ : Z.Warmed39 s.vm) {own : String} {index : Nat} {y : MethodName} {bytes : ByteArray} {maxL : Nat} {ret : Option FieldType}
    (hown : s.vm.findClass own = some m.cls) (wl : (Cond.methodLink own index y).before a0 Z = true) (win : (Cond.instanceMethod y).before a0 Z = true) (wse : (Cond.selects y.cls y y).before a0 Z = true) (wpr : (Cond.privateMethod y).before a0 Z = true) (wi : (Cond.initialized y.cls).before a0 Z = true) (wc : (Cond.code y bytes maxL ret).before a0 Z = true) (hy : y.cls ≠ "java/lang/invoke/MethodHandle" ∧ y.cls ≠ "java/lang/invoke/VarHandle")
    (hM : MetFree l y (head1 [Cond.code y bytes maxL ret] rm) (fun a U => a = as' ∧ Z.Warmed39 U.vm ∧ U.heap = h) (fun _ _ _ _ _ => True) (fun _ U o U' => ∃ v L, o = .returned v ∧ Q v U'.heap L ∧ FrameEnd U o U' L rm.cells rm.slots))
    (hf : rm.frames + 1 ≤ R.frames) (hl : W + (maxL + 11) + rm.locals ≤ R.locals) (eT : T.heap = h) {b : Addr} {C : String} (hE : Exa Z h b C) (hc : cells + rm.cells ≤ R.cells) (hs : slots + rm.slots ≤ R.slots)
    {g : JFrame} (hg : g.method = m) (hsize : g.locals.size = c.maxLocals) {argsL rest : List Value} (hlen : ∀ sig, parseMethodDescriptor y.desc = some sig → argsL.length = sig.parameters.length) (hstack : g.stack = argsL.reverse ++ .ref b :: rest) (hW : 2 * g.monitorRoom + (rest.map fun v => v.category).sum ≤ W) (hdg : decode c.code g.pc = .ok (.invokevirtual index, 3)) (has : (.ref b :: argsL).toArray = as') :
    ∃ (v : Option Value) (T' : State) (L : List Loc), Stand p l e R s m args below meth c T' (locs ++ L) (cells + rm.cells) (slots + rm.slots) ∧ Q v T'.heap L ∧ ∀ target, Steps p.tables e below (T'.setTop { g with pc := g.pc + 3, stack := v.toList ++ rest }) target → Steps p.tables e below (T.setTop g) target := by
  obtain ⟨cq, q1, q2⟩ := hE.cell
  obtain ⟨v, _, ⟨T', L', k', n'⟩, -, X', ⟨Lc, hQ, h1, h2, h3⟩, st⟩ := X.privateBack hx hown (mvT hZ wl) (mvT hZ win) (mvT hZ wse) (Cond.privateMethod_at (mvP hZ wpr (args := #[]))) (mvT hZ wc) hy (backOf (W := W) hM hZ wc wi hf hl) hg hsize (Steps.refl _) (by rw [eT]; exact q1) q2 hlen hstack hW hdg (fun _ _ => ⟨has, eT, hc, hs⟩)
  dsimp only [Pt.U, Pt.locs, Pt.cells, Pt.slots] at X' h1 h2 h3 st hQ
  subst h1 h2 h3
  exact ⟨v, T', Lc, X', hQ, fun t k => st.trans k⟩
end Calls
theorem d33_0 : decode jdk_18_method_1_code 0 = .ok (.aload_n 0, 1) := by decide +kernel
theorem d33_1 : decode jdk_18_method_1_code 1 = .ok (.invokespecial 1, 3) := by decide +kernel
theorem d33_4 : decode jdk_18_method_1_code 4 = .ok (.return_, 1) := by decide +kernel
def Q_cnumber (Z : State) (a : Addr) (h0 : Heap) (n0 : Nat) (v : Option Value) (h : Heap) (L : List Loc) : Prop := v = none ∧ Fr n0 L ∧ h = h0
theorem pn_java_lang_Number : plainName "java/lang/Number" = true := by first | (simp [plainName, overriddenIn]; done) | decide +kernel
theorem ef_cnumber (m : MethodId) (a : Addr) : entryFrame m #[(.ref a)] 1 = mkF m 0 #[.val (.ref a)] [] := by first | (simp [entryFrame, mkF, argsToLocals, Value.category]; done) | rfl
set_option maxRecDepth 65536 in
set_option maxHeartbeats 40000000 in
theorem cnumber (l : Launch) (Z : State) (a0 : Array Value) (hw : ∀ d ∈ tables_1, d.before a0 Z = true) (ws : List Jvm.Cond) (a : Addr) (h0 : Heap) (n0 : Nat) :
    MetFree l (⟨"java/lang/Number", "<init>", "()V"⟩ : MethodName) (head1 (Jvm.Cond.code (⟨"java/lang/Number", "<init>", "()V"⟩ : MethodName) jdk_18_method_1_code 1 none :: ws) ({ frames := 1, cells := 0, slots := 0, locals := 12 } : Room)) (fun aA uU => aA = #[(.ref a)] ∧ Z.Warmed39 uU.vm ∧ uU.heap = h0) (fun _ _ _ _ _ => True) (fun _ uU oO uU' => ∃ vV lL, oO = .returned vV ∧ Q_cnumber Z a h0 n0 vV uU'.heap lL ∧ FrameEnd uU oO uU' lL ({ frames := 1, cells := 0, slots := 0, locals := 12 } : Room).cells ({ frames := 1, cells := 0, slots := 0, locals := 12 } : Room).slots) := by
  refine MetFree.of_bodySF (plainFor_of_name pn_java_lang_Number) hisR ?_
  intro p e s m args below meth c s₁ Bd hml0 hP hK
  obtain ⟨rfl, hZ, hh⟩ := hP
  have hx := Bd.exec
  have hby := Bd.bytes
  have hml : c.maxLocals = 1 := hml0
  have hown : s.vm.findClass "java/lang/Number" = some m.cls := findClass_of_methodNamed Bd.named
  have hnm := (name_of_methodNamed Bd.named Bd.method).1
  have X0 : Stand p l e ({ frames := 1, cells := 0, slots := 0, locals := 12 } : Room) s m #[(.ref a)] below meth c s₁ [] 0 0 := Stand.of_body Bd
  have e0 : s₁.heap = h0 := by rw [← hh, Bd.state]; rfl
  have N0 := Fr.nil n0
  refine Rch.out (Rch.st (fun t k => castTop (ef_cnumber m a) k) ?_)
  show Rch p.tables e below _ (s₁.setTop (mkF m 0 #[.val (.ref a)] []))
  refine Rch.st (fun _ hr => XS.aloadN X0.here hx rfl (hb hby d33_0) rfl rfl hr) ?_
  obtain ⟨T1, X1, e1, st1⟩ := initO X0 hx hZ hown (own_w hw 210 rfl) (own_w hw 19 rfl) (own_w hw 20 rfl) e0 (g := (mkF m 1 #[.val (.ref a)] [(.ref a)])) rfl (by rw [hml]; rfl) rfl (hb hby d33_1) (by decide) (W := 0) (by show 2 * 0 + _ ≤ _; exact Nat.le_of_eq rfl) (by decide)
  refine Rch.st st1 ?_
  obtain ⟨fs, hr, hrun, hended, hW, hsame⟩ := X1.leave (v := none) (fun _ => rfl)
  refine Rch.fin (u := T1.setFrames fs) (X1.returnOut hx Bd.returns (hb hby d33_4) hr) ⟨_, hrun, hended, _, _, rfl, ?_, ⟨_, rfl⟩, hW, hsame.mono (by decide) (by decide)⟩
  show Q_cnumber Z a h0 n0 _ T1.heap _
  exact ⟨rfl, N0, e1⟩
theorem d32_0 : decode jdk_17_method_1_code 0 = .ok (.aload_n 0, 1) := by decide +kernel
theorem d32_1 : decode jdk_17_method_1_code 1 = .ok (.invokespecial 11, 3) := by decide +kernel
theorem pd_0 : parseMethodDescriptor "()V" = some ⟨[], none⟩ := by decide +kernel
theorem d32_4 : decode jdk_17_method_1_code 4 = .ok (.aload_n 0, 1) := by decide +kernel
theorem d32_5 : decode jdk_17_method_1_code 5 = .ok (.iload 4, 2) := by decide +kernel
theorem d32_7 : decode jdk_17_method_1_code 7 = .ok (.putfield 17, 3) := by decide +kernel
theorem d32_10 : decode jdk_17_method_1_code 10 = .ok (.aload_n 0, 1) := by decide +kernel
theorem d32_11 : decode jdk_17_method_1_code 11 = .ok (.iload 5, 2) := by decide +kernel
theorem d32_13 : decode jdk_17_method_1_code 13 = .ok (.putfield 21, 3) := by decide +kernel
theorem d32_16 : decode jdk_17_method_1_code 16 = .ok (.aload_n 0, 1) := by decide +kernel
theorem d32_17 : decode jdk_17_method_1_code 17 = .ok (.lload_n 2, 1) := by decide +kernel
theorem d32_18 : decode jdk_17_method_1_code 18 = .ok (.putfield 24, 3) := by decide +kernel
theorem d32_21 : decode jdk_17_method_1_code 21 = .ok (.aload_n 0, 1) := by decide +kernel
theorem d32_22 : decode jdk_17_method_1_code 22 = .ok (.aload_n 1, 1) := by decide +kernel
theorem d32_23 : decode jdk_17_method_1_code 23 = .ok (.putfield 28, 3) := by decide +kernel
theorem d32_26 : decode jdk_17_method_1_code 26 = .ok (.return_, 1) := by decide +kernel
def Q_cbdinit (Z : State) (a : Addr) (x : Int64) (sc : Int32) (pr : Int32) (h0 : Heap) (n0 : Nat) (v : Option Value) (h : Heap) (L : List Loc) : Prop := v = none ∧ Fr n0 L ∧ Keep h0 h [a] ∧ Old Z n0 h ∧ BDc Z h a x sc
theorem pn_java_math_BigDecimal : plainName "java/math/BigDecimal" = true := by first | (simp [plainName, overriddenIn]; done) | decide +kernel
theorem ef_cbdinit (m : MethodId) (a : Addr) (x : Int64) (sc : Int32) (pr : Int32) : entryFrame m #[(.ref a), .null, (.long x), (.int sc), (.int pr)] 6 = mkF m 0 #[.val (.ref a), .val .null, .val (.long x), .second, .val (.int sc), .val (.int pr)] [] := by first | (simp [entryFrame, mkF, argsToLocals, Value.category]; done) | rfl
set_option maxRecDepth 65536 in
set_option maxHeartbeats 40000000 in
theorem cbdinit (l : Launch) (Z : State) (a0 : Array Value) (hw : ∀ d ∈ tables_1, d.before a0 Z = true) (ws : List Jvm.Cond) (a : Addr) (x : Int64) (sc : Int32) (pr : Int32) (h0 : Heap) (n0 : Nat) (zP0 : Old Z n0 h0) (zP1 : Exa Z h0 a "java/math/BigDecimal") (zP2 : Fld Z h0 a "java/math/BigDecimal" "intCompact" "J" (.long (0 : Int64))) (zP3 : Fld Z h0 a "java/math/BigDecimal" "scale" "I" (.int (0 : Int32))) (zP4 : Fld Z h0 a "java/math/BigDecimal" "precision" "I" (.int (0 : Int32))) (zP5 : Fld Z h0 a "java/math/BigDecimal" "intVal" "Ljava/math/BigInteger;" .null) (zP6 : n0 ≤ a) :
    MetFree l (⟨"java/math/BigDecimal", "<init>", "(Ljava/math/BigInteger;JII)V"⟩ : MethodName) (head1 (Jvm.Cond.code (⟨"java/math/BigDecimal", "<init>", "(Ljava/math/BigInteger;JII)V"⟩ : MethodName) jdk_17_method_1_code 6 none :: ws) ({ frames := 2, cells := 0, slots := 0, locals := 24 } : Room)) (fun aA uU => aA = #[(.ref a), .null, (.long x), (.int sc), (.int pr)] ∧ Z.Warmed39 uU.vm ∧ uU.heap = h0) (fun _ _ _ _ _ => True) (fun _ uU oO uU' => ∃ vV lL, oO = .returned vV ∧ Q_cbdinit Z a x sc pr h0 n0 vV uU'.heap lL ∧ FrameEnd uU oO uU' lL ({ frames := 2, cells := 0, slots := 0, locals := 24 } : Room).cells ({ frames := 2, cells := 0, slots := 0, locals := 24 } : Room).slots) := by
  refine MetFree.of_bodySF (plainFor_of_name pn_java_math_BigDecimal) hisR ?_
  intro p e s m args below meth c s₁ Bd hml0 hP hK
  obtain ⟨rfl, hZ, hh⟩ := hP
  have hx := Bd.exec
  have hby := Bd.bytes
  have hml : c.maxLocals = 6 := hml0
  have hown : s.vm.findClass "java/math/BigDecimal" = some m.cls := findClass_of_methodNamed Bd.named
  have hnm := (name_of_methodNamed Bd.named Bd.method).1
  have X0 : Stand p l e ({ frames := 2, cells := 0, slots := 0, locals := 24 } : Room) s m #[(.ref a), .null, (.long x), (.int sc), (.int pr)] below meth c s₁ [] 0 0 := Stand.of_body Bd
  have e0 : s₁.heap = h0 := by rw [← hh, Bd.state]; rfl
  have N0 := Fr.nil n0
  refine Rch.out (Rch.st (fun t k => castTop (ef_cbdinit m a x sc pr) k) ?_)
  show Rch p.tables e below _ (s₁.setTop (mkF m 0 #[.val (.ref a), .val .null, .val (.long x), .second, .val (.int sc), .val (.int pr)] []))
  refine Rch.st (fun _ hr => XS.aloadN X0.here hx rfl (hb hby d32_0) rfl rfl hr) ?_
  obtain ⟨_, T1, Lc1, X1, hQ1, st1⟩ := own_callI X0 hx hZ (y := (⟨"java/lang/Number", "<init>", "()V"⟩ : MethodName)) rfl hown (own_w hw 204 rfl) (own_w hw 205 rfl) (own_w hw 208 rfl) (own_w hw 209 rfl) (by decide) (W := 0) (cnumber l Z a0 hw [] a h0 n0 ) (by decide) (by decide) e0 (by decide) (by decide) (g := (mkF m 1 #[.val (.ref a), .val .null, .val (.long x), .second, .val (.int sc), .val (.int pr)] [(.ref a)])) rfl (by rw [hml]; rfl) (a := a) (argsL := []) (rest := []) (lenOf pd_0 rfl) rfl (by show 2 * 0 + _ ≤ _; exact Nat.le_of_eq rfl) (hb hby d32_1) rfl
  obtain ⟨rfl, N1q, e1⟩ := hQ1
  have N1 := Fr.app N0 N1q
  refine Rch.st st1 ?_
  refine Rch.st (fun _ hr => XS.aloadN X1.here hx rfl (hb hby d32_4) rfl rfl hr) ?_
  refine Rch.st (fun _ hr => XS.iload X1.here hx rfl (hb hby d32_5) rfl hr) ?_
  show Rch p.tables e below _ (T1.setTop (mkF m 7 #[.val (.ref a), .val .null, .val (.long x), .second, .val (.int sc), .val (.int pr)] [(.int sc), (.ref a)]))
  obtain ⟨T2, h2, X2, e2, W2, st2⟩ := putF X1 hx hZ hown (host := "") (Or.inl (own_w hw 179 rfl)) Via.refl e1 zP3 zP1 (Or.inr ⟨(own_w hw 180 rfl), rfl, hnm⟩) (own_w hw 200 rfl) (ty := .int) (by decide) rfl rfl (g := (mkF m 7 #[.val (.ref a), .val .null, .val (.long x), .second, .val (.int sc), .val (.int pr)] [(.int sc), (.ref a)])) rfl rfl (hb hby d32_7)
  refine Rch.st st2 ?_
  have N2 := Fr.snoc X2 N1 zP6
  have K3 : Keep h0 h2 [a] := (Keep.refl h0 [a]).wr W2 (Or.inl (List.mem_of_getElem? (i := 0) rfl))
  have Fw2 := zP3.same W2
  refine Rch.st (fun _ hr => XS.aloadN X2.here hx rfl (hb hby d32_10) rfl rfl hr) ?_
  refine Rch.st (fun _ hr => XS.iload X2.here hx rfl (hb hby d32_11) rfl hr) ?_
  have f4 : Fld Z h2 a "java/math/BigDecimal" "precision" "I" (.int (0 : Int32)) := (zP4.other W2 (Or.inr (slot_ne (Or.inl (own_w hw 212 rfl)) (Or.inr (own_w hw 180 rfl)) (by decide) (t := .int) (t' := .int) (by decide) (by decide))))
  have f5 : Exa Z h2 a "java/math/BigDecimal" := (zP1.wr W2)
  obtain ⟨T6, h6, X6, e6, W6, st6⟩ := putF X2 hx hZ hown (host := "") (Or.inl (own_w hw 211 rfl)) Via.refl e2 f4 f5 (Or.inl (own_w hw 212 rfl)) (own_w hw 200 rfl) (ty := .int) (by decide) rfl rfl (g := (mkF m 13 #[.val (.ref a), .val .null, .val (.long x), .second, .val (.int sc), .val (.int pr)] [(.int pr), (.ref a)])) rfl rfl (hb hby d32_13)
  refine Rch.st st6 ?_
  have N6 := Fr.snoc X6 N2 zP6
  have f7 : Old Z n0 h2 := (zP0.wr W2 zP6)
  have K8 : Keep h0 h6 [a] := K3.wr W6 (Or.inl (List.mem_of_getElem? (i := 0) rfl))
  have Fw6 := f4.same W6
  show Rch p.tables e below _ (T6.setTop (mkF m 16 #[.val (.ref a), .val .null, .val (.long x), .second, .val (.int sc), .val (.int pr)] []))
  refine Rch.st (fun _ hr => XS.aloadN X6.here hx rfl (hb hby d32_16) rfl rfl hr) ?_
  refine Rch.st (fun _ hr => XS.lloadN X6.here hx rfl (hb hby d32_17) rfl hr) ?_
  have f9 : Fld Z h6 a "java/math/BigDecimal" "intCompact" "J" (.long (0 : Int64)) := ((zP2.other W2 (Or.inr (slot_ne (Or.inr (own_w hw 159 rfl)) (Or.inr (own_w hw 180 rfl)) (by decide) (t := .long) (t' := .int) (by decide) (by decide)))).other W6 (Or.inr (slot_ne (Or.inr (own_w hw 159 rfl)) (Or.inl (own_w hw 212 rfl)) (by decide) (t := .long) (t' := .int) (by decide) (by decide))))
  have f10 : Exa Z h6 a "java/math/BigDecimal" := (f5.wr W6)
  obtain ⟨T11, h11, X11, e11, W11, st11⟩ := putF X6 hx hZ hown (host := "") (Or.inl (own_w hw 158 rfl)) Via.refl e6 f9 f10 (Or.inr ⟨(own_w hw 159 rfl), rfl, hnm⟩) (own_w hw 200 rfl) (ty := .long) (by decide) rfl rfl (g := (mkF m 18 #[.val (.ref a), .val .null, .val (.long x), .second, .val (.int sc), .val (.int pr)] [(.long x), (.ref a)])) rfl rfl (hb hby d32_18)
  refine Rch.st st11 ?_
  have N11 := Fr.snoc X11 N6 zP6
  have f12 : Old Z n0 h6 := (f7.wr W6 zP6)
  have K13 : Keep h0 h11 [a] := K8.wr W11 (Or.inl (List.mem_of_getElem? (i := 0) rfl))
  have Fw11 := f9.same W11
  refine Rch.st (fun _ hr => XS.aloadN X11.here hx rfl (hb hby d32_21) rfl rfl hr) ?_
  show Rch p.tables e below _ (T11.setTop (mkF m 22 #[.val (.ref a), .val .null, .val (.long x), .second, .val (.int sc), .val (.int pr)] [(.ref a)]))
  refine Rch.st (fun _ hr => XS.aloadN X11.here hx rfl (hb hby d32_22) rfl rfl hr) ?_
  have f14 : Fld Z h11 a "java/math/BigDecimal" "intVal" "Ljava/math/BigInteger;" .null := (((zP5.other W2 (Or.inr (slot_ne (Or.inr (own_w hw 214 rfl)) (Or.inr (own_w hw 180 rfl)) (by decide) (t := (.object "java/math/BigInteger")) (t' := .int) (by decide) (by decide)))).other W6 (Or.inr (slot_ne (Or.inr (own_w hw 214 rfl)) (Or.inl (own_w hw 212 rfl)) (by decide) (t := (.object "java/math/BigInteger")) (t' := .int) (by decide) (by decide)))).other W11 (Or.inr (slot_ne (Or.inr (own_w hw 214 rfl)) (Or.inr (own_w hw 159 rfl)) (by decide) (t := (.object "java/math/BigInteger")) (t' := .long) (by decide) (by decide))))
  have f15 : Exa Z h11 a "java/math/BigDecimal" := (f10.wr W11)
  obtain ⟨T16, h16, X16, e16, W16, st16⟩ := putF X11 hx hZ hown (host := "") (Or.inl (own_w hw 213 rfl)) Via.refl e11 f14 f15 (Or.inr ⟨(own_w hw 214 rfl), rfl, hnm⟩) (own_w hw 200 rfl) (ty := (.object "java/math/BigInteger")) (by decide) rfl rfl (g := (mkF m 23 #[.val (.ref a), .val .null, .val (.long x), .second, .val (.int sc), .val (.int pr)] [.null, (.ref a)])) rfl rfl (hb hby d32_23)
  refine Rch.st st16 ?_
  have N16 := Fr.snoc X16 N11 zP6
  have f17 : Old Z n0 h11 := (f12.wr W11 zP6)
  have K18 : Keep h0 h16 [a] := K13.wr W16 (Or.inl (List.mem_of_getElem? (i := 0) rfl))
  have Fw16 := f14.same W16
  obtain ⟨fs, hr, hrun, hended, hW, hsame⟩ := X16.leave (v := none) (fun _ => rfl)
  have f19 : Old Z n0 h16 := (f17.wr W16 zP6)
  have f20 : Exa Z h16 a "java/math/BigDecimal" := (f15.wr W16)
  have f21 : Fld Z h16 a "java/math/BigDecimal" "intCompact" "J" (.long x) := (Fw11.other W16 (Or.inr (slot_ne (Or.inr (own_w hw 159 rfl)) (Or.inr (own_w hw 214 rfl)) (by decide) (t := .long) (t' := (.object "java/math/BigInteger")) (by decide) (by decide))))
  have f22 : Fld Z h16 a "java/math/BigDecimal" "scale" "I" (.int sc) := (((Fw2.other W6 (Or.inr (slot_ne (Or.inr (own_w hw 180 rfl)) (Or.inl (own_w hw 212 rfl)) (by decide) (t := .int) (t' := .int) (by decide) (by decide)))).other W11 (Or.inr (slot_ne (Or.inr (own_w hw 180 rfl)) (Or.inr (own_w hw 159 rfl)) (by decide) (t := .int) (t' := .long) (by decide) (by decide)))).other W16 (Or.inr (slot_ne (Or.inr (own_w hw 180 rfl)) (Or.inr (own_w hw 214 rfl)) (by decide) (t := .int) (t' := (.object "java/math/BigInteger")) (by decide) (by decide))))
  refine Rch.fin (u := T16.setFrames fs) (X16.returnOut hx Bd.returns (hb hby d32_26) hr) ⟨_, hrun, hended, _, _, rfl, ?_, ⟨_, rfl⟩, hW, hsame.mono (by decide) (by decide)⟩
  show Q_cbdinit Z a x sc pr h0 n0 _ T16.heap _
  rw [e16]
  exact ⟨rfl, N16, K18, f19, ⟨f20, f21, f22⟩⟩
theorem own_place (x : Int64) (h0 : ¬ x < (0 : Int64)) (h1 : x < ((11 : Int32).toInt64)) : (x.toInt32).toNatClampNeg = x.toInt.toNat ∧ x.toInt.toNat < 11 ∧ Int64.ofNat x.toInt.toNat = x := by
  rw [Int64.lt_iff_toInt_lt] at h0 h1
  have e0 : (0 : Int64).toInt = 0 := rfl
  have e1 : ((11 : Int32).toInt64).toInt = 11 := by decide
  rw [e0] at h0; rw [e1] at h1
  have h2 : x.toInt32.toInt = x.toInt := Jvm.Free.XT.narrowInt ⟨by omega, by omega⟩
  refine ⟨?_, by omega, ?_⟩
  · show x.toInt32.toInt.toNat = _
    rw [h2]
  · apply Int64.toInt_inj.mp
    rw [Int64.toInt_ofNat_of_lt (by omega)]
    omega
theorem own_place_nn (x : Int64) (h0 : ¬ x < (0 : Int64)) (h1 : x < ((11 : Int32).toInt64)) : ¬ (x.toInt32) < 0 := by
  rw [Int64.lt_iff_toInt_lt] at h0 h1
  have e0 : (0 : Int64).toInt = 0 := rfl
  have e1 : ((11 : Int32).toInt64).toInt = 11 := by decide
  rw [e0] at h0; rw [e1] at h1
  have h2 : x.toInt32.toInt = x.toInt := Jvm.Free.XT.narrowInt ⟨by omega, by omega⟩
  rw [Int32.lt_iff_toInt_lt, h2]
  have e2 : (0 : Int32).toInt = 0 := rfl
  omega
theorem d5_0 : decode jdk_17_method_21_code 0 = .ok (.lload_n 0, 1) := by decide +kernel
theorem d5_1 : decode jdk_17_method_21_code 1 = .ok (.lconst 0, 1) := by decide +kernel
theorem d5_2 : decode jdk_17_method_21_code 2 = .ok (.lcmp, 1) := by decide +kernel
theorem d5_3 : decode jdk_17_method_21_code 3 = .ok (.ifCond .lt 20, 3) := by decide +kernel
theorem d5_23 : decode jdk_17_method_21_code 23 = .ok (.lload_n 0, 1) := by decide +kernel
theorem d5_24 : decode jdk_17_method_21_code 24 = .ok (.ldc2_w 125, 3) := by decide +kernel
theorem d5_27 : decode jdk_17_method_21_code 27 = .ok (.lcmp, 1) := by decide +kernel
theorem d5_28 : decode jdk_17_method_21_code 28 = .ok (.ifCond .eq 15, 3) := by decide +kernel
theorem d5_31 : decode jdk_17_method_21_code 31 = .ok (.new 3, 3) := by decide +kernel
theorem d5_34 : decode jdk_17_method_21_code 34 = .ok (.dup, 1) := by decide +kernel
theorem d5_35 : decode jdk_17_method_21_code 35 = .ok (.aconst_null, 1) := by decide +kernel
theorem d5_36 : decode jdk_17_method_21_code 36 = .ok (.lload_n 0, 1) := by decide +kernel
theorem d5_37 : decode jdk_17_method_21_code 37 = .ok (.iconst 0, 1) := by decide +kernel
theorem d5_38 : decode jdk_17_method_21_code 38 = .ok (.iconst 0, 1) := by decide +kernel
theorem d5_39 : decode jdk_17_method_21_code 39 = .ok (.invokespecial 243, 3) := by decide +kernel
theorem pd_1 : parseMethodDescriptor "(Ljava/math/BigInteger;JII)V" = some ⟨[(.object "java/math/BigInteger"), .long, .int, .int], none⟩ := by decide +kernel
theorem d5_42 : decode jdk_17_method_21_code 42 = .ok (.areturn, 1) := by decide +kernel
theorem d5_6 : decode jdk_17_method_21_code 6 = .ok (.lload_n 0, 1) := by decide +kernel
theorem d5_7 : decode jdk_17_method_21_code 7 = .ok (.getstatic 246, 3) := by decide +kernel
theorem d5_10 : decode jdk_17_method_21_code 10 = .ok (.arraylength, 1) := by decide +kernel
theorem d5_11 : decode jdk_17_method_21_code 11 = .ok (.i2l, 1) := by decide +kernel
theorem d5_12 : decode jdk_17_method_21_code 12 = .ok (.lcmp, 1) := by decide +kernel
theorem d5_13 : decode jdk_17_method_21_code 13 = .ok (.ifCond .ge 10, 3) := by decide +kernel
theorem d5_16 : decode jdk_17_method_21_code 16 = .ok (.getstatic 246, 3) := by decide +kernel
theorem d5_19 : decode jdk_17_method_21_code 19 = .ok (.lload_n 0, 1) := by decide +kernel
theorem d5_20 : decode jdk_17_method_21_code 20 = .ok (.l2i, 1) := by decide +kernel
theorem d5_21 : decode jdk_17_method_21_code 21 = .ok (.aaload, 1) := by decide +kernel
theorem d5_22 : decode jdk_17_method_21_code 22 = .ok (.areturn, 1) := by decide +kernel
def Q_cvalueOf (Z : State) (x : Int64) (wz : Addr) (h0 : Heap) (n0 : Nat) (v : Option Value) (h : Heap) (L : List Loc) : Prop := ∃ (r : Addr), v = some (.ref r) ∧ Fr n0 L ∧ Keep h0 h [] ∧ Old Z n0 h ∧ BDc Z h r x (0 : Int32)
theorem ef_cvalueOf (m : MethodId) (x : Int64) (wz : Addr) : entryFrame m #[(.long x)] 2 = mkF m 0 #[.val (.long x), .second] [] := by first | (simp [entryFrame, mkF, argsToLocals, Value.category]; done) | rfl
set_option maxRecDepth 65536 in
set_option maxHeartbeats 40000000 in
theorem cvalueOf (l : Launch) (Z : State) (a0 : Array Value) (hw : ∀ d ∈ tables_1, d.before a0 Z = true) (ws : List Jvm.Cond) (x : Int64) (wz : Addr) (h0 : Heap) (n0 : Nat) (zD0 : Sta Z Z.heap "java/math/BigDecimal" "ZERO_THROUGH_TEN" "[Ljava/math/BigDecimal;" (.ref wz)) (zD1 : ZTab Z Z.heap wz) (zP0 : Old Z n0 h0) (hm : ¬ x = (-9223372036854775808 : Int64)) :
    MetFree l (⟨"java/math/BigDecimal", "valueOf", "(J)Ljava/math/BigDecimal;"⟩ : MethodName) (head1 (Jvm.Cond.code (⟨"java/math/BigDecimal", "valueOf", "(J)Ljava/math/BigDecimal;"⟩ : MethodName) jdk_17_method_21_code 2 (some (.object "java/math/BigDecimal")) :: ws) ({ frames := 3, cells := 1, slots := 5, locals := 42 } : Room)) (fun aA uU => aA = #[(.long x)] ∧ Z.Warmed39 uU.vm ∧ uU.heap = h0) (fun _ _ _ _ _ => True) (fun _ uU oO uU' => ∃ vV lL, oO = .returned vV ∧ Q_cvalueOf Z x wz h0 n0 vV uU'.heap lL ∧ FrameEnd uU oO uU' lL ({ frames := 3, cells := 1, slots := 5, locals := 42 } : Room).cells ({ frames := 3, cells := 1, slots := 5, locals := 42 } : Room).slots) := by
  refine MetFree.of_bodySF (plainFor_of_name pn_java_math_BigDecimal) hisR ?_
  intro p e s m args below meth c s₁ Bd hml0 hP hK
  obtain ⟨rfl, hZ, hh⟩ := hP
  have hx := Bd.exec
  have hby := Bd.bytes
  have hml : c.maxLocals = 2 := hml0
  have hown : s.vm.findClass "java/math/BigDecimal" = some m.cls := findClass_of_methodNamed Bd.named
  have hnm := (name_of_methodNamed Bd.named Bd.method).1
  have X0 : Stand p l e ({ frames := 3, cells := 1, slots := 5, locals := 42 } : Room) s m #[(.long x)] below meth c s₁ [] 0 0 := Stand.of_body Bd
  have e0 : s₁.heap = h0 := by rw [← hh, Bd.state]; rfl
  have N0 := Fr.nil n0
  refine Rch.out (Rch.st (fun t k => castTop (ef_cvalueOf m x wz) k) ?_)
  show Rch p.tables e below _ (s₁.setTop (mkF m 0 #[.val (.long x), .second] []))
  refine Rch.st (fun _ hr => XS.lloadN X0.here hx rfl (hb hby d5_0) rfl hr) ?_
  refine Rch.st (fun _ hr => XS.lconst X0.here hx rfl (hb hby d5_1) hr) ?_
  refine Rch.st (fun _ hr => XS.lcmp X0.here hx rfl (hb hby d5_2) rfl hr) ?_
  by_cases hc1 : x < (0 : Int64)
  · refine Rch.st (fun _ hr => XS.ifYes X0.here hx rfl (pc0 := 3) (pc' := 23) rfl (hb hby d5_3) rfl ((if0 _ _).trans (tlt ((lw_lt _ _).mpr hc1)).1) (by decide) (by decide) hr) ?_
    show Rch p.tables e below _ (s₁.setTop (mkF m 23 #[.val (.long x), .second] []))
    refine Rch.st (fun _ hr => XS.lloadN X0.here hx rfl (hb hby d5_23) rfl hr) ?_
    refine Rch.st (fun _ hr => Jvm.Stand.ldc2J (g := (mkF m 24 #[.val (.long x), .second] [(.long x)])) X0 hx hown (mvT hZ (own_w hw 160 rfl)) rfl (hb hby d5_24) hr) ?_
    refine Rch.st (fun _ hr => XS.lcmp X0.here hx rfl (hb hby d5_27) rfl hr) ?_
    refine Rch.st (fun _ hr => XS.ifNo X0.here hx rfl (hb hby d5_28) rfl ((if0 _ _).trans (feq (mt (lw_eq _ _).mp hm)).1) hr) ?_
    show Rch p.tables e below _ (s₁.setTop (mkF m 31 #[.val (.long x), .second] []))
    obtain ⟨T2, h2, X2, e2, E2, A2, D2, -, st2⟩ := newO X0 hx hZ hown (own_w hw 199 rfl) (own_w hw 200 rfl) (own_w hw 39 rfl) e0 (g := (mkF m 31 #[.val (.long x), .second] [])) rfl (hb hby d5_31) (by decide) (by decide)
    obtain ⟨b2, g2⟩ : ∃ z, z = h0.size := ⟨_, rfl⟩
    rw [← g2] at A2 D2 st2
    refine Rch.st st2 ?_
    have q2 : h0.size ≤ b2 := Nat.le_of_eq g2.symm
    have g_b2 : n0 ≤ b2 := Nat.le_trans (Nat.le_trans (Nat.le_of_eq zP0.1.symm) zP0.2.1) q2
    have sz_b2 : h0.size ≤ b2 := Nat.le_trans (Keep.refl h0 []).1 q2
    have K3 : Keep h0 h2 [] := (Keep.refl h0 []).ext E2
    have F2_intCompact : Fld Z h2 b2 "java/math/BigDecimal" "intCompact" "J" (.long (0 : Int64)) := D2 (Or.inr (own_w hw 159 rfl)) (ty := .long) (by decide)
    have F2_scale : Fld Z h2 b2 "java/math/BigDecimal" "scale" "I" (.int (0 : Int32)) := D2 (Or.inr (own_w hw 180 rfl)) (ty := .int) (by decide)
    have F2_precision : Fld Z h2 b2 "java/math/BigDecimal" "precision" "I" (.int (0 : Int32)) := D2 (Or.inl (own_w hw 212 rfl)) (ty := .int) (by decide)
    have F2_intVal : Fld Z h2 b2 "java/math/BigDecimal" "intVal" "Ljava/math/BigInteger;" .null := D2 (Or.inr (own_w hw 214 rfl)) (ty := (.object "java/math/BigInteger")) (by decide)
    refine Rch.st (fun _ hr => XS.dup X2.here hx rfl (hb hby d5_34) rfl rfl hr) ?_
    refine Rch.st (fun _ hr => XS.aconstNull X2.here hx rfl (hb hby d5_35) hr) ?_
    refine Rch.st (fun _ hr => XS.lloadN X2.here hx rfl (hb hby d5_36) rfl hr) ?_
    show Rch p.tables e below _ (T2.setTop (mkF m 37 #[.val (.long x), .second] [(.long x), .null, (.ref b2), (.ref b2)]))
    refine Rch.st (fun _ hr => XS.iconst X2.here hx rfl (hb hby d5_37) hr) ?_
    refine Rch.st (fun _ hr => XS.iconst X2.here hx rfl (hb hby d5_38) hr) ?_
    have f5 : Old Z n0 h2 := (zP0.ext E2)
    obtain ⟨_, T4, Lc4, X4, hQ4, st4⟩ := own_callI X2 hx hZ (y := (⟨"java/math/BigDecimal", "<init>", "(Ljava/math/BigInteger;JII)V"⟩ : MethodName)) rfl hown (own_w hw 201 rfl) (own_w hw 202 rfl) (own_w hw 39 rfl) (own_w hw 203 rfl) (by decide) (W := 1) (cbdinit l Z a0 hw [] b2 x (0 : Int32) (0 : Int32) h2 n0 f5 A2 F2_intCompact F2_scale F2_precision F2_intVal g_b2) (by decide) (by decide) e2 (by decide) (by decide) (g := (mkF m 39 #[.val (.long x), .second] [(.int (0 : Int32)), (.int (0 : Int32)), (.long x), .null, (.ref b2), (.ref b2)])) rfl (by rw [hml]; rfl) (a := b2) (argsL := [.null, (.long x), (.int (0 : Int32)), (.int (0 : Int32))]) (rest := [(.ref b2)]) (lenOf pd_1 rfl) rfl (by show 2 * 0 + _ ≤ _; exact Nat.le_of_eq rfl) (hb hby d5_39) rfl
    obtain ⟨rfl, N4q, Kp4, Op4, R4_0⟩ := hQ4
    have N4 := Fr.app N0 N4q
    refine Rch.st st4 ?_
    have K6 : Keep h0 T4.heap [] := K3.trans Kp4 (allS (Or.inr sz_b2) all0)
    obtain ⟨fs, hr, hrun, hended, hW, hsame⟩ := X4.leave (v := some (.ref b2)) (fun h => by rw [Bd.returns] at h; cases h)
    refine Rch.fin (u := T4.setFrames fs) (own_retA X4 hx Bd.returns rfl rfl rfl (hb hby d5_42) hr) ⟨_, hrun, hended, _, _, rfl, ?_, ⟨_, rfl⟩, hW, hsame.mono (by decide) (by decide)⟩
    show Q_cvalueOf Z x wz h0 n0 _ T4.heap _
    exact ⟨b2, rfl, N4, K6, Op4, R4_0⟩
  · refine Rch.st (fun _ hr => XS.ifNo X0.here hx rfl (hb hby d5_3) rfl ((if0 _ _).trans (flt (mt (lw_lt _ _).mp hc1)).1) hr) ?_
    show Rch p.tables e below _ (s₁.setTop (mkF m 6 #[.val (.long x), .second] []))
    refine Rch.st (fun _ hr => XS.lloadN X0.here hx rfl (hb hby d5_6) rfl hr) ?_
    obtain ⟨T7, X7, e7, st7⟩ := getS2 X0 hx hZ hown (host := "") (Or.inl (own_w hw 41 rfl)) Via.refl e0 (zD0.ext zP0.2) (g := (mkF m 7 #[.val (.long x), .second] [(.long x)])) rfl (hb hby d5_7)
    refine Rch.st st7 ?_
    obtain ⟨cl8, Ar8, Sz8, -⟩ := zD1.ext zP0.2
    refine Rch.st (fun t hr => X7.arraylength hx (by rw [e7]; exact Ar8.1) (State.isArrayOf_alike hZ.alike Ar8.2.1) (g := (mkF m 10 #[.val (.long x), .second] [(.ref wz), (.long x)])) rfl rfl (hb hby d5_10) t hr) ?_
    rw [len_of Sz8 (by decide)]
    refine Rch.st (fun _ hr => XS.i2l X7.here hx rfl (hb hby d5_11) rfl hr) ?_
    show Rch p.tables e below _ (T7.setTop (mkF m 12 #[.val (.long x), .second] [(.long ((11 : Int32).toInt64)), (.long x)]))
    refine Rch.st (fun _ hr => XS.lcmp X7.here hx rfl (hb hby d5_12) rfl hr) ?_
    by_cases hc9 : x < ((11 : Int32).toInt64)
    · refine Rch.st (fun _ hr => XS.ifNo X7.here hx rfl (hb hby d5_13) rfl ((if0 _ _).trans (tlt ((lw_lt _ _).mpr hc9)).2.1) hr) ?_
      obtain ⟨T10, X10, e10, st10⟩ := getS2 X7 hx hZ hown (host := "") (Or.inl (own_w hw 41 rfl)) Via.refl e7 (zD0.ext zP0.2) (g := (mkF m 16 #[.val (.long x), .second] [])) rfl (hb hby d5_16)
      refine Rch.st st10 ?_
      refine Rch.st (fun _ hr => XS.lloadN X10.here hx rfl (hb hby d5_19) rfl hr) ?_
      show Rch p.tables e below _ (T10.setTop (mkF m 20 #[.val (.long x), .second] [(.long x), (.ref wz)]))
      refine Rch.st (fun _ hr => XS.l2i X10.here hx rfl (hb hby d5_20) rfl hr) ?_
      obtain ⟨cl11, Ar11, Sz11, Hk11⟩ := zD1.ext zP0.2
      have hi11 := own_place x hc1 hc9
      obtain ⟨z11, hz11, Bz11⟩ := Hk11 _ hi11.2.1
      rw [← hi11.1] at hz11
      rw [hi11.2.2] at Bz11
      have hin11 : ¬ ((x.toInt32) < 0 ∨ cl11.slots.size ≤ ((x.toInt32)).toNatClampNeg) := fun q => q.elim (own_place_nn x hc1 hc9) (fun q => by rw [Sz11, hi11.1] at q; exact Nat.not_lt.mpr q hi11.2.1)
      refine Rch.st (fun t hr => X10.aaload hx (j := (x.toInt32)) (v := (.ref z11)) (by rw [e10]; exact Ar11.1) (State.isArrayOf_alike hZ.alike Ar11.2.1) rfl Ar11.2.2 hin11 hz11 (g := (mkF m 21 #[.val (.long x), .second] [(.int (x.toInt32)), (.ref wz)])) rfl rfl (hb hby d5_21) t hr) ?_
      obtain ⟨fs, hr, hrun, hended, hW, hsame⟩ := X10.leave (v := some (.ref z11)) (fun h => by rw [Bd.returns] at h; cases h)
      refine Rch.fin (u := T10.setFrames fs) (own_retA X10 hx Bd.returns rfl rfl rfl (hb hby d5_22) hr) ⟨_, hrun, hended, _, _, rfl, ?_, ⟨_, rfl⟩, hW, hsame.mono (by decide) (by decide)⟩
      show Q_cvalueOf Z x wz h0 n0 _ T10.heap _
      rw [e10]
      exact ⟨z11, rfl, N0, (Keep.refl h0 []), zP0, Bz11⟩
    · refine Rch.st (fun _ hr => XS.ifYes X7.here hx rfl (pc0 := 13) (pc' := 23) rfl (hb hby d5_13) rfl ((if0 _ _).trans (flt (mt (lw_lt _ _).mp hc9)).2.1) (by decide) (by decide) hr) ?_
      refine Rch.st (fun _ hr => XS.lloadN X7.here hx rfl (hb hby d5_23) rfl hr) ?_
      refine Rch.st (fun _ hr => Jvm.Stand.ldc2J (g := (mkF m 24 #[.val (.long x), .second] [(.long x)])) X7 hx hown (mvT hZ (own_w hw 160 rfl)) rfl (hb hby d5_24) hr) ?_
      show Rch p.tables e below _ (T7.setTop (mkF m 27 #[.val (.long x), .second] [(.long (-9223372036854775808 : Int64)), (.long x)]))
      refine Rch.st (fun _ hr => XS.lcmp X7.here hx rfl (hb hby d5_27) rfl hr) ?_
      refine Rch.st (fun _ hr => XS.ifNo X7.here hx rfl (hb hby d5_28) rfl ((if0 _ _).trans (feq (mt (lw_eq _ _).mp hm)).1) hr) ?_
      obtain ⟨T12, h12, X12, e12, E12, A12, D12, -, st12⟩ := newO X7 hx hZ hown (own_w hw 199 rfl) (own_w hw 200 rfl) (own_w hw 39 rfl) e7 (g := (mkF m 31 #[.val (.long x), .second] [])) rfl (hb hby d5_31) (by decide) (by decide)
      obtain ⟨b12, g12⟩ : ∃ z, z = h0.size := ⟨_, rfl⟩
      rw [← g12] at A12 D12 st12
      refine Rch.st st12 ?_
      have q12 : h0.size ≤ b12 := Nat.le_of_eq g12.symm
      have g_b12 : n0 ≤ b12 := Nat.le_trans (Nat.le_trans (Nat.le_of_eq zP0.1.symm) zP0.2.1) q12
      have sz_b12 : h0.size ≤ b12 := Nat.le_trans (Keep.refl h0 []).1 q12
      have K13 : Keep h0 h12 [] := (Keep.refl h0 []).ext E12
      have F12_intCompact : Fld Z h12 b12 "java/math/BigDecimal" "intCompact" "J" (.long (0 : Int64)) := D12 (Or.inr (own_w hw 159 rfl)) (ty := .long) (by decide)
      have F12_scale : Fld Z h12 b12 "java/math/BigDecimal" "scale" "I" (.int (0 : Int32)) := D12 (Or.inr (own_w hw 180 rfl)) (ty := .int) (by decide)
      have F12_precision : Fld Z h12 b12 "java/math/BigDecimal" "precision" "I" (.int (0 : Int32)) := D12 (Or.inl (own_w hw 212 rfl)) (ty := .int) (by decide)
      have F12_intVal : Fld Z h12 b12 "java/math/BigDecimal" "intVal" "Ljava/math/BigInteger;" .null := D12 (Or.inr (own_w hw 214 rfl)) (ty := (.object "java/math/BigInteger")) (by decide)
      refine Rch.st (fun _ hr => XS.dup X12.here hx rfl (hb hby d5_34) rfl rfl hr) ?_
      show Rch p.tables e below _ (T12.setTop (mkF m 35 #[.val (.long x), .second] [(.ref b12), (.ref b12)]))
      refine Rch.st (fun _ hr => XS.aconstNull X12.here hx rfl (hb hby d5_35) hr) ?_
      refine Rch.st (fun _ hr => XS.lloadN X12.here hx rfl (hb hby d5_36) rfl hr) ?_
      refine Rch.st (fun _ hr => XS.iconst X12.here hx rfl (hb hby d5_37) hr) ?_
      refine Rch.st (fun _ hr => XS.iconst X12.here hx rfl (hb hby d5_38) hr) ?_
      show Rch p.tables e below _ (T12.setTop (mkF m 39 #[.val (.long x), .second] [(.int (0 : Int32)), (.int (0 : Int32)), (.long x), .null, (.ref b12), (.ref b12)]))
      have f15 : Old Z n0 h12 := (zP0.ext E12)
      obtain ⟨_, T14, Lc14, X14, hQ14, st14⟩ := own_callI X12 hx hZ (y := (⟨"java/math/BigDecimal", "<init>", "(Ljava/math/BigInteger;JII)V"⟩ : MethodName)) rfl hown (own_w hw 201 rfl) (own_w hw 202 rfl) (own_w hw 39 rfl) (own_w hw 203 rfl) (by decide) (W := 1) (cbdinit l Z a0 hw [] b12 x (0 : Int32) (0 : Int32) h12 n0 f15 A12 F12_intCompact F12_scale F12_precision F12_intVal g_b12) (by decide) (by decide) e12 (by decide) (by decide) (g := (mkF m 39 #[.val (.long x), .second] [(.int (0 : Int32)), (.int (0 : Int32)), (.long x), .null, (.ref b12), (.ref b12)])) rfl (by rw [hml]; rfl) (a := b12) (argsL := [.null, (.long x), (.int (0 : Int32)), (.int (0 : Int32))]) (rest := [(.ref b12)]) (lenOf pd_1 rfl) rfl (by show 2 * 0 + _ ≤ _; exact Nat.le_of_eq rfl) (hb hby d5_39) rfl
      obtain ⟨rfl, N14q, Kp14, Op14, R14_0⟩ := hQ14
      have N14 := Fr.app N0 N14q
      refine Rch.st st14 ?_
      have K16 : Keep h0 T14.heap [] := K13.trans Kp14 (allS (Or.inr sz_b12) all0)
      obtain ⟨fs, hr, hrun, hended, hW, hsame⟩ := X14.leave (v := some (.ref b12)) (fun h => by rw [Bd.returns] at h; cases h)
      refine Rch.fin (u := T14.setFrames fs) (own_retA X14 hx Bd.returns rfl rfl rfl (hb hby d5_42) hr) ⟨_, hrun, hended, _, _, rfl, ?_, ⟨_, rfl⟩, hW, hsame.mono (by decide) (by decide)⟩
      show Q_cvalueOf Z x wz h0 n0 _ T14.heap _
      exact ⟨b12, rfl, N14, K16, Op14, R14_0⟩
theorem d30_0 : decode jdk_17_method_20_code 0 = .ok (.iload_n 2, 1) := by decide +kernel
theorem d30_1 : decode jdk_17_method_20_code 1 = .ok (.ifCond .ne 8, 3) := by decide +kernel
theorem d30_4 : decode jdk_17_method_20_code 4 = .ok (.lload_n 0, 1) := by decide +kernel
theorem d30_5 : decode jdk_17_method_20_code 5 = .ok (.invokestatic 236, 3) := by decide +kernel
theorem pd_2 : parseMethodDescriptor "(J)Ljava/math/BigDecimal;" = some ⟨[.long], some (.object "java/math/BigDecimal")⟩ := by decide +kernel
theorem d30_8 : decode jdk_17_method_20_code 8 = .ok (.areturn, 1) := by decide +kernel
def Q_cvalueOf0 (Z : State) (x : Int64) (wz : Addr) (h0 : Heap) (n0 : Nat) (v : Option Value) (h : Heap) (L : List Loc) : Prop := ∃ (r : Addr), v = some (.ref r) ∧ Fr n0 L ∧ Keep h0 h [] ∧ Old Z n0 h ∧ BDc Z h r x (0 : Int32)
theorem ef_cvalueOf0 (m : MethodId) (x : Int64) (wz : Addr) : entryFrame m #[(.long x), (.int (0 : Int32))] 3 = mkF m 0 #[.val (.long x), .second, .val (.int (0 : Int32))] [] := by first | (simp [entryFrame, mkF, argsToLocals, Value.category]; done) | rfl
set_option maxRecDepth 65536 in
set_option maxHeartbeats 40000000 in
theorem cvalueOf0 (l : Launch) (Z : State) (a0 : Array Value) (hw : ∀ d ∈ tables_1, d.before a0 Z = true) (ws : List Jvm.Cond) (x : Int64) (wz : Addr) (h0 : Heap) (n0 : Nat) (zD0 : Sta Z Z.heap "java/math/BigDecimal" "ZERO_THROUGH_TEN" "[Ljava/math/BigDecimal;" (.ref wz)) (zD1 : ZTab Z Z.heap wz) (zP0 : Old Z n0 h0) (hm : ¬ x = (-9223372036854775808 : Int64)) :
    MetFree l (⟨"java/math/BigDecimal", "valueOf", "(JI)Ljava/math/BigDecimal;"⟩ : MethodName) (head1 (Jvm.Cond.code (⟨"java/math/BigDecimal", "valueOf", "(JI)Ljava/math/BigDecimal;"⟩ : MethodName) jdk_17_method_20_code 3 (some (.object "java/math/BigDecimal")) :: ws) ({ frames := 4, cells := 1, slots := 5, locals := 55 } : Room)) (fun aA uU => aA = #[(.long x), (.int (0 : Int32))] ∧ Z.Warmed39 uU.vm ∧ uU.heap = h0) (fun _ _ _ _ _ => True) (fun _ uU oO uU' => ∃ vV lL, oO = .returned vV ∧ Q_cvalueOf0 Z x wz h0 n0 vV uU'.heap lL ∧ FrameEnd uU oO uU' lL ({ frames := 4, cells := 1, slots := 5, locals := 55 } : Room).cells ({ frames := 4, cells := 1, slots := 5, locals := 55 } : Room).slots) := by
  refine MetFree.of_bodySF (plainFor_of_name pn_java_math_BigDecimal) hisR ?_
  intro p e s m args below meth c s₁ Bd hml0 hP hK
  obtain ⟨rfl, hZ, hh⟩ := hP
  have hx := Bd.exec
  have hby := Bd.bytes
  have hml : c.maxLocals = 3 := hml0
  have hown : s.vm.findClass "java/math/BigDecimal" = some m.cls := findClass_of_methodNamed Bd.named
  have hnm := (name_of_methodNamed Bd.named Bd.method).1
  have X0 : Stand p l e ({ frames := 4, cells := 1, slots := 5, locals := 55 } : Room) s m #[(.long x), (.int (0 : Int32))] below meth c s₁ [] 0 0 := Stand.of_body Bd
  have e0 : s₁.heap = h0 := by rw [← hh, Bd.state]; rfl
  have N0 := Fr.nil n0
  refine Rch.out (Rch.st (fun t k => castTop (ef_cvalueOf0 m x wz) k) ?_)
  show Rch p.tables e below _ (s₁.setTop (mkF m 0 #[.val (.long x), .second, .val (.int (0 : Int32))] []))
  refine Rch.st (fun _ hr => XS.iloadN X0.here hx rfl (hb hby d30_0) rfl hr) ?_
  refine Rch.st (fun _ hr => XS.ifNo X0.here hx rfl (hb hby d30_1) rfl ((if0 _ _).trans (teq (by decide : (0 : Int32) = (0 : Int32))).2) hr) ?_
  refine Rch.st (fun _ hr => XS.lloadN X0.here hx rfl (hb hby d30_4) rfl hr) ?_
  obtain ⟨_, T1, Lc1, X1, hQ1, st1⟩ := own_callS X0 hx hZ (y := (⟨"java/math/BigDecimal", "valueOf", "(J)Ljava/math/BigDecimal;"⟩ : MethodName)) hown (own_w hw 193 rfl) (own_w hw 38 rfl) (own_w hw 39 rfl) (own_w hw 40 rfl) (by decide) (W := 0) (cvalueOf l Z a0 hw [] x wz h0 n0 zD0 zD1 zP0 hm) (by decide) (by decide) e0 (by decide) (by decide) (g := (mkF m 5 #[.val (.long x), .second, .val (.int (0 : Int32))] [(.long x)])) rfl (by rw [hml]; rfl) (argsL := [(.long x)]) (rest := []) (lenOf pd_2 rfl) rfl (by show 2 * 0 + _ ≤ _; exact Nat.le_of_eq rfl) (hb hby d30_5) rfl
  obtain ⟨r_1, rfl, N1q, Kp1, Op1, R1_0⟩ := hQ1
  have N1 := Fr.app N0 N1q
  refine Rch.st st1 ?_
  have K2 : Keep h0 T1.heap [] := (Keep.refl h0 []).trans Kp1 all0
  show Rch p.tables e below _ (T1.setTop (mkF m 8 #[.val (.long x), .second, .val (.int (0 : Int32))] [(.ref r_1)]))
  obtain ⟨fs, hr, hrun, hended, hW, hsame⟩ := X1.leave (v := some (.ref r_1)) (fun h => by rw [Bd.returns] at h; cases h)
  refine Rch.fin (u := T1.setFrames fs) (own_retA X1 hx Bd.returns rfl rfl rfl (hb hby d30_8) hr) ⟨_, hrun, hended, _, _, rfl, ?_, ⟨_, rfl⟩, hW, hsame.mono (by decide) (by decide)⟩
  show Q_cvalueOf0 Z x wz h0 n0 _ T1.heap _
  exact ⟨r_1, rfl, N1, K2, Op1, R1_0⟩
theorem d29_0 : decode jdk_17_method_132_code 0 = .ok (.lload_n 0, 1) := by decide +kernel
theorem d29_1 : decode jdk_17_method_132_code 1 = .ok (.lload_n 2, 1) := by decide +kernel
theorem d29_2 : decode jdk_17_method_132_code 2 = .ok (.ladd, 1) := by decide +kernel
theorem d29_3 : decode jdk_17_method_132_code 3 = .ok (.lstore 4, 2) := by decide +kernel
theorem d29_5 : decode jdk_17_method_132_code 5 = .ok (.lload 4, 2) := by decide +kernel
theorem d29_7 : decode jdk_17_method_132_code 7 = .ok (.lload_n 0, 1) := by decide +kernel
theorem d29_8 : decode jdk_17_method_132_code 8 = .ok (.lxor, 1) := by decide +kernel
theorem d29_9 : decode jdk_17_method_132_code 9 = .ok (.lload 4, 2) := by decide +kernel
theorem d29_11 : decode jdk_17_method_132_code 11 = .ok (.lload_n 2, 1) := by decide +kernel
theorem d29_12 : decode jdk_17_method_132_code 12 = .ok (.lxor, 1) := by decide +kernel
theorem d29_13 : decode jdk_17_method_132_code 13 = .ok (.land, 1) := by decide +kernel
theorem d29_14 : decode jdk_17_method_132_code 14 = .ok (.lconst 0, 1) := by decide +kernel
theorem d29_15 : decode jdk_17_method_132_code 15 = .ok (.lcmp, 1) := by decide +kernel
theorem d29_16 : decode jdk_17_method_132_code 16 = .ok (.ifCond .lt 6, 3) := by decide +kernel
theorem d29_19 : decode jdk_17_method_132_code 19 = .ok (.lload 4, 2) := by decide +kernel
theorem d29_21 : decode jdk_17_method_132_code 21 = .ok (.lreturn, 1) := by decide +kernel
def Q_caddJJ (Z : State) (x : Int64) (y : Int64) (h0 : Heap) (n0 : Nat) (v : Option Value) (h : Heap) (L : List Loc) : Prop := v = some (.long (x + y)) ∧ Fr n0 L ∧ h = h0
theorem ef_caddJJ (m : MethodId) (x : Int64) (y : Int64) : entryFrame m #[(.long x), (.long y)] 6 = mkF m 0 #[.val (.long x), .second, .val (.long y), .second, .unset, .unset] [] := by first | (simp [entryFrame, mkF, argsToLocals, Value.category]; done) | rfl
set_option maxRecDepth 65536 in
set_option maxHeartbeats 40000000 in
theorem caddJJ (l : Launch) (Z : State) (a0 : Array Value) (hw : ∀ d ∈ tables_1, d.before a0 Z = true) (ws : List Jvm.Cond) (x : Int64) (y : Int64) (h0 : Heap) (n0 : Nat) (hf : ¬ (((x + y) ^^^ x) &&& ((x + y) ^^^ y)) < (0 : Int64)) :
    MetFree l (⟨"java/math/BigDecimal", "add", "(JJ)J"⟩ : MethodName) (head1 (Jvm.Cond.code (⟨"java/math/BigDecimal", "add", "(JJ)J"⟩ : MethodName) jdk_17_method_132_code 6 (some .long) :: ws) ({ frames := 0, cells := 0, slots := 0, locals := 0 } : Room)) (fun aA uU => aA = #[(.long x), (.long y)] ∧ Z.Warmed39 uU.vm ∧ uU.heap = h0) (fun _ _ _ _ _ => True) (fun _ uU oO uU' => ∃ vV lL, oO = .returned vV ∧ Q_caddJJ Z x y h0 n0 vV uU'.heap lL ∧ FrameEnd uU oO uU' lL ({ frames := 0, cells := 0, slots := 0, locals := 0 } : Room).cells ({ frames := 0, cells := 0, slots := 0, locals := 0 } : Room).slots) := by
  refine MetFree.of_bodySF (plainFor_of_name pn_java_math_BigDecimal) hisR ?_
  intro p e s m args below meth c s₁ Bd hml0 hP hK
  obtain ⟨rfl, hZ, hh⟩ := hP
  have hx := Bd.exec
  have hby := Bd.bytes
  have hml : c.maxLocals = 6 := hml0
  have hown : s.vm.findClass "java/math/BigDecimal" = some m.cls := findClass_of_methodNamed Bd.named
  have hnm := (name_of_methodNamed Bd.named Bd.method).1
  have X0 : Stand p l e ({ frames := 0, cells := 0, slots := 0, locals := 0 } : Room) s m #[(.long x), (.long y)] below meth c s₁ [] 0 0 := Stand.of_body Bd
  have e0 : s₁.heap = h0 := by rw [← hh, Bd.state]; rfl
  have N0 := Fr.nil n0
  refine Rch.out (Rch.st (fun t k => castTop (ef_caddJJ m x y) k) ?_)
  show Rch p.tables e below _ (s₁.setTop (mkF m 0 #[.val (.long x), .second, .val (.long y), .second, .unset, .unset] []))
  refine Rch.st (fun _ hr => XS.lloadN X0.here hx rfl (hb hby d29_0) rfl hr) ?_
  refine Rch.st (fun _ hr => XS.lloadN X0.here hx rfl (hb hby d29_1) rfl hr) ?_
  refine Rch.st (fun _ hr => XS.ladd X0.here hx rfl (hb hby d29_2) rfl hr) ?_
  refine Rch.st (fun _ hr => XS.lstore X0.here hx rfl (hb hby d29_3) rfl (l' := #[.val (.long x), .second, .val (.long y), .second, .val (.long (x + y)), .second]) rfl hr) ?_
  show Rch p.tables e below _ (s₁.setTop (mkF m 5 #[.val (.long x), .second, .val (.long y), .second, .val (.long (x + y)), .second] []))
  refine Rch.st (fun _ hr => XS.lload X0.here hx rfl (hb hby d29_5) rfl hr) ?_
  refine Rch.st (fun _ hr => XS.lloadN X0.here hx rfl (hb hby d29_7) rfl hr) ?_
  refine Rch.st (fun _ hr => XS.lxor X0.here hx rfl (hb hby d29_8) rfl hr) ?_
  refine Rch.st (fun _ hr => XS.lload X0.here hx rfl (hb hby d29_9) rfl hr) ?_
  show Rch p.tables e below _ (s₁.setTop (mkF m 11 #[.val (.long x), .second, .val (.long y), .second, .val (.long (x + y)), .second] [(.long (x + y)), (.long ((x + y) ^^^ x))]))
  refine Rch.st (fun _ hr => XS.lloadN X0.here hx rfl (hb hby d29_11) rfl hr) ?_
  refine Rch.st (fun _ hr => XS.lxor X0.here hx rfl (hb hby d29_12) rfl hr) ?_
  refine Rch.st (fun _ hr => XS.land X0.here hx rfl (hb hby d29_13) rfl hr) ?_
  refine Rch.st (fun _ hr => XS.lconst X0.here hx rfl (hb hby d29_14) hr) ?_
  show Rch p.tables e below _ (s₁.setTop (mkF m 15 #[.val (.long x), .second, .val (.long y), .second, .val (.long (x + y)), .second] [(.long (0 : Int64)), (.long (((x + y) ^^^ x) &&& ((x + y) ^^^ y)))]))
  refine Rch.st (fun _ hr => XS.lcmp X0.here hx rfl (hb hby d29_15) rfl hr) ?_
  refine Rch.st (fun _ hr => XS.ifNo X0.here hx rfl (hb hby d29_16) rfl ((if0 _ _).trans (flt (mt (lw_lt _ _).mp hf)).1) hr) ?_
  refine Rch.st (fun _ hr => XS.lload X0.here hx rfl (hb hby d29_19) rfl hr) ?_
  obtain ⟨fs, hr, hrun, hended, hW, hsame⟩ := X0.leave (v := some (.long (x + y))) (fun h => by rw [Bd.returns] at h; cases h)
  refine Rch.fin (u := s₁.setFrames fs) (own_retJ X0 hx Bd.returns (hb hby d29_21) hr) ⟨_, hrun, hended, _, _, rfl, ?_, ⟨_, rfl⟩, hW, hsame.mono (by decide) (by decide)⟩
  show Q_caddJJ Z x y h0 n0 _ s₁.heap _
  exact ⟨rfl, N0, e0⟩
theorem d28_0 : decode jdk_17_method_133_code 0 = .ok (.lload_n 0, 1) := by decide +kernel
theorem d28_1 : decode jdk_17_method_133_code 1 = .ok (.lload_n 2, 1) := by decide +kernel
theorem d28_2 : decode jdk_17_method_133_code 2 = .ok (.invokestatic 996, 3) := by decide +kernel
theorem pd_3 : parseMethodDescriptor "(JJ)J" = some ⟨[.long, .long], some .long⟩ := by decide +kernel
theorem d28_5 : decode jdk_17_method_133_code 5 = .ok (.lstore 5, 2) := by decide +kernel
theorem d28_7 : decode jdk_17_method_133_code 7 = .ok (.lload 5, 2) := by decide +kernel
theorem d28_9 : decode jdk_17_method_133_code 9 = .ok (.ldc2_w 125, 3) := by decide +kernel
theorem d28_12 : decode jdk_17_method_133_code 12 = .ok (.lcmp, 1) := by decide +kernel
theorem d28_13 : decode jdk_17_method_133_code 13 = .ok (.ifCond .eq 11, 3) := by decide +kernel
theorem d28_16 : decode jdk_17_method_133_code 16 = .ok (.lload 5, 2) := by decide +kernel
theorem d28_18 : decode jdk_17_method_133_code 18 = .ok (.iload 4, 2) := by decide +kernel
theorem d28_20 : decode jdk_17_method_133_code 20 = .ok (.invokestatic 328, 3) := by decide +kernel
theorem pd_4 : parseMethodDescriptor "(JI)Ljava/math/BigDecimal;" = some ⟨[.long, .int], some (.object "java/math/BigDecimal")⟩ := by decide +kernel
theorem d28_23 : decode jdk_17_method_133_code 23 = .ok (.areturn, 1) := by decide +kernel
def Q_caddJJI (Z : State) (x : Int64) (y : Int64) (wz : Addr) (h0 : Heap) (n0 : Nat) (v : Option Value) (h : Heap) (L : List Loc) : Prop := ∃ (r : Addr), v = some (.ref r) ∧ Fr n0 L ∧ Keep h0 h [] ∧ Old Z n0 h ∧ BDc Z h r (x + y) (0 : Int32)
theorem ef_caddJJI (m : MethodId) (x : Int64) (y : Int64) (wz : Addr) : entryFrame m #[(.long x), (.long y), (.int (0 : Int32))] 7 = mkF m 0 #[.val (.long x), .second, .val (.long y), .second, .val (.int (0 : Int32)), .unset, .unset] [] := by first | (simp [entryFrame, mkF, argsToLocals, Value.category]; done) | rfl
set_option maxRecDepth 65536 in
set_option maxHeartbeats 40000000 in
theorem caddJJI (l : Launch) (Z : State) (a0 : Array Value) (hw : ∀ d ∈ tables_1, d.before a0 Z = true) (ws : List Jvm.Cond) (x : Int64) (y : Int64) (wz : Addr) (h0 : Heap) (n0 : Nat) (zD0 : Sta Z Z.heap "java/math/BigDecimal" "ZERO_THROUGH_TEN" "[Ljava/math/BigDecimal;" (.ref wz)) (zD1 : ZTab Z Z.heap wz) (zP0 : Old Z n0 h0) (hf : ¬ (((x + y) ^^^ x) &&& ((x + y) ^^^ y)) < (0 : Int64)) (hm : ¬ (x + y) = (-9223372036854775808 : Int64)) :
    MetFree l (⟨"java/math/BigDecimal", "add", "(JJI)Ljava/math/BigDecimal;"⟩ : MethodName) (head1 (Jvm.Cond.code (⟨"java/math/BigDecimal", "add", "(JJI)Ljava/math/BigDecimal;"⟩ : MethodName) jdk_17_method_133_code 7 (some (.object "java/math/BigDecimal")) :: ws) ({ frames := 5, cells := 1, slots := 5, locals := 69 } : Room)) (fun aA uU => aA = #[(.long x), (.long y), (.int (0 : Int32))] ∧ Z.Warmed39 uU.vm ∧ uU.heap = h0) (fun _ _ _ _ _ => True) (fun _ uU oO uU' => ∃ vV lL, oO = .returned vV ∧ Q_caddJJI Z x y wz h0 n0 vV uU'.heap lL ∧ FrameEnd uU oO uU' lL ({ frames := 5, cells := 1, slots := 5, locals := 69 } : Room).cells ({ frames := 5, cells := 1, slots := 5, locals := 69 } : Room).slots) := by
  refine MetFree.of_bodySF (plainFor_of_name pn_java_math_BigDecimal) hisR ?_
  intro p e s m args below meth c s₁ Bd hml0 hP hK
  obtain ⟨rfl, hZ, hh⟩ := hP
  have hx := Bd.exec
  have hby := Bd.bytes
  have hml : c.maxLocals = 7 := hml0
  have hown : s.vm.findClass "java/math/BigDecimal" = some m.cls := findClass_of_methodNamed Bd.named
  have hnm := (name_of_methodNamed Bd.named Bd.method).1
  have X0 : Stand p l e ({ frames := 5, cells := 1, slots := 5, locals := 69 } : Room) s m #[(.long x), (.long y), (.int (0 : Int32))] below meth c s₁ [] 0 0 := Stand.of_body Bd
  have e0 : s₁.heap = h0 := by rw [← hh, Bd.state]; rfl
  have N0 := Fr.nil n0
  refine Rch.out (Rch.st (fun t k => castTop (ef_caddJJI m x y wz) k) ?_)
  show Rch p.tables e below _ (s₁.setTop (mkF m 0 #[.val (.long x), .second, .val (.long y), .second, .val (.int (0 : Int32)), .unset, .unset] []))
  refine Rch.st (fun _ hr => XS.lloadN X0.here hx rfl (hb hby d28_0) rfl hr) ?_
  refine Rch.st (fun _ hr => XS.lloadN X0.here hx rfl (hb hby d28_1) rfl hr) ?_
  obtain ⟨_, T1, Lc1, X1, hQ1, st1⟩ := own_callS X0 hx hZ (y := (⟨"java/math/BigDecimal", "add", "(JJ)J"⟩ : MethodName)) hown (own_w hw 187 rfl) (own_w hw 188 rfl) (own_w hw 39 rfl) (own_w hw 189 rfl) (by decide) (W := 0) (caddJJ l Z a0 hw [] x y h0 n0 hf) (by decide) (by decide) e0 (by decide) (by decide) (g := (mkF m 2 #[.val (.long x), .second, .val (.long y), .second, .val (.int (0 : Int32)), .unset, .unset] [(.long y), (.long x)])) rfl (by rw [hml]; rfl) (argsL := [(.long x), (.long y)]) (rest := []) (lenOf pd_3 rfl) rfl (by show 2 * 0 + _ ≤ _; exact Nat.le_of_eq rfl) (hb hby d28_2) rfl
  obtain ⟨rfl, N1q, e1⟩ := hQ1
  have N1 := Fr.app N0 N1q
  refine Rch.st st1 ?_
  refine Rch.st (fun _ hr => XS.lstore X1.here hx rfl (hb hby d28_5) rfl (l' := #[.val (.long x), .second, .val (.long y), .second, .val (.int (0 : Int32)), .val (.long (x + y)), .second]) rfl hr) ?_
  show Rch p.tables e below _ (T1.setTop (mkF m 7 #[.val (.long x), .second, .val (.long y), .second, .val (.int (0 : Int32)), .val (.long (x + y)), .second] []))
  refine Rch.st (fun _ hr => XS.lload X1.here hx rfl (hb hby d28_7) rfl hr) ?_
  refine Rch.st (fun _ hr => Jvm.Stand.ldc2J (g := (mkF m 9 #[.val (.long x), .second, .val (.long y), .second, .val (.int (0 : Int32)), .val (.long (x + y)), .second] [(.long (x + y))])) X1 hx hown (mvT hZ (own_w hw 160 rfl)) rfl (hb hby d28_9) hr) ?_
  refine Rch.st (fun _ hr => XS.lcmp X1.here hx rfl (hb hby d28_12) rfl hr) ?_
  refine Rch.st (fun _ hr => XS.ifNo X1.here hx rfl (hb hby d28_13) rfl ((if0 _ _).trans (feq (mt (lw_eq _ _).mp hm)).1) hr) ?_
  show Rch p.tables e below _ (T1.setTop (mkF m 16 #[.val (.long x), .second, .val (.long y), .second, .val (.int (0 : Int32)), .val (.long (x + y)), .second] []))
  refine Rch.st (fun _ hr => XS.lload X1.here hx rfl (hb hby d28_16) rfl hr) ?_
  refine Rch.st (fun _ hr => XS.iload X1.here hx rfl (hb hby d28_18) rfl hr) ?_
  obtain ⟨_, T2, Lc2, X2, hQ2, st2⟩ := own_callS X1 hx hZ (y := (⟨"java/math/BigDecimal", "valueOf", "(JI)Ljava/math/BigDecimal;"⟩ : MethodName)) hown (own_w hw 190 rfl) (own_w hw 191 rfl) (own_w hw 39 rfl) (own_w hw 192 rfl) (by decide) (W := 0) (cvalueOf0 l Z a0 hw [] (x + y) wz h0 n0 zD0 zD1 zP0 hm) (by decide) (by decide) e1 (by decide) (by decide) (g := (mkF m 20 #[.val (.long x), .second, .val (.long y), .second, .val (.int (0 : Int32)), .val (.long (x + y)), .second] [(.int (0 : Int32)), (.long (x + y))])) rfl (by rw [hml]; rfl) (argsL := [(.long (x + y)), (.int (0 : Int32))]) (rest := []) (lenOf pd_4 rfl) rfl (by show 2 * 0 + _ ≤ _; exact Nat.le_of_eq rfl) (hb hby d28_20) rfl
  obtain ⟨r_2, rfl, N2q, Kp2, Op2, R2_0⟩ := hQ2
  have N2 := Fr.app N1 N2q
  refine Rch.st st2 ?_
  have K3 : Keep h0 T2.heap [] := (Keep.refl h0 []).trans Kp2 all0
  obtain ⟨fs, hr, hrun, hended, hW, hsame⟩ := X2.leave (v := some (.ref r_2)) (fun h => by rw [Bd.returns] at h; cases h)
  refine Rch.fin (u := T2.setFrames fs) (own_retA X2 hx Bd.returns rfl rfl rfl (hb hby d28_23) hr) ⟨_, hrun, hended, _, _, rfl, ?_, ⟨_, rfl⟩, hW, hsame.mono (by decide) (by decide)⟩
  show Q_caddJJI Z x y wz h0 n0 _ T2.heap _
  exact ⟨r_2, rfl, N2, K3, Op2, R2_0⟩
theorem d27_0 : decode jdk_17_method_134_code 0 = .ok (.iload_n 2, 1) := by decide +kernel
theorem d27_1 : decode jdk_17_method_134_code 1 = .ok (.i2l, 1) := by decide +kernel
theorem d27_2 : decode jdk_17_method_134_code 2 = .ok (.iload 5, 2) := by decide +kernel
theorem d27_4 : decode jdk_17_method_134_code 4 = .ok (.i2l, 1) := by decide +kernel
theorem d27_5 : decode jdk_17_method_134_code 5 = .ok (.lsub, 1) := by decide +kernel
theorem d27_6 : decode jdk_17_method_134_code 6 = .ok (.lstore 6, 2) := by decide +kernel
theorem d27_8 : decode jdk_17_method_134_code 8 = .ok (.lload 6, 2) := by decide +kernel
theorem d27_10 : decode jdk_17_method_134_code 10 = .ok (.lconst 0, 1) := by decide +kernel
theorem d27_11 : decode jdk_17_method_134_code 11 = .ok (.lcmp, 1) := by decide +kernel
theorem d27_12 : decode jdk_17_method_134_code 12 = .ok (.ifCond .ne 10, 3) := by decide +kernel
theorem d27_15 : decode jdk_17_method_134_code 15 = .ok (.lload_n 0, 1) := by decide +kernel
theorem d27_16 : decode jdk_17_method_134_code 16 = .ok (.lload_n 3, 1) := by decide +kernel
theorem d27_17 : decode jdk_17_method_134_code 17 = .ok (.iload_n 2, 1) := by decide +kernel
theorem d27_18 : decode jdk_17_method_134_code 18 = .ok (.invokestatic 1000, 3) := by decide +kernel
theorem pd_5 : parseMethodDescriptor "(JJI)Ljava/math/BigDecimal;" = some ⟨[.long, .long, .int], some (.object "java/math/BigDecimal")⟩ := by decide +kernel
theorem d27_21 : decode jdk_17_method_134_code 21 = .ok (.areturn, 1) := by decide +kernel
def Q_caddJIJI (Z : State) (x : Int64) (y : Int64) (wz : Addr) (h0 : Heap) (n0 : Nat) (v : Option Value) (h : Heap) (L : List Loc) : Prop := ∃ (r : Addr), v = some (.ref r) ∧ Fr n0 L ∧ Keep h0 h [] ∧ Old Z n0 h ∧ BDc Z h r (x + y) (0 : Int32)
theorem ef_caddJIJI (m : MethodId) (x : Int64) (y : Int64) (wz : Addr) : entryFrame m #[(.long x), (.int (0 : Int32)), (.long y), (.int (0 : Int32))] 12 = mkF m 0 #[.val (.long x), .second, .val (.int (0 : Int32)), .val (.long y), .second, .val (.int (0 : Int32)), .unset, .unset, .unset, .unset, .unset, .unset] [] := by first | (simp [entryFrame, mkF, argsToLocals, Value.category]; done) | rfl
set_option maxRecDepth 65536 in
set_option maxHeartbeats 40000000 in
theorem caddJIJI (l : Launch) (Z : State) (a0 : Array Value) (hw : ∀ d ∈ tables_1, d.before a0 Z = true) (ws : List Jvm.Cond) (x : Int64) (y : Int64) (wz : Addr) (h0 : Heap) (n0 : Nat) (zD0 : Sta Z Z.heap "java/math/BigDecimal" "ZERO_THROUGH_TEN" "[Ljava/math/BigDecimal;" (.ref wz)) (zD1 : ZTab Z Z.heap wz) (zP0 : Old Z n0 h0) (hf : ¬ (((x + y) ^^^ x) &&& ((x + y) ^^^ y)) < (0 : Int64)) (hm : ¬ (x + y) = (-9223372036854775808 : Int64)) (hz : (((0 : Int32).toInt64) - ((0 : Int32).toInt64)) = (0 : Int64)) :
    MetFree l (⟨"java/math/BigDecimal", "add", "(JIJI)Ljava/math/BigDecimal;"⟩ : MethodName) (head1 (Jvm.Cond.code (⟨"java/math/BigDecimal", "add", "(JIJI)Ljava/math/BigDecimal;"⟩ : MethodName) jdk_17_method_134_code 12 (some (.object "java/math/BigDecimal")) :: ws) ({ frames := 6, cells := 1, slots := 5, locals := 87 } : Room)) (fun aA uU => aA = #[(.long x), (.int (0 : Int32)), (.long y), (.int (0 : Int32))] ∧ Z.Warmed39 uU.vm ∧ uU.heap = h0) (fun _ _ _ _ _ => True) (fun _ uU oO uU' => ∃ vV lL, oO = .returned vV ∧ Q_caddJIJI Z x y wz h0 n0 vV uU'.heap lL ∧ FrameEnd uU oO uU' lL ({ frames := 6, cells := 1, slots := 5, locals := 87 } : Room).cells ({ frames := 6, cells := 1, slots := 5, locals := 87 } : Room).slots) := by
  refine MetFree.of_bodySF (plainFor_of_name pn_java_math_BigDecimal) hisR ?_
  intro p e s m args below meth c s₁ Bd hml0 hP hK
  obtain ⟨rfl, hZ, hh⟩ := hP
  have hx := Bd.exec
  have hby := Bd.bytes
  have hml : c.maxLocals = 12 := hml0
  have hown : s.vm.findClass "java/math/BigDecimal" = some m.cls := findClass_of_methodNamed Bd.named
  have hnm := (name_of_methodNamed Bd.named Bd.method).1
  have X0 : Stand p l e ({ frames := 6, cells := 1, slots := 5, locals := 87 } : Room) s m #[(.long x), (.int (0 : Int32)), (.long y), (.int (0 : Int32))] below meth c s₁ [] 0 0 := Stand.of_body Bd
  have e0 : s₁.heap = h0 := by rw [← hh, Bd.state]; rfl
  have N0 := Fr.nil n0
  refine Rch.out (Rch.st (fun t k => castTop (ef_caddJIJI m x y wz) k) ?_)
  show Rch p.tables e below _ (s₁.setTop (mkF m 0 #[.val (.long x), .second, .val (.int (0 : Int32)), .val (.long y), .second, .val (.int (0 : Int32)), .unset, .unset, .unset, .unset, .unset, .unset] []))
  refine Rch.st (fun _ hr => XS.iloadN X0.here hx rfl (hb hby d27_0) rfl hr) ?_
  refine Rch.st (fun _ hr => XS.i2l X0.here hx rfl (hb hby d27_1) rfl hr) ?_
  refine Rch.st (fun _ hr => XS.iload X0.here hx rfl (hb hby d27_2) rfl hr) ?_
  refine Rch.st (fun _ hr => XS.i2l X0.here hx rfl (hb hby d27_4) rfl hr) ?_
  show Rch p.tables e below _ (s₁.setTop (mkF m 5 #[.val (.long x), .second, .val (.int (0 : Int32)), .val (.long y), .second, .val (.int (0 : Int32)), .unset, .unset, .unset, .unset, .unset, .unset] [(.long ((0 : Int32).toInt64)), (.long ((0 : Int32).toInt64))]))
  refine Rch.st (fun _ hr => XS.lsub X0.here hx rfl (hb hby d27_5) rfl hr) ?_
  refine Rch.st (fun _ hr => XS.lstore X0.here hx rfl (hb hby d27_6) rfl (l' := #[.val (.long x), .second, .val (.int (0 : Int32)), .val (.long y), .second, .val (.int (0 : Int32)), .val (.long (((0 : Int32).toInt64) - ((0 : Int32).toInt64))), .second, .unset, .unset, .unset, .unset]) rfl hr) ?_
  refine Rch.st (fun _ hr => XS.lload X0.here hx rfl (hb hby d27_8) rfl hr) ?_
  refine Rch.st (fun _ hr => XS.lconst X0.here hx rfl (hb hby d27_10) hr) ?_
  show Rch p.tables e below _ (s₁.setTop (mkF m 11 #[.val (.long x), .second, .val (.int (0 : Int32)), .val (.long y), .second, .val (.int (0 : Int32)), .val (.long (((0 : Int32).toInt64) - ((0 : Int32).toInt64))), .second, .unset, .unset, .unset, .unset] [(.long (0 : Int64)), (.long (((0 : Int32).toInt64) - ((0 : Int32).toInt64)))]))
  refine Rch.st (fun _ hr => XS.lcmp X0.here hx rfl (hb hby d27_11) rfl hr) ?_
  refine Rch.st (fun _ hr => XS.ifNo X0.here hx rfl (hb hby d27_12) rfl ((if0 _ _).trans (teq ((lw_eq _ _).mpr hz)).2) hr) ?_
  refine Rch.st (fun _ hr => XS.lloadN X0.here hx rfl (hb hby d27_15) rfl hr) ?_
  refine Rch.st (fun _ hr => XS.lloadN X0.here hx rfl (hb hby d27_16) rfl hr) ?_
  show Rch p.tables e below _ (s₁.setTop (mkF m 17 #[.val (.long x), .second, .val (.int (0 : Int32)), .val (.long y), .second, .val (.int (0 : Int32)), .val (.long (((0 : Int32).toInt64) - ((0 : Int32).toInt64))), .second, .unset, .unset, .unset, .unset] [(.long y), (.long x)]))
  refine Rch.st (fun _ hr => XS.iloadN X0.here hx rfl (hb hby d27_17) rfl hr) ?_
  obtain ⟨_, T1, Lc1, X1, hQ1, st1⟩ := own_callS X0 hx hZ (y := (⟨"java/math/BigDecimal", "add", "(JJI)Ljava/math/BigDecimal;"⟩ : MethodName)) hown (own_w hw 184 rfl) (own_w hw 185 rfl) (own_w hw 39 rfl) (own_w hw 186 rfl) (by decide) (W := 0) (caddJJI l Z a0 hw [] x y wz h0 n0 zD0 zD1 zP0 hf hm) (by decide) (by decide) e0 (by decide) (by decide) (g := (mkF m 18 #[.val (.long x), .second, .val (.int (0 : Int32)), .val (.long y), .second, .val (.int (0 : Int32)), .val (.long (((0 : Int32).toInt64) - ((0 : Int32).toInt64))), .second, .unset, .unset, .unset, .unset] [(.int (0 : Int32)), (.long y), (.long x)])) rfl (by rw [hml]; rfl) (argsL := [(.long x), (.long y), (.int (0 : Int32))]) (rest := []) (lenOf pd_5 rfl) rfl (by show 2 * 0 + _ ≤ _; exact Nat.le_of_eq rfl) (hb hby d27_18) rfl
  obtain ⟨r_1, rfl, N1q, Kp1, Op1, R1_0⟩ := hQ1
  have N1 := Fr.app N0 N1q
  refine Rch.st st1 ?_
  have K2 : Keep h0 T1.heap [] := (Keep.refl h0 []).trans Kp1 all0
  obtain ⟨fs, hr, hrun, hended, hW, hsame⟩ := X1.leave (v := some (.ref r_1)) (fun h => by rw [Bd.returns] at h; cases h)
  refine Rch.fin (u := T1.setFrames fs) (own_retA X1 hx Bd.returns rfl rfl rfl (hb hby d27_21) hr) ⟨_, hrun, hended, _, _, rfl, ?_, ⟨_, rfl⟩, hW, hsame.mono (by decide) (by decide)⟩
  show Q_caddJIJI Z x y wz h0 n0 _ T1.heap _
  exact ⟨r_1, rfl, N1, K2, Op1, R1_0⟩
theorem d26_0 : decode jdk_17_method_26_code 0 = .ok (.aload_n 0, 1) := by decide +kernel
theorem d26_1 : decode jdk_17_method_26_code 1 = .ok (.getfield 24, 3) := by decide +kernel
theorem d26_4 : decode jdk_17_method_26_code 4 = .ok (.ldc2_w 125, 3) := by decide +kernel
theorem d26_7 : decode jdk_17_method_26_code 7 = .ok (.lcmp, 1) := by decide +kernel
theorem d26_8 : decode jdk_17_method_26_code 8 = .ok (.ifCond .eq 54, 3) := by decide +kernel
theorem d26_11 : decode jdk_17_method_26_code 11 = .ok (.aload_n 1, 1) := by decide +kernel
theorem d26_12 : decode jdk_17_method_26_code 12 = .ok (.getfield 24, 3) := by decide +kernel
theorem d26_15 : decode jdk_17_method_26_code 15 = .ok (.ldc2_w 125, 3) := by decide +kernel
theorem d26_18 : decode jdk_17_method_26_code 18 = .ok (.lcmp, 1) := by decide +kernel
theorem d26_19 : decode jdk_17_method_26_code 19 = .ok (.ifCond .eq 23, 3) := by decide +kernel
theorem d26_22 : decode jdk_17_method_26_code 22 = .ok (.aload_n 0, 1) := by decide +kernel
theorem d26_23 : decode jdk_17_method_26_code 23 = .ok (.getfield 24, 3) := by decide +kernel
theorem d26_26 : decode jdk_17_method_26_code 26 = .ok (.aload_n 0, 1) := by decide +kernel
theorem d26_27 : decode jdk_17_method_26_code 27 = .ok (.getfield 17, 3) := by decide +kernel
theorem d26_30 : decode jdk_17_method_26_code 30 = .ok (.aload_n 1, 1) := by decide +kernel
theorem d26_31 : decode jdk_17_method_26_code 31 = .ok (.getfield 24, 3) := by decide +kernel
theorem d26_34 : decode jdk_17_method_26_code 34 = .ok (.aload_n 1, 1) := by decide +kernel
theorem d26_35 : decode jdk_17_method_26_code 35 = .ok (.getfield 17, 3) := by decide +kernel
theorem d26_38 : decode jdk_17_method_26_code 38 = .ok (.invokestatic 257, 3) := by decide +kernel
theorem pd_6 : parseMethodDescriptor "(JIJI)Ljava/math/BigDecimal;" = some ⟨[.long, .int, .long, .int], some (.object "java/math/BigDecimal")⟩ := by decide +kernel
theorem d26_41 : decode jdk_17_method_26_code 41 = .ok (.areturn, 1) := by decide +kernel
def Q_cadd (Z : State) (a : Addr) (b : Addr) (x : Int64) (y : Int64) (wz : Addr) (h0 : Heap) (n0 : Nat) (v : Option Value) (h : Heap) (L : List Loc) : Prop := ∃ (r : Addr), v = some (.ref r) ∧ Fr n0 L ∧ Keep h0 h [] ∧ Old Z n0 h ∧ BDc Z h r (x + y) (0 : Int32)
theorem ef_cadd (m : MethodId) (a : Addr) (b : Addr) (x : Int64) (y : Int64) (wz : Addr) : entryFrame m #[(.ref a), (.ref b)] 2 = mkF m 0 #[.val (.ref a), .val (.ref b)] [] := by first | (simp [entryFrame, mkF, argsToLocals, Value.category]; done) | rfl
set_option maxRecDepth 65536 in
set_option maxHeartbeats 40000000 in
theorem cadd (l : Launch) (Z : State) (a0 : Array Value) (hw : ∀ d ∈ tables_1, d.before a0 Z = true) (ws : List Jvm.Cond) (a : Addr) (b : Addr) (x : Int64) (y : Int64) (wz : Addr) (h0 : Heap) (n0 : Nat) (zD0 : Sta Z Z.heap "java/math/BigDecimal" "ZERO_THROUGH_TEN" "[Ljava/math/BigDecimal;" (.ref wz)) (zD1 : ZTab Z Z.heap wz) (zP0 : Old Z n0 h0) (zP1 : BDc Z h0 a x (0 : Int32)) (zP2 : BDc Z h0 b y (0 : Int32)) (hxx : ¬ x = (-9223372036854775808 : Int64)) (hy : ¬ y = (-9223372036854775808 : Int64)) (hf : ¬ (((x + y) ^^^ x) &&& ((x + y) ^^^ y)) < (0 : Int64)) (hm : ¬ (x + y) = (-9223372036854775808 : Int64)) :
    MetFree l (⟨"java/math/BigDecimal", "add", "(Ljava/math/BigDecimal;)Ljava/math/BigDecimal;"⟩ : MethodName) (head1 (Jvm.Cond.code (⟨"java/math/BigDecimal", "add", "(Ljava/math/BigDecimal;)Ljava/math/BigDecimal;"⟩ : MethodName) jdk_17_method_26_code 2 (some (.object "java/math/BigDecimal")) :: ws) ({ frames := 7, cells := 1, slots := 5, locals := 110 } : Room)) (fun aA uU => aA = #[(.ref a), (.ref b)] ∧ Z.Warmed39 uU.vm ∧ uU.heap = h0) (fun _ _ _ _ _ => True) (fun _ uU oO uU' => ∃ vV lL, oO = .returned vV ∧ Q_cadd Z a b x y wz h0 n0 vV uU'.heap lL ∧ FrameEnd uU oO uU' lL ({ frames := 7, cells := 1, slots := 5, locals := 110 } : Room).cells ({ frames := 7, cells := 1, slots := 5, locals := 110 } : Room).slots) := by
  refine MetFree.of_bodySF (plainFor_of_name pn_java_math_BigDecimal) hisR ?_
  intro p e s m args below meth c s₁ Bd hml0 hP hK
  obtain ⟨rfl, hZ, hh⟩ := hP
  have hx := Bd.exec
  have hby := Bd.bytes
  have hml : c.maxLocals = 2 := hml0
  have hown : s.vm.findClass "java/math/BigDecimal" = some m.cls := findClass_of_methodNamed Bd.named
  have hnm := (name_of_methodNamed Bd.named Bd.method).1
  have X0 : Stand p l e ({ frames := 7, cells := 1, slots := 5, locals := 110 } : Room) s m #[(.ref a), (.ref b)] below meth c s₁ [] 0 0 := Stand.of_body Bd
  have e0 : s₁.heap = h0 := by rw [← hh, Bd.state]; rfl
  have N0 := Fr.nil n0
  refine Rch.out (Rch.st (fun t k => castTop (ef_cadd m a b x y wz) k) ?_)
  show Rch p.tables e below _ (s₁.setTop (mkF m 0 #[.val (.ref a), .val (.ref b)] []))
  refine Rch.st (fun _ hr => XS.aloadN X0.here hx rfl (hb hby d26_0) rfl rfl hr) ?_
  obtain ⟨T1, X1, e1, st1⟩ := getF X0 hx hZ hown (host := "") (Or.inl (own_w hw 158 rfl)) Via.refl e0 zP1.2.1 (g := (mkF m 1 #[.val (.ref a), .val (.ref b)] [(.ref a)])) rfl rfl (hb hby d26_1)
  refine Rch.st st1 ?_
  refine Rch.st (fun _ hr => Jvm.Stand.ldc2J (g := (mkF m 4 #[.val (.ref a), .val (.ref b)] [(.long x)])) X1 hx hown (mvT hZ (own_w hw 160 rfl)) rfl (hb hby d26_4) hr) ?_
  refine Rch.st (fun _ hr => XS.lcmp X1.here hx rfl (hb hby d26_7) rfl hr) ?_
  show Rch p.tables e below _ (T1.setTop (mkF m 8 #[.val (.ref a), .val (.ref b)] [(.int (lcmpW x (-9223372036854775808 : Int64)))]))
  refine Rch.st (fun _ hr => XS.ifNo X1.here hx rfl (hb hby d26_8) rfl ((if0 _ _).trans (feq (mt (lw_eq _ _).mp hxx)).1) hr) ?_
  refine Rch.st (fun _ hr => XS.aloadN X1.here hx rfl (hb hby d26_11) rfl rfl hr) ?_
  obtain ⟨T2, X2, e2, st2⟩ := getF X1 hx hZ hown (host := "") (Or.inl (own_w hw 158 rfl)) Via.refl e1 zP2.2.1 (g := (mkF m 12 #[.val (.ref a), .val (.ref b)] [(.ref b)])) rfl rfl (hb hby d26_12)
  refine Rch.st st2 ?_
  refine Rch.st (fun _ hr => Jvm.Stand.ldc2J (g := (mkF m 15 #[.val (.ref a), .val (.ref b)] [(.long y)])) X2 hx hown (mvT hZ (own_w hw 160 rfl)) rfl (hb hby d26_15) hr) ?_
  show Rch p.tables e below _ (T2.setTop (mkF m 18 #[.val (.ref a), .val (.ref b)] [(.long (-9223372036854775808 : Int64)), (.long y)]))
  refine Rch.st (fun _ hr => XS.lcmp X2.here hx rfl (hb hby d26_18) rfl hr) ?_
  refine Rch.st (fun _ hr => XS.ifNo X2.here hx rfl (hb hby d26_19) rfl ((if0 _ _).trans (feq (mt (lw_eq _ _).mp hy)).1) hr) ?_
  refine Rch.st (fun _ hr => XS.aloadN X2.here hx rfl (hb hby d26_22) rfl rfl hr) ?_
  obtain ⟨T3, X3, e3, st3⟩ := getF X2 hx hZ hown (host := "") (Or.inl (own_w hw 158 rfl)) Via.refl e2 zP1.2.1 (g := (mkF m 23 #[.val (.ref a), .val (.ref b)] [(.ref a)])) rfl rfl (hb hby d26_23)
  refine Rch.st st3 ?_
  show Rch p.tables e below _ (T3.setTop (mkF m 26 #[.val (.ref a), .val (.ref b)] [(.long x)]))
  refine Rch.st (fun _ hr => XS.aloadN X3.here hx rfl (hb hby d26_26) rfl rfl hr) ?_
  obtain ⟨T4, X4, e4, st4⟩ := getF X3 hx hZ hown (host := "") (Or.inl (own_w hw 179 rfl)) Via.refl e3 zP1.2.2 (g := (mkF m 27 #[.val (.ref a), .val (.ref b)] [(.ref a), (.long x)])) rfl rfl (hb hby d26_27)
  refine Rch.st st4 ?_
  refine Rch.st (fun _ hr => XS.aloadN X4.here hx rfl (hb hby d26_30) rfl rfl hr) ?_
  obtain ⟨T5, X5, e5, st5⟩ := getF X4 hx hZ hown (host := "") (Or.inl (own_w hw 158 rfl)) Via.refl e4 zP2.2.1 (g := (mkF m 31 #[.val (.ref a), .val (.ref b)] [(.ref b), (.int (0 : Int32)), (.long x)])) rfl rfl (hb hby d26_31)
  refine Rch.st st5 ?_
  show Rch p.tables e below _ (T5.setTop (mkF m 34 #[.val (.ref a), .val (.ref b)] [(.long y), (.int (0 : Int32)), (.long x)]))
  refine Rch.st (fun _ hr => XS.aloadN X5.here hx rfl (hb hby d26_34) rfl rfl hr) ?_
  obtain ⟨T6, X6, e6, st6⟩ := getF X5 hx hZ hown (host := "") (Or.inl (own_w hw 179 rfl)) Via.refl e5 zP2.2.2 (g := (mkF m 35 #[.val (.ref a), .val (.ref b)] [(.ref b), (.long y), (.int (0 : Int32)), (.long x)])) rfl rfl (hb hby d26_35)
  refine Rch.st st6 ?_
  obtain ⟨_, T7, Lc7, X7, hQ7, st7⟩ := own_callS X6 hx hZ (y := (⟨"java/math/BigDecimal", "add", "(JIJI)Ljava/math/BigDecimal;"⟩ : MethodName)) hown (own_w hw 181 rfl) (own_w hw 182 rfl) (own_w hw 39 rfl) (own_w hw 183 rfl) (by decide) (W := 0) (caddJIJI l Z a0 hw [] x y wz h0 n0 zD0 zD1 zP0 hf hm (by decide)) (by decide) (by decide) e6 (by decide) (by decide) (g := (mkF m 38 #[.val (.ref a), .val (.ref b)] [(.int (0 : Int32)), (.long y), (.int (0 : Int32)), (.long x)])) rfl (by rw [hml]; rfl) (argsL := [(.long x), (.int (0 : Int32)), (.long y), (.int (0 : Int32))]) (rest := []) (lenOf pd_6 rfl) rfl (by show 2 * 0 + _ ≤ _; exact Nat.le_of_eq rfl) (hb hby d26_38) rfl
  obtain ⟨r_7, rfl, N7q, Kp7, Op7, R7_0⟩ := hQ7
  have N7 := Fr.app N0 N7q
  refine Rch.st st7 ?_
  have K8 : Keep h0 T7.heap [] := (Keep.refl h0 []).trans Kp7 all0
  obtain ⟨fs, hr, hrun, hended, hW, hsame⟩ := X7.leave (v := some (.ref r_7)) (fun h => by rw [Bd.returns] at h; cases h)
  refine Rch.fin (u := T7.setFrames fs) (own_retA X7 hx Bd.returns rfl rfl rfl (hb hby d26_41) hr) ⟨_, hrun, hended, _, _, rfl, ?_, ⟨_, rfl⟩, hW, hsame.mono (by decide) (by decide)⟩
  show Q_cadd Z a b x y wz h0 n0 _ T7.heap _
  exact ⟨r_7, rfl, N7, K8, Op7, R7_0⟩
theorem d31_0 : decode jdk_17_method_29_code 0 = .ok (.aload_n 0, 1) := by decide +kernel
theorem d31_1 : decode jdk_17_method_29_code 1 = .ok (.getfield 24, 3) := by decide +kernel
theorem d31_4 : decode jdk_17_method_29_code 4 = .ok (.ldc2_w 125, 3) := by decide +kernel
theorem d31_7 : decode jdk_17_method_29_code 7 = .ok (.lcmp, 1) := by decide +kernel
theorem d31_8 : decode jdk_17_method_29_code 8 = .ok (.ifCond .eq 58, 3) := by decide +kernel
theorem d31_11 : decode jdk_17_method_29_code 11 = .ok (.aload_n 1, 1) := by decide +kernel
theorem d31_12 : decode jdk_17_method_29_code 12 = .ok (.getfield 24, 3) := by decide +kernel
theorem d31_15 : decode jdk_17_method_29_code 15 = .ok (.ldc2_w 125, 3) := by decide +kernel
theorem d31_18 : decode jdk_17_method_29_code 18 = .ok (.lcmp, 1) := by decide +kernel
theorem d31_19 : decode jdk_17_method_29_code 19 = .ok (.ifCond .eq 24, 3) := by decide +kernel
theorem d31_22 : decode jdk_17_method_29_code 22 = .ok (.aload_n 0, 1) := by decide +kernel
theorem d31_23 : decode jdk_17_method_29_code 23 = .ok (.getfield 24, 3) := by decide +kernel
theorem d31_26 : decode jdk_17_method_29_code 26 = .ok (.aload_n 0, 1) := by decide +kernel
theorem d31_27 : decode jdk_17_method_29_code 27 = .ok (.getfield 17, 3) := by decide +kernel
theorem d31_30 : decode jdk_17_method_29_code 30 = .ok (.aload_n 1, 1) := by decide +kernel
theorem d31_31 : decode jdk_17_method_29_code 31 = .ok (.getfield 24, 3) := by decide +kernel
theorem d31_34 : decode jdk_17_method_29_code 34 = .ok (.lneg, 1) := by decide +kernel
theorem d31_35 : decode jdk_17_method_29_code 35 = .ok (.aload_n 1, 1) := by decide +kernel
theorem d31_36 : decode jdk_17_method_29_code 36 = .ok (.getfield 17, 3) := by decide +kernel
theorem d31_39 : decode jdk_17_method_29_code 39 = .ok (.invokestatic 257, 3) := by decide +kernel
theorem d31_42 : decode jdk_17_method_29_code 42 = .ok (.areturn, 1) := by decide +kernel
def Q_csub (Z : State) (a : Addr) (b : Addr) (x : Int64) (y : Int64) (wz : Addr) (h0 : Heap) (n0 : Nat) (v : Option Value) (h : Heap) (L : List Loc) : Prop := ∃ (r : Addr), v = some (.ref r) ∧ Fr n0 L ∧ Keep h0 h [] ∧ Old Z n0 h ∧ BDc Z h r (x + (-y)) (0 : Int32)
theorem ef_csub (m : MethodId) (a : Addr) (b : Addr) (x : Int64) (y : Int64) (wz : Addr) : entryFrame m #[(.ref a), (.ref b)] 2 = mkF m 0 #[.val (.ref a), .val (.ref b)] [] := by first | (simp [entryFrame, mkF, argsToLocals, Value.category]; done) | rfl
set_option maxRecDepth 65536 in
set_option maxHeartbeats 40000000 in
theorem csub (l : Launch) (Z : State) (a0 : Array Value) (hw : ∀ d ∈ tables_1, d.before a0 Z = true) (ws : List Jvm.Cond) (a : Addr) (b : Addr) (x : Int64) (y : Int64) (wz : Addr) (h0 : Heap) (n0 : Nat) (zD0 : Sta Z Z.heap "java/math/BigDecimal" "ZERO_THROUGH_TEN" "[Ljava/math/BigDecimal;" (.ref wz)) (zD1 : ZTab Z Z.heap wz) (zP0 : Old Z n0 h0) (zP1 : BDc Z h0 a x (0 : Int32)) (zP2 : BDc Z h0 b y (0 : Int32)) (hxx : ¬ x = (-9223372036854775808 : Int64)) (hy : ¬ y = (-9223372036854775808 : Int64)) (hf : ¬ (((x + (-y)) ^^^ x) &&& ((x + (-y)) ^^^ (-y))) < (0 : Int64)) (hm : ¬ (x + (-y)) = (-9223372036854775808 : Int64)) :
    MetFree l (⟨"java/math/BigDecimal", "subtract", "(Ljava/math/BigDecimal;)Ljava/math/BigDecimal;"⟩ : MethodName) (head1 (Jvm.Cond.code (⟨"java/math/BigDecimal", "subtract", "(Ljava/math/BigDecimal;)Ljava/math/BigDecimal;"⟩ : MethodName) jdk_17_method_29_code 2 (some (.object "java/math/BigDecimal")) :: ws) ({ frames := 7, cells := 1, slots := 5, locals := 110 } : Room)) (fun aA uU => aA = #[(.ref a), (.ref b)] ∧ Z.Warmed39 uU.vm ∧ uU.heap = h0) (fun _ _ _ _ _ => True) (fun _ uU oO uU' => ∃ vV lL, oO = .returned vV ∧ Q_csub Z a b x y wz h0 n0 vV uU'.heap lL ∧ FrameEnd uU oO uU' lL ({ frames := 7, cells := 1, slots := 5, locals := 110 } : Room).cells ({ frames := 7, cells := 1, slots := 5, locals := 110 } : Room).slots) := by
  refine MetFree.of_bodySF (plainFor_of_name pn_java_math_BigDecimal) hisR ?_
  intro p e s m args below meth c s₁ Bd hml0 hP hK
  obtain ⟨rfl, hZ, hh⟩ := hP
  have hx := Bd.exec
  have hby := Bd.bytes
  have hml : c.maxLocals = 2 := hml0
  have hown : s.vm.findClass "java/math/BigDecimal" = some m.cls := findClass_of_methodNamed Bd.named
  have hnm := (name_of_methodNamed Bd.named Bd.method).1
  have X0 : Stand p l e ({ frames := 7, cells := 1, slots := 5, locals := 110 } : Room) s m #[(.ref a), (.ref b)] below meth c s₁ [] 0 0 := Stand.of_body Bd
  have e0 : s₁.heap = h0 := by rw [← hh, Bd.state]; rfl
  have N0 := Fr.nil n0
  refine Rch.out (Rch.st (fun t k => castTop (ef_csub m a b x y wz) k) ?_)
  show Rch p.tables e below _ (s₁.setTop (mkF m 0 #[.val (.ref a), .val (.ref b)] []))
  refine Rch.st (fun _ hr => XS.aloadN X0.here hx rfl (hb hby d31_0) rfl rfl hr) ?_
  obtain ⟨T1, X1, e1, st1⟩ := getF X0 hx hZ hown (host := "") (Or.inl (own_w hw 158 rfl)) Via.refl e0 zP1.2.1 (g := (mkF m 1 #[.val (.ref a), .val (.ref b)] [(.ref a)])) rfl rfl (hb hby d31_1)
  refine Rch.st st1 ?_
  refine Rch.st (fun _ hr => Jvm.Stand.ldc2J (g := (mkF m 4 #[.val (.ref a), .val (.ref b)] [(.long x)])) X1 hx hown (mvT hZ (own_w hw 160 rfl)) rfl (hb hby d31_4) hr) ?_
  refine Rch.st (fun _ hr => XS.lcmp X1.here hx rfl (hb hby d31_7) rfl hr) ?_
  show Rch p.tables e below _ (T1.setTop (mkF m 8 #[.val (.ref a), .val (.ref b)] [(.int (lcmpW x (-9223372036854775808 : Int64)))]))
  refine Rch.st (fun _ hr => XS.ifNo X1.here hx rfl (hb hby d31_8) rfl ((if0 _ _).trans (feq (mt (lw_eq _ _).mp hxx)).1) hr) ?_
  refine Rch.st (fun _ hr => XS.aloadN X1.here hx rfl (hb hby d31_11) rfl rfl hr) ?_
  obtain ⟨T2, X2, e2, st2⟩ := getF X1 hx hZ hown (host := "") (Or.inl (own_w hw 158 rfl)) Via.refl e1 zP2.2.1 (g := (mkF m 12 #[.val (.ref a), .val (.ref b)] [(.ref b)])) rfl rfl (hb hby d31_12)
  refine Rch.st st2 ?_
  refine Rch.st (fun _ hr => Jvm.Stand.ldc2J (g := (mkF m 15 #[.val (.ref a), .val (.ref b)] [(.long y)])) X2 hx hown (mvT hZ (own_w hw 160 rfl)) rfl (hb hby d31_15) hr) ?_
  show Rch p.tables e below _ (T2.setTop (mkF m 18 #[.val (.ref a), .val (.ref b)] [(.long (-9223372036854775808 : Int64)), (.long y)]))
  refine Rch.st (fun _ hr => XS.lcmp X2.here hx rfl (hb hby d31_18) rfl hr) ?_
  refine Rch.st (fun _ hr => XS.ifNo X2.here hx rfl (hb hby d31_19) rfl ((if0 _ _).trans (feq (mt (lw_eq _ _).mp hy)).1) hr) ?_
  refine Rch.st (fun _ hr => XS.aloadN X2.here hx rfl (hb hby d31_22) rfl rfl hr) ?_
  obtain ⟨T3, X3, e3, st3⟩ := getF X2 hx hZ hown (host := "") (Or.inl (own_w hw 158 rfl)) Via.refl e2 zP1.2.1 (g := (mkF m 23 #[.val (.ref a), .val (.ref b)] [(.ref a)])) rfl rfl (hb hby d31_23)
  refine Rch.st st3 ?_
  show Rch p.tables e below _ (T3.setTop (mkF m 26 #[.val (.ref a), .val (.ref b)] [(.long x)]))
  refine Rch.st (fun _ hr => XS.aloadN X3.here hx rfl (hb hby d31_26) rfl rfl hr) ?_
  obtain ⟨T4, X4, e4, st4⟩ := getF X3 hx hZ hown (host := "") (Or.inl (own_w hw 179 rfl)) Via.refl e3 zP1.2.2 (g := (mkF m 27 #[.val (.ref a), .val (.ref b)] [(.ref a), (.long x)])) rfl rfl (hb hby d31_27)
  refine Rch.st st4 ?_
  refine Rch.st (fun _ hr => XS.aloadN X4.here hx rfl (hb hby d31_30) rfl rfl hr) ?_
  obtain ⟨T5, X5, e5, st5⟩ := getF X4 hx hZ hown (host := "") (Or.inl (own_w hw 158 rfl)) Via.refl e4 zP2.2.1 (g := (mkF m 31 #[.val (.ref a), .val (.ref b)] [(.ref b), (.int (0 : Int32)), (.long x)])) rfl rfl (hb hby d31_31)
  refine Rch.st st5 ?_
  show Rch p.tables e below _ (T5.setTop (mkF m 34 #[.val (.ref a), .val (.ref b)] [(.long y), (.int (0 : Int32)), (.long x)]))
  refine Rch.st (fun _ hr => XS.lneg X5.here hx rfl (hb hby d31_34) rfl hr) ?_
  refine Rch.st (fun _ hr => XS.aloadN X5.here hx rfl (hb hby d31_35) rfl rfl hr) ?_
  obtain ⟨T6, X6, e6, st6⟩ := getF X5 hx hZ hown (host := "") (Or.inl (own_w hw 179 rfl)) Via.refl e5 zP2.2.2 (g := (mkF m 36 #[.val (.ref a), .val (.ref b)] [(.ref b), (.long (-y)), (.int (0 : Int32)), (.long x)])) rfl rfl (hb hby d31_36)
  refine Rch.st st6 ?_
  obtain ⟨_, T7, Lc7, X7, hQ7, st7⟩ := own_callS X6 hx hZ (y := (⟨"java/math/BigDecimal", "add", "(JIJI)Ljava/math/BigDecimal;"⟩ : MethodName)) hown (own_w hw 181 rfl) (own_w hw 182 rfl) (own_w hw 39 rfl) (own_w hw 183 rfl) (by decide) (W := 0) (caddJIJI l Z a0 hw [] x (-y) wz h0 n0 zD0 zD1 zP0 hf hm (by decide)) (by decide) (by decide) e6 (by decide) (by decide) (g := (mkF m 39 #[.val (.ref a), .val (.ref b)] [(.int (0 : Int32)), (.long (-y)), (.int (0 : Int32)), (.long x)])) rfl (by rw [hml]; rfl) (argsL := [(.long x), (.int (0 : Int32)), (.long (-y)), (.int (0 : Int32))]) (rest := []) (lenOf pd_6 rfl) rfl (by show 2 * 0 + _ ≤ _; exact Nat.le_of_eq rfl) (hb hby d31_39) rfl
  obtain ⟨r_7, rfl, N7q, Kp7, Op7, R7_0⟩ := hQ7
  have N7 := Fr.app N0 N7q
  refine Rch.st st7 ?_
  have K8 : Keep h0 T7.heap [] := (Keep.refl h0 []).trans Kp7 all0
  show Rch p.tables e below _ (T7.setTop (mkF m 42 #[.val (.ref a), .val (.ref b)] [(.ref r_7)]))
  obtain ⟨fs, hr, hrun, hended, hW, hsame⟩ := X7.leave (v := some (.ref r_7)) (fun h => by rw [Bd.returns] at h; cases h)
  refine Rch.fin (u := T7.setFrames fs) (own_retA X7 hx Bd.returns rfl rfl rfl (hb hby d31_42) hr) ⟨_, hrun, hended, _, _, rfl, ?_, ⟨_, rfl⟩, hW, hsame.mono (by decide) (by decide)⟩
  show Q_csub Z a b x y wz h0 n0 _ T7.heap _
  exact ⟨r_7, rfl, N7, K8, Op7, R7_0⟩
theorem d23_0 : decode jdk_35_method_57_code 0 = .ok (.lload_n 0, 1) := by decide +kernel
theorem d23_1 : decode jdk_35_method_57_code 1 = .ok (.bipush 63, 2) := by decide +kernel
theorem d23_3 : decode jdk_35_method_57_code 3 = .ok (.lshr, 1) := by decide +kernel
theorem d23_4 : decode jdk_35_method_57_code 4 = .ok (.lload_n 0, 1) := by decide +kernel
theorem d23_5 : decode jdk_35_method_57_code 5 = .ok (.lneg, 1) := by decide +kernel
theorem d23_6 : decode jdk_35_method_57_code 6 = .ok (.bipush 63, 2) := by decide +kernel
theorem d23_8 : decode jdk_35_method_57_code 8 = .ok (.lushr, 1) := by decide +kernel
theorem d23_9 : decode jdk_35_method_57_code 9 = .ok (.lor, 1) := by decide +kernel
theorem d23_10 : decode jdk_35_method_57_code 10 = .ok (.l2i, 1) := by decide +kernel
theorem d23_11 : decode jdk_35_method_57_code 11 = .ok (.ireturn, 1) := by decide +kernel
def Q_clsignum (Z : State) (x : Int64) (h0 : Heap) (n0 : Nat) (v : Option Value) (h : Heap) (L : List Loc) : Prop := v = some (.int (own_sg x)) ∧ Fr n0 L ∧ h = h0
theorem pn_java_lang_Long : plainName "java/lang/Long" = true := by first | (simp [plainName, overriddenIn]; done) | decide +kernel
theorem ef_clsignum (m : MethodId) (x : Int64) : entryFrame m #[(.long x)] 2 = mkF m 0 #[.val (.long x), .second] [] := by first | (simp [entryFrame, mkF, argsToLocals, Value.category]; done) | rfl
set_option maxRecDepth 65536 in
set_option maxHeartbeats 40000000 in
theorem clsignum (l : Launch) (Z : State) (a0 : Array Value) (hw : ∀ d ∈ tables_1, d.before a0 Z = true) (ws : List Jvm.Cond) (x : Int64) (h0 : Heap) (n0 : Nat) :
    MetFree l (⟨"java/lang/Long", "signum", "(J)I"⟩ : MethodName) (head1 (Jvm.Cond.code (⟨"java/lang/Long", "signum", "(J)I"⟩ : MethodName) jdk_35_method_57_code 2 (some .int) :: ws) ({ frames := 0, cells := 0, slots := 0, locals := 0 } : Room)) (fun aA uU => aA = #[(.long x)] ∧ Z.Warmed39 uU.vm ∧ uU.heap = h0) (fun _ _ _ _ _ => True) (fun _ uU oO uU' => ∃ vV lL, oO = .returned vV ∧ Q_clsignum Z x h0 n0 vV uU'.heap lL ∧ FrameEnd uU oO uU' lL ({ frames := 0, cells := 0, slots := 0, locals := 0 } : Room).cells ({ frames := 0, cells := 0, slots := 0, locals := 0 } : Room).slots) := by
  refine MetFree.of_bodySF (plainFor_of_name pn_java_lang_Long) hisR ?_
  intro p e s m args below meth c s₁ Bd hml0 hP hK
  obtain ⟨rfl, hZ, hh⟩ := hP
  have hx := Bd.exec
  have hby := Bd.bytes
  have hml : c.maxLocals = 2 := hml0
  have hown : s.vm.findClass "java/lang/Long" = some m.cls := findClass_of_methodNamed Bd.named
  have hnm := (name_of_methodNamed Bd.named Bd.method).1
  have X0 : Stand p l e ({ frames := 0, cells := 0, slots := 0, locals := 0 } : Room) s m #[(.long x)] below meth c s₁ [] 0 0 := Stand.of_body Bd
  have e0 : s₁.heap = h0 := by rw [← hh, Bd.state]; rfl
  have N0 := Fr.nil n0
  refine Rch.out (Rch.st (fun t k => castTop (ef_clsignum m x) k) ?_)
  show Rch p.tables e below _ (s₁.setTop (mkF m 0 #[.val (.long x), .second] []))
  refine Rch.st (fun _ hr => XS.lloadN X0.here hx rfl (hb hby d23_0) rfl hr) ?_
  refine Rch.st (fun _ hr => XS.bipush X0.here hx rfl (hb hby d23_1) hr) ?_
  refine Rch.st (fun _ hr => XS.lshr X0.here hx rfl (hb hby d23_3) rfl hr) ?_
  refine Rch.st (fun _ hr => XS.lloadN X0.here hx rfl (hb hby d23_4) rfl hr) ?_
  show Rch p.tables e below _ (s₁.setTop (mkF m 5 #[.val (.long x), .second] [(.long x), (.long (x >>> ((63 : Int32) &&& 0x3f).toInt64))]))
  refine Rch.st (fun _ hr => XS.lneg X0.here hx rfl (hb hby d23_5) rfl hr) ?_
  refine Rch.st (fun _ hr => XS.bipush X0.here hx rfl (hb hby d23_6) hr) ?_
  refine Rch.st (fun _ hr => XS.lushr X0.here hx rfl (hb hby d23_8) rfl hr) ?_
  refine Rch.st (fun _ hr => XS.lor X0.here hx rfl (hb hby d23_9) rfl hr) ?_
  show Rch p.tables e below _ (s₁.setTop (mkF m 10 #[.val (.long x), .second] [(.long ((x >>> ((63 : Int32) &&& 0x3f).toInt64) ||| (((-x).toUInt64 >>> ((63 : Int32) &&& 0x3f).toInt64.toUInt64).toInt64)))]))
  refine Rch.st (fun _ hr => XS.l2i X0.here hx rfl (hb hby d23_10) rfl hr) ?_
  obtain ⟨fs, hr, hrun, hended, hW, hsame⟩ := X0.leave (v := some (.int (((x >>> ((63 : Int32) &&& 0x3f).toInt64) ||| (((-x).toUInt64 >>> ((63 : Int32) &&& 0x3f).toInt64.toUInt64).toInt64)).toInt32))) (fun h => by rw [Bd.returns] at h; cases h)
  refine Rch.fin (u := s₁.setFrames fs) (own_retI X0 hx Bd.returns (hb hby d23_11) hr) ⟨_, hrun, hended, _, _, rfl, ?_, ⟨_, rfl⟩, hW, hsame.mono (by decide) (by decide)⟩
  show Q_clsignum Z x h0 n0 _ s₁.heap _
  exact ⟨rfl, N0, e0⟩
theorem d22_0 : decode jdk_17_method_58_code 0 = .ok (.aload_n 0, 1) := by decide +kernel
theorem d22_1 : decode jdk_17_method_58_code 1 = .ok (.getfield 24, 3) := by decide +kernel
theorem d22_4 : decode jdk_17_method_58_code 4 = .ok (.ldc2_w 125, 3) := by decide +kernel
theorem d22_7 : decode jdk_17_method_58_code 7 = .ok (.lcmp, 1) := by decide +kernel
theorem d22_8 : decode jdk_17_method_58_code 8 = .ok (.ifCond .eq 13, 3) := by decide +kernel
theorem d22_11 : decode jdk_17_method_58_code 11 = .ok (.aload_n 0, 1) := by decide +kernel
theorem d22_12 : decode jdk_17_method_58_code 12 = .ok (.getfield 24, 3) := by decide +kernel
theorem d22_15 : decode jdk_17_method_58_code 15 = .ok (.invokestatic 596, 3) := by decide +kernel
theorem pd_7 : parseMethodDescriptor "(J)I" = some ⟨[.long], some .int⟩ := by decide +kernel
theorem d22_18 : decode jdk_17_method_58_code 18 = .ok (.goto 10, 3) := by decide +kernel
theorem d22_28 : decode jdk_17_method_58_code 28 = .ok (.ireturn, 1) := by decide +kernel
def Q_csignum (Z : State) (a : Addr) (x : Int64) (h0 : Heap) (n0 : Nat) (v : Option Value) (h : Heap) (L : List Loc) : Prop := v = some (.int (own_sg x)) ∧ Fr n0 L ∧ h = h0
theorem ef_csignum (m : MethodId) (a : Addr) (x : Int64) : entryFrame m #[(.ref a)] 1 = mkF m 0 #[.val (.ref a)] [] := by first | (simp [entryFrame, mkF, argsToLocals, Value.category]; done) | rfl
set_option maxRecDepth 65536 in
set_option maxHeartbeats 40000000 in
theorem csignum (l : Launch) (Z : State) (a0 : Array Value) (hw : ∀ d ∈ tables_1, d.before a0 Z = true) (ws : List Jvm.Cond) (a : Addr) (x : Int64) (h0 : Heap) (n0 : Nat) (zP0 : BDc Z h0 a x (0 : Int32)) (hxx : ¬ x = (-9223372036854775808 : Int64)) :
    MetFree l (⟨"java/math/BigDecimal", "signum", "()I"⟩ : MethodName) (head1 (Jvm.Cond.code (⟨"java/math/BigDecimal", "signum", "()I"⟩ : MethodName) jdk_17_method_58_code 1 (some .int) :: ws) ({ frames := 1, cells := 0, slots := 0, locals := 13 } : Room)) (fun aA uU => aA = #[(.ref a)] ∧ Z.Warmed39 uU.vm ∧ uU.heap = h0) (fun _ _ _ _ _ => True) (fun _ uU oO uU' => ∃ vV lL, oO = .returned vV ∧ Q_csignum Z a x h0 n0 vV uU'.heap lL ∧ FrameEnd uU oO uU' lL ({ frames := 1, cells := 0, slots := 0, locals := 13 } : Room).cells ({ frames := 1, cells := 0, slots := 0, locals := 13 } : Room).slots) := by
  refine MetFree.of_bodySF (plainFor_of_name pn_java_math_BigDecimal) hisR ?_
  intro p e s m args below meth c s₁ Bd hml0 hP hK
  obtain ⟨rfl, hZ, hh⟩ := hP
  have hx := Bd.exec
  have hby := Bd.bytes
  have hml : c.maxLocals = 1 := hml0
  have hown : s.vm.findClass "java/math/BigDecimal" = some m.cls := findClass_of_methodNamed Bd.named
  have hnm := (name_of_methodNamed Bd.named Bd.method).1
  have X0 : Stand p l e ({ frames := 1, cells := 0, slots := 0, locals := 13 } : Room) s m #[(.ref a)] below meth c s₁ [] 0 0 := Stand.of_body Bd
  have e0 : s₁.heap = h0 := by rw [← hh, Bd.state]; rfl
  have N0 := Fr.nil n0
  refine Rch.out (Rch.st (fun t k => castTop (ef_csignum m a x) k) ?_)
  show Rch p.tables e below _ (s₁.setTop (mkF m 0 #[.val (.ref a)] []))
  refine Rch.st (fun _ hr => XS.aloadN X0.here hx rfl (hb hby d22_0) rfl rfl hr) ?_
  obtain ⟨T1, X1, e1, st1⟩ := getF X0 hx hZ hown (host := "") (Or.inl (own_w hw 158 rfl)) Via.refl e0 zP0.2.1 (g := (mkF m 1 #[.val (.ref a)] [(.ref a)])) rfl rfl (hb hby d22_1)
  refine Rch.st st1 ?_
  refine Rch.st (fun _ hr => Jvm.Stand.ldc2J (g := (mkF m 4 #[.val (.ref a)] [(.long x)])) X1 hx hown (mvT hZ (own_w hw 160 rfl)) rfl (hb hby d22_4) hr) ?_
  refine Rch.st (fun _ hr => XS.lcmp X1.here hx rfl (hb hby d22_7) rfl hr) ?_
  show Rch p.tables e below _ (T1.setTop (mkF m 8 #[.val (.ref a)] [(.int (lcmpW x (-9223372036854775808 : Int64)))]))
  refine Rch.st (fun _ hr => XS.ifNo X1.here hx rfl (hb hby d22_8) rfl ((if0 _ _).trans (feq (mt (lw_eq _ _).mp hxx)).1) hr) ?_
  refine Rch.st (fun _ hr => XS.aloadN X1.here hx rfl (hb hby d22_11) rfl rfl hr) ?_
  obtain ⟨T2, X2, e2, st2⟩ := getF X1 hx hZ hown (host := "") (Or.inl (own_w hw 158 rfl)) Via.refl e1 zP0.2.1 (g := (mkF m 12 #[.val (.ref a)] [(.ref a)])) rfl rfl (hb hby d22_12)
  refine Rch.st st2 ?_
  obtain ⟨_, T3, Lc3, X3, hQ3, st3⟩ := own_callS X2 hx hZ (y := (⟨"java/lang/Long", "signum", "(J)I"⟩ : MethodName)) hown (own_w hw 161 rfl) (own_w hw 162 rfl) (own_w hw 163 rfl) (own_w hw 164 rfl) (by decide) (W := 0) (clsignum l Z a0 hw [] x h0 n0 ) (by decide) (by decide) e2 (by decide) (by decide) (g := (mkF m 15 #[.val (.ref a)] [(.long x)])) rfl (by rw [hml]; rfl) (argsL := [(.long x)]) (rest := []) (lenOf pd_7 rfl) rfl (by show 2 * 0 + _ ≤ _; exact Nat.le_of_eq rfl) (hb hby d22_15) rfl
  obtain ⟨rfl, N3q, e3⟩ := hQ3
  have N3 := Fr.app N0 N3q
  refine Rch.st st3 ?_
  show Rch p.tables e below _ (T3.setTop (mkF m 18 #[.val (.ref a)] [(.int (own_sg x))]))
  refine Rch.st (fun _ hr => XS.goto X3.here hx rfl (pc0 := 18) (pc' := 28) rfl (hb hby d22_18) (by decide) (by decide) hr) ?_
  obtain ⟨fs, hr, hrun, hended, hW, hsame⟩ := X3.leave (v := some (.int (own_sg x))) (fun h => by rw [Bd.returns] at h; cases h)
  refine Rch.fin (u := T3.setFrames fs) (own_retI X3 hx Bd.returns (hb hby d22_28) hr) ⟨_, hrun, hended, _, _, rfl, ?_, ⟨_, rfl⟩, hW, hsame.mono (by decide) (by decide)⟩
  show Q_csignum Z a x h0 n0 _ T3.heap _
  exact ⟨rfl, N3, e3⟩
theorem d3_0 : decode jdk_22_method_1_code 0 = .ok (.aload_n 0, 1) := by decide +kernel
theorem d3_1 : decode jdk_22_method_1_code 1 = .ok (.invokespecial 1, 3) := by decide +kernel
theorem d3_4 : decode jdk_22_method_1_code 4 = .ok (.return_, 1) := by decide +kernel
def Q_cacinit (Z : State) (a : Addr) (h0 : Heap) (n0 : Nat) (v : Option Value) (h : Heap) (L : List Loc) : Prop := v = none ∧ Fr n0 L ∧ h = h0
theorem pn_java_util_AbstractCollection : plainName "java/util/AbstractCollection" = true := by first | (simp [plainName, overriddenIn]; done) | decide +kernel
theorem ef_cacinit (m : MethodId) (a : Addr) : entryFrame m #[(.ref a)] 1 = mkF m 0 #[.val (.ref a)] [] := by first | (simp [entryFrame, mkF, argsToLocals, Value.category]; done) | rfl
set_option maxRecDepth 65536 in
set_option maxHeartbeats 40000000 in
theorem cacinit (l : Launch) (Z : State) (a0 : Array Value) (hw : ∀ d ∈ tables_1, d.before a0 Z = true) (ws : List Jvm.Cond) (a : Addr) (h0 : Heap) (n0 : Nat) :
    MetFree l (⟨"java/util/AbstractCollection", "<init>", "()V"⟩ : MethodName) (head1 (Jvm.Cond.code (⟨"java/util/AbstractCollection", "<init>", "()V"⟩ : MethodName) jdk_22_method_1_code 1 none :: ws) ({ frames := 1, cells := 0, slots := 0, locals := 12 } : Room)) (fun aA uU => aA = #[(.ref a)] ∧ Z.Warmed39 uU.vm ∧ uU.heap = h0) (fun _ _ _ _ _ => True) (fun _ uU oO uU' => ∃ vV lL, oO = .returned vV ∧ Q_cacinit Z a h0 n0 vV uU'.heap lL ∧ FrameEnd uU oO uU' lL ({ frames := 1, cells := 0, slots := 0, locals := 12 } : Room).cells ({ frames := 1, cells := 0, slots := 0, locals := 12 } : Room).slots) := by
  refine MetFree.of_bodySF (plainFor_of_name pn_java_util_AbstractCollection) hisR ?_
  intro p e s m args below meth c s₁ Bd hml0 hP hK
  obtain ⟨rfl, hZ, hh⟩ := hP
  have hx := Bd.exec
  have hby := Bd.bytes
  have hml : c.maxLocals = 1 := hml0
  have hown : s.vm.findClass "java/util/AbstractCollection" = some m.cls := findClass_of_methodNamed Bd.named
  have hnm := (name_of_methodNamed Bd.named Bd.method).1
  have X0 : Stand p l e ({ frames := 1, cells := 0, slots := 0, locals := 12 } : Room) s m #[(.ref a)] below meth c s₁ [] 0 0 := Stand.of_body Bd
  have e0 : s₁.heap = h0 := by rw [← hh, Bd.state]; rfl
  have N0 := Fr.nil n0
  refine Rch.out (Rch.st (fun t k => castTop (ef_cacinit m a) k) ?_)
  show Rch p.tables e below _ (s₁.setTop (mkF m 0 #[.val (.ref a)] []))
  refine Rch.st (fun _ hr => XS.aloadN X0.here hx rfl (hb hby d3_0) rfl rfl hr) ?_
  obtain ⟨T1, X1, e1, st1⟩ := initO X0 hx hZ hown (own_w hw 18 rfl) (own_w hw 19 rfl) (own_w hw 20 rfl) e0 (g := (mkF m 1 #[.val (.ref a)] [(.ref a)])) rfl (by rw [hml]; rfl) rfl (hb hby d3_1) (by decide) (W := 0) (by show 2 * 0 + _ ≤ _; exact Nat.le_of_eq rfl) (by decide)
  refine Rch.st st1 ?_
  obtain ⟨fs, hr, hrun, hended, hW, hsame⟩ := X1.leave (v := none) (fun _ => rfl)
  refine Rch.fin (u := T1.setFrames fs) (X1.returnOut hx Bd.returns (hb hby d3_4) hr) ⟨_, hrun, hended, _, _, rfl, ?_, ⟨_, rfl⟩, hW, hsame.mono (by decide) (by decide)⟩
  show Q_cacinit Z a h0 n0 _ T1.heap _
  exact ⟨rfl, N0, e1⟩
theorem d2_0 : decode jdk_39_method_1_code 0 = .ok (.aload_n 0, 1) := by decide +kernel
theorem d2_1 : decode jdk_39_method_1_code 1 = .ok (.invokespecial 1, 3) := by decide +kernel
theorem d2_4 : decode jdk_39_method_1_code 4 = .ok (.aload_n 0, 1) := by decide +kernel
theorem d2_5 : decode jdk_39_method_1_code 5 = .ok (.iconst 0, 1) := by decide +kernel
theorem d2_6 : decode jdk_39_method_1_code 6 = .ok (.putfield 7, 3) := by decide +kernel
theorem d2_9 : decode jdk_39_method_1_code 9 = .ok (.return_, 1) := by decide +kernel
def Q_cabsinit (Z : State) (a : Addr) (h0 : Heap) (n0 : Nat) (v : Option Value) (h : Heap) (L : List Loc) : Prop := v = none ∧ Fr n0 L ∧ Keep h0 h [a] ∧ Old Z n0 h ∧ Exa Z h a "java/util/ArrayList" ∧ Fld Z h a "java/util/ArrayList" "elementData" "[Ljava/lang/Object;" .null ∧ Fld Z h a "java/util/ArrayList" "size" "I" (.int (0 : Int32)) ∧ Fld Z h a "java/util/AbstractList" "modCount" "I" (.int (0 : Int32))
theorem pn_java_util_AbstractList : plainName "java/util/AbstractList" = true := by first | (simp [plainName, overriddenIn]; done) | decide +kernel
theorem ef_cabsinit (m : MethodId) (a : Addr) : entryFrame m #[(.ref a)] 1 = mkF m 0 #[.val (.ref a)] [] := by first | (simp [entryFrame, mkF, argsToLocals, Value.category]; done) | rfl
set_option maxRecDepth 65536 in
set_option maxHeartbeats 40000000 in
theorem cabsinit (l : Launch) (Z : State) (a0 : Array Value) (hw : ∀ d ∈ tables_1, d.before a0 Z = true) (ws : List Jvm.Cond) (a : Addr) (h0 : Heap) (n0 : Nat) (zP0 : Old Z n0 h0) (zP1 : Exa Z h0 a "java/util/ArrayList") (zP2 : Fld Z h0 a "java/util/ArrayList" "elementData" "[Ljava/lang/Object;" .null) (zP3 : Fld Z h0 a "java/util/ArrayList" "size" "I" (.int (0 : Int32))) (zP4 : Fld Z h0 a "java/util/AbstractList" "modCount" "I" (.int (0 : Int32))) (zP5 : n0 ≤ a) :
    MetFree l (⟨"java/util/AbstractList", "<init>", "()V"⟩ : MethodName) (head1 (Jvm.Cond.code (⟨"java/util/AbstractList", "<init>", "()V"⟩ : MethodName) jdk_39_method_1_code 1 none :: ws) ({ frames := 2, cells := 0, slots := 0, locals := 24 } : Room)) (fun aA uU => aA = #[(.ref a)] ∧ Z.Warmed39 uU.vm ∧ uU.heap = h0) (fun _ _ _ _ _ => True) (fun _ uU oO uU' => ∃ vV lL, oO = .returned vV ∧ Q_cabsinit Z a h0 n0 vV uU'.heap lL ∧ FrameEnd uU oO uU' lL ({ frames := 2, cells := 0, slots := 0, locals := 24 } : Room).cells ({ frames := 2, cells := 0, slots := 0, locals := 24 } : Room).slots) := by
  refine MetFree.of_bodySF (plainFor_of_name pn_java_util_AbstractList) hisR ?_
  intro p e s m args below meth c s₁ Bd hml0 hP hK
  obtain ⟨rfl, hZ, hh⟩ := hP
  have hx := Bd.exec
  have hby := Bd.bytes
  have hml : c.maxLocals = 1 := hml0
  have hown : s.vm.findClass "java/util/AbstractList" = some m.cls := findClass_of_methodNamed Bd.named
  have hnm := (name_of_methodNamed Bd.named Bd.method).1
  have X0 : Stand p l e ({ frames := 2, cells := 0, slots := 0, locals := 24 } : Room) s m #[(.ref a)] below meth c s₁ [] 0 0 := Stand.of_body Bd
  have e0 : s₁.heap = h0 := by rw [← hh, Bd.state]; rfl
  have N0 := Fr.nil n0
  refine Rch.out (Rch.st (fun t k => castTop (ef_cabsinit m a) k) ?_)
  show Rch p.tables e below _ (s₁.setTop (mkF m 0 #[.val (.ref a)] []))
  refine Rch.st (fun _ hr => XS.aloadN X0.here hx rfl (hb hby d2_0) rfl rfl hr) ?_
  obtain ⟨_, T1, Lc1, X1, hQ1, st1⟩ := own_callI X0 hx hZ (y := (⟨"java/util/AbstractCollection", "<init>", "()V"⟩ : MethodName)) rfl hown (own_w hw 12 rfl) (own_w hw 13 rfl) (own_w hw 16 rfl) (own_w hw 17 rfl) (by decide) (W := 0) (cacinit l Z a0 hw [] a h0 n0 ) (by decide) (by decide) e0 (by decide) (by decide) (g := (mkF m 1 #[.val (.ref a)] [(.ref a)])) rfl (by rw [hml]; rfl) (a := a) (argsL := []) (rest := []) (lenOf pd_0 rfl) rfl (by show 2 * 0 + _ ≤ _; exact Nat.le_of_eq rfl) (hb hby d2_1) rfl
  obtain ⟨rfl, N1q, e1⟩ := hQ1
  have N1 := Fr.app N0 N1q
  refine Rch.st st1 ?_
  refine Rch.st (fun _ hr => XS.aloadN X1.here hx rfl (hb hby d2_4) rfl rfl hr) ?_
  refine Rch.st (fun _ hr => XS.iconst X1.here hx rfl (hb hby d2_5) hr) ?_
  show Rch p.tables e below _ (T1.setTop (mkF m 6 #[.val (.ref a)] [(.int (0 : Int32)), (.ref a)]))
  obtain ⟨T2, h2, X2, e2, W2, st2⟩ := putF X1 hx hZ hown (host := "") (Or.inl (own_w hw 21 rfl)) Via.refl e1 zP4 zP1 (Or.inl (own_w hw 22 rfl)) (own_w hw 1 rfl) (ty := .int) (by decide) rfl rfl (g := (mkF m 6 #[.val (.ref a)] [(.int (0 : Int32)), (.ref a)])) rfl rfl (hb hby d2_6)
  refine Rch.st st2 ?_
  have N2 := Fr.snoc X2 N1 zP5
  have K3 : Keep h0 h2 [a] := (Keep.refl h0 [a]).wr W2 (Or.inl (List.mem_of_getElem? (i := 0) rfl))
  have Fw2 := zP4.same W2
  obtain ⟨fs, hr, hrun, hended, hW, hsame⟩ := X2.leave (v := none) (fun _ => rfl)
  have f4 : Old Z n0 h2 := (zP0.wr W2 zP5)
  have f5 : Exa Z h2 a "java/util/ArrayList" := (zP1.wr W2)
  have f6 : Fld Z h2 a "java/util/ArrayList" "elementData" "[Ljava/lang/Object;" .null := (zP2.other W2 (Or.inr (slot_ne (Or.inl (own_w hw 25 rfl)) (Or.inl (own_w hw 22 rfl)) (by decide) (t := (.array (.object "java/lang/Object"))) (t' := .int) (by decide) (by decide))))
  have f7 : Fld Z h2 a "java/util/ArrayList" "size" "I" (.int (0 : Int32)) := (zP3.other W2 (Or.inr (slot_ne (Or.inl (own_w hw 67 rfl)) (Or.inl (own_w hw 22 rfl)) (by decide) (t := .int) (t' := .int) (by decide) (by decide))))
  refine Rch.fin (u := T2.setFrames fs) (X2.returnOut hx Bd.returns (hb hby d2_9) hr) ⟨_, hrun, hended, _, _, rfl, ?_, ⟨_, rfl⟩, hW, hsame.mono (by decide) (by decide)⟩
  show Q_cabsinit Z a h0 n0 _ T2.heap _
  rw [e2]
  exact ⟨rfl, N2, K3, f4, f5, f6, f7, Fw2⟩
theorem d1_0 : decode jdk_38_method_2_code 0 = .ok (.aload_n 0, 1) := by decide +kernel
theorem d1_1 : decode jdk_38_method_2_code 1 = .ok (.invokespecial 1, 3) := by decide +kernel
theorem d1_4 : decode jdk_38_method_2_code 4 = .ok (.aload_n 0, 1) := by decide +kernel
theorem d1_5 : decode jdk_38_method_2_code 5 = .ok (.getstatic 39, 3) := by decide +kernel
theorem d1_8 : decode jdk_38_method_2_code 8 = .ok (.putfield 9, 3) := by decide +kernel
theorem d1_11 : decode jdk_38_method_2_code 11 = .ok (.return_, 1) := by decide +kernel
def Q_calinit (Z : State) (a : Addr) (de : Addr) (h0 : Heap) (n0 : Nat) (v : Option Value) (h : Heap) (L : List Loc) : Prop := v = none ∧ Fr n0 L ∧ Keep h0 h [a] ∧ Old Z n0 h ∧ Exa Z h a "java/util/ArrayList" ∧ Fld Z h a "java/util/ArrayList" "elementData" "[Ljava/lang/Object;" (.ref de) ∧ Fld Z h a "java/util/ArrayList" "size" "I" (.int (0 : Int32)) ∧ Fld Z h a "java/util/AbstractList" "modCount" "I" (.int (0 : Int32))
theorem pn_java_util_ArrayList : plainName "java/util/ArrayList" = true := by first | (simp [plainName, overriddenIn]; done) | decide +kernel
theorem ef_calinit (m : MethodId) (a : Addr) (de : Addr) : entryFrame m #[(.ref a)] 1 = mkF m 0 #[.val (.ref a)] [] := by first | (simp [entryFrame, mkF, argsToLocals, Value.category]; done) | rfl
set_option maxRecDepth 65536 in
set_option maxHeartbeats 40000000 in
theorem calinit (l : Launch) (Z : State) (a0 : Array Value) (hw : ∀ d ∈ tables_1, d.before a0 Z = true) (ws : List Jvm.Cond) (a : Addr) (de : Addr) (h0 : Heap) (n0 : Nat) (zD0 : Sta Z Z.heap "java/util/ArrayList" "DEFAULTCAPACITY_EMPTY_ELEMENTDATA" "[Ljava/lang/Object;" (.ref de)) (zP0 : Old Z n0 h0) (zP1 : Exa Z h0 a "java/util/ArrayList") (zP2 : Fld Z h0 a "java/util/ArrayList" "elementData" "[Ljava/lang/Object;" .null) (zP3 : Fld Z h0 a "java/util/ArrayList" "size" "I" (.int (0 : Int32))) (zP4 : Fld Z h0 a "java/util/AbstractList" "modCount" "I" (.int (0 : Int32))) (zP5 : n0 ≤ a) :
    MetFree l (⟨"java/util/ArrayList", "<init>", "()V"⟩ : MethodName) (head1 (Jvm.Cond.code (⟨"java/util/ArrayList", "<init>", "()V"⟩ : MethodName) jdk_38_method_2_code 1 none :: ws) ({ frames := 3, cells := 0, slots := 0, locals := 36 } : Room)) (fun aA uU => aA = #[(.ref a)] ∧ Z.Warmed39 uU.vm ∧ uU.heap = h0) (fun _ _ _ _ _ => True) (fun _ uU oO uU' => ∃ vV lL, oO = .returned vV ∧ Q_calinit Z a de h0 n0 vV uU'.heap lL ∧ FrameEnd uU oO uU' lL ({ frames := 3, cells := 0, slots := 0, locals := 36 } : Room).cells ({ frames := 3, cells := 0, slots := 0, locals := 36 } : Room).slots) := by
  refine MetFree.of_bodySF (plainFor_of_name pn_java_util_ArrayList) hisR ?_
  intro p e s m args below meth c s₁ Bd hml0 hP hK
  obtain ⟨rfl, hZ, hh⟩ := hP
  have hx := Bd.exec
  have hby := Bd.bytes
  have hml : c.maxLocals = 1 := hml0
  have hown : s.vm.findClass "java/util/ArrayList" = some m.cls := findClass_of_methodNamed Bd.named
  have hnm := (name_of_methodNamed Bd.named Bd.method).1
  have X0 : Stand p l e ({ frames := 3, cells := 0, slots := 0, locals := 36 } : Room) s m #[(.ref a)] below meth c s₁ [] 0 0 := Stand.of_body Bd
  have e0 : s₁.heap = h0 := by rw [← hh, Bd.state]; rfl
  have N0 := Fr.nil n0
  refine Rch.out (Rch.st (fun t k => castTop (ef_calinit m a de) k) ?_)
  show Rch p.tables e below _ (s₁.setTop (mkF m 0 #[.val (.ref a)] []))
  refine Rch.st (fun _ hr => XS.aloadN X0.here hx rfl (hb hby d1_0) rfl rfl hr) ?_
  obtain ⟨_, T1, Lc1, X1, hQ1, st1⟩ := own_callI X0 hx hZ (y := (⟨"java/util/AbstractList", "<init>", "()V"⟩ : MethodName)) rfl hown (own_w hw 6 rfl) (own_w hw 7 rfl) (own_w hw 10 rfl) (own_w hw 11 rfl) (by decide) (W := 0) (cabsinit l Z a0 hw [] a h0 n0 zP0 zP1 zP2 zP3 zP4 zP5) (by decide) (by decide) e0 (by decide) (by decide) (g := (mkF m 1 #[.val (.ref a)] [(.ref a)])) rfl (by rw [hml]; rfl) (a := a) (argsL := []) (rest := []) (lenOf pd_0 rfl) rfl (by show 2 * 0 + _ ≤ _; exact Nat.le_of_eq rfl) (hb hby d1_1) rfl
  obtain ⟨rfl, N1q, Kp1, Op1, R1_0, R1_1, R1_2, R1_3⟩ := hQ1
  have N1 := Fr.app N0 N1q
  refine Rch.st st1 ?_
  have K2 : Keep h0 T1.heap [a] := (Keep.refl h0 [a]).trans Kp1 (allS (Or.inl (List.mem_of_getElem? (i := 0) rfl)) all0)
  refine Rch.st (fun _ hr => XS.aloadN X1.here hx rfl (hb hby d1_4) rfl rfl hr) ?_
  obtain ⟨T3, X3, e3, st3⟩ := getS2 X1 hx hZ hown (host := "") (Or.inl (own_w hw 23 rfl)) Via.refl rfl (zD0.ext Op1.2) (g := (mkF m 5 #[.val (.ref a)] [(.ref a)])) rfl (hb hby d1_5)
  refine Rch.st st3 ?_
  show Rch p.tables e below _ (T3.setTop (mkF m 8 #[.val (.ref a)] [(.ref de), (.ref a)]))
  obtain ⟨T4, h4, X4, e4, W4, st4⟩ := putF X3 hx hZ hown (host := "") (Or.inl (own_w hw 24 rfl)) Via.refl e3 R1_1 R1_0 (Or.inl (own_w hw 25 rfl)) (own_w hw 1 rfl) (ty := (.array (.object "java/lang/Object"))) (by decide) rfl rfl (g := (mkF m 8 #[.val (.ref a)] [(.ref de), (.ref a)])) rfl rfl (hb hby d1_8)
  refine Rch.st st4 ?_
  have N4 := Fr.snoc X4 N1 zP5
  have K5 : Keep h0 h4 [a] := K2.wr W4 (Or.inl (List.mem_of_getElem? (i := 0) rfl))
  have Fw4 := R1_1.same W4
  obtain ⟨fs, hr, hrun, hended, hW, hsame⟩ := X4.leave (v := none) (fun _ => rfl)
  have f6 : Old Z n0 h4 := (Op1.wr W4 zP5)
  have f7 : Exa Z h4 a "java/util/ArrayList" := (R1_0.wr W4)
  have f8 : Fld Z h4 a "java/util/ArrayList" "size" "I" (.int (0 : Int32)) := (R1_2.other W4 (Or.inr (slot_ne (Or.inl (own_w hw 67 rfl)) (Or.inl (own_w hw 25 rfl)) (by decide) (t := .int) (t' := (.array (.object "java/lang/Object"))) (by decide) (by decide))))
  have f9 : Fld Z h4 a "java/util/AbstractList" "modCount" "I" (.int (0 : Int32)) := (R1_3.other W4 (Or.inr (slot_ne (Or.inl (own_w hw 22 rfl)) (Or.inl (own_w hw 25 rfl)) (by decide) (t := .int) (t' := (.array (.object "java/lang/Object"))) (by decide) (by decide))))
  refine Rch.fin (u := T4.setFrames fs) (X4.returnOut hx Bd.returns (hb hby d1_11) hr) ⟨_, hrun, hended, _, _, rfl, ?_, ⟨_, rfl⟩, hW, hsame.mono (by decide) (by decide)⟩
  show Q_calinit Z a de h0 n0 _ T4.heap _
  rw [e4]
  exact ⟨rfl, N4, K5, f6, f7, Fw4, f8, f9⟩
theorem d12_0 : decode jdk_29_method_65_code 0 = .ok (.iload_n 0, 1) := by decide +kernel
theorem d12_1 : decode jdk_29_method_65_code 1 = .ok (.iload_n 1, 1) := by decide +kernel
theorem d12_2 : decode jdk_29_method_65_code 2 = .ok (.if_icmp .lt 7, 3) := by decide +kernel
theorem d12_5 : decode jdk_29_method_65_code 5 = .ok (.iload_n 0, 1) := by decide +kernel
theorem d12_6 : decode jdk_29_method_65_code 6 = .ok (.goto 4, 3) := by decide +kernel
theorem d12_10 : decode jdk_29_method_65_code 10 = .ok (.ireturn, 1) := by decide +kernel
def Q_cmax (Z : State)  (h0 : Heap) (n0 : Nat) (v : Option Value) (h : Heap) (L : List Loc) : Prop := v = some (.int (10 : Int32)) ∧ Fr n0 L ∧ h = h0
theorem ef_cmax (m : MethodId)  : entryFrame m #[(.int (10 : Int32)), (.int (1 : Int32))] 2 = mkF m 0 #[.val (.int (10 : Int32)), .val (.int (1 : Int32))] [] := by first | (simp [entryFrame, mkF, argsToLocals, Value.category]; done) | rfl
set_option maxRecDepth 65536 in
set_option maxHeartbeats 40000000 in
theorem cmax (l : Launch) (Z : State) (a0 : Array Value) (hw : ∀ d ∈ tables_1, d.before a0 Z = true) (ws : List Jvm.Cond)  (h0 : Heap) (n0 : Nat) :
    MetFree l (⟨"java/lang/Math", "max", "(II)I"⟩ : MethodName) (head1 (Jvm.Cond.code (⟨"java/lang/Math", "max", "(II)I"⟩ : MethodName) jdk_29_method_65_code 2 (some .int) :: ws) ({ frames := 0, cells := 0, slots := 0, locals := 0 } : Room)) (fun aA uU => aA = #[(.int (10 : Int32)), (.int (1 : Int32))] ∧ Z.Warmed39 uU.vm ∧ uU.heap = h0) (fun _ _ _ _ _ => True) (fun _ uU oO uU' => ∃ vV lL, oO = .returned vV ∧ Q_cmax Z  h0 n0 vV uU'.heap lL ∧ FrameEnd uU oO uU' lL ({ frames := 0, cells := 0, slots := 0, locals := 0 } : Room).cells ({ frames := 0, cells := 0, slots := 0, locals := 0 } : Room).slots) := by
  refine MetFree.of_bodySF (Jvm.Free.JP.mathPlain rfl (by decide +kernel)) hisR ?_
  intro p e s m args below meth c s₁ Bd hml0 hP hK
  obtain ⟨rfl, hZ, hh⟩ := hP
  have hx := Bd.exec
  have hby := Bd.bytes
  have hml : c.maxLocals = 2 := hml0
  have hown : s.vm.findClass "java/lang/Math" = some m.cls := findClass_of_methodNamed Bd.named
  have hnm := (name_of_methodNamed Bd.named Bd.method).1
  have X0 : Stand p l e ({ frames := 0, cells := 0, slots := 0, locals := 0 } : Room) s m #[(.int (10 : Int32)), (.int (1 : Int32))] below meth c s₁ [] 0 0 := Stand.of_body Bd
  have e0 : s₁.heap = h0 := by rw [← hh, Bd.state]; rfl
  have N0 := Fr.nil n0
  refine Rch.out (Rch.st (fun t k => castTop (ef_cmax m ) k) ?_)
  show Rch p.tables e below _ (s₁.setTop (mkF m 0 #[.val (.int (10 : Int32)), .val (.int (1 : Int32))] []))
  refine Rch.st (fun _ hr => XS.iloadN X0.here hx rfl (hb hby d12_0) rfl hr) ?_
  refine Rch.st (fun _ hr => XS.iloadN X0.here hx rfl (hb hby d12_1) rfl hr) ?_
  refine Rch.st (fun _ hr => XS.icmpNo X0.here hx rfl (hb hby d12_2) rfl (flt (by decide : ¬ ((10 : Int32) < (1 : Int32)))).1 hr) ?_
  refine Rch.st (fun _ hr => XS.iloadN X0.here hx rfl (hb hby d12_5) rfl hr) ?_
  show Rch p.tables e below _ (s₁.setTop (mkF m 6 #[.val (.int (10 : Int32)), .val (.int (1 : Int32))] [(.int (10 : Int32))]))
  refine Rch.st (fun _ hr => XS.goto X0.here hx rfl (pc0 := 6) (pc' := 10) rfl (hb hby d12_6) (by decide) (by decide) hr) ?_
  obtain ⟨fs, hr, hrun, hended, hW, hsame⟩ := X0.leave (v := some (.int (10 : Int32))) (fun h => by rw [Bd.returns] at h; cases h)
  refine Rch.fin (u := s₁.setFrames fs) (own_retI X0 hx Bd.returns (hb hby d12_10) hr) ⟨_, hrun, hended, _, _, rfl, ?_, ⟨_, rfl⟩, hW, hsame.mono (by decide) (by decide)⟩
  show Q_cmax Z  h0 n0 _ s₁.heap _
  exact ⟨rfl, N0, e0⟩
theorem d11_0 : decode jdk_38_method_6_code 0 = .ok (.aload_n 0, 1) := by decide +kernel
theorem d11_1 : decode jdk_38_method_6_code 1 = .ok (.getfield 9, 3) := by decide +kernel
theorem d11_4 : decode jdk_38_method_6_code 4 = .ok (.arraylength, 1) := by decide +kernel
theorem d11_5 : decode jdk_38_method_6_code 5 = .ok (.istore_n 2, 1) := by decide +kernel
theorem d11_6 : decode jdk_38_method_6_code 6 = .ok (.iload_n 2, 1) := by decide +kernel
theorem d11_7 : decode jdk_38_method_6_code 7 = .ok (.ifCond .gt 13, 3) := by decide +kernel
theorem d11_10 : decode jdk_38_method_6_code 10 = .ok (.aload_n 0, 1) := by decide +kernel
theorem d11_11 : decode jdk_38_method_6_code 11 = .ok (.getfield 9, 3) := by decide +kernel
theorem d11_14 : decode jdk_38_method_6_code 14 = .ok (.getstatic 39, 3) := by decide +kernel
theorem d11_17 : decode jdk_38_method_6_code 17 = .ok (.if_acmp .eq 28, 3) := by decide +kernel
theorem d11_45 : decode jdk_38_method_6_code 45 = .ok (.aload_n 0, 1) := by decide +kernel
theorem d11_46 : decode jdk_38_method_6_code 46 = .ok (.bipush 10, 2) := by decide +kernel
theorem d11_48 : decode jdk_38_method_6_code 48 = .ok (.iload_n 1, 1) := by decide +kernel
theorem d11_49 : decode jdk_38_method_6_code 49 = .ok (.invokestatic 79, 3) := by decide +kernel
theorem pd_8 : parseMethodDescriptor "(II)I" = some ⟨[.int, .int], some .int⟩ := by decide +kernel
theorem d11_52 : decode jdk_38_method_6_code 52 = .ok (.anewarray 7, 3) := by decide +kernel
theorem d11_55 : decode jdk_38_method_6_code 55 = .ok (.dup_x1, 1) := by decide +kernel
theorem d11_56 : decode jdk_38_method_6_code 56 = .ok (.putfield 9, 3) := by decide +kernel
theorem d11_59 : decode jdk_38_method_6_code 59 = .ok (.areturn, 1) := by decide +kernel
def Q_cgrowI (Z : State) (a : Addr) (de : Addr) (kde : ClassId) (mc : Int32) (h0 : Heap) (n0 : Nat) (v : Option Value) (h : Heap) (L : List Loc) : Prop := ∃ (d : Addr) (kd : ClassId), v = some (.ref d) ∧ Fr n0 L ∧ Keep h0 h [a] ∧ Old Z n0 h ∧ Exa Z h a "java/util/ArrayList" ∧ Fld Z h a "java/util/ArrayList" "elementData" "[Ljava/lang/Object;" (.ref d) ∧ Fld Z h a "java/util/ArrayList" "size" "I" (.int (0 : Int32)) ∧ Fld Z h a "java/util/AbstractList" "modCount" "I" (.int mc) ∧ h0.size ≤ d ∧ Arv Z h d kd (.object "java/lang/Object") (10 : Int32) [.null, .null, .null, .null, .null, .null, .null, .null, .null, .null] .null ∧ Ovr Z kd "java/lang/Object"
theorem ef_cgrowI (m : MethodId) (a : Addr) (de : Addr) (kde : ClassId) (mc : Int32) : entryFrame m #[(.ref a), (.int (1 : Int32))] 4 = mkF m 0 #[.val (.ref a), .val (.int (1 : Int32)), .unset, .unset] [] := by first | (simp [entryFrame, mkF, argsToLocals, Value.category]; done) | rfl
set_option maxRecDepth 65536 in
set_option maxHeartbeats 40000000 in
theorem cgrowI (l : Launch) (Z : State) (a0 : Array Value) (hw : ∀ d ∈ tables_1, d.before a0 Z = true) (ws : List Jvm.Cond) (a : Addr) (de : Addr) (kde : ClassId) (mc : Int32) (h0 : Heap) (n0 : Nat) (zD0 : Sta Z Z.heap "java/util/ArrayList" "DEFAULTCAPACITY_EMPTY_ELEMENTDATA" "[Ljava/lang/Object;" (.ref de)) (zD1 : Arv Z Z.heap de kde (.object "java/lang/Object") (0 : Int32) [] .null) (zP0 : Old Z n0 h0) (zP1 : Exa Z h0 a "java/util/ArrayList") (zP2 : Fld Z h0 a "java/util/ArrayList" "elementData" "[Ljava/lang/Object;" (.ref de)) (zP3 : Fld Z h0 a "java/util/ArrayList" "size" "I" (.int (0 : Int32))) (zP4 : Fld Z h0 a "java/util/AbstractList" "modCount" "I" (.int mc)) (zP5 : n0 ≤ a) :
    MetFree l (⟨"java/util/ArrayList", "grow", "(I)[Ljava/lang/Object;"⟩ : MethodName) (head1 (Jvm.Cond.code (⟨"java/util/ArrayList", "grow", "(I)[Ljava/lang/Object;"⟩ : MethodName) jdk_38_method_6_code 4 (some (.array (.object "java/lang/Object"))) :: ws) ({ frames := 1, cells := 1, slots := 10, locals := 14 } : Room)) (fun aA uU => aA = #[(.ref a), (.int (1 : Int32))] ∧ Z.Warmed39 uU.vm ∧ uU.heap = h0) (fun _ _ _ _ _ => True) (fun _ uU oO uU' => ∃ vV lL, oO = .returned vV ∧ Q_cgrowI Z a de kde mc h0 n0 vV uU'.heap lL ∧ FrameEnd uU oO uU' lL ({ frames := 1, cells := 1, slots := 10, locals := 14 } : Room).cells ({ frames := 1, cells := 1, slots := 10, locals := 14 } : Room).slots) := by
  refine MetFree.of_bodySF (plainFor_of_name pn_java_util_ArrayList) hisR ?_
  intro p e s m args below meth c s₁ Bd hml0 hP hK
  obtain ⟨rfl, hZ, hh⟩ := hP
  have hx := Bd.exec
  have hby := Bd.bytes
  have hml : c.maxLocals = 4 := hml0
  have hown : s.vm.findClass "java/util/ArrayList" = some m.cls := findClass_of_methodNamed Bd.named
  have hnm := (name_of_methodNamed Bd.named Bd.method).1
  have X0 : Stand p l e ({ frames := 1, cells := 1, slots := 10, locals := 14 } : Room) s m #[(.ref a), (.int (1 : Int32))] below meth c s₁ [] 0 0 := Stand.of_body Bd
  have e0 : s₁.heap = h0 := by rw [← hh, Bd.state]; rfl
  have N0 := Fr.nil n0
  refine Rch.out (Rch.st (fun t k => castTop (ef_cgrowI m a de kde mc) k) ?_)
  show Rch p.tables e below _ (s₁.setTop (mkF m 0 #[.val (.ref a), .val (.int (1 : Int32)), .unset, .unset] []))
  refine Rch.st (fun _ hr => XS.aloadN X0.here hx rfl (hb hby d11_0) rfl rfl hr) ?_
  obtain ⟨T1, X1, e1, st1⟩ := getF X0 hx hZ hown (host := "") (Or.inl (own_w hw 24 rfl)) Via.refl e0 zP2 (g := (mkF m 1 #[.val (.ref a), .val (.int (1 : Int32)), .unset, .unset] [(.ref a)])) rfl rfl (hb hby d11_1)
  refine Rch.st st1 ?_
  obtain ⟨cl2, Ar2, -, Sz2, Ng2, -, -⟩ := id (zD1.ext zP0.2)
  refine Rch.st (fun t hr => X1.arraylength hx (by rw [e1]; exact Ar2.1) (State.isArrayOf_alike hZ.alike Ar2.2.1) (g := (mkF m 4 #[.val (.ref a), .val (.int (1 : Int32)), .unset, .unset] [(.ref de)])) rfl rfl (hb hby d11_4) t hr) ?_
  rw [len_of Sz2 Ng2]
  refine Rch.st (fun _ hr => XS.istoreN X1.here hx rfl (hb hby d11_5) rfl (l' := #[.val (.ref a), .val (.int (1 : Int32)), .val (.int (0 : Int32)), .unset]) rfl hr) ?_
  show Rch p.tables e below _ (T1.setTop (mkF m 6 #[.val (.ref a), .val (.int (1 : Int32)), .val (.int (0 : Int32)), .unset] []))
  refine Rch.st (fun _ hr => XS.iloadN X1.here hx rfl (hb hby d11_6) rfl hr) ?_
  refine Rch.st (fun _ hr => XS.ifNo X1.here hx rfl (hb hby d11_7) rfl ((if0 _ _).trans (flt (by decide : ¬ ((0 : Int32) < (0 : Int32)))).2.2.1) hr) ?_
  refine Rch.st (fun _ hr => XS.aloadN X1.here hx rfl (hb hby d11_10) rfl rfl hr) ?_
  obtain ⟨T3, X3, e3, st3⟩ := getF X1 hx hZ hown (host := "") (Or.inl (own_w hw 24 rfl)) Via.refl e1 zP2 (g := (mkF m 11 #[.val (.ref a), .val (.int (1 : Int32)), .val (.int (0 : Int32)), .unset] [(.ref a)])) rfl rfl (hb hby d11_11)
  refine Rch.st st3 ?_
  show Rch p.tables e below _ (T3.setTop (mkF m 14 #[.val (.ref a), .val (.int (1 : Int32)), .val (.int (0 : Int32)), .unset] [(.ref de)]))
  obtain ⟨T4, X4, e4, st4⟩ := getS2 X3 hx hZ hown (host := "") (Or.inl (own_w hw 23 rfl)) Via.refl e3 (zD0.ext zP0.2) (g := (mkF m 14 #[.val (.ref a), .val (.int (1 : Int32)), .val (.int (0 : Int32)), .unset] [(.ref de)])) rfl (hb hby d11_14)
  refine Rch.st st4 ?_
  refine Rch.st (fun _ hr => Jvm.RoadKit.acmp (g := (mkF m 17 #[.val (.ref a), .val (.int (1 : Int32)), .val (.int (0 : Int32)), .unset] [(.ref de), (.ref de)])) X4 hx rfl rfl rfl (pc0 := 17) (pc' := 45) (same := true) rfl (hb hby d11_17) rfl (decide_eq_true rfl) (by decide) (by decide) hr) ?_
  refine Rch.st (fun _ hr => XS.aloadN X4.here hx rfl (hb hby d11_45) rfl rfl hr) ?_
  refine Rch.st (fun _ hr => XS.bipush X4.here hx rfl (hb hby d11_46) hr) ?_
  show Rch p.tables e below _ (T4.setTop (mkF m 48 #[.val (.ref a), .val (.int (1 : Int32)), .val (.int (0 : Int32)), .unset] [(.int (10 : Int32)), (.ref a)]))
  refine Rch.st (fun _ hr => XS.iloadN X4.here hx rfl (hb hby d11_48) rfl hr) ?_
  obtain ⟨_, T5, Lc5, X5, hQ5, st5⟩ := own_callS X4 hx hZ (y := (⟨"java/lang/Math", "max", "(II)I"⟩ : MethodName)) hown (own_w hw 83 rfl) (own_w hw 84 rfl) (own_w hw 85 rfl) (own_w hw 86 rfl) (by decide) (W := 1) (cmax l Z a0 hw []  h0 n0 ) (by decide) (by decide) e4 (by decide) (by decide) (g := (mkF m 49 #[.val (.ref a), .val (.int (1 : Int32)), .val (.int (0 : Int32)), .unset] [(.int (1 : Int32)), (.int (10 : Int32)), (.ref a)])) rfl (by rw [hml]; rfl) (argsL := [(.int (10 : Int32)), (.int (1 : Int32))]) (rest := [(.ref a)]) (lenOf pd_8 rfl) rfl (by show 2 * 0 + _ ≤ _; exact Nat.le_of_eq rfl) (hb hby d11_49) rfl
  obtain ⟨rfl, N5q, e5⟩ := hQ5
  have N5 := Fr.app N0 N5q
  refine Rch.st st5 ?_
  obtain ⟨T6, h6, k6, X6, e6, E6, A6, O6, st6⟩ := newR X5 hx hZ hown (own_w hw 87 rfl) (own_w hw 88 rfl) e5 (g := (mkF m 52 #[.val (.ref a), .val (.int (1 : Int32)), .val (.int (0 : Int32)), .unset] [(.int (10 : Int32)), (.ref a)])) rfl (hb hby d11_52) rfl (by decide) (cap := 10) (by decide) (by decide) (by decide) (by decide)
  obtain ⟨b6, g6⟩ : ∃ z, z = h0.size := ⟨_, rfl⟩
  rw [← g6] at A6 st6
  refine Rch.st st6 ?_
  have q6 : h0.size ≤ b6 := Nat.le_of_eq g6.symm
  have ne7 : a ≠ b6 := Nat.ne_of_lt (Nat.lt_of_lt_of_le zP4.lt q6)
  have g_b6 : n0 ≤ b6 := Nat.le_trans (Nat.le_trans (Nat.le_of_eq zP0.1.symm) zP0.2.1) q6
  have sz_b6 : h0.size ≤ b6 := Nat.le_trans (Keep.refl h0 [a]).1 q6
  have K8 : Keep h0 h6 [a] := (Keep.refl h0 [a]).ext E6
  have V6 : Arv Z h6 b6 k6 (.object "java/lang/Object") (10 : Int32) [.null, .null, .null, .null, .null, .null, .null, .null, .null, .null] .null := (Arv.new A6 (by decide)).pad (pad_rep [] .null 10)
  refine Rch.st (fun _ hr => XS.dupX1 X6.here hx rfl (hb hby d11_55) rfl rfl rfl hr) ?_
  show Rch p.tables e below _ (T6.setTop (mkF m 56 #[.val (.ref a), .val (.int (1 : Int32)), .val (.int (0 : Int32)), .unset] [(.ref b6), (.ref a), (.ref b6)]))
  have f9 : Fld Z h6 a "java/util/ArrayList" "elementData" "[Ljava/lang/Object;" (.ref de) := (zP2.ext E6)
  have f10 : Exa Z h6 a "java/util/ArrayList" := (zP1.ext E6)
  obtain ⟨T11, h11, X11, e11, W11, st11⟩ := putF X6 hx hZ hown (host := "") (Or.inl (own_w hw 24 rfl)) Via.refl e6 f9 f10 (Or.inl (own_w hw 25 rfl)) (own_w hw 1 rfl) (ty := (.array (.object "java/lang/Object"))) (by decide) rfl rfl (g := (mkF m 56 #[.val (.ref a), .val (.int (1 : Int32)), .val (.int (0 : Int32)), .unset] [(.ref b6), (.ref a), (.ref b6)])) rfl rfl (hb hby d11_56)
  refine Rch.st st11 ?_
  have N11 := Fr.snoc X11 N5 zP5
  have f12 : Old Z n0 h6 := (zP0.ext E6)
  have K13 : Keep h0 h11 [a] := K8.wr W11 (Or.inl (List.mem_of_getElem? (i := 0) rfl))
  have Fw11 := f9.same W11
  obtain ⟨fs, hr, hrun, hended, hW, hsame⟩ := X11.leave (v := some (.ref b6)) (fun h => by rw [Bd.returns] at h; cases h)
  have f14 : Old Z n0 h11 := (f12.wr W11 zP5)
  have f15 : Exa Z h11 a "java/util/ArrayList" := (f10.wr W11)
  have f16 : Fld Z h11 a "java/util/ArrayList" "size" "I" (.int (0 : Int32)) := ((zP3.ext E6).other W11 (Or.inr (slot_ne (Or.inl (own_w hw 67 rfl)) (Or.inl (own_w hw 25 rfl)) (by decide) (t := .int) (t' := (.array (.object "java/lang/Object"))) (by decide) (by decide))))
  have f17 : Fld Z h11 a "java/util/AbstractList" "modCount" "I" (.int mc) := ((zP4.ext E6).other W11 (Or.inr (slot_ne (Or.inl (own_w hw 22 rfl)) (Or.inl (own_w hw 25 rfl)) (by decide) (t := .int) (t' := (.array (.object "java/lang/Object"))) (by decide) (by decide))))
  have f18 : Arv Z h11 b6 k6 (.object "java/lang/Object") (10 : Int32) [.null, .null, .null, .null, .null, .null, .null, .null, .null, .null] .null := (V6.other W11 (Ne.symm ne7))
  have f19 : Ovr Z k6 "java/lang/Object" := O6
  refine Rch.fin (u := T11.setFrames fs) (own_retA X11 hx Bd.returns rfl rfl rfl (hb hby d11_59) hr) ⟨_, hrun, hended, _, _, rfl, ?_, ⟨_, rfl⟩, hW, hsame.mono (by decide) (by decide)⟩
  show Q_cgrowI Z a de kde mc h0 n0 _ T11.heap _
  rw [e11]
  exact ⟨b6, k6, rfl, N11, K13, f14, f15, Fw11, f16, f17, sz_b6, f18, f19⟩
theorem d10_0 : decode jdk_38_method_7_code 0 = .ok (.aload_n 0, 1) := by decide +kernel
theorem d10_1 : decode jdk_38_method_7_code 1 = .ok (.aload_n 0, 1) := by decide +kernel
theorem d10_2 : decode jdk_38_method_7_code 2 = .ok (.getfield 48, 3) := by decide +kernel
theorem d10_5 : decode jdk_38_method_7_code 5 = .ok (.iconst 1, 1) := by decide +kernel
theorem d10_6 : decode jdk_38_method_7_code 6 = .ok (.iadd, 1) := by decide +kernel
theorem d10_7 : decode jdk_38_method_7_code 7 = .ok (.invokevirtual 69, 3) := by decide +kernel
theorem pd_9 : parseMethodDescriptor "(I)[Ljava/lang/Object;" = some ⟨[.int], some (.array (.object "java/lang/Object"))⟩ := by decide +kernel
theorem d10_10 : decode jdk_38_method_7_code 10 = .ok (.areturn, 1) := by decide +kernel
def Q_cgrow (Z : State) (a : Addr) (de : Addr) (kde : ClassId) (mc : Int32) (h0 : Heap) (n0 : Nat) (v : Option Value) (h : Heap) (L : List Loc) : Prop := ∃ (d : Addr) (kd : ClassId), v = some (.ref d) ∧ Fr n0 L ∧ Keep h0 h [a] ∧ Old Z n0 h ∧ Exa Z h a "java/util/ArrayList" ∧ Fld Z h a "java/util/ArrayList" "elementData" "[Ljava/lang/Object;" (.ref d) ∧ Fld Z h a "java/util/ArrayList" "size" "I" (.int (0 : Int32)) ∧ Fld Z h a "java/util/AbstractList" "modCount" "I" (.int mc) ∧ h0.size ≤ d ∧ Arv Z h d kd (.object "java/lang/Object") (10 : Int32) [.null, .null, .null, .null, .null, .null, .null, .null, .null, .null] .null ∧ Ovr Z kd "java/lang/Object"
theorem ef_cgrow (m : MethodId) (a : Addr) (de : Addr) (kde : ClassId) (mc : Int32) : entryFrame m #[(.ref a)] 1 = mkF m 0 #[.val (.ref a)] [] := by first | (simp [entryFrame, mkF, argsToLocals, Value.category]; done) | rfl
set_option maxRecDepth 65536 in
set_option maxHeartbeats 40000000 in
theorem cgrow (l : Launch) (Z : State) (a0 : Array Value) (hw : ∀ d ∈ tables_1, d.before a0 Z = true) (ws : List Jvm.Cond) (a : Addr) (de : Addr) (kde : ClassId) (mc : Int32) (h0 : Heap) (n0 : Nat) (zD0 : Sta Z Z.heap "java/util/ArrayList" "DEFAULTCAPACITY_EMPTY_ELEMENTDATA" "[Ljava/lang/Object;" (.ref de)) (zD1 : Arv Z Z.heap de kde (.object "java/lang/Object") (0 : Int32) [] .null) (zP0 : Old Z n0 h0) (zP1 : Exa Z h0 a "java/util/ArrayList") (zP2 : Fld Z h0 a "java/util/ArrayList" "elementData" "[Ljava/lang/Object;" (.ref de)) (zP3 : Fld Z h0 a "java/util/ArrayList" "size" "I" (.int (0 : Int32))) (zP4 : Fld Z h0 a "java/util/AbstractList" "modCount" "I" (.int mc)) (zP5 : n0 ≤ a) :
    MetFree l (⟨"java/util/ArrayList", "grow", "()[Ljava/lang/Object;"⟩ : MethodName) (head1 (Jvm.Cond.code (⟨"java/util/ArrayList", "grow", "()[Ljava/lang/Object;"⟩ : MethodName) jdk_38_method_7_code 1 (some (.array (.object "java/lang/Object"))) :: ws) ({ frames := 2, cells := 1, slots := 10, locals := 29 } : Room)) (fun aA uU => aA = #[(.ref a)] ∧ Z.Warmed39 uU.vm ∧ uU.heap = h0) (fun _ _ _ _ _ => True) (fun _ uU oO uU' => ∃ vV lL, oO = .returned vV ∧ Q_cgrow Z a de kde mc h0 n0 vV uU'.heap lL ∧ FrameEnd uU oO uU' lL ({ frames := 2, cells := 1, slots := 10, locals := 29 } : Room).cells ({ frames := 2, cells := 1, slots := 10, locals := 29 } : Room).slots) := by
  refine MetFree.of_bodySF (plainFor_of_name pn_java_util_ArrayList) hisR ?_
  intro p e s m args below meth c s₁ Bd hml0 hP hK
  obtain ⟨rfl, hZ, hh⟩ := hP
  have hx := Bd.exec
  have hby := Bd.bytes
  have hml : c.maxLocals = 1 := hml0
  have hown : s.vm.findClass "java/util/ArrayList" = some m.cls := findClass_of_methodNamed Bd.named
  have hnm := (name_of_methodNamed Bd.named Bd.method).1
  have X0 : Stand p l e ({ frames := 2, cells := 1, slots := 10, locals := 29 } : Room) s m #[(.ref a)] below meth c s₁ [] 0 0 := Stand.of_body Bd
  have e0 : s₁.heap = h0 := by rw [← hh, Bd.state]; rfl
  have N0 := Fr.nil n0
  refine Rch.out (Rch.st (fun t k => castTop (ef_cgrow m a de kde mc) k) ?_)
  show Rch p.tables e below _ (s₁.setTop (mkF m 0 #[.val (.ref a)] []))
  refine Rch.st (fun _ hr => XS.aloadN X0.here hx rfl (hb hby d10_0) rfl rfl hr) ?_
  refine Rch.st (fun _ hr => XS.aloadN X0.here hx rfl (hb hby d10_1) rfl rfl hr) ?_
  obtain ⟨T1, X1, e1, st1⟩ := getF X0 hx hZ hown (host := "") (Or.inl (own_w hw 66 rfl)) Via.refl e0 zP3 (g := (mkF m 2 #[.val (.ref a)] [(.ref a), (.ref a)])) rfl rfl (hb hby d10_2)
  refine Rch.st st1 ?_
  refine Rch.st (fun _ hr => XS.iconst X1.here hx rfl (hb hby d10_5) hr) ?_
  show Rch p.tables e below _ (T1.setTop (mkF m 6 #[.val (.ref a)] [(.int (1 : Int32)), (.int (0 : Int32)), (.ref a)]))
  refine Rch.st (fun _ hr => XS.iadd X1.here hx rfl (hb hby d10_6) rfl hr) ?_
  obtain ⟨_, T2, Lc2, X2, hQ2, st2⟩ := own_callP X1 hx hZ (y := (⟨"java/util/ArrayList", "grow", "(I)[Ljava/lang/Object;"⟩ : MethodName)) hown (own_w hw 78 rfl) (own_w hw 79 rfl) (own_w hw 81 rfl) (own_w hw 80 rfl) (own_w hw 2 rfl) (own_w hw 82 rfl) (by decide) (W := 0) (cgrowI l Z a0 hw [] a de kde mc h0 n0 zD0 zD1 zP0 zP1 zP2 zP3 zP4 zP5) (by decide) (by decide) e1 zP1 (by decide) (by decide) (g := (mkF m 7 #[.val (.ref a)] [(.int (1 : Int32)), (.ref a)])) rfl (by rw [hml]; rfl) (argsL := [(.int (1 : Int32))]) (rest := []) (lenOf pd_9 rfl) rfl (by show 2 * 0 + _ ≤ _; exact Nat.le_of_eq rfl) (hb hby d10_7) rfl
  obtain ⟨d_2, kd_2, rfl, N2q, Kp2, Op2, R2_0, R2_1, R2_2, R2_3, R2_4, R2_5, R2_6⟩ := hQ2
  have N2 := Fr.app N0 N2q
  refine Rch.st st2 ?_
  have ne3 : a ≠ d_2 := Nat.ne_of_lt (Nat.lt_of_lt_of_le zP4.lt R2_4)
  have g_d_2 : n0 ≤ d_2 := Nat.le_trans (Nat.le_trans (Nat.le_of_eq zP0.1.symm) zP0.2.1) R2_4
  have sz_d_2 : h0.size ≤ d_2 := Nat.le_trans (Keep.refl h0 [a]).1 R2_4
  have K4 : Keep h0 T2.heap [a] := (Keep.refl h0 [a]).trans Kp2 (allS (Or.inl (List.mem_of_getElem? (i := 0) rfl)) all0)
  obtain ⟨fs, hr, hrun, hended, hW, hsame⟩ := X2.leave (v := some (.ref d_2)) (fun h => by rw [Bd.returns] at h; cases h)
  refine Rch.fin (u := T2.setFrames fs) (own_retA X2 hx Bd.returns rfl rfl rfl (hb hby d10_10) hr) ⟨_, hrun, hended, _, _, rfl, ?_, ⟨_, rfl⟩, hW, hsame.mono (by decide) (by decide)⟩
  show Q_cgrow Z a de kde mc h0 n0 _ T2.heap _
  exact ⟨d_2, kd_2, rfl, N2, K4, Op2, R2_0, R2_1, R2_2, R2_3, sz_d_2, R2_5, R2_6⟩
theorem d9_0 : decode jdk_38_method_24_code 0 = .ok (.iload_n 3, 1) := by decide +kernel
theorem d9_1 : decode jdk_38_method_24_code 1 = .ok (.aload_n 2, 1) := by decide +kernel
theorem d9_2 : decode jdk_38_method_24_code 2 = .ok (.arraylength, 1) := by decide +kernel
theorem d9_3 : decode jdk_38_method_24_code 3 = .ok (.if_icmp .ne 8, 3) := by decide +kernel
theorem d9_6 : decode jdk_38_method_24_code 6 = .ok (.aload_n 0, 1) := by decide +kernel
theorem d9_7 : decode jdk_38_method_24_code 7 = .ok (.invokevirtual 129, 3) := by decide +kernel
theorem pd_10 : parseMethodDescriptor "()[Ljava/lang/Object;" = some ⟨[], some (.array (.object "java/lang/Object"))⟩ := by decide +kernel
theorem d9_10 : decode jdk_38_method_24_code 10 = .ok (.astore_n 2, 1) := by decide +kernel
theorem d9_11 : decode jdk_38_method_24_code 11 = .ok (.aload_n 2, 1) := by decide +kernel
theorem d9_12 : decode jdk_38_method_24_code 12 = .ok (.iload_n 3, 1) := by decide +kernel
theorem d9_13 : decode jdk_38_method_24_code 13 = .ok (.aload_n 1, 1) := by decide +kernel
theorem d9_14 : decode jdk_38_method_24_code 14 = .ok (.aastore, 1) := by decide +kernel
theorem d9_15 : decode jdk_38_method_24_code 15 = .ok (.aload_n 0, 1) := by decide +kernel
theorem d9_16 : decode jdk_38_method_24_code 16 = .ok (.iload_n 3, 1) := by decide +kernel
theorem d9_17 : decode jdk_38_method_24_code 17 = .ok (.iconst 1, 1) := by decide +kernel
theorem d9_18 : decode jdk_38_method_24_code 18 = .ok (.iadd, 1) := by decide +kernel
theorem d9_19 : decode jdk_38_method_24_code 19 = .ok (.putfield 48, 3) := by decide +kernel
theorem d9_22 : decode jdk_38_method_24_code 22 = .ok (.return_, 1) := by decide +kernel
def Q_caddp0 (Z : State) (a : Addr) (de : Addr) (kde : ClassId) (mc : Int32) (ea : Addr) (h0 : Heap) (n0 : Nat) (v : Option Value) (h : Heap) (L : List Loc) : Prop := ∃ (d : Addr) (kd : ClassId), v = none ∧ Fr n0 L ∧ Keep h0 h [a] ∧ Old Z n0 h ∧ Exa Z h a "java/util/ArrayList" ∧ Fld Z h a "java/util/ArrayList" "elementData" "[Ljava/lang/Object;" (.ref d) ∧ Fld Z h a "java/util/ArrayList" "size" "I" (.int (1 : Int32)) ∧ Fld Z h a "java/util/AbstractList" "modCount" "I" (.int mc) ∧ h0.size ≤ d ∧ Arv Z h d kd (.object "java/lang/Object") (10 : Int32) [(.ref ea), .null, .null, .null, .null, .null, .null, .null, .null, .null] .null ∧ Ovr Z kd "java/lang/Object"
theorem ef_caddp0 (m : MethodId) (a : Addr) (de : Addr) (kde : ClassId) (mc : Int32) (ea : Addr) : entryFrame m #[(.ref a), (.ref ea), (.ref de), (.int (0 : Int32))] 4 = mkF m 0 #[.val (.ref a), .val (.ref ea), .val (.ref de), .val (.int (0 : Int32))] [] := by first | (simp [entryFrame, mkF, argsToLocals, Value.category]; done) | rfl
set_option maxRecDepth 65536 in
set_option maxHeartbeats 40000000 in
theorem caddp0 (l : Launch) (Z : State) (a0 : Array Value) (hw : ∀ d ∈ tables_1, d.before a0 Z = true) (ws : List Jvm.Cond) (a : Addr) (de : Addr) (kde : ClassId) (mc : Int32) (ea : Addr) (h0 : Heap) (n0 : Nat) (zD0 : Sta Z Z.heap "java/util/ArrayList" "DEFAULTCAPACITY_EMPTY_ELEMENTDATA" "[Ljava/lang/Object;" (.ref de)) (zD1 : Arv Z Z.heap de kde (.object "java/lang/Object") (0 : Int32) [] .null) (zP0 : Old Z n0 h0) (zP1 : Exa Z h0 a "java/util/ArrayList") (zP2 : Fld Z h0 a "java/util/ArrayList" "elementData" "[Ljava/lang/Object;" (.ref de)) (zP3 : Fld Z h0 a "java/util/ArrayList" "size" "I" (.int (0 : Int32))) (zP4 : Fld Z h0 a "java/util/AbstractList" "modCount" "I" (.int mc)) (zP5 : Exa Z h0 ea "com/example/slotwright/slotwright/Market$Advertiser") (zP6 : n0 ≤ a) (zP7 : a ≠ ea) :
    MetFree l (⟨"java/util/ArrayList", "add", "(Ljava/lang/Object;[Ljava/lang/Object;I)V"⟩ : MethodName) (head1 (Jvm.Cond.code (⟨"java/util/ArrayList", "add", "(Ljava/lang/Object;[Ljava/lang/Object;I)V"⟩ : MethodName) jdk_38_method_24_code 4 none :: ws) ({ frames := 3, cells := 1, slots := 10, locals := 41 } : Room)) (fun aA uU => aA = #[(.ref a), (.ref ea), (.ref de), (.int (0 : Int32))] ∧ Z.Warmed39 uU.vm ∧ uU.heap = h0) (fun _ _ _ _ _ => True) (fun _ uU oO uU' => ∃ vV lL, oO = .returned vV ∧ Q_caddp0 Z a de kde mc ea h0 n0 vV uU'.heap lL ∧ FrameEnd uU oO uU' lL ({ frames := 3, cells := 1, slots := 10, locals := 41 } : Room).cells ({ frames := 3, cells := 1, slots := 10, locals := 41 } : Room).slots) := by
  refine MetFree.of_bodySF (plainFor_of_name pn_java_util_ArrayList) hisR ?_
  intro p e s m args below meth c s₁ Bd hml0 hP hK
  obtain ⟨rfl, hZ, hh⟩ := hP
  have hx := Bd.exec
  have hby := Bd.bytes
  have hml : c.maxLocals = 4 := hml0
  have hown : s.vm.findClass "java/util/ArrayList" = some m.cls := findClass_of_methodNamed Bd.named
  have hnm := (name_of_methodNamed Bd.named Bd.method).1
  have X0 : Stand p l e ({ frames := 3, cells := 1, slots := 10, locals := 41 } : Room) s m #[(.ref a), (.ref ea), (.ref de), (.int (0 : Int32))] below meth c s₁ [] 0 0 := Stand.of_body Bd
  have e0 : s₁.heap = h0 := by rw [← hh, Bd.state]; rfl
  have N0 := Fr.nil n0
  refine Rch.out (Rch.st (fun t k => castTop (ef_caddp0 m a de kde mc ea) k) ?_)
  show Rch p.tables e below _ (s₁.setTop (mkF m 0 #[.val (.ref a), .val (.ref ea), .val (.ref de), .val (.int (0 : Int32))] []))
  refine Rch.st (fun _ hr => XS.iloadN X0.here hx rfl (hb hby d9_0) rfl hr) ?_
  refine Rch.st (fun _ hr => XS.aloadN X0.here hx rfl (hb hby d9_1) rfl rfl hr) ?_
  obtain ⟨cl1, Ar1, -, Sz1, Ng1, -, -⟩ := id (zD1.ext zP0.2)
  refine Rch.st (fun t hr => X0.arraylength hx (by rw [e0]; exact Ar1.1) (State.isArrayOf_alike hZ.alike Ar1.2.1) (g := (mkF m 2 #[.val (.ref a), .val (.ref ea), .val (.ref de), .val (.int (0 : Int32))] [(.ref de), (.int (0 : Int32))])) rfl rfl (hb hby d9_2) t hr) ?_
  rw [len_of Sz1 Ng1]
  refine Rch.st (fun _ hr => XS.icmpNo X0.here hx rfl (hb hby d9_3) rfl (teq (by decide : (0 : Int32) = (0 : Int32))).2 hr) ?_
  show Rch p.tables e below _ (s₁.setTop (mkF m 6 #[.val (.ref a), .val (.ref ea), .val (.ref de), .val (.int (0 : Int32))] []))
  refine Rch.st (fun _ hr => XS.aloadN X0.here hx rfl (hb hby d9_6) rfl rfl hr) ?_
  obtain ⟨_, T2, Lc2, X2, hQ2, st2⟩ := own_callP X0 hx hZ (y := (⟨"java/util/ArrayList", "grow", "()[Ljava/lang/Object;"⟩ : MethodName)) hown (own_w hw 73 rfl) (own_w hw 74 rfl) (own_w hw 76 rfl) (own_w hw 75 rfl) (own_w hw 2 rfl) (own_w hw 77 rfl) (by decide) (W := 0) (cgrow l Z a0 hw [] a de kde mc h0 n0 zD0 zD1 zP0 zP1 zP2 zP3 zP4 zP6) (by decide) (by decide) e0 zP1 (by decide) (by decide) (g := (mkF m 7 #[.val (.ref a), .val (.ref ea), .val (.ref de), .val (.int (0 : Int32))] [(.ref a)])) rfl (by rw [hml]; rfl) (argsL := []) (rest := []) (lenOf pd_10 rfl) rfl (by show 2 * 0 + _ ≤ _; exact Nat.le_of_eq rfl) (hb hby d9_7) rfl
  obtain ⟨d_2, kd_2, rfl, N2q, Kp2, Op2, R2_0, R2_1, R2_2, R2_3, R2_4, R2_5, R2_6⟩ := hQ2
  have N2 := Fr.app N0 N2q
  refine Rch.st st2 ?_
  have ne3 : a ≠ d_2 := Nat.ne_of_lt (Nat.lt_of_lt_of_le zP4.lt R2_4)
  have ne4 : ea ≠ d_2 := Nat.ne_of_lt (Nat.lt_of_lt_of_le zP5.lt R2_4)
  have g_d_2 : n0 ≤ d_2 := Nat.le_trans (Nat.le_trans (Nat.le_of_eq zP0.1.symm) zP0.2.1) R2_4
  have sz_d_2 : h0.size ≤ d_2 := Nat.le_trans (Keep.refl h0 [a]).1 R2_4
  have K5 : Keep h0 T2.heap [a] := (Keep.refl h0 [a]).trans Kp2 (allS (Or.inl (List.mem_of_getElem? (i := 0) rfl)) all0)
  refine Rch.st (fun _ hr => XS.astoreN X2.here hx rfl (hb hby d9_10) rfl rfl (l' := #[.val (.ref a), .val (.ref ea), .val (.ref d_2), .val (.int (0 : Int32))]) rfl hr) ?_
  refine Rch.st (fun _ hr => XS.aloadN X2.here hx rfl (hb hby d9_11) rfl rfl hr) ?_
  show Rch p.tables e below _ (T2.setTop (mkF m 12 #[.val (.ref a), .val (.ref ea), .val (.ref d_2), .val (.int (0 : Int32))] [(.ref d_2)]))
  refine Rch.st (fun _ hr => XS.iloadN X2.here hx rfl (hb hby d9_12) rfl hr) ?_
  refine Rch.st (fun _ hr => XS.aloadN X2.here hx rfl (hb hby d9_13) rfl rfl hr) ?_
  obtain ⟨cl6, Ar6, qk6, Sz6, Ng6, Ha6, Gf6⟩ := id R2_5
  have hin6 := inb_of (j := (0 : Int32)) Sz6 ⟨by decide, by decide⟩
  have f7 : Exa Z T2.heap ea "com/example/slotwright/slotwright/Market$Advertiser" := (zP5.keep Kp2)
  obtain ⟨T8, h8, X8, e8, W8, st8⟩ := stR X2 hx hZ rfl Ar6 (j := (0 : Int32)) hin6 rfl (Sto.ofV Ar6 qk6 R2_6 (Ins.of_exa f7 (own_w hw 89 rfl))) (g := (mkF m 14 #[.val (.ref a), .val (.ref ea), .val (.ref d_2), .val (.int (0 : Int32))] [(.ref ea), (.int (0 : Int32)), (.ref d_2)])) rfl rfl (hb hby d9_14)
  refine Rch.st st8 ?_
  have N8 := Fr.snoc X8 N2 g_d_2
  have K9 : Keep h0 h8 [a] := K5.wr W8 (Or.inr sz_d_2)
  have V8 : Arv Z h8 d_2 kd_2 (.object "java/lang/Object") (10 : Int32) [(.ref ea), .null, .null, .null, .null, .null, .null, .null, .null, .null] .null := Arv.set Ar6 qk6 Sz6 Ng6 Ha6 Gf6 rfl W8 0 rfl (Nat.le_of_ble_eq_true rfl)
  refine Rch.st (fun _ hr => XS.aloadN X8.here hx rfl (hb hby d9_15) rfl rfl hr) ?_
  show Rch p.tables e below _ (T8.setTop (mkF m 16 #[.val (.ref a), .val (.ref ea), .val (.ref d_2), .val (.int (0 : Int32))] [(.ref a)]))
  refine Rch.st (fun _ hr => XS.iloadN X8.here hx rfl (hb hby d9_16) rfl hr) ?_
  refine Rch.st (fun _ hr => XS.iconst X8.here hx rfl (hb hby d9_17) hr) ?_
  refine Rch.st (fun _ hr => XS.iadd X8.here hx rfl (hb hby d9_18) rfl hr) ?_
  have f10 : Fld Z h8 a "java/util/ArrayList" "size" "I" (.int (0 : Int32)) := (R2_2.other W8 (Or.inl ne3))
  have f11 : Exa Z h8 a "java/util/ArrayList" := (R2_0.wr W8)
  obtain ⟨T12, h12, X12, e12, W12, st12⟩ := putF X8 hx hZ hown (host := "") (Or.inl (own_w hw 66 rfl)) Via.refl e8 f10 f11 (Or.inl (own_w hw 67 rfl)) (own_w hw 1 rfl) (ty := .int) (by decide) rfl rfl (g := (mkF m 19 #[.val (.ref a), .val (.ref ea), .val (.ref d_2), .val (.int (0 : Int32))] [(.int (1 : Int32)), (.ref a)])) rfl rfl (hb hby d9_19)
  refine Rch.st st12 ?_
  have N12 := Fr.snoc X12 N8 zP6
  have f13 : Old Z n0 h8 := (Op2.wr W8 g_d_2)
  have K14 : Keep h0 h12 [a] := K9.wr W12 (Or.inl (List.mem_of_getElem? (i := 0) rfl))
  have Fw12 := f10.same W12
  show Rch p.tables e below _ (T12.setTop (mkF m 22 #[.val (.ref a), .val (.ref ea), .val (.ref d_2), .val (.int (0 : Int32))] []))
  obtain ⟨fs, hr, hrun, hended, hW, hsame⟩ := X12.leave (v := none) (fun _ => rfl)
  have f15 : Old Z n0 h12 := (f13.wr W12 zP6)
  have f16 : Exa Z h12 a "java/util/ArrayList" := (f11.wr W12)
  have f17 : Fld Z h12 a "java/util/ArrayList" "elementData" "[Ljava/lang/Object;" (.ref d_2) := ((R2_1.other W8 (Or.inl ne3)).other W12 (Or.inr (slot_ne (Or.inl (own_w hw 25 rfl)) (Or.inl (own_w hw 67 rfl)) (by decide) (t := (.array (.object "java/lang/Object"))) (t' := .int) (by decide) (by decide))))
  have f18 : Fld Z h12 a "java/util/AbstractList" "modCount" "I" (.int mc) := ((R2_3.other W8 (Or.inl ne3)).other W12 (Or.inr (slot_ne (Or.inl (own_w hw 22 rfl)) (Or.inl (own_w hw 67 rfl)) (by decide) (t := .int) (t' := .int) (by decide) (by decide))))
  have f19 : Arv Z h12 d_2 kd_2 (.object "java/lang/Object") (10 : Int32) [(.ref ea), .null, .null, .null, .null, .null, .null, .null, .null, .null] .null := (V8.other W12 (Ne.symm ne3))
  have f20 : Ovr Z kd_2 "java/lang/Object" := R2_6
  refine Rch.fin (u := T12.setFrames fs) (X12.returnOut hx Bd.returns (hb hby d9_22) hr) ⟨_, hrun, hended, _, _, rfl, ?_, ⟨_, rfl⟩, hW, hsame.mono (by decide) (by decide)⟩
  show Q_caddp0 Z a de kde mc ea h0 n0 _ T12.heap _
  rw [e12]
  exact ⟨d_2, kd_2, rfl, N12, K14, f15, f16, f17, Fw12, f18, sz_d_2, f19, f20⟩
theorem d8_0 : decode jdk_38_method_25_code 0 = .ok (.aload_n 0, 1) := by decide +kernel
theorem d8_1 : decode jdk_38_method_25_code 1 = .ok (.dup, 1) := by decide +kernel
theorem d8_2 : decode jdk_38_method_25_code 2 = .ok (.getfield 63, 3) := by decide +kernel
theorem d8_5 : decode jdk_38_method_25_code 5 = .ok (.iconst 1, 1) := by decide +kernel
theorem d8_6 : decode jdk_38_method_25_code 6 = .ok (.iadd, 1) := by decide +kernel
theorem d8_7 : decode jdk_38_method_25_code 7 = .ok (.putfield 63, 3) := by decide +kernel
theorem d8_10 : decode jdk_38_method_25_code 10 = .ok (.aload_n 0, 1) := by decide +kernel
theorem d8_11 : decode jdk_38_method_25_code 11 = .ok (.aload_n 1, 1) := by decide +kernel
theorem d8_12 : decode jdk_38_method_25_code 12 = .ok (.aload_n 0, 1) := by decide +kernel
theorem d8_13 : decode jdk_38_method_25_code 13 = .ok (.getfield 9, 3) := by decide +kernel
theorem d8_16 : decode jdk_38_method_25_code 16 = .ok (.aload_n 0, 1) := by decide +kernel
theorem d8_17 : decode jdk_38_method_25_code 17 = .ok (.getfield 48, 3) := by decide +kernel
theorem d8_20 : decode jdk_38_method_25_code 20 = .ok (.invokevirtual 131, 3) := by decide +kernel
theorem pd_11 : parseMethodDescriptor "(Ljava/lang/Object;[Ljava/lang/Object;I)V" = some ⟨[(.object "java/lang/Object"), (.array (.object "java/lang/Object")), .int], none⟩ := by decide +kernel
theorem d8_23 : decode jdk_38_method_25_code 23 = .ok (.iconst 1, 1) := by decide +kernel
theorem d8_24 : decode jdk_38_method_25_code 24 = .ok (.ireturn, 1) := by decide +kernel
def Q_cadd0 (Z : State) (a : Addr) (de : Addr) (kde : ClassId) (mc : Int32) (ea : Addr) (h0 : Heap) (n0 : Nat) (v : Option Value) (h : Heap) (L : List Loc) : Prop := ∃ (d : Addr) (kd : ClassId), v = some (.int (1 : Int32)) ∧ Fr n0 L ∧ Keep h0 h [a] ∧ Old Z n0 h ∧ Exa Z h a "java/util/ArrayList" ∧ Fld Z h a "java/util/ArrayList" "elementData" "[Ljava/lang/Object;" (.ref d) ∧ Fld Z h a "java/util/ArrayList" "size" "I" (.int (1 : Int32)) ∧ Fld Z h a "java/util/AbstractList" "modCount" "I" (.int (mc + (1 : Int32))) ∧ h0.size ≤ d ∧ Arv Z h d kd (.object "java/lang/Object") (10 : Int32) [(.ref ea), .null, .null, .null, .null, .null, .null, .null, .null, .null] .null ∧ Ovr Z kd "java/lang/Object"
theorem ef_cadd0 (m : MethodId) (a : Addr) (de : Addr) (kde : ClassId) (mc : Int32) (ea : Addr) : entryFrame m #[(.ref a), (.ref ea)] 2 = mkF m 0 #[.val (.ref a), .val (.ref ea)] [] := by first | (simp [entryFrame, mkF, argsToLocals, Value.category]; done) | rfl
set_option maxRecDepth 65536 in
set_option maxHeartbeats 40000000 in
theorem cadd0 (l : Launch) (Z : State) (a0 : Array Value) (hw : ∀ d ∈ tables_1, d.before a0 Z = true) (ws : List Jvm.Cond) (a : Addr) (de : Addr) (kde : ClassId) (mc : Int32) (ea : Addr) (h0 : Heap) (n0 : Nat) (zD0 : Sta Z Z.heap "java/util/ArrayList" "DEFAULTCAPACITY_EMPTY_ELEMENTDATA" "[Ljava/lang/Object;" (.ref de)) (zD1 : Arv Z Z.heap de kde (.object "java/lang/Object") (0 : Int32) [] .null) (zP0 : Old Z n0 h0) (zP1 : Exa Z h0 a "java/util/ArrayList") (zP2 : Fld Z h0 a "java/util/ArrayList" "elementData" "[Ljava/lang/Object;" (.ref de)) (zP3 : Fld Z h0 a "java/util/ArrayList" "size" "I" (.int (0 : Int32))) (zP4 : Fld Z h0 a "java/util/AbstractList" "modCount" "I" (.int mc)) (zP5 : Exa Z h0 ea "com/example/slotwright/slotwright/Market$Advertiser") (zP6 : n0 ≤ a) (zP7 : a ≠ ea) :
    MetFree l (⟨"java/util/ArrayList", "add", "(Ljava/lang/Object;)Z"⟩ : MethodName) (head1 (Jvm.Cond.code (⟨"java/util/ArrayList", "add", "(Ljava/lang/Object;)Z"⟩ : MethodName) jdk_38_method_25_code 2 (some .boolean) :: ws) ({ frames := 4, cells := 1, slots := 10, locals := 56 } : Room)) (fun aA uU => aA = #[(.ref a), (.ref ea)] ∧ Z.Warmed39 uU.vm ∧ uU.heap = h0) (fun _ _ _ _ _ => True) (fun _ uU oO uU' => ∃ vV lL, oO = .returned vV ∧ Q_cadd0 Z a de kde mc ea h0 n0 vV uU'.heap lL ∧ FrameEnd uU oO uU' lL ({ frames := 4, cells := 1, slots := 10, locals := 56 } : Room).cells ({ frames := 4, cells := 1, slots := 10, locals := 56 } : Room).slots) := by
  refine MetFree.of_bodySF (plainFor_of_name pn_java_util_ArrayList) hisR ?_
  intro p e s m args below meth c s₁ Bd hml0 hP hK
  obtain ⟨rfl, hZ, hh⟩ := hP
  have hx := Bd.exec
  have hby := Bd.bytes
  have hml : c.maxLocals = 2 := hml0
  have hown : s.vm.findClass "java/util/ArrayList" = some m.cls := findClass_of_methodNamed Bd.named
  have hnm := (name_of_methodNamed Bd.named Bd.method).1
  have X0 : Stand p l e ({ frames := 4, cells := 1, slots := 10, locals := 56 } : Room) s m #[(.ref a), (.ref ea)] below meth c s₁ [] 0 0 := Stand.of_body Bd
  have e0 : s₁.heap = h0 := by rw [← hh, Bd.state]; rfl
  have N0 := Fr.nil n0
  refine Rch.out (Rch.st (fun t k => castTop (ef_cadd0 m a de kde mc ea) k) ?_)
  show Rch p.tables e below _ (s₁.setTop (mkF m 0 #[.val (.ref a), .val (.ref ea)] []))
  refine Rch.st (fun _ hr => XS.aloadN X0.here hx rfl (hb hby d8_0) rfl rfl hr) ?_
  refine Rch.st (fun _ hr => XS.dup X0.here hx rfl (hb hby d8_1) rfl rfl hr) ?_
  obtain ⟨T1, X1, e1, st1⟩ := getF X0 hx hZ hown (host := "") (Or.inl (own_w hw 64 rfl)) (Via.of (own_w hw 65 rfl)) e0 zP4 (g := (mkF m 2 #[.val (.ref a), .val (.ref ea)] [(.ref a), (.ref a)])) rfl rfl (hb hby d8_2)
  refine Rch.st st1 ?_
  refine Rch.st (fun _ hr => XS.iconst X1.here hx rfl (hb hby d8_5) hr) ?_
  show Rch p.tables e below _ (T1.setTop (mkF m 6 #[.val (.ref a), .val (.ref ea)] [(.int (1 : Int32)), (.int mc), (.ref a)]))
  refine Rch.st (fun _ hr => XS.iadd X1.here hx rfl (hb hby d8_6) rfl hr) ?_
  obtain ⟨T2, h2, X2, e2, W2, st2⟩ := putF X1 hx hZ hown (host := "") (Or.inl (own_w hw 64 rfl)) (Via.of (own_w hw 65 rfl)) e1 zP4 zP1 (Or.inl (own_w hw 22 rfl)) (own_w hw 1 rfl) (ty := .int) (by decide) rfl rfl (g := (mkF m 7 #[.val (.ref a), .val (.ref ea)] [(.int (mc + (1 : Int32))), (.ref a)])) rfl rfl (hb hby d8_7)
  refine Rch.st st2 ?_
  have N2 := Fr.snoc X2 N0 zP6
  have K3 : Keep h0 h2 [a] := (Keep.refl h0 [a]).wr W2 (Or.inl (List.mem_of_getElem? (i := 0) rfl))
  have Fw2 := zP4.same W2
  refine Rch.st (fun _ hr => XS.aloadN X2.here hx rfl (hb hby d8_10) rfl rfl hr) ?_
  refine Rch.st (fun _ hr => XS.aloadN X2.here hx rfl (hb hby d8_11) rfl rfl hr) ?_
  show Rch p.tables e below _ (T2.setTop (mkF m 12 #[.val (.ref a), .val (.ref ea)] [(.ref ea), (.ref a)]))
  refine Rch.st (fun _ hr => XS.aloadN X2.here hx rfl (hb hby d8_12) rfl rfl hr) ?_
  have f4 : Fld Z h2 a "java/util/ArrayList" "elementData" "[Ljava/lang/Object;" (.ref de) := (zP2.other W2 (Or.inr (slot_ne (Or.inl (own_w hw 25 rfl)) (Or.inl (own_w hw 22 rfl)) (by decide) (t := (.array (.object "java/lang/Object"))) (t' := .int) (by decide) (by decide))))
  obtain ⟨T5, X5, e5, st5⟩ := getF X2 hx hZ hown (host := "") (Or.inl (own_w hw 24 rfl)) Via.refl e2 f4 (g := (mkF m 13 #[.val (.ref a), .val (.ref ea)] [(.ref a), (.ref ea), (.ref a)])) rfl rfl (hb hby d8_13)
  refine Rch.st st5 ?_
  refine Rch.st (fun _ hr => XS.aloadN X5.here hx rfl (hb hby d8_16) rfl rfl hr) ?_
  have f6 : Fld Z h2 a "java/util/ArrayList" "size" "I" (.int (0 : Int32)) := (zP3.other W2 (Or.inr (slot_ne (Or.inl (own_w hw 67 rfl)) (Or.inl (own_w hw 22 rfl)) (by decide) (t := .int) (t' := .int) (by decide) (by decide))))
  obtain ⟨T7, X7, e7, st7⟩ := getF X5 hx hZ hown (host := "") (Or.inl (own_w hw 66 rfl)) Via.refl e5 f6 (g := (mkF m 17 #[.val (.ref a), .val (.ref ea)] [(.ref a), (.ref de), (.ref ea), (.ref a)])) rfl rfl (hb hby d8_17)
  refine Rch.st st7 ?_
  show Rch p.tables e below _ (T7.setTop (mkF m 20 #[.val (.ref a), .val (.ref ea)] [(.int (0 : Int32)), (.ref de), (.ref ea), (.ref a)]))
  have f9 : Exa Z h2 a "java/util/ArrayList" := (zP1.wr W2)
  have f10 : Old Z n0 h2 := (zP0.wr W2 zP6)
  have f11 : Exa Z h2 ea "com/example/slotwright/slotwright/Market$Advertiser" := (zP5.wr W2)
  obtain ⟨_, T8, Lc8, X8, hQ8, st8⟩ := own_callP X7 hx hZ (y := (⟨"java/util/ArrayList", "add", "(Ljava/lang/Object;[Ljava/lang/Object;I)V"⟩ : MethodName)) hown (own_w hw 68 rfl) (own_w hw 69 rfl) (own_w hw 71 rfl) (own_w hw 70 rfl) (own_w hw 2 rfl) (own_w hw 72 rfl) (by decide) (W := 0) (caddp0 l Z a0 hw [] a de kde (mc + (1 : Int32)) ea h2 n0 zD0 zD1 f10 f9 f4 f6 Fw2 f11 zP6 zP7) (by decide) (by decide) e7 f9 (by decide) (by decide) (g := (mkF m 20 #[.val (.ref a), .val (.ref ea)] [(.int (0 : Int32)), (.ref de), (.ref ea), (.ref a)])) rfl (by rw [hml]; rfl) (argsL := [(.ref ea), (.ref de), (.int (0 : Int32))]) (rest := []) (lenOf pd_11 rfl) rfl (by show 2 * 0 + _ ≤ _; exact Nat.le_of_eq rfl) (hb hby d8_20) rfl
  obtain ⟨d_8, kd_8, rfl, N8q, Kp8, Op8, R8_0, R8_1, R8_2, R8_3, R8_4, R8_5, R8_6⟩ := hQ8
  have N8 := Fr.app N2 N8q
  refine Rch.st st8 ?_
  have ne12 : a ≠ d_8 := Nat.ne_of_lt (Nat.lt_of_lt_of_le Fw2.lt R8_4)
  have ne13 : ea ≠ d_8 := Nat.ne_of_lt (Nat.lt_of_lt_of_le f11.lt R8_4)
  have g_d_8 : n0 ≤ d_8 := Nat.le_trans (Nat.le_trans (Nat.le_of_eq f10.1.symm) f10.2.1) R8_4
  have sz_d_8 : h0.size ≤ d_8 := Nat.le_trans K3.1 R8_4
  have K14 : Keep h0 T8.heap [a] := K3.trans Kp8 (allS (Or.inl (List.mem_of_getElem? (i := 0) rfl)) all0)
  refine Rch.st (fun _ hr => XS.iconst X8.here hx rfl (hb hby d8_23) hr) ?_
  obtain ⟨fs, hr, hrun, hended, hW, hsame⟩ := X8.leave (v := some (.int (1 : Int32))) (fun h => by rw [Bd.returns] at h; cases h)
  refine Rch.fin (u := T8.setFrames fs) (retN X8 hx (t := .boolean) Bd.returns (by simp) (hb hby d8_24) hr) ⟨_, hrun, hended, _, _, rfl, ?_, ⟨_, rfl⟩, hW, hsame.mono (by decide) (by decide)⟩
  show Q_cadd0 Z a de kde mc ea h0 n0 _ T8.heap _
  exact ⟨d_8, kd_8, rfl, N8, K14, Op8, R8_0, R8_1, R8_2, R8_3, sz_d_8, R8_5, R8_6⟩
def Q_caddp1 (Z : State) (a : Addr) (d : Addr) (kd : ClassId) (mc : Int32) (ea : Addr) (eb : Addr) (h0 : Heap) (n0 : Nat) (v : Option Value) (h : Heap) (L : List Loc) : Prop := v = none ∧ Fr n0 L ∧ Keep h0 h [a, d] ∧ Old Z n0 h ∧ Exa Z h a "java/util/ArrayList" ∧ Fld Z h a "java/util/ArrayList" "elementData" "[Ljava/lang/Object;" (.ref d) ∧ Fld Z h a "java/util/ArrayList" "size" "I" (.int (2 : Int32)) ∧ Fld Z h a "java/util/AbstractList" "modCount" "I" (.int mc) ∧ Arv Z h d kd (.object "java/lang/Object") (10 : Int32) [(.ref ea), (.ref eb), .null, .null, .null, .null, .null, .null, .null, .null] .null
theorem ef_caddp1 (m : MethodId) (a : Addr) (d : Addr) (kd : ClassId) (mc : Int32) (ea : Addr) (eb : Addr) : entryFrame m #[(.ref a), (.ref eb), (.ref d), (.int (1 : Int32))] 4 = mkF m 0 #[.val (.ref a), .val (.ref eb), .val (.ref d), .val (.int (1 : Int32))] [] := by first | (simp [entryFrame, mkF, argsToLocals, Value.category]; done) | rfl
set_option maxRecDepth 65536 in
set_option maxHeartbeats 40000000 in
theorem caddp1 (l : Launch) (Z : State) (a0 : Array Value) (hw : ∀ d ∈ tables_1, d.before a0 Z = true) (ws : List Jvm.Cond) (a : Addr) (d : Addr) (kd : ClassId) (mc : Int32) (ea : Addr) (eb : Addr) (h0 : Heap) (n0 : Nat) (zP0 : Old Z n0 h0) (zP1 : Exa Z h0 a "java/util/ArrayList") (zP2 : Fld Z h0 a "java/util/ArrayList" "elementData" "[Ljava/lang/Object;" (.ref d)) (zP3 : Fld Z h0 a "java/util/ArrayList" "size" "I" (.int (1 : Int32))) (zP4 : Fld Z h0 a "java/util/AbstractList" "modCount" "I" (.int mc)) (zP5 : Exa Z h0 ea "com/example/slotwright/slotwright/Market$Advertiser") (zP6 : Exa Z h0 eb "com/example/slotwright/slotwright/Market$Advertiser") (zP7 : Arv Z h0 d kd (.object "java/lang/Object") (10 : Int32) [(.ref ea), .null, .null, .null, .null, .null, .null, .null, .null, .null] .null) (zP8 : Ovr Z kd "java/lang/Object") (zP9 : n0 ≤ a) (zP10 : n0 ≤ d) (zP11 : a ≠ d) :
    MetFree l (⟨"java/util/ArrayList", "add", "(Ljava/lang/Object;[Ljava/lang/Object;I)V"⟩ : MethodName) (head1 (Jvm.Cond.code (⟨"java/util/ArrayList", "add", "(Ljava/lang/Object;[Ljava/lang/Object;I)V"⟩ : MethodName) jdk_38_method_24_code 4 none :: ws) ({ frames := 0, cells := 0, slots := 0, locals := 0 } : Room)) (fun aA uU => aA = #[(.ref a), (.ref eb), (.ref d), (.int (1 : Int32))] ∧ Z.Warmed39 uU.vm ∧ uU.heap = h0) (fun _ _ _ _ _ => True) (fun _ uU oO uU' => ∃ vV lL, oO = .returned vV ∧ Q_caddp1 Z a d kd mc ea eb h0 n0 vV uU'.heap lL ∧ FrameEnd uU oO uU' lL ({ frames := 0, cells := 0, slots := 0, locals := 0 } : Room).cells ({ frames := 0, cells := 0, slots := 0, locals := 0 } : Room).slots) := by
  refine MetFree.of_bodySF (plainFor_of_name pn_java_util_ArrayList) hisR ?_
  intro p e s m args below meth c s₁ Bd hml0 hP hK
  obtain ⟨rfl, hZ, hh⟩ := hP
  have hx := Bd.exec
  have hby := Bd.bytes
  have hml : c.maxLocals = 4 := hml0
  have hown : s.vm.findClass "java/util/ArrayList" = some m.cls := findClass_of_methodNamed Bd.named
  have hnm := (name_of_methodNamed Bd.named Bd.method).1
  have X0 : Stand p l e ({ frames := 0, cells := 0, slots := 0, locals := 0 } : Room) s m #[(.ref a), (.ref eb), (.ref d), (.int (1 : Int32))] below meth c s₁ [] 0 0 := Stand.of_body Bd
  have e0 : s₁.heap = h0 := by rw [← hh, Bd.state]; rfl
  have N0 := Fr.nil n0
  refine Rch.out (Rch.st (fun t k => castTop (ef_caddp1 m a d kd mc ea eb) k) ?_)
  show Rch p.tables e below _ (s₁.setTop (mkF m 0 #[.val (.ref a), .val (.ref eb), .val (.ref d), .val (.int (1 : Int32))] []))
  refine Rch.st (fun _ hr => XS.iloadN X0.here hx rfl (hb hby d9_0) rfl hr) ?_
  refine Rch.st (fun _ hr => XS.aloadN X0.here hx rfl (hb hby d9_1) rfl rfl hr) ?_
  obtain ⟨cl1, Ar1, -, Sz1, Ng1, -, -⟩ := id zP7
  refine Rch.st (fun t hr => X0.arraylength hx (by rw [e0]; exact Ar1.1) (State.isArrayOf_alike hZ.alike Ar1.2.1) (g := (mkF m 2 #[.val (.ref a), .val (.ref eb), .val (.ref d), .val (.int (1 : Int32))] [(.ref d), (.int (1 : Int32))])) rfl rfl (hb hby d9_2) t hr) ?_
  rw [len_of Sz1 Ng1]
  refine Rch.st (fun _ hr => XS.icmpYes X0.here hx rfl (pc0 := 3) (pc' := 11) rfl (hb hby d9_3) rfl (feq (by decide : ¬ ((1 : Int32) = (10 : Int32)))).2 (by decide) (by decide) hr) ?_
  show Rch p.tables e below _ (s₁.setTop (mkF m 11 #[.val (.ref a), .val (.ref eb), .val (.ref d), .val (.int (1 : Int32))] []))
  refine Rch.st (fun _ hr => XS.aloadN X0.here hx rfl (hb hby d9_11) rfl rfl hr) ?_
  refine Rch.st (fun _ hr => XS.iloadN X0.here hx rfl (hb hby d9_12) rfl hr) ?_
  refine Rch.st (fun _ hr => XS.aloadN X0.here hx rfl (hb hby d9_13) rfl rfl hr) ?_
  obtain ⟨cl2, Ar2, qk2, Sz2, Ng2, Ha2, Gf2⟩ := id zP7
  have hin2 := inb_of (j := (1 : Int32)) Sz2 ⟨by decide, by decide⟩
  obtain ⟨T3, h3, X3, e3, W3, st3⟩ := stR X0 hx hZ e0 Ar2 (j := (1 : Int32)) hin2 rfl (Sto.ofV Ar2 qk2 zP8 (Ins.of_exa zP6 (own_w hw 89 rfl))) (g := (mkF m 14 #[.val (.ref a), .val (.ref eb), .val (.ref d), .val (.int (1 : Int32))] [(.ref eb), (.int (1 : Int32)), (.ref d)])) rfl rfl (hb hby d9_14)
  refine Rch.st st3 ?_
  have N3 := Fr.snoc X3 N0 zP10
  have ne4 : ea ≠ d := (Exa.neArv zP5 zP7 (own_w hw 27 rfl))
  have ne5 : eb ≠ d := (Exa.neArv zP6 zP7 (own_w hw 27 rfl))
  have K6 : Keep h0 h3 [a, d] := (Keep.refl h0 [a, d]).wr W3 (Or.inl (List.mem_of_getElem? (i := 1) rfl))
  have V3 : Arv Z h3 d kd (.object "java/lang/Object") (10 : Int32) [(.ref ea), (.ref eb), .null, .null, .null, .null, .null, .null, .null, .null] .null := Arv.set Ar2 qk2 Sz2 Ng2 Ha2 Gf2 rfl W3 1 rfl (Nat.le_of_ble_eq_true rfl)
  show Rch p.tables e below _ (T3.setTop (mkF m 15 #[.val (.ref a), .val (.ref eb), .val (.ref d), .val (.int (1 : Int32))] []))
  refine Rch.st (fun _ hr => XS.aloadN X3.here hx rfl (hb hby d9_15) rfl rfl hr) ?_
  refine Rch.st (fun _ hr => XS.iloadN X3.here hx rfl (hb hby d9_16) rfl hr) ?_
  refine Rch.st (fun _ hr => XS.iconst X3.here hx rfl (hb hby d9_17) hr) ?_
  refine Rch.st (fun _ hr => XS.iadd X3.here hx rfl (hb hby d9_18) rfl hr) ?_
  show Rch p.tables e below _ (T3.setTop (mkF m 19 #[.val (.ref a), .val (.ref eb), .val (.ref d), .val (.int (1 : Int32))] [(.int (2 : Int32)), (.ref a)]))
  have f7 : Fld Z h3 a "java/util/ArrayList" "size" "I" (.int (1 : Int32)) := (zP3.other W3 (Or.inl zP11))
  have f8 : Exa Z h3 a "java/util/ArrayList" := (zP1.wr W3)
  obtain ⟨T9, h9, X9, e9, W9, st9⟩ := putF X3 hx hZ hown (host := "") (Or.inl (own_w hw 66 rfl)) Via.refl e3 f7 f8 (Or.inl (own_w hw 67 rfl)) (own_w hw 1 rfl) (ty := .int) (by decide) rfl rfl (g := (mkF m 19 #[.val (.ref a), .val (.ref eb), .val (.ref d), .val (.int (1 : Int32))] [(.int (2 : Int32)), (.ref a)])) rfl rfl (hb hby d9_19)
  refine Rch.st st9 ?_
  have N9 := Fr.snoc X9 N3 zP9
  have f10 : Old Z n0 h3 := (zP0.wr W3 zP10)
  have f11 : Exa Z h3 ea "com/example/slotwright/slotwright/Market$Advertiser" := (zP5.wr W3)
  have ne12 : ea ≠ a := (Exa.ne f11 f8 (by decide))
  have f13 : Exa Z h3 eb "com/example/slotwright/slotwright/Market$Advertiser" := (zP6.wr W3)
  have ne14 : eb ≠ a := (Exa.ne f13 f8 (by decide))
  have K15 : Keep h0 h9 [a, d] := K6.wr W9 (Or.inl (List.mem_of_getElem? (i := 0) rfl))
  have Fw9 := f7.same W9
  obtain ⟨fs, hr, hrun, hended, hW, hsame⟩ := X9.leave (v := none) (fun _ => rfl)
  have f16 : Old Z n0 h9 := (f10.wr W9 zP9)
  have f17 : Exa Z h9 a "java/util/ArrayList" := (f8.wr W9)
  have f18 : Fld Z h9 a "java/util/ArrayList" "elementData" "[Ljava/lang/Object;" (.ref d) := ((zP2.other W3 (Or.inl zP11)).other W9 (Or.inr (slot_ne (Or.inl (own_w hw 25 rfl)) (Or.inl (own_w hw 67 rfl)) (by decide) (t := (.array (.object "java/lang/Object"))) (t' := .int) (by decide) (by decide))))
  have f19 : Fld Z h9 a "java/util/AbstractList" "modCount" "I" (.int mc) := ((zP4.other W3 (Or.inl zP11)).other W9 (Or.inr (slot_ne (Or.inl (own_w hw 22 rfl)) (Or.inl (own_w hw 67 rfl)) (by decide) (t := .int) (t' := .int) (by decide) (by decide))))
  have f20 : Arv Z h9 d kd (.object "java/lang/Object") (10 : Int32) [(.ref ea), (.ref eb), .null, .null, .null, .null, .null, .null, .null, .null] .null := (V3.other W9 (Ne.symm zP11))
  refine Rch.fin (u := T9.setFrames fs) (X9.returnOut hx Bd.returns (hb hby d9_22) hr) ⟨_, hrun, hended, _, _, rfl, ?_, ⟨_, rfl⟩, hW, hsame.mono (by decide) (by decide)⟩
  show Q_caddp1 Z a d kd mc ea eb h0 n0 _ T9.heap _
  rw [e9]
  exact ⟨rfl, N9, K15, f16, f17, f18, Fw9, f19, f20⟩
def Q_cadd1 (Z : State) (a : Addr) (d : Addr) (kd : ClassId) (mc : Int32) (ea : Addr) (eb : Addr) (h0 : Heap) (n0 : Nat) (v : Option Value) (h : Heap) (L : List Loc) : Prop := v = some (.int (1 : Int32)) ∧ Fr n0 L ∧ Keep h0 h [a, d] ∧ Old Z n0 h ∧ Exa Z h a "java/util/ArrayList" ∧ Fld Z h a "java/util/ArrayList" "elementData" "[Ljava/lang/Object;" (.ref d) ∧ Fld Z h a "java/util/ArrayList" "size" "I" (.int (2 : Int32)) ∧ Fld Z h a "java/util/AbstractList" "modCount" "I" (.int (mc + (1 : Int32))) ∧ Arv Z h d kd (.object "java/lang/Object") (10 : Int32) [(.ref ea), (.ref eb), .null, .null, .null, .null, .null, .null, .null, .null] .null
theorem ef_cadd1 (m : MethodId) (a : Addr) (d : Addr) (kd : ClassId) (mc : Int32) (ea : Addr) (eb : Addr) : entryFrame m #[(.ref a), (.ref eb)] 2 = mkF m 0 #[.val (.ref a), .val (.ref eb)] [] := by first | (simp [entryFrame, mkF, argsToLocals, Value.category]; done) | rfl
set_option maxRecDepth 65536 in
set_option maxHeartbeats 40000000 in
theorem cadd1 (l : Launch) (Z : State) (a0 : Array Value) (hw : ∀ d ∈ tables_1, d.before a0 Z = true) (ws : List Jvm.Cond) (a : Addr) (d : Addr) (kd : ClassId) (mc : Int32) (ea : Addr) (eb : Addr) (h0 : Heap) (n0 : Nat) (zP0 : Old Z n0 h0) (zP1 : Exa Z h0 a "java/util/ArrayList") (zP2 : Fld Z h0 a "java/util/ArrayList" "elementData" "[Ljava/lang/Object;" (.ref d)) (zP3 : Fld Z h0 a "java/util/ArrayList" "size" "I" (.int (1 : Int32))) (zP4 : Fld Z h0 a "java/util/AbstractList" "modCount" "I" (.int mc)) (zP5 : Exa Z h0 ea "com/example/slotwright/slotwright/Market$Advertiser") (zP6 : Exa Z h0 eb "com/example/slotwright/slotwright/Market$Advertiser") (zP7 : Arv Z h0 d kd (.object "java/lang/Object") (10 : Int32) [(.ref ea), .null, .null, .null, .null, .null, .null, .null, .null, .null] .null) (zP8 : Ovr Z kd "java/lang/Object") (zP9 : n0 ≤ a) (zP10 : n0 ≤ d) (zP11 : a ≠ d) :
    MetFree l (⟨"java/util/ArrayList", "add", "(Ljava/lang/Object;)Z"⟩ : MethodName) (head1 (Jvm.Cond.code (⟨"java/util/ArrayList", "add", "(Ljava/lang/Object;)Z"⟩ : MethodName) jdk_38_method_25_code 2 (some .boolean) :: ws) ({ frames := 1, cells := 0, slots := 0, locals := 15 } : Room)) (fun aA uU => aA = #[(.ref a), (.ref eb)] ∧ Z.Warmed39 uU.vm ∧ uU.heap = h0) (fun _ _ _ _ _ => True) (fun _ uU oO uU' => ∃ vV lL, oO = .returned vV ∧ Q_cadd1 Z a d kd mc ea eb h0 n0 vV uU'.heap lL ∧ FrameEnd uU oO uU' lL ({ frames := 1, cells := 0, slots := 0, locals := 15 } : Room).cells ({ frames := 1, cells := 0, slots := 0, locals := 15 } : Room).slots) := by
  refine MetFree.of_bodySF (plainFor_of_name pn_java_util_ArrayList) hisR ?_
  intro p e s m args below meth c s₁ Bd hml0 hP hK
  obtain ⟨rfl, hZ, hh⟩ := hP
  have hx := Bd.exec
  have hby := Bd.bytes
  have hml : c.maxLocals = 2 := hml0
  have hown : s.vm.findClass "java/util/ArrayList" = some m.cls := findClass_of_methodNamed Bd.named
  have hnm := (name_of_methodNamed Bd.named Bd.method).1
  have X0 : Stand p l e ({ frames := 1, cells := 0, slots := 0, locals := 15 } : Room) s m #[(.ref a), (.ref eb)] below meth c s₁ [] 0 0 := Stand.of_body Bd
  have e0 : s₁.heap = h0 := by rw [← hh, Bd.state]; rfl
  have N0 := Fr.nil n0
  refine Rch.out (Rch.st (fun t k => castTop (ef_cadd1 m a d kd mc ea eb) k) ?_)
  show Rch p.tables e below _ (s₁.setTop (mkF m 0 #[.val (.ref a), .val (.ref eb)] []))
  refine Rch.st (fun _ hr => XS.aloadN X0.here hx rfl (hb hby d8_0) rfl rfl hr) ?_
  refine Rch.st (fun _ hr => XS.dup X0.here hx rfl (hb hby d8_1) rfl rfl hr) ?_
  obtain ⟨T1, X1, e1, st1⟩ := getF X0 hx hZ hown (host := "") (Or.inl (own_w hw 64 rfl)) (Via.of (own_w hw 65 rfl)) e0 zP4 (g := (mkF m 2 #[.val (.ref a), .val (.ref eb)] [(.ref a), (.ref a)])) rfl rfl (hb hby d8_2)
  refine Rch.st st1 ?_
  refine Rch.st (fun _ hr => XS.iconst X1.here hx rfl (hb hby d8_5) hr) ?_
  show Rch p.tables e below _ (T1.setTop (mkF m 6 #[.val (.ref a), .val (.ref eb)] [(.int (1 : Int32)), (.int mc), (.ref a)]))
  refine Rch.st (fun _ hr => XS.iadd X1.here hx rfl (hb hby d8_6) rfl hr) ?_
  obtain ⟨T2, h2, X2, e2, W2, st2⟩ := putF X1 hx hZ hown (host := "") (Or.inl (own_w hw 64 rfl)) (Via.of (own_w hw 65 rfl)) e1 zP4 zP1 (Or.inl (own_w hw 22 rfl)) (own_w hw 1 rfl) (ty := .int) (by decide) rfl rfl (g := (mkF m 7 #[.val (.ref a), .val (.ref eb)] [(.int (mc + (1 : Int32))), (.ref a)])) rfl rfl (hb hby d8_7)
  refine Rch.st st2 ?_
  have N2 := Fr.snoc X2 N0 zP9
  have ne3 : ea ≠ a := (Exa.ne zP5 zP1 (by decide))
  have ne4 : eb ≠ a := (Exa.ne zP6 zP1 (by decide))
  have K5 : Keep h0 h2 [a, d] := (Keep.refl h0 [a, d]).wr W2 (Or.inl (List.mem_of_getElem? (i := 0) rfl))
  have Fw2 := zP4.same W2
  refine Rch.st (fun _ hr => XS.aloadN X2.here hx rfl (hb hby d8_10) rfl rfl hr) ?_
  refine Rch.st (fun _ hr => XS.aloadN X2.here hx rfl (hb hby d8_11) rfl rfl hr) ?_
  show Rch p.tables e below _ (T2.setTop (mkF m 12 #[.val (.ref a), .val (.ref eb)] [(.ref eb), (.ref a)]))
  refine Rch.st (fun _ hr => XS.aloadN X2.here hx rfl (hb hby d8_12) rfl rfl hr) ?_
  have f6 : Fld Z h2 a "java/util/ArrayList" "elementData" "[Ljava/lang/Object;" (.ref d) := (zP2.other W2 (Or.inr (slot_ne (Or.inl (own_w hw 25 rfl)) (Or.inl (own_w hw 22 rfl)) (by decide) (t := (.array (.object "java/lang/Object"))) (t' := .int) (by decide) (by decide))))
  obtain ⟨T7, X7, e7, st7⟩ := getF X2 hx hZ hown (host := "") (Or.inl (own_w hw 24 rfl)) Via.refl e2 f6 (g := (mkF m 13 #[.val (.ref a), .val (.ref eb)] [(.ref a), (.ref eb), (.ref a)])) rfl rfl (hb hby d8_13)
  refine Rch.st st7 ?_
  refine Rch.st (fun _ hr => XS.aloadN X7.here hx rfl (hb hby d8_16) rfl rfl hr) ?_
  have f8 : Fld Z h2 a "java/util/ArrayList" "size" "I" (.int (1 : Int32)) := (zP3.other W2 (Or.inr (slot_ne (Or.inl (own_w hw 67 rfl)) (Or.inl (own_w hw 22 rfl)) (by decide) (t := .int) (t' := .int) (by decide) (by decide))))
  obtain ⟨T9, X9, e9, st9⟩ := getF X7 hx hZ hown (host := "") (Or.inl (own_w hw 66 rfl)) Via.refl e7 f8 (g := (mkF m 17 #[.val (.ref a), .val (.ref eb)] [(.ref a), (.ref d), (.ref eb), (.ref a)])) rfl rfl (hb hby d8_17)
  refine Rch.st st9 ?_
  show Rch p.tables e below _ (T9.setTop (mkF m 20 #[.val (.ref a), .val (.ref eb)] [(.int (1 : Int32)), (.ref d), (.ref eb), (.ref a)]))
  have f11 : Exa Z h2 a "java/util/ArrayList" := (zP1.wr W2)
  have f12 : Old Z n0 h2 := (zP0.wr W2 zP9)
  have f13 : Exa Z h2 ea "com/example/slotwright/slotwright/Market$Advertiser" := (zP5.wr W2)
  have f14 : Exa Z h2 eb "com/example/slotwright/slotwright/Market$Advertiser" := (zP6.wr W2)
  have f15 : Arv Z h2 d kd (.object "java/lang/Object") (10 : Int32) [(.ref ea), .null, .null, .null, .null, .null, .null, .null, .null, .null] .null := (zP7.other W2 (Ne.symm zP11))
  have f16 : Ovr Z kd "java/lang/Object" := zP8
  obtain ⟨_, T10, Lc10, X10, hQ10, st10⟩ := own_callP X9 hx hZ (y := (⟨"java/util/ArrayList", "add", "(Ljava/lang/Object;[Ljava/lang/Object;I)V"⟩ : MethodName)) hown (own_w hw 68 rfl) (own_w hw 69 rfl) (own_w hw 71 rfl) (own_w hw 70 rfl) (own_w hw 2 rfl) (own_w hw 72 rfl) (by decide) (W := 0) (caddp1 l Z a0 hw [] a d kd (mc + (1 : Int32)) ea eb h2 n0 f12 f11 f6 f8 Fw2 f13 f14 f15 f16 zP9 zP10 zP11) (by decide) (by decide) e9 f11 (by decide) (by decide) (g := (mkF m 20 #[.val (.ref a), .val (.ref eb)] [(.int (1 : Int32)), (.ref d), (.ref eb), (.ref a)])) rfl (by rw [hml]; rfl) (argsL := [(.ref eb), (.ref d), (.int (1 : Int32))]) (rest := []) (lenOf pd_11 rfl) rfl (by show 2 * 0 + _ ≤ _; exact Nat.le_of_eq rfl) (hb hby d8_20) rfl
  obtain ⟨rfl, N10q, Kp10, Op10, R10_0, R10_1, R10_2, R10_3, R10_4⟩ := hQ10
  have N10 := Fr.app N2 N10q
  refine Rch.st st10 ?_
  have ne17 : ea ≠ d := (Exa.neArv f13 f15 (own_w hw 27 rfl))
  have ne18 : eb ≠ d := (Exa.neArv f14 f15 (own_w hw 27 rfl))
  have K19 : Keep h0 T10.heap [a, d] := K5.trans Kp10 (allS (Or.inl (List.mem_of_getElem? (i := 0) rfl)) (allS (Or.inl (List.mem_of_getElem? (i := 1) rfl)) all0))
  refine Rch.st (fun _ hr => XS.iconst X10.here hx rfl (hb hby d8_23) hr) ?_
  obtain ⟨fs, hr, hrun, hended, hW, hsame⟩ := X10.leave (v := some (.int (1 : Int32))) (fun h => by rw [Bd.returns] at h; cases h)
  refine Rch.fin (u := T10.setFrames fs) (retN X10 hx (t := .boolean) Bd.returns (by simp) (hb hby d8_24) hr) ⟨_, hrun, hended, _, _, rfl, ?_, ⟨_, rfl⟩, hW, hsame.mono (by decide) (by decide)⟩
  show Q_cadd1 Z a d kd mc ea eb h0 n0 _ T10.heap _
  exact ⟨rfl, N10, K19, Op10, R10_0, R10_1, R10_2, R10_3, R10_4⟩
theorem d14_0 : decode jdk_38_method_8_code 0 = .ok (.aload_n 0, 1) := by decide +kernel
theorem d14_1 : decode jdk_38_method_8_code 1 = .ok (.getfield 48, 3) := by decide +kernel
theorem d14_4 : decode jdk_38_method_8_code 4 = .ok (.ireturn, 1) := by decide +kernel
def Q_csize (Z : State) (a : Addr) (n : Int32) (h0 : Heap) (n0 : Nat) (v : Option Value) (h : Heap) (L : List Loc) : Prop := v = some (.int n) ∧ Fr n0 L ∧ h = h0
theorem ef_csize (m : MethodId) (a : Addr) (n : Int32) : entryFrame m #[(.ref a)] 1 = mkF m 0 #[.val (.ref a)] [] := by first | (simp [entryFrame, mkF, argsToLocals, Value.category]; done) | rfl
set_option maxRecDepth 65536 in
set_option maxHeartbeats 40000000 in
theorem csize (l : Launch) (Z : State) (a0 : Array Value) (hw : ∀ d ∈ tables_1, d.before a0 Z = true) (ws : List Jvm.Cond) (a : Addr) (n : Int32) (h0 : Heap) (n0 : Nat) (zP0 : Fld Z h0 a "java/util/ArrayList" "size" "I" (.int n)) :
    MetFree l (⟨"java/util/ArrayList", "size", "()I"⟩ : MethodName) (head1 (Jvm.Cond.code (⟨"java/util/ArrayList", "size", "()I"⟩ : MethodName) jdk_38_method_8_code 1 (some .int) :: ws) ({ frames := 0, cells := 0, slots := 0, locals := 0 } : Room)) (fun aA uU => aA = #[(.ref a)] ∧ Z.Warmed39 uU.vm ∧ uU.heap = h0) (fun _ _ _ _ _ => True) (fun _ uU oO uU' => ∃ vV lL, oO = .returned vV ∧ Q_csize Z a n h0 n0 vV uU'.heap lL ∧ FrameEnd uU oO uU' lL ({ frames := 0, cells := 0, slots := 0, locals := 0 } : Room).cells ({ frames := 0, cells := 0, slots := 0, locals := 0 } : Room).slots) := by
  refine MetFree.of_bodySF (plainFor_of_name pn_java_util_ArrayList) hisR ?_
  intro p e s m args below meth c s₁ Bd hml0 hP hK
  obtain ⟨rfl, hZ, hh⟩ := hP
  have hx := Bd.exec
  have hby := Bd.bytes
  have hml : c.maxLocals = 1 := hml0
  have hown : s.vm.findClass "java/util/ArrayList" = some m.cls := findClass_of_methodNamed Bd.named
  have hnm := (name_of_methodNamed Bd.named Bd.method).1
  have X0 : Stand p l e ({ frames := 0, cells := 0, slots := 0, locals := 0 } : Room) s m #[(.ref a)] below meth c s₁ [] 0 0 := Stand.of_body Bd
  have e0 : s₁.heap = h0 := by rw [← hh, Bd.state]; rfl
  have N0 := Fr.nil n0
  refine Rch.out (Rch.st (fun t k => castTop (ef_csize m a n) k) ?_)
  show Rch p.tables e below _ (s₁.setTop (mkF m 0 #[.val (.ref a)] []))
  refine Rch.st (fun _ hr => XS.aloadN X0.here hx rfl (hb hby d14_0) rfl rfl hr) ?_
  obtain ⟨T1, X1, e1, st1⟩ := getF X0 hx hZ hown (host := "") (Or.inl (own_w hw 66 rfl)) Via.refl e0 zP0 (g := (mkF m 1 #[.val (.ref a)] [(.ref a)])) rfl rfl (hb hby d14_1)
  refine Rch.st st1 ?_
  obtain ⟨fs, hr, hrun, hended, hW, hsame⟩ := X1.leave (v := some (.int n)) (fun h => by rw [Bd.returns] at h; cases h)
  refine Rch.fin (u := T1.setFrames fs) (own_retI X1 hx Bd.returns (hb hby d14_4) hr) ⟨_, hrun, hended, _, _, rfl, ?_, ⟨_, rfl⟩, hW, hsame.mono (by decide) (by decide)⟩
  show Q_csize Z a n h0 n0 _ T1.heap _
  exact ⟨rfl, N0, e1⟩
theorem d18_0 : decode jdk_41_method_11_code 0 = .ok (.iload_n 0, 1) := by decide +kernel
theorem d18_1 : decode jdk_41_method_11_code 1 = .ok (.ifCond .lt 8, 3) := by decide +kernel
theorem d18_4 : decode jdk_41_method_11_code 4 = .ok (.iload_n 0, 1) := by decide +kernel
theorem d18_5 : decode jdk_41_method_11_code 5 = .ok (.iload_n 1, 1) := by decide +kernel
theorem d18_6 : decode jdk_41_method_11_code 6 = .ok (.if_icmp .lt 10, 3) := by decide +kernel
theorem d18_16 : decode jdk_41_method_11_code 16 = .ok (.iload_n 0, 1) := by decide +kernel
theorem d18_17 : decode jdk_41_method_11_code 17 = .ok (.ireturn, 1) := by decide +kernel
def Q_cpci (Z : State) (i : Int32) (n : Int32) (h0 : Heap) (n0 : Nat) (v : Option Value) (h : Heap) (L : List Loc) : Prop := v = some (.int i) ∧ Fr n0 L ∧ h = h0
theorem pn_jdk_internal_util_Preconditions : plainName "jdk/internal/util/Preconditions" = true := by first | (simp [plainName, overriddenIn]; done) | decide +kernel
theorem ef_cpci (m : MethodId) (i : Int32) (n : Int32) : entryFrame m #[(.int i), (.int n), .null] 3 = mkF m 0 #[.val (.int i), .val (.int n), .val .null] [] := by first | (simp [entryFrame, mkF, argsToLocals, Value.category]; done) | rfl
set_option maxRecDepth 65536 in
set_option maxHeartbeats 40000000 in
theorem cpci (l : Launch) (Z : State) (a0 : Array Value) (hw : ∀ d ∈ tables_1, d.before a0 Z = true) (ws : List Jvm.Cond) (i : Int32) (n : Int32) (h0 : Heap) (n0 : Nat) (h1 : ¬ i < (0 : Int32)) (h2 : i < n) :
    MetFree l (⟨"jdk/internal/util/Preconditions", "checkIndex", "(IILjava/util/function/BiFunction;)I"⟩ : MethodName) (head1 (Jvm.Cond.code (⟨"jdk/internal/util/Preconditions", "checkIndex", "(IILjava/util/function/BiFunction;)I"⟩ : MethodName) jdk_41_method_11_code 3 (some .int) :: ws) ({ frames := 0, cells := 0, slots := 0, locals := 0 } : Room)) (fun aA uU => aA = #[(.int i), (.int n), .null] ∧ Z.Warmed39 uU.vm ∧ uU.heap = h0) (fun _ _ _ _ _ => True) (fun _ uU oO uU' => ∃ vV lL, oO = .returned vV ∧ Q_cpci Z i n h0 n0 vV uU'.heap lL ∧ FrameEnd uU oO uU' lL ({ frames := 0, cells := 0, slots := 0, locals := 0 } : Room).cells ({ frames := 0, cells := 0, slots := 0, locals := 0 } : Room).slots) := by
  refine MetFree.of_bodySF (plainFor_of_name pn_jdk_internal_util_Preconditions) hisR ?_
  intro p e s m args below meth c s₁ Bd hml0 hP hK
  obtain ⟨rfl, hZ, hh⟩ := hP
  have hx := Bd.exec
  have hby := Bd.bytes
  have hml : c.maxLocals = 3 := hml0
  have hown : s.vm.findClass "jdk/internal/util/Preconditions" = some m.cls := findClass_of_methodNamed Bd.named
  have hnm := (name_of_methodNamed Bd.named Bd.method).1
  have X0 : Stand p l e ({ frames := 0, cells := 0, slots := 0, locals := 0 } : Room) s m #[(.int i), (.int n), .null] below meth c s₁ [] 0 0 := Stand.of_body Bd
  have e0 : s₁.heap = h0 := by rw [← hh, Bd.state]; rfl
  have N0 := Fr.nil n0
  refine Rch.out (Rch.st (fun t k => castTop (ef_cpci m i n) k) ?_)
  show Rch p.tables e below _ (s₁.setTop (mkF m 0 #[.val (.int i), .val (.int n), .val .null] []))
  refine Rch.st (fun _ hr => XS.iloadN X0.here hx rfl (hb hby d18_0) rfl hr) ?_
  refine Rch.st (fun _ hr => XS.ifNo X0.here hx rfl (hb hby d18_1) rfl ((if0 _ _).trans (flt h1).1) hr) ?_
  refine Rch.st (fun _ hr => XS.iloadN X0.here hx rfl (hb hby d18_4) rfl hr) ?_
  refine Rch.st (fun _ hr => XS.iloadN X0.here hx rfl (hb hby d18_5) rfl hr) ?_
  show Rch p.tables e below _ (s₁.setTop (mkF m 6 #[.val (.int i), .val (.int n), .val .null] [(.int n), (.int i)]))
  refine Rch.st (fun _ hr => XS.icmpYes X0.here hx rfl (pc0 := 6) (pc' := 16) rfl (hb hby d18_6) rfl (tlt h2).1 (by decide) (by decide) hr) ?_
  refine Rch.st (fun _ hr => XS.iloadN X0.here hx rfl (hb hby d18_16) rfl hr) ?_
  obtain ⟨fs, hr, hrun, hended, hW, hsame⟩ := X0.leave (v := some (.int i)) (fun h => by rw [Bd.returns] at h; cases h)
  refine Rch.fin (u := s₁.setFrames fs) (own_retI X0 hx Bd.returns (hb hby d18_17) hr) ⟨_, hrun, hended, _, _, rfl, ?_, ⟨_, rfl⟩, hW, hsame.mono (by decide) (by decide)⟩
  show Q_cpci Z i n h0 n0 _ s₁.heap _
  exact ⟨rfl, N0, e0⟩
theorem d17_0 : decode jdk_31_method_17_code 0 = .ok (.iload_n 0, 1) := by decide +kernel
theorem d17_1 : decode jdk_31_method_17_code 1 = .ok (.iload_n 1, 1) := by decide +kernel
theorem d17_2 : decode jdk_31_method_17_code 2 = .ok (.aconst_null, 1) := by decide +kernel
theorem d17_3 : decode jdk_31_method_17_code 3 = .ok (.invokestatic 105, 3) := by decide +kernel
theorem pd_12 : parseMethodDescriptor "(IILjava/util/function/BiFunction;)I" = some ⟨[.int, .int, (.object "java/util/function/BiFunction")], some .int⟩ := by decide +kernel
theorem d17_6 : decode jdk_31_method_17_code 6 = .ok (.ireturn, 1) := by decide +kernel
def Q_coci (Z : State) (i : Int32) (n : Int32) (h0 : Heap) (n0 : Nat) (v : Option Value) (h : Heap) (L : List Loc) : Prop := v = some (.int i) ∧ Fr n0 L ∧ h = h0
theorem pn_java_util_Objects : plainName "java/util/Objects" = true := by first | (simp [plainName, overriddenIn]; done) | decide +kernel
theorem ef_coci (m : MethodId) (i : Int32) (n : Int32) : entryFrame m #[(.int i), (.int n)] 2 = mkF m 0 #[.val (.int i), .val (.int n)] [] := by first | (simp [entryFrame, mkF, argsToLocals, Value.category]; done) | rfl
set_option maxRecDepth 65536 in
set_option maxHeartbeats 40000000 in
theorem coci (l : Launch) (Z : State) (a0 : Array Value) (hw : ∀ d ∈ tables_1, d.before a0 Z = true) (ws : List Jvm.Cond) (i : Int32) (n : Int32) (h0 : Heap) (n0 : Nat) (h1 : ¬ i < (0 : Int32)) (h2 : i < n) :
    MetFree l (⟨"java/util/Objects", "checkIndex", "(II)I"⟩ : MethodName) (head1 (Jvm.Cond.code (⟨"java/util/Objects", "checkIndex", "(II)I"⟩ : MethodName) jdk_31_method_17_code 2 (some .int) :: ws) ({ frames := 1, cells := 0, slots := 0, locals := 14 } : Room)) (fun aA uU => aA = #[(.int i), (.int n)] ∧ Z.Warmed39 uU.vm ∧ uU.heap = h0) (fun _ _ _ _ _ => True) (fun _ uU oO uU' => ∃ vV lL, oO = .returned vV ∧ Q_coci Z i n h0 n0 vV uU'.heap lL ∧ FrameEnd uU oO uU' lL ({ frames := 1, cells := 0, slots := 0, locals := 14 } : Room).cells ({ frames := 1, cells := 0, slots := 0, locals := 14 } : Room).slots) := by
  refine MetFree.of_bodySF (plainFor_of_name pn_java_util_Objects) hisR ?_
  intro p e s m args below meth c s₁ Bd hml0 hP hK
  obtain ⟨rfl, hZ, hh⟩ := hP
  have hx := Bd.exec
  have hby := Bd.bytes
  have hml : c.maxLocals = 2 := hml0
  have hown : s.vm.findClass "java/util/Objects" = some m.cls := findClass_of_methodNamed Bd.named
  have hnm := (name_of_methodNamed Bd.named Bd.method).1
  have X0 : Stand p l e ({ frames := 1, cells := 0, slots := 0, locals := 14 } : Room) s m #[(.int i), (.int n)] below meth c s₁ [] 0 0 := Stand.of_body Bd
  have e0 : s₁.heap = h0 := by rw [← hh, Bd.state]; rfl
  have N0 := Fr.nil n0
  refine Rch.out (Rch.st (fun t k => castTop (ef_coci m i n) k) ?_)
  show Rch p.tables e below _ (s₁.setTop (mkF m 0 #[.val (.int i), .val (.int n)] []))
  refine Rch.st (fun _ hr => XS.iloadN X0.here hx rfl (hb hby d17_0) rfl hr) ?_
  refine Rch.st (fun _ hr => XS.iloadN X0.here hx rfl (hb hby d17_1) rfl hr) ?_
  refine Rch.st (fun _ hr => XS.aconstNull X0.here hx rfl (hb hby d17_2) hr) ?_
  obtain ⟨_, T1, Lc1, X1, hQ1, st1⟩ := own_callS X0 hx hZ (y := (⟨"jdk/internal/util/Preconditions", "checkIndex", "(IILjava/util/function/BiFunction;)I"⟩ : MethodName)) hown (own_w hw 132 rfl) (own_w hw 133 rfl) (own_w hw 134 rfl) (own_w hw 135 rfl) (by decide) (W := 0) (cpci l Z a0 hw [] i n h0 n0 h1 h2) (by decide) (by decide) e0 (by decide) (by decide) (g := (mkF m 3 #[.val (.int i), .val (.int n)] [.null, (.int n), (.int i)])) rfl (by rw [hml]; rfl) (argsL := [(.int i), (.int n), .null]) (rest := []) (lenOf pd_12 rfl) rfl (by show 2 * 0 + _ ≤ _; exact Nat.le_of_eq rfl) (hb hby d17_3) rfl
  obtain ⟨rfl, N1q, e1⟩ := hQ1
  have N1 := Fr.app N0 N1q
  refine Rch.st st1 ?_
  show Rch p.tables e below _ (T1.setTop (mkF m 6 #[.val (.int i), .val (.int n)] [(.int i)]))
  obtain ⟨fs, hr, hrun, hended, hW, hsame⟩ := X1.leave (v := some (.int i)) (fun h => by rw [Bd.returns] at h; cases h)
  refine Rch.fin (u := T1.setFrames fs) (own_retI X1 hx Bd.returns (hb hby d17_6) hr) ⟨_, hrun, hended, _, _, rfl, ?_, ⟨_, rfl⟩, hW, hsame.mono (by decide) (by decide)⟩
  show Q_coci Z i n h0 n0 _ T1.heap _
  exact ⟨rfl, N1, e1⟩
theorem d19_0 : decode jdk_38_method_18_code 0 = .ok (.aload_n 0, 1) := by decide +kernel
theorem d19_1 : decode jdk_38_method_18_code 1 = .ok (.getfield 9, 3) := by decide +kernel
theorem d19_4 : decode jdk_38_method_18_code 4 = .ok (.iload_n 1, 1) := by decide +kernel
theorem d19_5 : decode jdk_38_method_18_code 5 = .ok (.aaload, 1) := by decide +kernel
theorem d19_6 : decode jdk_38_method_18_code 6 = .ok (.areturn, 1) := by decide +kernel
def Q_celd0 (Z : State) (a : Addr) (d : Addr) (kd : ClassId) (ea : Addr) (eb : Addr) (h0 : Heap) (n0 : Nat) (v : Option Value) (h : Heap) (L : List Loc) : Prop := v = some (.ref ea) ∧ Fr n0 L ∧ h = h0
theorem ef_celd0 (m : MethodId) (a : Addr) (d : Addr) (kd : ClassId) (ea : Addr) (eb : Addr) : entryFrame m #[(.ref a), (.int (0 : Int32))] 2 = mkF m 0 #[.val (.ref a), .val (.int (0 : Int32))] [] := by first | (simp [entryFrame, mkF, argsToLocals, Value.category]; done) | rfl
set_option maxRecDepth 65536 in
set_option maxHeartbeats 40000000 in
theorem celd0 (l : Launch) (Z : State) (a0 : Array Value) (hw : ∀ d ∈ tables_1, d.before a0 Z = true) (ws : List Jvm.Cond) (a : Addr) (d : Addr) (kd : ClassId) (ea : Addr) (eb : Addr) (h0 : Heap) (n0 : Nat) (zP0 : Exa Z h0 a "java/util/ArrayList") (zP1 : Fld Z h0 a "java/util/ArrayList" "elementData" "[Ljava/lang/Object;" (.ref d)) (zP2 : Fld Z h0 a "java/util/ArrayList" "size" "I" (.int (2 : Int32))) (zP3 : Arv Z h0 d kd (.object "java/lang/Object") (10 : Int32) [(.ref ea), (.ref eb), .null, .null, .null, .null, .null, .null, .null, .null] .null) :
    MetFree l (⟨"java/util/ArrayList", "elementData", "(I)Ljava/lang/Object;"⟩ : MethodName) (head1 (Jvm.Cond.code (⟨"java/util/ArrayList", "elementData", "(I)Ljava/lang/Object;"⟩ : MethodName) jdk_38_method_18_code 2 (some (.object "java/lang/Object")) :: ws) ({ frames := 0, cells := 0, slots := 0, locals := 0 } : Room)) (fun aA uU => aA = #[(.ref a), (.int (0 : Int32))] ∧ Z.Warmed39 uU.vm ∧ uU.heap = h0) (fun _ _ _ _ _ => True) (fun _ uU oO uU' => ∃ vV lL, oO = .returned vV ∧ Q_celd0 Z a d kd ea eb h0 n0 vV uU'.heap lL ∧ FrameEnd uU oO uU' lL ({ frames := 0, cells := 0, slots := 0, locals := 0 } : Room).cells ({ frames := 0, cells := 0, slots := 0, locals := 0 } : Room).slots) := by
  refine MetFree.of_bodySF (plainFor_of_name pn_java_util_ArrayList) hisR ?_
  intro p e s m args below meth c s₁ Bd hml0 hP hK
  obtain ⟨rfl, hZ, hh⟩ := hP
  have hx := Bd.exec
  have hby := Bd.bytes
  have hml : c.maxLocals = 2 := hml0
  have hown : s.vm.findClass "java/util/ArrayList" = some m.cls := findClass_of_methodNamed Bd.named
  have hnm := (name_of_methodNamed Bd.named Bd.method).1
  have X0 : Stand p l e ({ frames := 0, cells := 0, slots := 0, locals := 0 } : Room) s m #[(.ref a), (.int (0 : Int32))] below meth c s₁ [] 0 0 := Stand.of_body Bd
  have e0 : s₁.heap = h0 := by rw [← hh, Bd.state]; rfl
  have N0 := Fr.nil n0
  refine Rch.out (Rch.st (fun t k => castTop (ef_celd0 m a d kd ea eb) k) ?_)
  show Rch p.tables e below _ (s₁.setTop (mkF m 0 #[.val (.ref a), .val (.int (0 : Int32))] []))
  refine Rch.st (fun _ hr => XS.aloadN X0.here hx rfl (hb hby d19_0) rfl rfl hr) ?_
  obtain ⟨T1, X1, e1, st1⟩ := getF X0 hx hZ hown (host := "") (Or.inl (own_w hw 24 rfl)) Via.refl e0 zP1 (g := (mkF m 1 #[.val (.ref a), .val (.int (0 : Int32))] [(.ref a)])) rfl rfl (hb hby d19_1)
  refine Rch.st st1 ?_
  refine Rch.st (fun _ hr => XS.iloadN X1.here hx rfl (hb hby d19_4) rfl hr) ?_
  obtain ⟨cl2, Ar2, -, Sz2, Ng2, Ha2, -⟩ := id zP3
  have hin2 := inb_of (j := (0 : Int32)) Sz2 ⟨by decide, by decide⟩
  have hat2 := Ha2.at hin2 (v := (.ref ea)) rfl
  refine Rch.st (fun t hr => X1.aaload hx (j := (0 : Int32)) (v := (.ref ea)) (by rw [e1]; exact Ar2.1) (State.isArrayOf_alike hZ.alike Ar2.2.1) rfl Ar2.2.2 hin2 hat2 (g := (mkF m 5 #[.val (.ref a), .val (.int (0 : Int32))] [(.int (0 : Int32)), (.ref d)])) rfl rfl (hb hby d19_5) t hr) ?_
  show Rch p.tables e below _ (T1.setTop (mkF m 6 #[.val (.ref a), .val (.int (0 : Int32))] [(.ref ea)]))
  obtain ⟨fs, hr, hrun, hended, hW, hsame⟩ := X1.leave (v := some (.ref ea)) (fun h => by rw [Bd.returns] at h; cases h)
  refine Rch.fin (u := T1.setFrames fs) (own_retA X1 hx Bd.returns rfl rfl rfl (hb hby d19_6) hr) ⟨_, hrun, hended, _, _, rfl, ?_, ⟨_, rfl⟩, hW, hsame.mono (by decide) (by decide)⟩
  show Q_celd0 Z a d kd ea eb h0 n0 _ T1.heap _
  exact ⟨rfl, N0, e1⟩
theorem d16_0 : decode jdk_38_method_20_code 0 = .ok (.iload_n 1, 1) := by decide +kernel
theorem d16_1 : decode jdk_38_method_20_code 1 = .ok (.aload_n 0, 1) := by decide +kernel
theorem d16_2 : decode jdk_38_method_20_code 2 = .ok (.getfield 48, 3) := by decide +kernel
theorem d16_5 : decode jdk_38_method_20_code 5 = .ok (.invokestatic 118, 3) := by decide +kernel
theorem d16_8 : decode jdk_38_method_20_code 8 = .ok (.pop, 1) := by decide +kernel
theorem d16_9 : decode jdk_38_method_20_code 9 = .ok (.aload_n 0, 1) := by decide +kernel
theorem d16_10 : decode jdk_38_method_20_code 10 = .ok (.iload_n 1, 1) := by decide +kernel
theorem d16_11 : decode jdk_38_method_20_code 11 = .ok (.invokevirtual 123, 3) := by decide +kernel
theorem pd_13 : parseMethodDescriptor "(I)Ljava/lang/Object;" = some ⟨[.int], some (.object "java/lang/Object")⟩ := by decide +kernel
theorem d16_14 : decode jdk_38_method_20_code 14 = .ok (.areturn, 1) := by decide +kernel
def Q_cget0 (Z : State) (a : Addr) (d : Addr) (kd : ClassId) (ea : Addr) (eb : Addr) (h0 : Heap) (n0 : Nat) (v : Option Value) (h : Heap) (L : List Loc) : Prop := v = some (.ref ea) ∧ Fr n0 L ∧ h = h0
theorem ef_cget0 (m : MethodId) (a : Addr) (d : Addr) (kd : ClassId) (ea : Addr) (eb : Addr) : entryFrame m #[(.ref a), (.int (0 : Int32))] 2 = mkF m 0 #[.val (.ref a), .val (.int (0 : Int32))] [] := by first | (simp [entryFrame, mkF, argsToLocals, Value.category]; done) | rfl
set_option maxRecDepth 65536 in
set_option maxHeartbeats 40000000 in
theorem cget0 (l : Launch) (Z : State) (a0 : Array Value) (hw : ∀ d ∈ tables_1, d.before a0 Z = true) (ws : List Jvm.Cond) (a : Addr) (d : Addr) (kd : ClassId) (ea : Addr) (eb : Addr) (h0 : Heap) (n0 : Nat) (zP0 : Exa Z h0 a "java/util/ArrayList") (zP1 : Fld Z h0 a "java/util/ArrayList" "elementData" "[Ljava/lang/Object;" (.ref d)) (zP2 : Fld Z h0 a "java/util/ArrayList" "size" "I" (.int (2 : Int32))) (zP3 : Arv Z h0 d kd (.object "java/lang/Object") (10 : Int32) [(.ref ea), (.ref eb), .null, .null, .null, .null, .null, .null, .null, .null] .null) :
    MetFree l (⟨"java/util/ArrayList", "get", "(I)Ljava/lang/Object;"⟩ : MethodName) (head1 (Jvm.Cond.code (⟨"java/util/ArrayList", "get", "(I)Ljava/lang/Object;"⟩ : MethodName) jdk_38_method_20_code 2 (some (.object "java/lang/Object")) :: ws) ({ frames := 2, cells := 0, slots := 0, locals := 27 } : Room)) (fun aA uU => aA = #[(.ref a), (.int (0 : Int32))] ∧ Z.Warmed39 uU.vm ∧ uU.heap = h0) (fun _ _ _ _ _ => True) (fun _ uU oO uU' => ∃ vV lL, oO = .returned vV ∧ Q_cget0 Z a d kd ea eb h0 n0 vV uU'.heap lL ∧ FrameEnd uU oO uU' lL ({ frames := 2, cells := 0, slots := 0, locals := 27 } : Room).cells ({ frames := 2, cells := 0, slots := 0, locals := 27 } : Room).slots) := by
  refine MetFree.of_bodySF (plainFor_of_name pn_java_util_ArrayList) hisR ?_
  intro p e s m args below meth c s₁ Bd hml0 hP hK
  obtain ⟨rfl, hZ, hh⟩ := hP
  have hx := Bd.exec
  have hby := Bd.bytes
  have hml : c.maxLocals = 2 := hml0
  have hown : s.vm.findClass "java/util/ArrayList" = some m.cls := findClass_of_methodNamed Bd.named
  have hnm := (name_of_methodNamed Bd.named Bd.method).1
  have X0 : Stand p l e ({ frames := 2, cells := 0, slots := 0, locals := 27 } : Room) s m #[(.ref a), (.int (0 : Int32))] below meth c s₁ [] 0 0 := Stand.of_body Bd
  have e0 : s₁.heap = h0 := by rw [← hh, Bd.state]; rfl
  have N0 := Fr.nil n0
  refine Rch.out (Rch.st (fun t k => castTop (ef_cget0 m a d kd ea eb) k) ?_)
  show Rch p.tables e below _ (s₁.setTop (mkF m 0 #[.val (.ref a), .val (.int (0 : Int32))] []))
  refine Rch.st (fun _ hr => XS.iloadN X0.here hx rfl (hb hby d16_0) rfl hr) ?_
  refine Rch.st (fun _ hr => XS.aloadN X0.here hx rfl (hb hby d16_1) rfl rfl hr) ?_
  obtain ⟨T1, X1, e1, st1⟩ := getF X0 hx hZ hown (host := "") (Or.inl (own_w hw 66 rfl)) Via.refl e0 zP2 (g := (mkF m 2 #[.val (.ref a), .val (.int (0 : Int32))] [(.ref a), (.int (0 : Int32))])) rfl rfl (hb hby d16_2)
  refine Rch.st st1 ?_
  obtain ⟨_, T2, Lc2, X2, hQ2, st2⟩ := own_callS X1 hx hZ (y := (⟨"java/util/Objects", "checkIndex", "(II)I"⟩ : MethodName)) hown (own_w hw 128 rfl) (own_w hw 129 rfl) (own_w hw 130 rfl) (own_w hw 131 rfl) (by decide) (W := 0) (coci l Z a0 hw [] (0 : Int32) (2 : Int32) h0 n0 (by decide) (by decide)) (by decide) (by decide) e1 (by decide) (by decide) (g := (mkF m 5 #[.val (.ref a), .val (.int (0 : Int32))] [(.int (2 : Int32)), (.int (0 : Int32))])) rfl (by rw [hml]; rfl) (argsL := [(.int (0 : Int32)), (.int (2 : Int32))]) (rest := []) (lenOf pd_8 rfl) rfl (by show 2 * 0 + _ ≤ _; exact Nat.le_of_eq rfl) (hb hby d16_5) rfl
  obtain ⟨rfl, N2q, e2⟩ := hQ2
  have N2 := Fr.app N0 N2q
  refine Rch.st st2 ?_
  show Rch p.tables e below _ (T2.setTop (mkF m 8 #[.val (.ref a), .val (.int (0 : Int32))] [(.int (0 : Int32))]))
  refine Rch.st (fun _ hr => XS.pop X2.here hx rfl (hb hby d16_8) rfl rfl hr) ?_
  refine Rch.st (fun _ hr => XS.aloadN X2.here hx rfl (hb hby d16_9) rfl rfl hr) ?_
  refine Rch.st (fun _ hr => XS.iloadN X2.here hx rfl (hb hby d16_10) rfl hr) ?_
  obtain ⟨_, T3, Lc3, X3, hQ3, st3⟩ := own_callV X2 hx hZ (y := (⟨"java/util/ArrayList", "elementData", "(I)Ljava/lang/Object;"⟩ : MethodName)) (z := (⟨"java/util/ArrayList", "elementData", "(I)Ljava/lang/Object;"⟩ : MethodName)) hown (own_w hw 136 rfl) (own_w hw 137 rfl) (notFace_of_selects (args := #[]) (mvT hZ (own_w hw 139 rfl))) (own_w hw 139 rfl) (own_w hw 138 rfl) (own_w hw 2 rfl) (own_w hw 140 rfl) (by decide) (W := 0) (celd0 l Z a0 hw [] a d kd ea eb h0 n0 zP0 zP1 zP2 zP3) (by decide) (by decide) e2 zP0 (by decide) (by decide) (g := (mkF m 11 #[.val (.ref a), .val (.int (0 : Int32))] [(.int (0 : Int32)), (.ref a)])) rfl (by rw [hml]; rfl) (argsL := [(.int (0 : Int32))]) (rest := []) (lenOf pd_13 rfl) rfl (by show 2 * 0 + _ ≤ _; exact Nat.le_of_eq rfl) (hb hby d16_11) rfl
  obtain ⟨rfl, N3q, e3⟩ := hQ3
  have N3 := Fr.app N2 N3q
  refine Rch.st st3 ?_
  show Rch p.tables e below _ (T3.setTop (mkF m 14 #[.val (.ref a), .val (.int (0 : Int32))] [(.ref ea)]))
  obtain ⟨fs, hr, hrun, hended, hW, hsame⟩ := X3.leave (v := some (.ref ea)) (fun h => by rw [Bd.returns] at h; cases h)
  refine Rch.fin (u := T3.setFrames fs) (own_retA X3 hx Bd.returns rfl rfl rfl (hb hby d16_14) hr) ⟨_, hrun, hended, _, _, rfl, ?_, ⟨_, rfl⟩, hW, hsame.mono (by decide) (by decide)⟩
  show Q_cget0 Z a d kd ea eb h0 n0 _ T3.heap _
  exact ⟨rfl, N3, e3⟩
def Q_celd1 (Z : State) (a : Addr) (d : Addr) (kd : ClassId) (ea : Addr) (eb : Addr) (h0 : Heap) (n0 : Nat) (v : Option Value) (h : Heap) (L : List Loc) : Prop := v = some (.ref eb) ∧ Fr n0 L ∧ h = h0
theorem ef_celd1 (m : MethodId) (a : Addr) (d : Addr) (kd : ClassId) (ea : Addr) (eb : Addr) : entryFrame m #[(.ref a), (.int (1 : Int32))] 2 = mkF m 0 #[.val (.ref a), .val (.int (1 : Int32))] [] := by first | (simp [entryFrame, mkF, argsToLocals, Value.category]; done) | rfl
set_option maxRecDepth 65536 in
set_option maxHeartbeats 40000000 in
theorem celd1 (l : Launch) (Z : State) (a0 : Array Value) (hw : ∀ d ∈ tables_1, d.before a0 Z = true) (ws : List Jvm.Cond) (a : Addr) (d : Addr) (kd : ClassId) (ea : Addr) (eb : Addr) (h0 : Heap) (n0 : Nat) (zP0 : Exa Z h0 a "java/util/ArrayList") (zP1 : Fld Z h0 a "java/util/ArrayList" "elementData" "[Ljava/lang/Object;" (.ref d)) (zP2 : Fld Z h0 a "java/util/ArrayList" "size" "I" (.int (2 : Int32))) (zP3 : Arv Z h0 d kd (.object "java/lang/Object") (10 : Int32) [(.ref ea), (.ref eb), .null, .null, .null, .null, .null, .null, .null, .null] .null) :
    MetFree l (⟨"java/util/ArrayList", "elementData", "(I)Ljava/lang/Object;"⟩ : MethodName) (head1 (Jvm.Cond.code (⟨"java/util/ArrayList", "elementData", "(I)Ljava/lang/Object;"⟩ : MethodName) jdk_38_method_18_code 2 (some (.object "java/lang/Object")) :: ws) ({ frames := 0, cells := 0, slots := 0, locals := 0 } : Room)) (fun aA uU => aA = #[(.ref a), (.int (1 : Int32))] ∧ Z.Warmed39 uU.vm ∧ uU.heap = h0) (fun _ _ _ _ _ => True) (fun _ uU oO uU' => ∃ vV lL, oO = .returned vV ∧ Q_celd1 Z a d kd ea eb h0 n0 vV uU'.heap lL ∧ FrameEnd uU oO uU' lL ({ frames := 0, cells := 0, slots := 0, locals := 0 } : Room).cells ({ frames := 0, cells := 0, slots := 0, locals := 0 } : Room).slots) := by
  refine MetFree.of_bodySF (plainFor_of_name pn_java_util_ArrayList) hisR ?_
  intro p e s m args below meth c s₁ Bd hml0 hP hK
  obtain ⟨rfl, hZ, hh⟩ := hP
  have hx := Bd.exec
  have hby := Bd.bytes
  have hml : c.maxLocals = 2 := hml0
  have hown : s.vm.findClass "java/util/ArrayList" = some m.cls := findClass_of_methodNamed Bd.named
  have hnm := (name_of_methodNamed Bd.named Bd.method).1
  have X0 : Stand p l e ({ frames := 0, cells := 0, slots := 0, locals := 0 } : Room) s m #[(.ref a), (.int (1 : Int32))] below meth c s₁ [] 0 0 := Stand.of_body Bd
  have e0 : s₁.heap = h0 := by rw [← hh, Bd.state]; rfl
  have N0 := Fr.nil n0
  refine Rch.out (Rch.st (fun t k => castTop (ef_celd1 m a d kd ea eb) k) ?_)
  show Rch p.tables e below _ (s₁.setTop (mkF m 0 #[.val (.ref a), .val (.int (1 : Int32))] []))
  refine Rch.st (fun _ hr => XS.aloadN X0.here hx rfl (hb hby d19_0) rfl rfl hr) ?_
  obtain ⟨T1, X1, e1, st1⟩ := getF X0 hx hZ hown (host := "") (Or.inl (own_w hw 24 rfl)) Via.refl e0 zP1 (g := (mkF m 1 #[.val (.ref a), .val (.int (1 : Int32))] [(.ref a)])) rfl rfl (hb hby d19_1)
  refine Rch.st st1 ?_
  refine Rch.st (fun _ hr => XS.iloadN X1.here hx rfl (hb hby d19_4) rfl hr) ?_
  obtain ⟨cl2, Ar2, -, Sz2, Ng2, Ha2, -⟩ := id zP3
  have hin2 := inb_of (j := (1 : Int32)) Sz2 ⟨by decide, by decide⟩
  have hat2 := Ha2.at hin2 (v := (.ref eb)) rfl
  refine Rch.st (fun t hr => X1.aaload hx (j := (1 : Int32)) (v := (.ref eb)) (by rw [e1]; exact Ar2.1) (State.isArrayOf_alike hZ.alike Ar2.2.1) rfl Ar2.2.2 hin2 hat2 (g := (mkF m 5 #[.val (.ref a), .val (.int (1 : Int32))] [(.int (1 : Int32)), (.ref d)])) rfl rfl (hb hby d19_5) t hr) ?_
  show Rch p.tables e below _ (T1.setTop (mkF m 6 #[.val (.ref a), .val (.int (1 : Int32))] [(.ref eb)]))
  obtain ⟨fs, hr, hrun, hended, hW, hsame⟩ := X1.leave (v := some (.ref eb)) (fun h => by rw [Bd.returns] at h; cases h)
  refine Rch.fin (u := T1.setFrames fs) (own_retA X1 hx Bd.returns rfl rfl rfl (hb hby d19_6) hr) ⟨_, hrun, hended, _, _, rfl, ?_, ⟨_, rfl⟩, hW, hsame.mono (by decide) (by decide)⟩
  show Q_celd1 Z a d kd ea eb h0 n0 _ T1.heap _
  exact ⟨rfl, N0, e1⟩
def Q_cget1 (Z : State) (a : Addr) (d : Addr) (kd : ClassId) (ea : Addr) (eb : Addr) (h0 : Heap) (n0 : Nat) (v : Option Value) (h : Heap) (L : List Loc) : Prop := v = some (.ref eb) ∧ Fr n0 L ∧ h = h0
theorem ef_cget1 (m : MethodId) (a : Addr) (d : Addr) (kd : ClassId) (ea : Addr) (eb : Addr) : entryFrame m #[(.ref a), (.int (1 : Int32))] 2 = mkF m 0 #[.val (.ref a), .val (.int (1 : Int32))] [] := by first | (simp [entryFrame, mkF, argsToLocals, Value.category]; done) | rfl
set_option maxRecDepth 65536 in
set_option maxHeartbeats 40000000 in
theorem cget1 (l : Launch) (Z : State) (a0 : Array Value) (hw : ∀ d ∈ tables_1, d.before a0 Z = true) (ws : List Jvm.Cond) (a : Addr) (d : Addr) (kd : ClassId) (ea : Addr) (eb : Addr) (h0 : Heap) (n0 : Nat) (zP0 : Exa Z h0 a "java/util/ArrayList") (zP1 : Fld Z h0 a "java/util/ArrayList" "elementData" "[Ljava/lang/Object;" (.ref d)) (zP2 : Fld Z h0 a "java/util/ArrayList" "size" "I" (.int (2 : Int32))) (zP3 : Arv Z h0 d kd (.object "java/lang/Object") (10 : Int32) [(.ref ea), (.ref eb), .null, .null, .null, .null, .null, .null, .null, .null] .null) :
    MetFree l (⟨"java/util/ArrayList", "get", "(I)Ljava/lang/Object;"⟩ : MethodName) (head1 (Jvm.Cond.code (⟨"java/util/ArrayList", "get", "(I)Ljava/lang/Object;"⟩ : MethodName) jdk_38_method_20_code 2 (some (.object "java/lang/Object")) :: ws) ({ frames := 2, cells := 0, slots := 0, locals := 27 } : Room)) (fun aA uU => aA = #[(.ref a), (.int (1 : Int32))] ∧ Z.Warmed39 uU.vm ∧ uU.heap = h0) (fun _ _ _ _ _ => True) (fun _ uU oO uU' => ∃ vV lL, oO = .returned vV ∧ Q_cget1 Z a d kd ea eb h0 n0 vV uU'.heap lL ∧ FrameEnd uU oO uU' lL ({ frames := 2, cells := 0, slots := 0, locals := 27 } : Room).cells ({ frames := 2, cells := 0, slots := 0, locals := 27 } : Room).slots) := by
  refine MetFree.of_bodySF (plainFor_of_name pn_java_util_ArrayList) hisR ?_
  intro p e s m args below meth c s₁ Bd hml0 hP hK
  obtain ⟨rfl, hZ, hh⟩ := hP
  have hx := Bd.exec
  have hby := Bd.bytes
  have hml : c.maxLocals = 2 := hml0
  have hown : s.vm.findClass "java/util/ArrayList" = some m.cls := findClass_of_methodNamed Bd.named
  have hnm := (name_of_methodNamed Bd.named Bd.method).1
  have X0 : Stand p l e ({ frames := 2, cells := 0, slots := 0, locals := 27 } : Room) s m #[(.ref a), (.int (1 : Int32))] below meth c s₁ [] 0 0 := Stand.of_body Bd
  have e0 : s₁.heap = h0 := by rw [← hh, Bd.state]; rfl
  have N0 := Fr.nil n0
  refine Rch.out (Rch.st (fun t k => castTop (ef_cget1 m a d kd ea eb) k) ?_)
  show Rch p.tables e below _ (s₁.setTop (mkF m 0 #[.val (.ref a), .val (.int (1 : Int32))] []))
  refine Rch.st (fun _ hr => XS.iloadN X0.here hx rfl (hb hby d16_0) rfl hr) ?_
  refine Rch.st (fun _ hr => XS.aloadN X0.here hx rfl (hb hby d16_1) rfl rfl hr) ?_
  obtain ⟨T1, X1, e1, st1⟩ := getF X0 hx hZ hown (host := "") (Or.inl (own_w hw 66 rfl)) Via.refl e0 zP2 (g := (mkF m 2 #[.val (.ref a), .val (.int (1 : Int32))] [(.ref a), (.int (1 : Int32))])) rfl rfl (hb hby d16_2)
  refine Rch.st st1 ?_
  obtain ⟨_, T2, Lc2, X2, hQ2, st2⟩ := own_callS X1 hx hZ (y := (⟨"java/util/Objects", "checkIndex", "(II)I"⟩ : MethodName)) hown (own_w hw 128 rfl) (own_w hw 129 rfl) (own_w hw 130 rfl) (own_w hw 131 rfl) (by decide) (W := 0) (coci l Z a0 hw [] (1 : Int32) (2 : Int32) h0 n0 (by decide) (by decide)) (by decide) (by decide) e1 (by decide) (by decide) (g := (mkF m 5 #[.val (.ref a), .val (.int (1 : Int32))] [(.int (2 : Int32)), (.int (1 : Int32))])) rfl (by rw [hml]; rfl) (argsL := [(.int (1 : Int32)), (.int (2 : Int32))]) (rest := []) (lenOf pd_8 rfl) rfl (by show 2 * 0 + _ ≤ _; exact Nat.le_of_eq rfl) (hb hby d16_5) rfl
  obtain ⟨rfl, N2q, e2⟩ := hQ2
  have N2 := Fr.app N0 N2q
  refine Rch.st st2 ?_
  show Rch p.tables e below _ (T2.setTop (mkF m 8 #[.val (.ref a), .val (.int (1 : Int32))] [(.int (1 : Int32))]))
  refine Rch.st (fun _ hr => XS.pop X2.here hx rfl (hb hby d16_8) rfl rfl hr) ?_
  refine Rch.st (fun _ hr => XS.aloadN X2.here hx rfl (hb hby d16_9) rfl rfl hr) ?_
  refine Rch.st (fun _ hr => XS.iloadN X2.here hx rfl (hb hby d16_10) rfl hr) ?_
  obtain ⟨_, T3, Lc3, X3, hQ3, st3⟩ := own_callV X2 hx hZ (y := (⟨"java/util/ArrayList", "elementData", "(I)Ljava/lang/Object;"⟩ : MethodName)) (z := (⟨"java/util/ArrayList", "elementData", "(I)Ljava/lang/Object;"⟩ : MethodName)) hown (own_w hw 136 rfl) (own_w hw 137 rfl) (notFace_of_selects (args := #[]) (mvT hZ (own_w hw 139 rfl))) (own_w hw 139 rfl) (own_w hw 138 rfl) (own_w hw 2 rfl) (own_w hw 140 rfl) (by decide) (W := 0) (celd1 l Z a0 hw [] a d kd ea eb h0 n0 zP0 zP1 zP2 zP3) (by decide) (by decide) e2 zP0 (by decide) (by decide) (g := (mkF m 11 #[.val (.ref a), .val (.int (1 : Int32))] [(.int (1 : Int32)), (.ref a)])) rfl (by rw [hml]; rfl) (argsL := [(.int (1 : Int32))]) (rest := []) (lenOf pd_13 rfl) rfl (by show 2 * 0 + _ ≤ _; exact Nat.le_of_eq rfl) (hb hby d16_11) rfl
  obtain ⟨rfl, N3q, e3⟩ := hQ3
  have N3 := Fr.app N2 N3q
  refine Rch.st st3 ?_
  show Rch p.tables e below _ (T3.setTop (mkF m 14 #[.val (.ref a), .val (.int (1 : Int32))] [(.ref eb)]))
  obtain ⟨fs, hr, hrun, hended, hW, hsame⟩ := X3.leave (v := some (.ref eb)) (fun h => by rw [Bd.returns] at h; cases h)
  refine Rch.fin (u := T3.setFrames fs) (own_retA X3 hx Bd.returns rfl rfl rfl (hb hby d16_14) hr) ⟨_, hrun, hended, _, _, rfl, ?_, ⟨_, rfl⟩, hW, hsame.mono (by decide) (by decide)⟩
  show Q_cget1 Z a d kd ea eb h0 n0 _ T3.heap _
  exact ⟨rfl, N3, e3⟩
theorem d7_0 : decode jdk_30_method_1_code 0 = .ok (.aload_n 0, 1) := by decide +kernel
theorem d7_1 : decode jdk_30_method_1_code 1 = .ok (.invokespecial 1, 3) := by decide +kernel
theorem d7_4 : decode jdk_30_method_1_code 4 = .ok (.return_, 1) := by decide +kernel
def Q_crecord (Z : State) (a : Addr) (h0 : Heap) (n0 : Nat) (v : Option Value) (h : Heap) (L : List Loc) : Prop := v = none ∧ Fr n0 L ∧ h = h0
theorem pn_java_lang_Record : plainName "java/lang/Record" = true := by first | (simp [plainName, overriddenIn]; done) | decide +kernel
theorem ef_crecord (m : MethodId) (a : Addr) : entryFrame m #[(.ref a)] 1 = mkF m 0 #[.val (.ref a)] [] := by first | (simp [entryFrame, mkF, argsToLocals, Value.category]; done) | rfl
set_option maxRecDepth 65536 in
set_option maxHeartbeats 40000000 in
theorem crecord (l : Launch) (Z : State) (a0 : Array Value) (hw : ∀ d ∈ tables_1, d.before a0 Z = true) (ws : List Jvm.Cond) (a : Addr) (h0 : Heap) (n0 : Nat) :
    MetFree l (⟨"java/lang/Record", "<init>", "()V"⟩ : MethodName) (head1 (Jvm.Cond.code (⟨"java/lang/Record", "<init>", "()V"⟩ : MethodName) jdk_30_method_1_code 1 none :: ws) ({ frames := 1, cells := 0, slots := 0, locals := 12 } : Room)) (fun aA uU => aA = #[(.ref a)] ∧ Z.Warmed39 uU.vm ∧ uU.heap = h0) (fun _ _ _ _ _ => True) (fun _ uU oO uU' => ∃ vV lL, oO = .returned vV ∧ Q_crecord Z a h0 n0 vV uU'.heap lL ∧ FrameEnd uU oO uU' lL ({ frames := 1, cells := 0, slots := 0, locals := 12 } : Room).cells ({ frames := 1, cells := 0, slots := 0, locals := 12 } : Room).slots) := by
  refine MetFree.of_bodySF (plainFor_of_name pn_java_lang_Record) hisR ?_
  intro p e s m args below meth c s₁ Bd hml0 hP hK
  obtain ⟨rfl, hZ, hh⟩ := hP
  have hx := Bd.exec
  have hby := Bd.bytes
  have hml : c.maxLocals = 1 := hml0
  have hown : s.vm.findClass "java/lang/Record" = some m.cls := findClass_of_methodNamed Bd.named
  have hnm := (name_of_methodNamed Bd.named Bd.method).1
  have X0 : Stand p l e ({ frames := 1, cells := 0, slots := 0, locals := 12 } : Room) s m #[(.ref a)] below meth c s₁ [] 0 0 := Stand.of_body Bd
  have e0 : s₁.heap = h0 := by rw [← hh, Bd.state]; rfl
  have N0 := Fr.nil n0
  refine Rch.out (Rch.st (fun t k => castTop (ef_crecord m a) k) ?_)
  show Rch p.tables e below _ (s₁.setTop (mkF m 0 #[.val (.ref a)] []))
  refine Rch.st (fun _ hr => XS.aloadN X0.here hx rfl (hb hby d7_0) rfl rfl hr) ?_
  obtain ⟨T1, X1, e1, st1⟩ := initO X0 hx hZ hown (own_w hw 50 rfl) (own_w hw 19 rfl) (own_w hw 20 rfl) e0 (g := (mkF m 1 #[.val (.ref a)] [(.ref a)])) rfl (by rw [hml]; rfl) rfl (hb hby d7_1) (by decide) (W := 0) (by show 2 * 0 + _ ≤ _; exact Nat.le_of_eq rfl) (by decide)
  refine Rch.st st1 ?_
  obtain ⟨fs, hr, hrun, hended, hW, hsame⟩ := X1.leave (v := none) (fun _ => rfl)
  refine Rch.fin (u := T1.setFrames fs) (X1.returnOut hx Bd.returns (hb hby d7_4) hr) ⟨_, hrun, hended, _, _, rfl, ?_, ⟨_, rfl⟩, hW, hsame.mono (by decide) (by decide)⟩
  show Q_crecord Z a h0 n0 _ T1.heap _
  exact ⟨rfl, N0, e1⟩
theorem d6_0 : decode prog_27_method_1_code 0 = .ok (.aload_n 0, 1) := by decide +kernel
theorem d6_1 : decode prog_27_method_1_code 1 = .ok (.invokespecial 1, 3) := by decide +kernel
theorem d6_4 : decode prog_27_method_1_code 4 = .ok (.aload_n 0, 1) := by decide +kernel
theorem d6_5 : decode prog_27_method_1_code 5 = .ok (.aload_n 1, 1) := by decide +kernel
theorem d6_6 : decode prog_27_method_1_code 6 = .ok (.putfield 7, 3) := by decide +kernel
theorem d6_9 : decode prog_27_method_1_code 9 = .ok (.aload_n 0, 1) := by decide +kernel
theorem d6_10 : decode prog_27_method_1_code 10 = .ok (.aload_n 2, 1) := by decide +kernel
theorem d6_11 : decode prog_27_method_1_code 11 = .ok (.putfield 13, 3) := by decide +kernel
theorem d6_14 : decode prog_27_method_1_code 14 = .ok (.return_, 1) := by decide +kernel
def Q_cadv (Z : State) (a : Addr) (tx : Addr) (r : Addr) (h0 : Heap) (n0 : Nat) (v : Option Value) (h : Heap) (L : List Loc) : Prop := v = none ∧ Fr n0 L ∧ Keep h0 h [a] ∧ Old Z n0 h ∧ Exa Z h a "com/example/slotwright/slotwright/Market$Advertiser" ∧ Fld Z h a "com/example/slotwright/slotwright/Market$Advertiser" "budget" "Ljava/math/BigDecimal;" (.ref r)
theorem pn_com_example_slotwright_slotwright_Market_Advertiser : plainName "com/example/slotwright/slotwright/Market$Advertiser" = true := by first | (simp [plainName, overriddenIn]; done) | decide +kernel
theorem ef_cadv (m : MethodId) (a : Addr) (tx : Addr) (r : Addr) : entryFrame m #[(.ref a), (.ref tx), (.ref r)] 3 = mkF m 0 #[.val (.ref a), .val (.ref tx), .val (.ref r)] [] := by first | (simp [entryFrame, mkF, argsToLocals, Value.category]; done) | rfl
set_option maxRecDepth 65536 in
set_option maxHeartbeats 40000000 in
theorem cadv (l : Launch) (Z : State) (a0 : Array Value) (hw : ∀ d ∈ tables_1, d.before a0 Z = true) (ws : List Jvm.Cond) (a : Addr) (tx : Addr) (r : Addr) (h0 : Heap) (n0 : Nat) (zP0 : Old Z n0 h0) (zP1 : Exa Z h0 a "com/example/slotwright/slotwright/Market$Advertiser") (zP2 : Fld Z h0 a "com/example/slotwright/slotwright/Market$Advertiser" "id" "Ljava/lang/String;" .null) (zP3 : Fld Z h0 a "com/example/slotwright/slotwright/Market$Advertiser" "budget" "Ljava/math/BigDecimal;" .null) (zP4 : n0 ≤ a) :
    MetFree l (⟨"com/example/slotwright/slotwright/Market$Advertiser", "<init>", "(Ljava/lang/String;Ljava/math/BigDecimal;)V"⟩ : MethodName) (head1 (Jvm.Cond.code (⟨"com/example/slotwright/slotwright/Market$Advertiser", "<init>", "(Ljava/lang/String;Ljava/math/BigDecimal;)V"⟩ : MethodName) prog_27_method_1_code 3 none :: ws) ({ frames := 2, cells := 0, slots := 0, locals := 24 } : Room)) (fun aA uU => aA = #[(.ref a), (.ref tx), (.ref r)] ∧ Z.Warmed39 uU.vm ∧ uU.heap = h0) (fun _ _ _ _ _ => True) (fun _ uU oO uU' => ∃ vV lL, oO = .returned vV ∧ Q_cadv Z a tx r h0 n0 vV uU'.heap lL ∧ FrameEnd uU oO uU' lL ({ frames := 2, cells := 0, slots := 0, locals := 24 } : Room).cells ({ frames := 2, cells := 0, slots := 0, locals := 24 } : Room).slots) := by
  refine MetFree.of_bodySF (plainFor_of_name pn_com_example_slotwright_slotwright_Market_Advertiser) hisR ?_
  intro p e s m args below meth c s₁ Bd hml0 hP hK
  obtain ⟨rfl, hZ, hh⟩ := hP
  have hx := Bd.exec
  have hby := Bd.bytes
  have hml : c.maxLocals = 3 := hml0
  have hown : s.vm.findClass "com/example/slotwright/slotwright/Market$Advertiser" = some m.cls := findClass_of_methodNamed Bd.named
  have hnm := (name_of_methodNamed Bd.named Bd.method).1
  have X0 : Stand p l e ({ frames := 2, cells := 0, slots := 0, locals := 24 } : Room) s m #[(.ref a), (.ref tx), (.ref r)] below meth c s₁ [] 0 0 := Stand.of_body Bd
  have e0 : s₁.heap = h0 := by rw [← hh, Bd.state]; rfl
  have N0 := Fr.nil n0
  refine Rch.out (Rch.st (fun t k => castTop (ef_cadv m a tx r) k) ?_)
  show Rch p.tables e below _ (s₁.setTop (mkF m 0 #[.val (.ref a), .val (.ref tx), .val (.ref r)] []))
  refine Rch.st (fun _ hr => XS.aloadN X0.here hx rfl (hb hby d6_0) rfl rfl hr) ?_
  obtain ⟨_, T1, Lc1, X1, hQ1, st1⟩ := own_callI X0 hx hZ (y := (⟨"java/lang/Record", "<init>", "()V"⟩ : MethodName)) rfl hown (own_w hw 45 rfl) (own_w hw 46 rfl) (own_w hw 48 rfl) (own_w hw 49 rfl) (by decide) (W := 0) (crecord l Z a0 hw [] a h0 n0 ) (by decide) (by decide) e0 (by decide) (by decide) (g := (mkF m 1 #[.val (.ref a), .val (.ref tx), .val (.ref r)] [(.ref a)])) rfl (by rw [hml]; rfl) (a := a) (argsL := []) (rest := []) (lenOf pd_0 rfl) rfl (by show 2 * 0 + _ ≤ _; exact Nat.le_of_eq rfl) (hb hby d6_1) rfl
  obtain ⟨rfl, N1q, e1⟩ := hQ1
  have N1 := Fr.app N0 N1q
  refine Rch.st st1 ?_
  refine Rch.st (fun _ hr => XS.aloadN X1.here hx rfl (hb hby d6_4) rfl rfl hr) ?_
  refine Rch.st (fun _ hr => XS.aloadN X1.here hx rfl (hb hby d6_5) rfl rfl hr) ?_
  show Rch p.tables e below _ (T1.setTop (mkF m 6 #[.val (.ref a), .val (.ref tx), .val (.ref r)] [(.ref tx), (.ref a)]))
  obtain ⟨T2, h2, X2, e2, W2, st2⟩ := putF X1 hx hZ hown (host := "") (Or.inl (own_w hw 51 rfl)) Via.refl e1 zP2 zP1 (Or.inr ⟨(own_w hw 52 rfl), rfl, hnm⟩) (own_w hw 27 rfl) (ty := (.object "java/lang/String")) (by decide) rfl rfl (g := (mkF m 6 #[.val (.ref a), .val (.ref tx), .val (.ref r)] [(.ref tx), (.ref a)])) rfl rfl (hb hby d6_6)
  refine Rch.st st2 ?_
  have N2 := Fr.snoc X2 N1 zP4
  have K3 : Keep h0 h2 [a] := (Keep.refl h0 [a]).wr W2 (Or.inl (List.mem_of_getElem? (i := 0) rfl))
  have Fw2 := zP2.same W2
  refine Rch.st (fun _ hr => XS.aloadN X2.here hx rfl (hb hby d6_9) rfl rfl hr) ?_
  refine Rch.st (fun _ hr => XS.aloadN X2.here hx rfl (hb hby d6_10) rfl rfl hr) ?_
  have f4 : Fld Z h2 a "com/example/slotwright/slotwright/Market$Advertiser" "budget" "Ljava/math/BigDecimal;" .null := (zP3.other W2 (Or.inr (slot_ne (Or.inr (own_w hw 54 rfl)) (Or.inr (own_w hw 52 rfl)) (by decide) (t := (.object "java/math/BigDecimal")) (t' := (.object "java/lang/String")) (by decide) (by decide))))
  have f5 : Exa Z h2 a "com/example/slotwright/slotwright/Market$Advertiser" := (zP1.wr W2)
  obtain ⟨T6, h6, X6, e6, W6, st6⟩ := putF X2 hx hZ hown (host := "") (Or.inl (own_w hw 53 rfl)) Via.refl e2 f4 f5 (Or.inr ⟨(own_w hw 54 rfl), rfl, hnm⟩) (own_w hw 27 rfl) (ty := (.object "java/math/BigDecimal")) (by decide) rfl rfl (g := (mkF m 11 #[.val (.ref a), .val (.ref tx), .val (.ref r)] [(.ref r), (.ref a)])) rfl rfl (hb hby d6_11)
  refine Rch.st st6 ?_
  have N6 := Fr.snoc X6 N2 zP4
  have f7 : Old Z n0 h2 := (zP0.wr W2 zP4)
  have K8 : Keep h0 h6 [a] := K3.wr W6 (Or.inl (List.mem_of_getElem? (i := 0) rfl))
  have Fw6 := f4.same W6
  show Rch p.tables e below _ (T6.setTop (mkF m 14 #[.val (.ref a), .val (.ref tx), .val (.ref r)] []))
  obtain ⟨fs, hr, hrun, hended, hW, hsame⟩ := X6.leave (v := none) (fun _ => rfl)
  have f9 : Old Z n0 h6 := (f7.wr W6 zP4)
  have f10 : Exa Z h6 a "com/example/slotwright/slotwright/Market$Advertiser" := (f5.wr W6)
  refine Rch.fin (u := T6.setFrames fs) (X6.returnOut hx Bd.returns (hb hby d6_14) hr) ⟨_, hrun, hended, _, _, rfl, ?_, ⟨_, rfl⟩, hW, hsame.mono (by decide) (by decide)⟩
  show Q_cadv Z a tx r h0 n0 _ T6.heap _
  rw [e6]
  exact ⟨rfl, N6, K8, f9, f10, Fw6⟩
theorem d20_0 : decode prog_27_method_6_code 0 = .ok (.aload_n 0, 1) := by decide +kernel
theorem d20_1 : decode prog_27_method_6_code 1 = .ok (.getfield 13, 3) := by decide +kernel
theorem d20_4 : decode prog_27_method_6_code 4 = .ok (.areturn, 1) := by decide +kernel
def Q_cbudget (Z : State) (a : Addr) (r : Addr) (h0 : Heap) (n0 : Nat) (v : Option Value) (h : Heap) (L : List Loc) : Prop := v = some (.ref r) ∧ Fr n0 L ∧ h = h0
theorem ef_cbudget (m : MethodId) (a : Addr) (r : Addr) : entryFrame m #[(.ref a)] 1 = mkF m 0 #[.val (.ref a)] [] := by first | (simp [entryFrame, mkF, argsToLocals, Value.category]; done) | rfl
set_option maxRecDepth 65536 in
set_option maxHeartbeats 40000000 in
theorem cbudget (l : Launch) (Z : State) (a0 : Array Value) (hw : ∀ d ∈ tables_1, d.before a0 Z = true) (ws : List Jvm.Cond) (a : Addr) (r : Addr) (h0 : Heap) (n0 : Nat) (zP0 : Fld Z h0 a "com/example/slotwright/slotwright/Market$Advertiser" "budget" "Ljava/math/BigDecimal;" (.ref r)) :
    MetFree l (⟨"com/example/slotwright/slotwright/Market$Advertiser", "budget", "()Ljava/math/BigDecimal;"⟩ : MethodName) (head1 (Jvm.Cond.code (⟨"com/example/slotwright/slotwright/Market$Advertiser", "budget", "()Ljava/math/BigDecimal;"⟩ : MethodName) prog_27_method_6_code 1 (some (.object "java/math/BigDecimal")) :: ws) ({ frames := 0, cells := 0, slots := 0, locals := 0 } : Room)) (fun aA uU => aA = #[(.ref a)] ∧ Z.Warmed39 uU.vm ∧ uU.heap = h0) (fun _ _ _ _ _ => True) (fun _ uU oO uU' => ∃ vV lL, oO = .returned vV ∧ Q_cbudget Z a r h0 n0 vV uU'.heap lL ∧ FrameEnd uU oO uU' lL ({ frames := 0, cells := 0, slots := 0, locals := 0 } : Room).cells ({ frames := 0, cells := 0, slots := 0, locals := 0 } : Room).slots) := by
  refine MetFree.of_bodySF (plainFor_of_name pn_com_example_slotwright_slotwright_Market_Advertiser) hisR ?_
  intro p e s m args below meth c s₁ Bd hml0 hP hK
  obtain ⟨rfl, hZ, hh⟩ := hP
  have hx := Bd.exec
  have hby := Bd.bytes
  have hml : c.maxLocals = 1 := hml0
  have hown : s.vm.findClass "com/example/slotwright/slotwright/Market$Advertiser" = some m.cls := findClass_of_methodNamed Bd.named
  have hnm := (name_of_methodNamed Bd.named Bd.method).1
  have X0 : Stand p l e ({ frames := 0, cells := 0, slots := 0, locals := 0 } : Room) s m #[(.ref a)] below meth c s₁ [] 0 0 := Stand.of_body Bd
  have e0 : s₁.heap = h0 := by rw [← hh, Bd.state]; rfl
  have N0 := Fr.nil n0
  refine Rch.out (Rch.st (fun t k => castTop (ef_cbudget m a r) k) ?_)
  show Rch p.tables e below _ (s₁.setTop (mkF m 0 #[.val (.ref a)] []))
  refine Rch.st (fun _ hr => XS.aloadN X0.here hx rfl (hb hby d20_0) rfl rfl hr) ?_
  obtain ⟨T1, X1, e1, st1⟩ := getF X0 hx hZ hown (host := "") (Or.inl (own_w hw 53 rfl)) Via.refl e0 zP0 (g := (mkF m 1 #[.val (.ref a)] [(.ref a)])) rfl rfl (hb hby d20_1)
  refine Rch.st st1 ?_
  obtain ⟨fs, hr, hrun, hended, hW, hsame⟩ := X1.leave (v := some (.ref r)) (fun h => by rw [Bd.returns] at h; cases h)
  refine Rch.fin (u := T1.setFrames fs) (own_retA X1 hx Bd.returns rfl rfl rfl (hb hby d20_4) hr) ⟨_, hrun, hended, _, _, rfl, ?_, ⟨_, rfl⟩, hW, hsame.mono (by decide) (by decide)⟩
  show Q_cbudget Z a r h0 n0 _ T1.heap _
  exact ⟨rfl, N0, e1⟩
theorem d15_0 : decode jdk_65_method_117_code 0 = .ok (.iconst 0, 1) := by decide +kernel
theorem d15_1 : decode jdk_65_method_117_code 1 = .ok (.istore_n 2, 1) := by decide +kernel
theorem d15_2 : decode jdk_65_method_117_code 2 = .ok (.aload_n 0, 1) := by decide +kernel
theorem d15_3 : decode jdk_65_method_117_code 3 = .ok (.arraylength, 1) := by decide +kernel
theorem d15_4 : decode jdk_65_method_117_code 4 = .ok (.istore_n 3, 1) := by decide +kernel
theorem d15_5 : decode jdk_65_method_117_code 5 = .ok (.iload_n 2, 1) := by decide +kernel
theorem d15_6 : decode jdk_65_method_117_code 6 = .ok (.iload_n 3, 1) := by decide +kernel
theorem d15_7 : decode jdk_65_method_117_code 7 = .ok (.if_icmp .ge 13, 3) := by decide +kernel
theorem d15_10 : decode jdk_65_method_117_code 10 = .ok (.aload_n 0, 1) := by decide +kernel
theorem d15_11 : decode jdk_65_method_117_code 11 = .ok (.iload_n 2, 1) := by decide +kernel
theorem d15_12 : decode jdk_65_method_117_code 12 = .ok (.aload_n 1, 1) := by decide +kernel
theorem d15_13 : decode jdk_65_method_117_code 13 = .ok (.aastore, 1) := by decide +kernel
theorem d15_14 : decode jdk_65_method_117_code 14 = .ok (.iinc 2 1, 3) := by decide +kernel
theorem d15_17 : decode jdk_65_method_117_code 17 = .ok (.goto (-12), 3) := by decide +kernel
theorem d15_20 : decode jdk_65_method_117_code 20 = .ok (.return_, 1) := by decide +kernel
def Q_cfill (Z : State) (a : Addr) (kf : ClassId) (z : Addr) (h0 : Heap) (n0 : Nat) (v : Option Value) (h : Heap) (L : List Loc) : Prop := v = none ∧ Fr n0 L ∧ Keep h0 h [a] ∧ Old Z n0 h ∧ Arv Z h a kf (.object "java/math/BigDecimal") (2 : Int32) [(.ref z), (.ref z)] .null
theorem pn_java_util_Arrays : plainName "java/util/Arrays" = true := by first | (simp [plainName, overriddenIn]; done) | decide +kernel
theorem ef_cfill (m : MethodId) (a : Addr) (kf : ClassId) (z : Addr) : entryFrame m #[(.ref a), (.ref z)] 4 = mkF m 0 #[.val (.ref a), .val (.ref z), .unset, .unset] [] := by first | (simp [entryFrame, mkF, argsToLocals, Value.category]; done) | rfl
set_option maxRecDepth 65536 in
set_option maxHeartbeats 40000000 in
theorem cfill (l : Launch) (Z : State) (a0 : Array Value) (hw : ∀ d ∈ tables_1, d.before a0 Z = true) (ws : List Jvm.Cond) (a : Addr) (kf : ClassId) (z : Addr) (h0 : Heap) (n0 : Nat) (zP0 : Old Z n0 h0) (zP1 : Arv Z h0 a kf (.object "java/math/BigDecimal") (2 : Int32) [.null, .null] .null) (zP2 : Ovr Z kf "java/math/BigDecimal") (zP3 : Exa Z h0 z "java/math/BigDecimal") (zP4 : n0 ≤ a) :
    MetFree l (⟨"java/util/Arrays", "fill", "([Ljava/lang/Object;Ljava/lang/Object;)V"⟩ : MethodName) (head1 (Jvm.Cond.code (⟨"java/util/Arrays", "fill", "([Ljava/lang/Object;Ljava/lang/Object;)V"⟩ : MethodName) jdk_65_method_117_code 4 none :: ws) ({ frames := 0, cells := 0, slots := 0, locals := 0 } : Room)) (fun aA uU => aA = #[(.ref a), (.ref z)] ∧ Z.Warmed39 uU.vm ∧ uU.heap = h0) (fun _ _ _ _ _ => True) (fun _ uU oO uU' => ∃ vV lL, oO = .returned vV ∧ Q_cfill Z a kf z h0 n0 vV uU'.heap lL ∧ FrameEnd uU oO uU' lL ({ frames := 0, cells := 0, slots := 0, locals := 0 } : Room).cells ({ frames := 0, cells := 0, slots := 0, locals := 0 } : Room).slots) := by
  refine MetFree.of_bodySF (plainFor_of_name pn_java_util_Arrays) hisR ?_
  intro p e s m args below meth c s₁ Bd hml0 hP hK
  obtain ⟨rfl, hZ, hh⟩ := hP
  have hx := Bd.exec
  have hby := Bd.bytes
  have hml : c.maxLocals = 4 := hml0
  have hown : s.vm.findClass "java/util/Arrays" = some m.cls := findClass_of_methodNamed Bd.named
  have hnm := (name_of_methodNamed Bd.named Bd.method).1
  have X0 : Stand p l e ({ frames := 0, cells := 0, slots := 0, locals := 0 } : Room) s m #[(.ref a), (.ref z)] below meth c s₁ [] 0 0 := Stand.of_body Bd
  have e0 : s₁.heap = h0 := by rw [← hh, Bd.state]; rfl
  have N0 := Fr.nil n0
  refine Rch.out (Rch.st (fun t k => castTop (ef_cfill m a kf z) k) ?_)
  show Rch p.tables e below _ (s₁.setTop (mkF m 0 #[.val (.ref a), .val (.ref z), .unset, .unset] []))
  refine Rch.st (fun _ hr => XS.iconst X0.here hx rfl (hb hby d15_0) hr) ?_
  refine Rch.st (fun _ hr => XS.istoreN X0.here hx rfl (hb hby d15_1) rfl (l' := #[.val (.ref a), .val (.ref z), .val (.int (0 : Int32)), .unset]) rfl hr) ?_
  refine Rch.st (fun _ hr => XS.aloadN X0.here hx rfl (hb hby d15_2) rfl rfl hr) ?_
  obtain ⟨cl1, Ar1, -, Sz1, Ng1, -, -⟩ := id zP1
  refine Rch.st (fun t hr => X0.arraylength hx (by rw [e0]; exact Ar1.1) (State.isArrayOf_alike hZ.alike Ar1.2.1) (g := (mkF m 3 #[.val (.ref a), .val (.ref z), .val (.int (0 : Int32)), .unset] [(.ref a)])) rfl rfl (hb hby d15_3) t hr) ?_
  rw [len_of Sz1 Ng1]
  show Rch p.tables e below _ (s₁.setTop (mkF m 4 #[.val (.ref a), .val (.ref z), .val (.int (0 : Int32)), .unset] [(.int (2 : Int32))]))
  refine Rch.st (fun _ hr => XS.istoreN X0.here hx rfl (hb hby d15_4) rfl (l' := #[.val (.ref a), .val (.ref z), .val (.int (0 : Int32)), .val (.int (2 : Int32))]) rfl hr) ?_
  refine Rch.st (fun _ hr => XS.iloadN X0.here hx rfl (hb hby d15_5) rfl hr) ?_
  refine Rch.st (fun _ hr => XS.iloadN X0.here hx rfl (hb hby d15_6) rfl hr) ?_
  refine Rch.st (fun _ hr => XS.icmpNo X0.here hx rfl (hb hby d15_7) rfl (tlt (by decide : (0 : Int32) < (2 : Int32))).2.1 hr) ?_
  show Rch p.tables e below _ (s₁.setTop (mkF m 10 #[.val (.ref a), .val (.ref z), .val (.int (0 : Int32)), .val (.int (2 : Int32))] []))
  refine Rch.st (fun _ hr => XS.aloadN X0.here hx rfl (hb hby d15_10) rfl rfl hr) ?_
  refine Rch.st (fun _ hr => XS.iloadN X0.here hx rfl (hb hby d15_11) rfl hr) ?_
  refine Rch.st (fun _ hr => XS.aloadN X0.here hx rfl (hb hby d15_12) rfl rfl hr) ?_
  obtain ⟨cl2, Ar2, qk2, Sz2, Ng2, Ha2, Gf2⟩ := id zP1
  have hin2 := inb_of (j := (0 : Int32)) Sz2 ⟨by decide, by decide⟩
  obtain ⟨T3, h3, X3, e3, W3, st3⟩ := stR X0 hx hZ e0 Ar2 (j := (0 : Int32)) hin2 rfl (Sto.ofV Ar2 qk2 zP2 (Ins.self zP3)) (g := (mkF m 13 #[.val (.ref a), .val (.ref z), .val (.int (0 : Int32)), .val (.int (2 : Int32))] [(.ref z), (.int (0 : Int32)), (.ref a)])) rfl rfl (hb hby d15_13)
  refine Rch.st st3 ?_
  have N3 := Fr.snoc X3 N0 zP4
  have ne4 : z ≠ a := (Exa.neArv zP3 zP1 (own_w hw 200 rfl))
  have K5 : Keep h0 h3 [a] := (Keep.refl h0 [a]).wr W3 (Or.inl (List.mem_of_getElem? (i := 0) rfl))
  have V3 : Arv Z h3 a kf (.object "java/math/BigDecimal") (2 : Int32) [(.ref z), .null] .null := Arv.set Ar2 qk2 Sz2 Ng2 Ha2 Gf2 rfl W3 0 rfl (Nat.le_of_ble_eq_true rfl)
  show Rch p.tables e below _ (T3.setTop (mkF m 14 #[.val (.ref a), .val (.ref z), .val (.int (0 : Int32)), .val (.int (2 : Int32))] []))
  refine Rch.st (fun _ hr => XS.iinc X3.here hx rfl (hb hby d15_14) rfl (l' := #[.val (.ref a), .val (.ref z), .val (.int (1 : Int32)), .val (.int (2 : Int32))]) rfl hr) ?_
  refine Rch.st (fun _ hr => XS.goto X3.here hx rfl (pc0 := 17) (pc' := 5) rfl (hb hby d15_17) (by decide) (by decide) hr) ?_
  refine Rch.st (fun _ hr => XS.iloadN X3.here hx rfl (hb hby d15_5) rfl hr) ?_
  refine Rch.st (fun _ hr => XS.iloadN X3.here hx rfl (hb hby d15_6) rfl hr) ?_
  show Rch p.tables e below _ (T3.setTop (mkF m 7 #[.val (.ref a), .val (.ref z), .val (.int (1 : Int32)), .val (.int (2 : Int32))] [(.int (2 : Int32)), (.int (1 : Int32))]))
  refine Rch.st (fun _ hr => XS.icmpNo X3.here hx rfl (hb hby d15_7) rfl (tlt (by decide : (1 : Int32) < (2 : Int32))).2.1 hr) ?_
  refine Rch.st (fun _ hr => XS.aloadN X3.here hx rfl (hb hby d15_10) rfl rfl hr) ?_
  refine Rch.st (fun _ hr => XS.iloadN X3.here hx rfl (hb hby d15_11) rfl hr) ?_
  refine Rch.st (fun _ hr => XS.aloadN X3.here hx rfl (hb hby d15_12) rfl rfl hr) ?_
  show Rch p.tables e below _ (T3.setTop (mkF m 13 #[.val (.ref a), .val (.ref z), .val (.int (1 : Int32)), .val (.int (2 : Int32))] [(.ref z), (.int (1 : Int32)), (.ref a)]))
  obtain ⟨cl6, Ar6, qk6, Sz6, Ng6, Ha6, Gf6⟩ := id V3
  have hin6 := inb_of (j := (1 : Int32)) Sz6 ⟨by decide, by decide⟩
  have f7 : Exa Z h3 z "java/math/BigDecimal" := (zP3.wr W3)
  obtain ⟨T8, h8, X8, e8, W8, st8⟩ := stR X3 hx hZ e3 Ar6 (j := (1 : Int32)) hin6 rfl (Sto.ofV Ar6 qk6 zP2 (Ins.self f7)) (g := (mkF m 13 #[.val (.ref a), .val (.ref z), .val (.int (1 : Int32)), .val (.int (2 : Int32))] [(.ref z), (.int (1 : Int32)), (.ref a)])) rfl rfl (hb hby d15_13)
  refine Rch.st st8 ?_
  have N8 := Fr.snoc X8 N3 zP4
  have f9 : Old Z n0 h3 := (zP0.wr W3 zP4)
  have K10 : Keep h0 h8 [a] := K5.wr W8 (Or.inl (List.mem_of_getElem? (i := 0) rfl))
  have V8 : Arv Z h8 a kf (.object "java/math/BigDecimal") (2 : Int32) [(.ref z), (.ref z)] .null := Arv.set Ar6 qk6 Sz6 Ng6 Ha6 Gf6 rfl W8 1 rfl (Nat.le_of_ble_eq_true rfl)
  refine Rch.st (fun _ hr => XS.iinc X8.here hx rfl (hb hby d15_14) rfl (l' := #[.val (.ref a), .val (.ref z), .val (.int (2 : Int32)), .val (.int (2 : Int32))]) rfl hr) ?_
  refine Rch.st (fun _ hr => XS.goto X8.here hx rfl (pc0 := 17) (pc' := 5) rfl (hb hby d15_17) (by decide) (by decide) hr) ?_
  refine Rch.st (fun _ hr => XS.iloadN X8.here hx rfl (hb hby d15_5) rfl hr) ?_
  show Rch p.tables e below _ (T8.setTop (mkF m 6 #[.val (.ref a), .val (.ref z), .val (.int (2 : Int32)), .val (.int (2 : Int32))] [(.int (2 : Int32))]))
  refine Rch.st (fun _ hr => XS.iloadN X8.here hx rfl (hb hby d15_6) rfl hr) ?_
  refine Rch.st (fun _ hr => XS.icmpYes X8.here hx rfl (pc0 := 7) (pc' := 20) rfl (hb hby d15_7) rfl (flt (by decide : ¬ ((2 : Int32) < (2 : Int32)))).2.1 (by decide) (by decide) hr) ?_
  obtain ⟨fs, hr, hrun, hended, hW, hsame⟩ := X8.leave (v := none) (fun _ => rfl)
  have f11 : Old Z n0 h8 := (f9.wr W8 zP4)
  refine Rch.fin (u := T8.setFrames fs) (X8.returnOut hx Bd.returns (hb hby d15_20) hr) ⟨_, hrun, hended, _, _, rfl, ?_, ⟨_, rfl⟩, hW, hsame.mono (by decide) (by decide)⟩
  show Q_cfill Z a kf z h0 n0 _ T8.heap _
  rw [e8]
  exact ⟨rfl, N8, K10, f11, V8⟩
theorem d13_0 : decode prog_23_method_1_code 0 = .ok (.aload_n 0, 1) := by decide +kernel
theorem d13_1 : decode prog_23_method_1_code 1 = .ok (.invokespecial 1, 3) := by decide +kernel
theorem d13_4 : decode prog_23_method_1_code 4 = .ok (.aload_n 0, 1) := by decide +kernel
theorem d13_5 : decode prog_23_method_1_code 5 = .ok (.aload_n 1, 1) := by decide +kernel
theorem d13_6 : decode prog_23_method_1_code 6 = .ok (.putfield 7, 3) := by decide +kernel
theorem d13_9 : decode prog_23_method_1_code 9 = .ok (.aload_n 0, 1) := by decide +kernel
theorem d13_10 : decode prog_23_method_1_code 10 = .ok (.aload_n 1, 1) := by decide +kernel
theorem d13_11 : decode prog_23_method_1_code 11 = .ok (.invokeinterface 13 1, 5) := by decide +kernel
theorem pd_14 : parseMethodDescriptor "()I" = some ⟨[], some .int⟩ := by decide +kernel
theorem d13_16 : decode prog_23_method_1_code 16 = .ok (.anewarray 19, 3) := by decide +kernel
theorem d13_19 : decode prog_23_method_1_code 19 = .ok (.putfield 21, 3) := by decide +kernel
theorem d13_22 : decode prog_23_method_1_code 22 = .ok (.aload_n 0, 1) := by decide +kernel
theorem d13_23 : decode prog_23_method_1_code 23 = .ok (.aload_n 1, 1) := by decide +kernel
theorem d13_24 : decode prog_23_method_1_code 24 = .ok (.invokeinterface 13 1, 5) := by decide +kernel
theorem d13_29 : decode prog_23_method_1_code 29 = .ok (.anewarray 19, 3) := by decide +kernel
theorem d13_32 : decode prog_23_method_1_code 32 = .ok (.putfield 25, 3) := by decide +kernel
theorem d13_35 : decode prog_23_method_1_code 35 = .ok (.aload_n 0, 1) := by decide +kernel
theorem d13_36 : decode prog_23_method_1_code 36 = .ok (.getfield 21, 3) := by decide +kernel
theorem d13_39 : decode prog_23_method_1_code 39 = .ok (.getstatic 28, 3) := by decide +kernel
theorem d13_42 : decode prog_23_method_1_code 42 = .ok (.invokestatic 32, 3) := by decide +kernel
theorem pd_15 : parseMethodDescriptor "([Ljava/lang/Object;Ljava/lang/Object;)V" = some ⟨[(.array (.object "java/lang/Object")), (.object "java/lang/Object")], none⟩ := by decide +kernel
theorem d13_45 : decode prog_23_method_1_code 45 = .ok (.iconst 0, 1) := by decide +kernel
theorem d13_46 : decode prog_23_method_1_code 46 = .ok (.istore_n 2, 1) := by decide +kernel
theorem d13_47 : decode prog_23_method_1_code 47 = .ok (.iload_n 2, 1) := by decide +kernel
theorem d13_48 : decode prog_23_method_1_code 48 = .ok (.aload_n 0, 1) := by decide +kernel
theorem d13_49 : decode prog_23_method_1_code 49 = .ok (.getfield 25, 3) := by decide +kernel
theorem d13_52 : decode prog_23_method_1_code 52 = .ok (.arraylength, 1) := by decide +kernel
theorem d13_53 : decode prog_23_method_1_code 53 = .ok (.if_icmp .ge 28, 3) := by decide +kernel
theorem d13_56 : decode prog_23_method_1_code 56 = .ok (.aload_n 0, 1) := by decide +kernel
theorem d13_57 : decode prog_23_method_1_code 57 = .ok (.getfield 25, 3) := by decide +kernel
theorem d13_60 : decode prog_23_method_1_code 60 = .ok (.iload_n 2, 1) := by decide +kernel
theorem d13_61 : decode prog_23_method_1_code 61 = .ok (.aload_n 1, 1) := by decide +kernel
theorem d13_62 : decode prog_23_method_1_code 62 = .ok (.iload_n 2, 1) := by decide +kernel
theorem d13_63 : decode prog_23_method_1_code 63 = .ok (.invokeinterface 38 2, 5) := by decide +kernel
theorem d13_68 : decode prog_23_method_1_code 68 = .ok (.checkcast 42, 3) := by decide +kernel
theorem d13_71 : decode prog_23_method_1_code 71 = .ok (.invokevirtual 44, 3) := by decide +kernel
theorem pd_16 : parseMethodDescriptor "()Ljava/math/BigDecimal;" = some ⟨[], some (.object "java/math/BigDecimal")⟩ := by decide +kernel
theorem d13_74 : decode prog_23_method_1_code 74 = .ok (.aastore, 1) := by decide +kernel
theorem d13_75 : decode prog_23_method_1_code 75 = .ok (.iinc 2 1, 3) := by decide +kernel
theorem d13_78 : decode prog_23_method_1_code 78 = .ok (.goto (-31), 3) := by decide +kernel
theorem d13_81 : decode prog_23_method_1_code 81 = .ok (.return_, 1) := by decide +kernel
def Q_cledger (Z : State) (lg : Addr) (a : Addr) (d : Addr) (kd : ClassId) (ea : Addr) (eb : Addr) (r0 : Addr) (r1 : Addr) (x0 : Int64) (x1 : Int64) (zz : Addr) (h0 : Heap) (n0 : Nat) (v : Option Value) (h : Heap) (L : List Loc) : Prop := ∃ (sp : Addr) (ks : ClassId) (rm : Addr) (kr : ClassId), v = none ∧ Fr n0 L ∧ Keep h0 h [lg] ∧ Old Z n0 h ∧ Exa Z h lg "com/example/slotwright/slotwright/Ledger" ∧ Fld Z h lg "com/example/slotwright/slotwright/Ledger" "spent" "[Ljava/math/BigDecimal;" (.ref sp) ∧ Fld Z h lg "com/example/slotwright/slotwright/Ledger" "remaining" "[Ljava/math/BigDecimal;" (.ref rm) ∧ h0.size ≤ sp ∧ h0.size ≤ rm ∧ Arv Z h sp ks (.object "java/math/BigDecimal") (2 : Int32) [(.ref zz), (.ref zz)] .null ∧ Arv Z h rm kr (.object "java/math/BigDecimal") (2 : Int32) [(.ref r0), (.ref r1)] .null ∧ Ovr Z ks "java/math/BigDecimal" ∧ Ovr Z kr "java/math/BigDecimal" ∧ sp ≠ rm
theorem pn_com_example_slotwright_slotwright_Ledger : plainName "com/example/slotwright/slotwright/Ledger" = true := by first | (simp [plainName, overriddenIn]; done) | decide +kernel
theorem ef_cledger (m : MethodId) (lg : Addr) (a : Addr) (d : Addr) (kd : ClassId) (ea : Addr) (eb : Addr) (r0 : Addr) (r1 : Addr) (x0 : Int64) (x1 : Int64) (zz : Addr) : entryFrame m #[(.ref lg), (.ref a)] 3 = mkF m 0 #[.val (.ref lg), .val (.ref a), .unset] [] := by first | (simp [entryFrame, mkF, argsToLocals, Value.category]; done) | rfl
set_option maxRecDepth 65536 in
set_option maxHeartbeats 40000000 in
theorem cledger (l : Launch) (Z : State) (a0 : Array Value) (hw : ∀ d ∈ tables_1, d.before a0 Z = true) (ws : List Jvm.Cond) (lg : Addr) (a : Addr) (d : Addr) (kd : ClassId) (ea : Addr) (eb : Addr) (r0 : Addr) (r1 : Addr) (x0 : Int64) (x1 : Int64) (zz : Addr) (h0 : Heap) (n0 : Nat) (zD0 : Sta Z Z.heap "java/math/BigDecimal" "ZERO" "Ljava/math/BigDecimal;" (.ref zz)) (zD1 : BDc Z Z.heap zz (0 : Int64) (0 : Int32)) (zP0 : Old Z n0 h0) (zP1 : Exa Z h0 lg "com/example/slotwright/slotwright/Ledger") (zP2 : Fld Z h0 lg "com/example/slotwright/slotwright/Ledger" "advertisers" "Ljava/util/List;" .null) (zP3 : Fld Z h0 lg "com/example/slotwright/slotwright/Ledger" "spent" "[Ljava/math/BigDecimal;" .null) (zP4 : Fld Z h0 lg "com/example/slotwright/slotwright/Ledger" "remaining" "[Ljava/math/BigDecimal;" .null) (zP5 : n0 ≤ lg) (zP6 : Exa Z h0 a "java/util/ArrayList") (zP7 : Fld Z h0 a "java/util/ArrayList" "elementData" "[Ljava/lang/Object;" (.ref d)) (zP8 : Fld Z h0 a "java/util/ArrayList" "size" "I" (.int (2 : Int32))) (zP9 : Arv Z h0 d kd (.object "java/lang/Object") (10 : Int32) [(.ref ea), (.ref eb), .null, .null, .null, .null, .null, .null, .null, .null] .null) (zP10 : Exa Z h0 ea "com/example/slotwright/slotwright/Market$Advertiser") (zP11 : Fld Z h0 ea "com/example/slotwright/slotwright/Market$Advertiser" "budget" "Ljava/math/BigDecimal;" (.ref r0)) (zP12 : Exa Z h0 eb "com/example/slotwright/slotwright/Market$Advertiser") (zP13 : Fld Z h0 eb "com/example/slotwright/slotwright/Market$Advertiser" "budget" "Ljava/math/BigDecimal;" (.ref r1)) (zP14 : BDc Z h0 r0 x0 (0 : Int32)) (zP15 : BDc Z h0 r1 x1 (0 : Int32)) :
    MetFree l (⟨"com/example/slotwright/slotwright/Ledger", "<init>", "(Ljava/util/List;)V"⟩ : MethodName) (head1 (Jvm.Cond.code (⟨"com/example/slotwright/slotwright/Ledger", "<init>", "(Ljava/util/List;)V"⟩ : MethodName) prog_23_method_1_code 3 none :: ws) ({ frames := 3, cells := 2, slots := 4, locals := 42 } : Room)) (fun aA uU => aA = #[(.ref lg), (.ref a)] ∧ Z.Warmed39 uU.vm ∧ uU.heap = h0) (fun _ _ _ _ _ => True) (fun _ uU oO uU' => ∃ vV lL, oO = .returned vV ∧ Q_cledger Z lg a d kd ea eb r0 r1 x0 x1 zz h0 n0 vV uU'.heap lL ∧ FrameEnd uU oO uU' lL ({ frames := 3, cells := 2, slots := 4, locals := 42 } : Room).cells ({ frames := 3, cells := 2, slots := 4, locals := 42 } : Room).slots) := by
  refine MetFree.of_bodySF (plainFor_of_name pn_com_example_slotwright_slotwright_Ledger) hisR ?_
  intro p e s m args below meth c s₁ Bd hml0 hP hK
  obtain ⟨rfl, hZ, hh⟩ := hP
  have hx := Bd.exec
  have hby := Bd.bytes
  have hml : c.maxLocals = 3 := hml0
  have hown : s.vm.findClass "com/example/slotwright/slotwright/Ledger" = some m.cls := findClass_of_methodNamed Bd.named
  have hnm := (name_of_methodNamed Bd.named Bd.method).1
  have X0 : Stand p l e ({ frames := 3, cells := 2, slots := 4, locals := 42 } : Room) s m #[(.ref lg), (.ref a)] below meth c s₁ [] 0 0 := Stand.of_body Bd
  have e0 : s₁.heap = h0 := by rw [← hh, Bd.state]; rfl
  have N0 := Fr.nil n0
  refine Rch.out (Rch.st (fun t k => castTop (ef_cledger m lg a d kd ea eb r0 r1 x0 x1 zz) k) ?_)
  show Rch p.tables e below _ (s₁.setTop (mkF m 0 #[.val (.ref lg), .val (.ref a), .unset] []))
  refine Rch.st (fun _ hr => XS.aloadN X0.here hx rfl (hb hby d13_0) rfl rfl hr) ?_
  obtain ⟨T1, X1, e1, st1⟩ := initO X0 hx hZ hown (own_w hw 97 rfl) (own_w hw 19 rfl) (own_w hw 20 rfl) e0 (g := (mkF m 1 #[.val (.ref lg), .val (.ref a), .unset] [(.ref lg)])) rfl (by rw [hml]; rfl) rfl (hb hby d13_1) (by decide) (W := 0) (by show 2 * 0 + _ ≤ _; exact Nat.le_of_eq rfl) (by decide)
  refine Rch.st st1 ?_
  refine Rch.st (fun _ hr => XS.aloadN X1.here hx rfl (hb hby d13_4) rfl rfl hr) ?_
  refine Rch.st (fun _ hr => XS.aloadN X1.here hx rfl (hb hby d13_5) rfl rfl hr) ?_
  show Rch p.tables e below _ (T1.setTop (mkF m 6 #[.val (.ref lg), .val (.ref a), .unset] [(.ref a), (.ref lg)]))
  obtain ⟨T2, h2, X2, e2, W2, st2⟩ := putF X1 hx hZ hown (host := "") (Or.inl (own_w hw 98 rfl)) Via.refl e1 zP2 zP1 (Or.inr ⟨(own_w hw 99 rfl), rfl, hnm⟩) (own_w hw 92 rfl) (ty := (.object "java/util/List")) (by decide) rfl rfl (g := (mkF m 6 #[.val (.ref lg), .val (.ref a), .unset] [(.ref a), (.ref lg)])) rfl rfl (hb hby d13_6)
  refine Rch.st st2 ?_
  have N2 := Fr.snoc X2 N0 zP5
  have ne3 : a ≠ lg := (Exa.ne zP6 zP1 (by decide))
  have ne4 : d ≠ lg := (Ne.symm (Exa.neArv zP1 zP9 (own_w hw 92 rfl)))
  have ne5 : ea ≠ lg := (Exa.ne zP10 zP1 (by decide))
  have ne6 : eb ≠ lg := (Exa.ne zP12 zP1 (by decide))
  have ne7 : r0 ≠ lg := (Exa.ne zP14.1 zP1 (by decide))
  have ne8 : r1 ≠ lg := (Exa.ne zP15.1 zP1 (by decide))
  have K9 : Keep h0 h2 [lg] := (Keep.refl h0 [lg]).wr W2 (Or.inl (List.mem_of_getElem? (i := 0) rfl))
  have Fw2 := zP2.same W2
  refine Rch.st (fun _ hr => XS.aloadN X2.here hx rfl (hb hby d13_9) rfl rfl hr) ?_
  refine Rch.st (fun _ hr => XS.aloadN X2.here hx rfl (hb hby d13_10) rfl rfl hr) ?_
  have f11 : Exa Z h2 a "java/util/ArrayList" := (zP6.wr W2)
  have f12 : Fld Z h2 a "java/util/ArrayList" "size" "I" (.int (2 : Int32)) := (zP8.other W2 (Or.inl ne3))
  obtain ⟨_, T10, Lc10, X10, hQ10, st10⟩ := own_callF X2 hx hZ (xi := (⟨"java/util/List", "size", "()I"⟩ : MethodName)) (y := (⟨"java/util/ArrayList", "size", "()I"⟩ : MethodName)) hown (own_w hw 100 rfl) (own_w hw 101 rfl) (mvT hZ (own_w hw 102 rfl)) (own_w hw 103 rfl) (own_w hw 104 rfl) (own_w hw 105 rfl) (own_w hw 106 rfl) (own_w hw 62 rfl) (own_w hw 2 rfl) (own_w hw 107 rfl) (by decide) (W := 1) (csize l Z a0 hw [] a (2 : Int32) h2 n0 f12) (by decide) (by decide) e2 f11 (by decide) (by decide) (g := (mkF m 11 #[.val (.ref lg), .val (.ref a), .unset] [(.ref a), (.ref lg)])) rfl (by rw [hml]; rfl) (argsL := []) (rest := [(.ref lg)]) (lenOf pd_14 rfl) rfl (by show 2 * 0 + _ ≤ _; exact Nat.le_of_eq rfl) (hb hby d13_11) rfl
  obtain ⟨rfl, N10q, e10⟩ := hQ10
  have N10 := Fr.app N2 N10q
  refine Rch.st st10 ?_
  show Rch p.tables e below _ (T10.setTop (mkF m 16 #[.val (.ref lg), .val (.ref a), .unset] [(.int (2 : Int32)), (.ref lg)]))
  obtain ⟨T13, h13, k13, X13, e13, E13, A13, O13, st13⟩ := newR X10 hx hZ hown (own_w hw 108 rfl) (own_w hw 109 rfl) e10 (g := (mkF m 16 #[.val (.ref lg), .val (.ref a), .unset] [(.int (2 : Int32)), (.ref lg)])) rfl (hb hby d13_16) rfl (by decide) (cap := 2) (by decide) (by decide) (by decide) (by decide)
  obtain ⟨b13, g13⟩ : ∃ z, z = h2.size := ⟨_, rfl⟩
  rw [← g13] at A13 st13
  refine Rch.st st13 ?_
  have q13 : h2.size ≤ b13 := Nat.le_of_eq g13.symm
  have f14 : Fld Z h2 lg "com/example/slotwright/slotwright/Ledger" "remaining" "[Ljava/math/BigDecimal;" .null := (zP4.other W2 (Or.inr (slot_ne (Or.inr (own_w hw 113 rfl)) (Or.inr (own_w hw 99 rfl)) (by decide) (t := (.array (.object "java/math/BigDecimal"))) (t' := (.object "java/util/List")) (by decide) (by decide))))
  have ne15 : lg ≠ b13 := Nat.ne_of_lt (Nat.lt_of_lt_of_le f14.lt q13)
  have ne16 : a ≠ b13 := Nat.ne_of_lt (Nat.lt_of_lt_of_le f12.lt q13)
  have f17 : Arv Z h2 d kd (.object "java/lang/Object") (10 : Int32) [(.ref ea), (.ref eb), .null, .null, .null, .null, .null, .null, .null, .null] .null := (zP9.other W2 ne4)
  have ne18 : d ≠ b13 := Nat.ne_of_lt (Nat.lt_of_lt_of_le f17.lt q13)
  have f19 : Fld Z h2 ea "com/example/slotwright/slotwright/Market$Advertiser" "budget" "Ljava/math/BigDecimal;" (.ref r0) := (zP11.other W2 (Or.inl ne5))
  have ne20 : ea ≠ b13 := Nat.ne_of_lt (Nat.lt_of_lt_of_le f19.lt q13)
  have f21 : Fld Z h2 eb "com/example/slotwright/slotwright/Market$Advertiser" "budget" "Ljava/math/BigDecimal;" (.ref r1) := (zP13.other W2 (Or.inl ne6))
  have ne22 : eb ≠ b13 := Nat.ne_of_lt (Nat.lt_of_lt_of_le f21.lt q13)
  have f23 : Exa Z h2 r0 "java/math/BigDecimal" := (zP14.1.wr W2)
  have ne24 : r0 ≠ b13 := Nat.ne_of_lt (Nat.lt_of_lt_of_le f23.lt q13)
  have f25 : Exa Z h2 r1 "java/math/BigDecimal" := (zP15.1.wr W2)
  have ne26 : r1 ≠ b13 := Nat.ne_of_lt (Nat.lt_of_lt_of_le f25.lt q13)
  have f27 : Old Z n0 h2 := (zP0.wr W2 zP5)
  have g_b13 : n0 ≤ b13 := Nat.le_trans (Nat.le_trans (Nat.le_of_eq f27.1.symm) f27.2.1) q13
  have sz_b13 : h0.size ≤ b13 := Nat.le_trans K9.1 q13
  have K28 : Keep h0 h13 [lg] := K9.ext E13
  have V13 : Arv Z h13 b13 k13 (.object "java/math/BigDecimal") (2 : Int32) [.null, .null] .null := (Arv.new A13 (by decide)).pad (pad_rep [] .null 2)
  have f29 : Fld Z h13 lg "com/example/slotwright/slotwright/Ledger" "spent" "[Ljava/math/BigDecimal;" .null := ((zP3.other W2 (Or.inr (slot_ne (Or.inr (own_w hw 111 rfl)) (Or.inr (own_w hw 99 rfl)) (by decide) (t := (.array (.object "java/math/BigDecimal"))) (t' := (.object "java/util/List")) (by decide) (by decide)))).ext E13)
  have f30 : Exa Z h13 lg "com/example/slotwright/slotwright/Ledger" := ((zP1.wr W2).ext E13)
  obtain ⟨T31, h31, X31, e31, W31, st31⟩ := putF X13 hx hZ hown (host := "") (Or.inl (own_w hw 110 rfl)) Via.refl e13 f29 f30 (Or.inr ⟨(own_w hw 111 rfl), rfl, hnm⟩) (own_w hw 92 rfl) (ty := (.array (.object "java/math/BigDecimal"))) (by decide) rfl rfl (g := (mkF m 19 #[.val (.ref lg), .val (.ref a), .unset] [(.ref b13), (.ref lg)])) rfl rfl (hb hby d13_19)
  refine Rch.st st31 ?_
  have N31 := Fr.snoc X31 N10 zP5
  have f32 : Old Z n0 h13 := (f27.ext E13)
  have K33 : Keep h0 h31 [lg] := K28.wr W31 (Or.inl (List.mem_of_getElem? (i := 0) rfl))
  have Fw31 := f29.same W31
  refine Rch.st (fun _ hr => XS.aloadN X31.here hx rfl (hb hby d13_22) rfl rfl hr) ?_
  refine Rch.st (fun _ hr => XS.aloadN X31.here hx rfl (hb hby d13_23) rfl rfl hr) ?_
  show Rch p.tables e below _ (T31.setTop (mkF m 24 #[.val (.ref lg), .val (.ref a), .unset] [(.ref a), (.ref lg)]))
  have f35 : Exa Z h31 a "java/util/ArrayList" := ((f11.ext E13).wr W31)
  have f36 : Fld Z h31 a "java/util/ArrayList" "size" "I" (.int (2 : Int32)) := ((f12.ext E13).other W31 (Or.inl ne3))
  obtain ⟨_, T34, Lc34, X34, hQ34, st34⟩ := own_callF X31 hx hZ (xi := (⟨"java/util/List", "size", "()I"⟩ : MethodName)) (y := (⟨"java/util/ArrayList", "size", "()I"⟩ : MethodName)) hown (own_w hw 100 rfl) (own_w hw 101 rfl) (mvT hZ (own_w hw 102 rfl)) (own_w hw 103 rfl) (own_w hw 104 rfl) (own_w hw 105 rfl) (own_w hw 106 rfl) (own_w hw 62 rfl) (own_w hw 2 rfl) (own_w hw 107 rfl) (by decide) (W := 1) (csize l Z a0 hw [] a (2 : Int32) h31 n0 f36) (by decide) (by decide) e31 f35 (by decide) (by decide) (g := (mkF m 24 #[.val (.ref lg), .val (.ref a), .unset] [(.ref a), (.ref lg)])) rfl (by rw [hml]; rfl) (argsL := []) (rest := [(.ref lg)]) (lenOf pd_14 rfl) rfl (by show 2 * 0 + _ ≤ _; exact Nat.le_of_eq rfl) (hb hby d13_24) rfl
  obtain ⟨rfl, N34q, e34⟩ := hQ34
  have N34 := Fr.app N31 N34q
  refine Rch.st st34 ?_
  obtain ⟨T37, h37, k37, X37, e37, E37, A37, O37, st37⟩ := newR X34 hx hZ hown (own_w hw 108 rfl) (own_w hw 109 rfl) e34 (g := (mkF m 29 #[.val (.ref lg), .val (.ref a), .unset] [(.int (2 : Int32)), (.ref lg)])) rfl (hb hby d13_29) rfl (by decide) (cap := 2) (by decide) (by decide) (by decide) (by decide)
  obtain ⟨b37, g37⟩ : ∃ z, z = h31.size := ⟨_, rfl⟩
  rw [← g37] at A37 st37
  refine Rch.st st37 ?_
  have q37 : h31.size ≤ b37 := Nat.le_of_eq g37.symm
  have f38 : Fld Z h31 lg "com/example/slotwright/slotwright/Ledger" "remaining" "[Ljava/math/BigDecimal;" .null := ((f14.ext E13).other W31 (Or.inr (slot_ne (Or.inr (own_w hw 113 rfl)) (Or.inr (own_w hw 111 rfl)) (by decide) (t := (.array (.object "java/math/BigDecimal"))) (t' := (.array (.object "java/math/BigDecimal"))) (by decide) (by decide))))
  have ne39 : lg ≠ b37 := Nat.ne_of_lt (Nat.lt_of_lt_of_le f38.lt q37)
  have ne40 : a ≠ b37 := Nat.ne_of_lt (Nat.lt_of_lt_of_le f36.lt q37)
  have f41 : Arv Z h31 d kd (.object "java/lang/Object") (10 : Int32) [(.ref ea), (.ref eb), .null, .null, .null, .null, .null, .null, .null, .null] .null := ((f17.ext E13).other W31 ne4)
  have ne42 : d ≠ b37 := Nat.ne_of_lt (Nat.lt_of_lt_of_le f41.lt q37)
  have f43 : Fld Z h31 ea "com/example/slotwright/slotwright/Market$Advertiser" "budget" "Ljava/math/BigDecimal;" (.ref r0) := ((f19.ext E13).other W31 (Or.inl ne5))
  have ne44 : ea ≠ b37 := Nat.ne_of_lt (Nat.lt_of_lt_of_le f43.lt q37)
  have f45 : Fld Z h31 eb "com/example/slotwright/slotwright/Market$Advertiser" "budget" "Ljava/math/BigDecimal;" (.ref r1) := ((f21.ext E13).other W31 (Or.inl ne6))
  have ne46 : eb ≠ b37 := Nat.ne_of_lt (Nat.lt_of_lt_of_le f45.lt q37)
  have f47 : Exa Z h31 r0 "java/math/BigDecimal" := ((f23.ext E13).wr W31)
  have ne48 : r0 ≠ b37 := Nat.ne_of_lt (Nat.lt_of_lt_of_le f47.lt q37)
  have f49 : Exa Z h31 r1 "java/math/BigDecimal" := ((f25.ext E13).wr W31)
  have ne50 : r1 ≠ b37 := Nat.ne_of_lt (Nat.lt_of_lt_of_le f49.lt q37)
  have f51 : Arv Z h31 b13 k13 (.object "java/math/BigDecimal") (2 : Int32) [.null, .null] .null := (V13.other W31 (Ne.symm ne15))
  have ne52 : b13 ≠ b37 := Nat.ne_of_lt (Nat.lt_of_lt_of_le f51.lt q37)
  have f53 : Old Z n0 h31 := (f32.wr W31 zP5)
  have g_b37 : n0 ≤ b37 := Nat.le_trans (Nat.le_trans (Nat.le_of_eq f53.1.symm) f53.2.1) q37
  have sz_b37 : h0.size ≤ b37 := Nat.le_trans K33.1 q37
  have K54 : Keep h0 h37 [lg] := K33.ext E37
  have V37 : Arv Z h37 b37 k37 (.object "java/math/BigDecimal") (2 : Int32) [.null, .null] .null := (Arv.new A37 (by decide)).pad (pad_rep [] .null 2)
  have f55 : Fld Z h37 lg "com/example/slotwright/slotwright/Ledger" "remaining" "[Ljava/math/BigDecimal;" .null := (f38.ext E37)
  have f56 : Exa Z h37 lg "com/example/slotwright/slotwright/Ledger" := ((f30.wr W31).ext E37)
  obtain ⟨T57, h57, X57, e57, W57, st57⟩ := putF X37 hx hZ hown (host := "") (Or.inl (own_w hw 112 rfl)) Via.refl e37 f55 f56 (Or.inr ⟨(own_w hw 113 rfl), rfl, hnm⟩) (own_w hw 92 rfl) (ty := (.array (.object "java/math/BigDecimal"))) (by decide) rfl rfl (g := (mkF m 32 #[.val (.ref lg), .val (.ref a), .unset] [(.ref b37), (.ref lg)])) rfl rfl (hb hby d13_32)
  refine Rch.st st57 ?_
  have N57 := Fr.snoc X57 N34 zP5
  have f58 : Old Z n0 h37 := (f53.ext E37)
  have K59 : Keep h0 h57 [lg] := K54.wr W57 (Or.inl (List.mem_of_getElem? (i := 0) rfl))
  have Fw57 := f55.same W57
  refine Rch.st (fun _ hr => XS.aloadN X57.here hx rfl (hb hby d13_35) rfl rfl hr) ?_
  show Rch p.tables e below _ (T57.setTop (mkF m 36 #[.val (.ref lg), .val (.ref a), .unset] [(.ref lg)]))
  have f60 : Fld Z h57 lg "com/example/slotwright/slotwright/Ledger" "spent" "[Ljava/math/BigDecimal;" (.ref b13) := ((Fw31.ext E37).other W57 (Or.inr (slot_ne (Or.inr (own_w hw 111 rfl)) (Or.inr (own_w hw 113 rfl)) (by decide) (t := (.array (.object "java/math/BigDecimal"))) (t' := (.array (.object "java/math/BigDecimal"))) (by decide) (by decide))))
  obtain ⟨T61, X61, e61, st61⟩ := getF X57 hx hZ hown (host := "") (Or.inl (own_w hw 110 rfl)) Via.refl e57 f60 (g := (mkF m 36 #[.val (.ref lg), .val (.ref a), .unset] [(.ref lg)])) rfl rfl (hb hby d13_36)
  refine Rch.st st61 ?_
  have f62 : Old Z n0 h57 := (f58.wr W57 zP5)
  obtain ⟨T63, X63, e63, st63⟩ := getS2 X61 hx hZ hown (host := "") (Or.inl (own_w hw 114 rfl)) Via.refl e61 (zD0.ext f62.2) (g := (mkF m 39 #[.val (.ref lg), .val (.ref a), .unset] [(.ref b13)])) rfl (hb hby d13_39)
  refine Rch.st st63 ?_
  have f65 : Arv Z h57 b13 k13 (.object "java/math/BigDecimal") (2 : Int32) [.null, .null] .null := ((f51.ext E37).other W57 (Ne.symm ne15))
  have f66 : Ovr Z k13 "java/math/BigDecimal" := O13
  obtain ⟨_, T64, Lc64, X64, hQ64, st64⟩ := own_callS X63 hx hZ (y := (⟨"java/util/Arrays", "fill", "([Ljava/lang/Object;Ljava/lang/Object;)V"⟩ : MethodName)) hown (own_w hw 115 rfl) (own_w hw 116 rfl) (own_w hw 117 rfl) (own_w hw 118 rfl) (by decide) (W := 0) (cfill l Z a0 hw [] b13 k13 zz h57 n0 f62 f65 f66 (zD1.1.ext f62.2) g_b13) (by decide) (by decide) e63 (by decide) (by decide) (g := (mkF m 42 #[.val (.ref lg), .val (.ref a), .unset] [(.ref zz), (.ref b13)])) rfl (by rw [hml]; rfl) (argsL := [(.ref b13), (.ref zz)]) (rest := []) (lenOf pd_15 rfl) rfl (by show 2 * 0 + _ ≤ _; exact Nat.le_of_eq rfl) (hb hby d13_42) rfl
  obtain ⟨rfl, N64q, Kp64, Op64, R64_0⟩ := hQ64
  have N64 := Fr.app N57 N64q
  refine Rch.st st64 ?_
  have K67 : Keep h0 T64.heap [lg] := K59.trans Kp64 (allS (Or.inr sz_b13) all0)
  refine Rch.st (fun _ hr => XS.iconst X64.here hx rfl (hb hby d13_45) hr) ?_
  show Rch p.tables e below _ (T64.setTop (mkF m 46 #[.val (.ref lg), .val (.ref a), .unset] [(.int (0 : Int32))]))
  refine Rch.st (fun _ hr => XS.istoreN X64.here hx rfl (hb hby d13_46) rfl (l' := #[.val (.ref lg), .val (.ref a), .val (.int (0 : Int32))]) rfl hr) ?_
  refine Rch.st (fun _ hr => XS.iloadN X64.here hx rfl (hb hby d13_47) rfl hr) ?_
  refine Rch.st (fun _ hr => XS.aloadN X64.here hx rfl (hb hby d13_48) rfl rfl hr) ?_
  have f68 : Fld Z T64.heap lg "com/example/slotwright/slotwright/Ledger" "remaining" "[Ljava/math/BigDecimal;" (.ref b37) := (Fw57.keep Kp64 (ninS ne15 nin0))
  obtain ⟨T69, X69, e69, st69⟩ := getF X64 hx hZ hown (host := "") (Or.inl (own_w hw 112 rfl)) Via.refl rfl f68 (g := (mkF m 49 #[.val (.ref lg), .val (.ref a), .val (.int (0 : Int32))] [(.ref lg), (.int (0 : Int32))])) rfl rfl (hb hby d13_49)
  refine Rch.st st69 ?_
  show Rch p.tables e below _ (T69.setTop (mkF m 52 #[.val (.ref lg), .val (.ref a), .val (.int (0 : Int32))] [(.ref b37), (.int (0 : Int32))]))
  have f70 : Arv Z T64.heap b37 k37 (.object "java/math/BigDecimal") (2 : Int32) [.null, .null] .null := ((V37.other W57 (Ne.symm ne39)).keep Kp64 (ninS (Ne.symm ne52) nin0))
  obtain ⟨cl71, Ar71, -, Sz71, Ng71, -, -⟩ := id f70
  refine Rch.st (fun t hr => X69.arraylength hx (by rw [e69]; exact Ar71.1) (State.isArrayOf_alike hZ.alike Ar71.2.1) (g := (mkF m 52 #[.val (.ref lg), .val (.ref a), .val (.int (0 : Int32))] [(.ref b37), (.int (0 : Int32))])) rfl rfl (hb hby d13_52) t hr) ?_
  rw [len_of Sz71 Ng71]
  refine Rch.st (fun _ hr => XS.icmpNo X69.here hx rfl (hb hby d13_53) rfl (tlt (by decide : (0 : Int32) < (2 : Int32))).2.1 hr) ?_
  refine Rch.st (fun _ hr => XS.aloadN X69.here hx rfl (hb hby d13_56) rfl rfl hr) ?_
  obtain ⟨T72, X72, e72, st72⟩ := getF X69 hx hZ hown (host := "") (Or.inl (own_w hw 112 rfl)) Via.refl e69 f68 (g := (mkF m 57 #[.val (.ref lg), .val (.ref a), .val (.int (0 : Int32))] [(.ref lg)])) rfl rfl (hb hby d13_57)
  refine Rch.st st72 ?_
  show Rch p.tables e below _ (T72.setTop (mkF m 60 #[.val (.ref lg), .val (.ref a), .val (.int (0 : Int32))] [(.ref b37)]))
  refine Rch.st (fun _ hr => XS.iloadN X72.here hx rfl (hb hby d13_60) rfl hr) ?_
  refine Rch.st (fun _ hr => XS.aloadN X72.here hx rfl (hb hby d13_61) rfl rfl hr) ?_
  refine Rch.st (fun _ hr => XS.iloadN X72.here hx rfl (hb hby d13_62) rfl hr) ?_
  have f74 : Exa Z T64.heap a "java/util/ArrayList" := (((f35.ext E37).wr W57).keep Kp64)
  have f75 : Fld Z T64.heap a "java/util/ArrayList" "elementData" "[Ljava/lang/Object;" (.ref d) := ((((((zP7.other W2 (Or.inl ne3)).ext E13).other W31 (Or.inl ne3)).ext E37).other W57 (Or.inl ne3)).keep Kp64 (ninS ne16 nin0))
  have f76 : Fld Z T64.heap a "java/util/ArrayList" "size" "I" (.int (2 : Int32)) := (((f36.ext E37).other W57 (Or.inl ne3)).keep Kp64 (ninS ne16 nin0))
  have f77 : Arv Z T64.heap d kd (.object "java/lang/Object") (10 : Int32) [(.ref ea), (.ref eb), .null, .null, .null, .null, .null, .null, .null, .null] .null := (((f41.ext E37).other W57 ne4).keep Kp64 (ninS ne18 nin0))
  obtain ⟨_, T73, Lc73, X73, hQ73, st73⟩ := own_callF X72 hx hZ (xi := (⟨"java/util/List", "get", "(I)Ljava/lang/Object;"⟩ : MethodName)) (y := (⟨"java/util/ArrayList", "get", "(I)Ljava/lang/Object;"⟩ : MethodName)) hown (own_w hw 120 rfl) (own_w hw 121 rfl) (mvT hZ (own_w hw 122 rfl)) (own_w hw 123 rfl) (own_w hw 124 rfl) (own_w hw 125 rfl) (own_w hw 126 rfl) (own_w hw 62 rfl) (own_w hw 2 rfl) (own_w hw 127 rfl) (by decide) (W := 2) (cget0 l Z a0 hw [] a d kd ea eb T64.heap n0 f74 f75 f76 f77) (by decide) (by decide) e72 f74 (by decide) (by decide) (g := (mkF m 63 #[.val (.ref lg), .val (.ref a), .val (.int (0 : Int32))] [(.int (0 : Int32)), (.ref a), (.int (0 : Int32)), (.ref b37)])) rfl (by rw [hml]; rfl) (argsL := [(.int (0 : Int32))]) (rest := [(.int (0 : Int32)), (.ref b37)]) (lenOf pd_13 rfl) rfl (by show 2 * 0 + _ ≤ _; exact Nat.le_of_eq rfl) (hb hby d13_63) rfl
  obtain ⟨rfl, N73q, e73⟩ := hQ73
  have N73 := Fr.app N64 N73q
  refine Rch.st st73 ?_
  show Rch p.tables e below _ (T73.setTop (mkF m 68 #[.val (.ref lg), .val (.ref a), .val (.int (0 : Int32))] [(.ref ea), (.int (0 : Int32)), (.ref b37)]))
  have f78 : Exa Z T64.heap ea "com/example/slotwright/slotwright/Market$Advertiser" := ((((((zP10.wr W2).ext E13).wr W31).ext E37).wr W57).keep Kp64)
  obtain ⟨T79, X79, e79, st79⟩ := castY X73 hx hZ hown (own_w hw 141 rfl) e73 (Ins.self f78) (g := (mkF m 68 #[.val (.ref lg), .val (.ref a), .val (.int (0 : Int32))] [(.ref ea), (.int (0 : Int32)), (.ref b37)])) rfl rfl (hb hby d13_68)
  refine Rch.st st79 ?_
  have f81 : Fld Z T64.heap ea "com/example/slotwright/slotwright/Market$Advertiser" "budget" "Ljava/math/BigDecimal;" (.ref r0) := (((f43.ext E37).other W57 (Or.inl ne5)).keep Kp64 (ninS ne20 nin0))
  obtain ⟨_, T80, Lc80, X80, hQ80, st80⟩ := own_callV X79 hx hZ (y := (⟨"com/example/slotwright/slotwright/Market$Advertiser", "budget", "()Ljava/math/BigDecimal;"⟩ : MethodName)) (z := (⟨"com/example/slotwright/slotwright/Market$Advertiser", "budget", "()Ljava/math/BigDecimal;"⟩ : MethodName)) hown (own_w hw 143 rfl) (own_w hw 144 rfl) (notFace_of_selects (args := #[]) (mvT hZ (own_w hw 146 rfl))) (own_w hw 146 rfl) (own_w hw 145 rfl) (own_w hw 28 rfl) (own_w hw 147 rfl) (by decide) (W := 2) (cbudget l Z a0 hw [] ea r0 T64.heap n0 f81) (by decide) (by decide) e79 f78 (by decide) (by decide) (g := (mkF m 71 #[.val (.ref lg), .val (.ref a), .val (.int (0 : Int32))] [(.ref ea), (.int (0 : Int32)), (.ref b37)])) rfl (by rw [hml]; rfl) (argsL := []) (rest := [(.int (0 : Int32)), (.ref b37)]) (lenOf pd_16 rfl) rfl (by show 2 * 0 + _ ≤ _; exact Nat.le_of_eq rfl) (hb hby d13_71) rfl
  obtain ⟨rfl, N80q, e80⟩ := hQ80
  have N80 := Fr.app N73 N80q
  refine Rch.st st80 ?_
  obtain ⟨cl82, Ar82, qk82, Sz82, Ng82, Ha82, Gf82⟩ := id f70
  have hin82 := inb_of (j := (0 : Int32)) Sz82 ⟨by decide, by decide⟩
  have f83 : Exa Z T64.heap r0 "java/math/BigDecimal" := (((f47.ext E37).wr W57).keep Kp64)
  obtain ⟨T84, h84, X84, e84, W84, st84⟩ := stR X80 hx hZ e80 Ar82 (j := (0 : Int32)) hin82 rfl (Sto.ofV Ar82 qk82 O37 (Ins.self f83)) (g := (mkF m 74 #[.val (.ref lg), .val (.ref a), .val (.int (0 : Int32))] [(.ref r0), (.int (0 : Int32)), (.ref b37)])) rfl rfl (hb hby d13_74)
  refine Rch.st st84 ?_
  have N84 := Fr.snoc X84 N80 g_b37
  have K85 : Keep h0 h84 [lg] := K67.wr W84 (Or.inr sz_b37)
  have V84 : Arv Z h84 b37 k37 (.object "java/math/BigDecimal") (2 : Int32) [(.ref r0), .null] .null := Arv.set Ar82 qk82 Sz82 Ng82 Ha82 Gf82 rfl W84 0 rfl (Nat.le_of_ble_eq_true rfl)
  refine Rch.st (fun _ hr => XS.iinc X84.here hx rfl (hb hby d13_75) rfl (l' := #[.val (.ref lg), .val (.ref a), .val (.int (1 : Int32))]) rfl hr) ?_
  show Rch p.tables e below _ (T84.setTop (mkF m 78 #[.val (.ref lg), .val (.ref a), .val (.int (1 : Int32))] []))
  refine Rch.st (fun _ hr => XS.goto X84.here hx rfl (pc0 := 78) (pc' := 47) rfl (hb hby d13_78) (by decide) (by decide) hr) ?_
  refine Rch.st (fun _ hr => XS.iloadN X84.here hx rfl (hb hby d13_47) rfl hr) ?_
  refine Rch.st (fun _ hr => XS.aloadN X84.here hx rfl (hb hby d13_48) rfl rfl hr) ?_
  have f86 : Fld Z h84 lg "com/example/slotwright/slotwright/Ledger" "remaining" "[Ljava/math/BigDecimal;" (.ref b37) := (f68.other W84 (Or.inl ne39))
  obtain ⟨T87, X87, e87, st87⟩ := getF X84 hx hZ hown (host := "") (Or.inl (own_w hw 112 rfl)) Via.refl e84 f86 (g := (mkF m 49 #[.val (.ref lg), .val (.ref a), .val (.int (1 : Int32))] [(.ref lg), (.int (1 : Int32))])) rfl rfl (hb hby d13_49)
  refine Rch.st st87 ?_
  show Rch p.tables e below _ (T87.setTop (mkF m 52 #[.val (.ref lg), .val (.ref a), .val (.int (1 : Int32))] [(.ref b37), (.int (1 : Int32))]))
  obtain ⟨cl88, Ar88, -, Sz88, Ng88, -, -⟩ := id V84
  refine Rch.st (fun t hr => X87.arraylength hx (by rw [e87]; exact Ar88.1) (State.isArrayOf_alike hZ.alike Ar88.2.1) (g := (mkF m 52 #[.val (.ref lg), .val (.ref a), .val (.int (1 : Int32))] [(.ref b37), (.int (1 : Int32))])) rfl rfl (hb hby d13_52) t hr) ?_
  rw [len_of Sz88 Ng88]
  refine Rch.st (fun _ hr => XS.icmpNo X87.here hx rfl (hb hby d13_53) rfl (tlt (by decide : (1 : Int32) < (2 : Int32))).2.1 hr) ?_
  refine Rch.st (fun _ hr => XS.aloadN X87.here hx rfl (hb hby d13_56) rfl rfl hr) ?_
  obtain ⟨T89, X89, e89, st89⟩ := getF X87 hx hZ hown (host := "") (Or.inl (own_w hw 112 rfl)) Via.refl e87 f86 (g := (mkF m 57 #[.val (.ref lg), .val (.ref a), .val (.int (1 : Int32))] [(.ref lg)])) rfl rfl (hb hby d13_57)
  refine Rch.st st89 ?_
  show Rch p.tables e below _ (T89.setTop (mkF m 60 #[.val (.ref lg), .val (.ref a), .val (.int (1 : Int32))] [(.ref b37)]))
  refine Rch.st (fun _ hr => XS.iloadN X89.here hx rfl (hb hby d13_60) rfl hr) ?_
  refine Rch.st (fun _ hr => XS.aloadN X89.here hx rfl (hb hby d13_61) rfl rfl hr) ?_
  refine Rch.st (fun _ hr => XS.iloadN X89.here hx rfl (hb hby d13_62) rfl hr) ?_
  have f91 : Exa Z h84 a "java/util/ArrayList" := (f74.wr W84)
  have f92 : Fld Z h84 a "java/util/ArrayList" "elementData" "[Ljava/lang/Object;" (.ref d) := (f75.other W84 (Or.inl ne40))
  have f93 : Fld Z h84 a "java/util/ArrayList" "size" "I" (.int (2 : Int32)) := (f76.other W84 (Or.inl ne40))
  have f94 : Arv Z h84 d kd (.object "java/lang/Object") (10 : Int32) [(.ref ea), (.ref eb), .null, .null, .null, .null, .null, .null, .null, .null] .null := (f77.other W84 ne42)
  obtain ⟨_, T90, Lc90, X90, hQ90, st90⟩ := own_callF X89 hx hZ (xi := (⟨"java/util/List", "get", "(I)Ljava/lang/Object;"⟩ : MethodName)) (y := (⟨"java/util/ArrayList", "get", "(I)Ljava/lang/Object;"⟩ : MethodName)) hown (own_w hw 120 rfl) (own_w hw 121 rfl) (mvT hZ (own_w hw 122 rfl)) (own_w hw 123 rfl) (own_w hw 124 rfl) (own_w hw 125 rfl) (own_w hw 126 rfl) (own_w hw 62 rfl) (own_w hw 2 rfl) (own_w hw 127 rfl) (by decide) (W := 2) (cget1 l Z a0 hw [] a d kd ea eb h84 n0 f91 f92 f93 f94) (by decide) (by decide) e89 f91 (by decide) (by decide) (g := (mkF m 63 #[.val (.ref lg), .val (.ref a), .val (.int (1 : Int32))] [(.int (1 : Int32)), (.ref a), (.int (1 : Int32)), (.ref b37)])) rfl (by rw [hml]; rfl) (argsL := [(.int (1 : Int32))]) (rest := [(.int (1 : Int32)), (.ref b37)]) (lenOf pd_13 rfl) rfl (by show 2 * 0 + _ ≤ _; exact Nat.le_of_eq rfl) (hb hby d13_63) rfl
  obtain ⟨rfl, N90q, e90⟩ := hQ90
  have N90 := Fr.app N84 N90q
  refine Rch.st st90 ?_
  show Rch p.tables e below _ (T90.setTop (mkF m 68 #[.val (.ref lg), .val (.ref a), .val (.int (1 : Int32))] [(.ref eb), (.int (1 : Int32)), (.ref b37)]))
  have f95 : Exa Z h84 eb "com/example/slotwright/slotwright/Market$Advertiser" := (((((((zP12.wr W2).ext E13).wr W31).ext E37).wr W57).keep Kp64).wr W84)
  obtain ⟨T96, X96, e96, st96⟩ := castY X90 hx hZ hown (own_w hw 141 rfl) e90 (Ins.self f95) (g := (mkF m 68 #[.val (.ref lg), .val (.ref a), .val (.int (1 : Int32))] [(.ref eb), (.int (1 : Int32)), (.ref b37)])) rfl rfl (hb hby d13_68)
  refine Rch.st st96 ?_
  have f98 : Fld Z h84 eb "com/example/slotwright/slotwright/Market$Advertiser" "budget" "Ljava/math/BigDecimal;" (.ref r1) := ((((f45.ext E37).other W57 (Or.inl ne6)).keep Kp64 (ninS ne22 nin0)).other W84 (Or.inl ne46))
  obtain ⟨_, T97, Lc97, X97, hQ97, st97⟩ := own_callV X96 hx hZ (y := (⟨"com/example/slotwright/slotwright/Market$Advertiser", "budget", "()Ljava/math/BigDecimal;"⟩ : MethodName)) (z := (⟨"com/example/slotwright/slotwright/Market$Advertiser", "budget", "()Ljava/math/BigDecimal;"⟩ : MethodName)) hown (own_w hw 143 rfl) (own_w hw 144 rfl) (notFace_of_selects (args := #[]) (mvT hZ (own_w hw 146 rfl))) (own_w hw 146 rfl) (own_w hw 145 rfl) (own_w hw 28 rfl) (own_w hw 147 rfl) (by decide) (W := 2) (cbudget l Z a0 hw [] eb r1 h84 n0 f98) (by decide) (by decide) e96 f95 (by decide) (by decide) (g := (mkF m 71 #[.val (.ref lg), .val (.ref a), .val (.int (1 : Int32))] [(.ref eb), (.int (1 : Int32)), (.ref b37)])) rfl (by rw [hml]; rfl) (argsL := []) (rest := [(.int (1 : Int32)), (.ref b37)]) (lenOf pd_16 rfl) rfl (by show 2 * 0 + _ ≤ _; exact Nat.le_of_eq rfl) (hb hby d13_71) rfl
  obtain ⟨rfl, N97q, e97⟩ := hQ97
  have N97 := Fr.app N90 N97q
  refine Rch.st st97 ?_
  obtain ⟨cl99, Ar99, qk99, Sz99, Ng99, Ha99, Gf99⟩ := id V84
  have hin99 := inb_of (j := (1 : Int32)) Sz99 ⟨by decide, by decide⟩
  have f100 : Exa Z h84 r1 "java/math/BigDecimal" := ((((f49.ext E37).wr W57).keep Kp64).wr W84)
  obtain ⟨T101, h101, X101, e101, W101, st101⟩ := stR X97 hx hZ e97 Ar99 (j := (1 : Int32)) hin99 rfl (Sto.ofV Ar99 qk99 O37 (Ins.self f100)) (g := (mkF m 74 #[.val (.ref lg), .val (.ref a), .val (.int (1 : Int32))] [(.ref r1), (.int (1 : Int32)), (.ref b37)])) rfl rfl (hb hby d13_74)
  refine Rch.st st101 ?_
  have N101 := Fr.snoc X101 N97 g_b37
  have f102 : Old Z n0 h84 := (Op64.wr W84 g_b37)
  have K103 : Keep h0 h101 [lg] := K85.wr W101 (Or.inr sz_b37)
  have V101 : Arv Z h101 b37 k37 (.object "java/math/BigDecimal") (2 : Int32) [(.ref r0), (.ref r1)] .null := Arv.set Ar99 qk99 Sz99 Ng99 Ha99 Gf99 rfl W101 1 rfl (Nat.le_of_ble_eq_true rfl)
  refine Rch.st (fun _ hr => XS.iinc X101.here hx rfl (hb hby d13_75) rfl (l' := #[.val (.ref lg), .val (.ref a), .val (.int (2 : Int32))]) rfl hr) ?_
  show Rch p.tables e below _ (T101.setTop (mkF m 78 #[.val (.ref lg), .val (.ref a), .val (.int (2 : Int32))] []))
  refine Rch.st (fun _ hr => XS.goto X101.here hx rfl (pc0 := 78) (pc' := 47) rfl (hb hby d13_78) (by decide) (by decide) hr) ?_
  refine Rch.st (fun _ hr => XS.iloadN X101.here hx rfl (hb hby d13_47) rfl hr) ?_
  refine Rch.st (fun _ hr => XS.aloadN X101.here hx rfl (hb hby d13_48) rfl rfl hr) ?_
  have f104 : Fld Z h101 lg "com/example/slotwright/slotwright/Ledger" "remaining" "[Ljava/math/BigDecimal;" (.ref b37) := (f86.other W101 (Or.inl ne39))
  obtain ⟨T105, X105, e105, st105⟩ := getF X101 hx hZ hown (host := "") (Or.inl (own_w hw 112 rfl)) Via.refl e101 f104 (g := (mkF m 49 #[.val (.ref lg), .val (.ref a), .val (.int (2 : Int32))] [(.ref lg), (.int (2 : Int32))])) rfl rfl (hb hby d13_49)
  refine Rch.st st105 ?_
  show Rch p.tables e below _ (T105.setTop (mkF m 52 #[.val (.ref lg), .val (.ref a), .val (.int (2 : Int32))] [(.ref b37), (.int (2 : Int32))]))
  obtain ⟨cl106, Ar106, -, Sz106, Ng106, -, -⟩ := id V101
  refine Rch.st (fun t hr => X105.arraylength hx (by rw [e105]; exact Ar106.1) (State.isArrayOf_alike hZ.alike Ar106.2.1) (g := (mkF m 52 #[.val (.ref lg), .val (.ref a), .val (.int (2 : Int32))] [(.ref b37), (.int (2 : Int32))])) rfl rfl (hb hby d13_52) t hr) ?_
  rw [len_of Sz106 Ng106]
  refine Rch.st (fun _ hr => XS.icmpYes X105.here hx rfl (pc0 := 53) (pc' := 81) rfl (hb hby d13_53) rfl (flt (by decide : ¬ ((2 : Int32) < (2 : Int32)))).2.1 (by decide) (by decide) hr) ?_
  obtain ⟨fs, hr, hrun, hended, hW, hsame⟩ := X105.leave (v := none) (fun _ => rfl)
  have f107 : Old Z n0 h101 := (f102.wr W101 g_b37)
  have f108 : Exa Z h101 lg "com/example/slotwright/slotwright/Ledger" := ((((f56.wr W57).keep Kp64).wr W84).wr W101)
  have f109 : Fld Z h101 lg "com/example/slotwright/slotwright/Ledger" "spent" "[Ljava/math/BigDecimal;" (.ref b13) := (((f60.keep Kp64 (ninS ne15 nin0)).other W84 (Or.inl ne39)).other W101 (Or.inl ne39))
  have f110 : Arv Z h101 b13 k13 (.object "java/math/BigDecimal") (2 : Int32) [(.ref zz), (.ref zz)] .null := ((R64_0.other W84 ne52).other W101 ne52)
  have f111 : Ovr Z k13 "java/math/BigDecimal" := f66
  have f112 : Ovr Z k37 "java/math/BigDecimal" := O37
  refine Rch.fin (u := T105.setFrames fs) (X105.returnOut hx Bd.returns (hb hby d13_81) hr) ⟨_, hrun, hended, _, _, rfl, ?_, ⟨_, rfl⟩, hW, hsame.mono (by decide) (by decide)⟩
  show Q_cledger Z lg a d kd ea eb r0 r1 x0 x1 zz h0 n0 _ T105.heap _
  rw [e105]
  exact ⟨b13, k13, b37, k37, rfl, N101, K103, f107, f108, f109, f104, sz_b13, sz_b37, f110, V101, f111, f112, ne52⟩
def own_ov (x y : Int64) : Int32 := (if own_sg x < (0 : Int32) then 1 else 0) + (if own_sg y < (0 : Int32) then 1 else 0)
theorem d21_0 : decode prog_23_method_9_code 0 = .ok (.iconst 0, 1) := by decide +kernel
theorem d21_1 : decode prog_23_method_9_code 1 = .ok (.istore_n 1, 1) := by decide +kernel
theorem d21_2 : decode prog_23_method_9_code 2 = .ok (.aload_n 0, 1) := by decide +kernel
theorem d21_3 : decode prog_23_method_9_code 3 = .ok (.getfield 25, 3) := by decide +kernel
theorem d21_6 : decode prog_23_method_9_code 6 = .ok (.astore_n 2, 1) := by decide +kernel
theorem d21_7 : decode prog_23_method_9_code 7 = .ok (.aload_n 2, 1) := by decide +kernel
theorem d21_8 : decode prog_23_method_9_code 8 = .ok (.arraylength, 1) := by decide +kernel
theorem d21_9 : decode prog_23_method_9_code 9 = .ok (.istore_n 3, 1) := by decide +kernel
theorem d21_10 : decode prog_23_method_9_code 10 = .ok (.iconst 0, 1) := by decide +kernel
theorem d21_11 : decode prog_23_method_9_code 11 = .ok (.istore 4, 2) := by decide +kernel
theorem d21_13 : decode prog_23_method_9_code 13 = .ok (.iload 4, 2) := by decide +kernel
theorem d21_15 : decode prog_23_method_9_code 15 = .ok (.iload_n 3, 1) := by decide +kernel
theorem d21_16 : decode prog_23_method_9_code 16 = .ok (.if_icmp .ge 26, 3) := by decide +kernel
theorem d21_19 : decode prog_23_method_9_code 19 = .ok (.aload_n 2, 1) := by decide +kernel
theorem d21_20 : decode prog_23_method_9_code 20 = .ok (.iload 4, 2) := by decide +kernel
theorem d21_22 : decode prog_23_method_9_code 22 = .ok (.aaload, 1) := by decide +kernel
theorem d21_23 : decode prog_23_method_9_code 23 = .ok (.astore 5, 2) := by decide +kernel
theorem d21_25 : decode prog_23_method_9_code 25 = .ok (.aload 5, 2) := by decide +kernel
theorem d21_27 : decode prog_23_method_9_code 27 = .ok (.invokevirtual 75, 3) := by decide +kernel
theorem d21_30 : decode prog_23_method_9_code 30 = .ok (.ifCond .ge 6, 3) := by decide +kernel
theorem d21_33 : decode prog_23_method_9_code 33 = .ok (.iinc 1 1, 3) := by decide +kernel
theorem d21_36 : decode prog_23_method_9_code 36 = .ok (.iinc 4 1, 3) := by decide +kernel
theorem d21_39 : decode prog_23_method_9_code 39 = .ok (.goto (-26), 3) := by decide +kernel
theorem d21_42 : decode prog_23_method_9_code 42 = .ok (.iload_n 1, 1) := by decide +kernel
theorem d21_43 : decode prog_23_method_9_code 43 = .ok (.ireturn, 1) := by decide +kernel
def Q_cover (Z : State) (lg : Addr) (rm : Addr) (kr : ClassId) (r0 : Addr) (r1 : Addr) (x0 : Int64) (x1 : Int64) (h0 : Heap) (n0 : Nat) (v : Option Value) (h : Heap) (L : List Loc) : Prop := v = some (.int (own_ov x0 x1)) ∧ Fr n0 L ∧ h = h0
theorem ef_cover (m : MethodId) (lg : Addr) (rm : Addr) (kr : ClassId) (r0 : Addr) (r1 : Addr) (x0 : Int64) (x1 : Int64) : entryFrame m #[(.ref lg)] 6 = mkF m 0 #[.val (.ref lg), .unset, .unset, .unset, .unset, .unset] [] := by first | (simp [entryFrame, mkF, argsToLocals, Value.category]; done) | rfl
set_option maxRecDepth 65536 in
set_option maxHeartbeats 40000000 in
theorem cover (l : Launch) (Z : State) (a0 : Array Value) (hw : ∀ d ∈ tables_1, d.before a0 Z = true) (ws : List Jvm.Cond) (lg : Addr) (rm : Addr) (kr : ClassId) (r0 : Addr) (r1 : Addr) (x0 : Int64) (x1 : Int64) (h0 : Heap) (n0 : Nat) (zP0 : Fld Z h0 lg "com/example/slotwright/slotwright/Ledger" "remaining" "[Ljava/math/BigDecimal;" (.ref rm)) (zP1 : Arv Z h0 rm kr (.object "java/math/BigDecimal") (2 : Int32) [(.ref r0), (.ref r1)] .null) (zP2 : BDc Z h0 r0 x0 (0 : Int32)) (zP3 : BDc Z h0 r1 x1 (0 : Int32)) (hx0 : ¬ x0 = (-9223372036854775808 : Int64)) (hx1 : ¬ x1 = (-9223372036854775808 : Int64)) :
    MetFree l (⟨"com/example/slotwright/slotwright/Ledger", "overspent", "()I"⟩ : MethodName) (head1 (Jvm.Cond.code (⟨"com/example/slotwright/slotwright/Ledger", "overspent", "()I"⟩ : MethodName) prog_23_method_9_code 6 (some .int) :: ws) ({ frames := 2, cells := 0, slots := 0, locals := 25 } : Room)) (fun aA uU => aA = #[(.ref lg)] ∧ Z.Warmed39 uU.vm ∧ uU.heap = h0) (fun _ _ _ _ _ => True) (fun _ uU oO uU' => ∃ vV lL, oO = .returned vV ∧ Q_cover Z lg rm kr r0 r1 x0 x1 h0 n0 vV uU'.heap lL ∧ FrameEnd uU oO uU' lL ({ frames := 2, cells := 0, slots := 0, locals := 25 } : Room).cells ({ frames := 2, cells := 0, slots := 0, locals := 25 } : Room).slots) := by
  refine MetFree.of_bodySF (plainFor_of_name pn_com_example_slotwright_slotwright_Ledger) hisR ?_
  intro p e s m args below meth c s₁ Bd hml0 hP hK
  obtain ⟨rfl, hZ, hh⟩ := hP
  have hx := Bd.exec
  have hby := Bd.bytes
  have hml : c.maxLocals = 6 := hml0
  have hown : s.vm.findClass "com/example/slotwright/slotwright/Ledger" = some m.cls := findClass_of_methodNamed Bd.named
  have hnm := (name_of_methodNamed Bd.named Bd.method).1
  have X0 : Stand p l e ({ frames := 2, cells := 0, slots := 0, locals := 25 } : Room) s m #[(.ref lg)] below meth c s₁ [] 0 0 := Stand.of_body Bd
  have e0 : s₁.heap = h0 := by rw [← hh, Bd.state]; rfl
  have N0 := Fr.nil n0
  refine Rch.out (Rch.st (fun t k => castTop (ef_cover m lg rm kr r0 r1 x0 x1) k) ?_)
  show Rch p.tables e below _ (s₁.setTop (mkF m 0 #[.val (.ref lg), .unset, .unset, .unset, .unset, .unset] []))
  refine Rch.st (fun _ hr => XS.iconst X0.here hx rfl (hb hby d21_0) hr) ?_
  refine Rch.st (fun _ hr => XS.istoreN X0.here hx rfl (hb hby d21_1) rfl (l' := #[.val (.ref lg), .val (.int (0 : Int32)), .unset, .unset, .unset, .unset]) rfl hr) ?_
  refine Rch.st (fun _ hr => XS.aloadN X0.here hx rfl (hb hby d21_2) rfl rfl hr) ?_
  obtain ⟨T1, X1, e1, st1⟩ := getF X0 hx hZ hown (host := "") (Or.inl (own_w hw 112 rfl)) Via.refl e0 zP0 (g := (mkF m 3 #[.val (.ref lg), .val (.int (0 : Int32)), .unset, .unset, .unset, .unset] [(.ref lg)])) rfl rfl (hb hby d21_3)
  refine Rch.st st1 ?_
  show Rch p.tables e below _ (T1.setTop (mkF m 6 #[.val (.ref lg), .val (.int (0 : Int32)), .unset, .unset, .unset, .unset] [(.ref rm)]))
  refine Rch.st (fun _ hr => XS.astoreN X1.here hx rfl (hb hby d21_6) rfl rfl (l' := #[.val (.ref lg), .val (.int (0 : Int32)), .val (.ref rm), .unset, .unset, .unset]) rfl hr) ?_
  refine Rch.st (fun _ hr => XS.aloadN X1.here hx rfl (hb hby d21_7) rfl rfl hr) ?_
  obtain ⟨cl2, Ar2, -, Sz2, Ng2, -, -⟩ := id zP1
  refine Rch.st (fun t hr => X1.arraylength hx (by rw [e1]; exact Ar2.1) (State.isArrayOf_alike hZ.alike Ar2.2.1) (g := (mkF m 8 #[.val (.ref lg), .val (.int (0 : Int32)), .val (.ref rm), .unset, .unset, .unset] [(.ref rm)])) rfl rfl (hb hby d21_8) t hr) ?_
  rw [len_of Sz2 Ng2]
  refine Rch.st (fun _ hr => XS.istoreN X1.here hx rfl (hb hby d21_9) rfl (l' := #[.val (.ref lg), .val (.int (0 : Int32)), .val (.ref rm), .val (.int (2 : Int32)), .unset, .unset]) rfl hr) ?_
  show Rch p.tables e below _ (T1.setTop (mkF m 10 #[.val (.ref lg), .val (.int (0 : Int32)), .val (.ref rm), .val (.int (2 : Int32)), .unset, .unset] []))
  refine Rch.st (fun _ hr => XS.iconst X1.here hx rfl (hb hby d21_10) hr) ?_
  refine Rch.st (fun _ hr => XS.istore X1.here hx rfl (hb hby d21_11) rfl (l' := #[.val (.ref lg), .val (.int (0 : Int32)), .val (.ref rm), .val (.int (2 : Int32)), .val (.int (0 : Int32)), .unset]) rfl hr) ?_
  refine Rch.st (fun _ hr => XS.iload X1.here hx rfl (hb hby d21_13) rfl hr) ?_
  refine Rch.st (fun _ hr => XS.iloadN X1.here hx rfl (hb hby d21_15) rfl hr) ?_
  show Rch p.tables e below _ (T1.setTop (mkF m 16 #[.val (.ref lg), .val (.int (0 : Int32)), .val (.ref rm), .val (.int (2 : Int32)), .val (.int (0 : Int32)), .unset] [(.int (2 : Int32)), (.int (0 : Int32))]))
  refine Rch.st (fun _ hr => XS.icmpNo X1.here hx rfl (hb hby d21_16) rfl (tlt (by decide : (0 : Int32) < (2 : Int32))).2.1 hr) ?_
  refine Rch.st (fun _ hr => XS.aloadN X1.here hx rfl (hb hby d21_19) rfl rfl hr) ?_
  refine Rch.st (fun _ hr => XS.iload X1.here hx rfl (hb hby d21_20) rfl hr) ?_
  obtain ⟨cl3, Ar3, -, Sz3, Ng3, Ha3, -⟩ := id zP1
  have hin3 := inb_of (j := (0 : Int32)) Sz3 ⟨by decide, by decide⟩
  have hat3 := Ha3.at hin3 (v := (.ref r0)) rfl
  refine Rch.st (fun t hr => X1.aaload hx (j := (0 : Int32)) (v := (.ref r0)) (by rw [e1]; exact Ar3.1) (State.isArrayOf_alike hZ.alike Ar3.2.1) rfl Ar3.2.2 hin3 hat3 (g := (mkF m 22 #[.val (.ref lg), .val (.int (0 : Int32)), .val (.ref rm), .val (.int (2 : Int32)), .val (.int (0 : Int32)), .unset] [(.int (0 : Int32)), (.ref rm)])) rfl rfl (hb hby d21_22) t hr) ?_
  show Rch p.tables e below _ (T1.setTop (mkF m 23 #[.val (.ref lg), .val (.int (0 : Int32)), .val (.ref rm), .val (.int (2 : Int32)), .val (.int (0 : Int32)), .unset] [(.ref r0)]))
  refine Rch.st (fun _ hr => XS.astore X1.here hx rfl (hb hby d21_23) rfl rfl (l' := #[.val (.ref lg), .val (.int (0 : Int32)), .val (.ref rm), .val (.int (2 : Int32)), .val (.int (0 : Int32)), .val (.ref r0)]) rfl hr) ?_
  refine Rch.st (fun _ hr => XS.aload X1.here hx rfl (hb hby d21_25) rfl rfl hr) ?_
  obtain ⟨_, T4, Lc4, X4, hQ4, st4⟩ := own_callV X1 hx hZ (y := (⟨"java/math/BigDecimal", "signum", "()I"⟩ : MethodName)) (z := (⟨"java/math/BigDecimal", "signum", "()I"⟩ : MethodName)) hown (own_w hw 153 rfl) (own_w hw 154 rfl) (notFace_of_selects (args := #[]) (mvT hZ (own_w hw 156 rfl))) (own_w hw 156 rfl) (own_w hw 155 rfl) (own_w hw 39 rfl) (own_w hw 157 rfl) (by decide) (W := 0) (csignum l Z a0 hw [] r0 x0 h0 n0 zP2 hx0) (by decide) (by decide) e1 zP2.1 (by decide) (by decide) (g := (mkF m 27 #[.val (.ref lg), .val (.int (0 : Int32)), .val (.ref rm), .val (.int (2 : Int32)), .val (.int (0 : Int32)), .val (.ref r0)] [(.ref r0)])) rfl (by rw [hml]; rfl) (argsL := []) (rest := []) (lenOf pd_14 rfl) rfl (by show 2 * 0 + _ ≤ _; exact Nat.le_of_eq rfl) (hb hby d21_27) rfl
  obtain ⟨rfl, N4q, e4⟩ := hQ4
  have N4 := Fr.app N0 N4q
  refine Rch.st st4 ?_
  by_cases hc5 : (own_sg x0) < (0 : Int32)
  · refine Rch.st (fun _ hr => XS.ifNo X4.here hx rfl (hb hby d21_30) rfl ((if0 _ _).trans (tlt hc5).2.1) hr) ?_
    show Rch p.tables e below _ (T4.setTop (mkF m 33 #[.val (.ref lg), .val (.int (0 : Int32)), .val (.ref rm), .val (.int (2 : Int32)), .val (.int (0 : Int32)), .val (.ref r0)] []))
    refine Rch.st (fun _ hr => XS.iinc X4.here hx rfl (hb hby d21_33) rfl (l' := #[.val (.ref lg), .val (.int (1 : Int32)), .val (.ref rm), .val (.int (2 : Int32)), .val (.int (0 : Int32)), .val (.ref r0)]) rfl hr) ?_
    refine Rch.st (fun _ hr => XS.iinc X4.here hx rfl (hb hby d21_36) rfl (l' := #[.val (.ref lg), .val (.int (1 : Int32)), .val (.ref rm), .val (.int (2 : Int32)), .val (.int (1 : Int32)), .val (.ref r0)]) rfl hr) ?_
    refine Rch.st (fun _ hr => XS.goto X4.here hx rfl (pc0 := 39) (pc' := 13) rfl (hb hby d21_39) (by decide) (by decide) hr) ?_
    refine Rch.st (fun _ hr => XS.iload X4.here hx rfl (hb hby d21_13) rfl hr) ?_
    show Rch p.tables e below _ (T4.setTop (mkF m 15 #[.val (.ref lg), .val (.int (1 : Int32)), .val (.ref rm), .val (.int (2 : Int32)), .val (.int (1 : Int32)), .val (.ref r0)] [(.int (1 : Int32))]))
    refine Rch.st (fun _ hr => XS.iloadN X4.here hx rfl (hb hby d21_15) rfl hr) ?_
    refine Rch.st (fun _ hr => XS.icmpNo X4.here hx rfl (hb hby d21_16) rfl (tlt (by decide : (1 : Int32) < (2 : Int32))).2.1 hr) ?_
    refine Rch.st (fun _ hr => XS.aloadN X4.here hx rfl (hb hby d21_19) rfl rfl hr) ?_
    refine Rch.st (fun _ hr => XS.iload X4.here hx rfl (hb hby d21_20) rfl hr) ?_
    show Rch p.tables e below _ (T4.setTop (mkF m 22 #[.val (.ref lg), .val (.int (1 : Int32)), .val (.ref rm), .val (.int (2 : Int32)), .val (.int (1 : Int32)), .val (.ref r0)] [(.int (1 : Int32)), (.ref rm)]))
    obtain ⟨cl6, Ar6, -, Sz6, Ng6, Ha6, -⟩ := id zP1
    have hin6 := inb_of (j := (1 : Int32)) Sz6 ⟨by decide, by decide⟩
    have hat6 := Ha6.at hin6 (v := (.ref r1)) rfl
    refine Rch.st (fun t hr => X4.aaload hx (j := (1 : Int32)) (v := (.ref r1)) (by rw [e4]; exact Ar6.1) (State.isArrayOf_alike hZ.alike Ar6.2.1) rfl Ar6.2.2 hin6 hat6 (g := (mkF m 22 #[.val (.ref lg), .val (.int (1 : Int32)), .val (.ref rm), .val (.int (2 : Int32)), .val (.int (1 : Int32)), .val (.ref r0)] [(.int (1 : Int32)), (.ref rm)])) rfl rfl (hb hby d21_22) t hr) ?_
    refine Rch.st (fun _ hr => XS.astore X4.here hx rfl (hb hby d21_23) rfl rfl (l' := #[.val (.ref lg), .val (.int (1 : Int32)), .val (.ref rm), .val (.int (2 : Int32)), .val (.int (1 : Int32)), .val (.ref r1)]) rfl hr) ?_
    refine Rch.st (fun _ hr => XS.aload X4.here hx rfl (hb hby d21_25) rfl rfl hr) ?_
    obtain ⟨_, T7, Lc7, X7, hQ7, st7⟩ := own_callV X4 hx hZ (y := (⟨"java/math/BigDecimal", "signum", "()I"⟩ : MethodName)) (z := (⟨"java/math/BigDecimal", "signum", "()I"⟩ : MethodName)) hown (own_w hw 153 rfl) (own_w hw 154 rfl) (notFace_of_selects (args := #[]) (mvT hZ (own_w hw 156 rfl))) (own_w hw 156 rfl) (own_w hw 155 rfl) (own_w hw 39 rfl) (own_w hw 157 rfl) (by decide) (W := 0) (csignum l Z a0 hw [] r1 x1 h0 n0 zP3 hx1) (by decide) (by decide) e4 zP3.1 (by decide) (by decide) (g := (mkF m 27 #[.val (.ref lg), .val (.int (1 : Int32)), .val (.ref rm), .val (.int (2 : Int32)), .val (.int (1 : Int32)), .val (.ref r1)] [(.ref r1)])) rfl (by rw [hml]; rfl) (argsL := []) (rest := []) (lenOf pd_14 rfl) rfl (by show 2 * 0 + _ ≤ _; exact Nat.le_of_eq rfl) (hb hby d21_27) rfl
    obtain ⟨rfl, N7q, e7⟩ := hQ7
    have N7 := Fr.app N4 N7q
    refine Rch.st st7 ?_
    show Rch p.tables e below _ (T7.setTop (mkF m 30 #[.val (.ref lg), .val (.int (1 : Int32)), .val (.ref rm), .val (.int (2 : Int32)), .val (.int (1 : Int32)), .val (.ref r1)] [(.int (own_sg x1))]))
    by_cases hc8 : (own_sg x1) < (0 : Int32)
    · refine Rch.st (fun _ hr => XS.ifNo X7.here hx rfl (hb hby d21_30) rfl ((if0 _ _).trans (tlt hc8).2.1) hr) ?_
      refine Rch.st (fun _ hr => XS.iinc X7.here hx rfl (hb hby d21_33) rfl (l' := #[.val (.ref lg), .val (.int (2 : Int32)), .val (.ref rm), .val (.int (2 : Int32)), .val (.int (1 : Int32)), .val (.ref r1)]) rfl hr) ?_
      refine Rch.st (fun _ hr => XS.iinc X7.here hx rfl (hb hby d21_36) rfl (l' := #[.val (.ref lg), .val (.int (2 : Int32)), .val (.ref rm), .val (.int (2 : Int32)), .val (.int (2 : Int32)), .val (.ref r1)]) rfl hr) ?_
      refine Rch.st (fun _ hr => XS.goto X7.here hx rfl (pc0 := 39) (pc' := 13) rfl (hb hby d21_39) (by decide) (by decide) hr) ?_
      show Rch p.tables e below _ (T7.setTop (mkF m 13 #[.val (.ref lg), .val (.int (2 : Int32)), .val (.ref rm), .val (.int (2 : Int32)), .val (.int (2 : Int32)), .val (.ref r1)] []))
      refine Rch.st (fun _ hr => XS.iload X7.here hx rfl (hb hby d21_13) rfl hr) ?_
      refine Rch.st (fun _ hr => XS.iloadN X7.here hx rfl (hb hby d21_15) rfl hr) ?_
      refine Rch.st (fun _ hr => XS.icmpYes X7.here hx rfl (pc0 := 16) (pc' := 42) rfl (hb hby d21_16) rfl (flt (by decide : ¬ ((2 : Int32) < (2 : Int32)))).2.1 (by decide) (by decide) hr) ?_
      refine Rch.st (fun _ hr => XS.iloadN X7.here hx rfl (hb hby d21_42) rfl hr) ?_
      show Rch p.tables e below _ (T7.setTop (mkF m 43 #[.val (.ref lg), .val (.int (2 : Int32)), .val (.ref rm), .val (.int (2 : Int32)), .val (.int (2 : Int32)), .val (.ref r1)] [(.int (2 : Int32))]))
      obtain ⟨fs, hr, hrun, hended, hW, hsame⟩ := X7.leave (v := some (.int (2 : Int32))) (fun h => by rw [Bd.returns] at h; cases h)
      refine Rch.fin (u := T7.setFrames fs) (own_retI X7 hx Bd.returns (hb hby d21_43) hr) ⟨_, hrun, hended, _, _, rfl, ?_, ⟨_, rfl⟩, hW, hsame.mono (by decide) (by decide)⟩
      show Q_cover Z lg rm kr r0 r1 x0 x1 h0 n0 _ T7.heap _
      refine ⟨?_, N7, e7⟩
      · unfold own_ov; rw [if_pos hc5, if_pos hc8]; rfl
    · refine Rch.st (fun _ hr => XS.ifYes X7.here hx rfl (pc0 := 30) (pc' := 36) rfl (hb hby d21_30) rfl ((if0 _ _).trans (flt hc8).2.1) (by decide) (by decide) hr) ?_
      refine Rch.st (fun _ hr => XS.iinc X7.here hx rfl (hb hby d21_36) rfl (l' := #[.val (.ref lg), .val (.int (1 : Int32)), .val (.ref rm), .val (.int (2 : Int32)), .val (.int (2 : Int32)), .val (.ref r1)]) rfl hr) ?_
      refine Rch.st (fun _ hr => XS.goto X7.here hx rfl (pc0 := 39) (pc' := 13) rfl (hb hby d21_39) (by decide) (by decide) hr) ?_
      refine Rch.st (fun _ hr => XS.iload X7.here hx rfl (hb hby d21_13) rfl hr) ?_
      show Rch p.tables e below _ (T7.setTop (mkF m 15 #[.val (.ref lg), .val (.int (1 : Int32)), .val (.ref rm), .val (.int (2 : Int32)), .val (.int (2 : Int32)), .val (.ref r1)] [(.int (2 : Int32))]))
      refine Rch.st (fun _ hr => XS.iloadN X7.here hx rfl (hb hby d21_15) rfl hr) ?_
      refine Rch.st (fun _ hr => XS.icmpYes X7.here hx rfl (pc0 := 16) (pc' := 42) rfl (hb hby d21_16) rfl (flt (by decide : ¬ ((2 : Int32) < (2 : Int32)))).2.1 (by decide) (by decide) hr) ?_
      refine Rch.st (fun _ hr => XS.iloadN X7.here hx rfl (hb hby d21_42) rfl hr) ?_
      obtain ⟨fs, hr, hrun, hended, hW, hsame⟩ := X7.leave (v := some (.int (1 : Int32))) (fun h => by rw [Bd.returns] at h; cases h)
      refine Rch.fin (u := T7.setFrames fs) (own_retI X7 hx Bd.returns (hb hby d21_43) hr) ⟨_, hrun, hended, _, _, rfl, ?_, ⟨_, rfl⟩, hW, hsame.mono (by decide) (by decide)⟩
      show Q_cover Z lg rm kr r0 r1 x0 x1 h0 n0 _ T7.heap _
      refine ⟨?_, N7, e7⟩
      · unfold own_ov; rw [if_pos hc5, if_neg hc8]; rfl
  · refine Rch.st (fun _ hr => XS.ifYes X4.here hx rfl (pc0 := 30) (pc' := 36) rfl (hb hby d21_30) rfl ((if0 _ _).trans (flt hc5).2.1) (by decide) (by decide) hr) ?_
    show Rch p.tables e below _ (T4.setTop (mkF m 36 #[.val (.ref lg), .val (.int (0 : Int32)), .val (.ref rm), .val (.int (2 : Int32)), .val (.int (0 : Int32)), .val (.ref r0)] []))
    refine Rch.st (fun _ hr => XS.iinc X4.here hx rfl (hb hby d21_36) rfl (l' := #[.val (.ref lg), .val (.int (0 : Int32)), .val (.ref rm), .val (.int (2 : Int32)), .val (.int (1 : Int32)), .val (.ref r0)]) rfl hr) ?_
    refine Rch.st (fun _ hr => XS.goto X4.here hx rfl (pc0 := 39) (pc' := 13) rfl (hb hby d21_39) (by decide) (by decide) hr) ?_
    refine Rch.st (fun _ hr => XS.iload X4.here hx rfl (hb hby d21_13) rfl hr) ?_
    refine Rch.st (fun _ hr => XS.iloadN X4.here hx rfl (hb hby d21_15) rfl hr) ?_
    show Rch p.tables e below _ (T4.setTop (mkF m 16 #[.val (.ref lg), .val (.int (0 : Int32)), .val (.ref rm), .val (.int (2 : Int32)), .val (.int (1 : Int32)), .val (.ref r0)] [(.int (2 : Int32)), (.int (1 : Int32))]))
    refine Rch.st (fun _ hr => XS.icmpNo X4.here hx rfl (hb hby d21_16) rfl (tlt (by decide : (1 : Int32) < (2 : Int32))).2.1 hr) ?_
    refine Rch.st (fun _ hr => XS.aloadN X4.here hx rfl (hb hby d21_19) rfl rfl hr) ?_
    refine Rch.st (fun _ hr => XS.iload X4.here hx rfl (hb hby d21_20) rfl hr) ?_
    obtain ⟨cl9, Ar9, -, Sz9, Ng9, Ha9, -⟩ := id zP1
    have hin9 := inb_of (j := (1 : Int32)) Sz9 ⟨by decide, by decide⟩
    have hat9 := Ha9.at hin9 (v := (.ref r1)) rfl
    refine Rch.st (fun t hr => X4.aaload hx (j := (1 : Int32)) (v := (.ref r1)) (by rw [e4]; exact Ar9.1) (State.isArrayOf_alike hZ.alike Ar9.2.1) rfl Ar9.2.2 hin9 hat9 (g := (mkF m 22 #[.val (.ref lg), .val (.int (0 : Int32)), .val (.ref rm), .val (.int (2 : Int32)), .val (.int (1 : Int32)), .val (.ref r0)] [(.int (1 : Int32)), (.ref rm)])) rfl rfl (hb hby d21_22) t hr) ?_
    show Rch p.tables e below _ (T4.setTop (mkF m 23 #[.val (.ref lg), .val (.int (0 : Int32)), .val (.ref rm), .val (.int (2 : Int32)), .val (.int (1 : Int32)), .val (.ref r0)] [(.ref r1)]))
    refine Rch.st (fun _ hr => XS.astore X4.here hx rfl (hb hby d21_23) rfl rfl (l' := #[.val (.ref lg), .val (.int (0 : Int32)), .val (.ref rm), .val (.int (2 : Int32)), .val (.int (1 : Int32)), .val (.ref r1)]) rfl hr) ?_
    refine Rch.st (fun _ hr => XS.aload X4.here hx rfl (hb hby d21_25) rfl rfl hr) ?_
    obtain ⟨_, T10, Lc10, X10, hQ10, st10⟩ := own_callV X4 hx hZ (y := (⟨"java/math/BigDecimal", "signum", "()I"⟩ : MethodName)) (z := (⟨"java/math/BigDecimal", "signum", "()I"⟩ : MethodName)) hown (own_w hw 153 rfl) (own_w hw 154 rfl) (notFace_of_selects (args := #[]) (mvT hZ (own_w hw 156 rfl))) (own_w hw 156 rfl) (own_w hw 155 rfl) (own_w hw 39 rfl) (own_w hw 157 rfl) (by decide) (W := 0) (csignum l Z a0 hw [] r1 x1 h0 n0 zP3 hx1) (by decide) (by decide) e4 zP3.1 (by decide) (by decide) (g := (mkF m 27 #[.val (.ref lg), .val (.int (0 : Int32)), .val (.ref rm), .val (.int (2 : Int32)), .val (.int (1 : Int32)), .val (.ref r1)] [(.ref r1)])) rfl (by rw [hml]; rfl) (argsL := []) (rest := []) (lenOf pd_14 rfl) rfl (by show 2 * 0 + _ ≤ _; exact Nat.le_of_eq rfl) (hb hby d21_27) rfl
    obtain ⟨rfl, N10q, e10⟩ := hQ10
    have N10 := Fr.app N4 N10q
    refine Rch.st st10 ?_
    by_cases hc11 : (own_sg x1) < (0 : Int32)
    · refine Rch.st (fun _ hr => XS.ifNo X10.here hx rfl (hb hby d21_30) rfl ((if0 _ _).trans (tlt hc11).2.1) hr) ?_
      show Rch p.tables e below _ (T10.setTop (mkF m 33 #[.val (.ref lg), .val (.int (0 : Int32)), .val (.ref rm), .val (.int (2 : Int32)), .val (.int (1 : Int32)), .val (.ref r1)] []))
      refine Rch.st (fun _ hr => XS.iinc X10.here hx rfl (hb hby d21_33) rfl (l' := #[.val (.ref lg), .val (.int (1 : Int32)), .val (.ref rm), .val (.int (2 : Int32)), .val (.int (1 : Int32)), .val (.ref r1)]) rfl hr) ?_
      refine Rch.st (fun _ hr => XS.iinc X10.here hx rfl (hb hby d21_36) rfl (l' := #[.val (.ref lg), .val (.int (1 : Int32)), .val (.ref rm), .val (.int (2 : Int32)), .val (.int (2 : Int32)), .val (.ref r1)]) rfl hr) ?_
      refine Rch.st (fun _ hr => XS.goto X10.here hx rfl (pc0 := 39) (pc' := 13) rfl (hb hby d21_39) (by decide) (by decide) hr) ?_
      refine Rch.st (fun _ hr => XS.iload X10.here hx rfl (hb hby d21_13) rfl hr) ?_
      show Rch p.tables e below _ (T10.setTop (mkF m 15 #[.val (.ref lg), .val (.int (1 : Int32)), .val (.ref rm), .val (.int (2 : Int32)), .val (.int (2 : Int32)), .val (.ref r1)] [(.int (2 : Int32))]))
      refine Rch.st (fun _ hr => XS.iloadN X10.here hx rfl (hb hby d21_15) rfl hr) ?_
      refine Rch.st (fun _ hr => XS.icmpYes X10.here hx rfl (pc0 := 16) (pc' := 42) rfl (hb hby d21_16) rfl (flt (by decide : ¬ ((2 : Int32) < (2 : Int32)))).2.1 (by decide) (by decide) hr) ?_
      refine Rch.st (fun _ hr => XS.iloadN X10.here hx rfl (hb hby d21_42) rfl hr) ?_
      obtain ⟨fs, hr, hrun, hended, hW, hsame⟩ := X10.leave (v := some (.int (1 : Int32))) (fun h => by rw [Bd.returns] at h; cases h)
      refine Rch.fin (u := T10.setFrames fs) (own_retI X10 hx Bd.returns (hb hby d21_43) hr) ⟨_, hrun, hended, _, _, rfl, ?_, ⟨_, rfl⟩, hW, hsame.mono (by decide) (by decide)⟩
      show Q_cover Z lg rm kr r0 r1 x0 x1 h0 n0 _ T10.heap _
      refine ⟨?_, N10, e10⟩
      · unfold own_ov; rw [if_neg hc5, if_pos hc11]; rfl
    · refine Rch.st (fun _ hr => XS.ifYes X10.here hx rfl (pc0 := 30) (pc' := 36) rfl (hb hby d21_30) rfl ((if0 _ _).trans (flt hc11).2.1) (by decide) (by decide) hr) ?_
      show Rch p.tables e below _ (T10.setTop (mkF m 36 #[.val (.ref lg), .val (.int (0 : Int32)), .val (.ref rm), .val (.int (2 : Int32)), .val (.int (1 : Int32)), .val (.ref r1)] []))
      refine Rch.st (fun _ hr => XS.iinc X10.here hx rfl (hb hby d21_36) rfl (l' := #[.val (.ref lg), .val (.int (0 : Int32)), .val (.ref rm), .val (.int (2 : Int32)), .val (.int (2 : Int32)), .val (.ref r1)]) rfl hr) ?_
      refine Rch.st (fun _ hr => XS.goto X10.here hx rfl (pc0 := 39) (pc' := 13) rfl (hb hby d21_39) (by decide) (by decide) hr) ?_
      refine Rch.st (fun _ hr => XS.iload X10.here hx rfl (hb hby d21_13) rfl hr) ?_
      refine Rch.st (fun _ hr => XS.iloadN X10.here hx rfl (hb hby d21_15) rfl hr) ?_
      show Rch p.tables e below _ (T10.setTop (mkF m 16 #[.val (.ref lg), .val (.int (0 : Int32)), .val (.ref rm), .val (.int (2 : Int32)), .val (.int (2 : Int32)), .val (.ref r1)] [(.int (2 : Int32)), (.int (2 : Int32))]))
      refine Rch.st (fun _ hr => XS.icmpYes X10.here hx rfl (pc0 := 16) (pc' := 42) rfl (hb hby d21_16) rfl (flt (by decide : ¬ ((2 : Int32) < (2 : Int32)))).2.1 (by decide) (by decide) hr) ?_
      refine Rch.st (fun _ hr => XS.iloadN X10.here hx rfl (hb hby d21_42) rfl hr) ?_
      obtain ⟨fs, hr, hrun, hended, hW, hsame⟩ := X10.leave (v := some (.int (0 : Int32))) (fun h => by rw [Bd.returns] at h; cases h)
      refine Rch.fin (u := T10.setFrames fs) (own_retI X10 hx Bd.returns (hb hby d21_43) hr) ⟨_, hrun, hended, _, _, rfl, ?_, ⟨_, rfl⟩, hW, hsame.mono (by decide) (by decide)⟩
      show Q_cover Z lg rm kr r0 r1 x0 x1 h0 n0 _ T10.heap _
      refine ⟨?_, N10, e10⟩
      · unfold own_ov; rw [if_neg hc5, if_neg hc11]; rfl
theorem d25_0 : decode prog_23_method_3_code 0 = .ok (.aload_n 0, 1) := by decide +kernel
theorem d25_1 : decode prog_23_method_3_code 1 = .ok (.getfield 21, 3) := by decide +kernel
theorem d25_4 : decode prog_23_method_3_code 4 = .ok (.iload_n 1, 1) := by decide +kernel
theorem d25_5 : decode prog_23_method_3_code 5 = .ok (.aload_n 0, 1) := by decide +kernel
theorem d25_6 : decode prog_23_method_3_code 6 = .ok (.getfield 21, 3) := by decide +kernel
theorem d25_9 : decode prog_23_method_3_code 9 = .ok (.iload_n 1, 1) := by decide +kernel
theorem d25_10 : decode prog_23_method_3_code 10 = .ok (.aaload, 1) := by decide +kernel
theorem d25_11 : decode prog_23_method_3_code 11 = .ok (.aload_n 2, 1) := by decide +kernel
theorem d25_12 : decode prog_23_method_3_code 12 = .ok (.invokevirtual 60, 3) := by decide +kernel
theorem pd_17 : parseMethodDescriptor "(Ljava/math/BigDecimal;)Ljava/math/BigDecimal;" = some ⟨[(.object "java/math/BigDecimal")], some (.object "java/math/BigDecimal")⟩ := by decide +kernel
theorem d25_15 : decode prog_23_method_3_code 15 = .ok (.aastore, 1) := by decide +kernel
theorem d25_16 : decode prog_23_method_3_code 16 = .ok (.aload_n 0, 1) := by decide +kernel
theorem d25_17 : decode prog_23_method_3_code 17 = .ok (.getfield 25, 3) := by decide +kernel
theorem d25_20 : decode prog_23_method_3_code 20 = .ok (.iload_n 1, 1) := by decide +kernel
theorem d25_21 : decode prog_23_method_3_code 21 = .ok (.aload_n 0, 1) := by decide +kernel
theorem d25_22 : decode prog_23_method_3_code 22 = .ok (.getfield 25, 3) := by decide +kernel
theorem d25_25 : decode prog_23_method_3_code 25 = .ok (.iload_n 1, 1) := by decide +kernel
theorem d25_26 : decode prog_23_method_3_code 26 = .ok (.aaload, 1) := by decide +kernel
theorem d25_27 : decode prog_23_method_3_code 27 = .ok (.aload_n 2, 1) := by decide +kernel
theorem d25_28 : decode prog_23_method_3_code 28 = .ok (.invokevirtual 64, 3) := by decide +kernel
theorem d25_31 : decode prog_23_method_3_code 31 = .ok (.aastore, 1) := by decide +kernel
theorem d25_32 : decode prog_23_method_3_code 32 = .ok (.return_, 1) := by decide +kernel
def Q_ccharge0 (Z : State) (lg : Addr) (c0 : Addr) (sp : Addr) (ks : ClassId) (rm : Addr) (kr : ClassId) (s0 : Addr) (s1 : Addr) (r0 : Addr) (r1 : Addr) (xs : Int64) (xr : Int64) (xc : Int64) (wz : Addr) (h0 : Heap) (n0 : Nat) (v : Option Value) (h : Heap) (L : List Loc) : Prop := ∃ (t1 : Addr) (t2 : Addr), v = none ∧ Fr n0 L ∧ Keep h0 h [sp, rm] ∧ Old Z n0 h ∧ Arv Z h sp ks (.object "java/math/BigDecimal") (2 : Int32) [(.ref t1), (.ref s1)] .null ∧ Arv Z h rm kr (.object "java/math/BigDecimal") (2 : Int32) [(.ref t2), (.ref r1)] .null ∧ BDc Z h t1 (xs + xc) (0 : Int32) ∧ BDc Z h t2 (xr + (-xc)) (0 : Int32)
theorem ef_ccharge0 (m : MethodId) (lg : Addr) (c0 : Addr) (sp : Addr) (ks : ClassId) (rm : Addr) (kr : ClassId) (s0 : Addr) (s1 : Addr) (r0 : Addr) (r1 : Addr) (xs : Int64) (xr : Int64) (xc : Int64) (wz : Addr) : entryFrame m #[(.ref lg), (.int (0 : Int32)), (.ref c0)] 3 = mkF m 0 #[.val (.ref lg), .val (.int (0 : Int32)), .val (.ref c0)] [] := by first | (simp [entryFrame, mkF, argsToLocals, Value.category]; done) | rfl
set_option maxRecDepth 65536 in
set_option maxHeartbeats 40000000 in
theorem ccharge0 (l : Launch) (Z : State) (a0 : Array Value) (hw : ∀ d ∈ tables_1, d.before a0 Z = true) (ws : List Jvm.Cond) (lg : Addr) (c0 : Addr) (sp : Addr) (ks : ClassId) (rm : Addr) (kr : ClassId) (s0 : Addr) (s1 : Addr) (r0 : Addr) (r1 : Addr) (xs : Int64) (xr : Int64) (xc : Int64) (wz : Addr) (h0 : Heap) (n0 : Nat) (zD0 : Sta Z Z.heap "java/math/BigDecimal" "ZERO_THROUGH_TEN" "[Ljava/math/BigDecimal;" (.ref wz)) (zD1 : ZTab Z Z.heap wz) (zP0 : Old Z n0 h0) (zP1 : Exa Z h0 lg "com/example/slotwright/slotwright/Ledger") (zP2 : Fld Z h0 lg "com/example/slotwright/slotwright/Ledger" "spent" "[Ljava/math/BigDecimal;" (.ref sp)) (zP3 : Fld Z h0 lg "com/example/slotwright/slotwright/Ledger" "remaining" "[Ljava/math/BigDecimal;" (.ref rm)) (zP4 : Arv Z h0 sp ks (.object "java/math/BigDecimal") (2 : Int32) [(.ref s0), (.ref s1)] .null) (zP5 : Arv Z h0 rm kr (.object "java/math/BigDecimal") (2 : Int32) [(.ref r0), (.ref r1)] .null) (zP6 : Ovr Z ks "java/math/BigDecimal") (zP7 : Ovr Z kr "java/math/BigDecimal") (zP8 : BDc Z h0 s0 xs (0 : Int32)) (zP9 : BDc Z h0 r0 xr (0 : Int32)) (zP10 : BDc Z h0 c0 xc (0 : Int32)) (zP11 : n0 ≤ sp) (zP12 : n0 ≤ rm) (zP13 : sp ≠ rm) (h1 : ¬ xs = (-9223372036854775808 : Int64)) (h2 : ¬ xr = (-9223372036854775808 : Int64)) (h3 : ¬ xc = (-9223372036854775808 : Int64)) (h4 : ¬ (((xs + xc) ^^^ xs) &&& ((xs + xc) ^^^ xc)) < (0 : Int64)) (h5 : ¬ (xs + xc) = (-9223372036854775808 : Int64)) (h6 : ¬ (((xr + (-xc)) ^^^ xr) &&& ((xr + (-xc)) ^^^ (-xc))) < (0 : Int64)) (h7 : ¬ (xr + (-xc)) = (-9223372036854775808 : Int64)) :
    MetFree l (⟨"com/example/slotwright/slotwright/Ledger", "charge", "(ILjava/math/BigDecimal;)V"⟩ : MethodName) (head1 (Jvm.Cond.code (⟨"com/example/slotwright/slotwright/Ledger", "charge", "(ILjava/math/BigDecimal;)V"⟩ : MethodName) prog_23_method_3_code 3 none :: ws) ({ frames := 8, cells := 2, slots := 10, locals := 125 } : Room)) (fun aA uU => aA = #[(.ref lg), (.int (0 : Int32)), (.ref c0)] ∧ Z.Warmed39 uU.vm ∧ uU.heap = h0) (fun _ _ _ _ _ => True) (fun _ uU oO uU' => ∃ vV lL, oO = .returned vV ∧ Q_ccharge0 Z lg c0 sp ks rm kr s0 s1 r0 r1 xs xr xc wz h0 n0 vV uU'.heap lL ∧ FrameEnd uU oO uU' lL ({ frames := 8, cells := 2, slots := 10, locals := 125 } : Room).cells ({ frames := 8, cells := 2, slots := 10, locals := 125 } : Room).slots) := by
  refine MetFree.of_bodySF (plainFor_of_name pn_com_example_slotwright_slotwright_Ledger) hisR ?_
  intro p e s m args below meth c s₁ Bd hml0 hP hK
  obtain ⟨rfl, hZ, hh⟩ := hP
  have hx := Bd.exec
  have hby := Bd.bytes
  have hml : c.maxLocals = 3 := hml0
  have hown : s.vm.findClass "com/example/slotwright/slotwright/Ledger" = some m.cls := findClass_of_methodNamed Bd.named
  have hnm := (name_of_methodNamed Bd.named Bd.method).1
  have X0 : Stand p l e ({ frames := 8, cells := 2, slots := 10, locals := 125 } : Room) s m #[(.ref lg), (.int (0 : Int32)), (.ref c0)] below meth c s₁ [] 0 0 := Stand.of_body Bd
  have e0 : s₁.heap = h0 := by rw [← hh, Bd.state]; rfl
  have N0 := Fr.nil n0
  refine Rch.out (Rch.st (fun t k => castTop (ef_ccharge0 m lg c0 sp ks rm kr s0 s1 r0 r1 xs xr xc wz) k) ?_)
  show Rch p.tables e below _ (s₁.setTop (mkF m 0 #[.val (.ref lg), .val (.int (0 : Int32)), .val (.ref c0)] []))
  refine Rch.st (fun _ hr => XS.aloadN X0.here hx rfl (hb hby d25_0) rfl rfl hr) ?_
  obtain ⟨T1, X1, e1, st1⟩ := getF X0 hx hZ hown (host := "") (Or.inl (own_w hw 110 rfl)) Via.refl e0 zP2 (g := (mkF m 1 #[.val (.ref lg), .val (.int (0 : Int32)), .val (.ref c0)] [(.ref lg)])) rfl rfl (hb hby d25_1)
  refine Rch.st st1 ?_
  refine Rch.st (fun _ hr => XS.iloadN X1.here hx rfl (hb hby d25_4) rfl hr) ?_
  refine Rch.st (fun _ hr => XS.aloadN X1.here hx rfl (hb hby d25_5) rfl rfl hr) ?_
  show Rch p.tables e below _ (T1.setTop (mkF m 6 #[.val (.ref lg), .val (.int (0 : Int32)), .val (.ref c0)] [(.ref lg), (.int (0 : Int32)), (.ref sp)]))
  obtain ⟨T2, X2, e2, st2⟩ := getF X1 hx hZ hown (host := "") (Or.inl (own_w hw 110 rfl)) Via.refl e1 zP2 (g := (mkF m 6 #[.val (.ref lg), .val (.int (0 : Int32)), .val (.ref c0)] [(.ref lg), (.int (0 : Int32)), (.ref sp)])) rfl rfl (hb hby d25_6)
  refine Rch.st st2 ?_
  refine Rch.st (fun _ hr => XS.iloadN X2.here hx rfl (hb hby d25_9) rfl hr) ?_
  obtain ⟨cl3, Ar3, -, Sz3, Ng3, Ha3, -⟩ := id zP4
  have hin3 := inb_of (j := (0 : Int32)) Sz3 ⟨by decide, by decide⟩
  have hat3 := Ha3.at hin3 (v := (.ref s0)) rfl
  refine Rch.st (fun t hr => X2.aaload hx (j := (0 : Int32)) (v := (.ref s0)) (by rw [e2]; exact Ar3.1) (State.isArrayOf_alike hZ.alike Ar3.2.1) rfl Ar3.2.2 hin3 hat3 (g := (mkF m 10 #[.val (.ref lg), .val (.int (0 : Int32)), .val (.ref c0)] [(.int (0 : Int32)), (.ref sp), (.int (0 : Int32)), (.ref sp)])) rfl rfl (hb hby d25_10) t hr) ?_
  refine Rch.st (fun _ hr => XS.aloadN X2.here hx rfl (hb hby d25_11) rfl rfl hr) ?_
  show Rch p.tables e below _ (T2.setTop (mkF m 12 #[.val (.ref lg), .val (.int (0 : Int32)), .val (.ref c0)] [(.ref c0), (.ref s0), (.int (0 : Int32)), (.ref sp)]))
  obtain ⟨_, T4, Lc4, X4, hQ4, st4⟩ := own_callV X2 hx hZ (y := (⟨"java/math/BigDecimal", "add", "(Ljava/math/BigDecimal;)Ljava/math/BigDecimal;"⟩ : MethodName)) (z := (⟨"java/math/BigDecimal", "add", "(Ljava/math/BigDecimal;)Ljava/math/BigDecimal;"⟩ : MethodName)) hown (own_w hw 174 rfl) (own_w hw 175 rfl) (notFace_of_selects (args := #[]) (mvT hZ (own_w hw 177 rfl))) (own_w hw 177 rfl) (own_w hw 176 rfl) (own_w hw 39 rfl) (own_w hw 178 rfl) (by decide) (W := 2) (cadd l Z a0 hw [] s0 c0 xs xc wz h0 n0 zD0 zD1 zP0 zP8 zP10 h1 h3 h4 h5) (by decide) (by decide) e2 zP8.1 (by decide) (by decide) (g := (mkF m 12 #[.val (.ref lg), .val (.int (0 : Int32)), .val (.ref c0)] [(.ref c0), (.ref s0), (.int (0 : Int32)), (.ref sp)])) rfl (by rw [hml]; rfl) (argsL := [(.ref c0)]) (rest := [(.int (0 : Int32)), (.ref sp)]) (lenOf pd_17 rfl) rfl (by show 2 * 0 + _ ≤ _; exact Nat.le_of_eq rfl) (hb hby d25_12) rfl
  obtain ⟨r_4, rfl, N4q, Kp4, Op4, R4_0⟩ := hQ4
  have N4 := Fr.app N0 N4q
  refine Rch.st st4 ?_
  have K5 : Keep h0 T4.heap [sp, rm] := (Keep.refl h0 [sp, rm]).trans Kp4 all0
  have f6 : Arv Z T4.heap sp ks (.object "java/math/BigDecimal") (2 : Int32) [(.ref s0), (.ref s1)] .null := (zP4.keep Kp4 nin0)
  obtain ⟨cl7, Ar7, qk7, Sz7, Ng7, Ha7, Gf7⟩ := id f6
  have hin7 := inb_of (j := (0 : Int32)) Sz7 ⟨by decide, by decide⟩
  obtain ⟨T8, h8, X8, e8, W8, st8⟩ := stR X4 hx hZ rfl Ar7 (j := (0 : Int32)) hin7 rfl (Sto.ofV Ar7 qk7 zP6 (Ins.self R4_0.1)) (g := (mkF m 15 #[.val (.ref lg), .val (.int (0 : Int32)), .val (.ref c0)] [(.ref r_4), (.int (0 : Int32)), (.ref sp)])) rfl rfl (hb hby d25_15)
  refine Rch.st st8 ?_
  have N8 := Fr.snoc X8 N4 zP11
  have f9 : Exa Z T4.heap lg "com/example/slotwright/slotwright/Ledger" := (zP1.keep Kp4)
  have ne10 : lg ≠ sp := (Exa.neArv f9 f6 (own_w hw 92 rfl))
  have f11 : Exa Z T4.heap s0 "java/math/BigDecimal" := (zP8.1.keep Kp4)
  have ne12 : s0 ≠ sp := (Exa.neArv f11 f6 (own_w hw 200 rfl))
  have f13 : BDc Z T4.heap r0 xr (0 : Int32) := (zP9.keep Kp4 nin0)
  have ne14 : r0 ≠ sp := (Exa.neArv f13.1 f6 (own_w hw 200 rfl))
  have f15 : BDc Z T4.heap c0 xc (0 : Int32) := (zP10.keep Kp4 nin0)
  have ne16 : c0 ≠ sp := (Exa.neArv f15.1 f6 (own_w hw 200 rfl))
  have ne17 : r_4 ≠ sp := (Exa.neArv R4_0.1 f6 (own_w hw 200 rfl))
  have K18 : Keep h0 h8 [sp, rm] := K5.wr W8 (Or.inl (List.mem_of_getElem? (i := 0) rfl))
  have V8 : Arv Z h8 sp ks (.object "java/math/BigDecimal") (2 : Int32) [(.ref r_4), (.ref s1)] .null := Arv.set Ar7 qk7 Sz7 Ng7 Ha7 Gf7 rfl W8 0 rfl (Nat.le_of_ble_eq_true rfl)
  refine Rch.st (fun _ hr => XS.aloadN X8.here hx rfl (hb hby d25_16) rfl rfl hr) ?_
  have f19 : Fld Z h8 lg "com/example/slotwright/slotwright/Ledger" "remaining" "[Ljava/math/BigDecimal;" (.ref rm) := ((zP3.keep Kp4 nin0).other W8 (Or.inl ne10))
  obtain ⟨T20, X20, e20, st20⟩ := getF X8 hx hZ hown (host := "") (Or.inl (own_w hw 112 rfl)) Via.refl e8 f19 (g := (mkF m 17 #[.val (.ref lg), .val (.int (0 : Int32)), .val (.ref c0)] [(.ref lg)])) rfl rfl (hb hby d25_17)
  refine Rch.st st20 ?_
  show Rch p.tables e below _ (T20.setTop (mkF m 20 #[.val (.ref lg), .val (.int (0 : Int32)), .val (.ref c0)] [(.ref rm)]))
  refine Rch.st (fun _ hr => XS.iloadN X20.here hx rfl (hb hby d25_20) rfl hr) ?_
  refine Rch.st (fun _ hr => XS.aloadN X20.here hx rfl (hb hby d25_21) rfl rfl hr) ?_
  obtain ⟨T21, X21, e21, st21⟩ := getF X20 hx hZ hown (host := "") (Or.inl (own_w hw 112 rfl)) Via.refl e20 f19 (g := (mkF m 22 #[.val (.ref lg), .val (.int (0 : Int32)), .val (.ref c0)] [(.ref lg), (.int (0 : Int32)), (.ref rm)])) rfl rfl (hb hby d25_22)
  refine Rch.st st21 ?_
  refine Rch.st (fun _ hr => XS.iloadN X21.here hx rfl (hb hby d25_25) rfl hr) ?_
  show Rch p.tables e below _ (T21.setTop (mkF m 26 #[.val (.ref lg), .val (.int (0 : Int32)), .val (.ref c0)] [(.int (0 : Int32)), (.ref rm), (.int (0 : Int32)), (.ref rm)]))
  have f22 : Arv Z h8 rm kr (.object "java/math/BigDecimal") (2 : Int32) [(.ref r0), (.ref r1)] .null := ((zP5.keep Kp4 nin0).other W8 (Ne.symm zP13))
  obtain ⟨cl23, Ar23, -, Sz23, Ng23, Ha23, -⟩ := id f22
  have hin23 := inb_of (j := (0 : Int32)) Sz23 ⟨by decide, by decide⟩
  have hat23 := Ha23.at hin23 (v := (.ref r0)) rfl
  refine Rch.st (fun t hr => X21.aaload hx (j := (0 : Int32)) (v := (.ref r0)) (by rw [e21]; exact Ar23.1) (State.isArrayOf_alike hZ.alike Ar23.2.1) rfl Ar23.2.2 hin23 hat23 (g := (mkF m 26 #[.val (.ref lg), .val (.int (0 : Int32)), .val (.ref c0)] [(.int (0 : Int32)), (.ref rm), (.int (0 : Int32)), (.ref rm)])) rfl rfl (hb hby d25_26) t hr) ?_
  refine Rch.st (fun _ hr => XS.aloadN X21.here hx rfl (hb hby d25_27) rfl rfl hr) ?_
  have f25 : Exa Z h8 r0 "java/math/BigDecimal" := (f13.1.wr W8)
  have f26 : Old Z n0 h8 := (Op4.wr W8 zP11)
  have f27 : BDc Z h8 r0 xr (0 : Int32) := (f13.other W8 ne14)
  have f28 : BDc Z h8 c0 xc (0 : Int32) := (f15.other W8 ne16)
  obtain ⟨_, T24, Lc24, X24, hQ24, st24⟩ := own_callV X21 hx hZ (y := (⟨"java/math/BigDecimal", "subtract", "(Ljava/math/BigDecimal;)Ljava/math/BigDecimal;"⟩ : MethodName)) (z := (⟨"java/math/BigDecimal", "subtract", "(Ljava/math/BigDecimal;)Ljava/math/BigDecimal;"⟩ : MethodName)) hown (own_w hw 194 rfl) (own_w hw 195 rfl) (notFace_of_selects (args := #[]) (mvT hZ (own_w hw 197 rfl))) (own_w hw 197 rfl) (own_w hw 196 rfl) (own_w hw 39 rfl) (own_w hw 198 rfl) (by decide) (W := 2) (csub l Z a0 hw [] r0 c0 xr xc wz h8 n0 zD0 zD1 f26 f27 f28 h2 h3 h6 h7) (by decide) (by decide) e21 f25 (by decide) (by decide) (g := (mkF m 28 #[.val (.ref lg), .val (.int (0 : Int32)), .val (.ref c0)] [(.ref c0), (.ref r0), (.int (0 : Int32)), (.ref rm)])) rfl (by rw [hml]; rfl) (argsL := [(.ref c0)]) (rest := [(.int (0 : Int32)), (.ref rm)]) (lenOf pd_17 rfl) rfl (by show 2 * 0 + _ ≤ _; exact Nat.le_of_eq rfl) (hb hby d25_28) rfl
  obtain ⟨r_24, rfl, N24q, Kp24, Op24, R24_0⟩ := hQ24
  have N24 := Fr.app N8 N24q
  refine Rch.st st24 ?_
  have K29 : Keep h0 T24.heap [sp, rm] := K18.trans Kp24 all0
  have f30 : Arv Z T24.heap rm kr (.object "java/math/BigDecimal") (2 : Int32) [(.ref r0), (.ref r1)] .null := (f22.keep Kp24 nin0)
  obtain ⟨cl31, Ar31, qk31, Sz31, Ng31, Ha31, Gf31⟩ := id f30
  have hin31 := inb_of (j := (0 : Int32)) Sz31 ⟨by decide, by decide⟩
  obtain ⟨T32, h32, X32, e32, W32, st32⟩ := stR X24 hx hZ rfl Ar31 (j := (0 : Int32)) hin31 rfl (Sto.ofV Ar31 qk31 zP7 (Ins.self R24_0.1)) (g := (mkF m 31 #[.val (.ref lg), .val (.int (0 : Int32)), .val (.ref c0)] [(.ref r_24), (.int (0 : Int32)), (.ref rm)])) rfl rfl (hb hby d25_31)
  refine Rch.st st32 ?_
  have N32 := Fr.snoc X32 N24 zP12
  have f33 : Exa Z T24.heap lg "com/example/slotwright/slotwright/Ledger" := ((f9.wr W8).keep Kp24)
  have ne34 : lg ≠ rm := (Exa.neArv f33 f30 (own_w hw 92 rfl))
  have f35 : Exa Z T24.heap s0 "java/math/BigDecimal" := ((f11.wr W8).keep Kp24)
  have ne36 : s0 ≠ rm := (Exa.neArv f35 f30 (own_w hw 200 rfl))
  have f37 : Exa Z T24.heap r0 "java/math/BigDecimal" := (f25.keep Kp24)
  have ne38 : r0 ≠ rm := (Exa.neArv f37 f30 (own_w hw 200 rfl))
  have f39 : Exa Z T24.heap c0 "java/math/BigDecimal" := ((f15.1.wr W8).keep Kp24)
  have ne40 : c0 ≠ rm := (Exa.neArv f39 f30 (own_w hw 200 rfl))
  have f41 : Exa Z T24.heap r_4 "java/math/BigDecimal" := ((R4_0.1.wr W8).keep Kp24)
  have ne42 : r_4 ≠ rm := (Exa.neArv f41 f30 (own_w hw 200 rfl))
  have ne43 : r_24 ≠ rm := (Exa.neArv R24_0.1 f30 (own_w hw 200 rfl))
  have K44 : Keep h0 h32 [sp, rm] := K29.wr W32 (Or.inl (List.mem_of_getElem? (i := 1) rfl))
  have V32 : Arv Z h32 rm kr (.object "java/math/BigDecimal") (2 : Int32) [(.ref r_24), (.ref r1)] .null := Arv.set Ar31 qk31 Sz31 Ng31 Ha31 Gf31 rfl W32 0 rfl (Nat.le_of_ble_eq_true rfl)
  show Rch p.tables e below _ (T32.setTop (mkF m 32 #[.val (.ref lg), .val (.int (0 : Int32)), .val (.ref c0)] []))
  obtain ⟨fs, hr, hrun, hended, hW, hsame⟩ := X32.leave (v := none) (fun _ => rfl)
  have f45 : Old Z n0 h32 := (Op24.wr W32 zP12)
  have f46 : Arv Z h32 sp ks (.object "java/math/BigDecimal") (2 : Int32) [(.ref r_4), (.ref s1)] .null := ((V8.keep Kp24 nin0).other W32 zP13)
  have f47 : BDc Z h32 r_4 (xs + xc) (0 : Int32) := (((R4_0.other W8 ne17).keep Kp24 nin0).other W32 ne42)
  have f48 : BDc Z h32 r_24 (xr + (-xc)) (0 : Int32) := (R24_0.other W32 ne43)
  refine Rch.fin (u := T32.setFrames fs) (X32.returnOut hx Bd.returns (hb hby d25_32) hr) ⟨_, hrun, hended, _, _, rfl, ?_, ⟨_, rfl⟩, hW, hsame.mono (by decide) (by decide)⟩
  show Q_ccharge0 Z lg c0 sp ks rm kr s0 s1 r0 r1 xs xr xc wz h0 n0 _ T32.heap _
  rw [e32]
  exact ⟨r_4, r_24, rfl, N32, K44, f45, f46, V32, f47, f48⟩
def Q_ccharge1 (Z : State) (lg : Addr) (c0 : Addr) (sp : Addr) (ks : ClassId) (rm : Addr) (kr : ClassId) (s0 : Addr) (s1 : Addr) (r0 : Addr) (r1 : Addr) (xs : Int64) (xr : Int64) (xc : Int64) (wz : Addr) (h0 : Heap) (n0 : Nat) (v : Option Value) (h : Heap) (L : List Loc) : Prop := ∃ (t1 : Addr) (t2 : Addr), v = none ∧ Fr n0 L ∧ Keep h0 h [sp, rm] ∧ Old Z n0 h ∧ Arv Z h sp ks (.object "java/math/BigDecimal") (2 : Int32) [(.ref s0), (.ref t1)] .null ∧ Arv Z h rm kr (.object "java/math/BigDecimal") (2 : Int32) [(.ref r0), (.ref t2)] .null ∧ BDc Z h t1 (xs + xc) (0 : Int32) ∧ BDc Z h t2 (xr + (-xc)) (0 : Int32)
theorem ef_ccharge1 (m : MethodId) (lg : Addr) (c0 : Addr) (sp : Addr) (ks : ClassId) (rm : Addr) (kr : ClassId) (s0 : Addr) (s1 : Addr) (r0 : Addr) (r1 : Addr) (xs : Int64) (xr : Int64) (xc : Int64) (wz : Addr) : entryFrame m #[(.ref lg), (.int (1 : Int32)), (.ref c0)] 3 = mkF m 0 #[.val (.ref lg), .val (.int (1 : Int32)), .val (.ref c0)] [] := by first | (simp [entryFrame, mkF, argsToLocals, Value.category]; done) | rfl
set_option maxRecDepth 65536 in
set_option maxHeartbeats 40000000 in
theorem ccharge1 (l : Launch) (Z : State) (a0 : Array Value) (hw : ∀ d ∈ tables_1, d.before a0 Z = true) (ws : List Jvm.Cond) (lg : Addr) (c0 : Addr) (sp : Addr) (ks : ClassId) (rm : Addr) (kr : ClassId) (s0 : Addr) (s1 : Addr) (r0 : Addr) (r1 : Addr) (xs : Int64) (xr : Int64) (xc : Int64) (wz : Addr) (h0 : Heap) (n0 : Nat) (zD0 : Sta Z Z.heap "java/math/BigDecimal" "ZERO_THROUGH_TEN" "[Ljava/math/BigDecimal;" (.ref wz)) (zD1 : ZTab Z Z.heap wz) (zP0 : Old Z n0 h0) (zP1 : Exa Z h0 lg "com/example/slotwright/slotwright/Ledger") (zP2 : Fld Z h0 lg "com/example/slotwright/slotwright/Ledger" "spent" "[Ljava/math/BigDecimal;" (.ref sp)) (zP3 : Fld Z h0 lg "com/example/slotwright/slotwright/Ledger" "remaining" "[Ljava/math/BigDecimal;" (.ref rm)) (zP4 : Arv Z h0 sp ks (.object "java/math/BigDecimal") (2 : Int32) [(.ref s0), (.ref s1)] .null) (zP5 : Arv Z h0 rm kr (.object "java/math/BigDecimal") (2 : Int32) [(.ref r0), (.ref r1)] .null) (zP6 : Ovr Z ks "java/math/BigDecimal") (zP7 : Ovr Z kr "java/math/BigDecimal") (zP8 : BDc Z h0 s1 xs (0 : Int32)) (zP9 : BDc Z h0 r1 xr (0 : Int32)) (zP10 : BDc Z h0 c0 xc (0 : Int32)) (zP11 : n0 ≤ sp) (zP12 : n0 ≤ rm) (zP13 : sp ≠ rm) (h1 : ¬ xs = (-9223372036854775808 : Int64)) (h2 : ¬ xr = (-9223372036854775808 : Int64)) (h3 : ¬ xc = (-9223372036854775808 : Int64)) (h4 : ¬ (((xs + xc) ^^^ xs) &&& ((xs + xc) ^^^ xc)) < (0 : Int64)) (h5 : ¬ (xs + xc) = (-9223372036854775808 : Int64)) (h6 : ¬ (((xr + (-xc)) ^^^ xr) &&& ((xr + (-xc)) ^^^ (-xc))) < (0 : Int64)) (h7 : ¬ (xr + (-xc)) = (-9223372036854775808 : Int64)) :
    MetFree l (⟨"com/example/slotwright/slotwright/Ledger", "charge", "(ILjava/math/BigDecimal;)V"⟩ : MethodName) (head1 (Jvm.Cond.code (⟨"com/example/slotwright/slotwright/Ledger", "charge", "(ILjava/math/BigDecimal;)V"⟩ : MethodName) prog_23_method_3_code 3 none :: ws) ({ frames := 8, cells := 2, slots := 10, locals := 125 } : Room)) (fun aA uU => aA = #[(.ref lg), (.int (1 : Int32)), (.ref c0)] ∧ Z.Warmed39 uU.vm ∧ uU.heap = h0) (fun _ _ _ _ _ => True) (fun _ uU oO uU' => ∃ vV lL, oO = .returned vV ∧ Q_ccharge1 Z lg c0 sp ks rm kr s0 s1 r0 r1 xs xr xc wz h0 n0 vV uU'.heap lL ∧ FrameEnd uU oO uU' lL ({ frames := 8, cells := 2, slots := 10, locals := 125 } : Room).cells ({ frames := 8, cells := 2, slots := 10, locals := 125 } : Room).slots) := by
  refine MetFree.of_bodySF (plainFor_of_name pn_com_example_slotwright_slotwright_Ledger) hisR ?_
  intro p e s m args below meth c s₁ Bd hml0 hP hK
  obtain ⟨rfl, hZ, hh⟩ := hP
  have hx := Bd.exec
  have hby := Bd.bytes
  have hml : c.maxLocals = 3 := hml0
  have hown : s.vm.findClass "com/example/slotwright/slotwright/Ledger" = some m.cls := findClass_of_methodNamed Bd.named
  have hnm := (name_of_methodNamed Bd.named Bd.method).1
  have X0 : Stand p l e ({ frames := 8, cells := 2, slots := 10, locals := 125 } : Room) s m #[(.ref lg), (.int (1 : Int32)), (.ref c0)] below meth c s₁ [] 0 0 := Stand.of_body Bd
  have e0 : s₁.heap = h0 := by rw [← hh, Bd.state]; rfl
  have N0 := Fr.nil n0
  refine Rch.out (Rch.st (fun t k => castTop (ef_ccharge1 m lg c0 sp ks rm kr s0 s1 r0 r1 xs xr xc wz) k) ?_)
  show Rch p.tables e below _ (s₁.setTop (mkF m 0 #[.val (.ref lg), .val (.int (1 : Int32)), .val (.ref c0)] []))
  refine Rch.st (fun _ hr => XS.aloadN X0.here hx rfl (hb hby d25_0) rfl rfl hr) ?_
  obtain ⟨T1, X1, e1, st1⟩ := getF X0 hx hZ hown (host := "") (Or.inl (own_w hw 110 rfl)) Via.refl e0 zP2 (g := (mkF m 1 #[.val (.ref lg), .val (.int (1 : Int32)), .val (.ref c0)] [(.ref lg)])) rfl rfl (hb hby d25_1)
  refine Rch.st st1 ?_
  refine Rch.st (fun _ hr => XS.iloadN X1.here hx rfl (hb hby d25_4) rfl hr) ?_
  refine Rch.st (fun _ hr => XS.aloadN X1.here hx rfl (hb hby d25_5) rfl rfl hr) ?_
  show Rch p.tables e below _ (T1.setTop (mkF m 6 #[.val (.ref lg), .val (.int (1 : Int32)), .val (.ref c0)] [(.ref lg), (.int (1 : Int32)), (.ref sp)]))
  obtain ⟨T2, X2, e2, st2⟩ := getF X1 hx hZ hown (host := "") (Or.inl (own_w hw 110 rfl)) Via.refl e1 zP2 (g := (mkF m 6 #[.val (.ref lg), .val (.int (1 : Int32)), .val (.ref c0)] [(.ref lg), (.int (1 : Int32)), (.ref sp)])) rfl rfl (hb hby d25_6)
  refine Rch.st st2 ?_
  refine Rch.st (fun _ hr => XS.iloadN X2.here hx rfl (hb hby d25_9) rfl hr) ?_
  obtain ⟨cl3, Ar3, -, Sz3, Ng3, Ha3, -⟩ := id zP4
  have hin3 := inb_of (j := (1 : Int32)) Sz3 ⟨by decide, by decide⟩
  have hat3 := Ha3.at hin3 (v := (.ref s1)) rfl
  refine Rch.st (fun t hr => X2.aaload hx (j := (1 : Int32)) (v := (.ref s1)) (by rw [e2]; exact Ar3.1) (State.isArrayOf_alike hZ.alike Ar3.2.1) rfl Ar3.2.2 hin3 hat3 (g := (mkF m 10 #[.val (.ref lg), .val (.int (1 : Int32)), .val (.ref c0)] [(.int (1 : Int32)), (.ref sp), (.int (1 : Int32)), (.ref sp)])) rfl rfl (hb hby d25_10) t hr) ?_
  refine Rch.st (fun _ hr => XS.aloadN X2.here hx rfl (hb hby d25_11) rfl rfl hr) ?_
  show Rch p.tables e below _ (T2.setTop (mkF m 12 #[.val (.ref lg), .val (.int (1 : Int32)), .val (.ref c0)] [(.ref c0), (.ref s1), (.int (1 : Int32)), (.ref sp)]))
  obtain ⟨_, T4, Lc4, X4, hQ4, st4⟩ := own_callV X2 hx hZ (y := (⟨"java/math/BigDecimal", "add", "(Ljava/math/BigDecimal;)Ljava/math/BigDecimal;"⟩ : MethodName)) (z := (⟨"java/math/BigDecimal", "add", "(Ljava/math/BigDecimal;)Ljava/math/BigDecimal;"⟩ : MethodName)) hown (own_w hw 174 rfl) (own_w hw 175 rfl) (notFace_of_selects (args := #[]) (mvT hZ (own_w hw 177 rfl))) (own_w hw 177 rfl) (own_w hw 176 rfl) (own_w hw 39 rfl) (own_w hw 178 rfl) (by decide) (W := 2) (cadd l Z a0 hw [] s1 c0 xs xc wz h0 n0 zD0 zD1 zP0 zP8 zP10 h1 h3 h4 h5) (by decide) (by decide) e2 zP8.1 (by decide) (by decide) (g := (mkF m 12 #[.val (.ref lg), .val (.int (1 : Int32)), .val (.ref c0)] [(.ref c0), (.ref s1), (.int (1 : Int32)), (.ref sp)])) rfl (by rw [hml]; rfl) (argsL := [(.ref c0)]) (rest := [(.int (1 : Int32)), (.ref sp)]) (lenOf pd_17 rfl) rfl (by show 2 * 0 + _ ≤ _; exact Nat.le_of_eq rfl) (hb hby d25_12) rfl
  obtain ⟨r_4, rfl, N4q, Kp4, Op4, R4_0⟩ := hQ4
  have N4 := Fr.app N0 N4q
  refine Rch.st st4 ?_
  have K5 : Keep h0 T4.heap [sp, rm] := (Keep.refl h0 [sp, rm]).trans Kp4 all0
  have f6 : Arv Z T4.heap sp ks (.object "java/math/BigDecimal") (2 : Int32) [(.ref s0), (.ref s1)] .null := (zP4.keep Kp4 nin0)
  obtain ⟨cl7, Ar7, qk7, Sz7, Ng7, Ha7, Gf7⟩ := id f6
  have hin7 := inb_of (j := (1 : Int32)) Sz7 ⟨by decide, by decide⟩
  obtain ⟨T8, h8, X8, e8, W8, st8⟩ := stR X4 hx hZ rfl Ar7 (j := (1 : Int32)) hin7 rfl (Sto.ofV Ar7 qk7 zP6 (Ins.self R4_0.1)) (g := (mkF m 15 #[.val (.ref lg), .val (.int (1 : Int32)), .val (.ref c0)] [(.ref r_4), (.int (1 : Int32)), (.ref sp)])) rfl rfl (hb hby d25_15)
  refine Rch.st st8 ?_
  have N8 := Fr.snoc X8 N4 zP11
  have f9 : Exa Z T4.heap lg "com/example/slotwright/slotwright/Ledger" := (zP1.keep Kp4)
  have ne10 : lg ≠ sp := (Exa.neArv f9 f6 (own_w hw 92 rfl))
  have f11 : Exa Z T4.heap s1 "java/math/BigDecimal" := (zP8.1.keep Kp4)
  have ne12 : s1 ≠ sp := (Exa.neArv f11 f6 (own_w hw 200 rfl))
  have f13 : BDc Z T4.heap r1 xr (0 : Int32) := (zP9.keep Kp4 nin0)
  have ne14 : r1 ≠ sp := (Exa.neArv f13.1 f6 (own_w hw 200 rfl))
  have f15 : BDc Z T4.heap c0 xc (0 : Int32) := (zP10.keep Kp4 nin0)
  have ne16 : c0 ≠ sp := (Exa.neArv f15.1 f6 (own_w hw 200 rfl))
  have ne17 : r_4 ≠ sp := (Exa.neArv R4_0.1 f6 (own_w hw 200 rfl))
  have K18 : Keep h0 h8 [sp, rm] := K5.wr W8 (Or.inl (List.mem_of_getElem? (i := 0) rfl))
  have V8 : Arv Z h8 sp ks (.object "java/math/BigDecimal") (2 : Int32) [(.ref s0), (.ref r_4)] .null := Arv.set Ar7 qk7 Sz7 Ng7 Ha7 Gf7 rfl W8 1 rfl (Nat.le_of_ble_eq_true rfl)
  refine Rch.st (fun _ hr => XS.aloadN X8.here hx rfl (hb hby d25_16) rfl rfl hr) ?_
  have f19 : Fld Z h8 lg "com/example/slotwright/slotwright/Ledger" "remaining" "[Ljava/math/BigDecimal;" (.ref rm) := ((zP3.keep Kp4 nin0).other W8 (Or.inl ne10))
  obtain ⟨T20, X20, e20, st20⟩ := getF X8 hx hZ hown (host := "") (Or.inl (own_w hw 112 rfl)) Via.refl e8 f19 (g := (mkF m 17 #[.val (.ref lg), .val (.int (1 : Int32)), .val (.ref c0)] [(.ref lg)])) rfl rfl (hb hby d25_17)
  refine Rch.st st20 ?_
  show Rch p.tables e below _ (T20.setTop (mkF m 20 #[.val (.ref lg), .val (.int (1 : Int32)), .val (.ref c0)] [(.ref rm)]))
  refine Rch.st (fun _ hr => XS.iloadN X20.here hx rfl (hb hby d25_20) rfl hr) ?_
  refine Rch.st (fun _ hr => XS.aloadN X20.here hx rfl (hb hby d25_21) rfl rfl hr) ?_
  obtain ⟨T21, X21, e21, st21⟩ := getF X20 hx hZ hown (host := "") (Or.inl (own_w hw 112 rfl)) Via.refl e20 f19 (g := (mkF m 22 #[.val (.ref lg), .val (.int (1 : Int32)), .val (.ref c0)] [(.ref lg), (.int (1 : Int32)), (.ref rm)])) rfl rfl (hb hby d25_22)
  refine Rch.st st21 ?_
  refine Rch.st (fun _ hr => XS.iloadN X21.here hx rfl (hb hby d25_25) rfl hr) ?_
  show Rch p.tables e below _ (T21.setTop (mkF m 26 #[.val (.ref lg), .val (.int (1 : Int32)), .val (.ref c0)] [(.int (1 : Int32)), (.ref rm), (.int (1 : Int32)), (.ref rm)]))
  have f22 : Arv Z h8 rm kr (.object "java/math/BigDecimal") (2 : Int32) [(.ref r0), (.ref r1)] .null := ((zP5.keep Kp4 nin0).other W8 (Ne.symm zP13))
  obtain ⟨cl23, Ar23, -, Sz23, Ng23, Ha23, -⟩ := id f22
  have hin23 := inb_of (j := (1 : Int32)) Sz23 ⟨by decide, by decide⟩
  have hat23 := Ha23.at hin23 (v := (.ref r1)) rfl
  refine Rch.st (fun t hr => X21.aaload hx (j := (1 : Int32)) (v := (.ref r1)) (by rw [e21]; exact Ar23.1) (State.isArrayOf_alike hZ.alike Ar23.2.1) rfl Ar23.2.2 hin23 hat23 (g := (mkF m 26 #[.val (.ref lg), .val (.int (1 : Int32)), .val (.ref c0)] [(.int (1 : Int32)), (.ref rm), (.int (1 : Int32)), (.ref rm)])) rfl rfl (hb hby d25_26) t hr) ?_
  refine Rch.st (fun _ hr => XS.aloadN X21.here hx rfl (hb hby d25_27) rfl rfl hr) ?_
  have f25 : Exa Z h8 r1 "java/math/BigDecimal" := (f13.1.wr W8)
  have f26 : Old Z n0 h8 := (Op4.wr W8 zP11)
  have f27 : BDc Z h8 r1 xr (0 : Int32) := (f13.other W8 ne14)
  have f28 : BDc Z h8 c0 xc (0 : Int32) := (f15.other W8 ne16)
  obtain ⟨_, T24, Lc24, X24, hQ24, st24⟩ := own_callV X21 hx hZ (y := (⟨"java/math/BigDecimal", "subtract", "(Ljava/math/BigDecimal;)Ljava/math/BigDecimal;"⟩ : MethodName)) (z := (⟨"java/math/BigDecimal", "subtract", "(Ljava/math/BigDecimal;)Ljava/math/BigDecimal;"⟩ : MethodName)) hown (own_w hw 194 rfl) (own_w hw 195 rfl) (notFace_of_selects (args := #[]) (mvT hZ (own_w hw 197 rfl))) (own_w hw 197 rfl) (own_w hw 196 rfl) (own_w hw 39 rfl) (own_w hw 198 rfl) (by decide) (W := 2) (csub l Z a0 hw [] r1 c0 xr xc wz h8 n0 zD0 zD1 f26 f27 f28 h2 h3 h6 h7) (by decide) (by decide) e21 f25 (by decide) (by decide) (g := (mkF m 28 #[.val (.ref lg), .val (.int (1 : Int32)), .val (.ref c0)] [(.ref c0), (.ref r1), (.int (1 : Int32)), (.ref rm)])) rfl (by rw [hml]; rfl) (argsL := [(.ref c0)]) (rest := [(.int (1 : Int32)), (.ref rm)]) (lenOf pd_17 rfl) rfl (by show 2 * 0 + _ ≤ _; exact Nat.le_of_eq rfl) (hb hby d25_28) rfl
  obtain ⟨r_24, rfl, N24q, Kp24, Op24, R24_0⟩ := hQ24
  have N24 := Fr.app N8 N24q
  refine Rch.st st24 ?_
  have K29 : Keep h0 T24.heap [sp, rm] := K18.trans Kp24 all0
  have f30 : Arv Z T24.heap rm kr (.object "java/math/BigDecimal") (2 : Int32) [(.ref r0), (.ref r1)] .null := (f22.keep Kp24 nin0)
  obtain ⟨cl31, Ar31, qk31, Sz31, Ng31, Ha31, Gf31⟩ := id f30
  have hin31 := inb_of (j := (1 : Int32)) Sz31 ⟨by decide, by decide⟩
  obtain ⟨T32, h32, X32, e32, W32, st32⟩ := stR X24 hx hZ rfl Ar31 (j := (1 : Int32)) hin31 rfl (Sto.ofV Ar31 qk31 zP7 (Ins.self R24_0.1)) (g := (mkF m 31 #[.val (.ref lg), .val (.int (1 : Int32)), .val (.ref c0)] [(.ref r_24), (.int (1 : Int32)), (.ref rm)])) rfl rfl (hb hby d25_31)
  refine Rch.st st32 ?_
  have N32 := Fr.snoc X32 N24 zP12
  have f33 : Exa Z T24.heap lg "com/example/slotwright/slotwright/Ledger" := ((f9.wr W8).keep Kp24)
  have ne34 : lg ≠ rm := (Exa.neArv f33 f30 (own_w hw 92 rfl))
  have f35 : Exa Z T24.heap s1 "java/math/BigDecimal" := ((f11.wr W8).keep Kp24)
  have ne36 : s1 ≠ rm := (Exa.neArv f35 f30 (own_w hw 200 rfl))
  have f37 : Exa Z T24.heap r1 "java/math/BigDecimal" := (f25.keep Kp24)
  have ne38 : r1 ≠ rm := (Exa.neArv f37 f30 (own_w hw 200 rfl))
  have f39 : Exa Z T24.heap c0 "java/math/BigDecimal" := ((f15.1.wr W8).keep Kp24)
  have ne40 : c0 ≠ rm := (Exa.neArv f39 f30 (own_w hw 200 rfl))
  have f41 : Exa Z T24.heap r_4 "java/math/BigDecimal" := ((R4_0.1.wr W8).keep Kp24)
  have ne42 : r_4 ≠ rm := (Exa.neArv f41 f30 (own_w hw 200 rfl))
  have ne43 : r_24 ≠ rm := (Exa.neArv R24_0.1 f30 (own_w hw 200 rfl))
  have K44 : Keep h0 h32 [sp, rm] := K29.wr W32 (Or.inl (List.mem_of_getElem? (i := 1) rfl))
  have V32 : Arv Z h32 rm kr (.object "java/math/BigDecimal") (2 : Int32) [(.ref r0), (.ref r_24)] .null := Arv.set Ar31 qk31 Sz31 Ng31 Ha31 Gf31 rfl W32 1 rfl (Nat.le_of_ble_eq_true rfl)
  show Rch p.tables e below _ (T32.setTop (mkF m 32 #[.val (.ref lg), .val (.int (1 : Int32)), .val (.ref c0)] []))
  obtain ⟨fs, hr, hrun, hended, hW, hsame⟩ := X32.leave (v := none) (fun _ => rfl)
  have f45 : Old Z n0 h32 := (Op24.wr W32 zP12)
  have f46 : Arv Z h32 sp ks (.object "java/math/BigDecimal") (2 : Int32) [(.ref s0), (.ref r_4)] .null := ((V8.keep Kp24 nin0).other W32 zP13)
  have f47 : BDc Z h32 r_4 (xs + xc) (0 : Int32) := (((R4_0.other W8 ne17).keep Kp24 nin0).other W32 ne42)
  have f48 : BDc Z h32 r_24 (xr + (-xc)) (0 : Int32) := (R24_0.other W32 ne43)
  refine Rch.fin (u := T32.setFrames fs) (X32.returnOut hx Bd.returns (hb hby d25_32) hr) ⟨_, hrun, hended, _, _, rfl, ?_, ⟨_, rfl⟩, hW, hsame.mono (by decide) (by decide)⟩
  show Q_ccharge1 Z lg c0 sp ks rm kr s0 s1 r0 r1 xs xr xc wz h0 n0 _ T32.heap _
  rw [e32]
  exact ⟨r_4, r_24, rfl, N32, K44, f45, f46, V32, f47, f48⟩
def own_over (x y : Int64) : Int32 := if y < x then (1 : Int32) else (0 : Int32)
theorem own_sg_lt (x : Int64) : own_sg x < (0 : Int32) ↔ x < (0 : Int64) := by
  have h1 := c_lshr x 63 63 (by decide)
  have h2 := c_lushr (-x) 63 63 (by decide) (by decide)
  have hr := rng64 x
  have hn := rng64 (-x)
  have e0 : (0 : Int32).toInt = 0 := rfl
  have e1 : (0 : Int64).toInt = 0 := rfl
  have e2 : (-1 : Int64).toInt = -1 := by decide
  unfold own_sg
  generalize hA : (x >>> ((63 : Int32) &&& 0x3f).toInt64) = A at *
  generalize hB : ((((-x)).toUInt64 >>> ((63 : Int32) &&& 0x3f).toInt64.toUInt64).toInt64) = B at *
  rw [Int32.lt_iff_toInt_lt, Int64.lt_iff_toInt_lt, e0, e1]
  by_cases hx : x.toInt < 0
  · have hA1 : A = -1 := Int64.toInt_inj.mp (by rw [h1, e2]; omega)
    have hor : A ||| B = -1 := by
      rw [hA1]
      apply Int64.toBitVec_inj.mp
      rw [Int64.toBitVec_or]
      exact BitVec.allOnes_or
    rw [hor]
    exact ⟨fun _ => hx, fun _ => by decide⟩
  · have hA0 : A = 0 := Int64.toInt_inj.mp (by rw [h1, e1]; omega)
    have hor : A ||| B = B := by rw [hA0]; exact Int64.zero_or
    rw [hor]
    have hB2 : B.toInt32.toInt = B.toInt := Jvm.Free.XT.narrowInt ⟨by omega, by omega⟩
    rw [hB2]
    exact ⟨fun q => by omega, fun q => absurd q hx⟩
theorem own_cmp {X0 X1 S0 S1 B0 B1 : Int64} (e0 : X0.toInt = B0.toInt - S0.toInt) (e1 : X1.toInt = B1.toInt - S1.toInt) : own_ov X0 X1 = (own_over S0 B0) + (own_over S1 B1) := by
  have a0 : (own_sg X0 < (0 : Int32)) = (B0 < S0) := by rw [own_sg_lt, Int64.lt_iff_toInt_lt, Int64.lt_iff_toInt_lt, e0]; have : (0 : Int64).toInt = 0 := rfl; apply propext; omega
  have a1 : (own_sg X1 < (0 : Int32)) = (B1 < S1) := by rw [own_sg_lt, Int64.lt_iff_toInt_lt, Int64.lt_iff_toInt_lt, e1]; have : (0 : Int64).toInt = 0 := rfl; apply propext; omega
  unfold own_ov own_over
  simp only [a0, a1]
theorem own_inv0 (x : Int64) : x.toInt = x.toInt - (0 : Int64).toInt := by
  have : (0 : Int64).toInt = 0 := rfl
  omega
theorem own_inv {X B S c : Int64} (h : X.toInt = B.toInt - S.toInt) (ts : (S + c).toInt = S.toInt + c.toInt) (tn : (-c).toInt = -c.toInt) (tr : (X + (-c)).toInt = X.toInt + (-c).toInt) : (X + (-c)).toInt = B.toInt - (S + c).toInt := by
  rw [tr, ts, tn, h]; omega
theorem d24_0 : decode method_2_code 0 = .ok (.lload_n 0, 1) := by decide +kernel
theorem d24_1 : decode method_2_code 1 = .ok (.lload_n 2, 1) := by decide +kernel
theorem d24_2 : decode method_2_code 2 = .ok (.lcmp, 1) := by decide +kernel
theorem d24_3 : decode method_2_code 3 = .ok (.ifCond .le 7, 3) := by decide +kernel
theorem d24_6 : decode method_2_code 6 = .ok (.iconst 1, 1) := by decide +kernel
theorem d24_7 : decode method_2_code 7 = .ok (.goto 4, 3) := by decide +kernel
theorem d24_11 : decode method_2_code 11 = .ok (.ireturn, 1) := by decide +kernel
theorem d24_10 : decode method_2_code 10 = .ok (.iconst 0, 1) := by decide +kernel
def Q_cov (Z : State) (x : Int64) (y : Int64) (h0 : Heap) (n0 : Nat) (v : Option Value) (h : Heap) (L : List Loc) : Prop := v = some (.int (own_over x y)) ∧ Fr n0 L ∧ h = h0
theorem pn_com_example_slotwright_slotwright_LedgerOverspentPinLaw : plainName "com/example/slotwright/slotwright/LedgerOverspentPinLaw" = true := by first | (simp [plainName, overriddenIn]; done) | decide +kernel
theorem ef_cov (m : MethodId) (x : Int64) (y : Int64) : entryFrame m #[(.long x), (.long y)] 4 = mkF m 0 #[.val (.long x), .second, .val (.long y), .second] [] := by first | (simp [entryFrame, mkF, argsToLocals, Value.category]; done) | rfl
set_option maxRecDepth 65536 in
set_option maxHeartbeats 40000000 in
theorem cov (l : Launch) (Z : State) (a0 : Array Value) (hw : ∀ d ∈ tables_1, d.before a0 Z = true) (ws : List Jvm.Cond) (x : Int64) (y : Int64) (h0 : Heap) (n0 : Nat) :
    MetFree l (⟨"com/example/slotwright/slotwright/LedgerOverspentPinLaw", "over", "(JJ)I"⟩ : MethodName) (head1 (Jvm.Cond.code (⟨"com/example/slotwright/slotwright/LedgerOverspentPinLaw", "over", "(JJ)I"⟩ : MethodName) method_2_code 4 (some .int) :: ws) ({ frames := 0, cells := 0, slots := 0, locals := 0 } : Room)) (fun aA uU => aA = #[(.long x), (.long y)] ∧ Z.Warmed39 uU.vm ∧ uU.heap = h0) (fun _ _ _ _ _ => True) (fun _ uU oO uU' => ∃ vV lL, oO = .returned vV ∧ Q_cov Z x y h0 n0 vV uU'.heap lL ∧ FrameEnd uU oO uU' lL ({ frames := 0, cells := 0, slots := 0, locals := 0 } : Room).cells ({ frames := 0, cells := 0, slots := 0, locals := 0 } : Room).slots) := by
  refine MetFree.of_bodySF (plainFor_of_name pn_com_example_slotwright_slotwright_LedgerOverspentPinLaw) hisR ?_
  intro p e s m args below meth c s₁ Bd hml0 hP hK
  obtain ⟨rfl, hZ, hh⟩ := hP
  have hx := Bd.exec
  have hby := Bd.bytes
  have hml : c.maxLocals = 4 := hml0
  have hown : s.vm.findClass "com/example/slotwright/slotwright/LedgerOverspentPinLaw" = some m.cls := findClass_of_methodNamed Bd.named
  have hnm := (name_of_methodNamed Bd.named Bd.method).1
  have X0 : Stand p l e ({ frames := 0, cells := 0, slots := 0, locals := 0 } : Room) s m #[(.long x), (.long y)] below meth c s₁ [] 0 0 := Stand.of_body Bd
  have e0 : s₁.heap = h0 := by rw [← hh, Bd.state]; rfl
  have N0 := Fr.nil n0
  refine Rch.out (Rch.st (fun t k => castTop (ef_cov m x y) k) ?_)
  show Rch p.tables e below _ (s₁.setTop (mkF m 0 #[.val (.long x), .second, .val (.long y), .second] []))
  refine Rch.st (fun _ hr => XS.lloadN X0.here hx rfl (hb hby d24_0) rfl hr) ?_
  refine Rch.st (fun _ hr => XS.lloadN X0.here hx rfl (hb hby d24_1) rfl hr) ?_
  refine Rch.st (fun _ hr => XS.lcmp X0.here hx rfl (hb hby d24_2) rfl hr) ?_
  by_cases hc1 : y < x
  · refine Rch.st (fun _ hr => XS.ifNo X0.here hx rfl (hb hby d24_3) rfl ((if0 _ _).trans (tlt ((lw_gt _ _).mpr hc1)).2.2.2) hr) ?_
    show Rch p.tables e below _ (s₁.setTop (mkF m 6 #[.val (.long x), .second, .val (.long y), .second] []))
    refine Rch.st (fun _ hr => XS.iconst X0.here hx rfl (hb hby d24_6) hr) ?_
    refine Rch.st (fun _ hr => XS.goto X0.here hx rfl (pc0 := 7) (pc' := 11) rfl (hb hby d24_7) (by decide) (by decide) hr) ?_
    obtain ⟨fs, hr, hrun, hended, hW, hsame⟩ := X0.leave (v := some (.int (1 : Int32))) (fun h => by rw [Bd.returns] at h; cases h)
    refine Rch.fin (u := s₁.setFrames fs) (own_retI X0 hx Bd.returns (hb hby d24_11) hr) ⟨_, hrun, hended, _, _, rfl, ?_, ⟨_, rfl⟩, hW, hsame.mono (by decide) (by decide)⟩
    show Q_cov Z x y h0 n0 _ s₁.heap _
    refine ⟨?_, N0, e0⟩
    · unfold own_over; rw [if_pos hc1]
  · refine Rch.st (fun _ hr => XS.ifYes X0.here hx rfl (pc0 := 3) (pc' := 10) rfl (hb hby d24_3) rfl ((if0 _ _).trans (flt (mt (lw_gt _ _).mp hc1)).2.2.2) (by decide) (by decide) hr) ?_
    show Rch p.tables e below _ (s₁.setTop (mkF m 10 #[.val (.long x), .second, .val (.long y), .second] []))
    refine Rch.st (fun _ hr => XS.iconst X0.here hx rfl (hb hby d24_10) hr) ?_
    obtain ⟨fs, hr, hrun, hended, hW, hsame⟩ := X0.leave (v := some (.int (0 : Int32))) (fun h => by rw [Bd.returns] at h; cases h)
    refine Rch.fin (u := s₁.setFrames fs) (own_retI X0 hx Bd.returns (hb hby d24_11) hr) ⟨_, hrun, hended, _, _, rfl, ?_, ⟨_, rfl⟩, hW, hsame.mono (by decide) (by decide)⟩
    show Q_cov Z x y h0 n0 _ s₁.heap _
    refine ⟨?_, N0, e0⟩
    · unfold own_over; rw [if_neg hc1]
theorem pd_18 : parseMethodDescriptor "(Ljava/lang/String;Ljava/math/BigDecimal;)V" = some ⟨[(.object "java/lang/String"), (.object "java/math/BigDecimal")], none⟩ := by decide +kernel
theorem pd_19 : parseMethodDescriptor "(Ljava/lang/Object;)Z" = some ⟨[(.object "java/lang/Object")], some .boolean⟩ := by decide +kernel
theorem pd_20 : parseMethodDescriptor "(Ljava/util/List;)V" = some ⟨[(.object "java/util/List")], none⟩ := by decide +kernel
theorem pd_21 : parseMethodDescriptor "(JJ)I" = some ⟨[.long, .long], some .int⟩ := by decide +kernel
theorem pd_22 : parseMethodDescriptor "(ILjava/math/BigDecimal;)V" = some ⟨[.int, (.object "java/math/BigDecimal")], none⟩ := by decide +kernel
def Q_claw (Z : State) (p0 : Int32) (p1 : Int32) (p2 : Int32) (p3 : Int32) (p4 : Int32) (p5 : Int32) (wz : Addr) (de : Addr) (kde : ClassId) (zz : Addr) (h0 : Heap) (n0 : Nat) (v : Option Value) (h : Heap) (L : List Loc) : Prop := v = some (.int (1 : Int32)) ∧ Fr n0 L ∧ Keep h0 h [] ∧ Old Z n0 h
theorem ef_claw (m : MethodId) (p0 : Int32) (p1 : Int32) (p2 : Int32) (p3 : Int32) (p4 : Int32) (p5 : Int32) (wz : Addr) (de : Addr) (kde : ClassId) (zz : Addr) : entryFrame m #[(.int p0), (.int p1), (.int p2), (.int p3), (.int p4), (.int p5)] maxLocals = mkF m 0 #[.val (.int p0), .val (.int p1), .val (.int p2), .val (.int p3), .val (.int p4), .val (.int p5), .unset, .unset, .unset, .unset, .unset, .unset, .unset, .unset, .unset, .unset, .unset, .unset, .unset, .unset, .unset] [] := by first | (simp [entryFrame, mkF, argsToLocals, Value.category, maxLocals]; done) | rfl
set_option maxRecDepth 65536 in
set_option maxHeartbeats 40000000 in
theorem claw (l : Launch) (Z : State) (a0 : Array Value) (hw : ∀ d ∈ tables_1, d.before a0 Z = true) (ws : List Jvm.Cond) (p0 : Int32) (p1 : Int32) (p2 : Int32) (p3 : Int32) (p4 : Int32) (p5 : Int32) (wz : Addr) (de : Addr) (kde : ClassId) (zz : Addr) (h0 : Heap) (n0 : Nat) (zD0 : Sta Z Z.heap "java/math/BigDecimal" "ZERO_THROUGH_TEN" "[Ljava/math/BigDecimal;" (.ref wz)) (zD1 : ZTab Z Z.heap wz) (zD2 : Sta Z Z.heap "java/util/ArrayList" "DEFAULTCAPACITY_EMPTY_ELEMENTDATA" "[Ljava/lang/Object;" (.ref de)) (zD3 : Arv Z Z.heap de kde (.object "java/lang/Object") (0 : Int32) [] .null) (zD4 : Sta Z Z.heap "java/math/BigDecimal" "ZERO" "Ljava/math/BigDecimal;" (.ref zz)) (zD5 : BDc Z Z.heap zz (0 : Int64) (0 : Int32)) (zP0 : Old Z n0 h0) :
    MetFree l x (head1 (Jvm.Cond.code x code maxLocals ret :: ws) room_1) (fun aA uU => aA = #[(.int p0), (.int p1), (.int p2), (.int p3), (.int p4), (.int p5)] ∧ Z.Warmed39 uU.vm ∧ uU.heap = h0) (fun _ _ _ _ _ => True) (fun _ uU oO uU' => ∃ vV lL, oO = .returned vV ∧ Q_claw Z p0 p1 p2 p3 p4 p5 wz de kde zz h0 n0 vV uU'.heap lL ∧ ReturnedEndW uU oO uU' lL room_1.cells room_1.slots) := by
  refine MetFree.of_bodySF (plainFor_of_name pn_com_example_slotwright_slotwright_LedgerOverspentPinLaw) hisR ?_
  intro p e s m args below meth c s₁ Bd hml0 hP hK
  obtain ⟨rfl, hZ, hh⟩ := hP
  have hx := Bd.exec
  have hby := Bd.bytes
  have hml : c.maxLocals = 21 := hml0
  have hown : s.vm.findClass "com/example/slotwright/slotwright/LedgerOverspentPinLaw" = some m.cls := findClass_of_methodNamed Bd.named
  have hnm := (name_of_methodNamed Bd.named Bd.method).1
  have X0 : Stand p l e room_1 s m #[(.int p0), (.int p1), (.int p2), (.int p3), (.int p4), (.int p5)] below meth c s₁ [] 0 0 := Stand.of_body Bd
  have e0 : s₁.heap = h0 := by rw [← hh, Bd.state]; rfl
  have N0 := Fr.nil n0
  have hwS : ∀ a ∈ Bundle.stringAtoms, a.before a0 Z = true := fun d hd => hw d ((by decide +kernel : ∀ d ∈ Bundle.stringAtoms, d ∈ tables_1) d hd)
  refine Rch.out (Rch.st (fun t k => castTop (ef_claw m p0 p1 p2 p3 p4 p5 wz de kde zz) k) ?_)
  show Rch p.tables e below _ (s₁.setTop (mkF m 0 #[.val (.int p0), .val (.int p1), .val (.int p2), .val (.int p3), .val (.int p4), .val (.int p5), .unset, .unset, .unset, .unset, .unset, .unset, .unset, .unset, .unset, .unset, .unset, .unset, .unset, .unset, .unset] []))
  obtain ⟨T1, h1, X1, e1, E1, A1, D1, -, st1⟩ := newO X0 hx hZ hown (own_w hw 0 rfl) (own_w hw 1 rfl) (own_w hw 2 rfl) e0 (g := (mkF m 0 #[.val (.int p0), .val (.int p1), .val (.int p2), .val (.int p3), .val (.int p4), .val (.int p5), .unset, .unset, .unset, .unset, .unset, .unset, .unset, .unset, .unset, .unset, .unset, .unset, .unset, .unset, .unset] [])) rfl (hb hby at_0) (by decide) (by decide)
  obtain ⟨b1, g1⟩ : ∃ z, z = h0.size := ⟨_, rfl⟩
  rw [← g1] at A1 D1 st1
  refine Rch.st st1 ?_
  have q1 : h0.size ≤ b1 := Nat.le_of_eq g1.symm
  have g_b1 : n0 ≤ b1 := Nat.le_trans (Nat.le_trans (Nat.le_of_eq zP0.1.symm) zP0.2.1) q1
  have sz_b1 : h0.size ≤ b1 := Nat.le_trans (Keep.refl h0 []).1 q1
  have K2 : Keep h0 h1 [] := (Keep.refl h0 []).ext E1
  have F1_modCount : Fld Z h1 b1 "java/util/AbstractList" "modCount" "I" (.int (0 : Int32)) := D1 (Or.inl (own_w hw 22 rfl)) (ty := .int) (by decide)
  have F1_elementData : Fld Z h1 b1 "java/util/ArrayList" "elementData" "[Ljava/lang/Object;" .null := D1 (Or.inl (own_w hw 25 rfl)) (ty := (.array (.object "java/lang/Object"))) (by decide)
  have F1_size : Fld Z h1 b1 "java/util/ArrayList" "size" "I" (.int (0 : Int32)) := D1 (Or.inl (own_w hw 67 rfl)) (ty := .int) (by decide)
  refine Rch.st (fun _ hr => XS.dup X1.here hx rfl (hb hby at_3) rfl rfl hr) ?_
  have f4 : Old Z n0 h1 := (zP0.ext E1)
  obtain ⟨_, T3, Lc3, X3, hQ3, st3⟩ := own_callI X1 hx hZ (y := (⟨"java/util/ArrayList", "<init>", "()V"⟩ : MethodName)) rfl hown (own_w hw 3 rfl) (own_w hw 4 rfl) (own_w hw 2 rfl) (own_w hw 5 rfl) (by decide) (W := 1) (calinit l Z a0 hw [] b1 de h1 n0 zD2 f4 A1 F1_elementData F1_size F1_modCount g_b1) (by decide) (by decide) e1 (by decide) (by decide) (g := (mkF m 4 #[.val (.int p0), .val (.int p1), .val (.int p2), .val (.int p3), .val (.int p4), .val (.int p5), .unset, .unset, .unset, .unset, .unset, .unset, .unset, .unset, .unset, .unset, .unset, .unset, .unset, .unset, .unset] [(.ref b1), (.ref b1)])) rfl (by rw [hml]; rfl) (a := b1) (argsL := []) (rest := [(.ref b1)]) (lenOf pd_0 rfl) rfl (by show 2 * 0 + _ ≤ _; exact Nat.le_of_eq rfl) (hb hby at_4) rfl
  obtain ⟨rfl, N3q, Kp3, Op3, R3_0, R3_1, R3_2, R3_3⟩ := hQ3
  have N3 := Fr.app N0 N3q
  refine Rch.st st3 ?_
  have K5 : Keep h0 T3.heap [] := K2.trans Kp3 (allS (Or.inr sz_b1) all0)
  refine Rch.st (fun _ hr => XS.astore X3.here hx rfl (hb hby at_7) rfl rfl (l' := #[.val (.int p0), .val (.int p1), .val (.int p2), .val (.int p3), .val (.int p4), .val (.int p5), .val (.ref b1), .unset, .unset, .unset, .unset, .unset, .unset, .unset, .unset, .unset, .unset, .unset, .unset, .unset, .unset]) rfl hr) ?_
  show Rch p.tables e below _ (T3.setTop (mkF m 9 #[.val (.int p0), .val (.int p1), .val (.int p2), .val (.int p3), .val (.int p4), .val (.int p5), .val (.ref b1), .unset, .unset, .unset, .unset, .unset, .unset, .unset, .unset, .unset, .unset, .unset, .unset, .unset, .unset] []))
  refine Rch.st (fun _ hr => XS.aload X3.here hx rfl (hb hby at_9) rfl rfl hr) ?_
  obtain ⟨T6, h6, X6, e6, E6, A6, D6, -, st6⟩ := newO X3 hx hZ hown (own_w hw 26 rfl) (own_w hw 27 rfl) (own_w hw 28 rfl) rfl (g := (mkF m 11 #[.val (.int p0), .val (.int p1), .val (.int p2), .val (.int p3), .val (.int p4), .val (.int p5), .val (.ref b1), .unset, .unset, .unset, .unset, .unset, .unset, .unset, .unset, .unset, .unset, .unset, .unset, .unset, .unset] [(.ref b1)])) rfl (hb hby at_11) (by decide) (by decide)
  obtain ⟨b6, g6⟩ : ∃ z, z = T3.heap.size := ⟨_, rfl⟩
  rw [← g6] at A6 D6 st6
  refine Rch.st st6 ?_
  have q6 : T3.heap.size ≤ b6 := Nat.le_of_eq g6.symm
  have ne7 : b1 ≠ b6 := Nat.ne_of_lt (Nat.lt_of_lt_of_le R3_3.lt q6)
  have g_b6 : n0 ≤ b6 := Nat.le_trans (Nat.le_trans (Nat.le_of_eq Op3.1.symm) Op3.2.1) q6
  have sz_b6 : h0.size ≤ b6 := Nat.le_trans K5.1 q6
  have K8 : Keep h0 h6 [] := K5.ext E6
  have F6_id : Fld Z h6 b6 "com/example/slotwright/slotwright/Market$Advertiser" "id" "Ljava/lang/String;" .null := D6 (Or.inr (own_w hw 52 rfl)) (ty := (.object "java/lang/String")) (by decide)
  have F6_budget : Fld Z h6 b6 "com/example/slotwright/slotwright/Market$Advertiser" "budget" "Ljava/math/BigDecimal;" .null := D6 (Or.inr (own_w hw 54 rfl)) (ty := (.object "java/math/BigDecimal")) (by decide)
  refine Rch.st (fun _ hr => XS.dup X6.here hx rfl (hb hby at_14) rfl rfl hr) ?_
  have hS0 : s.Since s.vm h6.size := (State.WarmedH.refl s).since _
  obtain ⟨b9, T9, h9, kk9, X9, e9, E9, hS9, hk9, hZ9, hown9, st9⟩ := ldcS (s := s) (vm0 := s.vm) X6 hx hZ hown (own_w hw 29 rfl) hwS e6 hS0 (Nat.le_refl _) (g := (mkF m 15 #[.val (.int p0), .val (.int p1), .val (.int p2), .val (.int p3), .val (.int p4), .val (.int p5), .val (.ref b1), .unset, .unset, .unset, .unset, .unset, .unset, .unset, .unset, .unset, .unset, .unset, .unset, .unset, .unset] [(.ref b6), (.ref b6), (.ref b1)])) rfl (hb hby at_15) (n := 4) (by decide) (by decide) (by decide) (by decide)
  refine Rch.st st9 ?_
  have f10 : Old Z n0 h6 := (Op3.ext E6)
  have K11 : Keep h0 h9 [] := K8.ext E9
  show Rch p.tables e below _ (T9.setTop (mkF m 17 #[.val (.int p0), .val (.int p1), .val (.int p2), .val (.int p3), .val (.int p4), .val (.int p5), .val (.ref b1), .unset, .unset, .unset, .unset, .unset, .unset, .unset, .unset, .unset, .unset, .unset, .unset, .unset, .unset] [(.ref b9), (.ref b6), (.ref b6), (.ref b1)]))
  refine Rch.st (fun _ hr => XS.iloadN X9.here hx rfl (hb hby at_17) rfl hr) ?_
  refine Rch.st (fun _ hr => XS.i2l X9.here hx rfl (hb hby at_18) rfl hr) ?_
  have f13 : Old Z n0 h9 := (f10.ext E9)
  obtain ⟨_, T12, Lc12, X12, hQ12, st12⟩ := own_callS X9 hx hZ9 (y := (⟨"java/math/BigDecimal", "valueOf", "(J)Ljava/math/BigDecimal;"⟩ : MethodName)) hown9 (own_w hw 37 rfl) (own_w hw 38 rfl) (own_w hw 39 rfl) (own_w hw 40 rfl) (by decide) (W := 4) (cvalueOf l Z a0 hw [] (p0.toInt64) wz h9 n0 zD0 zD1 f13 (Bk.ne (Bk.i2l p0) (by decide))) (by decide) (by decide) e9 (by decide) (by decide) (g := (mkF m 19 #[.val (.int p0), .val (.int p1), .val (.int p2), .val (.int p3), .val (.int p4), .val (.int p5), .val (.ref b1), .unset, .unset, .unset, .unset, .unset, .unset, .unset, .unset, .unset, .unset, .unset, .unset, .unset, .unset] [(.long (p0.toInt64)), (.ref b9), (.ref b6), (.ref b6), (.ref b1)])) rfl (by rw [hml]; rfl) (argsL := [(.long (p0.toInt64))]) (rest := [(.ref b9), (.ref b6), (.ref b6), (.ref b1)]) (lenOf pd_2 rfl) rfl (by show 2 * 0 + _ ≤ _; exact Nat.le_of_eq rfl) (hb hby at_19) rfl
  obtain ⟨r_12, rfl, N12q, Kp12, Op12, R12_0⟩ := hQ12
  have N12 := Fr.app N3 N12q
  refine Rch.st st12 ?_
  have K14 : Keep h0 T12.heap [] := K11.trans Kp12 all0
  have f16 : Exa Z T12.heap b6 "com/example/slotwright/slotwright/Market$Advertiser" := ((A6.ext E9).keep Kp12)
  have f17 : Fld Z T12.heap b6 "com/example/slotwright/slotwright/Market$Advertiser" "id" "Ljava/lang/String;" .null := ((F6_id.ext E9).keep Kp12 nin0)
  have f18 : Fld Z T12.heap b6 "com/example/slotwright/slotwright/Market$Advertiser" "budget" "Ljava/math/BigDecimal;" .null := ((F6_budget.ext E9).keep Kp12 nin0)
  obtain ⟨_, T15, Lc15, X15, hQ15, st15⟩ := own_callI X12 hx hZ9 (y := (⟨"com/example/slotwright/slotwright/Market$Advertiser", "<init>", "(Ljava/lang/String;Ljava/math/BigDecimal;)V"⟩ : MethodName)) rfl hown9 (own_w hw 42 rfl) (own_w hw 43 rfl) (own_w hw 28 rfl) (own_w hw 44 rfl) (by decide) (W := 2) (cadv l Z a0 hw [] b6 b9 r_12 T12.heap n0 Op12 f16 f17 f18 g_b6) (by decide) (by decide) rfl (by decide) (by decide) (g := (mkF m 22 #[.val (.int p0), .val (.int p1), .val (.int p2), .val (.int p3), .val (.int p4), .val (.int p5), .val (.ref b1), .unset, .unset, .unset, .unset, .unset, .unset, .unset, .unset, .unset, .unset, .unset, .unset, .unset, .unset] [(.ref r_12), (.ref b9), (.ref b6), (.ref b6), (.ref b1)])) rfl (by rw [hml]; rfl) (a := b6) (argsL := [(.ref b9), (.ref r_12)]) (rest := [(.ref b6), (.ref b1)]) (lenOf pd_18 rfl) rfl (by show 2 * 0 + _ ≤ _; exact Nat.le_of_eq rfl) (hb hby at_22) rfl
  obtain ⟨rfl, N15q, Kp15, Op15, R15_0, R15_1⟩ := hQ15
  have N15 := Fr.app N12 N15q
  refine Rch.st st15 ?_
  have ne19 : r_12 ≠ b6 := (Exa.ne R12_0.1 f16 (by decide))
  have K20 : Keep h0 T15.heap [] := K14.trans Kp15 (allS (Or.inr sz_b6) all0)
  show Rch p.tables e below _ (T15.setTop (mkF m 25 #[.val (.int p0), .val (.int p1), .val (.int p2), .val (.int p3), .val (.int p4), .val (.int p5), .val (.ref b1), .unset, .unset, .unset, .unset, .unset, .unset, .unset, .unset, .unset, .unset, .unset, .unset, .unset, .unset] [(.ref b6), (.ref b1)]))
  have f22 : Exa Z T15.heap b1 "java/util/ArrayList" := ((((R3_0.ext E6).ext E9).keep Kp12).keep Kp15)
  have f23 : Fld Z T15.heap b1 "java/util/ArrayList" "elementData" "[Ljava/lang/Object;" (.ref de) := ((((R3_1.ext E6).ext E9).keep Kp12 nin0).keep Kp15 (ninS ne7 nin0))
  have f24 : Fld Z T15.heap b1 "java/util/ArrayList" "size" "I" (.int (0 : Int32)) := ((((R3_2.ext E6).ext E9).keep Kp12 nin0).keep Kp15 (ninS ne7 nin0))
  have f25 : Fld Z T15.heap b1 "java/util/AbstractList" "modCount" "I" (.int (0 : Int32)) := ((((R3_3.ext E6).ext E9).keep Kp12 nin0).keep Kp15 (ninS ne7 nin0))
  obtain ⟨_, T21, Lc21, X21, hQ21, st21⟩ := own_callF X15 hx hZ9 (xi := (⟨"java/util/List", "add", "(Ljava/lang/Object;)Z"⟩ : MethodName)) (y := (⟨"java/util/ArrayList", "add", "(Ljava/lang/Object;)Z"⟩ : MethodName)) hown9 (own_w hw 55 rfl) (own_w hw 56 rfl) (mvT hZ9 (own_w hw 57 rfl)) (own_w hw 58 rfl) (own_w hw 59 rfl) (own_w hw 60 rfl) (own_w hw 61 rfl) (own_w hw 62 rfl) (own_w hw 2 rfl) (own_w hw 63 rfl) (by decide) (W := 0) (cadd0 l Z a0 hw [] b1 de kde (0 : Int32) b6 T15.heap n0 zD2 zD3 Op15 f22 f23 f24 f25 R15_0 g_b1 ne7) (by decide) (by decide) rfl f22 (by decide) (by decide) (g := (mkF m 25 #[.val (.int p0), .val (.int p1), .val (.int p2), .val (.int p3), .val (.int p4), .val (.int p5), .val (.ref b1), .unset, .unset, .unset, .unset, .unset, .unset, .unset, .unset, .unset, .unset, .unset, .unset, .unset, .unset] [(.ref b6), (.ref b1)])) rfl (by rw [hml]; rfl) (argsL := [(.ref b6)]) (rest := []) (lenOf pd_19 rfl) rfl (by show 2 * 0 + _ ≤ _; exact Nat.le_of_eq rfl) (hb hby at_25) rfl
  obtain ⟨d_21, kd_21, rfl, N21q, Kp21, Op21, R21_0, R21_1, R21_2, R21_3, R21_4, R21_5, R21_6⟩ := hQ21
  have N21 := Fr.app N15 N21q
  refine Rch.st st21 ?_
  have ne26 : b1 ≠ d_21 := Nat.ne_of_lt (Nat.lt_of_lt_of_le f25.lt R21_4)
  have ne27 : b6 ≠ d_21 := Nat.ne_of_lt (Nat.lt_of_lt_of_le R15_1.lt R21_4)
  have f28 : Exa Z T15.heap r_12 "java/math/BigDecimal" := (R12_0.1.keep Kp15)
  have ne29 : r_12 ≠ d_21 := Nat.ne_of_lt (Nat.lt_of_lt_of_le f28.lt R21_4)
  have g_d_21 : n0 ≤ d_21 := Nat.le_trans (Nat.le_trans (Nat.le_of_eq Op15.1.symm) Op15.2.1) R21_4
  have sz_d_21 : h0.size ≤ d_21 := Nat.le_trans K20.1 R21_4
  have ne30 : r_12 ≠ b1 := (Exa.ne f28 f22 (by decide))
  have K31 : Keep h0 T21.heap [] := K20.trans Kp21 (allS (Or.inr sz_b1) all0)
  refine Rch.st (fun _ hr => XS.pop X21.here hx rfl (hb hby at_30) rfl rfl hr) ?_
  refine Rch.st (fun _ hr => XS.aload X21.here hx rfl (hb hby at_31) rfl rfl hr) ?_
  obtain ⟨T32, h32, X32, e32, E32, A32, D32, -, st32⟩ := newO X21 hx hZ9 hown9 (own_w hw 26 rfl) (own_w hw 27 rfl) (own_w hw 28 rfl) rfl (g := (mkF m 33 #[.val (.int p0), .val (.int p1), .val (.int p2), .val (.int p3), .val (.int p4), .val (.int p5), .val (.ref b1), .unset, .unset, .unset, .unset, .unset, .unset, .unset, .unset, .unset, .unset, .unset, .unset, .unset, .unset] [(.ref b1)])) rfl (hb hby at_33) (by decide) (by decide)
  obtain ⟨b32, g32⟩ : ∃ z, z = T21.heap.size := ⟨_, rfl⟩
  rw [← g32] at A32 D32 st32
  refine Rch.st st32 ?_
  have q32 : T21.heap.size ≤ b32 := Nat.le_of_eq g32.symm
  have ne33 : b1 ≠ b32 := Nat.ne_of_lt (Nat.lt_of_lt_of_le R21_3.lt q32)
  have f34 : Fld Z T21.heap b6 "com/example/slotwright/slotwright/Market$Advertiser" "budget" "Ljava/math/BigDecimal;" (.ref r_12) := (R15_1.keep Kp21 (ninS (Ne.symm ne7) nin0))
  have ne35 : b6 ≠ b32 := Nat.ne_of_lt (Nat.lt_of_lt_of_le f34.lt q32)
  have f36 : Exa Z T21.heap r_12 "java/math/BigDecimal" := (f28.keep Kp21)
  have ne37 : r_12 ≠ b32 := Nat.ne_of_lt (Nat.lt_of_lt_of_le f36.lt q32)
  have ne38 : d_21 ≠ b32 := Nat.ne_of_lt (Nat.lt_of_lt_of_le R21_5.lt q32)
  have g_b32 : n0 ≤ b32 := Nat.le_trans (Nat.le_trans (Nat.le_of_eq Op21.1.symm) Op21.2.1) q32
  have sz_b32 : h0.size ≤ b32 := Nat.le_trans K31.1 q32
  have K39 : Keep h0 h32 [] := K31.ext E32
  have F32_id : Fld Z h32 b32 "com/example/slotwright/slotwright/Market$Advertiser" "id" "Ljava/lang/String;" .null := D32 (Or.inr (own_w hw 52 rfl)) (ty := (.object "java/lang/String")) (by decide)
  have F32_budget : Fld Z h32 b32 "com/example/slotwright/slotwright/Market$Advertiser" "budget" "Ljava/math/BigDecimal;" .null := D32 (Or.inr (own_w hw 54 rfl)) (ty := (.object "java/math/BigDecimal")) (by decide)
  show Rch p.tables e below _ (T32.setTop (mkF m 36 #[.val (.int p0), .val (.int p1), .val (.int p2), .val (.int p3), .val (.int p4), .val (.int p5), .val (.ref b1), .unset, .unset, .unset, .unset, .unset, .unset, .unset, .unset, .unset, .unset, .unset, .unset, .unset, .unset] [(.ref b32), (.ref b1)]))
  refine Rch.st (fun _ hr => XS.dup X32.here hx rfl (hb hby at_36) rfl rfl hr) ?_
  obtain ⟨b40, T40, h40, kk40, X40, e40, E40, hS40, hk40, hZ40, hown40, st40⟩ := ldcS (s := s) (vm0 := T9.vm) X32 hx hZ9 hown9 (own_w hw 90 rfl) hwS e32 hS9 (Nat.le_trans (Nat.le_trans (Nat.le_trans (Nat.le_trans hk9 Kp12.1) Kp15.1) Kp21.1) E32.1) (g := (mkF m 37 #[.val (.int p0), .val (.int p1), .val (.int p2), .val (.int p3), .val (.int p4), .val (.int p5), .val (.ref b1), .unset, .unset, .unset, .unset, .unset, .unset, .unset, .unset, .unset, .unset, .unset, .unset, .unset, .unset] [(.ref b32), (.ref b32), (.ref b1)])) rfl (hb hby at_37) (n := 4) (by decide) (by decide) (by decide) (by decide)
  refine Rch.st st40 ?_
  have f41 : Old Z n0 h32 := (Op21.ext E32)
  have K42 : Keep h0 h40 [] := K39.ext E40
  refine Rch.st (fun _ hr => XS.iloadN X40.here hx rfl (hb hby at_39) rfl hr) ?_
  refine Rch.st (fun _ hr => XS.i2l X40.here hx rfl (hb hby at_40) rfl hr) ?_
  show Rch p.tables e below _ (T40.setTop (mkF m 41 #[.val (.int p0), .val (.int p1), .val (.int p2), .val (.int p3), .val (.int p4), .val (.int p5), .val (.ref b1), .unset, .unset, .unset, .unset, .unset, .unset, .unset, .unset, .unset, .unset, .unset, .unset, .unset, .unset] [(.long (p1.toInt64)), (.ref b40), (.ref b32), (.ref b32), (.ref b1)]))
  have f44 : Old Z n0 h40 := (f41.ext E40)
  obtain ⟨_, T43, Lc43, X43, hQ43, st43⟩ := own_callS X40 hx hZ40 (y := (⟨"java/math/BigDecimal", "valueOf", "(J)Ljava/math/BigDecimal;"⟩ : MethodName)) hown40 (own_w hw 37 rfl) (own_w hw 38 rfl) (own_w hw 39 rfl) (own_w hw 40 rfl) (by decide) (W := 4) (cvalueOf l Z a0 hw [] (p1.toInt64) wz h40 n0 zD0 zD1 f44 (Bk.ne (Bk.i2l p1) (by decide))) (by decide) (by decide) e40 (by decide) (by decide) (g := (mkF m 41 #[.val (.int p0), .val (.int p1), .val (.int p2), .val (.int p3), .val (.int p4), .val (.int p5), .val (.ref b1), .unset, .unset, .unset, .unset, .unset, .unset, .unset, .unset, .unset, .unset, .unset, .unset, .unset, .unset] [(.long (p1.toInt64)), (.ref b40), (.ref b32), (.ref b32), (.ref b1)])) rfl (by rw [hml]; rfl) (argsL := [(.long (p1.toInt64))]) (rest := [(.ref b40), (.ref b32), (.ref b32), (.ref b1)]) (lenOf pd_2 rfl) rfl (by show 2 * 0 + _ ≤ _; exact Nat.le_of_eq rfl) (hb hby at_41) rfl
  obtain ⟨r_43, rfl, N43q, Kp43, Op43, R43_0⟩ := hQ43
  have N43 := Fr.app N21 N43q
  refine Rch.st st43 ?_
  have K45 : Keep h0 T43.heap [] := K42.trans Kp43 all0
  have f47 : Exa Z T43.heap b32 "com/example/slotwright/slotwright/Market$Advertiser" := ((A32.ext E40).keep Kp43)
  have f48 : Fld Z T43.heap b32 "com/example/slotwright/slotwright/Market$Advertiser" "id" "Ljava/lang/String;" .null := ((F32_id.ext E40).keep Kp43 nin0)
  have f49 : Fld Z T43.heap b32 "com/example/slotwright/slotwright/Market$Advertiser" "budget" "Ljava/math/BigDecimal;" .null := ((F32_budget.ext E40).keep Kp43 nin0)
  obtain ⟨_, T46, Lc46, X46, hQ46, st46⟩ := own_callI X43 hx hZ40 (y := (⟨"com/example/slotwright/slotwright/Market$Advertiser", "<init>", "(Ljava/lang/String;Ljava/math/BigDecimal;)V"⟩ : MethodName)) rfl hown40 (own_w hw 42 rfl) (own_w hw 43 rfl) (own_w hw 28 rfl) (own_w hw 44 rfl) (by decide) (W := 2) (cadv l Z a0 hw [] b32 b40 r_43 T43.heap n0 Op43 f47 f48 f49 g_b32) (by decide) (by decide) rfl (by decide) (by decide) (g := (mkF m 44 #[.val (.int p0), .val (.int p1), .val (.int p2), .val (.int p3), .val (.int p4), .val (.int p5), .val (.ref b1), .unset, .unset, .unset, .unset, .unset, .unset, .unset, .unset, .unset, .unset, .unset, .unset, .unset, .unset] [(.ref r_43), (.ref b40), (.ref b32), (.ref b32), (.ref b1)])) rfl (by rw [hml]; rfl) (a := b32) (argsL := [(.ref b40), (.ref r_43)]) (rest := [(.ref b32), (.ref b1)]) (lenOf pd_18 rfl) rfl (by show 2 * 0 + _ ≤ _; exact Nat.le_of_eq rfl) (hb hby at_44) rfl
  obtain ⟨rfl, N46q, Kp46, Op46, R46_0, R46_1⟩ := hQ46
  have N46 := Fr.app N43 N46q
  refine Rch.st st46 ?_
  have ne50 : r_43 ≠ b32 := (Exa.ne R43_0.1 f47 (by decide))
  have K51 : Keep h0 T46.heap [] := K45.trans Kp46 (allS (Or.inr sz_b32) all0)
  have f53 : Exa Z T46.heap b1 "java/util/ArrayList" := ((((R21_0.ext E32).ext E40).keep Kp43).keep Kp46)
  have f54 : Fld Z T46.heap b1 "java/util/ArrayList" "elementData" "[Ljava/lang/Object;" (.ref d_21) := ((((R21_1.ext E32).ext E40).keep Kp43 nin0).keep Kp46 (ninS ne33 nin0))
  have f55 : Fld Z T46.heap b1 "java/util/ArrayList" "size" "I" (.int (1 : Int32)) := ((((R21_2.ext E32).ext E40).keep Kp43 nin0).keep Kp46 (ninS ne33 nin0))
  have f56 : Fld Z T46.heap b1 "java/util/AbstractList" "modCount" "I" (.int ((0 : Int32) + (1 : Int32))) := ((((R21_3.ext E32).ext E40).keep Kp43 nin0).keep Kp46 (ninS ne33 nin0))
  have f57 : Exa Z T46.heap b6 "com/example/slotwright/slotwright/Market$Advertiser" := (((((R15_0.keep Kp21).ext E32).ext E40).keep Kp43).keep Kp46)
  have f58 : Arv Z T46.heap d_21 kd_21 (.object "java/lang/Object") (10 : Int32) [(.ref b6), .null, .null, .null, .null, .null, .null, .null, .null, .null] .null := ((((R21_5.ext E32).ext E40).keep Kp43 nin0).keep Kp46 (ninS ne38 nin0))
  have f59 : Ovr Z kd_21 "java/lang/Object" := R21_6
  obtain ⟨_, T52, Lc52, X52, hQ52, st52⟩ := own_callF X46 hx hZ40 (xi := (⟨"java/util/List", "add", "(Ljava/lang/Object;)Z"⟩ : MethodName)) (y := (⟨"java/util/ArrayList", "add", "(Ljava/lang/Object;)Z"⟩ : MethodName)) hown40 (own_w hw 55 rfl) (own_w hw 56 rfl) (mvT hZ40 (own_w hw 57 rfl)) (own_w hw 58 rfl) (own_w hw 59 rfl) (own_w hw 60 rfl) (own_w hw 61 rfl) (own_w hw 62 rfl) (own_w hw 2 rfl) (own_w hw 63 rfl) (by decide) (W := 0) (cadd1 l Z a0 hw [] b1 d_21 kd_21 ((0 : Int32) + (1 : Int32)) b6 b32 T46.heap n0 Op46 f53 f54 f55 f56 f57 R46_0 f58 f59 g_b1 g_d_21 ne26) (by decide) (by decide) rfl f53 (by decide) (by decide) (g := (mkF m 47 #[.val (.int p0), .val (.int p1), .val (.int p2), .val (.int p3), .val (.int p4), .val (.int p5), .val (.ref b1), .unset, .unset, .unset, .unset, .unset, .unset, .unset, .unset, .unset, .unset, .unset, .unset, .unset, .unset] [(.ref b32), (.ref b1)])) rfl (by rw [hml]; rfl) (argsL := [(.ref b32)]) (rest := []) (lenOf pd_19 rfl) rfl (by show 2 * 0 + _ ≤ _; exact Nat.le_of_eq rfl) (hb hby at_47) rfl
  obtain ⟨rfl, N52q, Kp52, Op52, R52_0, R52_1, R52_2, R52_3, R52_4⟩ := hQ52
  have N52 := Fr.app N46 N52q
  refine Rch.st st52 ?_
  have f60 : Exa Z T46.heap r_43 "java/math/BigDecimal" := (R43_0.1.keep Kp46)
  have ne61 : r_43 ≠ b1 := (Exa.ne f60 f53 (by decide))
  have ne62 : r_43 ≠ d_21 := (Exa.neArv f60 f58 (own_w hw 200 rfl))
  have K63 : Keep h0 T52.heap [] := K51.trans Kp52 (allS (Or.inr sz_b1) (allS (Or.inr sz_d_21) all0))
  refine Rch.st (fun _ hr => XS.pop X52.here hx rfl (hb hby at_52) rfl rfl hr) ?_
  show Rch p.tables e below _ (T52.setTop (mkF m 53 #[.val (.int p0), .val (.int p1), .val (.int p2), .val (.int p3), .val (.int p4), .val (.int p5), .val (.ref b1), .unset, .unset, .unset, .unset, .unset, .unset, .unset, .unset, .unset, .unset, .unset, .unset, .unset, .unset] []))
  obtain ⟨T64, h64, X64, e64, E64, A64, D64, -, st64⟩ := newO X52 hx hZ40 hown40 (own_w hw 91 rfl) (own_w hw 92 rfl) (own_w hw 93 rfl) rfl (g := (mkF m 53 #[.val (.int p0), .val (.int p1), .val (.int p2), .val (.int p3), .val (.int p4), .val (.int p5), .val (.ref b1), .unset, .unset, .unset, .unset, .unset, .unset, .unset, .unset, .unset, .unset, .unset, .unset, .unset, .unset] [])) rfl (hb hby at_53) (by decide) (by decide)
  obtain ⟨b64, g64⟩ : ∃ z, z = T52.heap.size := ⟨_, rfl⟩
  rw [← g64] at A64 D64 st64
  refine Rch.st st64 ?_
  have q64 : T52.heap.size ≤ b64 := Nat.le_of_eq g64.symm
  have ne65 : b1 ≠ b64 := Nat.ne_of_lt (Nat.lt_of_lt_of_le R52_3.lt q64)
  have f66 : Fld Z T52.heap b6 "com/example/slotwright/slotwright/Market$Advertiser" "budget" "Ljava/math/BigDecimal;" (.ref r_12) := (((((f34.ext E32).ext E40).keep Kp43 nin0).keep Kp46 (ninS ne35 nin0)).keep Kp52 (ninS (Ne.symm ne7) (ninS ne27 nin0)))
  have ne67 : b6 ≠ b64 := Nat.ne_of_lt (Nat.lt_of_lt_of_le f66.lt q64)
  have f68 : Exa Z T52.heap r_12 "java/math/BigDecimal" := (((((f36.ext E32).ext E40).keep Kp43).keep Kp46).keep Kp52)
  have ne69 : r_12 ≠ b64 := Nat.ne_of_lt (Nat.lt_of_lt_of_le f68.lt q64)
  have f70 : Fld Z T52.heap b32 "com/example/slotwright/slotwright/Market$Advertiser" "budget" "Ljava/math/BigDecimal;" (.ref r_43) := (R46_1.keep Kp52 (ninS (Ne.symm ne33) (ninS (Ne.symm ne38) nin0)))
  have ne71 : b32 ≠ b64 := Nat.ne_of_lt (Nat.lt_of_lt_of_le f70.lt q64)
  have f72 : Exa Z T52.heap r_43 "java/math/BigDecimal" := (f60.keep Kp52)
  have ne73 : r_43 ≠ b64 := Nat.ne_of_lt (Nat.lt_of_lt_of_le f72.lt q64)
  have ne74 : d_21 ≠ b64 := Nat.ne_of_lt (Nat.lt_of_lt_of_le R52_4.lt q64)
  have g_b64 : n0 ≤ b64 := Nat.le_trans (Nat.le_trans (Nat.le_of_eq Op52.1.symm) Op52.2.1) q64
  have sz_b64 : h0.size ≤ b64 := Nat.le_trans K63.1 q64
  have K75 : Keep h0 h64 [] := K63.ext E64
  have F64_advertisers : Fld Z h64 b64 "com/example/slotwright/slotwright/Ledger" "advertisers" "Ljava/util/List;" .null := D64 (Or.inr (own_w hw 99 rfl)) (ty := (.object "java/util/List")) (by decide)
  have F64_spent : Fld Z h64 b64 "com/example/slotwright/slotwright/Ledger" "spent" "[Ljava/math/BigDecimal;" .null := D64 (Or.inr (own_w hw 111 rfl)) (ty := (.array (.object "java/math/BigDecimal"))) (by decide)
  have F64_remaining : Fld Z h64 b64 "com/example/slotwright/slotwright/Ledger" "remaining" "[Ljava/math/BigDecimal;" .null := D64 (Or.inr (own_w hw 113 rfl)) (ty := (.array (.object "java/math/BigDecimal"))) (by decide)
  refine Rch.st (fun _ hr => XS.dup X64.here hx rfl (hb hby at_56) rfl rfl hr) ?_
  refine Rch.st (fun _ hr => XS.aload X64.here hx rfl (hb hby at_57) rfl rfl hr) ?_
  have f77 : Old Z n0 h64 := (Op52.ext E64)
  have f78 : Exa Z h64 b1 "java/util/ArrayList" := (R52_0.ext E64)
  have f79 : Fld Z h64 b1 "java/util/ArrayList" "elementData" "[Ljava/lang/Object;" (.ref d_21) := (R52_1.ext E64)
  have f80 : Fld Z h64 b1 "java/util/ArrayList" "size" "I" (.int (2 : Int32)) := (R52_2.ext E64)
  have f81 : Arv Z h64 d_21 kd_21 (.object "java/lang/Object") (10 : Int32) [(.ref b6), (.ref b32), .null, .null, .null, .null, .null, .null, .null, .null] .null := (R52_4.ext E64)
  have f82 : Exa Z h64 b6 "com/example/slotwright/slotwright/Market$Advertiser" := ((f57.keep Kp52).ext E64)
  have f83 : Fld Z h64 b6 "com/example/slotwright/slotwright/Market$Advertiser" "budget" "Ljava/math/BigDecimal;" (.ref r_12) := (f66.ext E64)
  have f84 : Exa Z h64 b32 "com/example/slotwright/slotwright/Market$Advertiser" := ((R46_0.keep Kp52).ext E64)
  have f85 : Fld Z h64 b32 "com/example/slotwright/slotwright/Market$Advertiser" "budget" "Ljava/math/BigDecimal;" (.ref r_43) := (f70.ext E64)
  have f86 : BDc Z h64 r_12 (p0.toInt64) (0 : Int32) := ((((((((R12_0.keep Kp15 (ninS ne19 nin0)).keep Kp21 (ninS ne30 nin0)).ext E32).ext E40).keep Kp43 nin0).keep Kp46 (ninS ne37 nin0)).keep Kp52 (ninS ne30 (ninS ne29 nin0))).ext E64)
  have f87 : BDc Z h64 r_43 (p1.toInt64) (0 : Int32) := (((R43_0.keep Kp46 (ninS ne50 nin0)).keep Kp52 (ninS ne61 (ninS ne62 nin0))).ext E64)
  obtain ⟨_, T76, Lc76, X76, hQ76, st76⟩ := own_callI X64 hx hZ40 (y := (⟨"com/example/slotwright/slotwright/Ledger", "<init>", "(Ljava/util/List;)V"⟩ : MethodName)) rfl hown40 (own_w hw 94 rfl) (own_w hw 95 rfl) (own_w hw 93 rfl) (own_w hw 96 rfl) (by decide) (W := 1) (cledger l Z a0 hw [] b64 b1 d_21 kd_21 b6 b32 r_12 r_43 (p0.toInt64) (p1.toInt64) zz h64 n0 zD4 zD5 f77 A64 F64_advertisers F64_spent F64_remaining g_b64 f78 f79 f80 f81 f82 f83 f84 f85 f86 f87) (by decide) (by decide) e64 (by decide) (by decide) (g := (mkF m 59 #[.val (.int p0), .val (.int p1), .val (.int p2), .val (.int p3), .val (.int p4), .val (.int p5), .val (.ref b1), .unset, .unset, .unset, .unset, .unset, .unset, .unset, .unset, .unset, .unset, .unset, .unset, .unset, .unset] [(.ref b1), (.ref b64), (.ref b64)])) rfl (by rw [hml]; rfl) (a := b64) (argsL := [(.ref b1)]) (rest := [(.ref b64)]) (lenOf pd_20 rfl) rfl (by show 2 * 0 + _ ≤ _; exact Nat.le_of_eq rfl) (hb hby at_59) rfl
  obtain ⟨sp_76, ks_76, rm_76, kr_76, rfl, N76q, Kp76, Op76, R76_0, R76_1, R76_2, R76_3, R76_4, R76_5, R76_6, R76_7, R76_8, R76_9⟩ := hQ76
  have N76 := Fr.app N52 N76q
  refine Rch.st st76 ?_
  have f88 : Fld Z h64 b1 "java/util/AbstractList" "modCount" "I" (.int (((0 : Int32) + (1 : Int32)) + (1 : Int32))) := (R52_3.ext E64)
  have ne89 : b1 ≠ sp_76 := Nat.ne_of_lt (Nat.lt_of_lt_of_le f88.lt R76_3)
  have ne90 : b6 ≠ sp_76 := Nat.ne_of_lt (Nat.lt_of_lt_of_le f83.lt R76_3)
  have f91 : Exa Z h64 r_12 "java/math/BigDecimal" := (f68.ext E64)
  have ne92 : r_12 ≠ sp_76 := Nat.ne_of_lt (Nat.lt_of_lt_of_le f91.lt R76_3)
  have ne93 : b32 ≠ sp_76 := Nat.ne_of_lt (Nat.lt_of_lt_of_le f85.lt R76_3)
  have f94 : Exa Z h64 r_43 "java/math/BigDecimal" := (f72.ext E64)
  have ne95 : r_43 ≠ sp_76 := Nat.ne_of_lt (Nat.lt_of_lt_of_le f94.lt R76_3)
  have ne96 : d_21 ≠ sp_76 := Nat.ne_of_lt (Nat.lt_of_lt_of_le f81.lt R76_3)
  have ne97 : b64 ≠ sp_76 := Nat.ne_of_lt (Nat.lt_of_lt_of_le F64_remaining.lt R76_3)
  have g_sp_76 : n0 ≤ sp_76 := Nat.le_trans (Nat.le_trans (Nat.le_of_eq f77.1.symm) f77.2.1) R76_3
  have sz_sp_76 : h0.size ≤ sp_76 := Nat.le_trans K75.1 R76_3
  have ne98 : b1 ≠ rm_76 := Nat.ne_of_lt (Nat.lt_of_lt_of_le f88.lt R76_4)
  have ne99 : b6 ≠ rm_76 := Nat.ne_of_lt (Nat.lt_of_lt_of_le f83.lt R76_4)
  have ne100 : r_12 ≠ rm_76 := Nat.ne_of_lt (Nat.lt_of_lt_of_le f91.lt R76_4)
  have ne101 : b32 ≠ rm_76 := Nat.ne_of_lt (Nat.lt_of_lt_of_le f85.lt R76_4)
  have ne102 : r_43 ≠ rm_76 := Nat.ne_of_lt (Nat.lt_of_lt_of_le f94.lt R76_4)
  have ne103 : d_21 ≠ rm_76 := Nat.ne_of_lt (Nat.lt_of_lt_of_le f81.lt R76_4)
  have ne104 : b64 ≠ rm_76 := Nat.ne_of_lt (Nat.lt_of_lt_of_le F64_remaining.lt R76_4)
  have g_rm_76 : n0 ≤ rm_76 := Nat.le_trans (Nat.le_trans (Nat.le_of_eq f77.1.symm) f77.2.1) R76_4
  have sz_rm_76 : h0.size ≤ rm_76 := Nat.le_trans K75.1 R76_4
  have K105 : Keep h0 T76.heap [] := K75.trans Kp76 (allS (Or.inr sz_b64) all0)
  show Rch p.tables e below _ (T76.setTop (mkF m 62 #[.val (.int p0), .val (.int p1), .val (.int p2), .val (.int p3), .val (.int p4), .val (.int p5), .val (.ref b1), .unset, .unset, .unset, .unset, .unset, .unset, .unset, .unset, .unset, .unset, .unset, .unset, .unset, .unset] [(.ref b64)]))
  refine Rch.st (fun _ hr => XS.astore X76.here hx rfl (hb hby at_62) rfl rfl (l' := #[.val (.int p0), .val (.int p1), .val (.int p2), .val (.int p3), .val (.int p4), .val (.int p5), .val (.ref b1), .val (.ref b64), .unset, .unset, .unset, .unset, .unset, .unset, .unset, .unset, .unset, .unset, .unset, .unset, .unset]) rfl hr) ?_
  refine Rch.st (fun _ hr => XS.iload X76.here hx rfl (hb hby at_64) rfl hr) ?_
  refine Rch.st (fun _ hr => XS.iconst X76.here hx rfl (hb hby at_66) hr) ?_
  refine Rch.st (fun _ hr => XS.iand X76.here hx rfl (hb hby at_67) rfl hr) ?_
  show Rch p.tables e below _ (T76.setTop (mkF m 68 #[.val (.int p0), .val (.int p1), .val (.int p2), .val (.int p3), .val (.int p4), .val (.int p5), .val (.ref b1), .val (.ref b64), .unset, .unset, .unset, .unset, .unset, .unset, .unset, .unset, .unset, .unset, .unset, .unset, .unset] [(.int (p5 &&& (1 : Int32)))]))
  refine Rch.st (fun _ hr => XS.istore X76.here hx rfl (hb hby at_68) rfl (l' := #[.val (.int p0), .val (.int p1), .val (.int p2), .val (.int p3), .val (.int p4), .val (.int p5), .val (.ref b1), .val (.ref b64), .val (.int (p5 &&& (1 : Int32))), .unset, .unset, .unset, .unset, .unset, .unset, .unset, .unset, .unset, .unset, .unset, .unset]) rfl hr) ?_
  refine Rch.st (fun _ hr => XS.iload X76.here hx rfl (hb hby at_70) rfl hr) ?_
  refine Rch.st (fun _ hr => XS.iconst X76.here hx rfl (hb hby at_72) hr) ?_
  refine Rch.st (fun _ hr => XS.ishr X76.here hx rfl (hb hby at_73) rfl hr) ?_
  show Rch p.tables e below _ (T76.setTop (mkF m 74 #[.val (.int p0), .val (.int p1), .val (.int p2), .val (.int p3), .val (.int p4), .val (.int p5), .val (.ref b1), .val (.ref b64), .val (.int (p5 &&& (1 : Int32))), .unset, .unset, .unset, .unset, .unset, .unset, .unset, .unset, .unset, .unset, .unset, .unset] [(.int (p5 >>> ((1 : Int32) &&& 31)))]))
  refine Rch.st (fun _ hr => XS.iconst X76.here hx rfl (hb hby at_74) hr) ?_
  refine Rch.st (fun _ hr => XS.iand X76.here hx rfl (hb hby at_75) rfl hr) ?_
  refine Rch.st (fun _ hr => XS.istore X76.here hx rfl (hb hby at_76) rfl (l' := #[.val (.int p0), .val (.int p1), .val (.int p2), .val (.int p3), .val (.int p4), .val (.int p5), .val (.ref b1), .val (.ref b64), .val (.int (p5 &&& (1 : Int32))), .val (.int ((p5 >>> ((1 : Int32) &&& 31)) &&& (1 : Int32))), .unset, .unset, .unset, .unset, .unset, .unset, .unset, .unset, .unset, .unset, .unset]) rfl hr) ?_
  refine Rch.st (fun _ hr => XS.iload X76.here hx rfl (hb hby at_78) rfl hr) ?_
  show Rch p.tables e below _ (T76.setTop (mkF m 80 #[.val (.int p0), .val (.int p1), .val (.int p2), .val (.int p3), .val (.int p4), .val (.int p5), .val (.ref b1), .val (.ref b64), .val (.int (p5 &&& (1 : Int32))), .val (.int ((p5 >>> ((1 : Int32) &&& 31)) &&& (1 : Int32))), .unset, .unset, .unset, .unset, .unset, .unset, .unset, .unset, .unset, .unset, .unset] [(.int p5)]))
  refine Rch.st (fun _ hr => XS.iconst X76.here hx rfl (hb hby at_80) hr) ?_
  refine Rch.st (fun _ hr => XS.ishr X76.here hx rfl (hb hby at_81) rfl hr) ?_
  refine Rch.st (fun _ hr => XS.iconst X76.here hx rfl (hb hby at_82) hr) ?_
  refine Rch.st (fun _ hr => XS.iand X76.here hx rfl (hb hby at_83) rfl hr) ?_
  show Rch p.tables e below _ (T76.setTop (mkF m 84 #[.val (.int p0), .val (.int p1), .val (.int p2), .val (.int p3), .val (.int p4), .val (.int p5), .val (.ref b1), .val (.ref b64), .val (.int (p5 &&& (1 : Int32))), .val (.int ((p5 >>> ((1 : Int32) &&& 31)) &&& (1 : Int32))), .unset, .unset, .unset, .unset, .unset, .unset, .unset, .unset, .unset, .unset, .unset] [(.int ((p5 >>> ((2 : Int32) &&& 31)) &&& (1 : Int32)))]))
  refine Rch.st (fun _ hr => XS.istore X76.here hx rfl (hb hby at_84) rfl (l' := #[.val (.int p0), .val (.int p1), .val (.int p2), .val (.int p3), .val (.int p4), .val (.int p5), .val (.ref b1), .val (.ref b64), .val (.int (p5 &&& (1 : Int32))), .val (.int ((p5 >>> ((1 : Int32) &&& 31)) &&& (1 : Int32))), .val (.int ((p5 >>> ((2 : Int32) &&& 31)) &&& (1 : Int32))), .unset, .unset, .unset, .unset, .unset, .unset, .unset, .unset, .unset, .unset]) rfl hr) ?_
  refine Rch.st (fun _ hr => XS.lconst X76.here hx rfl (hb hby at_86) hr) ?_
  refine Rch.st (fun _ hr => XS.lstore X76.here hx rfl (hb hby at_87) rfl (l' := #[.val (.int p0), .val (.int p1), .val (.int p2), .val (.int p3), .val (.int p4), .val (.int p5), .val (.ref b1), .val (.ref b64), .val (.int (p5 &&& (1 : Int32))), .val (.int ((p5 >>> ((1 : Int32) &&& 31)) &&& (1 : Int32))), .val (.int ((p5 >>> ((2 : Int32) &&& 31)) &&& (1 : Int32))), .val (.long (0 : Int64)), .second, .unset, .unset, .unset, .unset, .unset, .unset, .unset, .unset]) rfl hr) ?_
  refine Rch.st (fun _ hr => XS.lconst X76.here hx rfl (hb hby at_89) hr) ?_
  show Rch p.tables e below _ (T76.setTop (mkF m 90 #[.val (.int p0), .val (.int p1), .val (.int p2), .val (.int p3), .val (.int p4), .val (.int p5), .val (.ref b1), .val (.ref b64), .val (.int (p5 &&& (1 : Int32))), .val (.int ((p5 >>> ((1 : Int32) &&& 31)) &&& (1 : Int32))), .val (.int ((p5 >>> ((2 : Int32) &&& 31)) &&& (1 : Int32))), .val (.long (0 : Int64)), .second, .unset, .unset, .unset, .unset, .unset, .unset, .unset, .unset] [(.long (0 : Int64))]))
  refine Rch.st (fun _ hr => XS.lstore X76.here hx rfl (hb hby at_90) rfl (l' := #[.val (.int p0), .val (.int p1), .val (.int p2), .val (.int p3), .val (.int p4), .val (.int p5), .val (.ref b1), .val (.ref b64), .val (.int (p5 &&& (1 : Int32))), .val (.int ((p5 >>> ((1 : Int32) &&& 31)) &&& (1 : Int32))), .val (.int ((p5 >>> ((2 : Int32) &&& 31)) &&& (1 : Int32))), .val (.long (0 : Int64)), .second, .val (.long (0 : Int64)), .second, .unset, .unset, .unset, .unset, .unset, .unset]) rfl hr) ?_
  refine Rch.st (fun _ hr => XS.aload X76.here hx rfl (hb hby at_92) rfl rfl hr) ?_
  have f107 : BDc Z T76.heap r_12 (p0.toInt64) (0 : Int32) := (f86.keep Kp76 (ninS ne69 nin0))
  have f108 : BDc Z T76.heap r_43 (p1.toInt64) (0 : Int32) := (f87.keep Kp76 (ninS ne73 nin0))
  obtain ⟨_, T106, Lc106, X106, hQ106, st106⟩ := own_callV X76 hx hZ40 (y := (⟨"com/example/slotwright/slotwright/Ledger", "overspent", "()I"⟩ : MethodName)) (z := (⟨"com/example/slotwright/slotwright/Ledger", "overspent", "()I"⟩ : MethodName)) hown40 (own_w hw 148 rfl) (own_w hw 149 rfl) (notFace_of_selects (args := #[]) (mvT hZ40 (own_w hw 151 rfl))) (own_w hw 151 rfl) (own_w hw 150 rfl) (own_w hw 93 rfl) (own_w hw 152 rfl) (by decide) (W := 0) (cover l Z a0 hw [] b64 rm_76 kr_76 r_12 r_43 (p0.toInt64) (p1.toInt64) T76.heap n0 R76_2 R76_6 f107 f108 (Bk.ne (Bk.i2l p0) (by decide)) (Bk.ne (Bk.i2l p1) (by decide))) (by decide) (by decide) rfl R76_0 (by decide) (by decide) (g := (mkF m 94 #[.val (.int p0), .val (.int p1), .val (.int p2), .val (.int p3), .val (.int p4), .val (.int p5), .val (.ref b1), .val (.ref b64), .val (.int (p5 &&& (1 : Int32))), .val (.int ((p5 >>> ((1 : Int32) &&& 31)) &&& (1 : Int32))), .val (.int ((p5 >>> ((2 : Int32) &&& 31)) &&& (1 : Int32))), .val (.long (0 : Int64)), .second, .val (.long (0 : Int64)), .second, .unset, .unset, .unset, .unset, .unset, .unset] [(.ref b64)])) rfl (by rw [hml]; rfl) (argsL := []) (rest := []) (lenOf pd_14 rfl) rfl (by show 2 * 0 + _ ≤ _; exact Nat.le_of_eq rfl) (hb hby at_94) rfl
  obtain ⟨rfl, N106q, e106⟩ := hQ106
  have N106 := Fr.app N76 N106q
  refine Rch.st st106 ?_
  refine Rch.st (fun _ hr => XS.istore X106.here hx rfl (hb hby at_97) rfl (l' := #[.val (.int p0), .val (.int p1), .val (.int p2), .val (.int p3), .val (.int p4), .val (.int p5), .val (.ref b1), .val (.ref b64), .val (.int (p5 &&& (1 : Int32))), .val (.int ((p5 >>> ((1 : Int32) &&& 31)) &&& (1 : Int32))), .val (.int ((p5 >>> ((2 : Int32) &&& 31)) &&& (1 : Int32))), .val (.long (0 : Int64)), .second, .val (.long (0 : Int64)), .second, .val (.int (own_ov (p0.toInt64) (p1.toInt64))), .unset, .unset, .unset, .unset, .unset]) rfl hr) ?_
  show Rch p.tables e below _ (T106.setTop (mkF m 99 #[.val (.int p0), .val (.int p1), .val (.int p2), .val (.int p3), .val (.int p4), .val (.int p5), .val (.ref b1), .val (.ref b64), .val (.int (p5 &&& (1 : Int32))), .val (.int ((p5 >>> ((1 : Int32) &&& 31)) &&& (1 : Int32))), .val (.int ((p5 >>> ((2 : Int32) &&& 31)) &&& (1 : Int32))), .val (.long (0 : Int64)), .second, .val (.long (0 : Int64)), .second, .val (.int (own_ov (p0.toInt64) (p1.toInt64))), .unset, .unset, .unset, .unset, .unset] []))
  refine Rch.st (fun _ hr => XS.iload X106.here hx rfl (hb hby at_99) rfl hr) ?_
  refine Rch.st (fun _ hr => XS.lload X106.here hx rfl (hb hby at_101) rfl hr) ?_
  refine Rch.st (fun _ hr => XS.iloadN X106.here hx rfl (hb hby at_103) rfl hr) ?_
  refine Rch.st (fun _ hr => XS.i2l X106.here hx rfl (hb hby at_104) rfl hr) ?_
  show Rch p.tables e below _ (T106.setTop (mkF m 105 #[.val (.int p0), .val (.int p1), .val (.int p2), .val (.int p3), .val (.int p4), .val (.int p5), .val (.ref b1), .val (.ref b64), .val (.int (p5 &&& (1 : Int32))), .val (.int ((p5 >>> ((1 : Int32) &&& 31)) &&& (1 : Int32))), .val (.int ((p5 >>> ((2 : Int32) &&& 31)) &&& (1 : Int32))), .val (.long (0 : Int64)), .second, .val (.long (0 : Int64)), .second, .val (.int (own_ov (p0.toInt64) (p1.toInt64))), .unset, .unset, .unset, .unset, .unset] [(.long (p0.toInt64)), (.long (0 : Int64)), (.int (own_ov (p0.toInt64) (p1.toInt64)))]))
  obtain ⟨_, T109, Lc109, X109, hQ109, st109⟩ := own_callS X106 hx hZ40 (y := (⟨"com/example/slotwright/slotwright/LedgerOverspentPinLaw", "over", "(JJ)I"⟩ : MethodName)) hown40 (own_w hw 165 rfl) (own_w hw 166 rfl) (own_w hw 167 rfl) (own_w hw 168 rfl) (by decide) (W := 1) (cov l Z a0 hw [] (0 : Int64) (p0.toInt64) T76.heap n0 ) (by decide) (by decide) e106 (by decide) (by decide) (g := (mkF m 105 #[.val (.int p0), .val (.int p1), .val (.int p2), .val (.int p3), .val (.int p4), .val (.int p5), .val (.ref b1), .val (.ref b64), .val (.int (p5 &&& (1 : Int32))), .val (.int ((p5 >>> ((1 : Int32) &&& 31)) &&& (1 : Int32))), .val (.int ((p5 >>> ((2 : Int32) &&& 31)) &&& (1 : Int32))), .val (.long (0 : Int64)), .second, .val (.long (0 : Int64)), .second, .val (.int (own_ov (p0.toInt64) (p1.toInt64))), .unset, .unset, .unset, .unset, .unset] [(.long (p0.toInt64)), (.long (0 : Int64)), (.int (own_ov (p0.toInt64) (p1.toInt64)))])) rfl (by rw [hml]; rfl) (argsL := [(.long (0 : Int64)), (.long (p0.toInt64))]) (rest := [(.int (own_ov (p0.toInt64) (p1.toInt64)))]) (lenOf pd_21 rfl) rfl (by show 2 * 0 + _ ≤ _; exact Nat.le_of_eq rfl) (hb hby at_105) rfl
  obtain ⟨rfl, N109q, e109⟩ := hQ109
  have N109 := Fr.app N106 N109q
  refine Rch.st st109 ?_
  refine Rch.st (fun _ hr => XS.lload X109.here hx rfl (hb hby at_108) rfl hr) ?_
  refine Rch.st (fun _ hr => XS.iloadN X109.here hx rfl (hb hby at_110) rfl hr) ?_
  refine Rch.st (fun _ hr => XS.i2l X109.here hx rfl (hb hby at_111) rfl hr) ?_
  show Rch p.tables e below _ (T109.setTop (mkF m 112 #[.val (.int p0), .val (.int p1), .val (.int p2), .val (.int p3), .val (.int p4), .val (.int p5), .val (.ref b1), .val (.ref b64), .val (.int (p5 &&& (1 : Int32))), .val (.int ((p5 >>> ((1 : Int32) &&& 31)) &&& (1 : Int32))), .val (.int ((p5 >>> ((2 : Int32) &&& 31)) &&& (1 : Int32))), .val (.long (0 : Int64)), .second, .val (.long (0 : Int64)), .second, .val (.int (own_ov (p0.toInt64) (p1.toInt64))), .unset, .unset, .unset, .unset, .unset] [(.long (p1.toInt64)), (.long (0 : Int64)), (.int (own_over (0 : Int64) (p0.toInt64))), (.int (own_ov (p0.toInt64) (p1.toInt64)))]))
  obtain ⟨_, T110, Lc110, X110, hQ110, st110⟩ := own_callS X109 hx hZ40 (y := (⟨"com/example/slotwright/slotwright/LedgerOverspentPinLaw", "over", "(JJ)I"⟩ : MethodName)) hown40 (own_w hw 165 rfl) (own_w hw 166 rfl) (own_w hw 167 rfl) (own_w hw 168 rfl) (by decide) (W := 2) (cov l Z a0 hw [] (0 : Int64) (p1.toInt64) T76.heap n0 ) (by decide) (by decide) e109 (by decide) (by decide) (g := (mkF m 112 #[.val (.int p0), .val (.int p1), .val (.int p2), .val (.int p3), .val (.int p4), .val (.int p5), .val (.ref b1), .val (.ref b64), .val (.int (p5 &&& (1 : Int32))), .val (.int ((p5 >>> ((1 : Int32) &&& 31)) &&& (1 : Int32))), .val (.int ((p5 >>> ((2 : Int32) &&& 31)) &&& (1 : Int32))), .val (.long (0 : Int64)), .second, .val (.long (0 : Int64)), .second, .val (.int (own_ov (p0.toInt64) (p1.toInt64))), .unset, .unset, .unset, .unset, .unset] [(.long (p1.toInt64)), (.long (0 : Int64)), (.int (own_over (0 : Int64) (p0.toInt64))), (.int (own_ov (p0.toInt64) (p1.toInt64)))])) rfl (by rw [hml]; rfl) (argsL := [(.long (0 : Int64)), (.long (p1.toInt64))]) (rest := [(.int (own_over (0 : Int64) (p0.toInt64))), (.int (own_ov (p0.toInt64) (p1.toInt64)))]) (lenOf pd_21 rfl) rfl (by show 2 * 0 + _ ≤ _; exact Nat.le_of_eq rfl) (hb hby at_112) rfl
  obtain ⟨rfl, N110q, e110⟩ := hQ110
  have N110 := Fr.app N109 N110q
  refine Rch.st st110 ?_
  refine Rch.st (fun _ hr => XS.iadd X110.here hx rfl (hb hby at_115) rfl hr) ?_
  have hk111 : (own_ov (p0.toInt64) (p1.toInt64)) = ((own_over (0 : Int64) (p0.toInt64)) + (own_over (0 : Int64) (p1.toInt64))) := own_cmp (own_inv0 (p0.toInt64)) (own_inv0 (p1.toInt64))
  refine Rch.st (fun _ hr => XS.icmpNo X110.here hx rfl (hb hby at_116) rfl (teq hk111).2 hr) ?_
  refine Rch.st (fun _ hr => XS.iconst X110.here hx rfl (hb hby at_119) hr) ?_
  show Rch p.tables e below _ (T110.setTop (mkF m 120 #[.val (.int p0), .val (.int p1), .val (.int p2), .val (.int p3), .val (.int p4), .val (.int p5), .val (.ref b1), .val (.ref b64), .val (.int (p5 &&& (1 : Int32))), .val (.int ((p5 >>> ((1 : Int32) &&& 31)) &&& (1 : Int32))), .val (.int ((p5 >>> ((2 : Int32) &&& 31)) &&& (1 : Int32))), .val (.long (0 : Int64)), .second, .val (.long (0 : Int64)), .second, .val (.int (own_ov (p0.toInt64) (p1.toInt64))), .unset, .unset, .unset, .unset, .unset] [(.int (1 : Int32))]))
  refine Rch.st (fun _ hr => XS.goto X110.here hx rfl (pc0 := 120) (pc' := 124) rfl (hb hby at_120) (by decide) (by decide) hr) ?_
  refine Rch.st (fun _ hr => XS.istore X110.here hx rfl (hb hby at_124) rfl (l' := #[.val (.int p0), .val (.int p1), .val (.int p2), .val (.int p3), .val (.int p4), .val (.int p5), .val (.ref b1), .val (.ref b64), .val (.int (p5 &&& (1 : Int32))), .val (.int ((p5 >>> ((1 : Int32) &&& 31)) &&& (1 : Int32))), .val (.int ((p5 >>> ((2 : Int32) &&& 31)) &&& (1 : Int32))), .val (.long (0 : Int64)), .second, .val (.long (0 : Int64)), .second, .val (.int (own_ov (p0.toInt64) (p1.toInt64))), .val (.int (1 : Int32)), .unset, .unset, .unset, .unset]) rfl hr) ?_
  refine Rch.st (fun _ hr => XS.aload X110.here hx rfl (hb hby at_126) rfl rfl hr) ?_
  refine Rch.st (fun _ hr => XS.iload X110.here hx rfl (hb hby at_128) rfl hr) ?_
  show Rch p.tables e below _ (T110.setTop (mkF m 130 #[.val (.int p0), .val (.int p1), .val (.int p2), .val (.int p3), .val (.int p4), .val (.int p5), .val (.ref b1), .val (.ref b64), .val (.int (p5 &&& (1 : Int32))), .val (.int ((p5 >>> ((1 : Int32) &&& 31)) &&& (1 : Int32))), .val (.int ((p5 >>> ((2 : Int32) &&& 31)) &&& (1 : Int32))), .val (.long (0 : Int64)), .second, .val (.long (0 : Int64)), .second, .val (.int (own_ov (p0.toInt64) (p1.toInt64))), .val (.int (1 : Int32)), .unset, .unset, .unset, .unset] [(.int (p5 &&& (1 : Int32))), (.ref b64)]))
  refine Rch.st (fun _ hr => XS.iloadN X110.here hx rfl (hb hby at_130) rfl hr) ?_
  refine Rch.st (fun _ hr => XS.i2l X110.here hx rfl (hb hby at_131) rfl hr) ?_
  obtain ⟨_, T112, Lc112, X112, hQ112, st112⟩ := own_callS X110 hx hZ40 (y := (⟨"java/math/BigDecimal", "valueOf", "(J)Ljava/math/BigDecimal;"⟩ : MethodName)) hown40 (own_w hw 37 rfl) (own_w hw 38 rfl) (own_w hw 39 rfl) (own_w hw 40 rfl) (by decide) (W := 2) (cvalueOf l Z a0 hw [] (p2.toInt64) wz T76.heap n0 zD0 zD1 Op76 (Bk.ne (Bk.i2l p2) (by decide))) (by decide) (by decide) e110 (by decide) (by decide) (g := (mkF m 132 #[.val (.int p0), .val (.int p1), .val (.int p2), .val (.int p3), .val (.int p4), .val (.int p5), .val (.ref b1), .val (.ref b64), .val (.int (p5 &&& (1 : Int32))), .val (.int ((p5 >>> ((1 : Int32) &&& 31)) &&& (1 : Int32))), .val (.int ((p5 >>> ((2 : Int32) &&& 31)) &&& (1 : Int32))), .val (.long (0 : Int64)), .second, .val (.long (0 : Int64)), .second, .val (.int (own_ov (p0.toInt64) (p1.toInt64))), .val (.int (1 : Int32)), .unset, .unset, .unset, .unset] [(.long (p2.toInt64)), (.int (p5 &&& (1 : Int32))), (.ref b64)])) rfl (by rw [hml]; rfl) (argsL := [(.long (p2.toInt64))]) (rest := [(.int (p5 &&& (1 : Int32))), (.ref b64)]) (lenOf pd_2 rfl) rfl (by show 2 * 0 + _ ≤ _; exact Nat.le_of_eq rfl) (hb hby at_132) rfl
  obtain ⟨r_112, rfl, N112q, Kp112, Op112, R112_0⟩ := hQ112
  have N112 := Fr.app N110 N112q
  refine Rch.st st112 ?_
  have K113 : Keep h0 T112.heap [] := K105.trans Kp112 all0
  by_cases hc114 : (p5 &&& (1 : Int32)) = (0 : Int32)
  · show Rch p.tables e below _ (T112.setTop (mkF m 135 #[.val (.int p0), .val (.int p1), .val (.int p2), .val (.int p3), .val (.int p4), .val (.int p5), .val (.ref b1), .val (.ref b64), .val (.int (p5 &&& (1 : Int32))), .val (.int ((p5 >>> ((1 : Int32) &&& 31)) &&& (1 : Int32))), .val (.int ((p5 >>> ((2 : Int32) &&& 31)) &&& (1 : Int32))), .val (.long (0 : Int64)), .second, .val (.long (0 : Int64)), .second, .val (.int (own_ov (p0.toInt64) (p1.toInt64))), .val (.int (1 : Int32)), .unset, .unset, .unset, .unset] [(.ref r_112), (.int (p5 &&& (1 : Int32))), (.ref b64)]))
    have f116 : Exa Z T112.heap b64 "com/example/slotwright/slotwright/Ledger" := (R76_0.keep Kp112)
    obtain ⟨ts117, ks117⟩ := Bk.add Bk.zero (Bk.i2l p2) (by decide)
    obtain ⟨tn117, kn117⟩ := Bk.neg (Bk.i2l p2) (by decide)
    obtain ⟨tr117, kr117⟩ := Bk.add (Bk.i2l p0) kn117 (by decide)
    have iv117 := own_inv (own_inv0 (p0.toInt64)) ts117 tn117 tr117
    have f118 : Fld Z T112.heap b64 "com/example/slotwright/slotwright/Ledger" "spent" "[Ljava/math/BigDecimal;" (.ref sp_76) := (R76_1.keep Kp112 nin0)
    have f119 : Fld Z T112.heap b64 "com/example/slotwright/slotwright/Ledger" "remaining" "[Ljava/math/BigDecimal;" (.ref rm_76) := (R76_2.keep Kp112 nin0)
    have f120 : Arv Z T112.heap sp_76 ks_76 (.object "java/math/BigDecimal") (2 : Int32) [(.ref zz), (.ref zz)] .null := (R76_5.keep Kp112 nin0)
    have f121 : Arv Z T112.heap rm_76 kr_76 (.object "java/math/BigDecimal") (2 : Int32) [(.ref r_12), (.ref r_43)] .null := (R76_6.keep Kp112 nin0)
    have f122 : Ovr Z ks_76 "java/math/BigDecimal" := R76_7
    have f123 : Ovr Z kr_76 "java/math/BigDecimal" := R76_8
    have f124 : BDc Z T112.heap r_12 (p0.toInt64) (0 : Int32) := (f107.keep Kp112 nin0)
    obtain ⟨_, T115, Lc115, X115, hQ115, st115⟩ := own_callV X112 hx hZ40 (y := (⟨"com/example/slotwright/slotwright/Ledger", "charge", "(ILjava/math/BigDecimal;)V"⟩ : MethodName)) (z := (⟨"com/example/slotwright/slotwright/Ledger", "charge", "(ILjava/math/BigDecimal;)V"⟩ : MethodName)) hown40 (own_w hw 169 rfl) (own_w hw 170 rfl) (notFace_of_selects (args := #[]) (mvT hZ40 (own_w hw 172 rfl))) (own_w hw 172 rfl) (own_w hw 171 rfl) (own_w hw 93 rfl) (own_w hw 173 rfl) (by decide) (W := 0) (ccharge0 l Z a0 hw [] b64 r_112 sp_76 ks_76 rm_76 kr_76 zz zz r_12 r_43 (0 : Int64) (p0.toInt64) (p2.toInt64) wz T112.heap n0 zD0 zD1 Op112 f116 f118 f119 f120 f121 f122 f123 (zD5.ext Op112.2) f124 R112_0 g_sp_76 g_rm_76 R76_9 (Bk.ne Bk.zero (by decide)) (Bk.ne (Bk.i2l p0) (by decide)) (Bk.ne (Bk.i2l p2) (by decide)) (own_noflow Bk.zero (Bk.i2l p2) (by decide)) (Bk.ne ks117 (by decide)) (own_noflow (Bk.i2l p0) kn117 (by decide)) (Bk.ne kr117 (by decide))) (by decide) (by decide) rfl f116 (by decide) (by decide) (g := (mkF m 135 #[.val (.int p0), .val (.int p1), .val (.int p2), .val (.int p3), .val (.int p4), .val (.int p5), .val (.ref b1), .val (.ref b64), .val (.int (p5 &&& (1 : Int32))), .val (.int ((p5 >>> ((1 : Int32) &&& 31)) &&& (1 : Int32))), .val (.int ((p5 >>> ((2 : Int32) &&& 31)) &&& (1 : Int32))), .val (.long (0 : Int64)), .second, .val (.long (0 : Int64)), .second, .val (.int (own_ov (p0.toInt64) (p1.toInt64))), .val (.int (1 : Int32)), .unset, .unset, .unset, .unset] [(.ref r_112), (.int (p5 &&& (1 : Int32))), (.ref b64)])) rfl (by rw [hml]; rfl) (argsL := [(.int (p5 &&& (1 : Int32))), (.ref r_112)]) (rest := []) (lenOf pd_22 rfl) rfl (by show 2 * 0 + _ ≤ _; exact Nat.le_of_eq rfl) (hb hby at_135) (by rw [hc114])
    obtain ⟨t1_115, t2_115, rfl, N115q, Kp115, Op115, R115_0, R115_1, R115_2, R115_3⟩ := hQ115
    have N115 := Fr.app N112 N115q
    refine Rch.st st115 ?_
    have ne125 : r_112 ≠ sp_76 := (Exa.neArv R112_0.1 f120 (own_w hw 200 rfl))
    have ne126 : r_112 ≠ rm_76 := (Exa.neArv R112_0.1 f121 (own_w hw 200 rfl))
    have K127 : Keep h0 T115.heap [] := K113.trans Kp115 (allS (Or.inr sz_sp_76) (allS (Or.inr sz_rm_76) all0))
    refine Rch.st (fun _ hr => XS.iload X115.here hx rfl (hb hby at_138) rfl hr) ?_
    refine Rch.st (fun _ hr => XS.ifNo X115.here hx rfl (hb hby at_140) rfl ((if0 _ _).trans (teq hc114).2) hr) ?_
    refine Rch.st (fun _ hr => XS.lload X115.here hx rfl (hb hby at_143) rfl hr) ?_
    show Rch p.tables e below _ (T115.setTop (mkF m 145 #[.val (.int p0), .val (.int p1), .val (.int p2), .val (.int p3), .val (.int p4), .val (.int p5), .val (.ref b1), .val (.ref b64), .val (.int (p5 &&& (1 : Int32))), .val (.int ((p5 >>> ((1 : Int32) &&& 31)) &&& (1 : Int32))), .val (.int ((p5 >>> ((2 : Int32) &&& 31)) &&& (1 : Int32))), .val (.long (0 : Int64)), .second, .val (.long (0 : Int64)), .second, .val (.int (own_ov (p0.toInt64) (p1.toInt64))), .val (.int (1 : Int32)), .unset, .unset, .unset, .unset] [(.long (0 : Int64))]))
    refine Rch.st (fun _ hr => XS.iloadN X115.here hx rfl (hb hby at_145) rfl hr) ?_
    refine Rch.st (fun _ hr => XS.i2l X115.here hx rfl (hb hby at_146) rfl hr) ?_
    refine Rch.st (fun _ hr => XS.ladd X115.here hx rfl (hb hby at_147) rfl hr) ?_
    refine Rch.st (fun _ hr => XS.lstore X115.here hx rfl (hb hby at_148) rfl (l' := #[.val (.int p0), .val (.int p1), .val (.int p2), .val (.int p3), .val (.int p4), .val (.int p5), .val (.ref b1), .val (.ref b64), .val (.int (p5 &&& (1 : Int32))), .val (.int ((p5 >>> ((1 : Int32) &&& 31)) &&& (1 : Int32))), .val (.int ((p5 >>> ((2 : Int32) &&& 31)) &&& (1 : Int32))), .val (.long ((0 : Int64) + (p2.toInt64))), .second, .val (.long (0 : Int64)), .second, .val (.int (own_ov (p0.toInt64) (p1.toInt64))), .val (.int (1 : Int32)), .unset, .unset, .unset, .unset]) rfl hr) ?_
    show Rch p.tables e below _ (T115.setTop (mkF m 150 #[.val (.int p0), .val (.int p1), .val (.int p2), .val (.int p3), .val (.int p4), .val (.int p5), .val (.ref b1), .val (.ref b64), .val (.int (p5 &&& (1 : Int32))), .val (.int ((p5 >>> ((1 : Int32) &&& 31)) &&& (1 : Int32))), .val (.int ((p5 >>> ((2 : Int32) &&& 31)) &&& (1 : Int32))), .val (.long ((0 : Int64) + (p2.toInt64))), .second, .val (.long (0 : Int64)), .second, .val (.int (own_ov (p0.toInt64) (p1.toInt64))), .val (.int (1 : Int32)), .unset, .unset, .unset, .unset] []))
    refine Rch.st (fun _ hr => XS.goto X115.here hx rfl (pc0 := 150) (pc' := 160) rfl (hb hby at_150) (by decide) (by decide) hr) ?_
    refine Rch.st (fun _ hr => XS.aload X115.here hx rfl (hb hby at_160) rfl rfl hr) ?_
    have f129 : Exa Z T115.heap b64 "com/example/slotwright/slotwright/Ledger" := (f116.keep Kp115)
    have f130 : Fld Z T115.heap b64 "com/example/slotwright/slotwright/Ledger" "remaining" "[Ljava/math/BigDecimal;" (.ref rm_76) := (f119.keep Kp115 (ninS ne97 (ninS ne104 nin0)))
    have f131 : BDc Z T115.heap r_43 (p1.toInt64) (0 : Int32) := ((f108.keep Kp112 nin0).keep Kp115 (ninS ne95 (ninS ne102 nin0)))
    obtain ⟨_, T128, Lc128, X128, hQ128, st128⟩ := own_callV X115 hx hZ40 (y := (⟨"com/example/slotwright/slotwright/Ledger", "overspent", "()I"⟩ : MethodName)) (z := (⟨"com/example/slotwright/slotwright/Ledger", "overspent", "()I"⟩ : MethodName)) hown40 (own_w hw 148 rfl) (own_w hw 149 rfl) (notFace_of_selects (args := #[]) (mvT hZ40 (own_w hw 151 rfl))) (own_w hw 151 rfl) (own_w hw 150 rfl) (own_w hw 93 rfl) (own_w hw 152 rfl) (by decide) (W := 0) (cover l Z a0 hw [] b64 rm_76 kr_76 t2_115 r_43 ((p0.toInt64) + (-(p2.toInt64))) (p1.toInt64) T115.heap n0 f130 R115_1 R115_3 f131 (Bk.ne kr117 (by decide)) (Bk.ne (Bk.i2l p1) (by decide))) (by decide) (by decide) rfl f129 (by decide) (by decide) (g := (mkF m 162 #[.val (.int p0), .val (.int p1), .val (.int p2), .val (.int p3), .val (.int p4), .val (.int p5), .val (.ref b1), .val (.ref b64), .val (.int (p5 &&& (1 : Int32))), .val (.int ((p5 >>> ((1 : Int32) &&& 31)) &&& (1 : Int32))), .val (.int ((p5 >>> ((2 : Int32) &&& 31)) &&& (1 : Int32))), .val (.long ((0 : Int64) + (p2.toInt64))), .second, .val (.long (0 : Int64)), .second, .val (.int (own_ov (p0.toInt64) (p1.toInt64))), .val (.int (1 : Int32)), .unset, .unset, .unset, .unset] [(.ref b64)])) rfl (by rw [hml]; rfl) (argsL := []) (rest := []) (lenOf pd_14 rfl) rfl (by show 2 * 0 + _ ≤ _; exact Nat.le_of_eq rfl) (hb hby at_162) rfl
    obtain ⟨rfl, N128q, e128⟩ := hQ128
    have N128 := Fr.app N115 N128q
    refine Rch.st st128 ?_
    refine Rch.st (fun _ hr => XS.istore X128.here hx rfl (hb hby at_165) rfl (l' := #[.val (.int p0), .val (.int p1), .val (.int p2), .val (.int p3), .val (.int p4), .val (.int p5), .val (.ref b1), .val (.ref b64), .val (.int (p5 &&& (1 : Int32))), .val (.int ((p5 >>> ((1 : Int32) &&& 31)) &&& (1 : Int32))), .val (.int ((p5 >>> ((2 : Int32) &&& 31)) &&& (1 : Int32))), .val (.long ((0 : Int64) + (p2.toInt64))), .second, .val (.long (0 : Int64)), .second, .val (.int (own_ov (p0.toInt64) (p1.toInt64))), .val (.int (1 : Int32)), .val (.int (own_ov ((p0.toInt64) + (-(p2.toInt64))) (p1.toInt64))), .unset, .unset, .unset]) rfl hr) ?_
    show Rch p.tables e below _ (T128.setTop (mkF m 167 #[.val (.int p0), .val (.int p1), .val (.int p2), .val (.int p3), .val (.int p4), .val (.int p5), .val (.ref b1), .val (.ref b64), .val (.int (p5 &&& (1 : Int32))), .val (.int ((p5 >>> ((1 : Int32) &&& 31)) &&& (1 : Int32))), .val (.int ((p5 >>> ((2 : Int32) &&& 31)) &&& (1 : Int32))), .val (.long ((0 : Int64) + (p2.toInt64))), .second, .val (.long (0 : Int64)), .second, .val (.int (own_ov (p0.toInt64) (p1.toInt64))), .val (.int (1 : Int32)), .val (.int (own_ov ((p0.toInt64) + (-(p2.toInt64))) (p1.toInt64))), .unset, .unset, .unset] []))
    refine Rch.st (fun _ hr => XS.iload X128.here hx rfl (hb hby at_167) rfl hr) ?_
    refine Rch.st (fun _ hr => XS.lload X128.here hx rfl (hb hby at_169) rfl hr) ?_
    refine Rch.st (fun _ hr => XS.iloadN X128.here hx rfl (hb hby at_171) rfl hr) ?_
    refine Rch.st (fun _ hr => XS.i2l X128.here hx rfl (hb hby at_172) rfl hr) ?_
    show Rch p.tables e below _ (T128.setTop (mkF m 173 #[.val (.int p0), .val (.int p1), .val (.int p2), .val (.int p3), .val (.int p4), .val (.int p5), .val (.ref b1), .val (.ref b64), .val (.int (p5 &&& (1 : Int32))), .val (.int ((p5 >>> ((1 : Int32) &&& 31)) &&& (1 : Int32))), .val (.int ((p5 >>> ((2 : Int32) &&& 31)) &&& (1 : Int32))), .val (.long ((0 : Int64) + (p2.toInt64))), .second, .val (.long (0 : Int64)), .second, .val (.int (own_ov (p0.toInt64) (p1.toInt64))), .val (.int (1 : Int32)), .val (.int (own_ov ((p0.toInt64) + (-(p2.toInt64))) (p1.toInt64))), .unset, .unset, .unset] [(.long (p0.toInt64)), (.long ((0 : Int64) + (p2.toInt64))), (.int (own_ov ((p0.toInt64) + (-(p2.toInt64))) (p1.toInt64)))]))
    obtain ⟨_, T132, Lc132, X132, hQ132, st132⟩ := own_callS X128 hx hZ40 (y := (⟨"com/example/slotwright/slotwright/LedgerOverspentPinLaw", "over", "(JJ)I"⟩ : MethodName)) hown40 (own_w hw 165 rfl) (own_w hw 166 rfl) (own_w hw 167 rfl) (own_w hw 168 rfl) (by decide) (W := 1) (cov l Z a0 hw [] ((0 : Int64) + (p2.toInt64)) (p0.toInt64) T115.heap n0 ) (by decide) (by decide) e128 (by decide) (by decide) (g := (mkF m 173 #[.val (.int p0), .val (.int p1), .val (.int p2), .val (.int p3), .val (.int p4), .val (.int p5), .val (.ref b1), .val (.ref b64), .val (.int (p5 &&& (1 : Int32))), .val (.int ((p5 >>> ((1 : Int32) &&& 31)) &&& (1 : Int32))), .val (.int ((p5 >>> ((2 : Int32) &&& 31)) &&& (1 : Int32))), .val (.long ((0 : Int64) + (p2.toInt64))), .second, .val (.long (0 : Int64)), .second, .val (.int (own_ov (p0.toInt64) (p1.toInt64))), .val (.int (1 : Int32)), .val (.int (own_ov ((p0.toInt64) + (-(p2.toInt64))) (p1.toInt64))), .unset, .unset, .unset] [(.long (p0.toInt64)), (.long ((0 : Int64) + (p2.toInt64))), (.int (own_ov ((p0.toInt64) + (-(p2.toInt64))) (p1.toInt64)))])) rfl (by rw [hml]; rfl) (argsL := [(.long ((0 : Int64) + (p2.toInt64))), (.long (p0.toInt64))]) (rest := [(.int (own_ov ((p0.toInt64) + (-(p2.toInt64))) (p1.toInt64)))]) (lenOf pd_21 rfl) rfl (by show 2 * 0 + _ ≤ _; exact Nat.le_of_eq rfl) (hb hby at_173) rfl
    obtain ⟨rfl, N132q, e132⟩ := hQ132
    have N132 := Fr.app N128 N132q
    refine Rch.st st132 ?_
    refine Rch.st (fun _ hr => XS.lload X132.here hx rfl (hb hby at_176) rfl hr) ?_
    refine Rch.st (fun _ hr => XS.iloadN X132.here hx rfl (hb hby at_178) rfl hr) ?_
    refine Rch.st (fun _ hr => XS.i2l X132.here hx rfl (hb hby at_179) rfl hr) ?_
    show Rch p.tables e below _ (T132.setTop (mkF m 180 #[.val (.int p0), .val (.int p1), .val (.int p2), .val (.int p3), .val (.int p4), .val (.int p5), .val (.ref b1), .val (.ref b64), .val (.int (p5 &&& (1 : Int32))), .val (.int ((p5 >>> ((1 : Int32) &&& 31)) &&& (1 : Int32))), .val (.int ((p5 >>> ((2 : Int32) &&& 31)) &&& (1 : Int32))), .val (.long ((0 : Int64) + (p2.toInt64))), .second, .val (.long (0 : Int64)), .second, .val (.int (own_ov (p0.toInt64) (p1.toInt64))), .val (.int (1 : Int32)), .val (.int (own_ov ((p0.toInt64) + (-(p2.toInt64))) (p1.toInt64))), .unset, .unset, .unset] [(.long (p1.toInt64)), (.long (0 : Int64)), (.int (own_over ((0 : Int64) + (p2.toInt64)) (p0.toInt64))), (.int (own_ov ((p0.toInt64) + (-(p2.toInt64))) (p1.toInt64)))]))
    obtain ⟨_, T133, Lc133, X133, hQ133, st133⟩ := own_callS X132 hx hZ40 (y := (⟨"com/example/slotwright/slotwright/LedgerOverspentPinLaw", "over", "(JJ)I"⟩ : MethodName)) hown40 (own_w hw 165 rfl) (own_w hw 166 rfl) (own_w hw 167 rfl) (own_w hw 168 rfl) (by decide) (W := 2) (cov l Z a0 hw [] (0 : Int64) (p1.toInt64) T115.heap n0 ) (by decide) (by decide) e132 (by decide) (by decide) (g := (mkF m 180 #[.val (.int p0), .val (.int p1), .val (.int p2), .val (.int p3), .val (.int p4), .val (.int p5), .val (.ref b1), .val (.ref b64), .val (.int (p5 &&& (1 : Int32))), .val (.int ((p5 >>> ((1 : Int32) &&& 31)) &&& (1 : Int32))), .val (.int ((p5 >>> ((2 : Int32) &&& 31)) &&& (1 : Int32))), .val (.long ((0 : Int64) + (p2.toInt64))), .second, .val (.long (0 : Int64)), .second, .val (.int (own_ov (p0.toInt64) (p1.toInt64))), .val (.int (1 : Int32)), .val (.int (own_ov ((p0.toInt64) + (-(p2.toInt64))) (p1.toInt64))), .unset, .unset, .unset] [(.long (p1.toInt64)), (.long (0 : Int64)), (.int (own_over ((0 : Int64) + (p2.toInt64)) (p0.toInt64))), (.int (own_ov ((p0.toInt64) + (-(p2.toInt64))) (p1.toInt64)))])) rfl (by rw [hml]; rfl) (argsL := [(.long (0 : Int64)), (.long (p1.toInt64))]) (rest := [(.int (own_over ((0 : Int64) + (p2.toInt64)) (p0.toInt64))), (.int (own_ov ((p0.toInt64) + (-(p2.toInt64))) (p1.toInt64)))]) (lenOf pd_21 rfl) rfl (by show 2 * 0 + _ ≤ _; exact Nat.le_of_eq rfl) (hb hby at_180) rfl
    obtain ⟨rfl, N133q, e133⟩ := hQ133
    have N133 := Fr.app N132 N133q
    refine Rch.st st133 ?_
    refine Rch.st (fun _ hr => XS.iadd X133.here hx rfl (hb hby at_183) rfl hr) ?_
    have hk134 : (own_ov ((p0.toInt64) + (-(p2.toInt64))) (p1.toInt64)) = ((own_over ((0 : Int64) + (p2.toInt64)) (p0.toInt64)) + (own_over (0 : Int64) (p1.toInt64))) := own_cmp iv117 (own_inv0 (p1.toInt64))
    refine Rch.st (fun _ hr => XS.icmpNo X133.here hx rfl (hb hby at_184) rfl (teq hk134).2 hr) ?_
    refine Rch.st (fun _ hr => XS.iconst X133.here hx rfl (hb hby at_187) hr) ?_
    show Rch p.tables e below _ (T133.setTop (mkF m 188 #[.val (.int p0), .val (.int p1), .val (.int p2), .val (.int p3), .val (.int p4), .val (.int p5), .val (.ref b1), .val (.ref b64), .val (.int (p5 &&& (1 : Int32))), .val (.int ((p5 >>> ((1 : Int32) &&& 31)) &&& (1 : Int32))), .val (.int ((p5 >>> ((2 : Int32) &&& 31)) &&& (1 : Int32))), .val (.long ((0 : Int64) + (p2.toInt64))), .second, .val (.long (0 : Int64)), .second, .val (.int (own_ov (p0.toInt64) (p1.toInt64))), .val (.int (1 : Int32)), .val (.int (own_ov ((p0.toInt64) + (-(p2.toInt64))) (p1.toInt64))), .unset, .unset, .unset] [(.int (1 : Int32))]))
    refine Rch.st (fun _ hr => XS.goto X133.here hx rfl (pc0 := 188) (pc' := 192) rfl (hb hby at_188) (by decide) (by decide) hr) ?_
    refine Rch.st (fun _ hr => XS.istore X133.here hx rfl (hb hby at_192) rfl (l' := #[.val (.int p0), .val (.int p1), .val (.int p2), .val (.int p3), .val (.int p4), .val (.int p5), .val (.ref b1), .val (.ref b64), .val (.int (p5 &&& (1 : Int32))), .val (.int ((p5 >>> ((1 : Int32) &&& 31)) &&& (1 : Int32))), .val (.int ((p5 >>> ((2 : Int32) &&& 31)) &&& (1 : Int32))), .val (.long ((0 : Int64) + (p2.toInt64))), .second, .val (.long (0 : Int64)), .second, .val (.int (own_ov (p0.toInt64) (p1.toInt64))), .val (.int (1 : Int32)), .val (.int (own_ov ((p0.toInt64) + (-(p2.toInt64))) (p1.toInt64))), .val (.int (1 : Int32)), .unset, .unset]) rfl hr) ?_
    refine Rch.st (fun _ hr => XS.aload X133.here hx rfl (hb hby at_194) rfl rfl hr) ?_
    refine Rch.st (fun _ hr => XS.iload X133.here hx rfl (hb hby at_196) rfl hr) ?_
    show Rch p.tables e below _ (T133.setTop (mkF m 198 #[.val (.int p0), .val (.int p1), .val (.int p2), .val (.int p3), .val (.int p4), .val (.int p5), .val (.ref b1), .val (.ref b64), .val (.int (p5 &&& (1 : Int32))), .val (.int ((p5 >>> ((1 : Int32) &&& 31)) &&& (1 : Int32))), .val (.int ((p5 >>> ((2 : Int32) &&& 31)) &&& (1 : Int32))), .val (.long ((0 : Int64) + (p2.toInt64))), .second, .val (.long (0 : Int64)), .second, .val (.int (own_ov (p0.toInt64) (p1.toInt64))), .val (.int (1 : Int32)), .val (.int (own_ov ((p0.toInt64) + (-(p2.toInt64))) (p1.toInt64))), .val (.int (1 : Int32)), .unset, .unset] [(.int ((p5 >>> ((1 : Int32) &&& 31)) &&& (1 : Int32))), (.ref b64)]))
    refine Rch.st (fun _ hr => XS.iloadN X133.here hx rfl (hb hby at_198) rfl hr) ?_
    refine Rch.st (fun _ hr => XS.i2l X133.here hx rfl (hb hby at_199) rfl hr) ?_
    obtain ⟨_, T135, Lc135, X135, hQ135, st135⟩ := own_callS X133 hx hZ40 (y := (⟨"java/math/BigDecimal", "valueOf", "(J)Ljava/math/BigDecimal;"⟩ : MethodName)) hown40 (own_w hw 37 rfl) (own_w hw 38 rfl) (own_w hw 39 rfl) (own_w hw 40 rfl) (by decide) (W := 2) (cvalueOf l Z a0 hw [] (p3.toInt64) wz T115.heap n0 zD0 zD1 Op115 (Bk.ne (Bk.i2l p3) (by decide))) (by decide) (by decide) e133 (by decide) (by decide) (g := (mkF m 200 #[.val (.int p0), .val (.int p1), .val (.int p2), .val (.int p3), .val (.int p4), .val (.int p5), .val (.ref b1), .val (.ref b64), .val (.int (p5 &&& (1 : Int32))), .val (.int ((p5 >>> ((1 : Int32) &&& 31)) &&& (1 : Int32))), .val (.int ((p5 >>> ((2 : Int32) &&& 31)) &&& (1 : Int32))), .val (.long ((0 : Int64) + (p2.toInt64))), .second, .val (.long (0 : Int64)), .second, .val (.int (own_ov (p0.toInt64) (p1.toInt64))), .val (.int (1 : Int32)), .val (.int (own_ov ((p0.toInt64) + (-(p2.toInt64))) (p1.toInt64))), .val (.int (1 : Int32)), .unset, .unset] [(.long (p3.toInt64)), (.int ((p5 >>> ((1 : Int32) &&& 31)) &&& (1 : Int32))), (.ref b64)])) rfl (by rw [hml]; rfl) (argsL := [(.long (p3.toInt64))]) (rest := [(.int ((p5 >>> ((1 : Int32) &&& 31)) &&& (1 : Int32))), (.ref b64)]) (lenOf pd_2 rfl) rfl (by show 2 * 0 + _ ≤ _; exact Nat.le_of_eq rfl) (hb hby at_200) rfl
    obtain ⟨r_135, rfl, N135q, Kp135, Op135, R135_0⟩ := hQ135
    have N135 := Fr.app N133 N135q
    refine Rch.st st135 ?_
    have K136 : Keep h0 T135.heap [] := K127.trans Kp135 all0
    by_cases hc137 : ((p5 >>> ((1 : Int32) &&& 31)) &&& (1 : Int32)) = (0 : Int32)
    · show Rch p.tables e below _ (T135.setTop (mkF m 203 #[.val (.int p0), .val (.int p1), .val (.int p2), .val (.int p3), .val (.int p4), .val (.int p5), .val (.ref b1), .val (.ref b64), .val (.int (p5 &&& (1 : Int32))), .val (.int ((p5 >>> ((1 : Int32) &&& 31)) &&& (1 : Int32))), .val (.int ((p5 >>> ((2 : Int32) &&& 31)) &&& (1 : Int32))), .val (.long ((0 : Int64) + (p2.toInt64))), .second, .val (.long (0 : Int64)), .second, .val (.int (own_ov (p0.toInt64) (p1.toInt64))), .val (.int (1 : Int32)), .val (.int (own_ov ((p0.toInt64) + (-(p2.toInt64))) (p1.toInt64))), .val (.int (1 : Int32)), .unset, .unset] [(.ref r_135), (.int ((p5 >>> ((1 : Int32) &&& 31)) &&& (1 : Int32))), (.ref b64)]))
      have f139 : Exa Z T135.heap b64 "com/example/slotwright/slotwright/Ledger" := (f129.keep Kp135)
      obtain ⟨ts140, ks140⟩ := Bk.add ks117 (Bk.i2l p3) (by decide)
      obtain ⟨tn140, kn140⟩ := Bk.neg (Bk.i2l p3) (by decide)
      obtain ⟨tr140, kr140⟩ := Bk.add kr117 kn140 (by decide)
      have iv140 := own_inv iv117 ts140 tn140 tr140
      have f141 : Fld Z T135.heap b64 "com/example/slotwright/slotwright/Ledger" "spent" "[Ljava/math/BigDecimal;" (.ref sp_76) := ((f118.keep Kp115 (ninS ne97 (ninS ne104 nin0))).keep Kp135 nin0)
      have f142 : Fld Z T135.heap b64 "com/example/slotwright/slotwright/Ledger" "remaining" "[Ljava/math/BigDecimal;" (.ref rm_76) := (f130.keep Kp135 nin0)
      have f143 : Arv Z T135.heap sp_76 ks_76 (.object "java/math/BigDecimal") (2 : Int32) [(.ref t1_115), (.ref zz)] .null := (R115_0.keep Kp135 nin0)
      have f144 : Arv Z T135.heap rm_76 kr_76 (.object "java/math/BigDecimal") (2 : Int32) [(.ref t2_115), (.ref r_43)] .null := (R115_1.keep Kp135 nin0)
      have f145 : Ovr Z ks_76 "java/math/BigDecimal" := f122
      have f146 : Ovr Z kr_76 "java/math/BigDecimal" := f123
      have f147 : BDc Z T135.heap t1_115 ((0 : Int64) + (p2.toInt64)) (0 : Int32) := (R115_2.keep Kp135 nin0)
      have f148 : BDc Z T135.heap t2_115 ((p0.toInt64) + (-(p2.toInt64))) (0 : Int32) := (R115_3.keep Kp135 nin0)
      obtain ⟨_, T138, Lc138, X138, hQ138, st138⟩ := own_callV X135 hx hZ40 (y := (⟨"com/example/slotwright/slotwright/Ledger", "charge", "(ILjava/math/BigDecimal;)V"⟩ : MethodName)) (z := (⟨"com/example/slotwright/slotwright/Ledger", "charge", "(ILjava/math/BigDecimal;)V"⟩ : MethodName)) hown40 (own_w hw 169 rfl) (own_w hw 170 rfl) (notFace_of_selects (args := #[]) (mvT hZ40 (own_w hw 172 rfl))) (own_w hw 172 rfl) (own_w hw 171 rfl) (own_w hw 93 rfl) (own_w hw 173 rfl) (by decide) (W := 0) (ccharge0 l Z a0 hw [] b64 r_135 sp_76 ks_76 rm_76 kr_76 t1_115 zz t2_115 r_43 ((0 : Int64) + (p2.toInt64)) ((p0.toInt64) + (-(p2.toInt64))) (p3.toInt64) wz T135.heap n0 zD0 zD1 Op135 f139 f141 f142 f143 f144 f145 f146 f147 f148 R135_0 g_sp_76 g_rm_76 R76_9 (Bk.ne ks117 (by decide)) (Bk.ne kr117 (by decide)) (Bk.ne (Bk.i2l p3) (by decide)) (own_noflow ks117 (Bk.i2l p3) (by decide)) (Bk.ne ks140 (by decide)) (own_noflow kr117 kn140 (by decide)) (Bk.ne kr140 (by decide))) (by decide) (by decide) rfl f139 (by decide) (by decide) (g := (mkF m 203 #[.val (.int p0), .val (.int p1), .val (.int p2), .val (.int p3), .val (.int p4), .val (.int p5), .val (.ref b1), .val (.ref b64), .val (.int (p5 &&& (1 : Int32))), .val (.int ((p5 >>> ((1 : Int32) &&& 31)) &&& (1 : Int32))), .val (.int ((p5 >>> ((2 : Int32) &&& 31)) &&& (1 : Int32))), .val (.long ((0 : Int64) + (p2.toInt64))), .second, .val (.long (0 : Int64)), .second, .val (.int (own_ov (p0.toInt64) (p1.toInt64))), .val (.int (1 : Int32)), .val (.int (own_ov ((p0.toInt64) + (-(p2.toInt64))) (p1.toInt64))), .val (.int (1 : Int32)), .unset, .unset] [(.ref r_135), (.int ((p5 >>> ((1 : Int32) &&& 31)) &&& (1 : Int32))), (.ref b64)])) rfl (by rw [hml]; rfl) (argsL := [(.int ((p5 >>> ((1 : Int32) &&& 31)) &&& (1 : Int32))), (.ref r_135)]) (rest := []) (lenOf pd_22 rfl) rfl (by show 2 * 0 + _ ≤ _; exact Nat.le_of_eq rfl) (hb hby at_203) (by rw [hc137])
      obtain ⟨t1_138, t2_138, rfl, N138q, Kp138, Op138, R138_0, R138_1, R138_2, R138_3⟩ := hQ138
      have N138 := Fr.app N135 N138q
      refine Rch.st st138 ?_
      have ne149 : t1_115 ≠ sp_76 := (Exa.neArv f147.1 f143 (own_w hw 200 rfl))
      have ne150 : t2_115 ≠ sp_76 := (Exa.neArv f148.1 f143 (own_w hw 200 rfl))
      have ne151 : r_135 ≠ sp_76 := (Exa.neArv R135_0.1 f143 (own_w hw 200 rfl))
      have ne152 : t1_115 ≠ rm_76 := (Exa.neArv f147.1 f144 (own_w hw 200 rfl))
      have ne153 : t2_115 ≠ rm_76 := (Exa.neArv f148.1 f144 (own_w hw 200 rfl))
      have ne154 : r_135 ≠ rm_76 := (Exa.neArv R135_0.1 f144 (own_w hw 200 rfl))
      have K155 : Keep h0 T138.heap [] := K136.trans Kp138 (allS (Or.inr sz_sp_76) (allS (Or.inr sz_rm_76) all0))
      refine Rch.st (fun _ hr => XS.iload X138.here hx rfl (hb hby at_206) rfl hr) ?_
      refine Rch.st (fun _ hr => XS.ifNo X138.here hx rfl (hb hby at_208) rfl ((if0 _ _).trans (teq hc137).2) hr) ?_
      refine Rch.st (fun _ hr => XS.lload X138.here hx rfl (hb hby at_211) rfl hr) ?_
      show Rch p.tables e below _ (T138.setTop (mkF m 213 #[.val (.int p0), .val (.int p1), .val (.int p2), .val (.int p3), .val (.int p4), .val (.int p5), .val (.ref b1), .val (.ref b64), .val (.int (p5 &&& (1 : Int32))), .val (.int ((p5 >>> ((1 : Int32) &&& 31)) &&& (1 : Int32))), .val (.int ((p5 >>> ((2 : Int32) &&& 31)) &&& (1 : Int32))), .val (.long ((0 : Int64) + (p2.toInt64))), .second, .val (.long (0 : Int64)), .second, .val (.int (own_ov (p0.toInt64) (p1.toInt64))), .val (.int (1 : Int32)), .val (.int (own_ov ((p0.toInt64) + (-(p2.toInt64))) (p1.toInt64))), .val (.int (1 : Int32)), .unset, .unset] [(.long ((0 : Int64) + (p2.toInt64)))]))
      refine Rch.st (fun _ hr => XS.iloadN X138.here hx rfl (hb hby at_213) rfl hr) ?_
      refine Rch.st (fun _ hr => XS.i2l X138.here hx rfl (hb hby at_214) rfl hr) ?_
      refine Rch.st (fun _ hr => XS.ladd X138.here hx rfl (hb hby at_215) rfl hr) ?_
      refine Rch.st (fun _ hr => XS.lstore X138.here hx rfl (hb hby at_216) rfl (l' := #[.val (.int p0), .val (.int p1), .val (.int p2), .val (.int p3), .val (.int p4), .val (.int p5), .val (.ref b1), .val (.ref b64), .val (.int (p5 &&& (1 : Int32))), .val (.int ((p5 >>> ((1 : Int32) &&& 31)) &&& (1 : Int32))), .val (.int ((p5 >>> ((2 : Int32) &&& 31)) &&& (1 : Int32))), .val (.long (((0 : Int64) + (p2.toInt64)) + (p3.toInt64))), .second, .val (.long (0 : Int64)), .second, .val (.int (own_ov (p0.toInt64) (p1.toInt64))), .val (.int (1 : Int32)), .val (.int (own_ov ((p0.toInt64) + (-(p2.toInt64))) (p1.toInt64))), .val (.int (1 : Int32)), .unset, .unset]) rfl hr) ?_
      show Rch p.tables e below _ (T138.setTop (mkF m 218 #[.val (.int p0), .val (.int p1), .val (.int p2), .val (.int p3), .val (.int p4), .val (.int p5), .val (.ref b1), .val (.ref b64), .val (.int (p5 &&& (1 : Int32))), .val (.int ((p5 >>> ((1 : Int32) &&& 31)) &&& (1 : Int32))), .val (.int ((p5 >>> ((2 : Int32) &&& 31)) &&& (1 : Int32))), .val (.long (((0 : Int64) + (p2.toInt64)) + (p3.toInt64))), .second, .val (.long (0 : Int64)), .second, .val (.int (own_ov (p0.toInt64) (p1.toInt64))), .val (.int (1 : Int32)), .val (.int (own_ov ((p0.toInt64) + (-(p2.toInt64))) (p1.toInt64))), .val (.int (1 : Int32)), .unset, .unset] []))
      refine Rch.st (fun _ hr => XS.goto X138.here hx rfl (pc0 := 218) (pc' := 228) rfl (hb hby at_218) (by decide) (by decide) hr) ?_
      refine Rch.st (fun _ hr => XS.aload X138.here hx rfl (hb hby at_228) rfl rfl hr) ?_
      refine Rch.st (fun _ hr => XS.iload X138.here hx rfl (hb hby at_230) rfl hr) ?_
      refine Rch.st (fun _ hr => XS.iload X138.here hx rfl (hb hby at_232) rfl hr) ?_
      show Rch p.tables e below _ (T138.setTop (mkF m 234 #[.val (.int p0), .val (.int p1), .val (.int p2), .val (.int p3), .val (.int p4), .val (.int p5), .val (.ref b1), .val (.ref b64), .val (.int (p5 &&& (1 : Int32))), .val (.int ((p5 >>> ((1 : Int32) &&& 31)) &&& (1 : Int32))), .val (.int ((p5 >>> ((2 : Int32) &&& 31)) &&& (1 : Int32))), .val (.long (((0 : Int64) + (p2.toInt64)) + (p3.toInt64))), .second, .val (.long (0 : Int64)), .second, .val (.int (own_ov (p0.toInt64) (p1.toInt64))), .val (.int (1 : Int32)), .val (.int (own_ov ((p0.toInt64) + (-(p2.toInt64))) (p1.toInt64))), .val (.int (1 : Int32)), .unset, .unset] [(.int p4), (.int ((p5 >>> ((2 : Int32) &&& 31)) &&& (1 : Int32))), (.ref b64)]))
      refine Rch.st (fun _ hr => XS.i2l X138.here hx rfl (hb hby at_234) rfl hr) ?_
      obtain ⟨_, T156, Lc156, X156, hQ156, st156⟩ := own_callS X138 hx hZ40 (y := (⟨"java/math/BigDecimal", "valueOf", "(J)Ljava/math/BigDecimal;"⟩ : MethodName)) hown40 (own_w hw 37 rfl) (own_w hw 38 rfl) (own_w hw 39 rfl) (own_w hw 40 rfl) (by decide) (W := 2) (cvalueOf l Z a0 hw [] (p4.toInt64) wz T138.heap n0 zD0 zD1 Op138 (Bk.ne (Bk.i2l p4) (by decide))) (by decide) (by decide) rfl (by decide) (by decide) (g := (mkF m 235 #[.val (.int p0), .val (.int p1), .val (.int p2), .val (.int p3), .val (.int p4), .val (.int p5), .val (.ref b1), .val (.ref b64), .val (.int (p5 &&& (1 : Int32))), .val (.int ((p5 >>> ((1 : Int32) &&& 31)) &&& (1 : Int32))), .val (.int ((p5 >>> ((2 : Int32) &&& 31)) &&& (1 : Int32))), .val (.long (((0 : Int64) + (p2.toInt64)) + (p3.toInt64))), .second, .val (.long (0 : Int64)), .second, .val (.int (own_ov (p0.toInt64) (p1.toInt64))), .val (.int (1 : Int32)), .val (.int (own_ov ((p0.toInt64) + (-(p2.toInt64))) (p1.toInt64))), .val (.int (1 : Int32)), .unset, .unset] [(.long (p4.toInt64)), (.int ((p5 >>> ((2 : Int32) &&& 31)) &&& (1 : Int32))), (.ref b64)])) rfl (by rw [hml]; rfl) (argsL := [(.long (p4.toInt64))]) (rest := [(.int ((p5 >>> ((2 : Int32) &&& 31)) &&& (1 : Int32))), (.ref b64)]) (lenOf pd_2 rfl) rfl (by show 2 * 0 + _ ≤ _; exact Nat.le_of_eq rfl) (hb hby at_235) rfl
      obtain ⟨r_156, rfl, N156q, Kp156, Op156, R156_0⟩ := hQ156
      have N156 := Fr.app N138 N156q
      refine Rch.st st156 ?_
      have K157 : Keep h0 T156.heap [] := K155.trans Kp156 all0
      by_cases hc158 : ((p5 >>> ((2 : Int32) &&& 31)) &&& (1 : Int32)) = (0 : Int32)
      · show Rch p.tables e below _ (T156.setTop (mkF m 238 #[.val (.int p0), .val (.int p1), .val (.int p2), .val (.int p3), .val (.int p4), .val (.int p5), .val (.ref b1), .val (.ref b64), .val (.int (p5 &&& (1 : Int32))), .val (.int ((p5 >>> ((1 : Int32) &&& 31)) &&& (1 : Int32))), .val (.int ((p5 >>> ((2 : Int32) &&& 31)) &&& (1 : Int32))), .val (.long (((0 : Int64) + (p2.toInt64)) + (p3.toInt64))), .second, .val (.long (0 : Int64)), .second, .val (.int (own_ov (p0.toInt64) (p1.toInt64))), .val (.int (1 : Int32)), .val (.int (own_ov ((p0.toInt64) + (-(p2.toInt64))) (p1.toInt64))), .val (.int (1 : Int32)), .unset, .unset] [(.ref r_156), (.int ((p5 >>> ((2 : Int32) &&& 31)) &&& (1 : Int32))), (.ref b64)]))
        have f160 : Exa Z T156.heap b64 "com/example/slotwright/slotwright/Ledger" := ((f139.keep Kp138).keep Kp156)
        obtain ⟨ts161, ks161⟩ := Bk.add ks140 (Bk.i2l p4) (by decide)
        obtain ⟨tn161, kn161⟩ := Bk.neg (Bk.i2l p4) (by decide)
        obtain ⟨tr161, kr161⟩ := Bk.add kr140 kn161 (by decide)
        have iv161 := own_inv iv140 ts161 tn161 tr161
        have f162 : Fld Z T156.heap b64 "com/example/slotwright/slotwright/Ledger" "spent" "[Ljava/math/BigDecimal;" (.ref sp_76) := ((f141.keep Kp138 (ninS ne97 (ninS ne104 nin0))).keep Kp156 nin0)
        have f163 : Fld Z T156.heap b64 "com/example/slotwright/slotwright/Ledger" "remaining" "[Ljava/math/BigDecimal;" (.ref rm_76) := ((f142.keep Kp138 (ninS ne97 (ninS ne104 nin0))).keep Kp156 nin0)
        have f164 : Arv Z T156.heap sp_76 ks_76 (.object "java/math/BigDecimal") (2 : Int32) [(.ref t1_138), (.ref zz)] .null := (R138_0.keep Kp156 nin0)
        have f165 : Arv Z T156.heap rm_76 kr_76 (.object "java/math/BigDecimal") (2 : Int32) [(.ref t2_138), (.ref r_43)] .null := (R138_1.keep Kp156 nin0)
        have f166 : Ovr Z ks_76 "java/math/BigDecimal" := f145
        have f167 : Ovr Z kr_76 "java/math/BigDecimal" := f146
        have f168 : BDc Z T156.heap t1_138 (((0 : Int64) + (p2.toInt64)) + (p3.toInt64)) (0 : Int32) := (R138_2.keep Kp156 nin0)
        have f169 : BDc Z T156.heap t2_138 (((p0.toInt64) + (-(p2.toInt64))) + (-(p3.toInt64))) (0 : Int32) := (R138_3.keep Kp156 nin0)
        obtain ⟨_, T159, Lc159, X159, hQ159, st159⟩ := own_callV X156 hx hZ40 (y := (⟨"com/example/slotwright/slotwright/Ledger", "charge", "(ILjava/math/BigDecimal;)V"⟩ : MethodName)) (z := (⟨"com/example/slotwright/slotwright/Ledger", "charge", "(ILjava/math/BigDecimal;)V"⟩ : MethodName)) hown40 (own_w hw 169 rfl) (own_w hw 170 rfl) (notFace_of_selects (args := #[]) (mvT hZ40 (own_w hw 172 rfl))) (own_w hw 172 rfl) (own_w hw 171 rfl) (own_w hw 93 rfl) (own_w hw 173 rfl) (by decide) (W := 0) (ccharge0 l Z a0 hw [] b64 r_156 sp_76 ks_76 rm_76 kr_76 t1_138 zz t2_138 r_43 (((0 : Int64) + (p2.toInt64)) + (p3.toInt64)) (((p0.toInt64) + (-(p2.toInt64))) + (-(p3.toInt64))) (p4.toInt64) wz T156.heap n0 zD0 zD1 Op156 f160 f162 f163 f164 f165 f166 f167 f168 f169 R156_0 g_sp_76 g_rm_76 R76_9 (Bk.ne ks140 (by decide)) (Bk.ne kr140 (by decide)) (Bk.ne (Bk.i2l p4) (by decide)) (own_noflow ks140 (Bk.i2l p4) (by decide)) (Bk.ne ks161 (by decide)) (own_noflow kr140 kn161 (by decide)) (Bk.ne kr161 (by decide))) (by decide) (by decide) rfl f160 (by decide) (by decide) (g := (mkF m 238 #[.val (.int p0), .val (.int p1), .val (.int p2), .val (.int p3), .val (.int p4), .val (.int p5), .val (.ref b1), .val (.ref b64), .val (.int (p5 &&& (1 : Int32))), .val (.int ((p5 >>> ((1 : Int32) &&& 31)) &&& (1 : Int32))), .val (.int ((p5 >>> ((2 : Int32) &&& 31)) &&& (1 : Int32))), .val (.long (((0 : Int64) + (p2.toInt64)) + (p3.toInt64))), .second, .val (.long (0 : Int64)), .second, .val (.int (own_ov (p0.toInt64) (p1.toInt64))), .val (.int (1 : Int32)), .val (.int (own_ov ((p0.toInt64) + (-(p2.toInt64))) (p1.toInt64))), .val (.int (1 : Int32)), .unset, .unset] [(.ref r_156), (.int ((p5 >>> ((2 : Int32) &&& 31)) &&& (1 : Int32))), (.ref b64)])) rfl (by rw [hml]; rfl) (argsL := [(.int ((p5 >>> ((2 : Int32) &&& 31)) &&& (1 : Int32))), (.ref r_156)]) (rest := []) (lenOf pd_22 rfl) rfl (by show 2 * 0 + _ ≤ _; exact Nat.le_of_eq rfl) (hb hby at_238) (by rw [hc158])
        obtain ⟨t1_159, t2_159, rfl, N159q, Kp159, Op159, R159_0, R159_1, R159_2, R159_3⟩ := hQ159
        have N159 := Fr.app N156 N159q
        refine Rch.st st159 ?_
        have ne170 : t1_138 ≠ sp_76 := (Exa.neArv f168.1 f164 (own_w hw 200 rfl))
        have ne171 : t2_138 ≠ sp_76 := (Exa.neArv f169.1 f164 (own_w hw 200 rfl))
        have ne172 : r_156 ≠ sp_76 := (Exa.neArv R156_0.1 f164 (own_w hw 200 rfl))
        have ne173 : t1_138 ≠ rm_76 := (Exa.neArv f168.1 f165 (own_w hw 200 rfl))
        have ne174 : t2_138 ≠ rm_76 := (Exa.neArv f169.1 f165 (own_w hw 200 rfl))
        have ne175 : r_156 ≠ rm_76 := (Exa.neArv R156_0.1 f165 (own_w hw 200 rfl))
        have K176 : Keep h0 T159.heap [] := K157.trans Kp159 (allS (Or.inr sz_sp_76) (allS (Or.inr sz_rm_76) all0))
        refine Rch.st (fun _ hr => XS.iload X159.here hx rfl (hb hby at_241) rfl hr) ?_
        refine Rch.st (fun _ hr => XS.ifNo X159.here hx rfl (hb hby at_243) rfl ((if0 _ _).trans (teq hc158).2) hr) ?_
        refine Rch.st (fun _ hr => XS.lload X159.here hx rfl (hb hby at_246) rfl hr) ?_
        show Rch p.tables e below _ (T159.setTop (mkF m 248 #[.val (.int p0), .val (.int p1), .val (.int p2), .val (.int p3), .val (.int p4), .val (.int p5), .val (.ref b1), .val (.ref b64), .val (.int (p5 &&& (1 : Int32))), .val (.int ((p5 >>> ((1 : Int32) &&& 31)) &&& (1 : Int32))), .val (.int ((p5 >>> ((2 : Int32) &&& 31)) &&& (1 : Int32))), .val (.long (((0 : Int64) + (p2.toInt64)) + (p3.toInt64))), .second, .val (.long (0 : Int64)), .second, .val (.int (own_ov (p0.toInt64) (p1.toInt64))), .val (.int (1 : Int32)), .val (.int (own_ov ((p0.toInt64) + (-(p2.toInt64))) (p1.toInt64))), .val (.int (1 : Int32)), .unset, .unset] [(.long (((0 : Int64) + (p2.toInt64)) + (p3.toInt64)))]))
        refine Rch.st (fun _ hr => XS.iload X159.here hx rfl (hb hby at_248) rfl hr) ?_
        refine Rch.st (fun _ hr => XS.i2l X159.here hx rfl (hb hby at_250) rfl hr) ?_
        refine Rch.st (fun _ hr => XS.ladd X159.here hx rfl (hb hby at_251) rfl hr) ?_
        refine Rch.st (fun _ hr => XS.lstore X159.here hx rfl (hb hby at_252) rfl (l' := #[.val (.int p0), .val (.int p1), .val (.int p2), .val (.int p3), .val (.int p4), .val (.int p5), .val (.ref b1), .val (.ref b64), .val (.int (p5 &&& (1 : Int32))), .val (.int ((p5 >>> ((1 : Int32) &&& 31)) &&& (1 : Int32))), .val (.int ((p5 >>> ((2 : Int32) &&& 31)) &&& (1 : Int32))), .val (.long ((((0 : Int64) + (p2.toInt64)) + (p3.toInt64)) + (p4.toInt64))), .second, .val (.long (0 : Int64)), .second, .val (.int (own_ov (p0.toInt64) (p1.toInt64))), .val (.int (1 : Int32)), .val (.int (own_ov ((p0.toInt64) + (-(p2.toInt64))) (p1.toInt64))), .val (.int (1 : Int32)), .unset, .unset]) rfl hr) ?_
        show Rch p.tables e below _ (T159.setTop (mkF m 254 #[.val (.int p0), .val (.int p1), .val (.int p2), .val (.int p3), .val (.int p4), .val (.int p5), .val (.ref b1), .val (.ref b64), .val (.int (p5 &&& (1 : Int32))), .val (.int ((p5 >>> ((1 : Int32) &&& 31)) &&& (1 : Int32))), .val (.int ((p5 >>> ((2 : Int32) &&& 31)) &&& (1 : Int32))), .val (.long ((((0 : Int64) + (p2.toInt64)) + (p3.toInt64)) + (p4.toInt64))), .second, .val (.long (0 : Int64)), .second, .val (.int (own_ov (p0.toInt64) (p1.toInt64))), .val (.int (1 : Int32)), .val (.int (own_ov ((p0.toInt64) + (-(p2.toInt64))) (p1.toInt64))), .val (.int (1 : Int32)), .unset, .unset] []))
        refine Rch.st (fun _ hr => XS.goto X159.here hx rfl (pc0 := 254) (pc' := 265) rfl (hb hby at_254) (by decide) (by decide) hr) ?_
        refine Rch.st (fun _ hr => XS.aload X159.here hx rfl (hb hby at_265) rfl rfl hr) ?_
        have f178 : Exa Z T159.heap b64 "com/example/slotwright/slotwright/Ledger" := (f160.keep Kp159)
        have f179 : Fld Z T159.heap b64 "com/example/slotwright/slotwright/Ledger" "remaining" "[Ljava/math/BigDecimal;" (.ref rm_76) := (f163.keep Kp159 (ninS ne97 (ninS ne104 nin0)))
        have f180 : BDc Z T159.heap r_43 (p1.toInt64) (0 : Int32) := ((((f131.keep Kp135 nin0).keep Kp138 (ninS ne95 (ninS ne102 nin0))).keep Kp156 nin0).keep Kp159 (ninS ne95 (ninS ne102 nin0)))
        obtain ⟨_, T177, Lc177, X177, hQ177, st177⟩ := own_callV X159 hx hZ40 (y := (⟨"com/example/slotwright/slotwright/Ledger", "overspent", "()I"⟩ : MethodName)) (z := (⟨"com/example/slotwright/slotwright/Ledger", "overspent", "()I"⟩ : MethodName)) hown40 (own_w hw 148 rfl) (own_w hw 149 rfl) (notFace_of_selects (args := #[]) (mvT hZ40 (own_w hw 151 rfl))) (own_w hw 151 rfl) (own_w hw 150 rfl) (own_w hw 93 rfl) (own_w hw 152 rfl) (by decide) (W := 0) (cover l Z a0 hw [] b64 rm_76 kr_76 t2_159 r_43 ((((p0.toInt64) + (-(p2.toInt64))) + (-(p3.toInt64))) + (-(p4.toInt64))) (p1.toInt64) T159.heap n0 f179 R159_1 R159_3 f180 (Bk.ne kr161 (by decide)) (Bk.ne (Bk.i2l p1) (by decide))) (by decide) (by decide) rfl f178 (by decide) (by decide) (g := (mkF m 267 #[.val (.int p0), .val (.int p1), .val (.int p2), .val (.int p3), .val (.int p4), .val (.int p5), .val (.ref b1), .val (.ref b64), .val (.int (p5 &&& (1 : Int32))), .val (.int ((p5 >>> ((1 : Int32) &&& 31)) &&& (1 : Int32))), .val (.int ((p5 >>> ((2 : Int32) &&& 31)) &&& (1 : Int32))), .val (.long ((((0 : Int64) + (p2.toInt64)) + (p3.toInt64)) + (p4.toInt64))), .second, .val (.long (0 : Int64)), .second, .val (.int (own_ov (p0.toInt64) (p1.toInt64))), .val (.int (1 : Int32)), .val (.int (own_ov ((p0.toInt64) + (-(p2.toInt64))) (p1.toInt64))), .val (.int (1 : Int32)), .unset, .unset] [(.ref b64)])) rfl (by rw [hml]; rfl) (argsL := []) (rest := []) (lenOf pd_14 rfl) rfl (by show 2 * 0 + _ ≤ _; exact Nat.le_of_eq rfl) (hb hby at_267) rfl
        obtain ⟨rfl, N177q, e177⟩ := hQ177
        have N177 := Fr.app N159 N177q
        refine Rch.st st177 ?_
        refine Rch.st (fun _ hr => XS.istore X177.here hx rfl (hb hby at_270) rfl (l' := #[.val (.int p0), .val (.int p1), .val (.int p2), .val (.int p3), .val (.int p4), .val (.int p5), .val (.ref b1), .val (.ref b64), .val (.int (p5 &&& (1 : Int32))), .val (.int ((p5 >>> ((1 : Int32) &&& 31)) &&& (1 : Int32))), .val (.int ((p5 >>> ((2 : Int32) &&& 31)) &&& (1 : Int32))), .val (.long ((((0 : Int64) + (p2.toInt64)) + (p3.toInt64)) + (p4.toInt64))), .second, .val (.long (0 : Int64)), .second, .val (.int (own_ov (p0.toInt64) (p1.toInt64))), .val (.int (1 : Int32)), .val (.int (own_ov ((p0.toInt64) + (-(p2.toInt64))) (p1.toInt64))), .val (.int (1 : Int32)), .val (.int (own_ov ((((p0.toInt64) + (-(p2.toInt64))) + (-(p3.toInt64))) + (-(p4.toInt64))) (p1.toInt64))), .unset]) rfl hr) ?_
        show Rch p.tables e below _ (T177.setTop (mkF m 272 #[.val (.int p0), .val (.int p1), .val (.int p2), .val (.int p3), .val (.int p4), .val (.int p5), .val (.ref b1), .val (.ref b64), .val (.int (p5 &&& (1 : Int32))), .val (.int ((p5 >>> ((1 : Int32) &&& 31)) &&& (1 : Int32))), .val (.int ((p5 >>> ((2 : Int32) &&& 31)) &&& (1 : Int32))), .val (.long ((((0 : Int64) + (p2.toInt64)) + (p3.toInt64)) + (p4.toInt64))), .second, .val (.long (0 : Int64)), .second, .val (.int (own_ov (p0.toInt64) (p1.toInt64))), .val (.int (1 : Int32)), .val (.int (own_ov ((p0.toInt64) + (-(p2.toInt64))) (p1.toInt64))), .val (.int (1 : Int32)), .val (.int (own_ov ((((p0.toInt64) + (-(p2.toInt64))) + (-(p3.toInt64))) + (-(p4.toInt64))) (p1.toInt64))), .unset] []))
        refine Rch.st (fun _ hr => XS.iload X177.here hx rfl (hb hby at_272) rfl hr) ?_
        refine Rch.st (fun _ hr => XS.lload X177.here hx rfl (hb hby at_274) rfl hr) ?_
        refine Rch.st (fun _ hr => XS.iloadN X177.here hx rfl (hb hby at_276) rfl hr) ?_
        refine Rch.st (fun _ hr => XS.i2l X177.here hx rfl (hb hby at_277) rfl hr) ?_
        show Rch p.tables e below _ (T177.setTop (mkF m 278 #[.val (.int p0), .val (.int p1), .val (.int p2), .val (.int p3), .val (.int p4), .val (.int p5), .val (.ref b1), .val (.ref b64), .val (.int (p5 &&& (1 : Int32))), .val (.int ((p5 >>> ((1 : Int32) &&& 31)) &&& (1 : Int32))), .val (.int ((p5 >>> ((2 : Int32) &&& 31)) &&& (1 : Int32))), .val (.long ((((0 : Int64) + (p2.toInt64)) + (p3.toInt64)) + (p4.toInt64))), .second, .val (.long (0 : Int64)), .second, .val (.int (own_ov (p0.toInt64) (p1.toInt64))), .val (.int (1 : Int32)), .val (.int (own_ov ((p0.toInt64) + (-(p2.toInt64))) (p1.toInt64))), .val (.int (1 : Int32)), .val (.int (own_ov ((((p0.toInt64) + (-(p2.toInt64))) + (-(p3.toInt64))) + (-(p4.toInt64))) (p1.toInt64))), .unset] [(.long (p0.toInt64)), (.long ((((0 : Int64) + (p2.toInt64)) + (p3.toInt64)) + (p4.toInt64))), (.int (own_ov ((((p0.toInt64) + (-(p2.toInt64))) + (-(p3.toInt64))) + (-(p4.toInt64))) (p1.toInt64)))]))
        obtain ⟨_, T181, Lc181, X181, hQ181, st181⟩ := own_callS X177 hx hZ40 (y := (⟨"com/example/slotwright/slotwright/LedgerOverspentPinLaw", "over", "(JJ)I"⟩ : MethodName)) hown40 (own_w hw 165 rfl) (own_w hw 166 rfl) (own_w hw 167 rfl) (own_w hw 168 rfl) (by decide) (W := 1) (cov l Z a0 hw [] ((((0 : Int64) + (p2.toInt64)) + (p3.toInt64)) + (p4.toInt64)) (p0.toInt64) T159.heap n0 ) (by decide) (by decide) e177 (by decide) (by decide) (g := (mkF m 278 #[.val (.int p0), .val (.int p1), .val (.int p2), .val (.int p3), .val (.int p4), .val (.int p5), .val (.ref b1), .val (.ref b64), .val (.int (p5 &&& (1 : Int32))), .val (.int ((p5 >>> ((1 : Int32) &&& 31)) &&& (1 : Int32))), .val (.int ((p5 >>> ((2 : Int32) &&& 31)) &&& (1 : Int32))), .val (.long ((((0 : Int64) + (p2.toInt64)) + (p3.toInt64)) + (p4.toInt64))), .second, .val (.long (0 : Int64)), .second, .val (.int (own_ov (p0.toInt64) (p1.toInt64))), .val (.int (1 : Int32)), .val (.int (own_ov ((p0.toInt64) + (-(p2.toInt64))) (p1.toInt64))), .val (.int (1 : Int32)), .val (.int (own_ov ((((p0.toInt64) + (-(p2.toInt64))) + (-(p3.toInt64))) + (-(p4.toInt64))) (p1.toInt64))), .unset] [(.long (p0.toInt64)), (.long ((((0 : Int64) + (p2.toInt64)) + (p3.toInt64)) + (p4.toInt64))), (.int (own_ov ((((p0.toInt64) + (-(p2.toInt64))) + (-(p3.toInt64))) + (-(p4.toInt64))) (p1.toInt64)))])) rfl (by rw [hml]; rfl) (argsL := [(.long ((((0 : Int64) + (p2.toInt64)) + (p3.toInt64)) + (p4.toInt64))), (.long (p0.toInt64))]) (rest := [(.int (own_ov ((((p0.toInt64) + (-(p2.toInt64))) + (-(p3.toInt64))) + (-(p4.toInt64))) (p1.toInt64)))]) (lenOf pd_21 rfl) rfl (by show 2 * 0 + _ ≤ _; exact Nat.le_of_eq rfl) (hb hby at_278) rfl
        obtain ⟨rfl, N181q, e181⟩ := hQ181
        have N181 := Fr.app N177 N181q
        refine Rch.st st181 ?_
        refine Rch.st (fun _ hr => XS.lload X181.here hx rfl (hb hby at_281) rfl hr) ?_
        refine Rch.st (fun _ hr => XS.iloadN X181.here hx rfl (hb hby at_283) rfl hr) ?_
        refine Rch.st (fun _ hr => XS.i2l X181.here hx rfl (hb hby at_284) rfl hr) ?_
        show Rch p.tables e below _ (T181.setTop (mkF m 285 #[.val (.int p0), .val (.int p1), .val (.int p2), .val (.int p3), .val (.int p4), .val (.int p5), .val (.ref b1), .val (.ref b64), .val (.int (p5 &&& (1 : Int32))), .val (.int ((p5 >>> ((1 : Int32) &&& 31)) &&& (1 : Int32))), .val (.int ((p5 >>> ((2 : Int32) &&& 31)) &&& (1 : Int32))), .val (.long ((((0 : Int64) + (p2.toInt64)) + (p3.toInt64)) + (p4.toInt64))), .second, .val (.long (0 : Int64)), .second, .val (.int (own_ov (p0.toInt64) (p1.toInt64))), .val (.int (1 : Int32)), .val (.int (own_ov ((p0.toInt64) + (-(p2.toInt64))) (p1.toInt64))), .val (.int (1 : Int32)), .val (.int (own_ov ((((p0.toInt64) + (-(p2.toInt64))) + (-(p3.toInt64))) + (-(p4.toInt64))) (p1.toInt64))), .unset] [(.long (p1.toInt64)), (.long (0 : Int64)), (.int (own_over ((((0 : Int64) + (p2.toInt64)) + (p3.toInt64)) + (p4.toInt64)) (p0.toInt64))), (.int (own_ov ((((p0.toInt64) + (-(p2.toInt64))) + (-(p3.toInt64))) + (-(p4.toInt64))) (p1.toInt64)))]))
        obtain ⟨_, T182, Lc182, X182, hQ182, st182⟩ := own_callS X181 hx hZ40 (y := (⟨"com/example/slotwright/slotwright/LedgerOverspentPinLaw", "over", "(JJ)I"⟩ : MethodName)) hown40 (own_w hw 165 rfl) (own_w hw 166 rfl) (own_w hw 167 rfl) (own_w hw 168 rfl) (by decide) (W := 2) (cov l Z a0 hw [] (0 : Int64) (p1.toInt64) T159.heap n0 ) (by decide) (by decide) e181 (by decide) (by decide) (g := (mkF m 285 #[.val (.int p0), .val (.int p1), .val (.int p2), .val (.int p3), .val (.int p4), .val (.int p5), .val (.ref b1), .val (.ref b64), .val (.int (p5 &&& (1 : Int32))), .val (.int ((p5 >>> ((1 : Int32) &&& 31)) &&& (1 : Int32))), .val (.int ((p5 >>> ((2 : Int32) &&& 31)) &&& (1 : Int32))), .val (.long ((((0 : Int64) + (p2.toInt64)) + (p3.toInt64)) + (p4.toInt64))), .second, .val (.long (0 : Int64)), .second, .val (.int (own_ov (p0.toInt64) (p1.toInt64))), .val (.int (1 : Int32)), .val (.int (own_ov ((p0.toInt64) + (-(p2.toInt64))) (p1.toInt64))), .val (.int (1 : Int32)), .val (.int (own_ov ((((p0.toInt64) + (-(p2.toInt64))) + (-(p3.toInt64))) + (-(p4.toInt64))) (p1.toInt64))), .unset] [(.long (p1.toInt64)), (.long (0 : Int64)), (.int (own_over ((((0 : Int64) + (p2.toInt64)) + (p3.toInt64)) + (p4.toInt64)) (p0.toInt64))), (.int (own_ov ((((p0.toInt64) + (-(p2.toInt64))) + (-(p3.toInt64))) + (-(p4.toInt64))) (p1.toInt64)))])) rfl (by rw [hml]; rfl) (argsL := [(.long (0 : Int64)), (.long (p1.toInt64))]) (rest := [(.int (own_over ((((0 : Int64) + (p2.toInt64)) + (p3.toInt64)) + (p4.toInt64)) (p0.toInt64))), (.int (own_ov ((((p0.toInt64) + (-(p2.toInt64))) + (-(p3.toInt64))) + (-(p4.toInt64))) (p1.toInt64)))]) (lenOf pd_21 rfl) rfl (by show 2 * 0 + _ ≤ _; exact Nat.le_of_eq rfl) (hb hby at_285) rfl
        obtain ⟨rfl, N182q, e182⟩ := hQ182
        have N182 := Fr.app N181 N182q
        refine Rch.st st182 ?_
        refine Rch.st (fun _ hr => XS.iadd X182.here hx rfl (hb hby at_288) rfl hr) ?_
        have hk183 : (own_ov ((((p0.toInt64) + (-(p2.toInt64))) + (-(p3.toInt64))) + (-(p4.toInt64))) (p1.toInt64)) = ((own_over ((((0 : Int64) + (p2.toInt64)) + (p3.toInt64)) + (p4.toInt64)) (p0.toInt64)) + (own_over (0 : Int64) (p1.toInt64))) := own_cmp iv161 (own_inv0 (p1.toInt64))
        refine Rch.st (fun _ hr => XS.icmpNo X182.here hx rfl (hb hby at_289) rfl (teq hk183).2 hr) ?_
        refine Rch.st (fun _ hr => XS.iconst X182.here hx rfl (hb hby at_292) hr) ?_
        show Rch p.tables e below _ (T182.setTop (mkF m 293 #[.val (.int p0), .val (.int p1), .val (.int p2), .val (.int p3), .val (.int p4), .val (.int p5), .val (.ref b1), .val (.ref b64), .val (.int (p5 &&& (1 : Int32))), .val (.int ((p5 >>> ((1 : Int32) &&& 31)) &&& (1 : Int32))), .val (.int ((p5 >>> ((2 : Int32) &&& 31)) &&& (1 : Int32))), .val (.long ((((0 : Int64) + (p2.toInt64)) + (p3.toInt64)) + (p4.toInt64))), .second, .val (.long (0 : Int64)), .second, .val (.int (own_ov (p0.toInt64) (p1.toInt64))), .val (.int (1 : Int32)), .val (.int (own_ov ((p0.toInt64) + (-(p2.toInt64))) (p1.toInt64))), .val (.int (1 : Int32)), .val (.int (own_ov ((((p0.toInt64) + (-(p2.toInt64))) + (-(p3.toInt64))) + (-(p4.toInt64))) (p1.toInt64))), .unset] [(.int (1 : Int32))]))
        refine Rch.st (fun _ hr => XS.goto X182.here hx rfl (pc0 := 293) (pc' := 297) rfl (hb hby at_293) (by decide) (by decide) hr) ?_
        refine Rch.st (fun _ hr => XS.istore X182.here hx rfl (hb hby at_297) rfl (l' := #[.val (.int p0), .val (.int p1), .val (.int p2), .val (.int p3), .val (.int p4), .val (.int p5), .val (.ref b1), .val (.ref b64), .val (.int (p5 &&& (1 : Int32))), .val (.int ((p5 >>> ((1 : Int32) &&& 31)) &&& (1 : Int32))), .val (.int ((p5 >>> ((2 : Int32) &&& 31)) &&& (1 : Int32))), .val (.long ((((0 : Int64) + (p2.toInt64)) + (p3.toInt64)) + (p4.toInt64))), .second, .val (.long (0 : Int64)), .second, .val (.int (own_ov (p0.toInt64) (p1.toInt64))), .val (.int (1 : Int32)), .val (.int (own_ov ((p0.toInt64) + (-(p2.toInt64))) (p1.toInt64))), .val (.int (1 : Int32)), .val (.int (own_ov ((((p0.toInt64) + (-(p2.toInt64))) + (-(p3.toInt64))) + (-(p4.toInt64))) (p1.toInt64))), .val (.int (1 : Int32))]) rfl hr) ?_
        refine Rch.st (fun _ hr => XS.iload X182.here hx rfl (hb hby at_299) rfl hr) ?_
        refine Rch.st (fun _ hr => XS.ifNo X182.here hx rfl (hb hby at_301) rfl ((if0 _ _).trans (feq (by decide : ¬ ((1 : Int32) = (0 : Int32)))).1) hr) ?_
        show Rch p.tables e below _ (T182.setTop (mkF m 304 #[.val (.int p0), .val (.int p1), .val (.int p2), .val (.int p3), .val (.int p4), .val (.int p5), .val (.ref b1), .val (.ref b64), .val (.int (p5 &&& (1 : Int32))), .val (.int ((p5 >>> ((1 : Int32) &&& 31)) &&& (1 : Int32))), .val (.int ((p5 >>> ((2 : Int32) &&& 31)) &&& (1 : Int32))), .val (.long ((((0 : Int64) + (p2.toInt64)) + (p3.toInt64)) + (p4.toInt64))), .second, .val (.long (0 : Int64)), .second, .val (.int (own_ov (p0.toInt64) (p1.toInt64))), .val (.int (1 : Int32)), .val (.int (own_ov ((p0.toInt64) + (-(p2.toInt64))) (p1.toInt64))), .val (.int (1 : Int32)), .val (.int (own_ov ((((p0.toInt64) + (-(p2.toInt64))) + (-(p3.toInt64))) + (-(p4.toInt64))) (p1.toInt64))), .val (.int (1 : Int32))] []))
        refine Rch.st (fun _ hr => XS.iload X182.here hx rfl (hb hby at_304) rfl hr) ?_
        refine Rch.st (fun _ hr => XS.ifNo X182.here hx rfl (hb hby at_306) rfl ((if0 _ _).trans (feq (by decide : ¬ ((1 : Int32) = (0 : Int32)))).1) hr) ?_
        refine Rch.st (fun _ hr => XS.iload X182.here hx rfl (hb hby at_309) rfl hr) ?_
        refine Rch.st (fun _ hr => XS.ifNo X182.here hx rfl (hb hby at_311) rfl ((if0 _ _).trans (feq (by decide : ¬ ((1 : Int32) = (0 : Int32)))).1) hr) ?_
        show Rch p.tables e below _ (T182.setTop (mkF m 314 #[.val (.int p0), .val (.int p1), .val (.int p2), .val (.int p3), .val (.int p4), .val (.int p5), .val (.ref b1), .val (.ref b64), .val (.int (p5 &&& (1 : Int32))), .val (.int ((p5 >>> ((1 : Int32) &&& 31)) &&& (1 : Int32))), .val (.int ((p5 >>> ((2 : Int32) &&& 31)) &&& (1 : Int32))), .val (.long ((((0 : Int64) + (p2.toInt64)) + (p3.toInt64)) + (p4.toInt64))), .second, .val (.long (0 : Int64)), .second, .val (.int (own_ov (p0.toInt64) (p1.toInt64))), .val (.int (1 : Int32)), .val (.int (own_ov ((p0.toInt64) + (-(p2.toInt64))) (p1.toInt64))), .val (.int (1 : Int32)), .val (.int (own_ov ((((p0.toInt64) + (-(p2.toInt64))) + (-(p3.toInt64))) + (-(p4.toInt64))) (p1.toInt64))), .val (.int (1 : Int32))] []))
        refine Rch.st (fun _ hr => XS.iconst X182.here hx rfl (hb hby at_314) hr) ?_
        refine Rch.st (fun _ hr => XS.goto X182.here hx rfl (pc0 := 315) (pc' := 319) rfl (hb hby at_315) (by decide) (by decide) hr) ?_
        obtain ⟨fs, hr, hrun, hended, hREW⟩ := Jvm.Stand.leaveW (s := s) X182 hS40 (by rw [e182]; exact (Nat.le_trans (Nat.le_trans (Nat.le_trans (Nat.le_trans (Nat.le_trans (Nat.le_trans (Nat.le_trans (Nat.le_trans (Nat.le_trans (Nat.le_trans (Nat.le_trans hk40 Kp43.1) Kp46.1) Kp52.1) E64.1) Kp76.1) Kp112.1) Kp115.1) Kp135.1) Kp138.1) Kp156.1) Kp159.1)) (v := some (.int (1 : Int32))) (fun h => by rw [Bd.returns] at h; cases h)
        refine Rch.fin (u := T182.setFrames fs) (retN X182 hx (t := .boolean) Bd.returns (by simp) (hb hby at_319) hr) ⟨_, hrun, hended, _, _, rfl, ?_, hREW.1, hREW.2.1, hREW.2.2.1, hREW.2.2.2.mono (by decide) (by decide)⟩
        show Q_claw Z p0 p1 p2 p3 p4 p5 wz de kde zz h0 n0 _ T182.heap _
        rw [e182]
        exact ⟨rfl, N182, K176, Op159⟩
      · show Rch p.tables e below _ (T156.setTop (mkF m 238 #[.val (.int p0), .val (.int p1), .val (.int p2), .val (.int p3), .val (.int p4), .val (.int p5), .val (.ref b1), .val (.ref b64), .val (.int (p5 &&& (1 : Int32))), .val (.int ((p5 >>> ((1 : Int32) &&& 31)) &&& (1 : Int32))), .val (.int ((p5 >>> ((2 : Int32) &&& 31)) &&& (1 : Int32))), .val (.long (((0 : Int64) + (p2.toInt64)) + (p3.toInt64))), .second, .val (.long (0 : Int64)), .second, .val (.int (own_ov (p0.toInt64) (p1.toInt64))), .val (.int (1 : Int32)), .val (.int (own_ov ((p0.toInt64) + (-(p2.toInt64))) (p1.toInt64))), .val (.int (1 : Int32)), .unset, .unset] [(.ref r_156), (.int ((p5 >>> ((2 : Int32) &&& 31)) &&& (1 : Int32))), (.ref b64)]))
        have f185 : Exa Z T156.heap b64 "com/example/slotwright/slotwright/Ledger" := ((f139.keep Kp138).keep Kp156)
        have hone186 : ((p5 >>> ((2 : Int32) &&& 31)) &&& (1 : Int32)) = (1 : Int32) := (and_one _).resolve_left hc158
        obtain ⟨ts186, ks186⟩ := Bk.add Bk.zero (Bk.i2l p4) (by decide)
        obtain ⟨tn186, kn186⟩ := Bk.neg (Bk.i2l p4) (by decide)
        obtain ⟨tr186, kr186⟩ := Bk.add (Bk.i2l p1) kn186 (by decide)
        have iv186 := own_inv (own_inv0 (p1.toInt64)) ts186 tn186 tr186
        have f187 : Fld Z T156.heap b64 "com/example/slotwright/slotwright/Ledger" "spent" "[Ljava/math/BigDecimal;" (.ref sp_76) := ((f141.keep Kp138 (ninS ne97 (ninS ne104 nin0))).keep Kp156 nin0)
        have f188 : Fld Z T156.heap b64 "com/example/slotwright/slotwright/Ledger" "remaining" "[Ljava/math/BigDecimal;" (.ref rm_76) := ((f142.keep Kp138 (ninS ne97 (ninS ne104 nin0))).keep Kp156 nin0)
        have f189 : Arv Z T156.heap sp_76 ks_76 (.object "java/math/BigDecimal") (2 : Int32) [(.ref t1_138), (.ref zz)] .null := (R138_0.keep Kp156 nin0)
        have f190 : Arv Z T156.heap rm_76 kr_76 (.object "java/math/BigDecimal") (2 : Int32) [(.ref t2_138), (.ref r_43)] .null := (R138_1.keep Kp156 nin0)
        have f191 : Ovr Z ks_76 "java/math/BigDecimal" := f145
        have f192 : Ovr Z kr_76 "java/math/BigDecimal" := f146
        have f193 : BDc Z T156.heap r_43 (p1.toInt64) (0 : Int32) := (((f131.keep Kp135 nin0).keep Kp138 (ninS ne95 (ninS ne102 nin0))).keep Kp156 nin0)
        obtain ⟨_, T184, Lc184, X184, hQ184, st184⟩ := own_callV X156 hx hZ40 (y := (⟨"com/example/slotwright/slotwright/Ledger", "charge", "(ILjava/math/BigDecimal;)V"⟩ : MethodName)) (z := (⟨"com/example/slotwright/slotwright/Ledger", "charge", "(ILjava/math/BigDecimal;)V"⟩ : MethodName)) hown40 (own_w hw 169 rfl) (own_w hw 170 rfl) (notFace_of_selects (args := #[]) (mvT hZ40 (own_w hw 172 rfl))) (own_w hw 172 rfl) (own_w hw 171 rfl) (own_w hw 93 rfl) (own_w hw 173 rfl) (by decide) (W := 0) (ccharge1 l Z a0 hw [] b64 r_156 sp_76 ks_76 rm_76 kr_76 t1_138 zz t2_138 r_43 (0 : Int64) (p1.toInt64) (p4.toInt64) wz T156.heap n0 zD0 zD1 Op156 f185 f187 f188 f189 f190 f191 f192 (zD5.ext Op156.2) f193 R156_0 g_sp_76 g_rm_76 R76_9 (Bk.ne Bk.zero (by decide)) (Bk.ne (Bk.i2l p1) (by decide)) (Bk.ne (Bk.i2l p4) (by decide)) (own_noflow Bk.zero (Bk.i2l p4) (by decide)) (Bk.ne ks186 (by decide)) (own_noflow (Bk.i2l p1) kn186 (by decide)) (Bk.ne kr186 (by decide))) (by decide) (by decide) rfl f185 (by decide) (by decide) (g := (mkF m 238 #[.val (.int p0), .val (.int p1), .val (.int p2), .val (.int p3), .val (.int p4), .val (.int p5), .val (.ref b1), .val (.ref b64), .val (.int (p5 &&& (1 : Int32))), .val (.int ((p5 >>> ((1 : Int32) &&& 31)) &&& (1 : Int32))), .val (.int ((p5 >>> ((2 : Int32) &&& 31)) &&& (1 : Int32))), .val (.long (((0 : Int64) + (p2.toInt64)) + (p3.toInt64))), .second, .val (.long (0 : Int64)), .second, .val (.int (own_ov (p0.toInt64) (p1.toInt64))), .val (.int (1 : Int32)), .val (.int (own_ov ((p0.toInt64) + (-(p2.toInt64))) (p1.toInt64))), .val (.int (1 : Int32)), .unset, .unset] [(.ref r_156), (.int ((p5 >>> ((2 : Int32) &&& 31)) &&& (1 : Int32))), (.ref b64)])) rfl (by rw [hml]; rfl) (argsL := [(.int ((p5 >>> ((2 : Int32) &&& 31)) &&& (1 : Int32))), (.ref r_156)]) (rest := []) (lenOf pd_22 rfl) rfl (by show 2 * 0 + _ ≤ _; exact Nat.le_of_eq rfl) (hb hby at_238) (by rw [hone186])
        obtain ⟨t1_184, t2_184, rfl, N184q, Kp184, Op184, R184_0, R184_1, R184_2, R184_3⟩ := hQ184
        have N184 := Fr.app N156 N184q
        refine Rch.st st184 ?_
        have f194 : BDc Z T156.heap t1_138 (((0 : Int64) + (p2.toInt64)) + (p3.toInt64)) (0 : Int32) := (R138_2.keep Kp156 nin0)
        have ne195 : t1_138 ≠ sp_76 := (Exa.neArv f194.1 f189 (own_w hw 200 rfl))
        have f196 : BDc Z T156.heap t2_138 (((p0.toInt64) + (-(p2.toInt64))) + (-(p3.toInt64))) (0 : Int32) := (R138_3.keep Kp156 nin0)
        have ne197 : t2_138 ≠ sp_76 := (Exa.neArv f196.1 f189 (own_w hw 200 rfl))
        have ne198 : r_156 ≠ sp_76 := (Exa.neArv R156_0.1 f189 (own_w hw 200 rfl))
        have ne199 : t1_138 ≠ rm_76 := (Exa.neArv f194.1 f190 (own_w hw 200 rfl))
        have ne200 : t2_138 ≠ rm_76 := (Exa.neArv f196.1 f190 (own_w hw 200 rfl))
        have ne201 : r_156 ≠ rm_76 := (Exa.neArv R156_0.1 f190 (own_w hw 200 rfl))
        have K202 : Keep h0 T184.heap [] := K157.trans Kp184 (allS (Or.inr sz_sp_76) (allS (Or.inr sz_rm_76) all0))
        refine Rch.st (fun _ hr => XS.iload X184.here hx rfl (hb hby at_241) rfl hr) ?_
        refine Rch.st (fun _ hr => XS.ifYes X184.here hx rfl (pc0 := 243) (pc' := 257) rfl (hb hby at_243) rfl ((if0 _ _).trans (feq hc158).2) (by decide) (by decide) hr) ?_
        refine Rch.st (fun _ hr => XS.lload X184.here hx rfl (hb hby at_257) rfl hr) ?_
        show Rch p.tables e below _ (T184.setTop (mkF m 259 #[.val (.int p0), .val (.int p1), .val (.int p2), .val (.int p3), .val (.int p4), .val (.int p5), .val (.ref b1), .val (.ref b64), .val (.int (p5 &&& (1 : Int32))), .val (.int ((p5 >>> ((1 : Int32) &&& 31)) &&& (1 : Int32))), .val (.int ((p5 >>> ((2 : Int32) &&& 31)) &&& (1 : Int32))), .val (.long (((0 : Int64) + (p2.toInt64)) + (p3.toInt64))), .second, .val (.long (0 : Int64)), .second, .val (.int (own_ov (p0.toInt64) (p1.toInt64))), .val (.int (1 : Int32)), .val (.int (own_ov ((p0.toInt64) + (-(p2.toInt64))) (p1.toInt64))), .val (.int (1 : Int32)), .unset, .unset] [(.long (0 : Int64))]))
        refine Rch.st (fun _ hr => XS.iload X184.here hx rfl (hb hby at_259) rfl hr) ?_
        refine Rch.st (fun _ hr => XS.i2l X184.here hx rfl (hb hby at_261) rfl hr) ?_
        refine Rch.st (fun _ hr => XS.ladd X184.here hx rfl (hb hby at_262) rfl hr) ?_
        refine Rch.st (fun _ hr => XS.lstore X184.here hx rfl (hb hby at_263) rfl (l' := #[.val (.int p0), .val (.int p1), .val (.int p2), .val (.int p3), .val (.int p4), .val (.int p5), .val (.ref b1), .val (.ref b64), .val (.int (p5 &&& (1 : Int32))), .val (.int ((p5 >>> ((1 : Int32) &&& 31)) &&& (1 : Int32))), .val (.int ((p5 >>> ((2 : Int32) &&& 31)) &&& (1 : Int32))), .val (.long (((0 : Int64) + (p2.toInt64)) + (p3.toInt64))), .second, .val (.long ((0 : Int64) + (p4.toInt64))), .second, .val (.int (own_ov (p0.toInt64) (p1.toInt64))), .val (.int (1 : Int32)), .val (.int (own_ov ((p0.toInt64) + (-(p2.toInt64))) (p1.toInt64))), .val (.int (1 : Int32)), .unset, .unset]) rfl hr) ?_
        show Rch p.tables e below _ (T184.setTop (mkF m 265 #[.val (.int p0), .val (.int p1), .val (.int p2), .val (.int p3), .val (.int p4), .val (.int p5), .val (.ref b1), .val (.ref b64), .val (.int (p5 &&& (1 : Int32))), .val (.int ((p5 >>> ((1 : Int32) &&& 31)) &&& (1 : Int32))), .val (.int ((p5 >>> ((2 : Int32) &&& 31)) &&& (1 : Int32))), .val (.long (((0 : Int64) + (p2.toInt64)) + (p3.toInt64))), .second, .val (.long ((0 : Int64) + (p4.toInt64))), .second, .val (.int (own_ov (p0.toInt64) (p1.toInt64))), .val (.int (1 : Int32)), .val (.int (own_ov ((p0.toInt64) + (-(p2.toInt64))) (p1.toInt64))), .val (.int (1 : Int32)), .unset, .unset] []))
        refine Rch.st (fun _ hr => XS.aload X184.here hx rfl (hb hby at_265) rfl rfl hr) ?_
        have f204 : Exa Z T184.heap b64 "com/example/slotwright/slotwright/Ledger" := (f185.keep Kp184)
        have f205 : Fld Z T184.heap b64 "com/example/slotwright/slotwright/Ledger" "remaining" "[Ljava/math/BigDecimal;" (.ref rm_76) := (f188.keep Kp184 (ninS ne97 (ninS ne104 nin0)))
        have f206 : BDc Z T184.heap t2_138 (((p0.toInt64) + (-(p2.toInt64))) + (-(p3.toInt64))) (0 : Int32) := (f196.keep Kp184 (ninS ne197 (ninS ne200 nin0)))
        obtain ⟨_, T203, Lc203, X203, hQ203, st203⟩ := own_callV X184 hx hZ40 (y := (⟨"com/example/slotwright/slotwright/Ledger", "overspent", "()I"⟩ : MethodName)) (z := (⟨"com/example/slotwright/slotwright/Ledger", "overspent", "()I"⟩ : MethodName)) hown40 (own_w hw 148 rfl) (own_w hw 149 rfl) (notFace_of_selects (args := #[]) (mvT hZ40 (own_w hw 151 rfl))) (own_w hw 151 rfl) (own_w hw 150 rfl) (own_w hw 93 rfl) (own_w hw 152 rfl) (by decide) (W := 0) (cover l Z a0 hw [] b64 rm_76 kr_76 t2_138 t2_184 (((p0.toInt64) + (-(p2.toInt64))) + (-(p3.toInt64))) ((p1.toInt64) + (-(p4.toInt64))) T184.heap n0 f205 R184_1 f206 R184_3 (Bk.ne kr140 (by decide)) (Bk.ne kr186 (by decide))) (by decide) (by decide) rfl f204 (by decide) (by decide) (g := (mkF m 267 #[.val (.int p0), .val (.int p1), .val (.int p2), .val (.int p3), .val (.int p4), .val (.int p5), .val (.ref b1), .val (.ref b64), .val (.int (p5 &&& (1 : Int32))), .val (.int ((p5 >>> ((1 : Int32) &&& 31)) &&& (1 : Int32))), .val (.int ((p5 >>> ((2 : Int32) &&& 31)) &&& (1 : Int32))), .val (.long (((0 : Int64) + (p2.toInt64)) + (p3.toInt64))), .second, .val (.long ((0 : Int64) + (p4.toInt64))), .second, .val (.int (own_ov (p0.toInt64) (p1.toInt64))), .val (.int (1 : Int32)), .val (.int (own_ov ((p0.toInt64) + (-(p2.toInt64))) (p1.toInt64))), .val (.int (1 : Int32)), .unset, .unset] [(.ref b64)])) rfl (by rw [hml]; rfl) (argsL := []) (rest := []) (lenOf pd_14 rfl) rfl (by show 2 * 0 + _ ≤ _; exact Nat.le_of_eq rfl) (hb hby at_267) rfl
        obtain ⟨rfl, N203q, e203⟩ := hQ203
        have N203 := Fr.app N184 N203q
        refine Rch.st st203 ?_
        refine Rch.st (fun _ hr => XS.istore X203.here hx rfl (hb hby at_270) rfl (l' := #[.val (.int p0), .val (.int p1), .val (.int p2), .val (.int p3), .val (.int p4), .val (.int p5), .val (.ref b1), .val (.ref b64), .val (.int (p5 &&& (1 : Int32))), .val (.int ((p5 >>> ((1 : Int32) &&& 31)) &&& (1 : Int32))), .val (.int ((p5 >>> ((2 : Int32) &&& 31)) &&& (1 : Int32))), .val (.long (((0 : Int64) + (p2.toInt64)) + (p3.toInt64))), .second, .val (.long ((0 : Int64) + (p4.toInt64))), .second, .val (.int (own_ov (p0.toInt64) (p1.toInt64))), .val (.int (1 : Int32)), .val (.int (own_ov ((p0.toInt64) + (-(p2.toInt64))) (p1.toInt64))), .val (.int (1 : Int32)), .val (.int (own_ov (((p0.toInt64) + (-(p2.toInt64))) + (-(p3.toInt64))) ((p1.toInt64) + (-(p4.toInt64))))), .unset]) rfl hr) ?_
        refine Rch.st (fun _ hr => XS.iload X203.here hx rfl (hb hby at_272) rfl hr) ?_
        show Rch p.tables e below _ (T203.setTop (mkF m 274 #[.val (.int p0), .val (.int p1), .val (.int p2), .val (.int p3), .val (.int p4), .val (.int p5), .val (.ref b1), .val (.ref b64), .val (.int (p5 &&& (1 : Int32))), .val (.int ((p5 >>> ((1 : Int32) &&& 31)) &&& (1 : Int32))), .val (.int ((p5 >>> ((2 : Int32) &&& 31)) &&& (1 : Int32))), .val (.long (((0 : Int64) + (p2.toInt64)) + (p3.toInt64))), .second, .val (.long ((0 : Int64) + (p4.toInt64))), .second, .val (.int (own_ov (p0.toInt64) (p1.toInt64))), .val (.int (1 : Int32)), .val (.int (own_ov ((p0.toInt64) + (-(p2.toInt64))) (p1.toInt64))), .val (.int (1 : Int32)), .val (.int (own_ov (((p0.toInt64) + (-(p2.toInt64))) + (-(p3.toInt64))) ((p1.toInt64) + (-(p4.toInt64))))), .unset] [(.int (own_ov (((p0.toInt64) + (-(p2.toInt64))) + (-(p3.toInt64))) ((p1.toInt64) + (-(p4.toInt64)))))]))
        refine Rch.st (fun _ hr => XS.lload X203.here hx rfl (hb hby at_274) rfl hr) ?_
        refine Rch.st (fun _ hr => XS.iloadN X203.here hx rfl (hb hby at_276) rfl hr) ?_
        refine Rch.st (fun _ hr => XS.i2l X203.here hx rfl (hb hby at_277) rfl hr) ?_
        obtain ⟨_, T207, Lc207, X207, hQ207, st207⟩ := own_callS X203 hx hZ40 (y := (⟨"com/example/slotwright/slotwright/LedgerOverspentPinLaw", "over", "(JJ)I"⟩ : MethodName)) hown40 (own_w hw 165 rfl) (own_w hw 166 rfl) (own_w hw 167 rfl) (own_w hw 168 rfl) (by decide) (W := 1) (cov l Z a0 hw [] (((0 : Int64) + (p2.toInt64)) + (p3.toInt64)) (p0.toInt64) T184.heap n0 ) (by decide) (by decide) e203 (by decide) (by decide) (g := (mkF m 278 #[.val (.int p0), .val (.int p1), .val (.int p2), .val (.int p3), .val (.int p4), .val (.int p5), .val (.ref b1), .val (.ref b64), .val (.int (p5 &&& (1 : Int32))), .val (.int ((p5 >>> ((1 : Int32) &&& 31)) &&& (1 : Int32))), .val (.int ((p5 >>> ((2 : Int32) &&& 31)) &&& (1 : Int32))), .val (.long (((0 : Int64) + (p2.toInt64)) + (p3.toInt64))), .second, .val (.long ((0 : Int64) + (p4.toInt64))), .second, .val (.int (own_ov (p0.toInt64) (p1.toInt64))), .val (.int (1 : Int32)), .val (.int (own_ov ((p0.toInt64) + (-(p2.toInt64))) (p1.toInt64))), .val (.int (1 : Int32)), .val (.int (own_ov (((p0.toInt64) + (-(p2.toInt64))) + (-(p3.toInt64))) ((p1.toInt64) + (-(p4.toInt64))))), .unset] [(.long (p0.toInt64)), (.long (((0 : Int64) + (p2.toInt64)) + (p3.toInt64))), (.int (own_ov (((p0.toInt64) + (-(p2.toInt64))) + (-(p3.toInt64))) ((p1.toInt64) + (-(p4.toInt64)))))])) rfl (by rw [hml]; rfl) (argsL := [(.long (((0 : Int64) + (p2.toInt64)) + (p3.toInt64))), (.long (p0.toInt64))]) (rest := [(.int (own_ov (((p0.toInt64) + (-(p2.toInt64))) + (-(p3.toInt64))) ((p1.toInt64) + (-(p4.toInt64)))))]) (lenOf pd_21 rfl) rfl (by show 2 * 0 + _ ≤ _; exact Nat.le_of_eq rfl) (hb hby at_278) rfl
        obtain ⟨rfl, N207q, e207⟩ := hQ207
        have N207 := Fr.app N203 N207q
        refine Rch.st st207 ?_
        show Rch p.tables e below _ (T207.setTop (mkF m 281 #[.val (.int p0), .val (.int p1), .val (.int p2), .val (.int p3), .val (.int p4), .val (.int p5), .val (.ref b1), .val (.ref b64), .val (.int (p5 &&& (1 : Int32))), .val (.int ((p5 >>> ((1 : Int32) &&& 31)) &&& (1 : Int32))), .val (.int ((p5 >>> ((2 : Int32) &&& 31)) &&& (1 : Int32))), .val (.long (((0 : Int64) + (p2.toInt64)) + (p3.toInt64))), .second, .val (.long ((0 : Int64) + (p4.toInt64))), .second, .val (.int (own_ov (p0.toInt64) (p1.toInt64))), .val (.int (1 : Int32)), .val (.int (own_ov ((p0.toInt64) + (-(p2.toInt64))) (p1.toInt64))), .val (.int (1 : Int32)), .val (.int (own_ov (((p0.toInt64) + (-(p2.toInt64))) + (-(p3.toInt64))) ((p1.toInt64) + (-(p4.toInt64))))), .unset] [(.int (own_over (((0 : Int64) + (p2.toInt64)) + (p3.toInt64)) (p0.toInt64))), (.int (own_ov (((p0.toInt64) + (-(p2.toInt64))) + (-(p3.toInt64))) ((p1.toInt64) + (-(p4.toInt64)))))]))
        refine Rch.st (fun _ hr => XS.lload X207.here hx rfl (hb hby at_281) rfl hr) ?_
        refine Rch.st (fun _ hr => XS.iloadN X207.here hx rfl (hb hby at_283) rfl hr) ?_
        refine Rch.st (fun _ hr => XS.i2l X207.here hx rfl (hb hby at_284) rfl hr) ?_
        obtain ⟨_, T208, Lc208, X208, hQ208, st208⟩ := own_callS X207 hx hZ40 (y := (⟨"com/example/slotwright/slotwright/LedgerOverspentPinLaw", "over", "(JJ)I"⟩ : MethodName)) hown40 (own_w hw 165 rfl) (own_w hw 166 rfl) (own_w hw 167 rfl) (own_w hw 168 rfl) (by decide) (W := 2) (cov l Z a0 hw [] ((0 : Int64) + (p4.toInt64)) (p1.toInt64) T184.heap n0 ) (by decide) (by decide) e207 (by decide) (by decide) (g := (mkF m 285 #[.val (.int p0), .val (.int p1), .val (.int p2), .val (.int p3), .val (.int p4), .val (.int p5), .val (.ref b1), .val (.ref b64), .val (.int (p5 &&& (1 : Int32))), .val (.int ((p5 >>> ((1 : Int32) &&& 31)) &&& (1 : Int32))), .val (.int ((p5 >>> ((2 : Int32) &&& 31)) &&& (1 : Int32))), .val (.long (((0 : Int64) + (p2.toInt64)) + (p3.toInt64))), .second, .val (.long ((0 : Int64) + (p4.toInt64))), .second, .val (.int (own_ov (p0.toInt64) (p1.toInt64))), .val (.int (1 : Int32)), .val (.int (own_ov ((p0.toInt64) + (-(p2.toInt64))) (p1.toInt64))), .val (.int (1 : Int32)), .val (.int (own_ov (((p0.toInt64) + (-(p2.toInt64))) + (-(p3.toInt64))) ((p1.toInt64) + (-(p4.toInt64))))), .unset] [(.long (p1.toInt64)), (.long ((0 : Int64) + (p4.toInt64))), (.int (own_over (((0 : Int64) + (p2.toInt64)) + (p3.toInt64)) (p0.toInt64))), (.int (own_ov (((p0.toInt64) + (-(p2.toInt64))) + (-(p3.toInt64))) ((p1.toInt64) + (-(p4.toInt64)))))])) rfl (by rw [hml]; rfl) (argsL := [(.long ((0 : Int64) + (p4.toInt64))), (.long (p1.toInt64))]) (rest := [(.int (own_over (((0 : Int64) + (p2.toInt64)) + (p3.toInt64)) (p0.toInt64))), (.int (own_ov (((p0.toInt64) + (-(p2.toInt64))) + (-(p3.toInt64))) ((p1.toInt64) + (-(p4.toInt64)))))]) (lenOf pd_21 rfl) rfl (by show 2 * 0 + _ ≤ _; exact Nat.le_of_eq rfl) (hb hby at_285) rfl
        obtain ⟨rfl, N208q, e208⟩ := hQ208
        have N208 := Fr.app N207 N208q
        refine Rch.st st208 ?_
        show Rch p.tables e below _ (T208.setTop (mkF m 288 #[.val (.int p0), .val (.int p1), .val (.int p2), .val (.int p3), .val (.int p4), .val (.int p5), .val (.ref b1), .val (.ref b64), .val (.int (p5 &&& (1 : Int32))), .val (.int ((p5 >>> ((1 : Int32) &&& 31)) &&& (1 : Int32))), .val (.int ((p5 >>> ((2 : Int32) &&& 31)) &&& (1 : Int32))), .val (.long (((0 : Int64) + (p2.toInt64)) + (p3.toInt64))), .second, .val (.long ((0 : Int64) + (p4.toInt64))), .second, .val (.int (own_ov (p0.toInt64) (p1.toInt64))), .val (.int (1 : Int32)), .val (.int (own_ov ((p0.toInt64) + (-(p2.toInt64))) (p1.toInt64))), .val (.int (1 : Int32)), .val (.int (own_ov (((p0.toInt64) + (-(p2.toInt64))) + (-(p3.toInt64))) ((p1.toInt64) + (-(p4.toInt64))))), .unset] [(.int (own_over ((0 : Int64) + (p4.toInt64)) (p1.toInt64))), (.int (own_over (((0 : Int64) + (p2.toInt64)) + (p3.toInt64)) (p0.toInt64))), (.int (own_ov (((p0.toInt64) + (-(p2.toInt64))) + (-(p3.toInt64))) ((p1.toInt64) + (-(p4.toInt64)))))]))
        refine Rch.st (fun _ hr => XS.iadd X208.here hx rfl (hb hby at_288) rfl hr) ?_
        have hk209 : (own_ov (((p0.toInt64) + (-(p2.toInt64))) + (-(p3.toInt64))) ((p1.toInt64) + (-(p4.toInt64)))) = ((own_over (((0 : Int64) + (p2.toInt64)) + (p3.toInt64)) (p0.toInt64)) + (own_over ((0 : Int64) + (p4.toInt64)) (p1.toInt64))) := own_cmp iv140 iv186
        refine Rch.st (fun _ hr => XS.icmpNo X208.here hx rfl (hb hby at_289) rfl (teq hk209).2 hr) ?_
        refine Rch.st (fun _ hr => XS.iconst X208.here hx rfl (hb hby at_292) hr) ?_
        refine Rch.st (fun _ hr => XS.goto X208.here hx rfl (pc0 := 293) (pc' := 297) rfl (hb hby at_293) (by decide) (by decide) hr) ?_
        show Rch p.tables e below _ (T208.setTop (mkF m 297 #[.val (.int p0), .val (.int p1), .val (.int p2), .val (.int p3), .val (.int p4), .val (.int p5), .val (.ref b1), .val (.ref b64), .val (.int (p5 &&& (1 : Int32))), .val (.int ((p5 >>> ((1 : Int32) &&& 31)) &&& (1 : Int32))), .val (.int ((p5 >>> ((2 : Int32) &&& 31)) &&& (1 : Int32))), .val (.long (((0 : Int64) + (p2.toInt64)) + (p3.toInt64))), .second, .val (.long ((0 : Int64) + (p4.toInt64))), .second, .val (.int (own_ov (p0.toInt64) (p1.toInt64))), .val (.int (1 : Int32)), .val (.int (own_ov ((p0.toInt64) + (-(p2.toInt64))) (p1.toInt64))), .val (.int (1 : Int32)), .val (.int (own_ov (((p0.toInt64) + (-(p2.toInt64))) + (-(p3.toInt64))) ((p1.toInt64) + (-(p4.toInt64))))), .unset] [(.int (1 : Int32))]))
        refine Rch.st (fun _ hr => XS.istore X208.here hx rfl (hb hby at_297) rfl (l' := #[.val (.int p0), .val (.int p1), .val (.int p2), .val (.int p3), .val (.int p4), .val (.int p5), .val (.ref b1), .val (.ref b64), .val (.int (p5 &&& (1 : Int32))), .val (.int ((p5 >>> ((1 : Int32) &&& 31)) &&& (1 : Int32))), .val (.int ((p5 >>> ((2 : Int32) &&& 31)) &&& (1 : Int32))), .val (.long (((0 : Int64) + (p2.toInt64)) + (p3.toInt64))), .second, .val (.long ((0 : Int64) + (p4.toInt64))), .second, .val (.int (own_ov (p0.toInt64) (p1.toInt64))), .val (.int (1 : Int32)), .val (.int (own_ov ((p0.toInt64) + (-(p2.toInt64))) (p1.toInt64))), .val (.int (1 : Int32)), .val (.int (own_ov (((p0.toInt64) + (-(p2.toInt64))) + (-(p3.toInt64))) ((p1.toInt64) + (-(p4.toInt64))))), .val (.int (1 : Int32))]) rfl hr) ?_
        refine Rch.st (fun _ hr => XS.iload X208.here hx rfl (hb hby at_299) rfl hr) ?_
        refine Rch.st (fun _ hr => XS.ifNo X208.here hx rfl (hb hby at_301) rfl ((if0 _ _).trans (feq (by decide : ¬ ((1 : Int32) = (0 : Int32)))).1) hr) ?_
        refine Rch.st (fun _ hr => XS.iload X208.here hx rfl (hb hby at_304) rfl hr) ?_
        show Rch p.tables e below _ (T208.setTop (mkF m 306 #[.val (.int p0), .val (.int p1), .val (.int p2), .val (.int p3), .val (.int p4), .val (.int p5), .val (.ref b1), .val (.ref b64), .val (.int (p5 &&& (1 : Int32))), .val (.int ((p5 >>> ((1 : Int32) &&& 31)) &&& (1 : Int32))), .val (.int ((p5 >>> ((2 : Int32) &&& 31)) &&& (1 : Int32))), .val (.long (((0 : Int64) + (p2.toInt64)) + (p3.toInt64))), .second, .val (.long ((0 : Int64) + (p4.toInt64))), .second, .val (.int (own_ov (p0.toInt64) (p1.toInt64))), .val (.int (1 : Int32)), .val (.int (own_ov ((p0.toInt64) + (-(p2.toInt64))) (p1.toInt64))), .val (.int (1 : Int32)), .val (.int (own_ov (((p0.toInt64) + (-(p2.toInt64))) + (-(p3.toInt64))) ((p1.toInt64) + (-(p4.toInt64))))), .val (.int (1 : Int32))] [(.int (1 : Int32))]))
        refine Rch.st (fun _ hr => XS.ifNo X208.here hx rfl (hb hby at_306) rfl ((if0 _ _).trans (feq (by decide : ¬ ((1 : Int32) = (0 : Int32)))).1) hr) ?_
        refine Rch.st (fun _ hr => XS.iload X208.here hx rfl (hb hby at_309) rfl hr) ?_
        refine Rch.st (fun _ hr => XS.ifNo X208.here hx rfl (hb hby at_311) rfl ((if0 _ _).trans (feq (by decide : ¬ ((1 : Int32) = (0 : Int32)))).1) hr) ?_
        refine Rch.st (fun _ hr => XS.iconst X208.here hx rfl (hb hby at_314) hr) ?_
        show Rch p.tables e below _ (T208.setTop (mkF m 315 #[.val (.int p0), .val (.int p1), .val (.int p2), .val (.int p3), .val (.int p4), .val (.int p5), .val (.ref b1), .val (.ref b64), .val (.int (p5 &&& (1 : Int32))), .val (.int ((p5 >>> ((1 : Int32) &&& 31)) &&& (1 : Int32))), .val (.int ((p5 >>> ((2 : Int32) &&& 31)) &&& (1 : Int32))), .val (.long (((0 : Int64) + (p2.toInt64)) + (p3.toInt64))), .second, .val (.long ((0 : Int64) + (p4.toInt64))), .second, .val (.int (own_ov (p0.toInt64) (p1.toInt64))), .val (.int (1 : Int32)), .val (.int (own_ov ((p0.toInt64) + (-(p2.toInt64))) (p1.toInt64))), .val (.int (1 : Int32)), .val (.int (own_ov (((p0.toInt64) + (-(p2.toInt64))) + (-(p3.toInt64))) ((p1.toInt64) + (-(p4.toInt64))))), .val (.int (1 : Int32))] [(.int (1 : Int32))]))
        refine Rch.st (fun _ hr => XS.goto X208.here hx rfl (pc0 := 315) (pc' := 319) rfl (hb hby at_315) (by decide) (by decide) hr) ?_
        obtain ⟨fs, hr, hrun, hended, hREW⟩ := Jvm.Stand.leaveW (s := s) X208 hS40 (by rw [e208]; exact (Nat.le_trans (Nat.le_trans (Nat.le_trans (Nat.le_trans (Nat.le_trans (Nat.le_trans (Nat.le_trans (Nat.le_trans (Nat.le_trans (Nat.le_trans (Nat.le_trans hk40 Kp43.1) Kp46.1) Kp52.1) E64.1) Kp76.1) Kp112.1) Kp115.1) Kp135.1) Kp138.1) Kp156.1) Kp184.1)) (v := some (.int (1 : Int32))) (fun h => by rw [Bd.returns] at h; cases h)
        refine Rch.fin (u := T208.setFrames fs) (retN X208 hx (t := .boolean) Bd.returns (by simp) (hb hby at_319) hr) ⟨_, hrun, hended, _, _, rfl, ?_, hREW.1, hREW.2.1, hREW.2.2.1, hREW.2.2.2.mono (by decide) (by decide)⟩
        show Q_claw Z p0 p1 p2 p3 p4 p5 wz de kde zz h0 n0 _ T208.heap _
        rw [e208]
        exact ⟨rfl, N208, K202, Op184⟩
    · show Rch p.tables e below _ (T135.setTop (mkF m 203 #[.val (.int p0), .val (.int p1), .val (.int p2), .val (.int p3), .val (.int p4), .val (.int p5), .val (.ref b1), .val (.ref b64), .val (.int (p5 &&& (1 : Int32))), .val (.int ((p5 >>> ((1 : Int32) &&& 31)) &&& (1 : Int32))), .val (.int ((p5 >>> ((2 : Int32) &&& 31)) &&& (1 : Int32))), .val (.long ((0 : Int64) + (p2.toInt64))), .second, .val (.long (0 : Int64)), .second, .val (.int (own_ov (p0.toInt64) (p1.toInt64))), .val (.int (1 : Int32)), .val (.int (own_ov ((p0.toInt64) + (-(p2.toInt64))) (p1.toInt64))), .val (.int (1 : Int32)), .unset, .unset] [(.ref r_135), (.int ((p5 >>> ((1 : Int32) &&& 31)) &&& (1 : Int32))), (.ref b64)]))
      have f211 : Exa Z T135.heap b64 "com/example/slotwright/slotwright/Ledger" := (f129.keep Kp135)
      have hone212 : ((p5 >>> ((1 : Int32) &&& 31)) &&& (1 : Int32)) = (1 : Int32) := (and_one _).resolve_left hc137
      obtain ⟨ts212, ks212⟩ := Bk.add Bk.zero (Bk.i2l p3) (by decide)
      obtain ⟨tn212, kn212⟩ := Bk.neg (Bk.i2l p3) (by decide)
      obtain ⟨tr212, kr212⟩ := Bk.add (Bk.i2l p1) kn212 (by decide)
      have iv212 := own_inv (own_inv0 (p1.toInt64)) ts212 tn212 tr212
      have f213 : Fld Z T135.heap b64 "com/example/slotwright/slotwright/Ledger" "spent" "[Ljava/math/BigDecimal;" (.ref sp_76) := ((f118.keep Kp115 (ninS ne97 (ninS ne104 nin0))).keep Kp135 nin0)
      have f214 : Fld Z T135.heap b64 "com/example/slotwright/slotwright/Ledger" "remaining" "[Ljava/math/BigDecimal;" (.ref rm_76) := (f130.keep Kp135 nin0)
      have f215 : Arv Z T135.heap sp_76 ks_76 (.object "java/math/BigDecimal") (2 : Int32) [(.ref t1_115), (.ref zz)] .null := (R115_0.keep Kp135 nin0)
      have f216 : Arv Z T135.heap rm_76 kr_76 (.object "java/math/BigDecimal") (2 : Int32) [(.ref t2_115), (.ref r_43)] .null := (R115_1.keep Kp135 nin0)
      have f217 : Ovr Z ks_76 "java/math/BigDecimal" := f122
      have f218 : Ovr Z kr_76 "java/math/BigDecimal" := f123
      have f219 : BDc Z T135.heap r_43 (p1.toInt64) (0 : Int32) := (f131.keep Kp135 nin0)
      obtain ⟨_, T210, Lc210, X210, hQ210, st210⟩ := own_callV X135 hx hZ40 (y := (⟨"com/example/slotwright/slotwright/Ledger", "charge", "(ILjava/math/BigDecimal;)V"⟩ : MethodName)) (z := (⟨"com/example/slotwright/slotwright/Ledger", "charge", "(ILjava/math/BigDecimal;)V"⟩ : MethodName)) hown40 (own_w hw 169 rfl) (own_w hw 170 rfl) (notFace_of_selects (args := #[]) (mvT hZ40 (own_w hw 172 rfl))) (own_w hw 172 rfl) (own_w hw 171 rfl) (own_w hw 93 rfl) (own_w hw 173 rfl) (by decide) (W := 0) (ccharge1 l Z a0 hw [] b64 r_135 sp_76 ks_76 rm_76 kr_76 t1_115 zz t2_115 r_43 (0 : Int64) (p1.toInt64) (p3.toInt64) wz T135.heap n0 zD0 zD1 Op135 f211 f213 f214 f215 f216 f217 f218 (zD5.ext Op135.2) f219 R135_0 g_sp_76 g_rm_76 R76_9 (Bk.ne Bk.zero (by decide)) (Bk.ne (Bk.i2l p1) (by decide)) (Bk.ne (Bk.i2l p3) (by decide)) (own_noflow Bk.zero (Bk.i2l p3) (by decide)) (Bk.ne ks212 (by decide)) (own_noflow (Bk.i2l p1) kn212 (by decide)) (Bk.ne kr212 (by decide))) (by decide) (by decide) rfl f211 (by decide) (by decide) (g := (mkF m 203 #[.val (.int p0), .val (.int p1), .val (.int p2), .val (.int p3), .val (.int p4), .val (.int p5), .val (.ref b1), .val (.ref b64), .val (.int (p5 &&& (1 : Int32))), .val (.int ((p5 >>> ((1 : Int32) &&& 31)) &&& (1 : Int32))), .val (.int ((p5 >>> ((2 : Int32) &&& 31)) &&& (1 : Int32))), .val (.long ((0 : Int64) + (p2.toInt64))), .second, .val (.long (0 : Int64)), .second, .val (.int (own_ov (p0.toInt64) (p1.toInt64))), .val (.int (1 : Int32)), .val (.int (own_ov ((p0.toInt64) + (-(p2.toInt64))) (p1.toInt64))), .val (.int (1 : Int32)), .unset, .unset] [(.ref r_135), (.int ((p5 >>> ((1 : Int32) &&& 31)) &&& (1 : Int32))), (.ref b64)])) rfl (by rw [hml]; rfl) (argsL := [(.int ((p5 >>> ((1 : Int32) &&& 31)) &&& (1 : Int32))), (.ref r_135)]) (rest := []) (lenOf pd_22 rfl) rfl (by show 2 * 0 + _ ≤ _; exact Nat.le_of_eq rfl) (hb hby at_203) (by rw [hone212])
      obtain ⟨t1_210, t2_210, rfl, N210q, Kp210, Op210, R210_0, R210_1, R210_2, R210_3⟩ := hQ210
      have N210 := Fr.app N135 N210q
      refine Rch.st st210 ?_
      have f220 : BDc Z T135.heap t1_115 ((0 : Int64) + (p2.toInt64)) (0 : Int32) := (R115_2.keep Kp135 nin0)
      have ne221 : t1_115 ≠ sp_76 := (Exa.neArv f220.1 f215 (own_w hw 200 rfl))
      have f222 : BDc Z T135.heap t2_115 ((p0.toInt64) + (-(p2.toInt64))) (0 : Int32) := (R115_3.keep Kp135 nin0)
      have ne223 : t2_115 ≠ sp_76 := (Exa.neArv f222.1 f215 (own_w hw 200 rfl))
      have ne224 : r_135 ≠ sp_76 := (Exa.neArv R135_0.1 f215 (own_w hw 200 rfl))
      have ne225 : t1_115 ≠ rm_76 := (Exa.neArv f220.1 f216 (own_w hw 200 rfl))
      have ne226 : t2_115 ≠ rm_76 := (Exa.neArv f222.1 f216 (own_w hw 200 rfl))
      have ne227 : r_135 ≠ rm_76 := (Exa.neArv R135_0.1 f216 (own_w hw 200 rfl))
      have K228 : Keep h0 T210.heap [] := K136.trans Kp210 (allS (Or.inr sz_sp_76) (allS (Or.inr sz_rm_76) all0))
      refine Rch.st (fun _ hr => XS.iload X210.here hx rfl (hb hby at_206) rfl hr) ?_
      refine Rch.st (fun _ hr => XS.ifYes X210.here hx rfl (pc0 := 208) (pc' := 221) rfl (hb hby at_208) rfl ((if0 _ _).trans (feq hc137).2) (by decide) (by decide) hr) ?_
      refine Rch.st (fun _ hr => XS.lload X210.here hx rfl (hb hby at_221) rfl hr) ?_
      show Rch p.tables e below _ (T210.setTop (mkF m 223 #[.val (.int p0), .val (.int p1), .val (.int p2), .val (.int p3), .val (.int p4), .val (.int p5), .val (.ref b1), .val (.ref b64), .val (.int (p5 &&& (1 : Int32))), .val (.int ((p5 >>> ((1 : Int32) &&& 31)) &&& (1 : Int32))), .val (.int ((p5 >>> ((2 : Int32) &&& 31)) &&& (1 : Int32))), .val (.long ((0 : Int64) + (p2.toInt64))), .second, .val (.long (0 : Int64)), .second, .val (.int (own_ov (p0.toInt64) (p1.toInt64))), .val (.int (1 : Int32)), .val (.int (own_ov ((p0.toInt64) + (-(p2.toInt64))) (p1.toInt64))), .val (.int (1 : Int32)), .unset, .unset] [(.long (0 : Int64))]))
      refine Rch.st (fun _ hr => XS.iloadN X210.here hx rfl (hb hby at_223) rfl hr) ?_
      refine Rch.st (fun _ hr => XS.i2l X210.here hx rfl (hb hby at_224) rfl hr) ?_
      refine Rch.st (fun _ hr => XS.ladd X210.here hx rfl (hb hby at_225) rfl hr) ?_
      refine Rch.st (fun _ hr => XS.lstore X210.here hx rfl (hb hby at_226) rfl (l' := #[.val (.int p0), .val (.int p1), .val (.int p2), .val (.int p3), .val (.int p4), .val (.int p5), .val (.ref b1), .val (.ref b64), .val (.int (p5 &&& (1 : Int32))), .val (.int ((p5 >>> ((1 : Int32) &&& 31)) &&& (1 : Int32))), .val (.int ((p5 >>> ((2 : Int32) &&& 31)) &&& (1 : Int32))), .val (.long ((0 : Int64) + (p2.toInt64))), .second, .val (.long ((0 : Int64) + (p3.toInt64))), .second, .val (.int (own_ov (p0.toInt64) (p1.toInt64))), .val (.int (1 : Int32)), .val (.int (own_ov ((p0.toInt64) + (-(p2.toInt64))) (p1.toInt64))), .val (.int (1 : Int32)), .unset, .unset]) rfl hr) ?_
      show Rch p.tables e below _ (T210.setTop (mkF m 228 #[.val (.int p0), .val (.int p1), .val (.int p2), .val (.int p3), .val (.int p4), .val (.int p5), .val (.ref b1), .val (.ref b64), .val (.int (p5 &&& (1 : Int32))), .val (.int ((p5 >>> ((1 : Int32) &&& 31)) &&& (1 : Int32))), .val (.int ((p5 >>> ((2 : Int32) &&& 31)) &&& (1 : Int32))), .val (.long ((0 : Int64) + (p2.toInt64))), .second, .val (.long ((0 : Int64) + (p3.toInt64))), .second, .val (.int (own_ov (p0.toInt64) (p1.toInt64))), .val (.int (1 : Int32)), .val (.int (own_ov ((p0.toInt64) + (-(p2.toInt64))) (p1.toInt64))), .val (.int (1 : Int32)), .unset, .unset] []))
      refine Rch.st (fun _ hr => XS.aload X210.here hx rfl (hb hby at_228) rfl rfl hr) ?_
      refine Rch.st (fun _ hr => XS.iload X210.here hx rfl (hb hby at_230) rfl hr) ?_
      refine Rch.st (fun _ hr => XS.iload X210.here hx rfl (hb hby at_232) rfl hr) ?_
      refine Rch.st (fun _ hr => XS.i2l X210.here hx rfl (hb hby at_234) rfl hr) ?_
      show Rch p.tables e below _ (T210.setTop (mkF m 235 #[.val (.int p0), .val (.int p1), .val (.int p2), .val (.int p3), .val (.int p4), .val (.int p5), .val (.ref b1), .val (.ref b64), .val (.int (p5 &&& (1 : Int32))), .val (.int ((p5 >>> ((1 : Int32) &&& 31)) &&& (1 : Int32))), .val (.int ((p5 >>> ((2 : Int32) &&& 31)) &&& (1 : Int32))), .val (.long ((0 : Int64) + (p2.toInt64))), .second, .val (.long ((0 : Int64) + (p3.toInt64))), .second, .val (.int (own_ov (p0.toInt64) (p1.toInt64))), .val (.int (1 : Int32)), .val (.int (own_ov ((p0.toInt64) + (-(p2.toInt64))) (p1.toInt64))), .val (.int (1 : Int32)), .unset, .unset] [(.long (p4.toInt64)), (.int ((p5 >>> ((2 : Int32) &&& 31)) &&& (1 : Int32))), (.ref b64)]))
      obtain ⟨_, T229, Lc229, X229, hQ229, st229⟩ := own_callS X210 hx hZ40 (y := (⟨"java/math/BigDecimal", "valueOf", "(J)Ljava/math/BigDecimal;"⟩ : MethodName)) hown40 (own_w hw 37 rfl) (own_w hw 38 rfl) (own_w hw 39 rfl) (own_w hw 40 rfl) (by decide) (W := 2) (cvalueOf l Z a0 hw [] (p4.toInt64) wz T210.heap n0 zD0 zD1 Op210 (Bk.ne (Bk.i2l p4) (by decide))) (by decide) (by decide) rfl (by decide) (by decide) (g := (mkF m 235 #[.val (.int p0), .val (.int p1), .val (.int p2), .val (.int p3), .val (.int p4), .val (.int p5), .val (.ref b1), .val (.ref b64), .val (.int (p5 &&& (1 : Int32))), .val (.int ((p5 >>> ((1 : Int32) &&& 31)) &&& (1 : Int32))), .val (.int ((p5 >>> ((2 : Int32) &&& 31)) &&& (1 : Int32))), .val (.long ((0 : Int64) + (p2.toInt64))), .second, .val (.long ((0 : Int64) + (p3.toInt64))), .second, .val (.int (own_ov (p0.toInt64) (p1.toInt64))), .val (.int (1 : Int32)), .val (.int (own_ov ((p0.toInt64) + (-(p2.toInt64))) (p1.toInt64))), .val (.int (1 : Int32)), .unset, .unset] [(.long (p4.toInt64)), (.int ((p5 >>> ((2 : Int32) &&& 31)) &&& (1 : Int32))), (.ref b64)])) rfl (by rw [hml]; rfl) (argsL := [(.long (p4.toInt64))]) (rest := [(.int ((p5 >>> ((2 : Int32) &&& 31)) &&& (1 : Int32))), (.ref b64)]) (lenOf pd_2 rfl) rfl (by show 2 * 0 + _ ≤ _; exact Nat.le_of_eq rfl) (hb hby at_235) rfl
      obtain ⟨r_229, rfl, N229q, Kp229, Op229, R229_0⟩ := hQ229
      have N229 := Fr.app N210 N229q
      refine Rch.st st229 ?_
      have K230 : Keep h0 T229.heap [] := K228.trans Kp229 all0
      by_cases hc231 : ((p5 >>> ((2 : Int32) &&& 31)) &&& (1 : Int32)) = (0 : Int32)
      · show Rch p.tables e below _ (T229.setTop (mkF m 238 #[.val (.int p0), .val (.int p1), .val (.int p2), .val (.int p3), .val (.int p4), .val (.int p5), .val (.ref b1), .val (.ref b64), .val (.int (p5 &&& (1 : Int32))), .val (.int ((p5 >>> ((1 : Int32) &&& 31)) &&& (1 : Int32))), .val (.int ((p5 >>> ((2 : Int32) &&& 31)) &&& (1 : Int32))), .val (.long ((0 : Int64) + (p2.toInt64))), .second, .val (.long ((0 : Int64) + (p3.toInt64))), .second, .val (.int (own_ov (p0.toInt64) (p1.toInt64))), .val (.int (1 : Int32)), .val (.int (own_ov ((p0.toInt64) + (-(p2.toInt64))) (p1.toInt64))), .val (.int (1 : Int32)), .unset, .unset] [(.ref r_229), (.int ((p5 >>> ((2 : Int32) &&& 31)) &&& (1 : Int32))), (.ref b64)]))
        have f233 : Exa Z T229.heap b64 "com/example/slotwright/slotwright/Ledger" := ((f211.keep Kp210).keep Kp229)
        obtain ⟨ts234, ks234⟩ := Bk.add ks117 (Bk.i2l p4) (by decide)
        obtain ⟨tn234, kn234⟩ := Bk.neg (Bk.i2l p4) (by decide)
        obtain ⟨tr234, kr234⟩ := Bk.add kr117 kn234 (by decide)
        have iv234 := own_inv iv117 ts234 tn234 tr234
        have f235 : Fld Z T229.heap b64 "com/example/slotwright/slotwright/Ledger" "spent" "[Ljava/math/BigDecimal;" (.ref sp_76) := ((f213.keep Kp210 (ninS ne97 (ninS ne104 nin0))).keep Kp229 nin0)
        have f236 : Fld Z T229.heap b64 "com/example/slotwright/slotwright/Ledger" "remaining" "[Ljava/math/BigDecimal;" (.ref rm_76) := ((f214.keep Kp210 (ninS ne97 (ninS ne104 nin0))).keep Kp229 nin0)
        have f237 : Arv Z T229.heap sp_76 ks_76 (.object "java/math/BigDecimal") (2 : Int32) [(.ref t1_115), (.ref t1_210)] .null := (R210_0.keep Kp229 nin0)
        have f238 : Arv Z T229.heap rm_76 kr_76 (.object "java/math/BigDecimal") (2 : Int32) [(.ref t2_115), (.ref t2_210)] .null := (R210_1.keep Kp229 nin0)
        have f239 : Ovr Z ks_76 "java/math/BigDecimal" := f217
        have f240 : Ovr Z kr_76 "java/math/BigDecimal" := f218
        have f241 : BDc Z T229.heap t1_115 ((0 : Int64) + (p2.toInt64)) (0 : Int32) := ((f220.keep Kp210 (ninS ne221 (ninS ne225 nin0))).keep Kp229 nin0)
        have f242 : BDc Z T229.heap t2_115 ((p0.toInt64) + (-(p2.toInt64))) (0 : Int32) := ((f222.keep Kp210 (ninS ne223 (ninS ne226 nin0))).keep Kp229 nin0)
        obtain ⟨_, T232, Lc232, X232, hQ232, st232⟩ := own_callV X229 hx hZ40 (y := (⟨"com/example/slotwright/slotwright/Ledger", "charge", "(ILjava/math/BigDecimal;)V"⟩ : MethodName)) (z := (⟨"com/example/slotwright/slotwright/Ledger", "charge", "(ILjava/math/BigDecimal;)V"⟩ : MethodName)) hown40 (own_w hw 169 rfl) (own_w hw 170 rfl) (notFace_of_selects (args := #[]) (mvT hZ40 (own_w hw 172 rfl))) (own_w hw 172 rfl) (own_w hw 171 rfl) (own_w hw 93 rfl) (own_w hw 173 rfl) (by decide) (W := 0) (ccharge0 l Z a0 hw [] b64 r_229 sp_76 ks_76 rm_76 kr_76 t1_115 t1_210 t2_115 t2_210 ((0 : Int64) + (p2.toInt64)) ((p0.toInt64) + (-(p2.toInt64))) (p4.toInt64) wz T229.heap n0 zD0 zD1 Op229 f233 f235 f236 f237 f238 f239 f240 f241 f242 R229_0 g_sp_76 g_rm_76 R76_9 (Bk.ne ks117 (by decide)) (Bk.ne kr117 (by decide)) (Bk.ne (Bk.i2l p4) (by decide)) (own_noflow ks117 (Bk.i2l p4) (by decide)) (Bk.ne ks234 (by decide)) (own_noflow kr117 kn234 (by decide)) (Bk.ne kr234 (by decide))) (by decide) (by decide) rfl f233 (by decide) (by decide) (g := (mkF m 238 #[.val (.int p0), .val (.int p1), .val (.int p2), .val (.int p3), .val (.int p4), .val (.int p5), .val (.ref b1), .val (.ref b64), .val (.int (p5 &&& (1 : Int32))), .val (.int ((p5 >>> ((1 : Int32) &&& 31)) &&& (1 : Int32))), .val (.int ((p5 >>> ((2 : Int32) &&& 31)) &&& (1 : Int32))), .val (.long ((0 : Int64) + (p2.toInt64))), .second, .val (.long ((0 : Int64) + (p3.toInt64))), .second, .val (.int (own_ov (p0.toInt64) (p1.toInt64))), .val (.int (1 : Int32)), .val (.int (own_ov ((p0.toInt64) + (-(p2.toInt64))) (p1.toInt64))), .val (.int (1 : Int32)), .unset, .unset] [(.ref r_229), (.int ((p5 >>> ((2 : Int32) &&& 31)) &&& (1 : Int32))), (.ref b64)])) rfl (by rw [hml]; rfl) (argsL := [(.int ((p5 >>> ((2 : Int32) &&& 31)) &&& (1 : Int32))), (.ref r_229)]) (rest := []) (lenOf pd_22 rfl) rfl (by show 2 * 0 + _ ≤ _; exact Nat.le_of_eq rfl) (hb hby at_238) (by rw [hc231])
        obtain ⟨t1_232, t2_232, rfl, N232q, Kp232, Op232, R232_0, R232_1, R232_2, R232_3⟩ := hQ232
        have N232 := Fr.app N229 N232q
        refine Rch.st st232 ?_
        have f243 : BDc Z T229.heap t1_210 ((0 : Int64) + (p3.toInt64)) (0 : Int32) := (R210_2.keep Kp229 nin0)
        have ne244 : t1_210 ≠ sp_76 := (Exa.neArv f243.1 f237 (own_w hw 200 rfl))
        have f245 : BDc Z T229.heap t2_210 ((p1.toInt64) + (-(p3.toInt64))) (0 : Int32) := (R210_3.keep Kp229 nin0)
        have ne246 : t2_210 ≠ sp_76 := (Exa.neArv f245.1 f237 (own_w hw 200 rfl))
        have ne247 : r_229 ≠ sp_76 := (Exa.neArv R229_0.1 f237 (own_w hw 200 rfl))
        have ne248 : t1_210 ≠ rm_76 := (Exa.neArv f243.1 f238 (own_w hw 200 rfl))
        have ne249 : t2_210 ≠ rm_76 := (Exa.neArv f245.1 f238 (own_w hw 200 rfl))
        have ne250 : r_229 ≠ rm_76 := (Exa.neArv R229_0.1 f238 (own_w hw 200 rfl))
        have K251 : Keep h0 T232.heap [] := K230.trans Kp232 (allS (Or.inr sz_sp_76) (allS (Or.inr sz_rm_76) all0))
        refine Rch.st (fun _ hr => XS.iload X232.here hx rfl (hb hby at_241) rfl hr) ?_
        refine Rch.st (fun _ hr => XS.ifNo X232.here hx rfl (hb hby at_243) rfl ((if0 _ _).trans (teq hc231).2) hr) ?_
        refine Rch.st (fun _ hr => XS.lload X232.here hx rfl (hb hby at_246) rfl hr) ?_
        show Rch p.tables e below _ (T232.setTop (mkF m 248 #[.val (.int p0), .val (.int p1), .val (.int p2), .val (.int p3), .val (.int p4), .val (.int p5), .val (.ref b1), .val (.ref b64), .val (.int (p5 &&& (1 : Int32))), .val (.int ((p5 >>> ((1 : Int32) &&& 31)) &&& (1 : Int32))), .val (.int ((p5 >>> ((2 : Int32) &&& 31)) &&& (1 : Int32))), .val (.long ((0 : Int64) + (p2.toInt64))), .second, .val (.long ((0 : Int64) + (p3.toInt64))), .second, .val (.int (own_ov (p0.toInt64) (p1.toInt64))), .val (.int (1 : Int32)), .val (.int (own_ov ((p0.toInt64) + (-(p2.toInt64))) (p1.toInt64))), .val (.int (1 : Int32)), .unset, .unset] [(.long ((0 : Int64) + (p2.toInt64)))]))
        refine Rch.st (fun _ hr => XS.iload X232.here hx rfl (hb hby at_248) rfl hr) ?_
        refine Rch.st (fun _ hr => XS.i2l X232.here hx rfl (hb hby at_250) rfl hr) ?_
        refine Rch.st (fun _ hr => XS.ladd X232.here hx rfl (hb hby at_251) rfl hr) ?_
        refine Rch.st (fun _ hr => XS.lstore X232.here hx rfl (hb hby at_252) rfl (l' := #[.val (.int p0), .val (.int p1), .val (.int p2), .val (.int p3), .val (.int p4), .val (.int p5), .val (.ref b1), .val (.ref b64), .val (.int (p5 &&& (1 : Int32))), .val (.int ((p5 >>> ((1 : Int32) &&& 31)) &&& (1 : Int32))), .val (.int ((p5 >>> ((2 : Int32) &&& 31)) &&& (1 : Int32))), .val (.long (((0 : Int64) + (p2.toInt64)) + (p4.toInt64))), .second, .val (.long ((0 : Int64) + (p3.toInt64))), .second, .val (.int (own_ov (p0.toInt64) (p1.toInt64))), .val (.int (1 : Int32)), .val (.int (own_ov ((p0.toInt64) + (-(p2.toInt64))) (p1.toInt64))), .val (.int (1 : Int32)), .unset, .unset]) rfl hr) ?_
        show Rch p.tables e below _ (T232.setTop (mkF m 254 #[.val (.int p0), .val (.int p1), .val (.int p2), .val (.int p3), .val (.int p4), .val (.int p5), .val (.ref b1), .val (.ref b64), .val (.int (p5 &&& (1 : Int32))), .val (.int ((p5 >>> ((1 : Int32) &&& 31)) &&& (1 : Int32))), .val (.int ((p5 >>> ((2 : Int32) &&& 31)) &&& (1 : Int32))), .val (.long (((0 : Int64) + (p2.toInt64)) + (p4.toInt64))), .second, .val (.long ((0 : Int64) + (p3.toInt64))), .second, .val (.int (own_ov (p0.toInt64) (p1.toInt64))), .val (.int (1 : Int32)), .val (.int (own_ov ((p0.toInt64) + (-(p2.toInt64))) (p1.toInt64))), .val (.int (1 : Int32)), .unset, .unset] []))
        refine Rch.st (fun _ hr => XS.goto X232.here hx rfl (pc0 := 254) (pc' := 265) rfl (hb hby at_254) (by decide) (by decide) hr) ?_
        refine Rch.st (fun _ hr => XS.aload X232.here hx rfl (hb hby at_265) rfl rfl hr) ?_
        have f253 : Exa Z T232.heap b64 "com/example/slotwright/slotwright/Ledger" := (f233.keep Kp232)
        have f254 : Fld Z T232.heap b64 "com/example/slotwright/slotwright/Ledger" "remaining" "[Ljava/math/BigDecimal;" (.ref rm_76) := (f236.keep Kp232 (ninS ne97 (ninS ne104 nin0)))
        have f255 : BDc Z T232.heap t2_210 ((p1.toInt64) + (-(p3.toInt64))) (0 : Int32) := (f245.keep Kp232 (ninS ne246 (ninS ne249 nin0)))
        obtain ⟨_, T252, Lc252, X252, hQ252, st252⟩ := own_callV X232 hx hZ40 (y := (⟨"com/example/slotwright/slotwright/Ledger", "overspent", "()I"⟩ : MethodName)) (z := (⟨"com/example/slotwright/slotwright/Ledger", "overspent", "()I"⟩ : MethodName)) hown40 (own_w hw 148 rfl) (own_w hw 149 rfl) (notFace_of_selects (args := #[]) (mvT hZ40 (own_w hw 151 rfl))) (own_w hw 151 rfl) (own_w hw 150 rfl) (own_w hw 93 rfl) (own_w hw 152 rfl) (by decide) (W := 0) (cover l Z a0 hw [] b64 rm_76 kr_76 t2_232 t2_210 (((p0.toInt64) + (-(p2.toInt64))) + (-(p4.toInt64))) ((p1.toInt64) + (-(p3.toInt64))) T232.heap n0 f254 R232_1 R232_3 f255 (Bk.ne kr234 (by decide)) (Bk.ne kr212 (by decide))) (by decide) (by decide) rfl f253 (by decide) (by decide) (g := (mkF m 267 #[.val (.int p0), .val (.int p1), .val (.int p2), .val (.int p3), .val (.int p4), .val (.int p5), .val (.ref b1), .val (.ref b64), .val (.int (p5 &&& (1 : Int32))), .val (.int ((p5 >>> ((1 : Int32) &&& 31)) &&& (1 : Int32))), .val (.int ((p5 >>> ((2 : Int32) &&& 31)) &&& (1 : Int32))), .val (.long (((0 : Int64) + (p2.toInt64)) + (p4.toInt64))), .second, .val (.long ((0 : Int64) + (p3.toInt64))), .second, .val (.int (own_ov (p0.toInt64) (p1.toInt64))), .val (.int (1 : Int32)), .val (.int (own_ov ((p0.toInt64) + (-(p2.toInt64))) (p1.toInt64))), .val (.int (1 : Int32)), .unset, .unset] [(.ref b64)])) rfl (by rw [hml]; rfl) (argsL := []) (rest := []) (lenOf pd_14 rfl) rfl (by show 2 * 0 + _ ≤ _; exact Nat.le_of_eq rfl) (hb hby at_267) rfl
        obtain ⟨rfl, N252q, e252⟩ := hQ252
        have N252 := Fr.app N232 N252q
        refine Rch.st st252 ?_
        refine Rch.st (fun _ hr => XS.istore X252.here hx rfl (hb hby at_270) rfl (l' := #[.val (.int p0), .val (.int p1), .val (.int p2), .val (.int p3), .val (.int p4), .val (.int p5), .val (.ref b1), .val (.ref b64), .val (.int (p5 &&& (1 : Int32))), .val (.int ((p5 >>> ((1 : Int32) &&& 31)) &&& (1 : Int32))), .val (.int ((p5 >>> ((2 : Int32) &&& 31)) &&& (1 : Int32))), .val (.long (((0 : Int64) + (p2.toInt64)) + (p4.toInt64))), .second, .val (.long ((0 : Int64) + (p3.toInt64))), .second, .val (.int (own_ov (p0.toInt64) (p1.toInt64))), .val (.int (1 : Int32)), .val (.int (own_ov ((p0.toInt64) + (-(p2.toInt64))) (p1.toInt64))), .val (.int (1 : Int32)), .val (.int (own_ov (((p0.toInt64) + (-(p2.toInt64))) + (-(p4.toInt64))) ((p1.toInt64) + (-(p3.toInt64))))), .unset]) rfl hr) ?_
        show Rch p.tables e below _ (T252.setTop (mkF m 272 #[.val (.int p0), .val (.int p1), .val (.int p2), .val (.int p3), .val (.int p4), .val (.int p5), .val (.ref b1), .val (.ref b64), .val (.int (p5 &&& (1 : Int32))), .val (.int ((p5 >>> ((1 : Int32) &&& 31)) &&& (1 : Int32))), .val (.int ((p5 >>> ((2 : Int32) &&& 31)) &&& (1 : Int32))), .val (.long (((0 : Int64) + (p2.toInt64)) + (p4.toInt64))), .second, .val (.long ((0 : Int64) + (p3.toInt64))), .second, .val (.int (own_ov (p0.toInt64) (p1.toInt64))), .val (.int (1 : Int32)), .val (.int (own_ov ((p0.toInt64) + (-(p2.toInt64))) (p1.toInt64))), .val (.int (1 : Int32)), .val (.int (own_ov (((p0.toInt64) + (-(p2.toInt64))) + (-(p4.toInt64))) ((p1.toInt64) + (-(p3.toInt64))))), .unset] []))
        refine Rch.st (fun _ hr => XS.iload X252.here hx rfl (hb hby at_272) rfl hr) ?_
        refine Rch.st (fun _ hr => XS.lload X252.here hx rfl (hb hby at_274) rfl hr) ?_
        refine Rch.st (fun _ hr => XS.iloadN X252.here hx rfl (hb hby at_276) rfl hr) ?_
        refine Rch.st (fun _ hr => XS.i2l X252.here hx rfl (hb hby at_277) rfl hr) ?_
        show Rch p.tables e below _ (T252.setTop (mkF m 278 #[.val (.int p0), .val (.int p1), .val (.int p2), .val (.int p3), .val (.int p4), .val (.int p5), .val (.ref b1), .val (.ref b64), .val (.int (p5 &&& (1 : Int32))), .val (.int ((p5 >>> ((1 : Int32) &&& 31)) &&& (1 : Int32))), .val (.int ((p5 >>> ((2 : Int32) &&& 31)) &&& (1 : Int32))), .val (.long (((0 : Int64) + (p2.toInt64)) + (p4.toInt64))), .second, .val (.long ((0 : Int64) + (p3.toInt64))), .second, .val (.int (own_ov (p0.toInt64) (p1.toInt64))), .val (.int (1 : Int32)), .val (.int (own_ov ((p0.toInt64) + (-(p2.toInt64))) (p1.toInt64))), .val (.int (1 : Int32)), .val (.int (own_ov (((p0.toInt64) + (-(p2.toInt64))) + (-(p4.toInt64))) ((p1.toInt64) + (-(p3.toInt64))))), .unset] [(.long (p0.toInt64)), (.long (((0 : Int64) + (p2.toInt64)) + (p4.toInt64))), (.int (own_ov (((p0.toInt64) + (-(p2.toInt64))) + (-(p4.toInt64))) ((p1.toInt64) + (-(p3.toInt64)))))]))
        obtain ⟨_, T256, Lc256, X256, hQ256, st256⟩ := own_callS X252 hx hZ40 (y := (⟨"com/example/slotwright/slotwright/LedgerOverspentPinLaw", "over", "(JJ)I"⟩ : MethodName)) hown40 (own_w hw 165 rfl) (own_w hw 166 rfl) (own_w hw 167 rfl) (own_w hw 168 rfl) (by decide) (W := 1) (cov l Z a0 hw [] (((0 : Int64) + (p2.toInt64)) + (p4.toInt64)) (p0.toInt64) T232.heap n0 ) (by decide) (by decide) e252 (by decide) (by decide) (g := (mkF m 278 #[.val (.int p0), .val (.int p1), .val (.int p2), .val (.int p3), .val (.int p4), .val (.int p5), .val (.ref b1), .val (.ref b64), .val (.int (p5 &&& (1 : Int32))), .val (.int ((p5 >>> ((1 : Int32) &&& 31)) &&& (1 : Int32))), .val (.int ((p5 >>> ((2 : Int32) &&& 31)) &&& (1 : Int32))), .val (.long (((0 : Int64) + (p2.toInt64)) + (p4.toInt64))), .second, .val (.long ((0 : Int64) + (p3.toInt64))), .second, .val (.int (own_ov (p0.toInt64) (p1.toInt64))), .val (.int (1 : Int32)), .val (.int (own_ov ((p0.toInt64) + (-(p2.toInt64))) (p1.toInt64))), .val (.int (1 : Int32)), .val (.int (own_ov (((p0.toInt64) + (-(p2.toInt64))) + (-(p4.toInt64))) ((p1.toInt64) + (-(p3.toInt64))))), .unset] [(.long (p0.toInt64)), (.long (((0 : Int64) + (p2.toInt64)) + (p4.toInt64))), (.int (own_ov (((p0.toInt64) + (-(p2.toInt64))) + (-(p4.toInt64))) ((p1.toInt64) + (-(p3.toInt64)))))])) rfl (by rw [hml]; rfl) (argsL := [(.long (((0 : Int64) + (p2.toInt64)) + (p4.toInt64))), (.long (p0.toInt64))]) (rest := [(.int (own_ov (((p0.toInt64) + (-(p2.toInt64))) + (-(p4.toInt64))) ((p1.toInt64) + (-(p3.toInt64)))))]) (lenOf pd_21 rfl) rfl (by show 2 * 0 + _ ≤ _; exact Nat.le_of_eq rfl) (hb hby at_278) rfl
        obtain ⟨rfl, N256q, e256⟩ := hQ256
        have N256 := Fr.app N252 N256q
        refine Rch.st st256 ?_
        refine Rch.st (fun _ hr => XS.lload X256.here hx rfl (hb hby at_281) rfl hr) ?_
        refine Rch.st (fun _ hr => XS.iloadN X256.here hx rfl (hb hby at_283) rfl hr) ?_
        refine Rch.st (fun _ hr => XS.i2l X256.here hx rfl (hb hby at_284) rfl hr) ?_
        show Rch p.tables e below _ (T256.setTop (mkF m 285 #[.val (.int p0), .val (.int p1), .val (.int p2), .val (.int p3), .val (.int p4), .val (.int p5), .val (.ref b1), .val (.ref b64), .val (.int (p5 &&& (1 : Int32))), .val (.int ((p5 >>> ((1 : Int32) &&& 31)) &&& (1 : Int32))), .val (.int ((p5 >>> ((2 : Int32) &&& 31)) &&& (1 : Int32))), .val (.long (((0 : Int64) + (p2.toInt64)) + (p4.toInt64))), .second, .val (.long ((0 : Int64) + (p3.toInt64))), .second, .val (.int (own_ov (p0.toInt64) (p1.toInt64))), .val (.int (1 : Int32)), .val (.int (own_ov ((p0.toInt64) + (-(p2.toInt64))) (p1.toInt64))), .val (.int (1 : Int32)), .val (.int (own_ov (((p0.toInt64) + (-(p2.toInt64))) + (-(p4.toInt64))) ((p1.toInt64) + (-(p3.toInt64))))), .unset] [(.long (p1.toInt64)), (.long ((0 : Int64) + (p3.toInt64))), (.int (own_over (((0 : Int64) + (p2.toInt64)) + (p4.toInt64)) (p0.toInt64))), (.int (own_ov (((p0.toInt64) + (-(p2.toInt64))) + (-(p4.toInt64))) ((p1.toInt64) + (-(p3.toInt64)))))]))
        obtain ⟨_, T257, Lc257, X257, hQ257, st257⟩ := own_callS X256 hx hZ40 (y := (⟨"com/example/slotwright/slotwright/LedgerOverspentPinLaw", "over", "(JJ)I"⟩ : MethodName)) hown40 (own_w hw 165 rfl) (own_w hw 166 rfl) (own_w hw 167 rfl) (own_w hw 168 rfl) (by decide) (W := 2) (cov l Z a0 hw [] ((0 : Int64) + (p3.toInt64)) (p1.toInt64) T232.heap n0 ) (by decide) (by decide) e256 (by decide) (by decide) (g := (mkF m 285 #[.val (.int p0), .val (.int p1), .val (.int p2), .val (.int p3), .val (.int p4), .val (.int p5), .val (.ref b1), .val (.ref b64), .val (.int (p5 &&& (1 : Int32))), .val (.int ((p5 >>> ((1 : Int32) &&& 31)) &&& (1 : Int32))), .val (.int ((p5 >>> ((2 : Int32) &&& 31)) &&& (1 : Int32))), .val (.long (((0 : Int64) + (p2.toInt64)) + (p4.toInt64))), .second, .val (.long ((0 : Int64) + (p3.toInt64))), .second, .val (.int (own_ov (p0.toInt64) (p1.toInt64))), .val (.int (1 : Int32)), .val (.int (own_ov ((p0.toInt64) + (-(p2.toInt64))) (p1.toInt64))), .val (.int (1 : Int32)), .val (.int (own_ov (((p0.toInt64) + (-(p2.toInt64))) + (-(p4.toInt64))) ((p1.toInt64) + (-(p3.toInt64))))), .unset] [(.long (p1.toInt64)), (.long ((0 : Int64) + (p3.toInt64))), (.int (own_over (((0 : Int64) + (p2.toInt64)) + (p4.toInt64)) (p0.toInt64))), (.int (own_ov (((p0.toInt64) + (-(p2.toInt64))) + (-(p4.toInt64))) ((p1.toInt64) + (-(p3.toInt64)))))])) rfl (by rw [hml]; rfl) (argsL := [(.long ((0 : Int64) + (p3.toInt64))), (.long (p1.toInt64))]) (rest := [(.int (own_over (((0 : Int64) + (p2.toInt64)) + (p4.toInt64)) (p0.toInt64))), (.int (own_ov (((p0.toInt64) + (-(p2.toInt64))) + (-(p4.toInt64))) ((p1.toInt64) + (-(p3.toInt64)))))]) (lenOf pd_21 rfl) rfl (by show 2 * 0 + _ ≤ _; exact Nat.le_of_eq rfl) (hb hby at_285) rfl
        obtain ⟨rfl, N257q, e257⟩ := hQ257
        have N257 := Fr.app N256 N257q
        refine Rch.st st257 ?_
        refine Rch.st (fun _ hr => XS.iadd X257.here hx rfl (hb hby at_288) rfl hr) ?_
        have hk258 : (own_ov (((p0.toInt64) + (-(p2.toInt64))) + (-(p4.toInt64))) ((p1.toInt64) + (-(p3.toInt64)))) = ((own_over (((0 : Int64) + (p2.toInt64)) + (p4.toInt64)) (p0.toInt64)) + (own_over ((0 : Int64) + (p3.toInt64)) (p1.toInt64))) := own_cmp iv234 iv212
        refine Rch.st (fun _ hr => XS.icmpNo X257.here hx rfl (hb hby at_289) rfl (teq hk258).2 hr) ?_
        refine Rch.st (fun _ hr => XS.iconst X257.here hx rfl (hb hby at_292) hr) ?_
        show Rch p.tables e below _ (T257.setTop (mkF m 293 #[.val (.int p0), .val (.int p1), .val (.int p2), .val (.int p3), .val (.int p4), .val (.int p5), .val (.ref b1), .val (.ref b64), .val (.int (p5 &&& (1 : Int32))), .val (.int ((p5 >>> ((1 : Int32) &&& 31)) &&& (1 : Int32))), .val (.int ((p5 >>> ((2 : Int32) &&& 31)) &&& (1 : Int32))), .val (.long (((0 : Int64) + (p2.toInt64)) + (p4.toInt64))), .second, .val (.long ((0 : Int64) + (p3.toInt64))), .second, .val (.int (own_ov (p0.toInt64) (p1.toInt64))), .val (.int (1 : Int32)), .val (.int (own_ov ((p0.toInt64) + (-(p2.toInt64))) (p1.toInt64))), .val (.int (1 : Int32)), .val (.int (own_ov (((p0.toInt64) + (-(p2.toInt64))) + (-(p4.toInt64))) ((p1.toInt64) + (-(p3.toInt64))))), .unset] [(.int (1 : Int32))]))
        refine Rch.st (fun _ hr => XS.goto X257.here hx rfl (pc0 := 293) (pc' := 297) rfl (hb hby at_293) (by decide) (by decide) hr) ?_
        refine Rch.st (fun _ hr => XS.istore X257.here hx rfl (hb hby at_297) rfl (l' := #[.val (.int p0), .val (.int p1), .val (.int p2), .val (.int p3), .val (.int p4), .val (.int p5), .val (.ref b1), .val (.ref b64), .val (.int (p5 &&& (1 : Int32))), .val (.int ((p5 >>> ((1 : Int32) &&& 31)) &&& (1 : Int32))), .val (.int ((p5 >>> ((2 : Int32) &&& 31)) &&& (1 : Int32))), .val (.long (((0 : Int64) + (p2.toInt64)) + (p4.toInt64))), .second, .val (.long ((0 : Int64) + (p3.toInt64))), .second, .val (.int (own_ov (p0.toInt64) (p1.toInt64))), .val (.int (1 : Int32)), .val (.int (own_ov ((p0.toInt64) + (-(p2.toInt64))) (p1.toInt64))), .val (.int (1 : Int32)), .val (.int (own_ov (((p0.toInt64) + (-(p2.toInt64))) + (-(p4.toInt64))) ((p1.toInt64) + (-(p3.toInt64))))), .val (.int (1 : Int32))]) rfl hr) ?_
        refine Rch.st (fun _ hr => XS.iload X257.here hx rfl (hb hby at_299) rfl hr) ?_
        refine Rch.st (fun _ hr => XS.ifNo X257.here hx rfl (hb hby at_301) rfl ((if0 _ _).trans (feq (by decide : ¬ ((1 : Int32) = (0 : Int32)))).1) hr) ?_
        show Rch p.tables e below _ (T257.setTop (mkF m 304 #[.val (.int p0), .val (.int p1), .val (.int p2), .val (.int p3), .val (.int p4), .val (.int p5), .val (.ref b1), .val (.ref b64), .val (.int (p5 &&& (1 : Int32))), .val (.int ((p5 >>> ((1 : Int32) &&& 31)) &&& (1 : Int32))), .val (.int ((p5 >>> ((2 : Int32) &&& 31)) &&& (1 : Int32))), .val (.long (((0 : Int64) + (p2.toInt64)) + (p4.toInt64))), .second, .val (.long ((0 : Int64) + (p3.toInt64))), .second, .val (.int (own_ov (p0.toInt64) (p1.toInt64))), .val (.int (1 : Int32)), .val (.int (own_ov ((p0.toInt64) + (-(p2.toInt64))) (p1.toInt64))), .val (.int (1 : Int32)), .val (.int (own_ov (((p0.toInt64) + (-(p2.toInt64))) + (-(p4.toInt64))) ((p1.toInt64) + (-(p3.toInt64))))), .val (.int (1 : Int32))] []))
        refine Rch.st (fun _ hr => XS.iload X257.here hx rfl (hb hby at_304) rfl hr) ?_
        refine Rch.st (fun _ hr => XS.ifNo X257.here hx rfl (hb hby at_306) rfl ((if0 _ _).trans (feq (by decide : ¬ ((1 : Int32) = (0 : Int32)))).1) hr) ?_
        refine Rch.st (fun _ hr => XS.iload X257.here hx rfl (hb hby at_309) rfl hr) ?_
        refine Rch.st (fun _ hr => XS.ifNo X257.here hx rfl (hb hby at_311) rfl ((if0 _ _).trans (feq (by decide : ¬ ((1 : Int32) = (0 : Int32)))).1) hr) ?_
        show Rch p.tables e below _ (T257.setTop (mkF m 314 #[.val (.int p0), .val (.int p1), .val (.int p2), .val (.int p3), .val (.int p4), .val (.int p5), .val (.ref b1), .val (.ref b64), .val (.int (p5 &&& (1 : Int32))), .val (.int ((p5 >>> ((1 : Int32) &&& 31)) &&& (1 : Int32))), .val (.int ((p5 >>> ((2 : Int32) &&& 31)) &&& (1 : Int32))), .val (.long (((0 : Int64) + (p2.toInt64)) + (p4.toInt64))), .second, .val (.long ((0 : Int64) + (p3.toInt64))), .second, .val (.int (own_ov (p0.toInt64) (p1.toInt64))), .val (.int (1 : Int32)), .val (.int (own_ov ((p0.toInt64) + (-(p2.toInt64))) (p1.toInt64))), .val (.int (1 : Int32)), .val (.int (own_ov (((p0.toInt64) + (-(p2.toInt64))) + (-(p4.toInt64))) ((p1.toInt64) + (-(p3.toInt64))))), .val (.int (1 : Int32))] []))
        refine Rch.st (fun _ hr => XS.iconst X257.here hx rfl (hb hby at_314) hr) ?_
        refine Rch.st (fun _ hr => XS.goto X257.here hx rfl (pc0 := 315) (pc' := 319) rfl (hb hby at_315) (by decide) (by decide) hr) ?_
        obtain ⟨fs, hr, hrun, hended, hREW⟩ := Jvm.Stand.leaveW (s := s) X257 hS40 (by rw [e257]; exact (Nat.le_trans (Nat.le_trans (Nat.le_trans (Nat.le_trans (Nat.le_trans (Nat.le_trans (Nat.le_trans (Nat.le_trans (Nat.le_trans (Nat.le_trans (Nat.le_trans hk40 Kp43.1) Kp46.1) Kp52.1) E64.1) Kp76.1) Kp112.1) Kp115.1) Kp135.1) Kp210.1) Kp229.1) Kp232.1)) (v := some (.int (1 : Int32))) (fun h => by rw [Bd.returns] at h; cases h)
        refine Rch.fin (u := T257.setFrames fs) (retN X257 hx (t := .boolean) Bd.returns (by simp) (hb hby at_319) hr) ⟨_, hrun, hended, _, _, rfl, ?_, hREW.1, hREW.2.1, hREW.2.2.1, hREW.2.2.2.mono (by decide) (by decide)⟩
        show Q_claw Z p0 p1 p2 p3 p4 p5 wz de kde zz h0 n0 _ T257.heap _
        rw [e257]
        exact ⟨rfl, N257, K251, Op232⟩
      · show Rch p.tables e below _ (T229.setTop (mkF m 238 #[.val (.int p0), .val (.int p1), .val (.int p2), .val (.int p3), .val (.int p4), .val (.int p5), .val (.ref b1), .val (.ref b64), .val (.int (p5 &&& (1 : Int32))), .val (.int ((p5 >>> ((1 : Int32) &&& 31)) &&& (1 : Int32))), .val (.int ((p5 >>> ((2 : Int32) &&& 31)) &&& (1 : Int32))), .val (.long ((0 : Int64) + (p2.toInt64))), .second, .val (.long ((0 : Int64) + (p3.toInt64))), .second, .val (.int (own_ov (p0.toInt64) (p1.toInt64))), .val (.int (1 : Int32)), .val (.int (own_ov ((p0.toInt64) + (-(p2.toInt64))) (p1.toInt64))), .val (.int (1 : Int32)), .unset, .unset] [(.ref r_229), (.int ((p5 >>> ((2 : Int32) &&& 31)) &&& (1 : Int32))), (.ref b64)]))
        have f260 : Exa Z T229.heap b64 "com/example/slotwright/slotwright/Ledger" := ((f211.keep Kp210).keep Kp229)
        have hone261 : ((p5 >>> ((2 : Int32) &&& 31)) &&& (1 : Int32)) = (1 : Int32) := (and_one _).resolve_left hc231
        obtain ⟨ts261, ks261⟩ := Bk.add ks212 (Bk.i2l p4) (by decide)
        obtain ⟨tn261, kn261⟩ := Bk.neg (Bk.i2l p4) (by decide)
        obtain ⟨tr261, kr261⟩ := Bk.add kr212 kn261 (by decide)
        have iv261 := own_inv iv212 ts261 tn261 tr261
        have f262 : Fld Z T229.heap b64 "com/example/slotwright/slotwright/Ledger" "spent" "[Ljava/math/BigDecimal;" (.ref sp_76) := ((f213.keep Kp210 (ninS ne97 (ninS ne104 nin0))).keep Kp229 nin0)
        have f263 : Fld Z T229.heap b64 "com/example/slotwright/slotwright/Ledger" "remaining" "[Ljava/math/BigDecimal;" (.ref rm_76) := ((f214.keep Kp210 (ninS ne97 (ninS ne104 nin0))).keep Kp229 nin0)
        have f264 : Arv Z T229.heap sp_76 ks_76 (.object "java/math/BigDecimal") (2 : Int32) [(.ref t1_115), (.ref t1_210)] .null := (R210_0.keep Kp229 nin0)
        have f265 : Arv Z T229.heap rm_76 kr_76 (.object "java/math/BigDecimal") (2 : Int32) [(.ref t2_115), (.ref t2_210)] .null := (R210_1.keep Kp229 nin0)
        have f266 : Ovr Z ks_76 "java/math/BigDecimal" := f217
        have f267 : Ovr Z kr_76 "java/math/BigDecimal" := f218
        have f268 : BDc Z T229.heap t1_210 ((0 : Int64) + (p3.toInt64)) (0 : Int32) := (R210_2.keep Kp229 nin0)
        have f269 : BDc Z T229.heap t2_210 ((p1.toInt64) + (-(p3.toInt64))) (0 : Int32) := (R210_3.keep Kp229 nin0)
        obtain ⟨_, T259, Lc259, X259, hQ259, st259⟩ := own_callV X229 hx hZ40 (y := (⟨"com/example/slotwright/slotwright/Ledger", "charge", "(ILjava/math/BigDecimal;)V"⟩ : MethodName)) (z := (⟨"com/example/slotwright/slotwright/Ledger", "charge", "(ILjava/math/BigDecimal;)V"⟩ : MethodName)) hown40 (own_w hw 169 rfl) (own_w hw 170 rfl) (notFace_of_selects (args := #[]) (mvT hZ40 (own_w hw 172 rfl))) (own_w hw 172 rfl) (own_w hw 171 rfl) (own_w hw 93 rfl) (own_w hw 173 rfl) (by decide) (W := 0) (ccharge1 l Z a0 hw [] b64 r_229 sp_76 ks_76 rm_76 kr_76 t1_115 t1_210 t2_115 t2_210 ((0 : Int64) + (p3.toInt64)) ((p1.toInt64) + (-(p3.toInt64))) (p4.toInt64) wz T229.heap n0 zD0 zD1 Op229 f260 f262 f263 f264 f265 f266 f267 f268 f269 R229_0 g_sp_76 g_rm_76 R76_9 (Bk.ne ks212 (by decide)) (Bk.ne kr212 (by decide)) (Bk.ne (Bk.i2l p4) (by decide)) (own_noflow ks212 (Bk.i2l p4) (by decide)) (Bk.ne ks261 (by decide)) (own_noflow kr212 kn261 (by decide)) (Bk.ne kr261 (by decide))) (by decide) (by decide) rfl f260 (by decide) (by decide) (g := (mkF m 238 #[.val (.int p0), .val (.int p1), .val (.int p2), .val (.int p3), .val (.int p4), .val (.int p5), .val (.ref b1), .val (.ref b64), .val (.int (p5 &&& (1 : Int32))), .val (.int ((p5 >>> ((1 : Int32) &&& 31)) &&& (1 : Int32))), .val (.int ((p5 >>> ((2 : Int32) &&& 31)) &&& (1 : Int32))), .val (.long ((0 : Int64) + (p2.toInt64))), .second, .val (.long ((0 : Int64) + (p3.toInt64))), .second, .val (.int (own_ov (p0.toInt64) (p1.toInt64))), .val (.int (1 : Int32)), .val (.int (own_ov ((p0.toInt64) + (-(p2.toInt64))) (p1.toInt64))), .val (.int (1 : Int32)), .unset, .unset] [(.ref r_229), (.int ((p5 >>> ((2 : Int32) &&& 31)) &&& (1 : Int32))), (.ref b64)])) rfl (by rw [hml]; rfl) (argsL := [(.int ((p5 >>> ((2 : Int32) &&& 31)) &&& (1 : Int32))), (.ref r_229)]) (rest := []) (lenOf pd_22 rfl) rfl (by show 2 * 0 + _ ≤ _; exact Nat.le_of_eq rfl) (hb hby at_238) (by rw [hone261])
        obtain ⟨t1_259, t2_259, rfl, N259q, Kp259, Op259, R259_0, R259_1, R259_2, R259_3⟩ := hQ259
        have N259 := Fr.app N229 N259q
        refine Rch.st st259 ?_
        have ne270 : t1_210 ≠ sp_76 := (Exa.neArv f268.1 f264 (own_w hw 200 rfl))
        have ne271 : t2_210 ≠ sp_76 := (Exa.neArv f269.1 f264 (own_w hw 200 rfl))
        have ne272 : r_229 ≠ sp_76 := (Exa.neArv R229_0.1 f264 (own_w hw 200 rfl))
        have ne273 : t1_210 ≠ rm_76 := (Exa.neArv f268.1 f265 (own_w hw 200 rfl))
        have ne274 : t2_210 ≠ rm_76 := (Exa.neArv f269.1 f265 (own_w hw 200 rfl))
        have ne275 : r_229 ≠ rm_76 := (Exa.neArv R229_0.1 f265 (own_w hw 200 rfl))
        have K276 : Keep h0 T259.heap [] := K230.trans Kp259 (allS (Or.inr sz_sp_76) (allS (Or.inr sz_rm_76) all0))
        refine Rch.st (fun _ hr => XS.iload X259.here hx rfl (hb hby at_241) rfl hr) ?_
        refine Rch.st (fun _ hr => XS.ifYes X259.here hx rfl (pc0 := 243) (pc' := 257) rfl (hb hby at_243) rfl ((if0 _ _).trans (feq hc231).2) (by decide) (by decide) hr) ?_
        refine Rch.st (fun _ hr => XS.lload X259.here hx rfl (hb hby at_257) rfl hr) ?_
        show Rch p.tables e below _ (T259.setTop (mkF m 259 #[.val (.int p0), .val (.int p1), .val (.int p2), .val (.int p3), .val (.int p4), .val (.int p5), .val (.ref b1), .val (.ref b64), .val (.int (p5 &&& (1 : Int32))), .val (.int ((p5 >>> ((1 : Int32) &&& 31)) &&& (1 : Int32))), .val (.int ((p5 >>> ((2 : Int32) &&& 31)) &&& (1 : Int32))), .val (.long ((0 : Int64) + (p2.toInt64))), .second, .val (.long ((0 : Int64) + (p3.toInt64))), .second, .val (.int (own_ov (p0.toInt64) (p1.toInt64))), .val (.int (1 : Int32)), .val (.int (own_ov ((p0.toInt64) + (-(p2.toInt64))) (p1.toInt64))), .val (.int (1 : Int32)), .unset, .unset] [(.long ((0 : Int64) + (p3.toInt64)))]))
        refine Rch.st (fun _ hr => XS.iload X259.here hx rfl (hb hby at_259) rfl hr) ?_
        refine Rch.st (fun _ hr => XS.i2l X259.here hx rfl (hb hby at_261) rfl hr) ?_
        refine Rch.st (fun _ hr => XS.ladd X259.here hx rfl (hb hby at_262) rfl hr) ?_
        refine Rch.st (fun _ hr => XS.lstore X259.here hx rfl (hb hby at_263) rfl (l' := #[.val (.int p0), .val (.int p1), .val (.int p2), .val (.int p3), .val (.int p4), .val (.int p5), .val (.ref b1), .val (.ref b64), .val (.int (p5 &&& (1 : Int32))), .val (.int ((p5 >>> ((1 : Int32) &&& 31)) &&& (1 : Int32))), .val (.int ((p5 >>> ((2 : Int32) &&& 31)) &&& (1 : Int32))), .val (.long ((0 : Int64) + (p2.toInt64))), .second, .val (.long (((0 : Int64) + (p3.toInt64)) + (p4.toInt64))), .second, .val (.int (own_ov (p0.toInt64) (p1.toInt64))), .val (.int (1 : Int32)), .val (.int (own_ov ((p0.toInt64) + (-(p2.toInt64))) (p1.toInt64))), .val (.int (1 : Int32)), .unset, .unset]) rfl hr) ?_
        show Rch p.tables e below _ (T259.setTop (mkF m 265 #[.val (.int p0), .val (.int p1), .val (.int p2), .val (.int p3), .val (.int p4), .val (.int p5), .val (.ref b1), .val (.ref b64), .val (.int (p5 &&& (1 : Int32))), .val (.int ((p5 >>> ((1 : Int32) &&& 31)) &&& (1 : Int32))), .val (.int ((p5 >>> ((2 : Int32) &&& 31)) &&& (1 : Int32))), .val (.long ((0 : Int64) + (p2.toInt64))), .second, .val (.long (((0 : Int64) + (p3.toInt64)) + (p4.toInt64))), .second, .val (.int (own_ov (p0.toInt64) (p1.toInt64))), .val (.int (1 : Int32)), .val (.int (own_ov ((p0.toInt64) + (-(p2.toInt64))) (p1.toInt64))), .val (.int (1 : Int32)), .unset, .unset] []))
        refine Rch.st (fun _ hr => XS.aload X259.here hx rfl (hb hby at_265) rfl rfl hr) ?_
        have f278 : Exa Z T259.heap b64 "com/example/slotwright/slotwright/Ledger" := (f260.keep Kp259)
        have f279 : Fld Z T259.heap b64 "com/example/slotwright/slotwright/Ledger" "remaining" "[Ljava/math/BigDecimal;" (.ref rm_76) := (f263.keep Kp259 (ninS ne97 (ninS ne104 nin0)))
        have f280 : BDc Z T259.heap t2_115 ((p0.toInt64) + (-(p2.toInt64))) (0 : Int32) := (((f222.keep Kp210 (ninS ne223 (ninS ne226 nin0))).keep Kp229 nin0).keep Kp259 (ninS ne223 (ninS ne226 nin0)))
        obtain ⟨_, T277, Lc277, X277, hQ277, st277⟩ := own_callV X259 hx hZ40 (y := (⟨"com/example/slotwright/slotwright/Ledger", "overspent", "()I"⟩ : MethodName)) (z := (⟨"com/example/slotwright/slotwright/Ledger", "overspent", "()I"⟩ : MethodName)) hown40 (own_w hw 148 rfl) (own_w hw 149 rfl) (notFace_of_selects (args := #[]) (mvT hZ40 (own_w hw 151 rfl))) (own_w hw 151 rfl) (own_w hw 150 rfl) (own_w hw 93 rfl) (own_w hw 152 rfl) (by decide) (W := 0) (cover l Z a0 hw [] b64 rm_76 kr_76 t2_115 t2_259 ((p0.toInt64) + (-(p2.toInt64))) (((p1.toInt64) + (-(p3.toInt64))) + (-(p4.toInt64))) T259.heap n0 f279 R259_1 f280 R259_3 (Bk.ne kr117 (by decide)) (Bk.ne kr261 (by decide))) (by decide) (by decide) rfl f278 (by decide) (by decide) (g := (mkF m 267 #[.val (.int p0), .val (.int p1), .val (.int p2), .val (.int p3), .val (.int p4), .val (.int p5), .val (.ref b1), .val (.ref b64), .val (.int (p5 &&& (1 : Int32))), .val (.int ((p5 >>> ((1 : Int32) &&& 31)) &&& (1 : Int32))), .val (.int ((p5 >>> ((2 : Int32) &&& 31)) &&& (1 : Int32))), .val (.long ((0 : Int64) + (p2.toInt64))), .second, .val (.long (((0 : Int64) + (p3.toInt64)) + (p4.toInt64))), .second, .val (.int (own_ov (p0.toInt64) (p1.toInt64))), .val (.int (1 : Int32)), .val (.int (own_ov ((p0.toInt64) + (-(p2.toInt64))) (p1.toInt64))), .val (.int (1 : Int32)), .unset, .unset] [(.ref b64)])) rfl (by rw [hml]; rfl) (argsL := []) (rest := []) (lenOf pd_14 rfl) rfl (by show 2 * 0 + _ ≤ _; exact Nat.le_of_eq rfl) (hb hby at_267) rfl
        obtain ⟨rfl, N277q, e277⟩ := hQ277
        have N277 := Fr.app N259 N277q
        refine Rch.st st277 ?_
        refine Rch.st (fun _ hr => XS.istore X277.here hx rfl (hb hby at_270) rfl (l' := #[.val (.int p0), .val (.int p1), .val (.int p2), .val (.int p3), .val (.int p4), .val (.int p5), .val (.ref b1), .val (.ref b64), .val (.int (p5 &&& (1 : Int32))), .val (.int ((p5 >>> ((1 : Int32) &&& 31)) &&& (1 : Int32))), .val (.int ((p5 >>> ((2 : Int32) &&& 31)) &&& (1 : Int32))), .val (.long ((0 : Int64) + (p2.toInt64))), .second, .val (.long (((0 : Int64) + (p3.toInt64)) + (p4.toInt64))), .second, .val (.int (own_ov (p0.toInt64) (p1.toInt64))), .val (.int (1 : Int32)), .val (.int (own_ov ((p0.toInt64) + (-(p2.toInt64))) (p1.toInt64))), .val (.int (1 : Int32)), .val (.int (own_ov ((p0.toInt64) + (-(p2.toInt64))) (((p1.toInt64) + (-(p3.toInt64))) + (-(p4.toInt64))))), .unset]) rfl hr) ?_
        refine Rch.st (fun _ hr => XS.iload X277.here hx rfl (hb hby at_272) rfl hr) ?_
        show Rch p.tables e below _ (T277.setTop (mkF m 274 #[.val (.int p0), .val (.int p1), .val (.int p2), .val (.int p3), .val (.int p4), .val (.int p5), .val (.ref b1), .val (.ref b64), .val (.int (p5 &&& (1 : Int32))), .val (.int ((p5 >>> ((1 : Int32) &&& 31)) &&& (1 : Int32))), .val (.int ((p5 >>> ((2 : Int32) &&& 31)) &&& (1 : Int32))), .val (.long ((0 : Int64) + (p2.toInt64))), .second, .val (.long (((0 : Int64) + (p3.toInt64)) + (p4.toInt64))), .second, .val (.int (own_ov (p0.toInt64) (p1.toInt64))), .val (.int (1 : Int32)), .val (.int (own_ov ((p0.toInt64) + (-(p2.toInt64))) (p1.toInt64))), .val (.int (1 : Int32)), .val (.int (own_ov ((p0.toInt64) + (-(p2.toInt64))) (((p1.toInt64) + (-(p3.toInt64))) + (-(p4.toInt64))))), .unset] [(.int (own_ov ((p0.toInt64) + (-(p2.toInt64))) (((p1.toInt64) + (-(p3.toInt64))) + (-(p4.toInt64)))))]))
        refine Rch.st (fun _ hr => XS.lload X277.here hx rfl (hb hby at_274) rfl hr) ?_
        refine Rch.st (fun _ hr => XS.iloadN X277.here hx rfl (hb hby at_276) rfl hr) ?_
        refine Rch.st (fun _ hr => XS.i2l X277.here hx rfl (hb hby at_277) rfl hr) ?_
        obtain ⟨_, T281, Lc281, X281, hQ281, st281⟩ := own_callS X277 hx hZ40 (y := (⟨"com/example/slotwright/slotwright/LedgerOverspentPinLaw", "over", "(JJ)I"⟩ : MethodName)) hown40 (own_w hw 165 rfl) (own_w hw 166 rfl) (own_w hw 167 rfl) (own_w hw 168 rfl) (by decide) (W := 1) (cov l Z a0 hw [] ((0 : Int64) + (p2.toInt64)) (p0.toInt64) T259.heap n0 ) (by decide) (by decide) e277 (by decide) (by decide) (g := (mkF m 278 #[.val (.int p0), .val (.int p1), .val (.int p2), .val (.int p3), .val (.int p4), .val (.int p5), .val (.ref b1), .val (.ref b64), .val (.int (p5 &&& (1 : Int32))), .val (.int ((p5 >>> ((1 : Int32) &&& 31)) &&& (1 : Int32))), .val (.int ((p5 >>> ((2 : Int32) &&& 31)) &&& (1 : Int32))), .val (.long ((0 : Int64) + (p2.toInt64))), .second, .val (.long (((0 : Int64) + (p3.toInt64)) + (p4.toInt64))), .second, .val (.int (own_ov (p0.toInt64) (p1.toInt64))), .val (.int (1 : Int32)), .val (.int (own_ov ((p0.toInt64) + (-(p2.toInt64))) (p1.toInt64))), .val (.int (1 : Int32)), .val (.int (own_ov ((p0.toInt64) + (-(p2.toInt64))) (((p1.toInt64) + (-(p3.toInt64))) + (-(p4.toInt64))))), .unset] [(.long (p0.toInt64)), (.long ((0 : Int64) + (p2.toInt64))), (.int (own_ov ((p0.toInt64) + (-(p2.toInt64))) (((p1.toInt64) + (-(p3.toInt64))) + (-(p4.toInt64)))))])) rfl (by rw [hml]; rfl) (argsL := [(.long ((0 : Int64) + (p2.toInt64))), (.long (p0.toInt64))]) (rest := [(.int (own_ov ((p0.toInt64) + (-(p2.toInt64))) (((p1.toInt64) + (-(p3.toInt64))) + (-(p4.toInt64)))))]) (lenOf pd_21 rfl) rfl (by show 2 * 0 + _ ≤ _; exact Nat.le_of_eq rfl) (hb hby at_278) rfl
        obtain ⟨rfl, N281q, e281⟩ := hQ281
        have N281 := Fr.app N277 N281q
        refine Rch.st st281 ?_
        show Rch p.tables e below _ (T281.setTop (mkF m 281 #[.val (.int p0), .val (.int p1), .val (.int p2), .val (.int p3), .val (.int p4), .val (.int p5), .val (.ref b1), .val (.ref b64), .val (.int (p5 &&& (1 : Int32))), .val (.int ((p5 >>> ((1 : Int32) &&& 31)) &&& (1 : Int32))), .val (.int ((p5 >>> ((2 : Int32) &&& 31)) &&& (1 : Int32))), .val (.long ((0 : Int64) + (p2.toInt64))), .second, .val (.long (((0 : Int64) + (p3.toInt64)) + (p4.toInt64))), .second, .val (.int (own_ov (p0.toInt64) (p1.toInt64))), .val (.int (1 : Int32)), .val (.int (own_ov ((p0.toInt64) + (-(p2.toInt64))) (p1.toInt64))), .val (.int (1 : Int32)), .val (.int (own_ov ((p0.toInt64) + (-(p2.toInt64))) (((p1.toInt64) + (-(p3.toInt64))) + (-(p4.toInt64))))), .unset] [(.int (own_over ((0 : Int64) + (p2.toInt64)) (p0.toInt64))), (.int (own_ov ((p0.toInt64) + (-(p2.toInt64))) (((p1.toInt64) + (-(p3.toInt64))) + (-(p4.toInt64)))))]))
        refine Rch.st (fun _ hr => XS.lload X281.here hx rfl (hb hby at_281) rfl hr) ?_
        refine Rch.st (fun _ hr => XS.iloadN X281.here hx rfl (hb hby at_283) rfl hr) ?_
        refine Rch.st (fun _ hr => XS.i2l X281.here hx rfl (hb hby at_284) rfl hr) ?_
        obtain ⟨_, T282, Lc282, X282, hQ282, st282⟩ := own_callS X281 hx hZ40 (y := (⟨"com/example/slotwright/slotwright/LedgerOverspentPinLaw", "over", "(JJ)I"⟩ : MethodName)) hown40 (own_w hw 165 rfl) (own_w hw 166 rfl) (own_w hw 167 rfl) (own_w hw 168 rfl) (by decide) (W := 2) (cov l Z a0 hw [] (((0 : Int64) + (p3.toInt64)) + (p4.toInt64)) (p1.toInt64) T259.heap n0 ) (by decide) (by decide) e281 (by decide) (by decide) (g := (mkF m 285 #[.val (.int p0), .val (.int p1), .val (.int p2), .val (.int p3), .val (.int p4), .val (.int p5), .val (.ref b1), .val (.ref b64), .val (.int (p5 &&& (1 : Int32))), .val (.int ((p5 >>> ((1 : Int32) &&& 31)) &&& (1 : Int32))), .val (.int ((p5 >>> ((2 : Int32) &&& 31)) &&& (1 : Int32))), .val (.long ((0 : Int64) + (p2.toInt64))), .second, .val (.long (((0 : Int64) + (p3.toInt64)) + (p4.toInt64))), .second, .val (.int (own_ov (p0.toInt64) (p1.toInt64))), .val (.int (1 : Int32)), .val (.int (own_ov ((p0.toInt64) + (-(p2.toInt64))) (p1.toInt64))), .val (.int (1 : Int32)), .val (.int (own_ov ((p0.toInt64) + (-(p2.toInt64))) (((p1.toInt64) + (-(p3.toInt64))) + (-(p4.toInt64))))), .unset] [(.long (p1.toInt64)), (.long (((0 : Int64) + (p3.toInt64)) + (p4.toInt64))), (.int (own_over ((0 : Int64) + (p2.toInt64)) (p0.toInt64))), (.int (own_ov ((p0.toInt64) + (-(p2.toInt64))) (((p1.toInt64) + (-(p3.toInt64))) + (-(p4.toInt64)))))])) rfl (by rw [hml]; rfl) (argsL := [(.long (((0 : Int64) + (p3.toInt64)) + (p4.toInt64))), (.long (p1.toInt64))]) (rest := [(.int (own_over ((0 : Int64) + (p2.toInt64)) (p0.toInt64))), (.int (own_ov ((p0.toInt64) + (-(p2.toInt64))) (((p1.toInt64) + (-(p3.toInt64))) + (-(p4.toInt64)))))]) (lenOf pd_21 rfl) rfl (by show 2 * 0 + _ ≤ _; exact Nat.le_of_eq rfl) (hb hby at_285) rfl
        obtain ⟨rfl, N282q, e282⟩ := hQ282
        have N282 := Fr.app N281 N282q
        refine Rch.st st282 ?_
        show Rch p.tables e below _ (T282.setTop (mkF m 288 #[.val (.int p0), .val (.int p1), .val (.int p2), .val (.int p3), .val (.int p4), .val (.int p5), .val (.ref b1), .val (.ref b64), .val (.int (p5 &&& (1 : Int32))), .val (.int ((p5 >>> ((1 : Int32) &&& 31)) &&& (1 : Int32))), .val (.int ((p5 >>> ((2 : Int32) &&& 31)) &&& (1 : Int32))), .val (.long ((0 : Int64) + (p2.toInt64))), .second, .val (.long (((0 : Int64) + (p3.toInt64)) + (p4.toInt64))), .second, .val (.int (own_ov (p0.toInt64) (p1.toInt64))), .val (.int (1 : Int32)), .val (.int (own_ov ((p0.toInt64) + (-(p2.toInt64))) (p1.toInt64))), .val (.int (1 : Int32)), .val (.int (own_ov ((p0.toInt64) + (-(p2.toInt64))) (((p1.toInt64) + (-(p3.toInt64))) + (-(p4.toInt64))))), .unset] [(.int (own_over (((0 : Int64) + (p3.toInt64)) + (p4.toInt64)) (p1.toInt64))), (.int (own_over ((0 : Int64) + (p2.toInt64)) (p0.toInt64))), (.int (own_ov ((p0.toInt64) + (-(p2.toInt64))) (((p1.toInt64) + (-(p3.toInt64))) + (-(p4.toInt64)))))]))
        refine Rch.st (fun _ hr => XS.iadd X282.here hx rfl (hb hby at_288) rfl hr) ?_
        have hk283 : (own_ov ((p0.toInt64) + (-(p2.toInt64))) (((p1.toInt64) + (-(p3.toInt64))) + (-(p4.toInt64)))) = ((own_over ((0 : Int64) + (p2.toInt64)) (p0.toInt64)) + (own_over (((0 : Int64) + (p3.toInt64)) + (p4.toInt64)) (p1.toInt64))) := own_cmp iv117 iv261
        refine Rch.st (fun _ hr => XS.icmpNo X282.here hx rfl (hb hby at_289) rfl (teq hk283).2 hr) ?_
        refine Rch.st (fun _ hr => XS.iconst X282.here hx rfl (hb hby at_292) hr) ?_
        refine Rch.st (fun _ hr => XS.goto X282.here hx rfl (pc0 := 293) (pc' := 297) rfl (hb hby at_293) (by decide) (by decide) hr) ?_
        show Rch p.tables e below _ (T282.setTop (mkF m 297 #[.val (.int p0), .val (.int p1), .val (.int p2), .val (.int p3), .val (.int p4), .val (.int p5), .val (.ref b1), .val (.ref b64), .val (.int (p5 &&& (1 : Int32))), .val (.int ((p5 >>> ((1 : Int32) &&& 31)) &&& (1 : Int32))), .val (.int ((p5 >>> ((2 : Int32) &&& 31)) &&& (1 : Int32))), .val (.long ((0 : Int64) + (p2.toInt64))), .second, .val (.long (((0 : Int64) + (p3.toInt64)) + (p4.toInt64))), .second, .val (.int (own_ov (p0.toInt64) (p1.toInt64))), .val (.int (1 : Int32)), .val (.int (own_ov ((p0.toInt64) + (-(p2.toInt64))) (p1.toInt64))), .val (.int (1 : Int32)), .val (.int (own_ov ((p0.toInt64) + (-(p2.toInt64))) (((p1.toInt64) + (-(p3.toInt64))) + (-(p4.toInt64))))), .unset] [(.int (1 : Int32))]))
        refine Rch.st (fun _ hr => XS.istore X282.here hx rfl (hb hby at_297) rfl (l' := #[.val (.int p0), .val (.int p1), .val (.int p2), .val (.int p3), .val (.int p4), .val (.int p5), .val (.ref b1), .val (.ref b64), .val (.int (p5 &&& (1 : Int32))), .val (.int ((p5 >>> ((1 : Int32) &&& 31)) &&& (1 : Int32))), .val (.int ((p5 >>> ((2 : Int32) &&& 31)) &&& (1 : Int32))), .val (.long ((0 : Int64) + (p2.toInt64))), .second, .val (.long (((0 : Int64) + (p3.toInt64)) + (p4.toInt64))), .second, .val (.int (own_ov (p0.toInt64) (p1.toInt64))), .val (.int (1 : Int32)), .val (.int (own_ov ((p0.toInt64) + (-(p2.toInt64))) (p1.toInt64))), .val (.int (1 : Int32)), .val (.int (own_ov ((p0.toInt64) + (-(p2.toInt64))) (((p1.toInt64) + (-(p3.toInt64))) + (-(p4.toInt64))))), .val (.int (1 : Int32))]) rfl hr) ?_
        refine Rch.st (fun _ hr => XS.iload X282.here hx rfl (hb hby at_299) rfl hr) ?_
        refine Rch.st (fun _ hr => XS.ifNo X282.here hx rfl (hb hby at_301) rfl ((if0 _ _).trans (feq (by decide : ¬ ((1 : Int32) = (0 : Int32)))).1) hr) ?_
        refine Rch.st (fun _ hr => XS.iload X282.here hx rfl (hb hby at_304) rfl hr) ?_
        show Rch p.tables e below _ (T282.setTop (mkF m 306 #[.val (.int p0), .val (.int p1), .val (.int p2), .val (.int p3), .val (.int p4), .val (.int p5), .val (.ref b1), .val (.ref b64), .val (.int (p5 &&& (1 : Int32))), .val (.int ((p5 >>> ((1 : Int32) &&& 31)) &&& (1 : Int32))), .val (.int ((p5 >>> ((2 : Int32) &&& 31)) &&& (1 : Int32))), .val (.long ((0 : Int64) + (p2.toInt64))), .second, .val (.long (((0 : Int64) + (p3.toInt64)) + (p4.toInt64))), .second, .val (.int (own_ov (p0.toInt64) (p1.toInt64))), .val (.int (1 : Int32)), .val (.int (own_ov ((p0.toInt64) + (-(p2.toInt64))) (p1.toInt64))), .val (.int (1 : Int32)), .val (.int (own_ov ((p0.toInt64) + (-(p2.toInt64))) (((p1.toInt64) + (-(p3.toInt64))) + (-(p4.toInt64))))), .val (.int (1 : Int32))] [(.int (1 : Int32))]))
        refine Rch.st (fun _ hr => XS.ifNo X282.here hx rfl (hb hby at_306) rfl ((if0 _ _).trans (feq (by decide : ¬ ((1 : Int32) = (0 : Int32)))).1) hr) ?_
        refine Rch.st (fun _ hr => XS.iload X282.here hx rfl (hb hby at_309) rfl hr) ?_
        refine Rch.st (fun _ hr => XS.ifNo X282.here hx rfl (hb hby at_311) rfl ((if0 _ _).trans (feq (by decide : ¬ ((1 : Int32) = (0 : Int32)))).1) hr) ?_
        refine Rch.st (fun _ hr => XS.iconst X282.here hx rfl (hb hby at_314) hr) ?_
        show Rch p.tables e below _ (T282.setTop (mkF m 315 #[.val (.int p0), .val (.int p1), .val (.int p2), .val (.int p3), .val (.int p4), .val (.int p5), .val (.ref b1), .val (.ref b64), .val (.int (p5 &&& (1 : Int32))), .val (.int ((p5 >>> ((1 : Int32) &&& 31)) &&& (1 : Int32))), .val (.int ((p5 >>> ((2 : Int32) &&& 31)) &&& (1 : Int32))), .val (.long ((0 : Int64) + (p2.toInt64))), .second, .val (.long (((0 : Int64) + (p3.toInt64)) + (p4.toInt64))), .second, .val (.int (own_ov (p0.toInt64) (p1.toInt64))), .val (.int (1 : Int32)), .val (.int (own_ov ((p0.toInt64) + (-(p2.toInt64))) (p1.toInt64))), .val (.int (1 : Int32)), .val (.int (own_ov ((p0.toInt64) + (-(p2.toInt64))) (((p1.toInt64) + (-(p3.toInt64))) + (-(p4.toInt64))))), .val (.int (1 : Int32))] [(.int (1 : Int32))]))
        refine Rch.st (fun _ hr => XS.goto X282.here hx rfl (pc0 := 315) (pc' := 319) rfl (hb hby at_315) (by decide) (by decide) hr) ?_
        obtain ⟨fs, hr, hrun, hended, hREW⟩ := Jvm.Stand.leaveW (s := s) X282 hS40 (by rw [e282]; exact (Nat.le_trans (Nat.le_trans (Nat.le_trans (Nat.le_trans (Nat.le_trans (Nat.le_trans (Nat.le_trans (Nat.le_trans (Nat.le_trans (Nat.le_trans (Nat.le_trans hk40 Kp43.1) Kp46.1) Kp52.1) E64.1) Kp76.1) Kp112.1) Kp115.1) Kp135.1) Kp210.1) Kp229.1) Kp259.1)) (v := some (.int (1 : Int32))) (fun h => by rw [Bd.returns] at h; cases h)
        refine Rch.fin (u := T282.setFrames fs) (retN X282 hx (t := .boolean) Bd.returns (by simp) (hb hby at_319) hr) ⟨_, hrun, hended, _, _, rfl, ?_, hREW.1, hREW.2.1, hREW.2.2.1, hREW.2.2.2.mono (by decide) (by decide)⟩
        show Q_claw Z p0 p1 p2 p3 p4 p5 wz de kde zz h0 n0 _ T282.heap _
        rw [e282]
        exact ⟨rfl, N282, K276, Op259⟩
  · show Rch p.tables e below _ (T112.setTop (mkF m 135 #[.val (.int p0), .val (.int p1), .val (.int p2), .val (.int p3), .val (.int p4), .val (.int p5), .val (.ref b1), .val (.ref b64), .val (.int (p5 &&& (1 : Int32))), .val (.int ((p5 >>> ((1 : Int32) &&& 31)) &&& (1 : Int32))), .val (.int ((p5 >>> ((2 : Int32) &&& 31)) &&& (1 : Int32))), .val (.long (0 : Int64)), .second, .val (.long (0 : Int64)), .second, .val (.int (own_ov (p0.toInt64) (p1.toInt64))), .val (.int (1 : Int32)), .unset, .unset, .unset, .unset] [(.ref r_112), (.int (p5 &&& (1 : Int32))), (.ref b64)]))
    have f285 : Exa Z T112.heap b64 "com/example/slotwright/slotwright/Ledger" := (R76_0.keep Kp112)
    have hone286 : (p5 &&& (1 : Int32)) = (1 : Int32) := (and_one _).resolve_left hc114
    obtain ⟨ts286, ks286⟩ := Bk.add Bk.zero (Bk.i2l p2) (by decide)
    obtain ⟨tn286, kn286⟩ := Bk.neg (Bk.i2l p2) (by decide)
    obtain ⟨tr286, kr286⟩ := Bk.add (Bk.i2l p1) kn286 (by decide)
    have iv286 := own_inv (own_inv0 (p1.toInt64)) ts286 tn286 tr286
    have f287 : Fld Z T112.heap b64 "com/example/slotwright/slotwright/Ledger" "spent" "[Ljava/math/BigDecimal;" (.ref sp_76) := (R76_1.keep Kp112 nin0)
    have f288 : Fld Z T112.heap b64 "com/example/slotwright/slotwright/Ledger" "remaining" "[Ljava/math/BigDecimal;" (.ref rm_76) := (R76_2.keep Kp112 nin0)
    have f289 : Arv Z T112.heap sp_76 ks_76 (.object "java/math/BigDecimal") (2 : Int32) [(.ref zz), (.ref zz)] .null := (R76_5.keep Kp112 nin0)
    have f290 : Arv Z T112.heap rm_76 kr_76 (.object "java/math/BigDecimal") (2 : Int32) [(.ref r_12), (.ref r_43)] .null := (R76_6.keep Kp112 nin0)
    have f291 : Ovr Z ks_76 "java/math/BigDecimal" := R76_7
    have f292 : Ovr Z kr_76 "java/math/BigDecimal" := R76_8
    have f293 : BDc Z T112.heap r_43 (p1.toInt64) (0 : Int32) := (f108.keep Kp112 nin0)
    obtain ⟨_, T284, Lc284, X284, hQ284, st284⟩ := own_callV X112 hx hZ40 (y := (⟨"com/example/slotwright/slotwright/Ledger", "charge", "(ILjava/math/BigDecimal;)V"⟩ : MethodName)) (z := (⟨"com/example/slotwright/slotwright/Ledger", "charge", "(ILjava/math/BigDecimal;)V"⟩ : MethodName)) hown40 (own_w hw 169 rfl) (own_w hw 170 rfl) (notFace_of_selects (args := #[]) (mvT hZ40 (own_w hw 172 rfl))) (own_w hw 172 rfl) (own_w hw 171 rfl) (own_w hw 93 rfl) (own_w hw 173 rfl) (by decide) (W := 0) (ccharge1 l Z a0 hw [] b64 r_112 sp_76 ks_76 rm_76 kr_76 zz zz r_12 r_43 (0 : Int64) (p1.toInt64) (p2.toInt64) wz T112.heap n0 zD0 zD1 Op112 f285 f287 f288 f289 f290 f291 f292 (zD5.ext Op112.2) f293 R112_0 g_sp_76 g_rm_76 R76_9 (Bk.ne Bk.zero (by decide)) (Bk.ne (Bk.i2l p1) (by decide)) (Bk.ne (Bk.i2l p2) (by decide)) (own_noflow Bk.zero (Bk.i2l p2) (by decide)) (Bk.ne ks286 (by decide)) (own_noflow (Bk.i2l p1) kn286 (by decide)) (Bk.ne kr286 (by decide))) (by decide) (by decide) rfl f285 (by decide) (by decide) (g := (mkF m 135 #[.val (.int p0), .val (.int p1), .val (.int p2), .val (.int p3), .val (.int p4), .val (.int p5), .val (.ref b1), .val (.ref b64), .val (.int (p5 &&& (1 : Int32))), .val (.int ((p5 >>> ((1 : Int32) &&& 31)) &&& (1 : Int32))), .val (.int ((p5 >>> ((2 : Int32) &&& 31)) &&& (1 : Int32))), .val (.long (0 : Int64)), .second, .val (.long (0 : Int64)), .second, .val (.int (own_ov (p0.toInt64) (p1.toInt64))), .val (.int (1 : Int32)), .unset, .unset, .unset, .unset] [(.ref r_112), (.int (p5 &&& (1 : Int32))), (.ref b64)])) rfl (by rw [hml]; rfl) (argsL := [(.int (p5 &&& (1 : Int32))), (.ref r_112)]) (rest := []) (lenOf pd_22 rfl) rfl (by show 2 * 0 + _ ≤ _; exact Nat.le_of_eq rfl) (hb hby at_135) (by rw [hone286])
    obtain ⟨t1_284, t2_284, rfl, N284q, Kp284, Op284, R284_0, R284_1, R284_2, R284_3⟩ := hQ284
    have N284 := Fr.app N112 N284q
    refine Rch.st st284 ?_
    have ne294 : r_112 ≠ sp_76 := (Exa.neArv R112_0.1 f289 (own_w hw 200 rfl))
    have ne295 : r_112 ≠ rm_76 := (Exa.neArv R112_0.1 f290 (own_w hw 200 rfl))
    have K296 : Keep h0 T284.heap [] := K113.trans Kp284 (allS (Or.inr sz_sp_76) (allS (Or.inr sz_rm_76) all0))
    refine Rch.st (fun _ hr => XS.iload X284.here hx rfl (hb hby at_138) rfl hr) ?_
    refine Rch.st (fun _ hr => XS.ifYes X284.here hx rfl (pc0 := 140) (pc' := 153) rfl (hb hby at_140) rfl ((if0 _ _).trans (feq hc114).2) (by decide) (by decide) hr) ?_
    refine Rch.st (fun _ hr => XS.lload X284.here hx rfl (hb hby at_153) rfl hr) ?_
    show Rch p.tables e below _ (T284.setTop (mkF m 155 #[.val (.int p0), .val (.int p1), .val (.int p2), .val (.int p3), .val (.int p4), .val (.int p5), .val (.ref b1), .val (.ref b64), .val (.int (p5 &&& (1 : Int32))), .val (.int ((p5 >>> ((1 : Int32) &&& 31)) &&& (1 : Int32))), .val (.int ((p5 >>> ((2 : Int32) &&& 31)) &&& (1 : Int32))), .val (.long (0 : Int64)), .second, .val (.long (0 : Int64)), .second, .val (.int (own_ov (p0.toInt64) (p1.toInt64))), .val (.int (1 : Int32)), .unset, .unset, .unset, .unset] [(.long (0 : Int64))]))
    refine Rch.st (fun _ hr => XS.iloadN X284.here hx rfl (hb hby at_155) rfl hr) ?_
    refine Rch.st (fun _ hr => XS.i2l X284.here hx rfl (hb hby at_156) rfl hr) ?_
    refine Rch.st (fun _ hr => XS.ladd X284.here hx rfl (hb hby at_157) rfl hr) ?_
    refine Rch.st (fun _ hr => XS.lstore X284.here hx rfl (hb hby at_158) rfl (l' := #[.val (.int p0), .val (.int p1), .val (.int p2), .val (.int p3), .val (.int p4), .val (.int p5), .val (.ref b1), .val (.ref b64), .val (.int (p5 &&& (1 : Int32))), .val (.int ((p5 >>> ((1 : Int32) &&& 31)) &&& (1 : Int32))), .val (.int ((p5 >>> ((2 : Int32) &&& 31)) &&& (1 : Int32))), .val (.long (0 : Int64)), .second, .val (.long ((0 : Int64) + (p2.toInt64))), .second, .val (.int (own_ov (p0.toInt64) (p1.toInt64))), .val (.int (1 : Int32)), .unset, .unset, .unset, .unset]) rfl hr) ?_
    show Rch p.tables e below _ (T284.setTop (mkF m 160 #[.val (.int p0), .val (.int p1), .val (.int p2), .val (.int p3), .val (.int p4), .val (.int p5), .val (.ref b1), .val (.ref b64), .val (.int (p5 &&& (1 : Int32))), .val (.int ((p5 >>> ((1 : Int32) &&& 31)) &&& (1 : Int32))), .val (.int ((p5 >>> ((2 : Int32) &&& 31)) &&& (1 : Int32))), .val (.long (0 : Int64)), .second, .val (.long ((0 : Int64) + (p2.toInt64))), .second, .val (.int (own_ov (p0.toInt64) (p1.toInt64))), .val (.int (1 : Int32)), .unset, .unset, .unset, .unset] []))
    refine Rch.st (fun _ hr => XS.aload X284.here hx rfl (hb hby at_160) rfl rfl hr) ?_
    have f298 : Exa Z T284.heap b64 "com/example/slotwright/slotwright/Ledger" := (f285.keep Kp284)
    have f299 : Fld Z T284.heap b64 "com/example/slotwright/slotwright/Ledger" "remaining" "[Ljava/math/BigDecimal;" (.ref rm_76) := (f288.keep Kp284 (ninS ne97 (ninS ne104 nin0)))
    have f300 : BDc Z T284.heap r_12 (p0.toInt64) (0 : Int32) := ((f107.keep Kp112 nin0).keep Kp284 (ninS ne92 (ninS ne100 nin0)))
    obtain ⟨_, T297, Lc297, X297, hQ297, st297⟩ := own_callV X284 hx hZ40 (y := (⟨"com/example/slotwright/slotwright/Ledger", "overspent", "()I"⟩ : MethodName)) (z := (⟨"com/example/slotwright/slotwright/Ledger", "overspent", "()I"⟩ : MethodName)) hown40 (own_w hw 148 rfl) (own_w hw 149 rfl) (notFace_of_selects (args := #[]) (mvT hZ40 (own_w hw 151 rfl))) (own_w hw 151 rfl) (own_w hw 150 rfl) (own_w hw 93 rfl) (own_w hw 152 rfl) (by decide) (W := 0) (cover l Z a0 hw [] b64 rm_76 kr_76 r_12 t2_284 (p0.toInt64) ((p1.toInt64) + (-(p2.toInt64))) T284.heap n0 f299 R284_1 f300 R284_3 (Bk.ne (Bk.i2l p0) (by decide)) (Bk.ne kr286 (by decide))) (by decide) (by decide) rfl f298 (by decide) (by decide) (g := (mkF m 162 #[.val (.int p0), .val (.int p1), .val (.int p2), .val (.int p3), .val (.int p4), .val (.int p5), .val (.ref b1), .val (.ref b64), .val (.int (p5 &&& (1 : Int32))), .val (.int ((p5 >>> ((1 : Int32) &&& 31)) &&& (1 : Int32))), .val (.int ((p5 >>> ((2 : Int32) &&& 31)) &&& (1 : Int32))), .val (.long (0 : Int64)), .second, .val (.long ((0 : Int64) + (p2.toInt64))), .second, .val (.int (own_ov (p0.toInt64) (p1.toInt64))), .val (.int (1 : Int32)), .unset, .unset, .unset, .unset] [(.ref b64)])) rfl (by rw [hml]; rfl) (argsL := []) (rest := []) (lenOf pd_14 rfl) rfl (by show 2 * 0 + _ ≤ _; exact Nat.le_of_eq rfl) (hb hby at_162) rfl
    obtain ⟨rfl, N297q, e297⟩ := hQ297
    have N297 := Fr.app N284 N297q
    refine Rch.st st297 ?_
    refine Rch.st (fun _ hr => XS.istore X297.here hx rfl (hb hby at_165) rfl (l' := #[.val (.int p0), .val (.int p1), .val (.int p2), .val (.int p3), .val (.int p4), .val (.int p5), .val (.ref b1), .val (.ref b64), .val (.int (p5 &&& (1 : Int32))), .val (.int ((p5 >>> ((1 : Int32) &&& 31)) &&& (1 : Int32))), .val (.int ((p5 >>> ((2 : Int32) &&& 31)) &&& (1 : Int32))), .val (.long (0 : Int64)), .second, .val (.long ((0 : Int64) + (p2.toInt64))), .second, .val (.int (own_ov (p0.toInt64) (p1.toInt64))), .val (.int (1 : Int32)), .val (.int (own_ov (p0.toInt64) ((p1.toInt64) + (-(p2.toInt64))))), .unset, .unset, .unset]) rfl hr) ?_
    refine Rch.st (fun _ hr => XS.iload X297.here hx rfl (hb hby at_167) rfl hr) ?_
    show Rch p.tables e below _ (T297.setTop (mkF m 169 #[.val (.int p0), .val (.int p1), .val (.int p2), .val (.int p3), .val (.int p4), .val (.int p5), .val (.ref b1), .val (.ref b64), .val (.int (p5 &&& (1 : Int32))), .val (.int ((p5 >>> ((1 : Int32) &&& 31)) &&& (1 : Int32))), .val (.int ((p5 >>> ((2 : Int32) &&& 31)) &&& (1 : Int32))), .val (.long (0 : Int64)), .second, .val (.long ((0 : Int64) + (p2.toInt64))), .second, .val (.int (own_ov (p0.toInt64) (p1.toInt64))), .val (.int (1 : Int32)), .val (.int (own_ov (p0.toInt64) ((p1.toInt64) + (-(p2.toInt64))))), .unset, .unset, .unset] [(.int (own_ov (p0.toInt64) ((p1.toInt64) + (-(p2.toInt64)))))]))
    refine Rch.st (fun _ hr => XS.lload X297.here hx rfl (hb hby at_169) rfl hr) ?_
    refine Rch.st (fun _ hr => XS.iloadN X297.here hx rfl (hb hby at_171) rfl hr) ?_
    refine Rch.st (fun _ hr => XS.i2l X297.here hx rfl (hb hby at_172) rfl hr) ?_
    obtain ⟨_, T301, Lc301, X301, hQ301, st301⟩ := own_callS X297 hx hZ40 (y := (⟨"com/example/slotwright/slotwright/LedgerOverspentPinLaw", "over", "(JJ)I"⟩ : MethodName)) hown40 (own_w hw 165 rfl) (own_w hw 166 rfl) (own_w hw 167 rfl) (own_w hw 168 rfl) (by decide) (W := 1) (cov l Z a0 hw [] (0 : Int64) (p0.toInt64) T284.heap n0 ) (by decide) (by decide) e297 (by decide) (by decide) (g := (mkF m 173 #[.val (.int p0), .val (.int p1), .val (.int p2), .val (.int p3), .val (.int p4), .val (.int p5), .val (.ref b1), .val (.ref b64), .val (.int (p5 &&& (1 : Int32))), .val (.int ((p5 >>> ((1 : Int32) &&& 31)) &&& (1 : Int32))), .val (.int ((p5 >>> ((2 : Int32) &&& 31)) &&& (1 : Int32))), .val (.long (0 : Int64)), .second, .val (.long ((0 : Int64) + (p2.toInt64))), .second, .val (.int (own_ov (p0.toInt64) (p1.toInt64))), .val (.int (1 : Int32)), .val (.int (own_ov (p0.toInt64) ((p1.toInt64) + (-(p2.toInt64))))), .unset, .unset, .unset] [(.long (p0.toInt64)), (.long (0 : Int64)), (.int (own_ov (p0.toInt64) ((p1.toInt64) + (-(p2.toInt64)))))])) rfl (by rw [hml]; rfl) (argsL := [(.long (0 : Int64)), (.long (p0.toInt64))]) (rest := [(.int (own_ov (p0.toInt64) ((p1.toInt64) + (-(p2.toInt64)))))]) (lenOf pd_21 rfl) rfl (by show 2 * 0 + _ ≤ _; exact Nat.le_of_eq rfl) (hb hby at_173) rfl
    obtain ⟨rfl, N301q, e301⟩ := hQ301
    have N301 := Fr.app N297 N301q
    refine Rch.st st301 ?_
    show Rch p.tables e below _ (T301.setTop (mkF m 176 #[.val (.int p0), .val (.int p1), .val (.int p2), .val (.int p3), .val (.int p4), .val (.int p5), .val (.ref b1), .val (.ref b64), .val (.int (p5 &&& (1 : Int32))), .val (.int ((p5 >>> ((1 : Int32) &&& 31)) &&& (1 : Int32))), .val (.int ((p5 >>> ((2 : Int32) &&& 31)) &&& (1 : Int32))), .val (.long (0 : Int64)), .second, .val (.long ((0 : Int64) + (p2.toInt64))), .second, .val (.int (own_ov (p0.toInt64) (p1.toInt64))), .val (.int (1 : Int32)), .val (.int (own_ov (p0.toInt64) ((p1.toInt64) + (-(p2.toInt64))))), .unset, .unset, .unset] [(.int (own_over (0 : Int64) (p0.toInt64))), (.int (own_ov (p0.toInt64) ((p1.toInt64) + (-(p2.toInt64)))))]))
    refine Rch.st (fun _ hr => XS.lload X301.here hx rfl (hb hby at_176) rfl hr) ?_
    refine Rch.st (fun _ hr => XS.iloadN X301.here hx rfl (hb hby at_178) rfl hr) ?_
    refine Rch.st (fun _ hr => XS.i2l X301.here hx rfl (hb hby at_179) rfl hr) ?_
    obtain ⟨_, T302, Lc302, X302, hQ302, st302⟩ := own_callS X301 hx hZ40 (y := (⟨"com/example/slotwright/slotwright/LedgerOverspentPinLaw", "over", "(JJ)I"⟩ : MethodName)) hown40 (own_w hw 165 rfl) (own_w hw 166 rfl) (own_w hw 167 rfl) (own_w hw 168 rfl) (by decide) (W := 2) (cov l Z a0 hw [] ((0 : Int64) + (p2.toInt64)) (p1.toInt64) T284.heap n0 ) (by decide) (by decide) e301 (by decide) (by decide) (g := (mkF m 180 #[.val (.int p0), .val (.int p1), .val (.int p2), .val (.int p3), .val (.int p4), .val (.int p5), .val (.ref b1), .val (.ref b64), .val (.int (p5 &&& (1 : Int32))), .val (.int ((p5 >>> ((1 : Int32) &&& 31)) &&& (1 : Int32))), .val (.int ((p5 >>> ((2 : Int32) &&& 31)) &&& (1 : Int32))), .val (.long (0 : Int64)), .second, .val (.long ((0 : Int64) + (p2.toInt64))), .second, .val (.int (own_ov (p0.toInt64) (p1.toInt64))), .val (.int (1 : Int32)), .val (.int (own_ov (p0.toInt64) ((p1.toInt64) + (-(p2.toInt64))))), .unset, .unset, .unset] [(.long (p1.toInt64)), (.long ((0 : Int64) + (p2.toInt64))), (.int (own_over (0 : Int64) (p0.toInt64))), (.int (own_ov (p0.toInt64) ((p1.toInt64) + (-(p2.toInt64)))))])) rfl (by rw [hml]; rfl) (argsL := [(.long ((0 : Int64) + (p2.toInt64))), (.long (p1.toInt64))]) (rest := [(.int (own_over (0 : Int64) (p0.toInt64))), (.int (own_ov (p0.toInt64) ((p1.toInt64) + (-(p2.toInt64)))))]) (lenOf pd_21 rfl) rfl (by show 2 * 0 + _ ≤ _; exact Nat.le_of_eq rfl) (hb hby at_180) rfl
    obtain ⟨rfl, N302q, e302⟩ := hQ302
    have N302 := Fr.app N301 N302q
    refine Rch.st st302 ?_
    show Rch p.tables e below _ (T302.setTop (mkF m 183 #[.val (.int p0), .val (.int p1), .val (.int p2), .val (.int p3), .val (.int p4), .val (.int p5), .val (.ref b1), .val (.ref b64), .val (.int (p5 &&& (1 : Int32))), .val (.int ((p5 >>> ((1 : Int32) &&& 31)) &&& (1 : Int32))), .val (.int ((p5 >>> ((2 : Int32) &&& 31)) &&& (1 : Int32))), .val (.long (0 : Int64)), .second, .val (.long ((0 : Int64) + (p2.toInt64))), .second, .val (.int (own_ov (p0.toInt64) (p1.toInt64))), .val (.int (1 : Int32)), .val (.int (own_ov (p0.toInt64) ((p1.toInt64) + (-(p2.toInt64))))), .unset, .unset, .unset] [(.int (own_over ((0 : Int64) + (p2.toInt64)) (p1.toInt64))), (.int (own_over (0 : Int64) (p0.toInt64))), (.int (own_ov (p0.toInt64) ((p1.toInt64) + (-(p2.toInt64)))))]))
    refine Rch.st (fun _ hr => XS.iadd X302.here hx rfl (hb hby at_183) rfl hr) ?_
    have hk303 : (own_ov (p0.toInt64) ((p1.toInt64) + (-(p2.toInt64)))) = ((own_over (0 : Int64) (p0.toInt64)) + (own_over ((0 : Int64) + (p2.toInt64)) (p1.toInt64))) := own_cmp (own_inv0 (p0.toInt64)) iv286
    refine Rch.st (fun _ hr => XS.icmpNo X302.here hx rfl (hb hby at_184) rfl (teq hk303).2 hr) ?_
    refine Rch.st (fun _ hr => XS.iconst X302.here hx rfl (hb hby at_187) hr) ?_
    refine Rch.st (fun _ hr => XS.goto X302.here hx rfl (pc0 := 188) (pc' := 192) rfl (hb hby at_188) (by decide) (by decide) hr) ?_
    show Rch p.tables e below _ (T302.setTop (mkF m 192 #[.val (.int p0), .val (.int p1), .val (.int p2), .val (.int p3), .val (.int p4), .val (.int p5), .val (.ref b1), .val (.ref b64), .val (.int (p5 &&& (1 : Int32))), .val (.int ((p5 >>> ((1 : Int32) &&& 31)) &&& (1 : Int32))), .val (.int ((p5 >>> ((2 : Int32) &&& 31)) &&& (1 : Int32))), .val (.long (0 : Int64)), .second, .val (.long ((0 : Int64) + (p2.toInt64))), .second, .val (.int (own_ov (p0.toInt64) (p1.toInt64))), .val (.int (1 : Int32)), .val (.int (own_ov (p0.toInt64) ((p1.toInt64) + (-(p2.toInt64))))), .unset, .unset, .unset] [(.int (1 : Int32))]))
    refine Rch.st (fun _ hr => XS.istore X302.here hx rfl (hb hby at_192) rfl (l' := #[.val (.int p0), .val (.int p1), .val (.int p2), .val (.int p3), .val (.int p4), .val (.int p5), .val (.ref b1), .val (.ref b64), .val (.int (p5 &&& (1 : Int32))), .val (.int ((p5 >>> ((1 : Int32) &&& 31)) &&& (1 : Int32))), .val (.int ((p5 >>> ((2 : Int32) &&& 31)) &&& (1 : Int32))), .val (.long (0 : Int64)), .second, .val (.long ((0 : Int64) + (p2.toInt64))), .second, .val (.int (own_ov (p0.toInt64) (p1.toInt64))), .val (.int (1 : Int32)), .val (.int (own_ov (p0.toInt64) ((p1.toInt64) + (-(p2.toInt64))))), .val (.int (1 : Int32)), .unset, .unset]) rfl hr) ?_
    refine Rch.st (fun _ hr => XS.aload X302.here hx rfl (hb hby at_194) rfl rfl hr) ?_
    refine Rch.st (fun _ hr => XS.iload X302.here hx rfl (hb hby at_196) rfl hr) ?_
    refine Rch.st (fun _ hr => XS.iloadN X302.here hx rfl (hb hby at_198) rfl hr) ?_
    show Rch p.tables e below _ (T302.setTop (mkF m 199 #[.val (.int p0), .val (.int p1), .val (.int p2), .val (.int p3), .val (.int p4), .val (.int p5), .val (.ref b1), .val (.ref b64), .val (.int (p5 &&& (1 : Int32))), .val (.int ((p5 >>> ((1 : Int32) &&& 31)) &&& (1 : Int32))), .val (.int ((p5 >>> ((2 : Int32) &&& 31)) &&& (1 : Int32))), .val (.long (0 : Int64)), .second, .val (.long ((0 : Int64) + (p2.toInt64))), .second, .val (.int (own_ov (p0.toInt64) (p1.toInt64))), .val (.int (1 : Int32)), .val (.int (own_ov (p0.toInt64) ((p1.toInt64) + (-(p2.toInt64))))), .val (.int (1 : Int32)), .unset, .unset] [(.int p3), (.int ((p5 >>> ((1 : Int32) &&& 31)) &&& (1 : Int32))), (.ref b64)]))
    refine Rch.st (fun _ hr => XS.i2l X302.here hx rfl (hb hby at_199) rfl hr) ?_
    obtain ⟨_, T304, Lc304, X304, hQ304, st304⟩ := own_callS X302 hx hZ40 (y := (⟨"java/math/BigDecimal", "valueOf", "(J)Ljava/math/BigDecimal;"⟩ : MethodName)) hown40 (own_w hw 37 rfl) (own_w hw 38 rfl) (own_w hw 39 rfl) (own_w hw 40 rfl) (by decide) (W := 2) (cvalueOf l Z a0 hw [] (p3.toInt64) wz T284.heap n0 zD0 zD1 Op284 (Bk.ne (Bk.i2l p3) (by decide))) (by decide) (by decide) e302 (by decide) (by decide) (g := (mkF m 200 #[.val (.int p0), .val (.int p1), .val (.int p2), .val (.int p3), .val (.int p4), .val (.int p5), .val (.ref b1), .val (.ref b64), .val (.int (p5 &&& (1 : Int32))), .val (.int ((p5 >>> ((1 : Int32) &&& 31)) &&& (1 : Int32))), .val (.int ((p5 >>> ((2 : Int32) &&& 31)) &&& (1 : Int32))), .val (.long (0 : Int64)), .second, .val (.long ((0 : Int64) + (p2.toInt64))), .second, .val (.int (own_ov (p0.toInt64) (p1.toInt64))), .val (.int (1 : Int32)), .val (.int (own_ov (p0.toInt64) ((p1.toInt64) + (-(p2.toInt64))))), .val (.int (1 : Int32)), .unset, .unset] [(.long (p3.toInt64)), (.int ((p5 >>> ((1 : Int32) &&& 31)) &&& (1 : Int32))), (.ref b64)])) rfl (by rw [hml]; rfl) (argsL := [(.long (p3.toInt64))]) (rest := [(.int ((p5 >>> ((1 : Int32) &&& 31)) &&& (1 : Int32))), (.ref b64)]) (lenOf pd_2 rfl) rfl (by show 2 * 0 + _ ≤ _; exact Nat.le_of_eq rfl) (hb hby at_200) rfl
    obtain ⟨r_304, rfl, N304q, Kp304, Op304, R304_0⟩ := hQ304
    have N304 := Fr.app N302 N304q
    refine Rch.st st304 ?_
    have K305 : Keep h0 T304.heap [] := K296.trans Kp304 all0
    by_cases hc306 : ((p5 >>> ((1 : Int32) &&& 31)) &&& (1 : Int32)) = (0 : Int32)
    · show Rch p.tables e below _ (T304.setTop (mkF m 203 #[.val (.int p0), .val (.int p1), .val (.int p2), .val (.int p3), .val (.int p4), .val (.int p5), .val (.ref b1), .val (.ref b64), .val (.int (p5 &&& (1 : Int32))), .val (.int ((p5 >>> ((1 : Int32) &&& 31)) &&& (1 : Int32))), .val (.int ((p5 >>> ((2 : Int32) &&& 31)) &&& (1 : Int32))), .val (.long (0 : Int64)), .second, .val (.long ((0 : Int64) + (p2.toInt64))), .second, .val (.int (own_ov (p0.toInt64) (p1.toInt64))), .val (.int (1 : Int32)), .val (.int (own_ov (p0.toInt64) ((p1.toInt64) + (-(p2.toInt64))))), .val (.int (1 : Int32)), .unset, .unset] [(.ref r_304), (.int ((p5 >>> ((1 : Int32) &&& 31)) &&& (1 : Int32))), (.ref b64)]))
      have f308 : Exa Z T304.heap b64 "com/example/slotwright/slotwright/Ledger" := (f298.keep Kp304)
      obtain ⟨ts309, ks309⟩ := Bk.add Bk.zero (Bk.i2l p3) (by decide)
      obtain ⟨tn309, kn309⟩ := Bk.neg (Bk.i2l p3) (by decide)
      obtain ⟨tr309, kr309⟩ := Bk.add (Bk.i2l p0) kn309 (by decide)
      have iv309 := own_inv (own_inv0 (p0.toInt64)) ts309 tn309 tr309
      have f310 : Fld Z T304.heap b64 "com/example/slotwright/slotwright/Ledger" "spent" "[Ljava/math/BigDecimal;" (.ref sp_76) := ((f287.keep Kp284 (ninS ne97 (ninS ne104 nin0))).keep Kp304 nin0)
      have f311 : Fld Z T304.heap b64 "com/example/slotwright/slotwright/Ledger" "remaining" "[Ljava/math/BigDecimal;" (.ref rm_76) := (f299.keep Kp304 nin0)
      have f312 : Arv Z T304.heap sp_76 ks_76 (.object "java/math/BigDecimal") (2 : Int32) [(.ref zz), (.ref t1_284)] .null := (R284_0.keep Kp304 nin0)
      have f313 : Arv Z T304.heap rm_76 kr_76 (.object "java/math/BigDecimal") (2 : Int32) [(.ref r_12), (.ref t2_284)] .null := (R284_1.keep Kp304 nin0)
      have f314 : Ovr Z ks_76 "java/math/BigDecimal" := f291
      have f315 : Ovr Z kr_76 "java/math/BigDecimal" := f292
      have f316 : BDc Z T304.heap r_12 (p0.toInt64) (0 : Int32) := (f300.keep Kp304 nin0)
      obtain ⟨_, T307, Lc307, X307, hQ307, st307⟩ := own_callV X304 hx hZ40 (y := (⟨"com/example/slotwright/slotwright/Ledger", "charge", "(ILjava/math/BigDecimal;)V"⟩ : MethodName)) (z := (⟨"com/example/slotwright/slotwright/Ledger", "charge", "(ILjava/math/BigDecimal;)V"⟩ : MethodName)) hown40 (own_w hw 169 rfl) (own_w hw 170 rfl) (notFace_of_selects (args := #[]) (mvT hZ40 (own_w hw 172 rfl))) (own_w hw 172 rfl) (own_w hw 171 rfl) (own_w hw 93 rfl) (own_w hw 173 rfl) (by decide) (W := 0) (ccharge0 l Z a0 hw [] b64 r_304 sp_76 ks_76 rm_76 kr_76 zz t1_284 r_12 t2_284 (0 : Int64) (p0.toInt64) (p3.toInt64) wz T304.heap n0 zD0 zD1 Op304 f308 f310 f311 f312 f313 f314 f315 (zD5.ext Op304.2) f316 R304_0 g_sp_76 g_rm_76 R76_9 (Bk.ne Bk.zero (by decide)) (Bk.ne (Bk.i2l p0) (by decide)) (Bk.ne (Bk.i2l p3) (by decide)) (own_noflow Bk.zero (Bk.i2l p3) (by decide)) (Bk.ne ks309 (by decide)) (own_noflow (Bk.i2l p0) kn309 (by decide)) (Bk.ne kr309 (by decide))) (by decide) (by decide) rfl f308 (by decide) (by decide) (g := (mkF m 203 #[.val (.int p0), .val (.int p1), .val (.int p2), .val (.int p3), .val (.int p4), .val (.int p5), .val (.ref b1), .val (.ref b64), .val (.int (p5 &&& (1 : Int32))), .val (.int ((p5 >>> ((1 : Int32) &&& 31)) &&& (1 : Int32))), .val (.int ((p5 >>> ((2 : Int32) &&& 31)) &&& (1 : Int32))), .val (.long (0 : Int64)), .second, .val (.long ((0 : Int64) + (p2.toInt64))), .second, .val (.int (own_ov (p0.toInt64) (p1.toInt64))), .val (.int (1 : Int32)), .val (.int (own_ov (p0.toInt64) ((p1.toInt64) + (-(p2.toInt64))))), .val (.int (1 : Int32)), .unset, .unset] [(.ref r_304), (.int ((p5 >>> ((1 : Int32) &&& 31)) &&& (1 : Int32))), (.ref b64)])) rfl (by rw [hml]; rfl) (argsL := [(.int ((p5 >>> ((1 : Int32) &&& 31)) &&& (1 : Int32))), (.ref r_304)]) (rest := []) (lenOf pd_22 rfl) rfl (by show 2 * 0 + _ ≤ _; exact Nat.le_of_eq rfl) (hb hby at_203) (by rw [hc306])
      obtain ⟨t1_307, t2_307, rfl, N307q, Kp307, Op307, R307_0, R307_1, R307_2, R307_3⟩ := hQ307
      have N307 := Fr.app N304 N307q
      refine Rch.st st307 ?_
      have f317 : BDc Z T304.heap t1_284 ((0 : Int64) + (p2.toInt64)) (0 : Int32) := (R284_2.keep Kp304 nin0)
      have ne318 : t1_284 ≠ sp_76 := (Exa.neArv f317.1 f312 (own_w hw 200 rfl))
      have f319 : BDc Z T304.heap t2_284 ((p1.toInt64) + (-(p2.toInt64))) (0 : Int32) := (R284_3.keep Kp304 nin0)
      have ne320 : t2_284 ≠ sp_76 := (Exa.neArv f319.1 f312 (own_w hw 200 rfl))
      have ne321 : r_304 ≠ sp_76 := (Exa.neArv R304_0.1 f312 (own_w hw 200 rfl))
      have ne322 : t1_284 ≠ rm_76 := (Exa.neArv f317.1 f313 (own_w hw 200 rfl))
      have ne323 : t2_284 ≠ rm_76 := (Exa.neArv f319.1 f313 (own_w hw 200 rfl))
      have ne324 : r_304 ≠ rm_76 := (Exa.neArv R304_0.1 f313 (own_w hw 200 rfl))
      have K325 : Keep h0 T307.heap [] := K305.trans Kp307 (allS (Or.inr sz_sp_76) (allS (Or.inr sz_rm_76) all0))
      refine Rch.st (fun _ hr => XS.iload X307.here hx rfl (hb hby at_206) rfl hr) ?_
      refine Rch.st (fun _ hr => XS.ifNo X307.here hx rfl (hb hby at_208) rfl ((if0 _ _).trans (teq hc306).2) hr) ?_
      refine Rch.st (fun _ hr => XS.lload X307.here hx rfl (hb hby at_211) rfl hr) ?_
      show Rch p.tables e below _ (T307.setTop (mkF m 213 #[.val (.int p0), .val (.int p1), .val (.int p2), .val (.int p3), .val (.int p4), .val (.int p5), .val (.ref b1), .val (.ref b64), .val (.int (p5 &&& (1 : Int32))), .val (.int ((p5 >>> ((1 : Int32) &&& 31)) &&& (1 : Int32))), .val (.int ((p5 >>> ((2 : Int32) &&& 31)) &&& (1 : Int32))), .val (.long (0 : Int64)), .second, .val (.long ((0 : Int64) + (p2.toInt64))), .second, .val (.int (own_ov (p0.toInt64) (p1.toInt64))), .val (.int (1 : Int32)), .val (.int (own_ov (p0.toInt64) ((p1.toInt64) + (-(p2.toInt64))))), .val (.int (1 : Int32)), .unset, .unset] [(.long (0 : Int64))]))
      refine Rch.st (fun _ hr => XS.iloadN X307.here hx rfl (hb hby at_213) rfl hr) ?_
      refine Rch.st (fun _ hr => XS.i2l X307.here hx rfl (hb hby at_214) rfl hr) ?_
      refine Rch.st (fun _ hr => XS.ladd X307.here hx rfl (hb hby at_215) rfl hr) ?_
      refine Rch.st (fun _ hr => XS.lstore X307.here hx rfl (hb hby at_216) rfl (l' := #[.val (.int p0), .val (.int p1), .val (.int p2), .val (.int p3), .val (.int p4), .val (.int p5), .val (.ref b1), .val (.ref b64), .val (.int (p5 &&& (1 : Int32))), .val (.int ((p5 >>> ((1 : Int32) &&& 31)) &&& (1 : Int32))), .val (.int ((p5 >>> ((2 : Int32) &&& 31)) &&& (1 : Int32))), .val (.long ((0 : Int64) + (p3.toInt64))), .second, .val (.long ((0 : Int64) + (p2.toInt64))), .second, .val (.int (own_ov (p0.toInt64) (p1.toInt64))), .val (.int (1 : Int32)), .val (.int (own_ov (p0.toInt64) ((p1.toInt64) + (-(p2.toInt64))))), .val (.int (1 : Int32)), .unset, .unset]) rfl hr) ?_
      show Rch p.tables e below _ (T307.setTop (mkF m 218 #[.val (.int p0), .val (.int p1), .val (.int p2), .val (.int p3), .val (.int p4), .val (.int p5), .val (.ref b1), .val (.ref b64), .val (.int (p5 &&& (1 : Int32))), .val (.int ((p5 >>> ((1 : Int32) &&& 31)) &&& (1 : Int32))), .val (.int ((p5 >>> ((2 : Int32) &&& 31)) &&& (1 : Int32))), .val (.long ((0 : Int64) + (p3.toInt64))), .second, .val (.long ((0 : Int64) + (p2.toInt64))), .second, .val (.int (own_ov (p0.toInt64) (p1.toInt64))), .val (.int (1 : Int32)), .val (.int (own_ov (p0.toInt64) ((p1.toInt64) + (-(p2.toInt64))))), .val (.int (1 : Int32)), .unset, .unset] []))
      refine Rch.st (fun _ hr => XS.goto X307.here hx rfl (pc0 := 218) (pc' := 228) rfl (hb hby at_218) (by decide) (by decide) hr) ?_
      refine Rch.st (fun _ hr => XS.aload X307.here hx rfl (hb hby at_228) rfl rfl hr) ?_
      refine Rch.st (fun _ hr => XS.iload X307.here hx rfl (hb hby at_230) rfl hr) ?_
      refine Rch.st (fun _ hr => XS.iload X307.here hx rfl (hb hby at_232) rfl hr) ?_
      show Rch p.tables e below _ (T307.setTop (mkF m 234 #[.val (.int p0), .val (.int p1), .val (.int p2), .val (.int p3), .val (.int p4), .val (.int p5), .val (.ref b1), .val (.ref b64), .val (.int (p5 &&& (1 : Int32))), .val (.int ((p5 >>> ((1 : Int32) &&& 31)) &&& (1 : Int32))), .val (.int ((p5 >>> ((2 : Int32) &&& 31)) &&& (1 : Int32))), .val (.long ((0 : Int64) + (p3.toInt64))), .second, .val (.long ((0 : Int64) + (p2.toInt64))), .second, .val (.int (own_ov (p0.toInt64) (p1.toInt64))), .val (.int (1 : Int32)), .val (.int (own_ov (p0.toInt64) ((p1.toInt64) + (-(p2.toInt64))))), .val (.int (1 : Int32)), .unset, .unset] [(.int p4), (.int ((p5 >>> ((2 : Int32) &&& 31)) &&& (1 : Int32))), (.ref b64)]))
      refine Rch.st (fun _ hr => XS.i2l X307.here hx rfl (hb hby at_234) rfl hr) ?_
      obtain ⟨_, T326, Lc326, X326, hQ326, st326⟩ := own_callS X307 hx hZ40 (y := (⟨"java/math/BigDecimal", "valueOf", "(J)Ljava/math/BigDecimal;"⟩ : MethodName)) hown40 (own_w hw 37 rfl) (own_w hw 38 rfl) (own_w hw 39 rfl) (own_w hw 40 rfl) (by decide) (W := 2) (cvalueOf l Z a0 hw [] (p4.toInt64) wz T307.heap n0 zD0 zD1 Op307 (Bk.ne (Bk.i2l p4) (by decide))) (by decide) (by decide) rfl (by decide) (by decide) (g := (mkF m 235 #[.val (.int p0), .val (.int p1), .val (.int p2), .val (.int p3), .val (.int p4), .val (.int p5), .val (.ref b1), .val (.ref b64), .val (.int (p5 &&& (1 : Int32))), .val (.int ((p5 >>> ((1 : Int32) &&& 31)) &&& (1 : Int32))), .val (.int ((p5 >>> ((2 : Int32) &&& 31)) &&& (1 : Int32))), .val (.long ((0 : Int64) + (p3.toInt64))), .second, .val (.long ((0 : Int64) + (p2.toInt64))), .second, .val (.int (own_ov (p0.toInt64) (p1.toInt64))), .val (.int (1 : Int32)), .val (.int (own_ov (p0.toInt64) ((p1.toInt64) + (-(p2.toInt64))))), .val (.int (1 : Int32)), .unset, .unset] [(.long (p4.toInt64)), (.int ((p5 >>> ((2 : Int32) &&& 31)) &&& (1 : Int32))), (.ref b64)])) rfl (by rw [hml]; rfl) (argsL := [(.long (p4.toInt64))]) (rest := [(.int ((p5 >>> ((2 : Int32) &&& 31)) &&& (1 : Int32))), (.ref b64)]) (lenOf pd_2 rfl) rfl (by show 2 * 0 + _ ≤ _; exact Nat.le_of_eq rfl) (hb hby at_235) rfl
      obtain ⟨r_326, rfl, N326q, Kp326, Op326, R326_0⟩ := hQ326
      have N326 := Fr.app N307 N326q
      refine Rch.st st326 ?_
      have K327 : Keep h0 T326.heap [] := K325.trans Kp326 all0
      by_cases hc328 : ((p5 >>> ((2 : Int32) &&& 31)) &&& (1 : Int32)) = (0 : Int32)
      · show Rch p.tables e below _ (T326.setTop (mkF m 238 #[.val (.int p0), .val (.int p1), .val (.int p2), .val (.int p3), .val (.int p4), .val (.int p5), .val (.ref b1), .val (.ref b64), .val (.int (p5 &&& (1 : Int32))), .val (.int ((p5 >>> ((1 : Int32) &&& 31)) &&& (1 : Int32))), .val (.int ((p5 >>> ((2 : Int32) &&& 31)) &&& (1 : Int32))), .val (.long ((0 : Int64) + (p3.toInt64))), .second, .val (.long ((0 : Int64) + (p2.toInt64))), .second, .val (.int (own_ov (p0.toInt64) (p1.toInt64))), .val (.int (1 : Int32)), .val (.int (own_ov (p0.toInt64) ((p1.toInt64) + (-(p2.toInt64))))), .val (.int (1 : Int32)), .unset, .unset] [(.ref r_326), (.int ((p5 >>> ((2 : Int32) &&& 31)) &&& (1 : Int32))), (.ref b64)]))
        have f330 : Exa Z T326.heap b64 "com/example/slotwright/slotwright/Ledger" := ((f308.keep Kp307).keep Kp326)
        obtain ⟨ts331, ks331⟩ := Bk.add ks309 (Bk.i2l p4) (by decide)
        obtain ⟨tn331, kn331⟩ := Bk.neg (Bk.i2l p4) (by decide)
        obtain ⟨tr331, kr331⟩ := Bk.add kr309 kn331 (by decide)
        have iv331 := own_inv iv309 ts331 tn331 tr331
        have f332 : Fld Z T326.heap b64 "com/example/slotwright/slotwright/Ledger" "spent" "[Ljava/math/BigDecimal;" (.ref sp_76) := ((f310.keep Kp307 (ninS ne97 (ninS ne104 nin0))).keep Kp326 nin0)
        have f333 : Fld Z T326.heap b64 "com/example/slotwright/slotwright/Ledger" "remaining" "[Ljava/math/BigDecimal;" (.ref rm_76) := ((f311.keep Kp307 (ninS ne97 (ninS ne104 nin0))).keep Kp326 nin0)
        have f334 : Arv Z T326.heap sp_76 ks_76 (.object "java/math/BigDecimal") (2 : Int32) [(.ref t1_307), (.ref t1_284)] .null := (R307_0.keep Kp326 nin0)
        have f335 : Arv Z T326.heap rm_76 kr_76 (.object "java/math/BigDecimal") (2 : Int32) [(.ref t2_307), (.ref t2_284)] .null := (R307_1.keep Kp326 nin0)
        have f336 : Ovr Z ks_76 "java/math/BigDecimal" := f314
        have f337 : Ovr Z kr_76 "java/math/BigDecimal" := f315
        have f338 : BDc Z T326.heap t1_307 ((0 : Int64) + (p3.toInt64)) (0 : Int32) := (R307_2.keep Kp326 nin0)
        have f339 : BDc Z T326.heap t2_307 ((p0.toInt64) + (-(p3.toInt64))) (0 : Int32) := (R307_3.keep Kp326 nin0)
        obtain ⟨_, T329, Lc329, X329, hQ329, st329⟩ := own_callV X326 hx hZ40 (y := (⟨"com/example/slotwright/slotwright/Ledger", "charge", "(ILjava/math/BigDecimal;)V"⟩ : MethodName)) (z := (⟨"com/example/slotwright/slotwright/Ledger", "charge", "(ILjava/math/BigDecimal;)V"⟩ : MethodName)) hown40 (own_w hw 169 rfl) (own_w hw 170 rfl) (notFace_of_selects (args := #[]) (mvT hZ40 (own_w hw 172 rfl))) (own_w hw 172 rfl) (own_w hw 171 rfl) (own_w hw 93 rfl) (own_w hw 173 rfl) (by decide) (W := 0) (ccharge0 l Z a0 hw [] b64 r_326 sp_76 ks_76 rm_76 kr_76 t1_307 t1_284 t2_307 t2_284 ((0 : Int64) + (p3.toInt64)) ((p0.toInt64) + (-(p3.toInt64))) (p4.toInt64) wz T326.heap n0 zD0 zD1 Op326 f330 f332 f333 f334 f335 f336 f337 f338 f339 R326_0 g_sp_76 g_rm_76 R76_9 (Bk.ne ks309 (by decide)) (Bk.ne kr309 (by decide)) (Bk.ne (Bk.i2l p4) (by decide)) (own_noflow ks309 (Bk.i2l p4) (by decide)) (Bk.ne ks331 (by decide)) (own_noflow kr309 kn331 (by decide)) (Bk.ne kr331 (by decide))) (by decide) (by decide) rfl f330 (by decide) (by decide) (g := (mkF m 238 #[.val (.int p0), .val (.int p1), .val (.int p2), .val (.int p3), .val (.int p4), .val (.int p5), .val (.ref b1), .val (.ref b64), .val (.int (p5 &&& (1 : Int32))), .val (.int ((p5 >>> ((1 : Int32) &&& 31)) &&& (1 : Int32))), .val (.int ((p5 >>> ((2 : Int32) &&& 31)) &&& (1 : Int32))), .val (.long ((0 : Int64) + (p3.toInt64))), .second, .val (.long ((0 : Int64) + (p2.toInt64))), .second, .val (.int (own_ov (p0.toInt64) (p1.toInt64))), .val (.int (1 : Int32)), .val (.int (own_ov (p0.toInt64) ((p1.toInt64) + (-(p2.toInt64))))), .val (.int (1 : Int32)), .unset, .unset] [(.ref r_326), (.int ((p5 >>> ((2 : Int32) &&& 31)) &&& (1 : Int32))), (.ref b64)])) rfl (by rw [hml]; rfl) (argsL := [(.int ((p5 >>> ((2 : Int32) &&& 31)) &&& (1 : Int32))), (.ref r_326)]) (rest := []) (lenOf pd_22 rfl) rfl (by show 2 * 0 + _ ≤ _; exact Nat.le_of_eq rfl) (hb hby at_238) (by rw [hc328])
        obtain ⟨t1_329, t2_329, rfl, N329q, Kp329, Op329, R329_0, R329_1, R329_2, R329_3⟩ := hQ329
        have N329 := Fr.app N326 N329q
        refine Rch.st st329 ?_
        have ne340 : t1_307 ≠ sp_76 := (Exa.neArv f338.1 f334 (own_w hw 200 rfl))
        have ne341 : t2_307 ≠ sp_76 := (Exa.neArv f339.1 f334 (own_w hw 200 rfl))
        have ne342 : r_326 ≠ sp_76 := (Exa.neArv R326_0.1 f334 (own_w hw 200 rfl))
        have ne343 : t1_307 ≠ rm_76 := (Exa.neArv f338.1 f335 (own_w hw 200 rfl))
        have ne344 : t2_307 ≠ rm_76 := (Exa.neArv f339.1 f335 (own_w hw 200 rfl))
        have ne345 : r_326 ≠ rm_76 := (Exa.neArv R326_0.1 f335 (own_w hw 200 rfl))
        have K346 : Keep h0 T329.heap [] := K327.trans Kp329 (allS (Or.inr sz_sp_76) (allS (Or.inr sz_rm_76) all0))
        refine Rch.st (fun _ hr => XS.iload X329.here hx rfl (hb hby at_241) rfl hr) ?_
        refine Rch.st (fun _ hr => XS.ifNo X329.here hx rfl (hb hby at_243) rfl ((if0 _ _).trans (teq hc328).2) hr) ?_
        refine Rch.st (fun _ hr => XS.lload X329.here hx rfl (hb hby at_246) rfl hr) ?_
        show Rch p.tables e below _ (T329.setTop (mkF m 248 #[.val (.int p0), .val (.int p1), .val (.int p2), .val (.int p3), .val (.int p4), .val (.int p5), .val (.ref b1), .val (.ref b64), .val (.int (p5 &&& (1 : Int32))), .val (.int ((p5 >>> ((1 : Int32) &&& 31)) &&& (1 : Int32))), .val (.int ((p5 >>> ((2 : Int32) &&& 31)) &&& (1 : Int32))), .val (.long ((0 : Int64) + (p3.toInt64))), .second, .val (.long ((0 : Int64) + (p2.toInt64))), .second, .val (.int (own_ov (p0.toInt64) (p1.toInt64))), .val (.int (1 : Int32)), .val (.int (own_ov (p0.toInt64) ((p1.toInt64) + (-(p2.toInt64))))), .val (.int (1 : Int32)), .unset, .unset] [(.long ((0 : Int64) + (p3.toInt64)))]))
        refine Rch.st (fun _ hr => XS.iload X329.here hx rfl (hb hby at_248) rfl hr) ?_
        refine Rch.st (fun _ hr => XS.i2l X329.here hx rfl (hb hby at_250) rfl hr) ?_
        refine Rch.st (fun _ hr => XS.ladd X329.here hx rfl (hb hby at_251) rfl hr) ?_
        refine Rch.st (fun _ hr => XS.lstore X329.here hx rfl (hb hby at_252) rfl (l' := #[.val (.int p0), .val (.int p1), .val (.int p2), .val (.int p3), .val (.int p4), .val (.int p5), .val (.ref b1), .val (.ref b64), .val (.int (p5 &&& (1 : Int32))), .val (.int ((p5 >>> ((1 : Int32) &&& 31)) &&& (1 : Int32))), .val (.int ((p5 >>> ((2 : Int32) &&& 31)) &&& (1 : Int32))), .val (.long (((0 : Int64) + (p3.toInt64)) + (p4.toInt64))), .second, .val (.long ((0 : Int64) + (p2.toInt64))), .second, .val (.int (own_ov (p0.toInt64) (p1.toInt64))), .val (.int (1 : Int32)), .val (.int (own_ov (p0.toInt64) ((p1.toInt64) + (-(p2.toInt64))))), .val (.int (1 : Int32)), .unset, .unset]) rfl hr) ?_
        show Rch p.tables e below _ (T329.setTop (mkF m 254 #[.val (.int p0), .val (.int p1), .val (.int p2), .val (.int p3), .val (.int p4), .val (.int p5), .val (.ref b1), .val (.ref b64), .val (.int (p5 &&& (1 : Int32))), .val (.int ((p5 >>> ((1 : Int32) &&& 31)) &&& (1 : Int32))), .val (.int ((p5 >>> ((2 : Int32) &&& 31)) &&& (1 : Int32))), .val (.long (((0 : Int64) + (p3.toInt64)) + (p4.toInt64))), .second, .val (.long ((0 : Int64) + (p2.toInt64))), .second, .val (.int (own_ov (p0.toInt64) (p1.toInt64))), .val (.int (1 : Int32)), .val (.int (own_ov (p0.toInt64) ((p1.toInt64) + (-(p2.toInt64))))), .val (.int (1 : Int32)), .unset, .unset] []))
        refine Rch.st (fun _ hr => XS.goto X329.here hx rfl (pc0 := 254) (pc' := 265) rfl (hb hby at_254) (by decide) (by decide) hr) ?_
        refine Rch.st (fun _ hr => XS.aload X329.here hx rfl (hb hby at_265) rfl rfl hr) ?_
        have f348 : Exa Z T329.heap b64 "com/example/slotwright/slotwright/Ledger" := (f330.keep Kp329)
        have f349 : Fld Z T329.heap b64 "com/example/slotwright/slotwright/Ledger" "remaining" "[Ljava/math/BigDecimal;" (.ref rm_76) := (f333.keep Kp329 (ninS ne97 (ninS ne104 nin0)))
        have f350 : BDc Z T329.heap t2_284 ((p1.toInt64) + (-(p2.toInt64))) (0 : Int32) := (((f319.keep Kp307 (ninS ne320 (ninS ne323 nin0))).keep Kp326 nin0).keep Kp329 (ninS ne320 (ninS ne323 nin0)))
        obtain ⟨_, T347, Lc347, X347, hQ347, st347⟩ := own_callV X329 hx hZ40 (y := (⟨"com/example/slotwright/slotwright/Ledger", "overspent", "()I"⟩ : MethodName)) (z := (⟨"com/example/slotwright/slotwright/Ledger", "overspent", "()I"⟩ : MethodName)) hown40 (own_w hw 148 rfl) (own_w hw 149 rfl) (notFace_of_selects (args := #[]) (mvT hZ40 (own_w hw 151 rfl))) (own_w hw 151 rfl) (own_w hw 150 rfl) (own_w hw 93 rfl) (own_w hw 152 rfl) (by decide) (W := 0) (cover l Z a0 hw [] b64 rm_76 kr_76 t2_329 t2_284 (((p0.toInt64) + (-(p3.toInt64))) + (-(p4.toInt64))) ((p1.toInt64) + (-(p2.toInt64))) T329.heap n0 f349 R329_1 R329_3 f350 (Bk.ne kr331 (by decide)) (Bk.ne kr286 (by decide))) (by decide) (by decide) rfl f348 (by decide) (by decide) (g := (mkF m 267 #[.val (.int p0), .val (.int p1), .val (.int p2), .val (.int p3), .val (.int p4), .val (.int p5), .val (.ref b1), .val (.ref b64), .val (.int (p5 &&& (1 : Int32))), .val (.int ((p5 >>> ((1 : Int32) &&& 31)) &&& (1 : Int32))), .val (.int ((p5 >>> ((2 : Int32) &&& 31)) &&& (1 : Int32))), .val (.long (((0 : Int64) + (p3.toInt64)) + (p4.toInt64))), .second, .val (.long ((0 : Int64) + (p2.toInt64))), .second, .val (.int (own_ov (p0.toInt64) (p1.toInt64))), .val (.int (1 : Int32)), .val (.int (own_ov (p0.toInt64) ((p1.toInt64) + (-(p2.toInt64))))), .val (.int (1 : Int32)), .unset, .unset] [(.ref b64)])) rfl (by rw [hml]; rfl) (argsL := []) (rest := []) (lenOf pd_14 rfl) rfl (by show 2 * 0 + _ ≤ _; exact Nat.le_of_eq rfl) (hb hby at_267) rfl
        obtain ⟨rfl, N347q, e347⟩ := hQ347
        have N347 := Fr.app N329 N347q
        refine Rch.st st347 ?_
        refine Rch.st (fun _ hr => XS.istore X347.here hx rfl (hb hby at_270) rfl (l' := #[.val (.int p0), .val (.int p1), .val (.int p2), .val (.int p3), .val (.int p4), .val (.int p5), .val (.ref b1), .val (.ref b64), .val (.int (p5 &&& (1 : Int32))), .val (.int ((p5 >>> ((1 : Int32) &&& 31)) &&& (1 : Int32))), .val (.int ((p5 >>> ((2 : Int32) &&& 31)) &&& (1 : Int32))), .val (.long (((0 : Int64) + (p3.toInt64)) + (p4.toInt64))), .second, .val (.long ((0 : Int64) + (p2.toInt64))), .second, .val (.int (own_ov (p0.toInt64) (p1.toInt64))), .val (.int (1 : Int32)), .val (.int (own_ov (p0.toInt64) ((p1.toInt64) + (-(p2.toInt64))))), .val (.int (1 : Int32)), .val (.int (own_ov (((p0.toInt64) + (-(p3.toInt64))) + (-(p4.toInt64))) ((p1.toInt64) + (-(p2.toInt64))))), .unset]) rfl hr) ?_
        show Rch p.tables e below _ (T347.setTop (mkF m 272 #[.val (.int p0), .val (.int p1), .val (.int p2), .val (.int p3), .val (.int p4), .val (.int p5), .val (.ref b1), .val (.ref b64), .val (.int (p5 &&& (1 : Int32))), .val (.int ((p5 >>> ((1 : Int32) &&& 31)) &&& (1 : Int32))), .val (.int ((p5 >>> ((2 : Int32) &&& 31)) &&& (1 : Int32))), .val (.long (((0 : Int64) + (p3.toInt64)) + (p4.toInt64))), .second, .val (.long ((0 : Int64) + (p2.toInt64))), .second, .val (.int (own_ov (p0.toInt64) (p1.toInt64))), .val (.int (1 : Int32)), .val (.int (own_ov (p0.toInt64) ((p1.toInt64) + (-(p2.toInt64))))), .val (.int (1 : Int32)), .val (.int (own_ov (((p0.toInt64) + (-(p3.toInt64))) + (-(p4.toInt64))) ((p1.toInt64) + (-(p2.toInt64))))), .unset] []))
        refine Rch.st (fun _ hr => XS.iload X347.here hx rfl (hb hby at_272) rfl hr) ?_
        refine Rch.st (fun _ hr => XS.lload X347.here hx rfl (hb hby at_274) rfl hr) ?_
        refine Rch.st (fun _ hr => XS.iloadN X347.here hx rfl (hb hby at_276) rfl hr) ?_
        refine Rch.st (fun _ hr => XS.i2l X347.here hx rfl (hb hby at_277) rfl hr) ?_
        show Rch p.tables e below _ (T347.setTop (mkF m 278 #[.val (.int p0), .val (.int p1), .val (.int p2), .val (.int p3), .val (.int p4), .val (.int p5), .val (.ref b1), .val (.ref b64), .val (.int (p5 &&& (1 : Int32))), .val (.int ((p5 >>> ((1 : Int32) &&& 31)) &&& (1 : Int32))), .val (.int ((p5 >>> ((2 : Int32) &&& 31)) &&& (1 : Int32))), .val (.long (((0 : Int64) + (p3.toInt64)) + (p4.toInt64))), .second, .val (.long ((0 : Int64) + (p2.toInt64))), .second, .val (.int (own_ov (p0.toInt64) (p1.toInt64))), .val (.int (1 : Int32)), .val (.int (own_ov (p0.toInt64) ((p1.toInt64) + (-(p2.toInt64))))), .val (.int (1 : Int32)), .val (.int (own_ov (((p0.toInt64) + (-(p3.toInt64))) + (-(p4.toInt64))) ((p1.toInt64) + (-(p2.toInt64))))), .unset] [(.long (p0.toInt64)), (.long (((0 : Int64) + (p3.toInt64)) + (p4.toInt64))), (.int (own_ov (((p0.toInt64) + (-(p3.toInt64))) + (-(p4.toInt64))) ((p1.toInt64) + (-(p2.toInt64)))))]))
        obtain ⟨_, T351, Lc351, X351, hQ351, st351⟩ := own_callS X347 hx hZ40 (y := (⟨"com/example/slotwright/slotwright/LedgerOverspentPinLaw", "over", "(JJ)I"⟩ : MethodName)) hown40 (own_w hw 165 rfl) (own_w hw 166 rfl) (own_w hw 167 rfl) (own_w hw 168 rfl) (by decide) (W := 1) (cov l Z a0 hw [] (((0 : Int64) + (p3.toInt64)) + (p4.toInt64)) (p0.toInt64) T329.heap n0 ) (by decide) (by decide) e347 (by decide) (by decide) (g := (mkF m 278 #[.val (.int p0), .val (.int p1), .val (.int p2), .val (.int p3), .val (.int p4), .val (.int p5), .val (.ref b1), .val (.ref b64), .val (.int (p5 &&& (1 : Int32))), .val (.int ((p5 >>> ((1 : Int32) &&& 31)) &&& (1 : Int32))), .val (.int ((p5 >>> ((2 : Int32) &&& 31)) &&& (1 : Int32))), .val (.long (((0 : Int64) + (p3.toInt64)) + (p4.toInt64))), .second, .val (.long ((0 : Int64) + (p2.toInt64))), .second, .val (.int (own_ov (p0.toInt64) (p1.toInt64))), .val (.int (1 : Int32)), .val (.int (own_ov (p0.toInt64) ((p1.toInt64) + (-(p2.toInt64))))), .val (.int (1 : Int32)), .val (.int (own_ov (((p0.toInt64) + (-(p3.toInt64))) + (-(p4.toInt64))) ((p1.toInt64) + (-(p2.toInt64))))), .unset] [(.long (p0.toInt64)), (.long (((0 : Int64) + (p3.toInt64)) + (p4.toInt64))), (.int (own_ov (((p0.toInt64) + (-(p3.toInt64))) + (-(p4.toInt64))) ((p1.toInt64) + (-(p2.toInt64)))))])) rfl (by rw [hml]; rfl) (argsL := [(.long (((0 : Int64) + (p3.toInt64)) + (p4.toInt64))), (.long (p0.toInt64))]) (rest := [(.int (own_ov (((p0.toInt64) + (-(p3.toInt64))) + (-(p4.toInt64))) ((p1.toInt64) + (-(p2.toInt64)))))]) (lenOf pd_21 rfl) rfl (by show 2 * 0 + _ ≤ _; exact Nat.le_of_eq rfl) (hb hby at_278) rfl
        obtain ⟨rfl, N351q, e351⟩ := hQ351
        have N351 := Fr.app N347 N351q
        refine Rch.st st351 ?_
        refine Rch.st (fun _ hr => XS.lload X351.here hx rfl (hb hby at_281) rfl hr) ?_
        refine Rch.st (fun _ hr => XS.iloadN X351.here hx rfl (hb hby at_283) rfl hr) ?_
        refine Rch.st (fun _ hr => XS.i2l X351.here hx rfl (hb hby at_284) rfl hr) ?_
        show Rch p.tables e below _ (T351.setTop (mkF m 285 #[.val (.int p0), .val (.int p1), .val (.int p2), .val (.int p3), .val (.int p4), .val (.int p5), .val (.ref b1), .val (.ref b64), .val (.int (p5 &&& (1 : Int32))), .val (.int ((p5 >>> ((1 : Int32) &&& 31)) &&& (1 : Int32))), .val (.int ((p5 >>> ((2 : Int32) &&& 31)) &&& (1 : Int32))), .val (.long (((0 : Int64) + (p3.toInt64)) + (p4.toInt64))), .second, .val (.long ((0 : Int64) + (p2.toInt64))), .second, .val (.int (own_ov (p0.toInt64) (p1.toInt64))), .val (.int (1 : Int32)), .val (.int (own_ov (p0.toInt64) ((p1.toInt64) + (-(p2.toInt64))))), .val (.int (1 : Int32)), .val (.int (own_ov (((p0.toInt64) + (-(p3.toInt64))) + (-(p4.toInt64))) ((p1.toInt64) + (-(p2.toInt64))))), .unset] [(.long (p1.toInt64)), (.long ((0 : Int64) + (p2.toInt64))), (.int (own_over (((0 : Int64) + (p3.toInt64)) + (p4.toInt64)) (p0.toInt64))), (.int (own_ov (((p0.toInt64) + (-(p3.toInt64))) + (-(p4.toInt64))) ((p1.toInt64) + (-(p2.toInt64)))))]))
        obtain ⟨_, T352, Lc352, X352, hQ352, st352⟩ := own_callS X351 hx hZ40 (y := (⟨"com/example/slotwright/slotwright/LedgerOverspentPinLaw", "over", "(JJ)I"⟩ : MethodName)) hown40 (own_w hw 165 rfl) (own_w hw 166 rfl) (own_w hw 167 rfl) (own_w hw 168 rfl) (by decide) (W := 2) (cov l Z a0 hw [] ((0 : Int64) + (p2.toInt64)) (p1.toInt64) T329.heap n0 ) (by decide) (by decide) e351 (by decide) (by decide) (g := (mkF m 285 #[.val (.int p0), .val (.int p1), .val (.int p2), .val (.int p3), .val (.int p4), .val (.int p5), .val (.ref b1), .val (.ref b64), .val (.int (p5 &&& (1 : Int32))), .val (.int ((p5 >>> ((1 : Int32) &&& 31)) &&& (1 : Int32))), .val (.int ((p5 >>> ((2 : Int32) &&& 31)) &&& (1 : Int32))), .val (.long (((0 : Int64) + (p3.toInt64)) + (p4.toInt64))), .second, .val (.long ((0 : Int64) + (p2.toInt64))), .second, .val (.int (own_ov (p0.toInt64) (p1.toInt64))), .val (.int (1 : Int32)), .val (.int (own_ov (p0.toInt64) ((p1.toInt64) + (-(p2.toInt64))))), .val (.int (1 : Int32)), .val (.int (own_ov (((p0.toInt64) + (-(p3.toInt64))) + (-(p4.toInt64))) ((p1.toInt64) + (-(p2.toInt64))))), .unset] [(.long (p1.toInt64)), (.long ((0 : Int64) + (p2.toInt64))), (.int (own_over (((0 : Int64) + (p3.toInt64)) + (p4.toInt64)) (p0.toInt64))), (.int (own_ov (((p0.toInt64) + (-(p3.toInt64))) + (-(p4.toInt64))) ((p1.toInt64) + (-(p2.toInt64)))))])) rfl (by rw [hml]; rfl) (argsL := [(.long ((0 : Int64) + (p2.toInt64))), (.long (p1.toInt64))]) (rest := [(.int (own_over (((0 : Int64) + (p3.toInt64)) + (p4.toInt64)) (p0.toInt64))), (.int (own_ov (((p0.toInt64) + (-(p3.toInt64))) + (-(p4.toInt64))) ((p1.toInt64) + (-(p2.toInt64)))))]) (lenOf pd_21 rfl) rfl (by show 2 * 0 + _ ≤ _; exact Nat.le_of_eq rfl) (hb hby at_285) rfl
        obtain ⟨rfl, N352q, e352⟩ := hQ352
        have N352 := Fr.app N351 N352q
        refine Rch.st st352 ?_
        refine Rch.st (fun _ hr => XS.iadd X352.here hx rfl (hb hby at_288) rfl hr) ?_
        have hk353 : (own_ov (((p0.toInt64) + (-(p3.toInt64))) + (-(p4.toInt64))) ((p1.toInt64) + (-(p2.toInt64)))) = ((own_over (((0 : Int64) + (p3.toInt64)) + (p4.toInt64)) (p0.toInt64)) + (own_over ((0 : Int64) + (p2.toInt64)) (p1.toInt64))) := own_cmp iv331 iv286
        refine Rch.st (fun _ hr => XS.icmpNo X352.here hx rfl (hb hby at_289) rfl (teq hk353).2 hr) ?_
        refine Rch.st (fun _ hr => XS.iconst X352.here hx rfl (hb hby at_292) hr) ?_
        show Rch p.tables e below _ (T352.setTop (mkF m 293 #[.val (.int p0), .val (.int p1), .val (.int p2), .val (.int p3), .val (.int p4), .val (.int p5), .val (.ref b1), .val (.ref b64), .val (.int (p5 &&& (1 : Int32))), .val (.int ((p5 >>> ((1 : Int32) &&& 31)) &&& (1 : Int32))), .val (.int ((p5 >>> ((2 : Int32) &&& 31)) &&& (1 : Int32))), .val (.long (((0 : Int64) + (p3.toInt64)) + (p4.toInt64))), .second, .val (.long ((0 : Int64) + (p2.toInt64))), .second, .val (.int (own_ov (p0.toInt64) (p1.toInt64))), .val (.int (1 : Int32)), .val (.int (own_ov (p0.toInt64) ((p1.toInt64) + (-(p2.toInt64))))), .val (.int (1 : Int32)), .val (.int (own_ov (((p0.toInt64) + (-(p3.toInt64))) + (-(p4.toInt64))) ((p1.toInt64) + (-(p2.toInt64))))), .unset] [(.int (1 : Int32))]))
        refine Rch.st (fun _ hr => XS.goto X352.here hx rfl (pc0 := 293) (pc' := 297) rfl (hb hby at_293) (by decide) (by decide) hr) ?_
        refine Rch.st (fun _ hr => XS.istore X352.here hx rfl (hb hby at_297) rfl (l' := #[.val (.int p0), .val (.int p1), .val (.int p2), .val (.int p3), .val (.int p4), .val (.int p5), .val (.ref b1), .val (.ref b64), .val (.int (p5 &&& (1 : Int32))), .val (.int ((p5 >>> ((1 : Int32) &&& 31)) &&& (1 : Int32))), .val (.int ((p5 >>> ((2 : Int32) &&& 31)) &&& (1 : Int32))), .val (.long (((0 : Int64) + (p3.toInt64)) + (p4.toInt64))), .second, .val (.long ((0 : Int64) + (p2.toInt64))), .second, .val (.int (own_ov (p0.toInt64) (p1.toInt64))), .val (.int (1 : Int32)), .val (.int (own_ov (p0.toInt64) ((p1.toInt64) + (-(p2.toInt64))))), .val (.int (1 : Int32)), .val (.int (own_ov (((p0.toInt64) + (-(p3.toInt64))) + (-(p4.toInt64))) ((p1.toInt64) + (-(p2.toInt64))))), .val (.int (1 : Int32))]) rfl hr) ?_
        refine Rch.st (fun _ hr => XS.iload X352.here hx rfl (hb hby at_299) rfl hr) ?_
        refine Rch.st (fun _ hr => XS.ifNo X352.here hx rfl (hb hby at_301) rfl ((if0 _ _).trans (feq (by decide : ¬ ((1 : Int32) = (0 : Int32)))).1) hr) ?_
        show Rch p.tables e below _ (T352.setTop (mkF m 304 #[.val (.int p0), .val (.int p1), .val (.int p2), .val (.int p3), .val (.int p4), .val (.int p5), .val (.ref b1), .val (.ref b64), .val (.int (p5 &&& (1 : Int32))), .val (.int ((p5 >>> ((1 : Int32) &&& 31)) &&& (1 : Int32))), .val (.int ((p5 >>> ((2 : Int32) &&& 31)) &&& (1 : Int32))), .val (.long (((0 : Int64) + (p3.toInt64)) + (p4.toInt64))), .second, .val (.long ((0 : Int64) + (p2.toInt64))), .second, .val (.int (own_ov (p0.toInt64) (p1.toInt64))), .val (.int (1 : Int32)), .val (.int (own_ov (p0.toInt64) ((p1.toInt64) + (-(p2.toInt64))))), .val (.int (1 : Int32)), .val (.int (own_ov (((p0.toInt64) + (-(p3.toInt64))) + (-(p4.toInt64))) ((p1.toInt64) + (-(p2.toInt64))))), .val (.int (1 : Int32))] []))
        refine Rch.st (fun _ hr => XS.iload X352.here hx rfl (hb hby at_304) rfl hr) ?_
        refine Rch.st (fun _ hr => XS.ifNo X352.here hx rfl (hb hby at_306) rfl ((if0 _ _).trans (feq (by decide : ¬ ((1 : Int32) = (0 : Int32)))).1) hr) ?_
        refine Rch.st (fun _ hr => XS.iload X352.here hx rfl (hb hby at_309) rfl hr) ?_
        refine Rch.st (fun _ hr => XS.ifNo X352.here hx rfl (hb hby at_311) rfl ((if0 _ _).trans (feq (by decide : ¬ ((1 : Int32) = (0 : Int32)))).1) hr) ?_
        show Rch p.tables e below _ (T352.setTop (mkF m 314 #[.val (.int p0), .val (.int p1), .val (.int p2), .val (.int p3), .val (.int p4), .val (.int p5), .val (.ref b1), .val (.ref b64), .val (.int (p5 &&& (1 : Int32))), .val (.int ((p5 >>> ((1 : Int32) &&& 31)) &&& (1 : Int32))), .val (.int ((p5 >>> ((2 : Int32) &&& 31)) &&& (1 : Int32))), .val (.long (((0 : Int64) + (p3.toInt64)) + (p4.toInt64))), .second, .val (.long ((0 : Int64) + (p2.toInt64))), .second, .val (.int (own_ov (p0.toInt64) (p1.toInt64))), .val (.int (1 : Int32)), .val (.int (own_ov (p0.toInt64) ((p1.toInt64) + (-(p2.toInt64))))), .val (.int (1 : Int32)), .val (.int (own_ov (((p0.toInt64) + (-(p3.toInt64))) + (-(p4.toInt64))) ((p1.toInt64) + (-(p2.toInt64))))), .val (.int (1 : Int32))] []))
        refine Rch.st (fun _ hr => XS.iconst X352.here hx rfl (hb hby at_314) hr) ?_
        refine Rch.st (fun _ hr => XS.goto X352.here hx rfl (pc0 := 315) (pc' := 319) rfl (hb hby at_315) (by decide) (by decide) hr) ?_
        obtain ⟨fs, hr, hrun, hended, hREW⟩ := Jvm.Stand.leaveW (s := s) X352 hS40 (by rw [e352]; exact (Nat.le_trans (Nat.le_trans (Nat.le_trans (Nat.le_trans (Nat.le_trans (Nat.le_trans (Nat.le_trans (Nat.le_trans (Nat.le_trans (Nat.le_trans (Nat.le_trans hk40 Kp43.1) Kp46.1) Kp52.1) E64.1) Kp76.1) Kp112.1) Kp284.1) Kp304.1) Kp307.1) Kp326.1) Kp329.1)) (v := some (.int (1 : Int32))) (fun h => by rw [Bd.returns] at h; cases h)
        refine Rch.fin (u := T352.setFrames fs) (retN X352 hx (t := .boolean) Bd.returns (by simp) (hb hby at_319) hr) ⟨_, hrun, hended, _, _, rfl, ?_, hREW.1, hREW.2.1, hREW.2.2.1, hREW.2.2.2.mono (by decide) (by decide)⟩
        show Q_claw Z p0 p1 p2 p3 p4 p5 wz de kde zz h0 n0 _ T352.heap _
        rw [e352]
        exact ⟨rfl, N352, K346, Op329⟩
      · show Rch p.tables e below _ (T326.setTop (mkF m 238 #[.val (.int p0), .val (.int p1), .val (.int p2), .val (.int p3), .val (.int p4), .val (.int p5), .val (.ref b1), .val (.ref b64), .val (.int (p5 &&& (1 : Int32))), .val (.int ((p5 >>> ((1 : Int32) &&& 31)) &&& (1 : Int32))), .val (.int ((p5 >>> ((2 : Int32) &&& 31)) &&& (1 : Int32))), .val (.long ((0 : Int64) + (p3.toInt64))), .second, .val (.long ((0 : Int64) + (p2.toInt64))), .second, .val (.int (own_ov (p0.toInt64) (p1.toInt64))), .val (.int (1 : Int32)), .val (.int (own_ov (p0.toInt64) ((p1.toInt64) + (-(p2.toInt64))))), .val (.int (1 : Int32)), .unset, .unset] [(.ref r_326), (.int ((p5 >>> ((2 : Int32) &&& 31)) &&& (1 : Int32))), (.ref b64)]))
        have f355 : Exa Z T326.heap b64 "com/example/slotwright/slotwright/Ledger" := ((f308.keep Kp307).keep Kp326)
        have hone356 : ((p5 >>> ((2 : Int32) &&& 31)) &&& (1 : Int32)) = (1 : Int32) := (and_one _).resolve_left hc328
        obtain ⟨ts356, ks356⟩ := Bk.add ks286 (Bk.i2l p4) (by decide)
        obtain ⟨tn356, kn356⟩ := Bk.neg (Bk.i2l p4) (by decide)
        obtain ⟨tr356, kr356⟩ := Bk.add kr286 kn356 (by decide)
        have iv356 := own_inv iv286 ts356 tn356 tr356
        have f357 : Fld Z T326.heap b64 "com/example/slotwright/slotwright/Ledger" "spent" "[Ljava/math/BigDecimal;" (.ref sp_76) := ((f310.keep Kp307 (ninS ne97 (ninS ne104 nin0))).keep Kp326 nin0)
        have f358 : Fld Z T326.heap b64 "com/example/slotwright/slotwright/Ledger" "remaining" "[Ljava/math/BigDecimal;" (.ref rm_76) := ((f311.keep Kp307 (ninS ne97 (ninS ne104 nin0))).keep Kp326 nin0)
        have f359 : Arv Z T326.heap sp_76 ks_76 (.object "java/math/BigDecimal") (2 : Int32) [(.ref t1_307), (.ref t1_284)] .null := (R307_0.keep Kp326 nin0)
        have f360 : Arv Z T326.heap rm_76 kr_76 (.object "java/math/BigDecimal") (2 : Int32) [(.ref t2_307), (.ref t2_284)] .null := (R307_1.keep Kp326 nin0)
        have f361 : Ovr Z ks_76 "java/math/BigDecimal" := f314
        have f362 : Ovr Z kr_76 "java/math/BigDecimal" := f315
        have f363 : BDc Z T326.heap t1_284 ((0 : Int64) + (p2.toInt64)) (0 : Int32) := ((f317.keep Kp307 (ninS ne318 (ninS ne322 nin0))).keep Kp326 nin0)
        have f364 : BDc Z T326.heap t2_284 ((p1.toInt64) + (-(p2.toInt64))) (0 : Int32) := ((f319.keep Kp307 (ninS ne320 (ninS ne323 nin0))).keep Kp326 nin0)
        obtain ⟨_, T354, Lc354, X354, hQ354, st354⟩ := own_callV X326 hx hZ40 (y := (⟨"com/example/slotwright/slotwright/Ledger", "charge", "(ILjava/math/BigDecimal;)V"⟩ : MethodName)) (z := (⟨"com/example/slotwright/slotwright/Ledger", "charge", "(ILjava/math/BigDecimal;)V"⟩ : MethodName)) hown40 (own_w hw 169 rfl) (own_w hw 170 rfl) (notFace_of_selects (args := #[]) (mvT hZ40 (own_w hw 172 rfl))) (own_w hw 172 rfl) (own_w hw 171 rfl) (own_w hw 93 rfl) (own_w hw 173 rfl) (by decide) (W := 0) (ccharge1 l Z a0 hw [] b64 r_326 sp_76 ks_76 rm_76 kr_76 t1_307 t1_284 t2_307 t2_284 ((0 : Int64) + (p2.toInt64)) ((p1.toInt64) + (-(p2.toInt64))) (p4.toInt64) wz T326.heap n0 zD0 zD1 Op326 f355 f357 f358 f359 f360 f361 f362 f363 f364 R326_0 g_sp_76 g_rm_76 R76_9 (Bk.ne ks286 (by decide)) (Bk.ne kr286 (by decide)) (Bk.ne (Bk.i2l p4) (by decide)) (own_noflow ks286 (Bk.i2l p4) (by decide)) (Bk.ne ks356 (by decide)) (own_noflow kr286 kn356 (by decide)) (Bk.ne kr356 (by decide))) (by decide) (by decide) rfl f355 (by decide) (by decide) (g := (mkF m 238 #[.val (.int p0), .val (.int p1), .val (.int p2), .val (.int p3), .val (.int p4), .val (.int p5), .val (.ref b1), .val (.ref b64), .val (.int (p5 &&& (1 : Int32))), .val (.int ((p5 >>> ((1 : Int32) &&& 31)) &&& (1 : Int32))), .val (.int ((p5 >>> ((2 : Int32) &&& 31)) &&& (1 : Int32))), .val (.long ((0 : Int64) + (p3.toInt64))), .second, .val (.long ((0 : Int64) + (p2.toInt64))), .second, .val (.int (own_ov (p0.toInt64) (p1.toInt64))), .val (.int (1 : Int32)), .val (.int (own_ov (p0.toInt64) ((p1.toInt64) + (-(p2.toInt64))))), .val (.int (1 : Int32)), .unset, .unset] [(.ref r_326), (.int ((p5 >>> ((2 : Int32) &&& 31)) &&& (1 : Int32))), (.ref b64)])) rfl (by rw [hml]; rfl) (argsL := [(.int ((p5 >>> ((2 : Int32) &&& 31)) &&& (1 : Int32))), (.ref r_326)]) (rest := []) (lenOf pd_22 rfl) rfl (by show 2 * 0 + _ ≤ _; exact Nat.le_of_eq rfl) (hb hby at_238) (by rw [hone356])
        obtain ⟨t1_354, t2_354, rfl, N354q, Kp354, Op354, R354_0, R354_1, R354_2, R354_3⟩ := hQ354
        have N354 := Fr.app N326 N354q
        refine Rch.st st354 ?_
        have f365 : BDc Z T326.heap t1_307 ((0 : Int64) + (p3.toInt64)) (0 : Int32) := (R307_2.keep Kp326 nin0)
        have ne366 : t1_307 ≠ sp_76 := (Exa.neArv f365.1 f359 (own_w hw 200 rfl))
        have f367 : BDc Z T326.heap t2_307 ((p0.toInt64) + (-(p3.toInt64))) (0 : Int32) := (R307_3.keep Kp326 nin0)
        have ne368 : t2_307 ≠ sp_76 := (Exa.neArv f367.1 f359 (own_w hw 200 rfl))
        have ne369 : r_326 ≠ sp_76 := (Exa.neArv R326_0.1 f359 (own_w hw 200 rfl))
        have ne370 : t1_307 ≠ rm_76 := (Exa.neArv f365.1 f360 (own_w hw 200 rfl))
        have ne371 : t2_307 ≠ rm_76 := (Exa.neArv f367.1 f360 (own_w hw 200 rfl))
        have ne372 : r_326 ≠ rm_76 := (Exa.neArv R326_0.1 f360 (own_w hw 200 rfl))
        have K373 : Keep h0 T354.heap [] := K327.trans Kp354 (allS (Or.inr sz_sp_76) (allS (Or.inr sz_rm_76) all0))
        refine Rch.st (fun _ hr => XS.iload X354.here hx rfl (hb hby at_241) rfl hr) ?_
        refine Rch.st (fun _ hr => XS.ifYes X354.here hx rfl (pc0 := 243) (pc' := 257) rfl (hb hby at_243) rfl ((if0 _ _).trans (feq hc328).2) (by decide) (by decide) hr) ?_
        refine Rch.st (fun _ hr => XS.lload X354.here hx rfl (hb hby at_257) rfl hr) ?_
        show Rch p.tables e below _ (T354.setTop (mkF m 259 #[.val (.int p0), .val (.int p1), .val (.int p2), .val (.int p3), .val (.int p4), .val (.int p5), .val (.ref b1), .val (.ref b64), .val (.int (p5 &&& (1 : Int32))), .val (.int ((p5 >>> ((1 : Int32) &&& 31)) &&& (1 : Int32))), .val (.int ((p5 >>> ((2 : Int32) &&& 31)) &&& (1 : Int32))), .val (.long ((0 : Int64) + (p3.toInt64))), .second, .val (.long ((0 : Int64) + (p2.toInt64))), .second, .val (.int (own_ov (p0.toInt64) (p1.toInt64))), .val (.int (1 : Int32)), .val (.int (own_ov (p0.toInt64) ((p1.toInt64) + (-(p2.toInt64))))), .val (.int (1 : Int32)), .unset, .unset] [(.long ((0 : Int64) + (p2.toInt64)))]))
        refine Rch.st (fun _ hr => XS.iload X354.here hx rfl (hb hby at_259) rfl hr) ?_
        refine Rch.st (fun _ hr => XS.i2l X354.here hx rfl (hb hby at_261) rfl hr) ?_
        refine Rch.st (fun _ hr => XS.ladd X354.here hx rfl (hb hby at_262) rfl hr) ?_
        refine Rch.st (fun _ hr => XS.lstore X354.here hx rfl (hb hby at_263) rfl (l' := #[.val (.int p0), .val (.int p1), .val (.int p2), .val (.int p3), .val (.int p4), .val (.int p5), .val (.ref b1), .val (.ref b64), .val (.int (p5 &&& (1 : Int32))), .val (.int ((p5 >>> ((1 : Int32) &&& 31)) &&& (1 : Int32))), .val (.int ((p5 >>> ((2 : Int32) &&& 31)) &&& (1 : Int32))), .val (.long ((0 : Int64) + (p3.toInt64))), .second, .val (.long (((0 : Int64) + (p2.toInt64)) + (p4.toInt64))), .second, .val (.int (own_ov (p0.toInt64) (p1.toInt64))), .val (.int (1 : Int32)), .val (.int (own_ov (p0.toInt64) ((p1.toInt64) + (-(p2.toInt64))))), .val (.int (1 : Int32)), .unset, .unset]) rfl hr) ?_
        show Rch p.tables e below _ (T354.setTop (mkF m 265 #[.val (.int p0), .val (.int p1), .val (.int p2), .val (.int p3), .val (.int p4), .val (.int p5), .val (.ref b1), .val (.ref b64), .val (.int (p5 &&& (1 : Int32))), .val (.int ((p5 >>> ((1 : Int32) &&& 31)) &&& (1 : Int32))), .val (.int ((p5 >>> ((2 : Int32) &&& 31)) &&& (1 : Int32))), .val (.long ((0 : Int64) + (p3.toInt64))), .second, .val (.long (((0 : Int64) + (p2.toInt64)) + (p4.toInt64))), .second, .val (.int (own_ov (p0.toInt64) (p1.toInt64))), .val (.int (1 : Int32)), .val (.int (own_ov (p0.toInt64) ((p1.toInt64) + (-(p2.toInt64))))), .val (.int (1 : Int32)), .unset, .unset] []))
        refine Rch.st (fun _ hr => XS.aload X354.here hx rfl (hb hby at_265) rfl rfl hr) ?_
        have f375 : Exa Z T354.heap b64 "com/example/slotwright/slotwright/Ledger" := (f355.keep Kp354)
        have f376 : Fld Z T354.heap b64 "com/example/slotwright/slotwright/Ledger" "remaining" "[Ljava/math/BigDecimal;" (.ref rm_76) := (f358.keep Kp354 (ninS ne97 (ninS ne104 nin0)))
        have f377 : BDc Z T354.heap t2_307 ((p0.toInt64) + (-(p3.toInt64))) (0 : Int32) := (f367.keep Kp354 (ninS ne368 (ninS ne371 nin0)))
        obtain ⟨_, T374, Lc374, X374, hQ374, st374⟩ := own_callV X354 hx hZ40 (y := (⟨"com/example/slotwright/slotwright/Ledger", "overspent", "()I"⟩ : MethodName)) (z := (⟨"com/example/slotwright/slotwright/Ledger", "overspent", "()I"⟩ : MethodName)) hown40 (own_w hw 148 rfl) (own_w hw 149 rfl) (notFace_of_selects (args := #[]) (mvT hZ40 (own_w hw 151 rfl))) (own_w hw 151 rfl) (own_w hw 150 rfl) (own_w hw 93 rfl) (own_w hw 152 rfl) (by decide) (W := 0) (cover l Z a0 hw [] b64 rm_76 kr_76 t2_307 t2_354 ((p0.toInt64) + (-(p3.toInt64))) (((p1.toInt64) + (-(p2.toInt64))) + (-(p4.toInt64))) T354.heap n0 f376 R354_1 f377 R354_3 (Bk.ne kr309 (by decide)) (Bk.ne kr356 (by decide))) (by decide) (by decide) rfl f375 (by decide) (by decide) (g := (mkF m 267 #[.val (.int p0), .val (.int p1), .val (.int p2), .val (.int p3), .val (.int p4), .val (.int p5), .val (.ref b1), .val (.ref b64), .val (.int (p5 &&& (1 : Int32))), .val (.int ((p5 >>> ((1 : Int32) &&& 31)) &&& (1 : Int32))), .val (.int ((p5 >>> ((2 : Int32) &&& 31)) &&& (1 : Int32))), .val (.long ((0 : Int64) + (p3.toInt64))), .second, .val (.long (((0 : Int64) + (p2.toInt64)) + (p4.toInt64))), .second, .val (.int (own_ov (p0.toInt64) (p1.toInt64))), .val (.int (1 : Int32)), .val (.int (own_ov (p0.toInt64) ((p1.toInt64) + (-(p2.toInt64))))), .val (.int (1 : Int32)), .unset, .unset] [(.ref b64)])) rfl (by rw [hml]; rfl) (argsL := []) (rest := []) (lenOf pd_14 rfl) rfl (by show 2 * 0 + _ ≤ _; exact Nat.le_of_eq rfl) (hb hby at_267) rfl
        obtain ⟨rfl, N374q, e374⟩ := hQ374
        have N374 := Fr.app N354 N374q
        refine Rch.st st374 ?_
        refine Rch.st (fun _ hr => XS.istore X374.here hx rfl (hb hby at_270) rfl (l' := #[.val (.int p0), .val (.int p1), .val (.int p2), .val (.int p3), .val (.int p4), .val (.int p5), .val (.ref b1), .val (.ref b64), .val (.int (p5 &&& (1 : Int32))), .val (.int ((p5 >>> ((1 : Int32) &&& 31)) &&& (1 : Int32))), .val (.int ((p5 >>> ((2 : Int32) &&& 31)) &&& (1 : Int32))), .val (.long ((0 : Int64) + (p3.toInt64))), .second, .val (.long (((0 : Int64) + (p2.toInt64)) + (p4.toInt64))), .second, .val (.int (own_ov (p0.toInt64) (p1.toInt64))), .val (.int (1 : Int32)), .val (.int (own_ov (p0.toInt64) ((p1.toInt64) + (-(p2.toInt64))))), .val (.int (1 : Int32)), .val (.int (own_ov ((p0.toInt64) + (-(p3.toInt64))) (((p1.toInt64) + (-(p2.toInt64))) + (-(p4.toInt64))))), .unset]) rfl hr) ?_
        refine Rch.st (fun _ hr => XS.iload X374.here hx rfl (hb hby at_272) rfl hr) ?_
        show Rch p.tables e below _ (T374.setTop (mkF m 274 #[.val (.int p0), .val (.int p1), .val (.int p2), .val (.int p3), .val (.int p4), .val (.int p5), .val (.ref b1), .val (.ref b64), .val (.int (p5 &&& (1 : Int32))), .val (.int ((p5 >>> ((1 : Int32) &&& 31)) &&& (1 : Int32))), .val (.int ((p5 >>> ((2 : Int32) &&& 31)) &&& (1 : Int32))), .val (.long ((0 : Int64) + (p3.toInt64))), .second, .val (.long (((0 : Int64) + (p2.toInt64)) + (p4.toInt64))), .second, .val (.int (own_ov (p0.toInt64) (p1.toInt64))), .val (.int (1 : Int32)), .val (.int (own_ov (p0.toInt64) ((p1.toInt64) + (-(p2.toInt64))))), .val (.int (1 : Int32)), .val (.int (own_ov ((p0.toInt64) + (-(p3.toInt64))) (((p1.toInt64) + (-(p2.toInt64))) + (-(p4.toInt64))))), .unset] [(.int (own_ov ((p0.toInt64) + (-(p3.toInt64))) (((p1.toInt64) + (-(p2.toInt64))) + (-(p4.toInt64)))))]))
        refine Rch.st (fun _ hr => XS.lload X374.here hx rfl (hb hby at_274) rfl hr) ?_
        refine Rch.st (fun _ hr => XS.iloadN X374.here hx rfl (hb hby at_276) rfl hr) ?_
        refine Rch.st (fun _ hr => XS.i2l X374.here hx rfl (hb hby at_277) rfl hr) ?_
        obtain ⟨_, T378, Lc378, X378, hQ378, st378⟩ := own_callS X374 hx hZ40 (y := (⟨"com/example/slotwright/slotwright/LedgerOverspentPinLaw", "over", "(JJ)I"⟩ : MethodName)) hown40 (own_w hw 165 rfl) (own_w hw 166 rfl) (own_w hw 167 rfl) (own_w hw 168 rfl) (by decide) (W := 1) (cov l Z a0 hw [] ((0 : Int64) + (p3.toInt64)) (p0.toInt64) T354.heap n0 ) (by decide) (by decide) e374 (by decide) (by decide) (g := (mkF m 278 #[.val (.int p0), .val (.int p1), .val (.int p2), .val (.int p3), .val (.int p4), .val (.int p5), .val (.ref b1), .val (.ref b64), .val (.int (p5 &&& (1 : Int32))), .val (.int ((p5 >>> ((1 : Int32) &&& 31)) &&& (1 : Int32))), .val (.int ((p5 >>> ((2 : Int32) &&& 31)) &&& (1 : Int32))), .val (.long ((0 : Int64) + (p3.toInt64))), .second, .val (.long (((0 : Int64) + (p2.toInt64)) + (p4.toInt64))), .second, .val (.int (own_ov (p0.toInt64) (p1.toInt64))), .val (.int (1 : Int32)), .val (.int (own_ov (p0.toInt64) ((p1.toInt64) + (-(p2.toInt64))))), .val (.int (1 : Int32)), .val (.int (own_ov ((p0.toInt64) + (-(p3.toInt64))) (((p1.toInt64) + (-(p2.toInt64))) + (-(p4.toInt64))))), .unset] [(.long (p0.toInt64)), (.long ((0 : Int64) + (p3.toInt64))), (.int (own_ov ((p0.toInt64) + (-(p3.toInt64))) (((p1.toInt64) + (-(p2.toInt64))) + (-(p4.toInt64)))))])) rfl (by rw [hml]; rfl) (argsL := [(.long ((0 : Int64) + (p3.toInt64))), (.long (p0.toInt64))]) (rest := [(.int (own_ov ((p0.toInt64) + (-(p3.toInt64))) (((p1.toInt64) + (-(p2.toInt64))) + (-(p4.toInt64)))))]) (lenOf pd_21 rfl) rfl (by show 2 * 0 + _ ≤ _; exact Nat.le_of_eq rfl) (hb hby at_278) rfl
        obtain ⟨rfl, N378q, e378⟩ := hQ378
        have N378 := Fr.app N374 N378q
        refine Rch.st st378 ?_
        show Rch p.tables e below _ (T378.setTop (mkF m 281 #[.val (.int p0), .val (.int p1), .val (.int p2), .val (.int p3), .val (.int p4), .val (.int p5), .val (.ref b1), .val (.ref b64), .val (.int (p5 &&& (1 : Int32))), .val (.int ((p5 >>> ((1 : Int32) &&& 31)) &&& (1 : Int32))), .val (.int ((p5 >>> ((2 : Int32) &&& 31)) &&& (1 : Int32))), .val (.long ((0 : Int64) + (p3.toInt64))), .second, .val (.long (((0 : Int64) + (p2.toInt64)) + (p4.toInt64))), .second, .val (.int (own_ov (p0.toInt64) (p1.toInt64))), .val (.int (1 : Int32)), .val (.int (own_ov (p0.toInt64) ((p1.toInt64) + (-(p2.toInt64))))), .val (.int (1 : Int32)), .val (.int (own_ov ((p0.toInt64) + (-(p3.toInt64))) (((p1.toInt64) + (-(p2.toInt64))) + (-(p4.toInt64))))), .unset] [(.int (own_over ((0 : Int64) + (p3.toInt64)) (p0.toInt64))), (.int (own_ov ((p0.toInt64) + (-(p3.toInt64))) (((p1.toInt64) + (-(p2.toInt64))) + (-(p4.toInt64)))))]))
        refine Rch.st (fun _ hr => XS.lload X378.here hx rfl (hb hby at_281) rfl hr) ?_
        refine Rch.st (fun _ hr => XS.iloadN X378.here hx rfl (hb hby at_283) rfl hr) ?_
        refine Rch.st (fun _ hr => XS.i2l X378.here hx rfl (hb hby at_284) rfl hr) ?_
        obtain ⟨_, T379, Lc379, X379, hQ379, st379⟩ := own_callS X378 hx hZ40 (y := (⟨"com/example/slotwright/slotwright/LedgerOverspentPinLaw", "over", "(JJ)I"⟩ : MethodName)) hown40 (own_w hw 165 rfl) (own_w hw 166 rfl) (own_w hw 167 rfl) (own_w hw 168 rfl) (by decide) (W := 2) (cov l Z a0 hw [] (((0 : Int64) + (p2.toInt64)) + (p4.toInt64)) (p1.toInt64) T354.heap n0 ) (by decide) (by decide) e378 (by decide) (by decide) (g := (mkF m 285 #[.val (.int p0), .val (.int p1), .val (.int p2), .val (.int p3), .val (.int p4), .val (.int p5), .val (.ref b1), .val (.ref b64), .val (.int (p5 &&& (1 : Int32))), .val (.int ((p5 >>> ((1 : Int32) &&& 31)) &&& (1 : Int32))), .val (.int ((p5 >>> ((2 : Int32) &&& 31)) &&& (1 : Int32))), .val (.long ((0 : Int64) + (p3.toInt64))), .second, .val (.long (((0 : Int64) + (p2.toInt64)) + (p4.toInt64))), .second, .val (.int (own_ov (p0.toInt64) (p1.toInt64))), .val (.int (1 : Int32)), .val (.int (own_ov (p0.toInt64) ((p1.toInt64) + (-(p2.toInt64))))), .val (.int (1 : Int32)), .val (.int (own_ov ((p0.toInt64) + (-(p3.toInt64))) (((p1.toInt64) + (-(p2.toInt64))) + (-(p4.toInt64))))), .unset] [(.long (p1.toInt64)), (.long (((0 : Int64) + (p2.toInt64)) + (p4.toInt64))), (.int (own_over ((0 : Int64) + (p3.toInt64)) (p0.toInt64))), (.int (own_ov ((p0.toInt64) + (-(p3.toInt64))) (((p1.toInt64) + (-(p2.toInt64))) + (-(p4.toInt64)))))])) rfl (by rw [hml]; rfl) (argsL := [(.long (((0 : Int64) + (p2.toInt64)) + (p4.toInt64))), (.long (p1.toInt64))]) (rest := [(.int (own_over ((0 : Int64) + (p3.toInt64)) (p0.toInt64))), (.int (own_ov ((p0.toInt64) + (-(p3.toInt64))) (((p1.toInt64) + (-(p2.toInt64))) + (-(p4.toInt64)))))]) (lenOf pd_21 rfl) rfl (by show 2 * 0 + _ ≤ _; exact Nat.le_of_eq rfl) (hb hby at_285) rfl
        obtain ⟨rfl, N379q, e379⟩ := hQ379
        have N379 := Fr.app N378 N379q
        refine Rch.st st379 ?_
        show Rch p.tables e below _ (T379.setTop (mkF m 288 #[.val (.int p0), .val (.int p1), .val (.int p2), .val (.int p3), .val (.int p4), .val (.int p5), .val (.ref b1), .val (.ref b64), .val (.int (p5 &&& (1 : Int32))), .val (.int ((p5 >>> ((1 : Int32) &&& 31)) &&& (1 : Int32))), .val (.int ((p5 >>> ((2 : Int32) &&& 31)) &&& (1 : Int32))), .val (.long ((0 : Int64) + (p3.toInt64))), .second, .val (.long (((0 : Int64) + (p2.toInt64)) + (p4.toInt64))), .second, .val (.int (own_ov (p0.toInt64) (p1.toInt64))), .val (.int (1 : Int32)), .val (.int (own_ov (p0.toInt64) ((p1.toInt64) + (-(p2.toInt64))))), .val (.int (1 : Int32)), .val (.int (own_ov ((p0.toInt64) + (-(p3.toInt64))) (((p1.toInt64) + (-(p2.toInt64))) + (-(p4.toInt64))))), .unset] [(.int (own_over (((0 : Int64) + (p2.toInt64)) + (p4.toInt64)) (p1.toInt64))), (.int (own_over ((0 : Int64) + (p3.toInt64)) (p0.toInt64))), (.int (own_ov ((p0.toInt64) + (-(p3.toInt64))) (((p1.toInt64) + (-(p2.toInt64))) + (-(p4.toInt64)))))]))
        refine Rch.st (fun _ hr => XS.iadd X379.here hx rfl (hb hby at_288) rfl hr) ?_
        have hk380 : (own_ov ((p0.toInt64) + (-(p3.toInt64))) (((p1.toInt64) + (-(p2.toInt64))) + (-(p4.toInt64)))) = ((own_over ((0 : Int64) + (p3.toInt64)) (p0.toInt64)) + (own_over (((0 : Int64) + (p2.toInt64)) + (p4.toInt64)) (p1.toInt64))) := own_cmp iv309 iv356
        refine Rch.st (fun _ hr => XS.icmpNo X379.here hx rfl (hb hby at_289) rfl (teq hk380).2 hr) ?_
        refine Rch.st (fun _ hr => XS.iconst X379.here hx rfl (hb hby at_292) hr) ?_
        refine Rch.st (fun _ hr => XS.goto X379.here hx rfl (pc0 := 293) (pc' := 297) rfl (hb hby at_293) (by decide) (by decide) hr) ?_
        show Rch p.tables e below _ (T379.setTop (mkF m 297 #[.val (.int p0), .val (.int p1), .val (.int p2), .val (.int p3), .val (.int p4), .val (.int p5), .val (.ref b1), .val (.ref b64), .val (.int (p5 &&& (1 : Int32))), .val (.int ((p5 >>> ((1 : Int32) &&& 31)) &&& (1 : Int32))), .val (.int ((p5 >>> ((2 : Int32) &&& 31)) &&& (1 : Int32))), .val (.long ((0 : Int64) + (p3.toInt64))), .second, .val (.long (((0 : Int64) + (p2.toInt64)) + (p4.toInt64))), .second, .val (.int (own_ov (p0.toInt64) (p1.toInt64))), .val (.int (1 : Int32)), .val (.int (own_ov (p0.toInt64) ((p1.toInt64) + (-(p2.toInt64))))), .val (.int (1 : Int32)), .val (.int (own_ov ((p0.toInt64) + (-(p3.toInt64))) (((p1.toInt64) + (-(p2.toInt64))) + (-(p4.toInt64))))), .unset] [(.int (1 : Int32))]))
        refine Rch.st (fun _ hr => XS.istore X379.here hx rfl (hb hby at_297) rfl (l' := #[.val (.int p0), .val (.int p1), .val (.int p2), .val (.int p3), .val (.int p4), .val (.int p5), .val (.ref b1), .val (.ref b64), .val (.int (p5 &&& (1 : Int32))), .val (.int ((p5 >>> ((1 : Int32) &&& 31)) &&& (1 : Int32))), .val (.int ((p5 >>> ((2 : Int32) &&& 31)) &&& (1 : Int32))), .val (.long ((0 : Int64) + (p3.toInt64))), .second, .val (.long (((0 : Int64) + (p2.toInt64)) + (p4.toInt64))), .second, .val (.int (own_ov (p0.toInt64) (p1.toInt64))), .val (.int (1 : Int32)), .val (.int (own_ov (p0.toInt64) ((p1.toInt64) + (-(p2.toInt64))))), .val (.int (1 : Int32)), .val (.int (own_ov ((p0.toInt64) + (-(p3.toInt64))) (((p1.toInt64) + (-(p2.toInt64))) + (-(p4.toInt64))))), .val (.int (1 : Int32))]) rfl hr) ?_
        refine Rch.st (fun _ hr => XS.iload X379.here hx rfl (hb hby at_299) rfl hr) ?_
        refine Rch.st (fun _ hr => XS.ifNo X379.here hx rfl (hb hby at_301) rfl ((if0 _ _).trans (feq (by decide : ¬ ((1 : Int32) = (0 : Int32)))).1) hr) ?_
        refine Rch.st (fun _ hr => XS.iload X379.here hx rfl (hb hby at_304) rfl hr) ?_
        show Rch p.tables e below _ (T379.setTop (mkF m 306 #[.val (.int p0), .val (.int p1), .val (.int p2), .val (.int p3), .val (.int p4), .val (.int p5), .val (.ref b1), .val (.ref b64), .val (.int (p5 &&& (1 : Int32))), .val (.int ((p5 >>> ((1 : Int32) &&& 31)) &&& (1 : Int32))), .val (.int ((p5 >>> ((2 : Int32) &&& 31)) &&& (1 : Int32))), .val (.long ((0 : Int64) + (p3.toInt64))), .second, .val (.long (((0 : Int64) + (p2.toInt64)) + (p4.toInt64))), .second, .val (.int (own_ov (p0.toInt64) (p1.toInt64))), .val (.int (1 : Int32)), .val (.int (own_ov (p0.toInt64) ((p1.toInt64) + (-(p2.toInt64))))), .val (.int (1 : Int32)), .val (.int (own_ov ((p0.toInt64) + (-(p3.toInt64))) (((p1.toInt64) + (-(p2.toInt64))) + (-(p4.toInt64))))), .val (.int (1 : Int32))] [(.int (1 : Int32))]))
        refine Rch.st (fun _ hr => XS.ifNo X379.here hx rfl (hb hby at_306) rfl ((if0 _ _).trans (feq (by decide : ¬ ((1 : Int32) = (0 : Int32)))).1) hr) ?_
        refine Rch.st (fun _ hr => XS.iload X379.here hx rfl (hb hby at_309) rfl hr) ?_
        refine Rch.st (fun _ hr => XS.ifNo X379.here hx rfl (hb hby at_311) rfl ((if0 _ _).trans (feq (by decide : ¬ ((1 : Int32) = (0 : Int32)))).1) hr) ?_
        refine Rch.st (fun _ hr => XS.iconst X379.here hx rfl (hb hby at_314) hr) ?_
        show Rch p.tables e below _ (T379.setTop (mkF m 315 #[.val (.int p0), .val (.int p1), .val (.int p2), .val (.int p3), .val (.int p4), .val (.int p5), .val (.ref b1), .val (.ref b64), .val (.int (p5 &&& (1 : Int32))), .val (.int ((p5 >>> ((1 : Int32) &&& 31)) &&& (1 : Int32))), .val (.int ((p5 >>> ((2 : Int32) &&& 31)) &&& (1 : Int32))), .val (.long ((0 : Int64) + (p3.toInt64))), .second, .val (.long (((0 : Int64) + (p2.toInt64)) + (p4.toInt64))), .second, .val (.int (own_ov (p0.toInt64) (p1.toInt64))), .val (.int (1 : Int32)), .val (.int (own_ov (p0.toInt64) ((p1.toInt64) + (-(p2.toInt64))))), .val (.int (1 : Int32)), .val (.int (own_ov ((p0.toInt64) + (-(p3.toInt64))) (((p1.toInt64) + (-(p2.toInt64))) + (-(p4.toInt64))))), .val (.int (1 : Int32))] [(.int (1 : Int32))]))
        refine Rch.st (fun _ hr => XS.goto X379.here hx rfl (pc0 := 315) (pc' := 319) rfl (hb hby at_315) (by decide) (by decide) hr) ?_
        obtain ⟨fs, hr, hrun, hended, hREW⟩ := Jvm.Stand.leaveW (s := s) X379 hS40 (by rw [e379]; exact (Nat.le_trans (Nat.le_trans (Nat.le_trans (Nat.le_trans (Nat.le_trans (Nat.le_trans (Nat.le_trans (Nat.le_trans (Nat.le_trans (Nat.le_trans (Nat.le_trans hk40 Kp43.1) Kp46.1) Kp52.1) E64.1) Kp76.1) Kp112.1) Kp284.1) Kp304.1) Kp307.1) Kp326.1) Kp354.1)) (v := some (.int (1 : Int32))) (fun h => by rw [Bd.returns] at h; cases h)
        refine Rch.fin (u := T379.setFrames fs) (retN X379 hx (t := .boolean) Bd.returns (by simp) (hb hby at_319) hr) ⟨_, hrun, hended, _, _, rfl, ?_, hREW.1, hREW.2.1, hREW.2.2.1, hREW.2.2.2.mono (by decide) (by decide)⟩
        show Q_claw Z p0 p1 p2 p3 p4 p5 wz de kde zz h0 n0 _ T379.heap _
        rw [e379]
        exact ⟨rfl, N379, K373, Op354⟩
    · show Rch p.tables e below _ (T304.setTop (mkF m 203 #[.val (.int p0), .val (.int p1), .val (.int p2), .val (.int p3), .val (.int p4), .val (.int p5), .val (.ref b1), .val (.ref b64), .val (.int (p5 &&& (1 : Int32))), .val (.int ((p5 >>> ((1 : Int32) &&& 31)) &&& (1 : Int32))), .val (.int ((p5 >>> ((2 : Int32) &&& 31)) &&& (1 : Int32))), .val (.long (0 : Int64)), .second, .val (.long ((0 : Int64) + (p2.toInt64))), .second, .val (.int (own_ov (p0.toInt64) (p1.toInt64))), .val (.int (1 : Int32)), .val (.int (own_ov (p0.toInt64) ((p1.toInt64) + (-(p2.toInt64))))), .val (.int (1 : Int32)), .unset, .unset] [(.ref r_304), (.int ((p5 >>> ((1 : Int32) &&& 31)) &&& (1 : Int32))), (.ref b64)]))
      have f382 : Exa Z T304.heap b64 "com/example/slotwright/slotwright/Ledger" := (f298.keep Kp304)
      have hone383 : ((p5 >>> ((1 : Int32) &&& 31)) &&& (1 : Int32)) = (1 : Int32) := (and_one _).resolve_left hc306
      obtain ⟨ts383, ks383⟩ := Bk.add ks286 (Bk.i2l p3) (by decide)
      obtain ⟨tn383, kn383⟩ := Bk.neg (Bk.i2l p3) (by decide)
      obtain ⟨tr383, kr383⟩ := Bk.add kr286 kn383 (by decide)
      have iv383 := own_inv iv286 ts383 tn383 tr383
      have f384 : Fld Z T304.heap b64 "com/example/slotwright/slotwright/Ledger" "spent" "[Ljava/math/BigDecimal;" (.ref sp_76) := ((f287.keep Kp284 (ninS ne97 (ninS ne104 nin0))).keep Kp304 nin0)
      have f385 : Fld Z T304.heap b64 "com/example/slotwright/slotwright/Ledger" "remaining" "[Ljava/math/BigDecimal;" (.ref rm_76) := (f299.keep Kp304 nin0)
      have f386 : Arv Z T304.heap sp_76 ks_76 (.object "java/math/BigDecimal") (2 : Int32) [(.ref zz), (.ref t1_284)] .null := (R284_0.keep Kp304 nin0)
      have f387 : Arv Z T304.heap rm_76 kr_76 (.object "java/math/BigDecimal") (2 : Int32) [(.ref r_12), (.ref t2_284)] .null := (R284_1.keep Kp304 nin0)
      have f388 : Ovr Z ks_76 "java/math/BigDecimal" := f291
      have f389 : Ovr Z kr_76 "java/math/BigDecimal" := f292
      have f390 : BDc Z T304.heap t1_284 ((0 : Int64) + (p2.toInt64)) (0 : Int32) := (R284_2.keep Kp304 nin0)
      have f391 : BDc Z T304.heap t2_284 ((p1.toInt64) + (-(p2.toInt64))) (0 : Int32) := (R284_3.keep Kp304 nin0)
      obtain ⟨_, T381, Lc381, X381, hQ381, st381⟩ := own_callV X304 hx hZ40 (y := (⟨"com/example/slotwright/slotwright/Ledger", "charge", "(ILjava/math/BigDecimal;)V"⟩ : MethodName)) (z := (⟨"com/example/slotwright/slotwright/Ledger", "charge", "(ILjava/math/BigDecimal;)V"⟩ : MethodName)) hown40 (own_w hw 169 rfl) (own_w hw 170 rfl) (notFace_of_selects (args := #[]) (mvT hZ40 (own_w hw 172 rfl))) (own_w hw 172 rfl) (own_w hw 171 rfl) (own_w hw 93 rfl) (own_w hw 173 rfl) (by decide) (W := 0) (ccharge1 l Z a0 hw [] b64 r_304 sp_76 ks_76 rm_76 kr_76 zz t1_284 r_12 t2_284 ((0 : Int64) + (p2.toInt64)) ((p1.toInt64) + (-(p2.toInt64))) (p3.toInt64) wz T304.heap n0 zD0 zD1 Op304 f382 f384 f385 f386 f387 f388 f389 f390 f391 R304_0 g_sp_76 g_rm_76 R76_9 (Bk.ne ks286 (by decide)) (Bk.ne kr286 (by decide)) (Bk.ne (Bk.i2l p3) (by decide)) (own_noflow ks286 (Bk.i2l p3) (by decide)) (Bk.ne ks383 (by decide)) (own_noflow kr286 kn383 (by decide)) (Bk.ne kr383 (by decide))) (by decide) (by decide) rfl f382 (by decide) (by decide) (g := (mkF m 203 #[.val (.int p0), .val (.int p1), .val (.int p2), .val (.int p3), .val (.int p4), .val (.int p5), .val (.ref b1), .val (.ref b64), .val (.int (p5 &&& (1 : Int32))), .val (.int ((p5 >>> ((1 : Int32) &&& 31)) &&& (1 : Int32))), .val (.int ((p5 >>> ((2 : Int32) &&& 31)) &&& (1 : Int32))), .val (.long (0 : Int64)), .second, .val (.long ((0 : Int64) + (p2.toInt64))), .second, .val (.int (own_ov (p0.toInt64) (p1.toInt64))), .val (.int (1 : Int32)), .val (.int (own_ov (p0.toInt64) ((p1.toInt64) + (-(p2.toInt64))))), .val (.int (1 : Int32)), .unset, .unset] [(.ref r_304), (.int ((p5 >>> ((1 : Int32) &&& 31)) &&& (1 : Int32))), (.ref b64)])) rfl (by rw [hml]; rfl) (argsL := [(.int ((p5 >>> ((1 : Int32) &&& 31)) &&& (1 : Int32))), (.ref r_304)]) (rest := []) (lenOf pd_22 rfl) rfl (by show 2 * 0 + _ ≤ _; exact Nat.le_of_eq rfl) (hb hby at_203) (by rw [hone383])
      obtain ⟨t1_381, t2_381, rfl, N381q, Kp381, Op381, R381_0, R381_1, R381_2, R381_3⟩ := hQ381
      have N381 := Fr.app N304 N381q
      refine Rch.st st381 ?_
      have ne392 : t1_284 ≠ sp_76 := (Exa.neArv f390.1 f386 (own_w hw 200 rfl))
      have ne393 : t2_284 ≠ sp_76 := (Exa.neArv f391.1 f386 (own_w hw 200 rfl))
      have ne394 : r_304 ≠ sp_76 := (Exa.neArv R304_0.1 f386 (own_w hw 200 rfl))
      have ne395 : t1_284 ≠ rm_76 := (Exa.neArv f390.1 f387 (own_w hw 200 rfl))
      have ne396 : t2_284 ≠ rm_76 := (Exa.neArv f391.1 f387 (own_w hw 200 rfl))
      have ne397 : r_304 ≠ rm_76 := (Exa.neArv R304_0.1 f387 (own_w hw 200 rfl))
      have K398 : Keep h0 T381.heap [] := K305.trans Kp381 (allS (Or.inr sz_sp_76) (allS (Or.inr sz_rm_76) all0))
      refine Rch.st (fun _ hr => XS.iload X381.here hx rfl (hb hby at_206) rfl hr) ?_
      refine Rch.st (fun _ hr => XS.ifYes X381.here hx rfl (pc0 := 208) (pc' := 221) rfl (hb hby at_208) rfl ((if0 _ _).trans (feq hc306).2) (by decide) (by decide) hr) ?_
      refine Rch.st (fun _ hr => XS.lload X381.here hx rfl (hb hby at_221) rfl hr) ?_
      show Rch p.tables e below _ (T381.setTop (mkF m 223 #[.val (.int p0), .val (.int p1), .val (.int p2), .val (.int p3), .val (.int p4), .val (.int p5), .val (.ref b1), .val (.ref b64), .val (.int (p5 &&& (1 : Int32))), .val (.int ((p5 >>> ((1 : Int32) &&& 31)) &&& (1 : Int32))), .val (.int ((p5 >>> ((2 : Int32) &&& 31)) &&& (1 : Int32))), .val (.long (0 : Int64)), .second, .val (.long ((0 : Int64) + (p2.toInt64))), .second, .val (.int (own_ov (p0.toInt64) (p1.toInt64))), .val (.int (1 : Int32)), .val (.int (own_ov (p0.toInt64) ((p1.toInt64) + (-(p2.toInt64))))), .val (.int (1 : Int32)), .unset, .unset] [(.long ((0 : Int64) + (p2.toInt64)))]))
      refine Rch.st (fun _ hr => XS.iloadN X381.here hx rfl (hb hby at_223) rfl hr) ?_
      refine Rch.st (fun _ hr => XS.i2l X381.here hx rfl (hb hby at_224) rfl hr) ?_
      refine Rch.st (fun _ hr => XS.ladd X381.here hx rfl (hb hby at_225) rfl hr) ?_
      refine Rch.st (fun _ hr => XS.lstore X381.here hx rfl (hb hby at_226) rfl (l' := #[.val (.int p0), .val (.int p1), .val (.int p2), .val (.int p3), .val (.int p4), .val (.int p5), .val (.ref b1), .val (.ref b64), .val (.int (p5 &&& (1 : Int32))), .val (.int ((p5 >>> ((1 : Int32) &&& 31)) &&& (1 : Int32))), .val (.int ((p5 >>> ((2 : Int32) &&& 31)) &&& (1 : Int32))), .val (.long (0 : Int64)), .second, .val (.long (((0 : Int64) + (p2.toInt64)) + (p3.toInt64))), .second, .val (.int (own_ov (p0.toInt64) (p1.toInt64))), .val (.int (1 : Int32)), .val (.int (own_ov (p0.toInt64) ((p1.toInt64) + (-(p2.toInt64))))), .val (.int (1 : Int32)), .unset, .unset]) rfl hr) ?_
      show Rch p.tables e below _ (T381.setTop (mkF m 228 #[.val (.int p0), .val (.int p1), .val (.int p2), .val (.int p3), .val (.int p4), .val (.int p5), .val (.ref b1), .val (.ref b64), .val (.int (p5 &&& (1 : Int32))), .val (.int ((p5 >>> ((1 : Int32) &&& 31)) &&& (1 : Int32))), .val (.int ((p5 >>> ((2 : Int32) &&& 31)) &&& (1 : Int32))), .val (.long (0 : Int64)), .second, .val (.long (((0 : Int64) + (p2.toInt64)) + (p3.toInt64))), .second, .val (.int (own_ov (p0.toInt64) (p1.toInt64))), .val (.int (1 : Int32)), .val (.int (own_ov (p0.toInt64) ((p1.toInt64) + (-(p2.toInt64))))), .val (.int (1 : Int32)), .unset, .unset] []))
      refine Rch.st (fun _ hr => XS.aload X381.here hx rfl (hb hby at_228) rfl rfl hr) ?_
      refine Rch.st (fun _ hr => XS.iload X381.here hx rfl (hb hby at_230) rfl hr) ?_
      refine Rch.st (fun _ hr => XS.iload X381.here hx rfl (hb hby at_232) rfl hr) ?_
      refine Rch.st (fun _ hr => XS.i2l X381.here hx rfl (hb hby at_234) rfl hr) ?_
      show Rch p.tables e below _ (T381.setTop (mkF m 235 #[.val (.int p0), .val (.int p1), .val (.int p2), .val (.int p3), .val (.int p4), .val (.int p5), .val (.ref b1), .val (.ref b64), .val (.int (p5 &&& (1 : Int32))), .val (.int ((p5 >>> ((1 : Int32) &&& 31)) &&& (1 : Int32))), .val (.int ((p5 >>> ((2 : Int32) &&& 31)) &&& (1 : Int32))), .val (.long (0 : Int64)), .second, .val (.long (((0 : Int64) + (p2.toInt64)) + (p3.toInt64))), .second, .val (.int (own_ov (p0.toInt64) (p1.toInt64))), .val (.int (1 : Int32)), .val (.int (own_ov (p0.toInt64) ((p1.toInt64) + (-(p2.toInt64))))), .val (.int (1 : Int32)), .unset, .unset] [(.long (p4.toInt64)), (.int ((p5 >>> ((2 : Int32) &&& 31)) &&& (1 : Int32))), (.ref b64)]))
      obtain ⟨_, T399, Lc399, X399, hQ399, st399⟩ := own_callS X381 hx hZ40 (y := (⟨"java/math/BigDecimal", "valueOf", "(J)Ljava/math/BigDecimal;"⟩ : MethodName)) hown40 (own_w hw 37 rfl) (own_w hw 38 rfl) (own_w hw 39 rfl) (own_w hw 40 rfl) (by decide) (W := 2) (cvalueOf l Z a0 hw [] (p4.toInt64) wz T381.heap n0 zD0 zD1 Op381 (Bk.ne (Bk.i2l p4) (by decide))) (by decide) (by decide) rfl (by decide) (by decide) (g := (mkF m 235 #[.val (.int p0), .val (.int p1), .val (.int p2), .val (.int p3), .val (.int p4), .val (.int p5), .val (.ref b1), .val (.ref b64), .val (.int (p5 &&& (1 : Int32))), .val (.int ((p5 >>> ((1 : Int32) &&& 31)) &&& (1 : Int32))), .val (.int ((p5 >>> ((2 : Int32) &&& 31)) &&& (1 : Int32))), .val (.long (0 : Int64)), .second, .val (.long (((0 : Int64) + (p2.toInt64)) + (p3.toInt64))), .second, .val (.int (own_ov (p0.toInt64) (p1.toInt64))), .val (.int (1 : Int32)), .val (.int (own_ov (p0.toInt64) ((p1.toInt64) + (-(p2.toInt64))))), .val (.int (1 : Int32)), .unset, .unset] [(.long (p4.toInt64)), (.int ((p5 >>> ((2 : Int32) &&& 31)) &&& (1 : Int32))), (.ref b64)])) rfl (by rw [hml]; rfl) (argsL := [(.long (p4.toInt64))]) (rest := [(.int ((p5 >>> ((2 : Int32) &&& 31)) &&& (1 : Int32))), (.ref b64)]) (lenOf pd_2 rfl) rfl (by show 2 * 0 + _ ≤ _; exact Nat.le_of_eq rfl) (hb hby at_235) rfl
      obtain ⟨r_399, rfl, N399q, Kp399, Op399, R399_0⟩ := hQ399
      have N399 := Fr.app N381 N399q
      refine Rch.st st399 ?_
      have K400 : Keep h0 T399.heap [] := K398.trans Kp399 all0
      by_cases hc401 : ((p5 >>> ((2 : Int32) &&& 31)) &&& (1 : Int32)) = (0 : Int32)
      · show Rch p.tables e below _ (T399.setTop (mkF m 238 #[.val (.int p0), .val (.int p1), .val (.int p2), .val (.int p3), .val (.int p4), .val (.int p5), .val (.ref b1), .val (.ref b64), .val (.int (p5 &&& (1 : Int32))), .val (.int ((p5 >>> ((1 : Int32) &&& 31)) &&& (1 : Int32))), .val (.int ((p5 >>> ((2 : Int32) &&& 31)) &&& (1 : Int32))), .val (.long (0 : Int64)), .second, .val (.long (((0 : Int64) + (p2.toInt64)) + (p3.toInt64))), .second, .val (.int (own_ov (p0.toInt64) (p1.toInt64))), .val (.int (1 : Int32)), .val (.int (own_ov (p0.toInt64) ((p1.toInt64) + (-(p2.toInt64))))), .val (.int (1 : Int32)), .unset, .unset] [(.ref r_399), (.int ((p5 >>> ((2 : Int32) &&& 31)) &&& (1 : Int32))), (.ref b64)]))
        have f403 : Exa Z T399.heap b64 "com/example/slotwright/slotwright/Ledger" := ((f382.keep Kp381).keep Kp399)
        obtain ⟨ts404, ks404⟩ := Bk.add Bk.zero (Bk.i2l p4) (by decide)
        obtain ⟨tn404, kn404⟩ := Bk.neg (Bk.i2l p4) (by decide)
        obtain ⟨tr404, kr404⟩ := Bk.add (Bk.i2l p0) kn404 (by decide)
        have iv404 := own_inv (own_inv0 (p0.toInt64)) ts404 tn404 tr404
        have f405 : Fld Z T399.heap b64 "com/example/slotwright/slotwright/Ledger" "spent" "[Ljava/math/BigDecimal;" (.ref sp_76) := ((f384.keep Kp381 (ninS ne97 (ninS ne104 nin0))).keep Kp399 nin0)
        have f406 : Fld Z T399.heap b64 "com/example/slotwright/slotwright/Ledger" "remaining" "[Ljava/math/BigDecimal;" (.ref rm_76) := ((f385.keep Kp381 (ninS ne97 (ninS ne104 nin0))).keep Kp399 nin0)
        have f407 : Arv Z T399.heap sp_76 ks_76 (.object "java/math/BigDecimal") (2 : Int32) [(.ref zz), (.ref t1_381)] .null := (R381_0.keep Kp399 nin0)
        have f408 : Arv Z T399.heap rm_76 kr_76 (.object "java/math/BigDecimal") (2 : Int32) [(.ref r_12), (.ref t2_381)] .null := (R381_1.keep Kp399 nin0)
        have f409 : Ovr Z ks_76 "java/math/BigDecimal" := f388
        have f410 : Ovr Z kr_76 "java/math/BigDecimal" := f389
        have f411 : BDc Z T399.heap r_12 (p0.toInt64) (0 : Int32) := (((f300.keep Kp304 nin0).keep Kp381 (ninS ne92 (ninS ne100 nin0))).keep Kp399 nin0)
        obtain ⟨_, T402, Lc402, X402, hQ402, st402⟩ := own_callV X399 hx hZ40 (y := (⟨"com/example/slotwright/slotwright/Ledger", "charge", "(ILjava/math/BigDecimal;)V"⟩ : MethodName)) (z := (⟨"com/example/slotwright/slotwright/Ledger", "charge", "(ILjava/math/BigDecimal;)V"⟩ : MethodName)) hown40 (own_w hw 169 rfl) (own_w hw 170 rfl) (notFace_of_selects (args := #[]) (mvT hZ40 (own_w hw 172 rfl))) (own_w hw 172 rfl) (own_w hw 171 rfl) (own_w hw 93 rfl) (own_w hw 173 rfl) (by decide) (W := 0) (ccharge0 l Z a0 hw [] b64 r_399 sp_76 ks_76 rm_76 kr_76 zz t1_381 r_12 t2_381 (0 : Int64) (p0.toInt64) (p4.toInt64) wz T399.heap n0 zD0 zD1 Op399 f403 f405 f406 f407 f408 f409 f410 (zD5.ext Op399.2) f411 R399_0 g_sp_76 g_rm_76 R76_9 (Bk.ne Bk.zero (by decide)) (Bk.ne (Bk.i2l p0) (by decide)) (Bk.ne (Bk.i2l p4) (by decide)) (own_noflow Bk.zero (Bk.i2l p4) (by decide)) (Bk.ne ks404 (by decide)) (own_noflow (Bk.i2l p0) kn404 (by decide)) (Bk.ne kr404 (by decide))) (by decide) (by decide) rfl f403 (by decide) (by decide) (g := (mkF m 238 #[.val (.int p0), .val (.int p1), .val (.int p2), .val (.int p3), .val (.int p4), .val (.int p5), .val (.ref b1), .val (.ref b64), .val (.int (p5 &&& (1 : Int32))), .val (.int ((p5 >>> ((1 : Int32) &&& 31)) &&& (1 : Int32))), .val (.int ((p5 >>> ((2 : Int32) &&& 31)) &&& (1 : Int32))), .val (.long (0 : Int64)), .second, .val (.long (((0 : Int64) + (p2.toInt64)) + (p3.toInt64))), .second, .val (.int (own_ov (p0.toInt64) (p1.toInt64))), .val (.int (1 : Int32)), .val (.int (own_ov (p0.toInt64) ((p1.toInt64) + (-(p2.toInt64))))), .val (.int (1 : Int32)), .unset, .unset] [(.ref r_399), (.int ((p5 >>> ((2 : Int32) &&& 31)) &&& (1 : Int32))), (.ref b64)])) rfl (by rw [hml]; rfl) (argsL := [(.int ((p5 >>> ((2 : Int32) &&& 31)) &&& (1 : Int32))), (.ref r_399)]) (rest := []) (lenOf pd_22 rfl) rfl (by show 2 * 0 + _ ≤ _; exact Nat.le_of_eq rfl) (hb hby at_238) (by rw [hc401])
        obtain ⟨t1_402, t2_402, rfl, N402q, Kp402, Op402, R402_0, R402_1, R402_2, R402_3⟩ := hQ402
        have N402 := Fr.app N399 N402q
        refine Rch.st st402 ?_
        have f412 : BDc Z T399.heap t1_381 (((0 : Int64) + (p2.toInt64)) + (p3.toInt64)) (0 : Int32) := (R381_2.keep Kp399 nin0)
        have ne413 : t1_381 ≠ sp_76 := (Exa.neArv f412.1 f407 (own_w hw 200 rfl))
        have f414 : BDc Z T399.heap t2_381 (((p1.toInt64) + (-(p2.toInt64))) + (-(p3.toInt64))) (0 : Int32) := (R381_3.keep Kp399 nin0)
        have ne415 : t2_381 ≠ sp_76 := (Exa.neArv f414.1 f407 (own_w hw 200 rfl))
        have ne416 : r_399 ≠ sp_76 := (Exa.neArv R399_0.1 f407 (own_w hw 200 rfl))
        have ne417 : t1_381 ≠ rm_76 := (Exa.neArv f412.1 f408 (own_w hw 200 rfl))
        have ne418 : t2_381 ≠ rm_76 := (Exa.neArv f414.1 f408 (own_w hw 200 rfl))
        have ne419 : r_399 ≠ rm_76 := (Exa.neArv R399_0.1 f408 (own_w hw 200 rfl))
        have K420 : Keep h0 T402.heap [] := K400.trans Kp402 (allS (Or.inr sz_sp_76) (allS (Or.inr sz_rm_76) all0))
        refine Rch.st (fun _ hr => XS.iload X402.here hx rfl (hb hby at_241) rfl hr) ?_
        refine Rch.st (fun _ hr => XS.ifNo X402.here hx rfl (hb hby at_243) rfl ((if0 _ _).trans (teq hc401).2) hr) ?_
        refine Rch.st (fun _ hr => XS.lload X402.here hx rfl (hb hby at_246) rfl hr) ?_
        show Rch p.tables e below _ (T402.setTop (mkF m 248 #[.val (.int p0), .val (.int p1), .val (.int p2), .val (.int p3), .val (.int p4), .val (.int p5), .val (.ref b1), .val (.ref b64), .val (.int (p5 &&& (1 : Int32))), .val (.int ((p5 >>> ((1 : Int32) &&& 31)) &&& (1 : Int32))), .val (.int ((p5 >>> ((2 : Int32) &&& 31)) &&& (1 : Int32))), .val (.long (0 : Int64)), .second, .val (.long (((0 : Int64) + (p2.toInt64)) + (p3.toInt64))), .second, .val (.int (own_ov (p0.toInt64) (p1.toInt64))), .val (.int (1 : Int32)), .val (.int (own_ov (p0.toInt64) ((p1.toInt64) + (-(p2.toInt64))))), .val (.int (1 : Int32)), .unset, .unset] [(.long (0 : Int64))]))
        refine Rch.st (fun _ hr => XS.iload X402.here hx rfl (hb hby at_248) rfl hr) ?_
        refine Rch.st (fun _ hr => XS.i2l X402.here hx rfl (hb hby at_250) rfl hr) ?_
        refine Rch.st (fun _ hr => XS.ladd X402.here hx rfl (hb hby at_251) rfl hr) ?_
        refine Rch.st (fun _ hr => XS.lstore X402.here hx rfl (hb hby at_252) rfl (l' := #[.val (.int p0), .val (.int p1), .val (.int p2), .val (.int p3), .val (.int p4), .val (.int p5), .val (.ref b1), .val (.ref b64), .val (.int (p5 &&& (1 : Int32))), .val (.int ((p5 >>> ((1 : Int32) &&& 31)) &&& (1 : Int32))), .val (.int ((p5 >>> ((2 : Int32) &&& 31)) &&& (1 : Int32))), .val (.long ((0 : Int64) + (p4.toInt64))), .second, .val (.long (((0 : Int64) + (p2.toInt64)) + (p3.toInt64))), .second, .val (.int (own_ov (p0.toInt64) (p1.toInt64))), .val (.int (1 : Int32)), .val (.int (own_ov (p0.toInt64) ((p1.toInt64) + (-(p2.toInt64))))), .val (.int (1 : Int32)), .unset, .unset]) rfl hr) ?_
        show Rch p.tables e below _ (T402.setTop (mkF m 254 #[.val (.int p0), .val (.int p1), .val (.int p2), .val (.int p3), .val (.int p4), .val (.int p5), .val (.ref b1), .val (.ref b64), .val (.int (p5 &&& (1 : Int32))), .val (.int ((p5 >>> ((1 : Int32) &&& 31)) &&& (1 : Int32))), .val (.int ((p5 >>> ((2 : Int32) &&& 31)) &&& (1 : Int32))), .val (.long ((0 : Int64) + (p4.toInt64))), .second, .val (.long (((0 : Int64) + (p2.toInt64)) + (p3.toInt64))), .second, .val (.int (own_ov (p0.toInt64) (p1.toInt64))), .val (.int (1 : Int32)), .val (.int (own_ov (p0.toInt64) ((p1.toInt64) + (-(p2.toInt64))))), .val (.int (1 : Int32)), .unset, .unset] []))
        refine Rch.st (fun _ hr => XS.goto X402.here hx rfl (pc0 := 254) (pc' := 265) rfl (hb hby at_254) (by decide) (by decide) hr) ?_
        refine Rch.st (fun _ hr => XS.aload X402.here hx rfl (hb hby at_265) rfl rfl hr) ?_
        have f422 : Exa Z T402.heap b64 "com/example/slotwright/slotwright/Ledger" := (f403.keep Kp402)
        have f423 : Fld Z T402.heap b64 "com/example/slotwright/slotwright/Ledger" "remaining" "[Ljava/math/BigDecimal;" (.ref rm_76) := (f406.keep Kp402 (ninS ne97 (ninS ne104 nin0)))
        have f424 : BDc Z T402.heap t2_381 (((p1.toInt64) + (-(p2.toInt64))) + (-(p3.toInt64))) (0 : Int32) := (f414.keep Kp402 (ninS ne415 (ninS ne418 nin0)))
        obtain ⟨_, T421, Lc421, X421, hQ421, st421⟩ := own_callV X402 hx hZ40 (y := (⟨"com/example/slotwright/slotwright/Ledger", "overspent", "()I"⟩ : MethodName)) (z := (⟨"com/example/slotwright/slotwright/Ledger", "overspent", "()I"⟩ : MethodName)) hown40 (own_w hw 148 rfl) (own_w hw 149 rfl) (notFace_of_selects (args := #[]) (mvT hZ40 (own_w hw 151 rfl))) (own_w hw 151 rfl) (own_w hw 150 rfl) (own_w hw 93 rfl) (own_w hw 152 rfl) (by decide) (W := 0) (cover l Z a0 hw [] b64 rm_76 kr_76 t2_402 t2_381 ((p0.toInt64) + (-(p4.toInt64))) (((p1.toInt64) + (-(p2.toInt64))) + (-(p3.toInt64))) T402.heap n0 f423 R402_1 R402_3 f424 (Bk.ne kr404 (by decide)) (Bk.ne kr383 (by decide))) (by decide) (by decide) rfl f422 (by decide) (by decide) (g := (mkF m 267 #[.val (.int p0), .val (.int p1), .val (.int p2), .val (.int p3), .val (.int p4), .val (.int p5), .val (.ref b1), .val (.ref b64), .val (.int (p5 &&& (1 : Int32))), .val (.int ((p5 >>> ((1 : Int32) &&& 31)) &&& (1 : Int32))), .val (.int ((p5 >>> ((2 : Int32) &&& 31)) &&& (1 : Int32))), .val (.long ((0 : Int64) + (p4.toInt64))), .second, .val (.long (((0 : Int64) + (p2.toInt64)) + (p3.toInt64))), .second, .val (.int (own_ov (p0.toInt64) (p1.toInt64))), .val (.int (1 : Int32)), .val (.int (own_ov (p0.toInt64) ((p1.toInt64) + (-(p2.toInt64))))), .val (.int (1 : Int32)), .unset, .unset] [(.ref b64)])) rfl (by rw [hml]; rfl) (argsL := []) (rest := []) (lenOf pd_14 rfl) rfl (by show 2 * 0 + _ ≤ _; exact Nat.le_of_eq rfl) (hb hby at_267) rfl
        obtain ⟨rfl, N421q, e421⟩ := hQ421
        have N421 := Fr.app N402 N421q
        refine Rch.st st421 ?_
        refine Rch.st (fun _ hr => XS.istore X421.here hx rfl (hb hby at_270) rfl (l' := #[.val (.int p0), .val (.int p1), .val (.int p2), .val (.int p3), .val (.int p4), .val (.int p5), .val (.ref b1), .val (.ref b64), .val (.int (p5 &&& (1 : Int32))), .val (.int ((p5 >>> ((1 : Int32) &&& 31)) &&& (1 : Int32))), .val (.int ((p5 >>> ((2 : Int32) &&& 31)) &&& (1 : Int32))), .val (.long ((0 : Int64) + (p4.toInt64))), .second, .val (.long (((0 : Int64) + (p2.toInt64)) + (p3.toInt64))), .second, .val (.int (own_ov (p0.toInt64) (p1.toInt64))), .val (.int (1 : Int32)), .val (.int (own_ov (p0.toInt64) ((p1.toInt64) + (-(p2.toInt64))))), .val (.int (1 : Int32)), .val (.int (own_ov ((p0.toInt64) + (-(p4.toInt64))) (((p1.toInt64) + (-(p2.toInt64))) + (-(p3.toInt64))))), .unset]) rfl hr) ?_
        show Rch p.tables e below _ (T421.setTop (mkF m 272 #[.val (.int p0), .val (.int p1), .val (.int p2), .val (.int p3), .val (.int p4), .val (.int p5), .val (.ref b1), .val (.ref b64), .val (.int (p5 &&& (1 : Int32))), .val (.int ((p5 >>> ((1 : Int32) &&& 31)) &&& (1 : Int32))), .val (.int ((p5 >>> ((2 : Int32) &&& 31)) &&& (1 : Int32))), .val (.long ((0 : Int64) + (p4.toInt64))), .second, .val (.long (((0 : Int64) + (p2.toInt64)) + (p3.toInt64))), .second, .val (.int (own_ov (p0.toInt64) (p1.toInt64))), .val (.int (1 : Int32)), .val (.int (own_ov (p0.toInt64) ((p1.toInt64) + (-(p2.toInt64))))), .val (.int (1 : Int32)), .val (.int (own_ov ((p0.toInt64) + (-(p4.toInt64))) (((p1.toInt64) + (-(p2.toInt64))) + (-(p3.toInt64))))), .unset] []))
        refine Rch.st (fun _ hr => XS.iload X421.here hx rfl (hb hby at_272) rfl hr) ?_
        refine Rch.st (fun _ hr => XS.lload X421.here hx rfl (hb hby at_274) rfl hr) ?_
        refine Rch.st (fun _ hr => XS.iloadN X421.here hx rfl (hb hby at_276) rfl hr) ?_
        refine Rch.st (fun _ hr => XS.i2l X421.here hx rfl (hb hby at_277) rfl hr) ?_
        show Rch p.tables e below _ (T421.setTop (mkF m 278 #[.val (.int p0), .val (.int p1), .val (.int p2), .val (.int p3), .val (.int p4), .val (.int p5), .val (.ref b1), .val (.ref b64), .val (.int (p5 &&& (1 : Int32))), .val (.int ((p5 >>> ((1 : Int32) &&& 31)) &&& (1 : Int32))), .val (.int ((p5 >>> ((2 : Int32) &&& 31)) &&& (1 : Int32))), .val (.long ((0 : Int64) + (p4.toInt64))), .second, .val (.long (((0 : Int64) + (p2.toInt64)) + (p3.toInt64))), .second, .val (.int (own_ov (p0.toInt64) (p1.toInt64))), .val (.int (1 : Int32)), .val (.int (own_ov (p0.toInt64) ((p1.toInt64) + (-(p2.toInt64))))), .val (.int (1 : Int32)), .val (.int (own_ov ((p0.toInt64) + (-(p4.toInt64))) (((p1.toInt64) + (-(p2.toInt64))) + (-(p3.toInt64))))), .unset] [(.long (p0.toInt64)), (.long ((0 : Int64) + (p4.toInt64))), (.int (own_ov ((p0.toInt64) + (-(p4.toInt64))) (((p1.toInt64) + (-(p2.toInt64))) + (-(p3.toInt64)))))]))
        obtain ⟨_, T425, Lc425, X425, hQ425, st425⟩ := own_callS X421 hx hZ40 (y := (⟨"com/example/slotwright/slotwright/LedgerOverspentPinLaw", "over", "(JJ)I"⟩ : MethodName)) hown40 (own_w hw 165 rfl) (own_w hw 166 rfl) (own_w hw 167 rfl) (own_w hw 168 rfl) (by decide) (W := 1) (cov l Z a0 hw [] ((0 : Int64) + (p4.toInt64)) (p0.toInt64) T402.heap n0 ) (by decide) (by decide) e421 (by decide) (by decide) (g := (mkF m 278 #[.val (.int p0), .val (.int p1), .val (.int p2), .val (.int p3), .val (.int p4), .val (.int p5), .val (.ref b1), .val (.ref b64), .val (.int (p5 &&& (1 : Int32))), .val (.int ((p5 >>> ((1 : Int32) &&& 31)) &&& (1 : Int32))), .val (.int ((p5 >>> ((2 : Int32) &&& 31)) &&& (1 : Int32))), .val (.long ((0 : Int64) + (p4.toInt64))), .second, .val (.long (((0 : Int64) + (p2.toInt64)) + (p3.toInt64))), .second, .val (.int (own_ov (p0.toInt64) (p1.toInt64))), .val (.int (1 : Int32)), .val (.int (own_ov (p0.toInt64) ((p1.toInt64) + (-(p2.toInt64))))), .val (.int (1 : Int32)), .val (.int (own_ov ((p0.toInt64) + (-(p4.toInt64))) (((p1.toInt64) + (-(p2.toInt64))) + (-(p3.toInt64))))), .unset] [(.long (p0.toInt64)), (.long ((0 : Int64) + (p4.toInt64))), (.int (own_ov ((p0.toInt64) + (-(p4.toInt64))) (((p1.toInt64) + (-(p2.toInt64))) + (-(p3.toInt64)))))])) rfl (by rw [hml]; rfl) (argsL := [(.long ((0 : Int64) + (p4.toInt64))), (.long (p0.toInt64))]) (rest := [(.int (own_ov ((p0.toInt64) + (-(p4.toInt64))) (((p1.toInt64) + (-(p2.toInt64))) + (-(p3.toInt64)))))]) (lenOf pd_21 rfl) rfl (by show 2 * 0 + _ ≤ _; exact Nat.le_of_eq rfl) (hb hby at_278) rfl
        obtain ⟨rfl, N425q, e425⟩ := hQ425
        have N425 := Fr.app N421 N425q
        refine Rch.st st425 ?_
        refine Rch.st (fun _ hr => XS.lload X425.here hx rfl (hb hby at_281) rfl hr) ?_
        refine Rch.st (fun _ hr => XS.iloadN X425.here hx rfl (hb hby at_283) rfl hr) ?_
        refine Rch.st (fun _ hr => XS.i2l X425.here hx rfl (hb hby at_284) rfl hr) ?_
        show Rch p.tables e below _ (T425.setTop (mkF m 285 #[.val (.int p0), .val (.int p1), .val (.int p2), .val (.int p3), .val (.int p4), .val (.int p5), .val (.ref b1), .val (.ref b64), .val (.int (p5 &&& (1 : Int32))), .val (.int ((p5 >>> ((1 : Int32) &&& 31)) &&& (1 : Int32))), .val (.int ((p5 >>> ((2 : Int32) &&& 31)) &&& (1 : Int32))), .val (.long ((0 : Int64) + (p4.toInt64))), .second, .val (.long (((0 : Int64) + (p2.toInt64)) + (p3.toInt64))), .second, .val (.int (own_ov (p0.toInt64) (p1.toInt64))), .val (.int (1 : Int32)), .val (.int (own_ov (p0.toInt64) ((p1.toInt64) + (-(p2.toInt64))))), .val (.int (1 : Int32)), .val (.int (own_ov ((p0.toInt64) + (-(p4.toInt64))) (((p1.toInt64) + (-(p2.toInt64))) + (-(p3.toInt64))))), .unset] [(.long (p1.toInt64)), (.long (((0 : Int64) + (p2.toInt64)) + (p3.toInt64))), (.int (own_over ((0 : Int64) + (p4.toInt64)) (p0.toInt64))), (.int (own_ov ((p0.toInt64) + (-(p4.toInt64))) (((p1.toInt64) + (-(p2.toInt64))) + (-(p3.toInt64)))))]))
        obtain ⟨_, T426, Lc426, X426, hQ426, st426⟩ := own_callS X425 hx hZ40 (y := (⟨"com/example/slotwright/slotwright/LedgerOverspentPinLaw", "over", "(JJ)I"⟩ : MethodName)) hown40 (own_w hw 165 rfl) (own_w hw 166 rfl) (own_w hw 167 rfl) (own_w hw 168 rfl) (by decide) (W := 2) (cov l Z a0 hw [] (((0 : Int64) + (p2.toInt64)) + (p3.toInt64)) (p1.toInt64) T402.heap n0 ) (by decide) (by decide) e425 (by decide) (by decide) (g := (mkF m 285 #[.val (.int p0), .val (.int p1), .val (.int p2), .val (.int p3), .val (.int p4), .val (.int p5), .val (.ref b1), .val (.ref b64), .val (.int (p5 &&& (1 : Int32))), .val (.int ((p5 >>> ((1 : Int32) &&& 31)) &&& (1 : Int32))), .val (.int ((p5 >>> ((2 : Int32) &&& 31)) &&& (1 : Int32))), .val (.long ((0 : Int64) + (p4.toInt64))), .second, .val (.long (((0 : Int64) + (p2.toInt64)) + (p3.toInt64))), .second, .val (.int (own_ov (p0.toInt64) (p1.toInt64))), .val (.int (1 : Int32)), .val (.int (own_ov (p0.toInt64) ((p1.toInt64) + (-(p2.toInt64))))), .val (.int (1 : Int32)), .val (.int (own_ov ((p0.toInt64) + (-(p4.toInt64))) (((p1.toInt64) + (-(p2.toInt64))) + (-(p3.toInt64))))), .unset] [(.long (p1.toInt64)), (.long (((0 : Int64) + (p2.toInt64)) + (p3.toInt64))), (.int (own_over ((0 : Int64) + (p4.toInt64)) (p0.toInt64))), (.int (own_ov ((p0.toInt64) + (-(p4.toInt64))) (((p1.toInt64) + (-(p2.toInt64))) + (-(p3.toInt64)))))])) rfl (by rw [hml]; rfl) (argsL := [(.long (((0 : Int64) + (p2.toInt64)) + (p3.toInt64))), (.long (p1.toInt64))]) (rest := [(.int (own_over ((0 : Int64) + (p4.toInt64)) (p0.toInt64))), (.int (own_ov ((p0.toInt64) + (-(p4.toInt64))) (((p1.toInt64) + (-(p2.toInt64))) + (-(p3.toInt64)))))]) (lenOf pd_21 rfl) rfl (by show 2 * 0 + _ ≤ _; exact Nat.le_of_eq rfl) (hb hby at_285) rfl
        obtain ⟨rfl, N426q, e426⟩ := hQ426
        have N426 := Fr.app N425 N426q
        refine Rch.st st426 ?_
        refine Rch.st (fun _ hr => XS.iadd X426.here hx rfl (hb hby at_288) rfl hr) ?_
        have hk427 : (own_ov ((p0.toInt64) + (-(p4.toInt64))) (((p1.toInt64) + (-(p2.toInt64))) + (-(p3.toInt64)))) = ((own_over ((0 : Int64) + (p4.toInt64)) (p0.toInt64)) + (own_over (((0 : Int64) + (p2.toInt64)) + (p3.toInt64)) (p1.toInt64))) := own_cmp iv404 iv383
        refine Rch.st (fun _ hr => XS.icmpNo X426.here hx rfl (hb hby at_289) rfl (teq hk427).2 hr) ?_
        refine Rch.st (fun _ hr => XS.iconst X426.here hx rfl (hb hby at_292) hr) ?_
        show Rch p.tables e below _ (T426.setTop (mkF m 293 #[.val (.int p0), .val (.int p1), .val (.int p2), .val (.int p3), .val (.int p4), .val (.int p5), .val (.ref b1), .val (.ref b64), .val (.int (p5 &&& (1 : Int32))), .val (.int ((p5 >>> ((1 : Int32) &&& 31)) &&& (1 : Int32))), .val (.int ((p5 >>> ((2 : Int32) &&& 31)) &&& (1 : Int32))), .val (.long ((0 : Int64) + (p4.toInt64))), .second, .val (.long (((0 : Int64) + (p2.toInt64)) + (p3.toInt64))), .second, .val (.int (own_ov (p0.toInt64) (p1.toInt64))), .val (.int (1 : Int32)), .val (.int (own_ov (p0.toInt64) ((p1.toInt64) + (-(p2.toInt64))))), .val (.int (1 : Int32)), .val (.int (own_ov ((p0.toInt64) + (-(p4.toInt64))) (((p1.toInt64) + (-(p2.toInt64))) + (-(p3.toInt64))))), .unset] [(.int (1 : Int32))]))
        refine Rch.st (fun _ hr => XS.goto X426.here hx rfl (pc0 := 293) (pc' := 297) rfl (hb hby at_293) (by decide) (by decide) hr) ?_
        refine Rch.st (fun _ hr => XS.istore X426.here hx rfl (hb hby at_297) rfl (l' := #[.val (.int p0), .val (.int p1), .val (.int p2), .val (.int p3), .val (.int p4), .val (.int p5), .val (.ref b1), .val (.ref b64), .val (.int (p5 &&& (1 : Int32))), .val (.int ((p5 >>> ((1 : Int32) &&& 31)) &&& (1 : Int32))), .val (.int ((p5 >>> ((2 : Int32) &&& 31)) &&& (1 : Int32))), .val (.long ((0 : Int64) + (p4.toInt64))), .second, .val (.long (((0 : Int64) + (p2.toInt64)) + (p3.toInt64))), .second, .val (.int (own_ov (p0.toInt64) (p1.toInt64))), .val (.int (1 : Int32)), .val (.int (own_ov (p0.toInt64) ((p1.toInt64) + (-(p2.toInt64))))), .val (.int (1 : Int32)), .val (.int (own_ov ((p0.toInt64) + (-(p4.toInt64))) (((p1.toInt64) + (-(p2.toInt64))) + (-(p3.toInt64))))), .val (.int (1 : Int32))]) rfl hr) ?_
        refine Rch.st (fun _ hr => XS.iload X426.here hx rfl (hb hby at_299) rfl hr) ?_
        refine Rch.st (fun _ hr => XS.ifNo X426.here hx rfl (hb hby at_301) rfl ((if0 _ _).trans (feq (by decide : ¬ ((1 : Int32) = (0 : Int32)))).1) hr) ?_
        show Rch p.tables e below _ (T426.setTop (mkF m 304 #[.val (.int p0), .val (.int p1), .val (.int p2), .val (.int p3), .val (.int p4), .val (.int p5), .val (.ref b1), .val (.ref b64), .val (.int (p5 &&& (1 : Int32))), .val (.int ((p5 >>> ((1 : Int32) &&& 31)) &&& (1 : Int32))), .val (.int ((p5 >>> ((2 : Int32) &&& 31)) &&& (1 : Int32))), .val (.long ((0 : Int64) + (p4.toInt64))), .second, .val (.long (((0 : Int64) + (p2.toInt64)) + (p3.toInt64))), .second, .val (.int (own_ov (p0.toInt64) (p1.toInt64))), .val (.int (1 : Int32)), .val (.int (own_ov (p0.toInt64) ((p1.toInt64) + (-(p2.toInt64))))), .val (.int (1 : Int32)), .val (.int (own_ov ((p0.toInt64) + (-(p4.toInt64))) (((p1.toInt64) + (-(p2.toInt64))) + (-(p3.toInt64))))), .val (.int (1 : Int32))] []))
        refine Rch.st (fun _ hr => XS.iload X426.here hx rfl (hb hby at_304) rfl hr) ?_
        refine Rch.st (fun _ hr => XS.ifNo X426.here hx rfl (hb hby at_306) rfl ((if0 _ _).trans (feq (by decide : ¬ ((1 : Int32) = (0 : Int32)))).1) hr) ?_
        refine Rch.st (fun _ hr => XS.iload X426.here hx rfl (hb hby at_309) rfl hr) ?_
        refine Rch.st (fun _ hr => XS.ifNo X426.here hx rfl (hb hby at_311) rfl ((if0 _ _).trans (feq (by decide : ¬ ((1 : Int32) = (0 : Int32)))).1) hr) ?_
        show Rch p.tables e below _ (T426.setTop (mkF m 314 #[.val (.int p0), .val (.int p1), .val (.int p2), .val (.int p3), .val (.int p4), .val (.int p5), .val (.ref b1), .val (.ref b64), .val (.int (p5 &&& (1 : Int32))), .val (.int ((p5 >>> ((1 : Int32) &&& 31)) &&& (1 : Int32))), .val (.int ((p5 >>> ((2 : Int32) &&& 31)) &&& (1 : Int32))), .val (.long ((0 : Int64) + (p4.toInt64))), .second, .val (.long (((0 : Int64) + (p2.toInt64)) + (p3.toInt64))), .second, .val (.int (own_ov (p0.toInt64) (p1.toInt64))), .val (.int (1 : Int32)), .val (.int (own_ov (p0.toInt64) ((p1.toInt64) + (-(p2.toInt64))))), .val (.int (1 : Int32)), .val (.int (own_ov ((p0.toInt64) + (-(p4.toInt64))) (((p1.toInt64) + (-(p2.toInt64))) + (-(p3.toInt64))))), .val (.int (1 : Int32))] []))
        refine Rch.st (fun _ hr => XS.iconst X426.here hx rfl (hb hby at_314) hr) ?_
        refine Rch.st (fun _ hr => XS.goto X426.here hx rfl (pc0 := 315) (pc' := 319) rfl (hb hby at_315) (by decide) (by decide) hr) ?_
        obtain ⟨fs, hr, hrun, hended, hREW⟩ := Jvm.Stand.leaveW (s := s) X426 hS40 (by rw [e426]; exact (Nat.le_trans (Nat.le_trans (Nat.le_trans (Nat.le_trans (Nat.le_trans (Nat.le_trans (Nat.le_trans (Nat.le_trans (Nat.le_trans (Nat.le_trans (Nat.le_trans hk40 Kp43.1) Kp46.1) Kp52.1) E64.1) Kp76.1) Kp112.1) Kp284.1) Kp304.1) Kp381.1) Kp399.1) Kp402.1)) (v := some (.int (1 : Int32))) (fun h => by rw [Bd.returns] at h; cases h)
        refine Rch.fin (u := T426.setFrames fs) (retN X426 hx (t := .boolean) Bd.returns (by simp) (hb hby at_319) hr) ⟨_, hrun, hended, _, _, rfl, ?_, hREW.1, hREW.2.1, hREW.2.2.1, hREW.2.2.2.mono (by decide) (by decide)⟩
        show Q_claw Z p0 p1 p2 p3 p4 p5 wz de kde zz h0 n0 _ T426.heap _
        rw [e426]
        exact ⟨rfl, N426, K420, Op402⟩
      · show Rch p.tables e below _ (T399.setTop (mkF m 238 #[.val (.int p0), .val (.int p1), .val (.int p2), .val (.int p3), .val (.int p4), .val (.int p5), .val (.ref b1), .val (.ref b64), .val (.int (p5 &&& (1 : Int32))), .val (.int ((p5 >>> ((1 : Int32) &&& 31)) &&& (1 : Int32))), .val (.int ((p5 >>> ((2 : Int32) &&& 31)) &&& (1 : Int32))), .val (.long (0 : Int64)), .second, .val (.long (((0 : Int64) + (p2.toInt64)) + (p3.toInt64))), .second, .val (.int (own_ov (p0.toInt64) (p1.toInt64))), .val (.int (1 : Int32)), .val (.int (own_ov (p0.toInt64) ((p1.toInt64) + (-(p2.toInt64))))), .val (.int (1 : Int32)), .unset, .unset] [(.ref r_399), (.int ((p5 >>> ((2 : Int32) &&& 31)) &&& (1 : Int32))), (.ref b64)]))
        have f429 : Exa Z T399.heap b64 "com/example/slotwright/slotwright/Ledger" := ((f382.keep Kp381).keep Kp399)
        have hone430 : ((p5 >>> ((2 : Int32) &&& 31)) &&& (1 : Int32)) = (1 : Int32) := (and_one _).resolve_left hc401
        obtain ⟨ts430, ks430⟩ := Bk.add ks383 (Bk.i2l p4) (by decide)
        obtain ⟨tn430, kn430⟩ := Bk.neg (Bk.i2l p4) (by decide)
        obtain ⟨tr430, kr430⟩ := Bk.add kr383 kn430 (by decide)
        have iv430 := own_inv iv383 ts430 tn430 tr430
        have f431 : Fld Z T399.heap b64 "com/example/slotwright/slotwright/Ledger" "spent" "[Ljava/math/BigDecimal;" (.ref sp_76) := ((f384.keep Kp381 (ninS ne97 (ninS ne104 nin0))).keep Kp399 nin0)
        have f432 : Fld Z T399.heap b64 "com/example/slotwright/slotwright/Ledger" "remaining" "[Ljava/math/BigDecimal;" (.ref rm_76) := ((f385.keep Kp381 (ninS ne97 (ninS ne104 nin0))).keep Kp399 nin0)
        have f433 : Arv Z T399.heap sp_76 ks_76 (.object "java/math/BigDecimal") (2 : Int32) [(.ref zz), (.ref t1_381)] .null := (R381_0.keep Kp399 nin0)
        have f434 : Arv Z T399.heap rm_76 kr_76 (.object "java/math/BigDecimal") (2 : Int32) [(.ref r_12), (.ref t2_381)] .null := (R381_1.keep Kp399 nin0)
        have f435 : Ovr Z ks_76 "java/math/BigDecimal" := f388
        have f436 : Ovr Z kr_76 "java/math/BigDecimal" := f389
        have f437 : BDc Z T399.heap t1_381 (((0 : Int64) + (p2.toInt64)) + (p3.toInt64)) (0 : Int32) := (R381_2.keep Kp399 nin0)
        have f438 : BDc Z T399.heap t2_381 (((p1.toInt64) + (-(p2.toInt64))) + (-(p3.toInt64))) (0 : Int32) := (R381_3.keep Kp399 nin0)
        obtain ⟨_, T428, Lc428, X428, hQ428, st428⟩ := own_callV X399 hx hZ40 (y := (⟨"com/example/slotwright/slotwright/Ledger", "charge", "(ILjava/math/BigDecimal;)V"⟩ : MethodName)) (z := (⟨"com/example/slotwright/slotwright/Ledger", "charge", "(ILjava/math/BigDecimal;)V"⟩ : MethodName)) hown40 (own_w hw 169 rfl) (own_w hw 170 rfl) (notFace_of_selects (args := #[]) (mvT hZ40 (own_w hw 172 rfl))) (own_w hw 172 rfl) (own_w hw 171 rfl) (own_w hw 93 rfl) (own_w hw 173 rfl) (by decide) (W := 0) (ccharge1 l Z a0 hw [] b64 r_399 sp_76 ks_76 rm_76 kr_76 zz t1_381 r_12 t2_381 (((0 : Int64) + (p2.toInt64)) + (p3.toInt64)) (((p1.toInt64) + (-(p2.toInt64))) + (-(p3.toInt64))) (p4.toInt64) wz T399.heap n0 zD0 zD1 Op399 f429 f431 f432 f433 f434 f435 f436 f437 f438 R399_0 g_sp_76 g_rm_76 R76_9 (Bk.ne ks383 (by decide)) (Bk.ne kr383 (by decide)) (Bk.ne (Bk.i2l p4) (by decide)) (own_noflow ks383 (Bk.i2l p4) (by decide)) (Bk.ne ks430 (by decide)) (own_noflow kr383 kn430 (by decide)) (Bk.ne kr430 (by decide))) (by decide) (by decide) rfl f429 (by decide) (by decide) (g := (mkF m 238 #[.val (.int p0), .val (.int p1), .val (.int p2), .val (.int p3), .val (.int p4), .val (.int p5), .val (.ref b1), .val (.ref b64), .val (.int (p5 &&& (1 : Int32))), .val (.int ((p5 >>> ((1 : Int32) &&& 31)) &&& (1 : Int32))), .val (.int ((p5 >>> ((2 : Int32) &&& 31)) &&& (1 : Int32))), .val (.long (0 : Int64)), .second, .val (.long (((0 : Int64) + (p2.toInt64)) + (p3.toInt64))), .second, .val (.int (own_ov (p0.toInt64) (p1.toInt64))), .val (.int (1 : Int32)), .val (.int (own_ov (p0.toInt64) ((p1.toInt64) + (-(p2.toInt64))))), .val (.int (1 : Int32)), .unset, .unset] [(.ref r_399), (.int ((p5 >>> ((2 : Int32) &&& 31)) &&& (1 : Int32))), (.ref b64)])) rfl (by rw [hml]; rfl) (argsL := [(.int ((p5 >>> ((2 : Int32) &&& 31)) &&& (1 : Int32))), (.ref r_399)]) (rest := []) (lenOf pd_22 rfl) rfl (by show 2 * 0 + _ ≤ _; exact Nat.le_of_eq rfl) (hb hby at_238) (by rw [hone430])
        obtain ⟨t1_428, t2_428, rfl, N428q, Kp428, Op428, R428_0, R428_1, R428_2, R428_3⟩ := hQ428
        have N428 := Fr.app N399 N428q
        refine Rch.st st428 ?_
        have ne439 : t1_381 ≠ sp_76 := (Exa.neArv f437.1 f433 (own_w hw 200 rfl))
        have ne440 : t2_381 ≠ sp_76 := (Exa.neArv f438.1 f433 (own_w hw 200 rfl))
        have ne441 : r_399 ≠ sp_76 := (Exa.neArv R399_0.1 f433 (own_w hw 200 rfl))
        have ne442 : t1_381 ≠ rm_76 := (Exa.neArv f437.1 f434 (own_w hw 200 rfl))
        have ne443 : t2_381 ≠ rm_76 := (Exa.neArv f438.1 f434 (own_w hw 200 rfl))
        have ne444 : r_399 ≠ rm_76 := (Exa.neArv R399_0.1 f434 (own_w hw 200 rfl))
        have K445 : Keep h0 T428.heap [] := K400.trans Kp428 (allS (Or.inr sz_sp_76) (allS (Or.inr sz_rm_76) all0))
        refine Rch.st (fun _ hr => XS.iload X428.here hx rfl (hb hby at_241) rfl hr) ?_
        refine Rch.st (fun _ hr => XS.ifYes X428.here hx rfl (pc0 := 243) (pc' := 257) rfl (hb hby at_243) rfl ((if0 _ _).trans (feq hc401).2) (by decide) (by decide) hr) ?_
        refine Rch.st (fun _ hr => XS.lload X428.here hx rfl (hb hby at_257) rfl hr) ?_
        show Rch p.tables e below _ (T428.setTop (mkF m 259 #[.val (.int p0), .val (.int p1), .val (.int p2), .val (.int p3), .val (.int p4), .val (.int p5), .val (.ref b1), .val (.ref b64), .val (.int (p5 &&& (1 : Int32))), .val (.int ((p5 >>> ((1 : Int32) &&& 31)) &&& (1 : Int32))), .val (.int ((p5 >>> ((2 : Int32) &&& 31)) &&& (1 : Int32))), .val (.long (0 : Int64)), .second, .val (.long (((0 : Int64) + (p2.toInt64)) + (p3.toInt64))), .second, .val (.int (own_ov (p0.toInt64) (p1.toInt64))), .val (.int (1 : Int32)), .val (.int (own_ov (p0.toInt64) ((p1.toInt64) + (-(p2.toInt64))))), .val (.int (1 : Int32)), .unset, .unset] [(.long (((0 : Int64) + (p2.toInt64)) + (p3.toInt64)))]))
        refine Rch.st (fun _ hr => XS.iload X428.here hx rfl (hb hby at_259) rfl hr) ?_
        refine Rch.st (fun _ hr => XS.i2l X428.here hx rfl (hb hby at_261) rfl hr) ?_
        refine Rch.st (fun _ hr => XS.ladd X428.here hx rfl (hb hby at_262) rfl hr) ?_
        refine Rch.st (fun _ hr => XS.lstore X428.here hx rfl (hb hby at_263) rfl (l' := #[.val (.int p0), .val (.int p1), .val (.int p2), .val (.int p3), .val (.int p4), .val (.int p5), .val (.ref b1), .val (.ref b64), .val (.int (p5 &&& (1 : Int32))), .val (.int ((p5 >>> ((1 : Int32) &&& 31)) &&& (1 : Int32))), .val (.int ((p5 >>> ((2 : Int32) &&& 31)) &&& (1 : Int32))), .val (.long (0 : Int64)), .second, .val (.long ((((0 : Int64) + (p2.toInt64)) + (p3.toInt64)) + (p4.toInt64))), .second, .val (.int (own_ov (p0.toInt64) (p1.toInt64))), .val (.int (1 : Int32)), .val (.int (own_ov (p0.toInt64) ((p1.toInt64) + (-(p2.toInt64))))), .val (.int (1 : Int32)), .unset, .unset]) rfl hr) ?_
        show Rch p.tables e below _ (T428.setTop (mkF m 265 #[.val (.int p0), .val (.int p1), .val (.int p2), .val (.int p3), .val (.int p4), .val (.int p5), .val (.ref b1), .val (.ref b64), .val (.int (p5 &&& (1 : Int32))), .val (.int ((p5 >>> ((1 : Int32) &&& 31)) &&& (1 : Int32))), .val (.int ((p5 >>> ((2 : Int32) &&& 31)) &&& (1 : Int32))), .val (.long (0 : Int64)), .second, .val (.long ((((0 : Int64) + (p2.toInt64)) + (p3.toInt64)) + (p4.toInt64))), .second, .val (.int (own_ov (p0.toInt64) (p1.toInt64))), .val (.int (1 : Int32)), .val (.int (own_ov (p0.toInt64) ((p1.toInt64) + (-(p2.toInt64))))), .val (.int (1 : Int32)), .unset, .unset] []))
        refine Rch.st (fun _ hr => XS.aload X428.here hx rfl (hb hby at_265) rfl rfl hr) ?_
        have f447 : Exa Z T428.heap b64 "com/example/slotwright/slotwright/Ledger" := (f429.keep Kp428)
        have f448 : Fld Z T428.heap b64 "com/example/slotwright/slotwright/Ledger" "remaining" "[Ljava/math/BigDecimal;" (.ref rm_76) := (f432.keep Kp428 (ninS ne97 (ninS ne104 nin0)))
        have f449 : BDc Z T428.heap r_12 (p0.toInt64) (0 : Int32) := ((((f300.keep Kp304 nin0).keep Kp381 (ninS ne92 (ninS ne100 nin0))).keep Kp399 nin0).keep Kp428 (ninS ne92 (ninS ne100 nin0)))
        obtain ⟨_, T446, Lc446, X446, hQ446, st446⟩ := own_callV X428 hx hZ40 (y := (⟨"com/example/slotwright/slotwright/Ledger", "overspent", "()I"⟩ : MethodName)) (z := (⟨"com/example/slotwright/slotwright/Ledger", "overspent", "()I"⟩ : MethodName)) hown40 (own_w hw 148 rfl) (own_w hw 149 rfl) (notFace_of_selects (args := #[]) (mvT hZ40 (own_w hw 151 rfl))) (own_w hw 151 rfl) (own_w hw 150 rfl) (own_w hw 93 rfl) (own_w hw 152 rfl) (by decide) (W := 0) (cover l Z a0 hw [] b64 rm_76 kr_76 r_12 t2_428 (p0.toInt64) ((((p1.toInt64) + (-(p2.toInt64))) + (-(p3.toInt64))) + (-(p4.toInt64))) T428.heap n0 f448 R428_1 f449 R428_3 (Bk.ne (Bk.i2l p0) (by decide)) (Bk.ne kr430 (by decide))) (by decide) (by decide) rfl f447 (by decide) (by decide) (g := (mkF m 267 #[.val (.int p0), .val (.int p1), .val (.int p2), .val (.int p3), .val (.int p4), .val (.int p5), .val (.ref b1), .val (.ref b64), .val (.int (p5 &&& (1 : Int32))), .val (.int ((p5 >>> ((1 : Int32) &&& 31)) &&& (1 : Int32))), .val (.int ((p5 >>> ((2 : Int32) &&& 31)) &&& (1 : Int32))), .val (.long (0 : Int64)), .second, .val (.long ((((0 : Int64) + (p2.toInt64)) + (p3.toInt64)) + (p4.toInt64))), .second, .val (.int (own_ov (p0.toInt64) (p1.toInt64))), .val (.int (1 : Int32)), .val (.int (own_ov (p0.toInt64) ((p1.toInt64) + (-(p2.toInt64))))), .val (.int (1 : Int32)), .unset, .unset] [(.ref b64)])) rfl (by rw [hml]; rfl) (argsL := []) (rest := []) (lenOf pd_14 rfl) rfl (by show 2 * 0 + _ ≤ _; exact Nat.le_of_eq rfl) (hb hby at_267) rfl
        obtain ⟨rfl, N446q, e446⟩ := hQ446
        have N446 := Fr.app N428 N446q
        refine Rch.st st446 ?_
        refine Rch.st (fun _ hr => XS.istore X446.here hx rfl (hb hby at_270) rfl (l' := #[.val (.int p0), .val (.int p1), .val (.int p2), .val (.int p3), .val (.int p4), .val (.int p5), .val (.ref b1), .val (.ref b64), .val (.int (p5 &&& (1 : Int32))), .val (.int ((p5 >>> ((1 : Int32) &&& 31)) &&& (1 : Int32))), .val (.int ((p5 >>> ((2 : Int32) &&& 31)) &&& (1 : Int32))), .val (.long (0 : Int64)), .second, .val (.long ((((0 : Int64) + (p2.toInt64)) + (p3.toInt64)) + (p4.toInt64))), .second, .val (.int (own_ov (p0.toInt64) (p1.toInt64))), .val (.int (1 : Int32)), .val (.int (own_ov (p0.toInt64) ((p1.toInt64) + (-(p2.toInt64))))), .val (.int (1 : Int32)), .val (.int (own_ov (p0.toInt64) ((((p1.toInt64) + (-(p2.toInt64))) + (-(p3.toInt64))) + (-(p4.toInt64))))), .unset]) rfl hr) ?_
        refine Rch.st (fun _ hr => XS.iload X446.here hx rfl (hb hby at_272) rfl hr) ?_
        show Rch p.tables e below _ (T446.setTop (mkF m 274 #[.val (.int p0), .val (.int p1), .val (.int p2), .val (.int p3), .val (.int p4), .val (.int p5), .val (.ref b1), .val (.ref b64), .val (.int (p5 &&& (1 : Int32))), .val (.int ((p5 >>> ((1 : Int32) &&& 31)) &&& (1 : Int32))), .val (.int ((p5 >>> ((2 : Int32) &&& 31)) &&& (1 : Int32))), .val (.long (0 : Int64)), .second, .val (.long ((((0 : Int64) + (p2.toInt64)) + (p3.toInt64)) + (p4.toInt64))), .second, .val (.int (own_ov (p0.toInt64) (p1.toInt64))), .val (.int (1 : Int32)), .val (.int (own_ov (p0.toInt64) ((p1.toInt64) + (-(p2.toInt64))))), .val (.int (1 : Int32)), .val (.int (own_ov (p0.toInt64) ((((p1.toInt64) + (-(p2.toInt64))) + (-(p3.toInt64))) + (-(p4.toInt64))))), .unset] [(.int (own_ov (p0.toInt64) ((((p1.toInt64) + (-(p2.toInt64))) + (-(p3.toInt64))) + (-(p4.toInt64)))))]))
        refine Rch.st (fun _ hr => XS.lload X446.here hx rfl (hb hby at_274) rfl hr) ?_
        refine Rch.st (fun _ hr => XS.iloadN X446.here hx rfl (hb hby at_276) rfl hr) ?_
        refine Rch.st (fun _ hr => XS.i2l X446.here hx rfl (hb hby at_277) rfl hr) ?_
        obtain ⟨_, T450, Lc450, X450, hQ450, st450⟩ := own_callS X446 hx hZ40 (y := (⟨"com/example/slotwright/slotwright/LedgerOverspentPinLaw", "over", "(JJ)I"⟩ : MethodName)) hown40 (own_w hw 165 rfl) (own_w hw 166 rfl) (own_w hw 167 rfl) (own_w hw 168 rfl) (by decide) (W := 1) (cov l Z a0 hw [] (0 : Int64) (p0.toInt64) T428.heap n0 ) (by decide) (by decide) e446 (by decide) (by decide) (g := (mkF m 278 #[.val (.int p0), .val (.int p1), .val (.int p2), .val (.int p3), .val (.int p4), .val (.int p5), .val (.ref b1), .val (.ref b64), .val (.int (p5 &&& (1 : Int32))), .val (.int ((p5 >>> ((1 : Int32) &&& 31)) &&& (1 : Int32))), .val (.int ((p5 >>> ((2 : Int32) &&& 31)) &&& (1 : Int32))), .val (.long (0 : Int64)), .second, .val (.long ((((0 : Int64) + (p2.toInt64)) + (p3.toInt64)) + (p4.toInt64))), .second, .val (.int (own_ov (p0.toInt64) (p1.toInt64))), .val (.int (1 : Int32)), .val (.int (own_ov (p0.toInt64) ((p1.toInt64) + (-(p2.toInt64))))), .val (.int (1 : Int32)), .val (.int (own_ov (p0.toInt64) ((((p1.toInt64) + (-(p2.toInt64))) + (-(p3.toInt64))) + (-(p4.toInt64))))), .unset] [(.long (p0.toInt64)), (.long (0 : Int64)), (.int (own_ov (p0.toInt64) ((((p1.toInt64) + (-(p2.toInt64))) + (-(p3.toInt64))) + (-(p4.toInt64)))))])) rfl (by rw [hml]; rfl) (argsL := [(.long (0 : Int64)), (.long (p0.toInt64))]) (rest := [(.int (own_ov (p0.toInt64) ((((p1.toInt64) + (-(p2.toInt64))) + (-(p3.toInt64))) + (-(p4.toInt64)))))]) (lenOf pd_21 rfl) rfl (by show 2 * 0 + _ ≤ _; exact Nat.le_of_eq rfl) (hb hby at_278) rfl
        obtain ⟨rfl, N450q, e450⟩ := hQ450
        have N450 := Fr.app N446 N450q
        refine Rch.st st450 ?_
        show Rch p.tables e below _ (T450.setTop (mkF m 281 #[.val (.int p0), .val (.int p1), .val (.int p2), .val (.int p3), .val (.int p4), .val (.int p5), .val (.ref b1), .val (.ref b64), .val (.int (p5 &&& (1 : Int32))), .val (.int ((p5 >>> ((1 : Int32) &&& 31)) &&& (1 : Int32))), .val (.int ((p5 >>> ((2 : Int32) &&& 31)) &&& (1 : Int32))), .val (.long (0 : Int64)), .second, .val (.long ((((0 : Int64) + (p2.toInt64)) + (p3.toInt64)) + (p4.toInt64))), .second, .val (.int (own_ov (p0.toInt64) (p1.toInt64))), .val (.int (1 : Int32)), .val (.int (own_ov (p0.toInt64) ((p1.toInt64) + (-(p2.toInt64))))), .val (.int (1 : Int32)), .val (.int (own_ov (p0.toInt64) ((((p1.toInt64) + (-(p2.toInt64))) + (-(p3.toInt64))) + (-(p4.toInt64))))), .unset] [(.int (own_over (0 : Int64) (p0.toInt64))), (.int (own_ov (p0.toInt64) ((((p1.toInt64) + (-(p2.toInt64))) + (-(p3.toInt64))) + (-(p4.toInt64)))))]))
        refine Rch.st (fun _ hr => XS.lload X450.here hx rfl (hb hby at_281) rfl hr) ?_
        refine Rch.st (fun _ hr => XS.iloadN X450.here hx rfl (hb hby at_283) rfl hr) ?_
        refine Rch.st (fun _ hr => XS.i2l X450.here hx rfl (hb hby at_284) rfl hr) ?_
        obtain ⟨_, T451, Lc451, X451, hQ451, st451⟩ := own_callS X450 hx hZ40 (y := (⟨"com/example/slotwright/slotwright/LedgerOverspentPinLaw", "over", "(JJ)I"⟩ : MethodName)) hown40 (own_w hw 165 rfl) (own_w hw 166 rfl) (own_w hw 167 rfl) (own_w hw 168 rfl) (by decide) (W := 2) (cov l Z a0 hw [] ((((0 : Int64) + (p2.toInt64)) + (p3.toInt64)) + (p4.toInt64)) (p1.toInt64) T428.heap n0 ) (by decide) (by decide) e450 (by decide) (by decide) (g := (mkF m 285 #[.val (.int p0), .val (.int p1), .val (.int p2), .val (.int p3), .val (.int p4), .val (.int p5), .val (.ref b1), .val (.ref b64), .val (.int (p5 &&& (1 : Int32))), .val (.int ((p5 >>> ((1 : Int32) &&& 31)) &&& (1 : Int32))), .val (.int ((p5 >>> ((2 : Int32) &&& 31)) &&& (1 : Int32))), .val (.long (0 : Int64)), .second, .val (.long ((((0 : Int64) + (p2.toInt64)) + (p3.toInt64)) + (p4.toInt64))), .second, .val (.int (own_ov (p0.toInt64) (p1.toInt64))), .val (.int (1 : Int32)), .val (.int (own_ov (p0.toInt64) ((p1.toInt64) + (-(p2.toInt64))))), .val (.int (1 : Int32)), .val (.int (own_ov (p0.toInt64) ((((p1.toInt64) + (-(p2.toInt64))) + (-(p3.toInt64))) + (-(p4.toInt64))))), .unset] [(.long (p1.toInt64)), (.long ((((0 : Int64) + (p2.toInt64)) + (p3.toInt64)) + (p4.toInt64))), (.int (own_over (0 : Int64) (p0.toInt64))), (.int (own_ov (p0.toInt64) ((((p1.toInt64) + (-(p2.toInt64))) + (-(p3.toInt64))) + (-(p4.toInt64)))))])) rfl (by rw [hml]; rfl) (argsL := [(.long ((((0 : Int64) + (p2.toInt64)) + (p3.toInt64)) + (p4.toInt64))), (.long (p1.toInt64))]) (rest := [(.int (own_over (0 : Int64) (p0.toInt64))), (.int (own_ov (p0.toInt64) ((((p1.toInt64) + (-(p2.toInt64))) + (-(p3.toInt64))) + (-(p4.toInt64)))))]) (lenOf pd_21 rfl) rfl (by show 2 * 0 + _ ≤ _; exact Nat.le_of_eq rfl) (hb hby at_285) rfl
        obtain ⟨rfl, N451q, e451⟩ := hQ451
        have N451 := Fr.app N450 N451q
        refine Rch.st st451 ?_
        show Rch p.tables e below _ (T451.setTop (mkF m 288 #[.val (.int p0), .val (.int p1), .val (.int p2), .val (.int p3), .val (.int p4), .val (.int p5), .val (.ref b1), .val (.ref b64), .val (.int (p5 &&& (1 : Int32))), .val (.int ((p5 >>> ((1 : Int32) &&& 31)) &&& (1 : Int32))), .val (.int ((p5 >>> ((2 : Int32) &&& 31)) &&& (1 : Int32))), .val (.long (0 : Int64)), .second, .val (.long ((((0 : Int64) + (p2.toInt64)) + (p3.toInt64)) + (p4.toInt64))), .second, .val (.int (own_ov (p0.toInt64) (p1.toInt64))), .val (.int (1 : Int32)), .val (.int (own_ov (p0.toInt64) ((p1.toInt64) + (-(p2.toInt64))))), .val (.int (1 : Int32)), .val (.int (own_ov (p0.toInt64) ((((p1.toInt64) + (-(p2.toInt64))) + (-(p3.toInt64))) + (-(p4.toInt64))))), .unset] [(.int (own_over ((((0 : Int64) + (p2.toInt64)) + (p3.toInt64)) + (p4.toInt64)) (p1.toInt64))), (.int (own_over (0 : Int64) (p0.toInt64))), (.int (own_ov (p0.toInt64) ((((p1.toInt64) + (-(p2.toInt64))) + (-(p3.toInt64))) + (-(p4.toInt64)))))]))
        refine Rch.st (fun _ hr => XS.iadd X451.here hx rfl (hb hby at_288) rfl hr) ?_
        have hk452 : (own_ov (p0.toInt64) ((((p1.toInt64) + (-(p2.toInt64))) + (-(p3.toInt64))) + (-(p4.toInt64)))) = ((own_over (0 : Int64) (p0.toInt64)) + (own_over ((((0 : Int64) + (p2.toInt64)) + (p3.toInt64)) + (p4.toInt64)) (p1.toInt64))) := own_cmp (own_inv0 (p0.toInt64)) iv430
        refine Rch.st (fun _ hr => XS.icmpNo X451.here hx rfl (hb hby at_289) rfl (teq hk452).2 hr) ?_
        refine Rch.st (fun _ hr => XS.iconst X451.here hx rfl (hb hby at_292) hr) ?_
        refine Rch.st (fun _ hr => XS.goto X451.here hx rfl (pc0 := 293) (pc' := 297) rfl (hb hby at_293) (by decide) (by decide) hr) ?_
        show Rch p.tables e below _ (T451.setTop (mkF m 297 #[.val (.int p0), .val (.int p1), .val (.int p2), .val (.int p3), .val (.int p4), .val (.int p5), .val (.ref b1), .val (.ref b64), .val (.int (p5 &&& (1 : Int32))), .val (.int ((p5 >>> ((1 : Int32) &&& 31)) &&& (1 : Int32))), .val (.int ((p5 >>> ((2 : Int32) &&& 31)) &&& (1 : Int32))), .val (.long (0 : Int64)), .second, .val (.long ((((0 : Int64) + (p2.toInt64)) + (p3.toInt64)) + (p4.toInt64))), .second, .val (.int (own_ov (p0.toInt64) (p1.toInt64))), .val (.int (1 : Int32)), .val (.int (own_ov (p0.toInt64) ((p1.toInt64) + (-(p2.toInt64))))), .val (.int (1 : Int32)), .val (.int (own_ov (p0.toInt64) ((((p1.toInt64) + (-(p2.toInt64))) + (-(p3.toInt64))) + (-(p4.toInt64))))), .unset] [(.int (1 : Int32))]))
        refine Rch.st (fun _ hr => XS.istore X451.here hx rfl (hb hby at_297) rfl (l' := #[.val (.int p0), .val (.int p1), .val (.int p2), .val (.int p3), .val (.int p4), .val (.int p5), .val (.ref b1), .val (.ref b64), .val (.int (p5 &&& (1 : Int32))), .val (.int ((p5 >>> ((1 : Int32) &&& 31)) &&& (1 : Int32))), .val (.int ((p5 >>> ((2 : Int32) &&& 31)) &&& (1 : Int32))), .val (.long (0 : Int64)), .second, .val (.long ((((0 : Int64) + (p2.toInt64)) + (p3.toInt64)) + (p4.toInt64))), .second, .val (.int (own_ov (p0.toInt64) (p1.toInt64))), .val (.int (1 : Int32)), .val (.int (own_ov (p0.toInt64) ((p1.toInt64) + (-(p2.toInt64))))), .val (.int (1 : Int32)), .val (.int (own_ov (p0.toInt64) ((((p1.toInt64) + (-(p2.toInt64))) + (-(p3.toInt64))) + (-(p4.toInt64))))), .val (.int (1 : Int32))]) rfl hr) ?_
        refine Rch.st (fun _ hr => XS.iload X451.here hx rfl (hb hby at_299) rfl hr) ?_
        refine Rch.st (fun _ hr => XS.ifNo X451.here hx rfl (hb hby at_301) rfl ((if0 _ _).trans (feq (by decide : ¬ ((1 : Int32) = (0 : Int32)))).1) hr) ?_
        refine Rch.st (fun _ hr => XS.iload X451.here hx rfl (hb hby at_304) rfl hr) ?_
        show Rch p.tables e below _ (T451.setTop (mkF m 306 #[.val (.int p0), .val (.int p1), .val (.int p2), .val (.int p3), .val (.int p4), .val (.int p5), .val (.ref b1), .val (.ref b64), .val (.int (p5 &&& (1 : Int32))), .val (.int ((p5 >>> ((1 : Int32) &&& 31)) &&& (1 : Int32))), .val (.int ((p5 >>> ((2 : Int32) &&& 31)) &&& (1 : Int32))), .val (.long (0 : Int64)), .second, .val (.long ((((0 : Int64) + (p2.toInt64)) + (p3.toInt64)) + (p4.toInt64))), .second, .val (.int (own_ov (p0.toInt64) (p1.toInt64))), .val (.int (1 : Int32)), .val (.int (own_ov (p0.toInt64) ((p1.toInt64) + (-(p2.toInt64))))), .val (.int (1 : Int32)), .val (.int (own_ov (p0.toInt64) ((((p1.toInt64) + (-(p2.toInt64))) + (-(p3.toInt64))) + (-(p4.toInt64))))), .val (.int (1 : Int32))] [(.int (1 : Int32))]))
        refine Rch.st (fun _ hr => XS.ifNo X451.here hx rfl (hb hby at_306) rfl ((if0 _ _).trans (feq (by decide : ¬ ((1 : Int32) = (0 : Int32)))).1) hr) ?_
        refine Rch.st (fun _ hr => XS.iload X451.here hx rfl (hb hby at_309) rfl hr) ?_
        refine Rch.st (fun _ hr => XS.ifNo X451.here hx rfl (hb hby at_311) rfl ((if0 _ _).trans (feq (by decide : ¬ ((1 : Int32) = (0 : Int32)))).1) hr) ?_
        refine Rch.st (fun _ hr => XS.iconst X451.here hx rfl (hb hby at_314) hr) ?_
        show Rch p.tables e below _ (T451.setTop (mkF m 315 #[.val (.int p0), .val (.int p1), .val (.int p2), .val (.int p3), .val (.int p4), .val (.int p5), .val (.ref b1), .val (.ref b64), .val (.int (p5 &&& (1 : Int32))), .val (.int ((p5 >>> ((1 : Int32) &&& 31)) &&& (1 : Int32))), .val (.int ((p5 >>> ((2 : Int32) &&& 31)) &&& (1 : Int32))), .val (.long (0 : Int64)), .second, .val (.long ((((0 : Int64) + (p2.toInt64)) + (p3.toInt64)) + (p4.toInt64))), .second, .val (.int (own_ov (p0.toInt64) (p1.toInt64))), .val (.int (1 : Int32)), .val (.int (own_ov (p0.toInt64) ((p1.toInt64) + (-(p2.toInt64))))), .val (.int (1 : Int32)), .val (.int (own_ov (p0.toInt64) ((((p1.toInt64) + (-(p2.toInt64))) + (-(p3.toInt64))) + (-(p4.toInt64))))), .val (.int (1 : Int32))] [(.int (1 : Int32))]))
        refine Rch.st (fun _ hr => XS.goto X451.here hx rfl (pc0 := 315) (pc' := 319) rfl (hb hby at_315) (by decide) (by decide) hr) ?_
        obtain ⟨fs, hr, hrun, hended, hREW⟩ := Jvm.Stand.leaveW (s := s) X451 hS40 (by rw [e451]; exact (Nat.le_trans (Nat.le_trans (Nat.le_trans (Nat.le_trans (Nat.le_trans (Nat.le_trans (Nat.le_trans (Nat.le_trans (Nat.le_trans (Nat.le_trans (Nat.le_trans hk40 Kp43.1) Kp46.1) Kp52.1) E64.1) Kp76.1) Kp112.1) Kp284.1) Kp304.1) Kp381.1) Kp399.1) Kp428.1)) (v := some (.int (1 : Int32))) (fun h => by rw [Bd.returns] at h; cases h)
        refine Rch.fin (u := T451.setFrames fs) (retN X451 hx (t := .boolean) Bd.returns (by simp) (hb hby at_319) hr) ⟨_, hrun, hended, _, _, rfl, ?_, hREW.1, hREW.2.1, hREW.2.2.1, hREW.2.2.2.mono (by decide) (by decide)⟩
        show Q_claw Z p0 p1 p2 p3 p4 p5 wz de kde zz h0 n0 _ T451.heap _
        rw [e451]
        exact ⟨rfl, N451, K445, Op428⟩
set_option maxRecDepth 65536 in
set_option maxHeartbeats 40000000 in
theorem comes_1 {Post : Tables → Env → Array Value → State → Outcome → State → Prop} (hpost : ∀ tb e args s v u, (limb_1_1.after args s (.returned v) u = true ∧ limb_1_2.after args s (.returned v) u = true ∧ True) → ReturnedEndW s (.returned v) u (Jvm.fieldLocs frame_1_writes args s ++ Jvm.arrayLocs frame_1_arrays args s ++ Jvm.staticLocs frame_1_statics s) 48 2304 → Post tb e args s (.returned v) u) :
    ArmFor flags0 classFile x code maxLocals ret World_1 tables_1 room_1 Calls_1 rest_1 Pre_1 Post := by
  intro l hfl _ _ p e ha hc hk s m args below hf hA hF happ hP
  obtain ⟨hcalls, hrest, hpre⟩ := hP
  obtain ⟨-, -, -, hnamed, -, -, -, hat⟩ := (Spec.applies_iff hf).mp happ
  obtain ⟨hg, hn⟩ := and_e (Cond.before_iff.mp (show (Jvm.Cond.and given_1 narrow_1).before args s = true from hpre))
  obtain ⟨g1, g2⟩ := and_e hg
  obtain ⟨g3, g4⟩ := and_e g2
  obtain ⟨g5, g6⟩ := and_e g4
  obtain ⟨g7, g8⟩ := and_e g6
  obtain ⟨g9, g10⟩ := and_e g8
  obtain ⟨g11, g12⟩ := and_e g10
  obtain ⟨v0, v1, v2, v3, v4, v5, rfl⟩ : ∃ v0 v1 v2 v3 v4 v5 : Value, args = #[v0, v1, v2, v3, v4, v5] := by
    have hs : args.size = 6 := by simpa [Cond.value, given_1] using g1
    obtain ⟨L⟩ := args
    match L, hs with
    | [v0, v1, v2, v3, v4, v5], _ => exact ⟨v0, v1, v2, v3, v4, v5, rfl⟩
  have hw := fun d (hd : d ∈ tables_1) => atoms_spec (ws := Jvm.Cond.code x code maxLocals ret :: tables_1) hat d (List.mem_cons_of_mem _ hd)
  have hfit : Fit s := fun {y c} hc i hi => by
    obtain ⟨ha, rfl⟩ := Array.getElem?_eq_some_iff.mp hc
    have q := List.all_eq_true.mp ((Array.all_eq_true_iff_forall_mem.mp hF) _ (Array.getElem_mem ha)) i (List.mem_range.mpr hi)
    simpa [Array.getElem?_eq_getElem hi] using q
  obtain ⟨hsets, hown0⟩ := atoms_of _ (rest_1_c_eq ▸ (show rest_1_c.before _ s = true from hrest))
  obtain ⟨i0, ei0⟩ := is_v g3
  obtain rfl : v0 = (.int i0) := Option.some.inj ei0
  obtain ⟨i1, ei1⟩ := is_v g5
  obtain rfl : v1 = (.int i1) := Option.some.inj ei1
  obtain ⟨i2, ei2⟩ := is_v g7
  obtain rfl : v2 = (.int i2) := Option.some.inj ei2
  obtain ⟨i3, ei3⟩ := is_v g9
  obtain rfl : v3 = (.int i3) := Option.some.inj ei3
  obtain ⟨i4, ei4⟩ := is_v g11
  obtain rfl : v4 = (.int i4) := Option.some.inj ei4
  obtain ⟨i5, ei5⟩ := is_v g12
  obtain rfl : v5 = (.int i5) := Option.some.inj ei5
  obtain ⟨de, ev_de⟩ := exa_v (Cond.before_iff.mp (own_w hsets 7 rfl))
  obtain ⟨cde, Ade⟩ := Arr.start ev_de (Cond.before_iff.mp (own_w hsets 6 rfl))
  obtain ⟨le1, le2⟩ := own_len ev_de Ade (own_eqInt (Cond.before_iff.mp (own_w hsets 8 rfl)))
  have D2 := Sta.start ev_de (Or.inr ⟨(own_w hw 2 rfl), (own_w hsets 2 rfl)⟩)
  obtain ⟨kde, hkde⟩ : ∃ z, z = cde.cls := ⟨_, rfl⟩
  have D3 : Arv s s.heap de kde (.object "java/lang/Object") (0 : Int32) [] .null := by rw [hkde]; exact Arv.start hfit Ade le1 le2 (by decide) rfl trivial
  obtain ⟨wz, ev_wz⟩ := exa_v (Cond.before_iff.mp (own_w hsets 28 rfl))
  obtain ⟨cz, Az⟩ := Arr.start ev_wz (Cond.before_iff.mp (own_w hsets 27 rfl))
  obtain ⟨lz1, lz2⟩ := own_len ev_wz Az (own_eqInt (Cond.before_iff.mp (own_w hsets 29 rfl)))
  have D0 := Sta.start ev_wz (Or.inl (own_w hsets 10 rfl))
  obtain ⟨z0, evz0⟩ := exa_v (Cond.before_iff.mp (own_w hsets 31 rfl))
  have el0 := (elem_in evz0 ev_wz (Term.int_eval 0) Az.1).2
  have B0 : BDc s s.heap z0 (Int64.ofNat 0) 0 := ⟨Exa.start evz0 (Cond.before_iff.mp (own_w hsets 31 rfl)), Fld.start ((fld_at evz0).symm.trans (own_eqLong (Cond.before_iff.mp (own_w hsets 33 rfl)))), Fld.start ((fld_at evz0).symm.trans (own_eqInt (Cond.before_iff.mp (own_w hsets 32 rfl))))⟩
  obtain ⟨z1, evz1⟩ := exa_v (Cond.before_iff.mp (own_w hsets 41 rfl))
  have el1 := (elem_in evz1 ev_wz (Term.int_eval 1) Az.1).2
  have B1 : BDc s s.heap z1 (Int64.ofNat 1) 0 := ⟨Exa.start evz1 (Cond.before_iff.mp (own_w hsets 41 rfl)), Fld.start ((fld_at evz1).symm.trans (own_eqLong (Cond.before_iff.mp (own_w hsets 43 rfl)))), Fld.start ((fld_at evz1).symm.trans (own_eqInt (Cond.before_iff.mp (own_w hsets 42 rfl))))⟩
  obtain ⟨z2, evz2⟩ := exa_v (Cond.before_iff.mp (own_w hsets 51 rfl))
  have el2 := (elem_in evz2 ev_wz (Term.int_eval 2) Az.1).2
  have B2 : BDc s s.heap z2 (Int64.ofNat 2) 0 := ⟨Exa.start evz2 (Cond.before_iff.mp (own_w hsets 51 rfl)), Fld.start ((fld_at evz2).symm.trans (own_eqLong (Cond.before_iff.mp (own_w hsets 53 rfl)))), Fld.start ((fld_at evz2).symm.trans (own_eqInt (Cond.before_iff.mp (own_w hsets 52 rfl))))⟩
  obtain ⟨z3, evz3⟩ := exa_v (Cond.before_iff.mp (own_w hsets 60 rfl))
  have el3 := (elem_in evz3 ev_wz (Term.int_eval 3) Az.1).2
  have B3 : BDc s s.heap z3 (Int64.ofNat 3) 0 := ⟨Exa.start evz3 (Cond.before_iff.mp (own_w hsets 60 rfl)), Fld.start ((fld_at evz3).symm.trans (own_eqLong (Cond.before_iff.mp (own_w hsets 62 rfl)))), Fld.start ((fld_at evz3).symm.trans (own_eqInt (Cond.before_iff.mp (own_w hsets 61 rfl))))⟩
  obtain ⟨z4, evz4⟩ := exa_v (Cond.before_iff.mp (own_w hsets 68 rfl))
  have el4 := (elem_in evz4 ev_wz (Term.int_eval 4) Az.1).2
  have B4 : BDc s s.heap z4 (Int64.ofNat 4) 0 := ⟨Exa.start evz4 (Cond.before_iff.mp (own_w hsets 68 rfl)), Fld.start ((fld_at evz4).symm.trans (own_eqLong (Cond.before_iff.mp (own_w hsets 70 rfl)))), Fld.start ((fld_at evz4).symm.trans (own_eqInt (Cond.before_iff.mp (own_w hsets 69 rfl))))⟩
  obtain ⟨z5, evz5⟩ := exa_v (Cond.before_iff.mp (own_w hsets 76 rfl))
  have el5 := (elem_in evz5 ev_wz (Term.int_eval 5) Az.1).2
  have B5 : BDc s s.heap z5 (Int64.ofNat 5) 0 := ⟨Exa.start evz5 (Cond.before_iff.mp (own_w hsets 76 rfl)), Fld.start ((fld_at evz5).symm.trans (own_eqLong (Cond.before_iff.mp (own_w hsets 78 rfl)))), Fld.start ((fld_at evz5).symm.trans (own_eqInt (Cond.before_iff.mp (own_w hsets 77 rfl))))⟩
  obtain ⟨z6, evz6⟩ := exa_v (Cond.before_iff.mp (own_w hsets 84 rfl))
  have el6 := (elem_in evz6 ev_wz (Term.int_eval 6) Az.1).2
  have B6 : BDc s s.heap z6 (Int64.ofNat 6) 0 := ⟨Exa.start evz6 (Cond.before_iff.mp (own_w hsets 84 rfl)), Fld.start ((fld_at evz6).symm.trans (own_eqLong (Cond.before_iff.mp (own_w hsets 86 rfl)))), Fld.start ((fld_at evz6).symm.trans (own_eqInt (Cond.before_iff.mp (own_w hsets 85 rfl))))⟩
  obtain ⟨z7, evz7⟩ := exa_v (Cond.before_iff.mp (own_w hsets 92 rfl))
  have el7 := (elem_in evz7 ev_wz (Term.int_eval 7) Az.1).2
  have B7 : BDc s s.heap z7 (Int64.ofNat 7) 0 := ⟨Exa.start evz7 (Cond.before_iff.mp (own_w hsets 92 rfl)), Fld.start ((fld_at evz7).symm.trans (own_eqLong (Cond.before_iff.mp (own_w hsets 94 rfl)))), Fld.start ((fld_at evz7).symm.trans (own_eqInt (Cond.before_iff.mp (own_w hsets 93 rfl))))⟩
  obtain ⟨z8, evz8⟩ := exa_v (Cond.before_iff.mp (own_w hsets 100 rfl))
  have el8 := (elem_in evz8 ev_wz (Term.int_eval 8) Az.1).2
  have B8 : BDc s s.heap z8 (Int64.ofNat 8) 0 := ⟨Exa.start evz8 (Cond.before_iff.mp (own_w hsets 100 rfl)), Fld.start ((fld_at evz8).symm.trans (own_eqLong (Cond.before_iff.mp (own_w hsets 102 rfl)))), Fld.start ((fld_at evz8).symm.trans (own_eqInt (Cond.before_iff.mp (own_w hsets 101 rfl))))⟩
  obtain ⟨z9, evz9⟩ := exa_v (Cond.before_iff.mp (own_w hsets 108 rfl))
  have el9 := (elem_in evz9 ev_wz (Term.int_eval 9) Az.1).2
  have B9 : BDc s s.heap z9 (Int64.ofNat 9) 0 := ⟨Exa.start evz9 (Cond.before_iff.mp (own_w hsets 108 rfl)), Fld.start ((fld_at evz9).symm.trans (own_eqLong (Cond.before_iff.mp (own_w hsets 110 rfl)))), Fld.start ((fld_at evz9).symm.trans (own_eqInt (Cond.before_iff.mp (own_w hsets 109 rfl))))⟩
  obtain ⟨z10, evz10⟩ := exa_v (Cond.before_iff.mp (own_w hsets 117 rfl))
  have el10 := (elem_in evz10 ev_wz (Term.int_eval 10) Az.1).2
  have B10 : BDc s s.heap z10 (Int64.ofNat 10) 0 := ⟨Exa.start evz10 (Cond.before_iff.mp (own_w hsets 117 rfl)), Fld.start ((fld_at evz10).symm.trans (own_eqLong (Cond.before_iff.mp (own_w hsets 119 rfl)))), Fld.start ((fld_at evz10).symm.trans (own_eqInt (Cond.before_iff.mp (own_w hsets 118 rfl))))⟩
  have D1 : ZTab s s.heap wz := ⟨cz, Az, own_sz lz1 lz2, fun k hk => match k, hk with
    | 0, _ => ⟨z0, el0, B0⟩
    | 1, _ => ⟨z1, el1, B1⟩
    | 2, _ => ⟨z2, el2, B2⟩
    | 3, _ => ⟨z3, el3, B3⟩
    | 4, _ => ⟨z4, el4, B4⟩
    | 5, _ => ⟨z5, el5, B5⟩
    | 6, _ => ⟨z6, el6, B6⟩
    | 7, _ => ⟨z7, el7, B7⟩
    | 8, _ => ⟨z8, el8, B8⟩
    | 9, _ => ⟨z9, el9, B9⟩
    | 10, _ => ⟨z10, el10, B10⟩
    | n + 11, q => absurd q (by omega)⟩
  obtain ⟨zz, evzz⟩ := exa_v (Cond.before_iff.mp (own_w hsets 130 rfl))
  have D4 := Sta.start evzz (Or.inl (own_w hsets 12 rfl))
  have D5 : BDc s s.heap zz (0 : Int64) (0 : Int32) := ⟨Exa.start evzz (Cond.before_iff.mp (own_w hsets 130 rfl)), Fld.start ((fld_at evzz).symm.trans (own_eqLong (Cond.before_iff.mp (own_w hsets 132 rfl)))), Fld.start ((fld_at evzz).symm.trans (own_eqInt (Cond.before_iff.mp (own_w hsets 131 rfl))))⟩
  obtain ⟨n, o, h1, h2, h3, _, L, rfl, hQ, hq⟩ := claw l s _ hw tables_1 i0 i1 i2 i3 i4 i5 wz de kde zz s.heap s.heap.size D0 D1 D2 D3 D4 D5 (Old.start s) p e ha hc hk s m _ below hf ((Spec.applies_iff_loose hf).mp happ).1 ⟨rfl, State.Warmed39.refl s, rfl⟩ trivial
  obtain ⟨rfl, N, -⟩ := hQ
  refine ⟨n, _, h1, h2, h3, hpost _ _ _ _ _ _ ⟨Cond.after_iff.mpr rfl, Cond.after_iff.mpr (eq_i res_at (Term.int_eval (1)) rfl), trivial⟩ ⟨hq.1, hq.2.1, hq.2.2.1, (hq.2.2.2.sift fun y hy => Or.inr (N y hy)).mono (by decide) (by decide)⟩⟩
theorem main_1_1 : Claimed_1_1 := comes_1 fun _ _ _ _ _ _ h hF => ⟨h.1, hF⟩
theorem main_1_2 : Claimed_1_2 := comes_1 fun _ _ _ _ _ _ h hF => ⟨h.2.1, hF⟩
end Jvm.Pilot.@@N@@
namespace Jvm.Pilot.@@N@@
open Jvm Jvm.ClassFile Sem Op Lib Jvm.Free Jvm.Stand Jvm.Pilot.@@N@@.Jvm.D
/-! MADE BY PROGRAM (witnessworld.py) out of the Statement's table words and the real class files: 34 classes; the members and pool entries that the words name. The judged class is class 1, her method 2. -/
namespace start1
open Jvm.ClassFile
def u (s : String) : CpInfo := .utf8 (stringToUtf16 s)
/-- a pool by its gaps: so many unusable entries, then the entry; so many at the end -/
def gap : Nat → List CpInfo → List CpInfo
  | 0, r => r
  | n + 1, r => .unusable :: gap n r
def poolList (es : List (Nat × CpInfo)) (last : Nat) : List CpInfo := es.foldr (fun e r => gap e.1 (e.2 :: r)) (gap last [])
def pool (es : List (Nat × CpInfo)) (last : Nat) : Array CpInfo := ⟨poolList es last⟩
def fileOf (pool : Array CpInfo) (this : Nat) (attrs : Array Attribute := #[]) (ms : Array MethodInfo := #[]) (fl : Nat := 33) (sup : Nat := 0) (ifs : Array Nat := #[]) (fds : Array FieldInfo := #[]) : ClassFile where
  minorVersion := 0
  majorVersion := 65
  constantPool := pool
  accessFlags := fl
  thisClass := this
  superClass := sup
  interfaces := ifs
  fields := fds
  methods := ms
  attributes := attrs
def plain (name : String) (sup : Option ClassId) : Class where
  name := name
  kind := .ordinary
  loader := none
  accessFlags := 33
  super := sup
  interfaces := #[]
  cf := none
  fields := #[]
  methods := #[]
  instanceTypes := #[]
  staticTypes := #[]
  resolved := #[]
  callSites := []
  init := .initialized
  statics := none
  mirror := none

def pool0 : Array CpInfo := pool [(5, u "<init>"), (0, u "()V"), (1, .class_ 10), (1, u "java/lang/Object")] 113

def k0c0 : Code := { maxStack := 0, maxLocals := 1, code := object_method_1_code, exceptionTable := #[], attributes := #[] }
def k0m0 : Method := { name := "<init>", desc := "()V", sig := { parameters := [], returnType := none }, accessFlags := 1, code := some k0c0 }
/-- java/lang/Object -/
def k0 : Class := { plain "java/lang/Object" none with
  accessFlags := 33
  interfaces := #[]
  cf := some (fileOf pool0 8 #[] #[{ accessFlags := 1, nameIndex := 5, descriptorIndex := 6, attributes := #[] }] 33 0 #[] #[])
  fields := #[]
  methods := #[k0m0]
  instanceTypes := #[]
  staticTypes := #[]
  resolved := Array.replicate 124 none
  statics := none }

def pool1 : Array CpInfo := pool [(2, .class_ 4), (0, .nameAndType 5 6), (0, u "java/lang/Object"), (0, u "<init>"), (0, u "()V"), (0, .class_ 8), (0, u "java/util/ArrayList"), (0, .methodref 7 3), (0, .class_ 11), (0, u "com/example/slotwright/slotwright/Market$Advertiser"), (0, .string 13), (0, u "a"), (0, .methodref 15 16), (0, .class_ 17), (0, .nameAndType 18 19), (0, u "java/math/BigDecimal"), (0, u "valueOf"), (0, u "(J)Ljava/math/BigDecimal;"), (0, .methodref 10 21), (0, .nameAndType 5 22), (0, u "(Ljava/lang/String;Ljava/math/BigDecimal;)V"), (0, .interfaceMethodref 24 25), (0, .class_ 26), (0, .nameAndType 27 28), (0, u "java/util/List"), (0, u "add"), (0, u "(Ljava/lang/Object;)Z"), (0, .string 30), (0, u "b"), (0, .class_ 32), (0, u "com/example/slotwright/slotwright/Ledger"), (0, .methodref 31 34), (0, .nameAndType 5 35), (0, u "(Ljava/util/List;)V"), (0, .methodref 31 37), (0, .nameAndType 38 39), (0, u "overspent"), (0, u "()I"), (0, .methodref 41 42), (0, .class_ 43), (0, .nameAndType 44 45), (0, u "com/example/slotwright/slotwright/LedgerOverspentPinLaw"), (0, u "over"), (0, u "(JJ)I"), (0, .methodref 31 47), (0, .nameAndType 48 49), (0, u "charge"), (0, u "(ILjava/math/BigDecimal;)V"), (3, u "law"), (0, u "(IIIIII)Z")] 6

def k1m0 : Method := { name := "<init>", desc := "()V", sig := { parameters := [], returnType := none }, accessFlags := 2, code := none }
def k1c1 : Code := { maxStack := 4, maxLocals := 4, code := method_2_code, exceptionTable := #[], attributes := #[] }
def k1m1 : Method := { name := "over", desc := "(JJ)I", sig := { parameters := [.long, .long], returnType := some .int }, accessFlags := 10, code := some k1c1 }
def k1c2 : Code := { maxStack := 6, maxLocals := 21, code := code, exceptionTable := #[], attributes := #[] }
def k1m2 : Method := { name := "law", desc := "(IIIIII)Z", sig := { parameters := [.int, .int, .int, .int, .int, .int], returnType := some .boolean }, accessFlags := 9, code := some k1c2 }
/-- com/example/slotwright/slotwright/LedgerOverspentPinLaw -/
def k1 : Class := { plain "com/example/slotwright/slotwright/LedgerOverspentPinLaw" (some 0) with
  accessFlags := 49
  interfaces := #[]
  cf := some (fileOf pool1 41 #[] #[{ accessFlags := 2, nameIndex := 5, descriptorIndex := 6, attributes := #[] }, { accessFlags := 10, nameIndex := 44, descriptorIndex := 45, attributes := #[] }, { accessFlags := 9, nameIndex := 53, descriptorIndex := 54, attributes := #[] }] 49 2 #[] #[])
  fields := #[]
  methods := #[k1m0, k1m1, k1m2]
  instanceTypes := #[]
  staticTypes := #[]
  resolved := Array.replicate 61 none
  statics := none }

def pool2 : Array CpInfo := pool [(8, .class_ 10), (1, u "java/lang/Iterable"), (24, .class_ 36), (0, u "java/lang/Object")] 25

/-- java/lang/Iterable -/
def k2 : Class := { plain "java/lang/Iterable" (some 0) with
  accessFlags := 1537
  interfaces := #[]
  cf := some (fileOf pool2 8 #[] #[] 1537 35 #[] #[])
  fields := #[]
  methods := #[]
  instanceTypes := #[]
  staticTypes := #[]
  resolved := Array.replicate 62 none
  statics := none }

def pool3 : Array CpInfo := pool [(10, .class_ 12), (1, u "java/util/Collection"), (47, .class_ 61), (0, u "java/lang/Object"), (0, .class_ 63), (0, u "java/lang/Iterable")] 51

/-- java/util/Collection -/
def k3 : Class := { plain "java/util/Collection" (some 0) with
  accessFlags := 1537
  interfaces := #[2]
  cf := some (fileOf pool3 10 #[] #[] 1537 60 #[62] #[])
  fields := #[]
  methods := #[]
  instanceTypes := #[]
  staticTypes := #[]
  resolved := Array.replicate 115 none
  statics := none }

def pool4 : Array CpInfo := pool [(1, .methodref 2 3), (0, .class_ 4), (0, .nameAndType 5 6), (0, u "java/lang/Object"), (0, u "<init>"), (0, u "()V"), (1, .class_ 10), (1, u "java/util/AbstractCollection"), (66, .class_ 78), (0, u "java/util/Collection")] 81

def k4c0 : Code := { maxStack := 1, maxLocals := 1, code := jdk_22_method_1_code, exceptionTable := #[], attributes := #[] }
def k4m0 : Method := { name := "<init>", desc := "()V", sig := { parameters := [], returnType := none }, accessFlags := 4, code := some k4c0 }
/-- java/util/AbstractCollection -/
def k4 : Class := { plain "java/util/AbstractCollection" (some 0) with
  accessFlags := 1057
  interfaces := #[3]
  cf := some (fileOf pool4 8 #[] #[{ accessFlags := 4, nameIndex := 5, descriptorIndex := 6, attributes := #[] }] 1057 2 #[77] #[])
  fields := #[]
  methods := #[k4m0]
  instanceTypes := #[]
  staticTypes := #[]
  resolved := Array.replicate 160 none
  statics := none }

def pool5 : Array CpInfo := pool [(8, .class_ 10), (1, u "java/util/SequencedCollection"), (15, .class_ 27), (0, u "java/lang/Object"), (0, .class_ 29), (0, u "java/util/Collection")] 27

/-- java/util/SequencedCollection -/
def k5 : Class := { plain "java/util/SequencedCollection" (some 0) with
  accessFlags := 1537
  interfaces := #[3]
  cf := some (fileOf pool5 8 #[] #[] 1537 26 #[28] #[])
  fields := #[]
  methods := #[]
  instanceTypes := #[]
  staticTypes := #[]
  resolved := Array.replicate 57 none
  statics := none }

def pool6 : Array CpInfo := pool [(8, .class_ 10), (1, u "java/util/List"), (49, u "add"), (3, u "(Ljava/lang/Object;)Z"), (10, u "get"), (0, u "(I)Ljava/lang/Object;"), (2, u "size"), (0, u "()I"), (22, .class_ 104), (0, u "java/lang/Object"), (15, .class_ 121), (0, u "java/util/SequencedCollection")] 129

def k6m0 : Method := { name := "size", desc := "()I", sig := { parameters := [], returnType := some .int }, accessFlags := 1025, code := none }
def k6m1 : Method := { name := "add", desc := "(Ljava/lang/Object;)Z", sig := { parameters := [(.object "java/lang/Object")], returnType := some .boolean }, accessFlags := 1025, code := none }
def k6m2 : Method := { name := "get", desc := "(I)Ljava/lang/Object;", sig := { parameters := [.int], returnType := some (.object "java/lang/Object") }, accessFlags := 1025, code := none }
/-- java/util/List -/
def k6 : Class := { plain "java/util/List" (some 0) with
  accessFlags := 1537
  interfaces := #[5]
  cf := some (fileOf pool6 8 #[] #[{ accessFlags := 1025, nameIndex := 79, descriptorIndex := 80, attributes := #[] }, { accessFlags := 1025, nameIndex := 60, descriptorIndex := 64, attributes := #[] }, { accessFlags := 1025, nameIndex := 75, descriptorIndex := 76, attributes := #[] }] 1537 103 #[120] #[])
  fields := #[]
  methods := #[k6m0, k6m1, k6m2]
  instanceTypes := #[]
  staticTypes := #[]
  resolved := Array.replicate 251 none
  statics := none }

def pool7 : Array CpInfo := pool [(1, .methodref 2 3), (0, .class_ 4), (0, .nameAndType 5 6), (0, u "java/util/AbstractCollection"), (0, u "<init>"), (0, u "()V"), (0, .fieldref 8 9), (0, .class_ 10), (0, .nameAndType 11 12), (0, u "java/util/AbstractList"), (0, u "modCount"), (0, u "I"), (64, .class_ 78), (0, u "java/util/AbstractList$Itr"), (3, .class_ 83), (0, u "java/util/AbstractList$ListItr"), (9, .class_ 94), (0, u "java/util/AbstractList$RandomAccessSubList"), (3, .class_ 99), (0, u "java/util/AbstractList$SubList"), (33, .class_ 134), (0, u "java/util/List"), (73, .class_ 209), (0, u "java/util/AbstractList$SubList$1"), (0, .class_ 211), (0, u "java/util/AbstractList$RandomAccessSpliterator")] 6

def k7c0 : Code := { maxStack := 2, maxLocals := 1, code := jdk_39_method_1_code, exceptionTable := #[], attributes := #[] }
def k7m0 : Method := { name := "<init>", desc := "()V", sig := { parameters := [], returnType := none }, accessFlags := 4, code := some k7c0 }
/-- java/util/AbstractList -/
def k7 : Class := { plain "java/util/AbstractList" (some 4) with
  accessFlags := 1057
  interfaces := #[6]
  cf := some (fileOf pool7 8 #[.nestMembers #[93, 98, 208, 210, 82, 77]] #[{ accessFlags := 4, nameIndex := 5, descriptorIndex := 6, attributes := #[] }] 1057 2 #[133] #[{ accessFlags := 132, nameIndex := 11, descriptorIndex := 12, attributes := #[] }])
  fields := #[{ name := "modCount", type := .int, accessFlags := 132, slot := 0, constantValue := 0 }]
  methods := #[k7m0]
  instanceTypes := #[.int]
  staticTypes := #[]
  resolved := Array.replicate 218 none
  statics := none }

def pool8 : Array CpInfo := pool [(1, .class_ 2), (0, u "java/util/RandomAccess"), (0, .class_ 4), (0, u "java/lang/Object")] 2

/-- java/util/RandomAccess -/
def k8 : Class := { plain "java/util/RandomAccess" (some 0) with
  accessFlags := 1537
  interfaces := #[]
  cf := some (fileOf pool8 1 #[] #[] 1537 3 #[] #[])
  fields := #[]
  methods := #[]
  instanceTypes := #[]
  staticTypes := #[]
  resolved := Array.replicate 7 none
  statics := none }

def pool9 : Array CpInfo := pool [(1, .class_ 2), (0, u "java/lang/Cloneable"), (0, .class_ 4), (0, u "java/lang/Object")] 2

/-- java/lang/Cloneable -/
def k9 : Class := { plain "java/lang/Cloneable" (some 0) with
  accessFlags := 1537
  interfaces := #[]
  cf := some (fileOf pool9 1 #[] #[] 1537 3 #[] #[])
  fields := #[]
  methods := #[]
  instanceTypes := #[]
  staticTypes := #[]
  resolved := Array.replicate 7 none
  statics := none }

def pool10 : Array CpInfo := pool [(1, .class_ 2), (0, u "java/io/Serializable"), (0, .class_ 4), (0, u "java/lang/Object")] 2

/-- java/io/Serializable -/
def k10 : Class := { plain "java/io/Serializable" (some 0) with
  accessFlags := 1537
  interfaces := #[]
  cf := some (fileOf pool10 1 #[] #[] 1537 3 #[] #[])
  fields := #[]
  methods := #[]
  instanceTypes := #[]
  staticTypes := #[]
  resolved := Array.replicate 7 none
  statics := none }

def pool11 : Array CpInfo := pool [(1, .methodref 2 3), (0, .class_ 4), (0, .nameAndType 5 6), (0, u "java/util/AbstractList"), (0, u "<init>"), (0, u "()V"), (0, .class_ 8), (0, u "java/lang/Object"), (0, .fieldref 10 11), (0, .class_ 12), (0, .nameAndType 13 14), (0, u "java/util/ArrayList"), (0, u "elementData"), (0, u "[Ljava/lang/Object;"), (2, u "EMPTY_ELEMENTDATA"), (21, .fieldref 10 40), (0, .nameAndType 41 14), (0, u "DEFAULTCAPACITY_EMPTY_ELEMENTDATA"), (5, u "()[Ljava/lang/Object;"), (0, .fieldref 10 49), (0, .nameAndType 50 51), (0, u "size"), (0, u "I"), (11, .fieldref 10 64), (0, .nameAndType 65 51), (0, u "modCount"), (3, .methodref 10 70), (0, .nameAndType 71 72), (0, u "grow"), (0, u "(I)[Ljava/lang/Object;"), (6, .methodref 80 81), (0, .class_ 82), (0, .nameAndType 83 84), (0, u "java/lang/Math"), (0, u "max"), (0, u "(II)I"), (11, u "(Ljava/lang/Object;)Z"), (21, .methodref 119 120), (0, .class_ 121), (0, .nameAndType 122 84), (0, u "java/util/Objects"), (0, u "checkIndex"), (0, .methodref 10 124), (0, .nameAndType 13 125), (0, u "(I)Ljava/lang/Object;"), (3, .methodref 10 130), (0, .nameAndType 71 47), (0, .methodref 10 132), (0, .nameAndType 133 134), (0, u "add"), (0, u "(Ljava/lang/Object;[Ljava/lang/Object;I)V"), (13, .class_ 149), (0, u "java/util/List"), (36, u "()I"), (75, .class_ 263), (0, u "java/util/ArrayList$ListItr"), (3, .class_ 268), (0, u "java/util/ArrayList$Itr"), (7, .class_ 277), (0, u "java/util/ArrayList$SubList"), (12, .class_ 291), (0, u "java/util/ArrayList$ArrayListSpliterator"), (37, .class_ 330), (0, u "java/util/RandomAccess"), (0, .class_ 332), (0, u "java/lang/Cloneable"), (0, .class_ 334), (0, u "java/io/Serializable"), (0, u "serialVersionUID"), (0, u "J"), (3, u "DEFAULT_CAPACITY"), (40, u "get"), (118, .class_ 501), (0, u "java/util/ArrayList$SubList$2"), (0, .class_ 503), (0, u "java/util/ArrayList$SubList$1")] 5

def k11c0 : Code := { maxStack := 2, maxLocals := 1, code := jdk_38_method_2_code, exceptionTable := #[], attributes := #[] }
def k11m0 : Method := { name := "<init>", desc := "()V", sig := { parameters := [], returnType := none }, accessFlags := 1, code := some k11c0 }
def k11c1 : Code := { maxStack := 4, maxLocals := 4, code := jdk_38_method_6_code, exceptionTable := #[], attributes := #[] }
def k11m1 : Method := { name := "grow", desc := "(I)[Ljava/lang/Object;", sig := { parameters := [.int], returnType := some (.array (.object "java/lang/Object")) }, accessFlags := 2, code := some k11c1 }
def k11c2 : Code := { maxStack := 3, maxLocals := 1, code := jdk_38_method_7_code, exceptionTable := #[], attributes := #[] }
def k11m2 : Method := { name := "grow", desc := "()[Ljava/lang/Object;", sig := { parameters := [], returnType := some (.array (.object "java/lang/Object")) }, accessFlags := 2, code := some k11c2 }
def k11c3 : Code := { maxStack := 1, maxLocals := 1, code := jdk_38_method_8_code, exceptionTable := #[], attributes := #[] }
def k11m3 : Method := { name := "size", desc := "()I", sig := { parameters := [], returnType := some .int }, accessFlags := 1, code := some k11c3 }
def k11c4 : Code := { maxStack := 2, maxLocals := 2, code := jdk_38_method_18_code, exceptionTable := #[], attributes := #[] }
def k11m4 : Method := { name := "elementData", desc := "(I)Ljava/lang/Object;", sig := { parameters := [.int], returnType := some (.object "java/lang/Object") }, accessFlags := 0, code := some k11c4 }
def k11c5 : Code := { maxStack := 2, maxLocals := 2, code := jdk_38_method_20_code, exceptionTable := #[], attributes := #[] }
def k11m5 : Method := { name := "get", desc := "(I)Ljava/lang/Object;", sig := { parameters := [.int], returnType := some (.object "java/lang/Object") }, accessFlags := 1, code := some k11c5 }
def k11c6 : Code := { maxStack := 3, maxLocals := 4, code := jdk_38_method_24_code, exceptionTable := #[], attributes := #[] }
def k11m6 : Method := { name := "add", desc := "(Ljava/lang/Object;[Ljava/lang/Object;I)V", sig := { parameters := [(.object "java/lang/Object"), (.array (.object "java/lang/Object")), .int], returnType := none }, accessFlags := 2, code := some k11c6 }
def k11c7 : Code := { maxStack := 4, maxLocals := 2, code := jdk_38_method_25_code, exceptionTable := #[], attributes := #[] }
def k11m7 : Method := { name := "add", desc := "(Ljava/lang/Object;)Z", sig := { parameters := [(.object "java/lang/Object")], returnType := some .boolean }, accessFlags := 1, code := some k11c7 }
/-- java/util/ArrayList -/
def k11 : Class := { plain "java/util/ArrayList" (some 7) with
  accessFlags := 33
  interfaces := #[6, 8, 9, 10]
  cf := some (fileOf pool11 10 #[.nestMembers #[290, 276, 500, 502, 262, 267]] #[{ accessFlags := 1, nameIndex := 5, descriptorIndex := 6, attributes := #[] }, { accessFlags := 2, nameIndex := 71, descriptorIndex := 72, attributes := #[] }, { accessFlags := 2, nameIndex := 71, descriptorIndex := 47, attributes := #[] }, { accessFlags := 1, nameIndex := 50, descriptorIndex := 186, attributes := #[] }, { accessFlags := 0, nameIndex := 13, descriptorIndex := 125, attributes := #[] }, { accessFlags := 1, nameIndex := 381, descriptorIndex := 125, attributes := #[] }, { accessFlags := 2, nameIndex := 133, descriptorIndex := 134, attributes := #[] }, { accessFlags := 1, nameIndex := 133, descriptorIndex := 96, attributes := #[] }] 33 2 #[148, 329, 331, 333] #[{ accessFlags := 26, nameIndex := 335, descriptorIndex := 336, attributes := #[] }, { accessFlags := 26, nameIndex := 340, descriptorIndex := 51, attributes := #[] }, { accessFlags := 26, nameIndex := 17, descriptorIndex := 14, attributes := #[] }, { accessFlags := 26, nameIndex := 41, descriptorIndex := 14, attributes := #[] }, { accessFlags := 128, nameIndex := 13, descriptorIndex := 14, attributes := #[] }, { accessFlags := 2, nameIndex := 50, descriptorIndex := 51, attributes := #[] }])
  fields := #[{ name := "serialVersionUID", type := .long, accessFlags := 26, slot := 0, constantValue := 0 }, { name := "DEFAULT_CAPACITY", type := .int, accessFlags := 26, slot := 1, constantValue := 0 }, { name := "EMPTY_ELEMENTDATA", type := (.array (.object "java/lang/Object")), accessFlags := 26, slot := 2, constantValue := 0 }, { name := "DEFAULTCAPACITY_EMPTY_ELEMENTDATA", type := (.array (.object "java/lang/Object")), accessFlags := 26, slot := 3, constantValue := 0 }, { name := "elementData", type := (.array (.object "java/lang/Object")), accessFlags := 128, slot := 1, constantValue := 0 }, { name := "size", type := .int, accessFlags := 2, slot := 2, constantValue := 0 }]
  methods := #[k11m0, k11m1, k11m2, k11m3, k11m4, k11m5, k11m6, k11m7]
  instanceTypes := #[.int, (.array (.object "java/lang/Object")), .int]
  staticTypes := #[.long, .int, (.array (.object "java/lang/Object")), (.array (.object "java/lang/Object"))]
  resolved := Array.replicate 509 none
  statics := some 0 }

def pool12 : Array CpInfo := pool [(1, .methodref 2 3), (0, .class_ 4), (0, .nameAndType 5 6), (0, u "java/lang/Object"), (0, u "<init>"), (0, u "()V"), (0, .class_ 8), (0, u "java/lang/Record")] 13

def k12c0 : Code := { maxStack := 1, maxLocals := 1, code := jdk_30_method_1_code, exceptionTable := #[], attributes := #[] }
def k12m0 : Method := { name := "<init>", desc := "()V", sig := { parameters := [], returnType := none }, accessFlags := 4, code := some k12c0 }
/-- java/lang/Record -/
def k12 : Class := { plain "java/lang/Record" (some 0) with
  accessFlags := 1057
  interfaces := #[]
  cf := some (fileOf pool12 7 #[] #[{ accessFlags := 4, nameIndex := 5, descriptorIndex := 6, attributes := #[] }] 1057 2 #[] #[])
  fields := #[]
  methods := #[k12m0]
  instanceTypes := #[]
  staticTypes := #[]
  resolved := Array.replicate 22 none
  statics := none }

def pool13 : Array CpInfo := pool [(1, .methodref 2 3), (0, .class_ 4), (0, .nameAndType 5 6), (0, u "java/lang/Record"), (0, u "<init>"), (0, u "()V"), (0, .fieldref 8 9), (0, .class_ 10), (0, .nameAndType 11 12), (0, u "com/example/slotwright/slotwright/Market$Advertiser"), (0, u "id"), (0, u "Ljava/lang/String;"), (0, .fieldref 8 14), (0, .nameAndType 15 16), (0, u "budget"), (0, u "Ljava/math/BigDecimal;"), (12, u "(Ljava/lang/String;Ljava/math/BigDecimal;)V"), (6, u "()Ljava/math/BigDecimal;"), (3, .class_ 41), (0, u "com/example/slotwright/slotwright/Market")] 20

def k13c0 : Code := { maxStack := 2, maxLocals := 3, code := prog_27_method_1_code, exceptionTable := #[], attributes := #[] }
def k13m0 : Method := { name := "<init>", desc := "(Ljava/lang/String;Ljava/math/BigDecimal;)V", sig := { parameters := [(.object "java/lang/String"), (.object "java/math/BigDecimal")], returnType := none }, accessFlags := 0, code := some k13c0 }
def k13c1 : Code := { maxStack := 1, maxLocals := 1, code := prog_27_method_6_code, exceptionTable := #[], attributes := #[] }
def k13m1 : Method := { name := "budget", desc := "()Ljava/math/BigDecimal;", sig := { parameters := [], returnType := some (.object "java/math/BigDecimal") }, accessFlags := 1, code := some k13c1 }
/-- com/example/slotwright/slotwright/Market$Advertiser -/
def k13 : Class := { plain "com/example/slotwright/slotwright/Market$Advertiser" (some 12) with
  accessFlags := 48
  interfaces := #[]
  cf := some (fileOf pool13 8 #[.nestHost 40] #[{ accessFlags := 0, nameIndex := 5, descriptorIndex := 29, attributes := #[] }, { accessFlags := 1, nameIndex := 15, descriptorIndex := 36, attributes := #[] }] 48 2 #[] #[{ accessFlags := 18, nameIndex := 11, descriptorIndex := 12, attributes := #[] }, { accessFlags := 18, nameIndex := 15, descriptorIndex := 16, attributes := #[] }])
  fields := #[{ name := "id", type := (.object "java/lang/String"), accessFlags := 18, slot := 0, constantValue := 0 }, { name := "budget", type := (.object "java/math/BigDecimal"), accessFlags := 18, slot := 1, constantValue := 0 }]
  methods := #[k13m0, k13m1]
  instanceTypes := #[(.object "java/lang/String"), (.object "java/math/BigDecimal")]
  staticTypes := #[]
  resolved := Array.replicate 62 none
  statics := none }

def pool14 : Array CpInfo := pool [(1, .class_ 2), (0, u "java/lang/Comparable"), (0, .class_ 4), (0, u "java/lang/Object")] 7

/-- java/lang/Comparable -/
def k14 : Class := { plain "java/lang/Comparable" (some 0) with
  accessFlags := 1537
  interfaces := #[]
  cf := some (fileOf pool14 1 #[] #[] 1537 3 #[] #[])
  fields := #[]
  methods := #[]
  instanceTypes := #[]
  staticTypes := #[]
  resolved := Array.replicate 12 none
  statics := none }

def pool15 : Array CpInfo := pool [(2, .class_ 4), (1, u "java/lang/CharSequence"), (42, .class_ 48), (0, u "java/lang/CharSequence$1CodePointIterator"), (10, .class_ 60), (0, u "java/lang/CharSequence$1CharIterator"), (5, .class_ 67), (0, u "java/lang/Object")] 63

/-- java/lang/CharSequence -/
def k15 : Class := { plain "java/lang/CharSequence" (some 0) with
  accessFlags := 1537
  interfaces := #[]
  cf := some (fileOf pool15 2 #[.nestMembers #[47, 59]] #[] 1537 66 #[] #[])
  fields := #[]
  methods := #[]
  instanceTypes := #[]
  staticTypes := #[]
  resolved := Array.replicate 131 none
  statics := none }

def pool16 : Array CpInfo := pool [(1, .class_ 2), (0, u "java/lang/constant/Constable"), (0, .class_ 4), (0, u "java/lang/Object")] 6

/-- java/lang/constant/Constable -/
def k16 : Class := { plain "java/lang/constant/Constable" (some 0) with
  accessFlags := 1537
  interfaces := #[]
  cf := some (fileOf pool16 1 #[] #[] 1537 3 #[] #[])
  fields := #[]
  methods := #[]
  instanceTypes := #[]
  staticTypes := #[]
  resolved := Array.replicate 11 none
  statics := none }

def pool17 : Array CpInfo := pool [(1, .class_ 2), (0, u "java/lang/constant/ConstantDesc"), (0, .class_ 4), (0, u "java/lang/Object")] 32

/-- java/lang/constant/ConstantDesc -/
def k17 : Class := { plain "java/lang/constant/ConstantDesc" (some 0) with
  accessFlags := 1537
  interfaces := #[]
  cf := some (fileOf pool17 1 #[] #[] 1537 3 #[] #[])
  fields := #[]
  methods := #[]
  instanceTypes := #[]
  staticTypes := #[]
  resolved := Array.replicate 37 none
  statics := none }

def pool18 : Array CpInfo := pool [(2, .class_ 4), (1, u "java/lang/Object"), (0, u "<init>"), (0, u "()V"), (3, .class_ 12), (1, u "java/lang/String"), (0, u "value"), (0, u "[B"), (2, u "coder"), (0, u "B"), (2, u "hash"), (0, u "I"), (2, u "hashIsZero"), (0, u "Z"), (13, u "COMPACT_STRINGS"), (534, .class_ 576), (0, u "java/lang/CharSequence"), (22, u "CASE_INSENSITIVE_ORDER"), (0, u "Ljava/util/Comparator;"), (500, u "serialPersistentFields"), (0, u "[Ljava/io/ObjectStreamField;"), (0, .class_ 1104), (0, u "java/lang/String$CaseInsensitiveComparator"), (1, .class_ 1107), (0, u "java/io/Serializable"), (0, .class_ 1109), (0, u "java/lang/Comparable"), (0, .class_ 1111), (0, u "java/lang/constant/Constable"), (0, .class_ 1113), (0, u "java/lang/constant/ConstantDesc"), (2, u "serialVersionUID"), (0, u "J"), (3, u "REPL"), (0, u "C"), (2, u "LATIN1"), (1, u "UTF16")] 323

def k18m0 : Method := { name := "<init>", desc := "()V", sig := { parameters := [], returnType := none }, accessFlags := 1, code := none }
/-- java/lang/String -/
def k18 : Class := { plain "java/lang/String" (some 0) with
  accessFlags := 49
  interfaces := #[10, 14, 15, 16, 17]
  cf := some (fileOf pool18 10 #[.nestMembers #[1103]] #[{ accessFlags := 1, nameIndex := 5, descriptorIndex := 6, attributes := #[] }] 49 2 #[1106, 1108, 575, 1110, 1112] #[{ accessFlags := 18, nameIndex := 13, descriptorIndex := 14, attributes := #[] }, { accessFlags := 18, nameIndex := 17, descriptorIndex := 18, attributes := #[] }, { accessFlags := 2, nameIndex := 21, descriptorIndex := 22, attributes := #[] }, { accessFlags := 2, nameIndex := 25, descriptorIndex := 26, attributes := #[] }, { accessFlags := 26, nameIndex := 1116, descriptorIndex := 1117, attributes := #[] }, { accessFlags := 24, nameIndex := 40, descriptorIndex := 26, attributes := #[] }, { accessFlags := 26, nameIndex := 1101, descriptorIndex := 1102, attributes := #[] }, { accessFlags := 26, nameIndex := 1121, descriptorIndex := 1122, attributes := #[] }, { accessFlags := 25, nameIndex := 599, descriptorIndex := 600, attributes := #[] }, { accessFlags := 24, nameIndex := 1125, descriptorIndex := 18, attributes := #[] }, { accessFlags := 24, nameIndex := 1127, descriptorIndex := 18, attributes := #[] }])
  fields := #[{ name := "value", type := (.array .byte), accessFlags := 18, slot := 0, constantValue := 0 }, { name := "coder", type := .byte, accessFlags := 18, slot := 1, constantValue := 0 }, { name := "hash", type := .int, accessFlags := 2, slot := 2, constantValue := 0 }, { name := "hashIsZero", type := .boolean, accessFlags := 2, slot := 3, constantValue := 0 }, { name := "serialVersionUID", type := .long, accessFlags := 26, slot := 0, constantValue := 0 }, { name := "COMPACT_STRINGS", type := .boolean, accessFlags := 24, slot := 1, constantValue := 0 }, { name := "serialPersistentFields", type := (.array (.object "java/io/ObjectStreamField")), accessFlags := 26, slot := 2, constantValue := 0 }, { name := "REPL", type := .char, accessFlags := 26, slot := 3, constantValue := 0 }, { name := "CASE_INSENSITIVE_ORDER", type := (.object "java/util/Comparator"), accessFlags := 25, slot := 4, constantValue := 0 }, { name := "LATIN1", type := .byte, accessFlags := 24, slot := 5, constantValue := 0 }, { name := "UTF16", type := .byte, accessFlags := 24, slot := 6, constantValue := 0 }]
  methods := #[k18m0]
  instanceTypes := #[(.array .byte), .byte, .int, .boolean]
  staticTypes := #[.long, .boolean, (.array (.object "java/io/ObjectStreamField")), .char, (.object "java/util/Comparator"), .byte, .byte]
  resolved := Array.replicate 1451 none
  statics := none }

def pool19 : Array CpInfo := pool [(1, .methodref 2 3), (0, .class_ 4), (0, .nameAndType 5 6), (0, u "java/lang/Object"), (0, u "<init>"), (0, u "()V"), (1, .class_ 10), (1, u "java/lang/Number"), (2, .class_ 14), (0, u "java/io/Serializable"), (0, u "serialVersionUID"), (0, u "J")] 20

def k19c0 : Code := { maxStack := 1, maxLocals := 1, code := jdk_18_method_1_code, exceptionTable := #[], attributes := #[] }
def k19m0 : Method := { name := "<init>", desc := "()V", sig := { parameters := [], returnType := none }, accessFlags := 1, code := some k19c0 }
/-- java/lang/Number -/
def k19 : Class := { plain "java/lang/Number" (some 0) with
  accessFlags := 1057
  interfaces := #[10]
  cf := some (fileOf pool19 8 #[] #[{ accessFlags := 1, nameIndex := 5, descriptorIndex := 6, attributes := #[] }] 1057 2 #[13] #[{ accessFlags := 26, nameIndex := 15, descriptorIndex := 16, attributes := #[] }])
  fields := #[{ name := "serialVersionUID", type := .long, accessFlags := 26, slot := 0, constantValue := 0 }]
  methods := #[k19m0]
  instanceTypes := #[]
  staticTypes := #[.long]
  resolved := Array.replicate 37 none
  statics := none }

def pool20 : Array CpInfo := pool [(3, .class_ 4), (0, u "java/math/BigDecimal"), (2, .class_ 8), (0, u "java/lang/Long"), (2, .methodref 12 13), (0, .class_ 14), (0, .nameAndType 15 16), (0, u "java/lang/Number"), (0, u "<init>"), (0, u "()V"), (0, .fieldref 3 18), (0, .nameAndType 19 20), (0, u "scale"), (0, u "I"), (0, .fieldref 3 22), (0, .nameAndType 23 20), (0, u "precision"), (0, .fieldref 3 25), (0, .nameAndType 26 27), (0, u "intCompact"), (0, u "J"), (0, .fieldref 3 29), (0, .nameAndType 30 31), (0, u "intVal"), (0, u "Ljava/math/BigInteger;"), (65, u "LONG_TEN_POWERS_TABLE"), (0, u "[J"), (16, u "(J)I"), (9, .long 9223372036854775808), (36, u "()I"), (24, u "ZERO"), (2, u "INFLATED_BIGINT"), (4, u "valueOf"), (10, u "TWO"), (29, .methodref 3 237), (0, .nameAndType 195 238), (0, u "(J)Ljava/math/BigDecimal;"), (4, .methodref 3 244), (0, .nameAndType 15 245), (0, u "(Ljava/math/BigInteger;JII)V"), (0, .fieldref 3 247), (0, .nameAndType 248 249), (0, u "ZERO_THROUGH_TEN"), (0, u "[Ljava/math/BigDecimal;"), (2, u "ZERO_SCALED_BY"), (4, .methodref 3 258), (0, .nameAndType 259 260), (0, u "add"), (0, u "(JIJI)Ljava/math/BigDecimal;"), (8, u "(Ljava/math/BigDecimal;)Ljava/math/BigDecimal;"), (2, u "signum"), (40, u "$assertionsDisabled"), (0, u "Z"), (7, u "(JJ)J"), (5, .methodref 3 329), (0, .nameAndType 195 330), (0, u "(JI)Ljava/math/BigDecimal;"), (5, u "subtract"), (7, u "(JJI)Ljava/math/BigDecimal;"), (133, u "ONE_TENTH"), (0, u "Ljava/math/BigDecimal;"), (5, u "TEN"), (14, .class_ 502), (1, u "java/math/BigDecimal$1"), (15, u "ONE_HALF"), (16, u "ONE"), (60, .methodref 7 597), (0, .nameAndType 272 115), (45, u "stringCache"), (0, u "Ljava/lang/String;"), (52, .class_ 699), (1, u "java/math/BigDecimal$LongOverflow"), (8, u "FLOAT_10_POW"), (0, u "[F"), (39, u "DOUBLE_10_POW"), (0, u "[D"), (19, .class_ 772), (1, u "java/math/BigDecimal$StringBuilderHelper"), (35, u "BIG_TEN_POWERS_TABLE_MAX"), (2, u "BIG_TEN_POWERS_TABLE"), (0, u "[Ljava/math/BigInteger;"), (14, u "THRESHOLDS_TABLE"), (23, .class_ 853), (1, u "java/math/BigDecimal$UnsafeHolder"), (142, .methodref 3 997), (0, .nameAndType 259 322), (2, .methodref 3 1001), (0, .nameAndType 259 344), (66, u "LONGLONG_TEN_POWERS_TABLE"), (0, u "[[J"), (112, u "BIG_TEN_POWERS_TABLE_INITLEN"), (113, .class_ 1297), (0, u "java/lang/Comparable"), (0, u "L"), (0, u "D"), (1, u "P_F"), (1, u "Q_MIN_F"), (1, u "Q_MAX_F"), (1, u "P_D"), (1, u "Q_MIN_D"), (1, u "Q_MAX_D"), (1, u "INFLATED"), (0, u "MAX_COMPACT_DIGITS"), (1, u "serialVersionUID"), (2, u "HALF_LONG_MAX_VALUE"), (0, u "HALF_LONG_MIN_VALUE"), (0, u "ROUND_UP"), (6, u "ROUND_DOWN"), (1, u "ROUND_CEILING"), (1, u "ROUND_FLOOR"), (1, u "ROUND_HALF_UP"), (1, u "ROUND_HALF_DOWN"), (1, u "ROUND_HALF_EVEN"), (1, u "ROUND_UNNECESSARY"), (1, u "DIV_NUM_BASE")] 294

def k20c0 : Code := { maxStack := 3, maxLocals := 6, code := jdk_17_method_1_code, exceptionTable := #[], attributes := #[] }
def k20m0 : Method := { name := "<init>", desc := "(Ljava/math/BigInteger;JII)V", sig := { parameters := [(.object "java/math/BigInteger"), .long, .int, .int], returnType := none }, accessFlags := 0, code := some k20c0 }
def k20c1 : Code := { maxStack := 7, maxLocals := 3, code := jdk_17_method_20_code, exceptionTable := #[], attributes := #[] }
def k20m1 : Method := { name := "valueOf", desc := "(JI)Ljava/math/BigDecimal;", sig := { parameters := [.long, .int], returnType := some (.object "java/math/BigDecimal") }, accessFlags := 9, code := some k20c1 }
def k20c2 : Code := { maxStack := 7, maxLocals := 2, code := jdk_17_method_21_code, exceptionTable := #[], attributes := #[] }
def k20m2 : Method := { name := "valueOf", desc := "(J)Ljava/math/BigDecimal;", sig := { parameters := [.long], returnType := some (.object "java/math/BigDecimal") }, accessFlags := 9, code := some k20c2 }
def k20c3 : Code := { maxStack := 6, maxLocals := 2, code := jdk_17_method_26_code, exceptionTable := #[], attributes := #[] }
def k20m3 : Method := { name := "add", desc := "(Ljava/math/BigDecimal;)Ljava/math/BigDecimal;", sig := { parameters := [(.object "java/math/BigDecimal")], returnType := some (.object "java/math/BigDecimal") }, accessFlags := 1, code := some k20c3 }
def k20c4 : Code := { maxStack := 6, maxLocals := 2, code := jdk_17_method_29_code, exceptionTable := #[], attributes := #[] }
def k20m4 : Method := { name := "subtract", desc := "(Ljava/math/BigDecimal;)Ljava/math/BigDecimal;", sig := { parameters := [(.object "java/math/BigDecimal")], returnType := some (.object "java/math/BigDecimal") }, accessFlags := 1, code := some k20c4 }
def k20c5 : Code := { maxStack := 4, maxLocals := 1, code := jdk_17_method_58_code, exceptionTable := #[], attributes := #[] }
def k20m5 : Method := { name := "signum", desc := "()I", sig := { parameters := [], returnType := some .int }, accessFlags := 1, code := some k20c5 }
def k20c6 : Code := { maxStack := 6, maxLocals := 6, code := jdk_17_method_132_code, exceptionTable := #[], attributes := #[] }
def k20m6 : Method := { name := "add", desc := "(JJ)J", sig := { parameters := [.long, .long], returnType := some .long }, accessFlags := 10, code := some k20c6 }
def k20c7 : Code := { maxStack := 5, maxLocals := 7, code := jdk_17_method_133_code, exceptionTable := #[], attributes := #[] }
def k20m7 : Method := { name := "add", desc := "(JJI)Ljava/math/BigDecimal;", sig := { parameters := [.long, .long, .int], returnType := some (.object "java/math/BigDecimal") }, accessFlags := 10, code := some k20c7 }
def k20c8 : Code := { maxStack := 7, maxLocals := 12, code := jdk_17_method_134_code, exceptionTable := #[], attributes := #[] }
def k20m8 : Method := { name := "add", desc := "(JIJI)Ljava/math/BigDecimal;", sig := { parameters := [.long, .int, .long, .int], returnType := some (.object "java/math/BigDecimal") }, accessFlags := 10, code := some k20c8 }
/-- java/math/BigDecimal -/
def k20 : Class := { plain "java/math/BigDecimal" (some 19) with
  accessFlags := 33
  interfaces := #[14]
  cf := some (fileOf pool20 3 #[.nestMembers #[500, 851, 770, 697]] #[{ accessFlags := 0, nameIndex := 15, descriptorIndex := 245, attributes := #[] }, { accessFlags := 9, nameIndex := 195, descriptorIndex := 330, attributes := #[] }, { accessFlags := 9, nameIndex := 195, descriptorIndex := 238, attributes := #[] }, { accessFlags := 1, nameIndex := 259, descriptorIndex := 269, attributes := #[] }, { accessFlags := 1, nameIndex := 336, descriptorIndex := 269, attributes := #[] }, { accessFlags := 1, nameIndex := 272, descriptorIndex := 162, attributes := #[] }, { accessFlags := 10, nameIndex := 259, descriptorIndex := 322, attributes := #[] }, { accessFlags := 10, nameIndex := 259, descriptorIndex := 344, attributes := #[] }, { accessFlags := 10, nameIndex := 259, descriptorIndex := 260, attributes := #[] }] 33 12 #[1296] #[{ accessFlags := 26, nameIndex := 1298, descriptorIndex := 1299, attributes := #[] }, { accessFlags := 26, nameIndex := 1301, descriptorIndex := 20, attributes := #[] }, { accessFlags := 26, nameIndex := 1303, descriptorIndex := 20, attributes := #[] }, { accessFlags := 26, nameIndex := 1305, descriptorIndex := 20, attributes := #[] }, { accessFlags := 26, nameIndex := 1307, descriptorIndex := 20, attributes := #[] }, { accessFlags := 26, nameIndex := 1309, descriptorIndex := 20, attributes := #[] }, { accessFlags := 26, nameIndex := 1311, descriptorIndex := 20, attributes := #[] }, { accessFlags := 18, nameIndex := 30, descriptorIndex := 31, attributes := #[] }, { accessFlags := 18, nameIndex := 19, descriptorIndex := 20, attributes := #[] }, { accessFlags := 130, nameIndex := 23, descriptorIndex := 20, attributes := #[] }, { accessFlags := 130, nameIndex := 643, descriptorIndex := 644, attributes := #[] }, { accessFlags := 24, nameIndex := 1313, descriptorIndex := 27, attributes := #[] }, { accessFlags := 26, nameIndex := 190, descriptorIndex := 31, attributes := #[] }, { accessFlags := 146, nameIndex := 26, descriptorIndex := 27, attributes := #[] }, { accessFlags := 26, nameIndex := 1314, descriptorIndex := 20, attributes := #[] }, { accessFlags := 26, nameIndex := 1316, descriptorIndex := 27, attributes := #[] }, { accessFlags := 26, nameIndex := 248, descriptorIndex := 249, attributes := #[] }, { accessFlags := 26, nameIndex := 252, descriptorIndex := 249, attributes := #[] }, { accessFlags := 26, nameIndex := 1319, descriptorIndex := 27, attributes := #[] }, { accessFlags := 26, nameIndex := 1320, descriptorIndex := 27, attributes := #[] }, { accessFlags := 25, nameIndex := 187, descriptorIndex := 479, attributes := #[] }, { accessFlags := 25, nameIndex := 535, descriptorIndex := 479, attributes := #[] }, { accessFlags := 25, nameIndex := 206, descriptorIndex := 479, attributes := #[] }, { accessFlags := 25, nameIndex := 485, descriptorIndex := 479, attributes := #[] }, { accessFlags := 26, nameIndex := 478, descriptorIndex := 479, attributes := #[] }, { accessFlags := 26, nameIndex := 518, descriptorIndex := 479, attributes := #[] }, { accessFlags := 25, nameIndex := 1321, descriptorIndex := 20, attributes := #[] }, { accessFlags := 25, nameIndex := 1328, descriptorIndex := 20, attributes := #[] }, { accessFlags := 25, nameIndex := 1330, descriptorIndex := 20, attributes := #[] }, { accessFlags := 25, nameIndex := 1332, descriptorIndex := 20, attributes := #[] }, { accessFlags := 25, nameIndex := 1334, descriptorIndex := 20, attributes := #[] }, { accessFlags := 25, nameIndex := 1336, descriptorIndex := 20, attributes := #[] }, { accessFlags := 25, nameIndex := 1338, descriptorIndex := 20, attributes := #[] }, { accessFlags := 25, nameIndex := 1340, descriptorIndex := 20, attributes := #[] }, { accessFlags := 26, nameIndex := 749, descriptorIndex := 750, attributes := #[] }, { accessFlags := 26, nameIndex := 708, descriptorIndex := 709, attributes := #[] }, { accessFlags := 26, nameIndex := 97, descriptorIndex := 98, attributes := #[] }, { accessFlags := 74, nameIndex := 811, descriptorIndex := 812, attributes := #[] }, { accessFlags := 26, nameIndex := 1182, descriptorIndex := 20, attributes := #[] }, { accessFlags := 26, nameIndex := 808, descriptorIndex := 20, attributes := #[] }, { accessFlags := 26, nameIndex := 827, descriptorIndex := 98, attributes := #[] }, { accessFlags := 26, nameIndex := 1342, descriptorIndex := 27, attributes := #[] }, { accessFlags := 26, nameIndex := 1068, descriptorIndex := 1069, attributes := #[] }, { accessFlags := 4120, nameIndex := 313, descriptorIndex := 314, attributes := #[] }])
  fields := #[{ name := "L", type := .double, accessFlags := 26, slot := 0, constantValue := 0 }, { name := "P_F", type := .int, accessFlags := 26, slot := 1, constantValue := 0 }, { name := "Q_MIN_F", type := .int, accessFlags := 26, slot := 2, constantValue := 0 }, { name := "Q_MAX_F", type := .int, accessFlags := 26, slot := 3, constantValue := 0 }, { name := "P_D", type := .int, accessFlags := 26, slot := 4, constantValue := 0 }, { name := "Q_MIN_D", type := .int, accessFlags := 26, slot := 5, constantValue := 0 }, { name := "Q_MAX_D", type := .int, accessFlags := 26, slot := 6, constantValue := 0 }, { name := "intVal", type := (.object "java/math/BigInteger"), accessFlags := 18, slot := 0, constantValue := 0 }, { name := "scale", type := .int, accessFlags := 18, slot := 1, constantValue := 0 }, { name := "precision", type := .int, accessFlags := 130, slot := 2, constantValue := 0 }, { name := "stringCache", type := (.object "java/lang/String"), accessFlags := 130, slot := 3, constantValue := 0 }, { name := "INFLATED", type := .long, accessFlags := 24, slot := 7, constantValue := 0 }, { name := "INFLATED_BIGINT", type := (.object "java/math/BigInteger"), accessFlags := 26, slot := 8, constantValue := 0 }, { name := "intCompact", type := .long, accessFlags := 146, slot := 4, constantValue := 0 }, { name := "MAX_COMPACT_DIGITS", type := .int, accessFlags := 26, slot := 9, constantValue := 0 }, { name := "serialVersionUID", type := .long, accessFlags := 26, slot := 10, constantValue := 0 }, { name := "ZERO_THROUGH_TEN", type := (.array (.object "java/math/BigDecimal")), accessFlags := 26, slot := 11, constantValue := 0 }, { name := "ZERO_SCALED_BY", type := (.array (.object "java/math/BigDecimal")), accessFlags := 26, slot := 12, constantValue := 0 }, { name := "HALF_LONG_MAX_VALUE", type := .long, accessFlags := 26, slot := 13, constantValue := 0 }, { name := "HALF_LONG_MIN_VALUE", type := .long, accessFlags := 26, slot := 14, constantValue := 0 }, { name := "ZERO", type := (.object "java/math/BigDecimal"), accessFlags := 25, slot := 15, constantValue := 0 }, { name := "ONE", type := (.object "java/math/BigDecimal"), accessFlags := 25, slot := 16, constantValue := 0 }, { name := "TWO", type := (.object "java/math/BigDecimal"), accessFlags := 25, slot := 17, constantValue := 0 }, { name := "TEN", type := (.object "java/math/BigDecimal"), accessFlags := 25, slot := 18, constantValue := 0 }, { name := "ONE_TENTH", type := (.object "java/math/BigDecimal"), accessFlags := 26, slot := 19, constantValue := 0 }, { name := "ONE_HALF", type := (.object "java/math/BigDecimal"), accessFlags := 26, slot := 20, constantValue := 0 }, { name := "ROUND_UP", type := .int, accessFlags := 25, slot := 21, constantValue := 0 }, { name := "ROUND_DOWN", type := .int, accessFlags := 25, slot := 22, constantValue := 0 }, { name := "ROUND_CEILING", type := .int, accessFlags := 25, slot := 23, constantValue := 0 }, { name := "ROUND_FLOOR", type := .int, accessFlags := 25, slot := 24, constantValue := 0 }, { name := "ROUND_HALF_UP", type := .int, accessFlags := 25, slot := 25, constantValue := 0 }, { name := "ROUND_HALF_DOWN", type := .int, accessFlags := 25, slot := 26, constantValue := 0 }, { name := "ROUND_HALF_EVEN", type := .int, accessFlags := 25, slot := 27, constantValue := 0 }, { name := "ROUND_UNNECESSARY", type := .int, accessFlags := 25, slot := 28, constantValue := 0 }, { name := "DOUBLE_10_POW", type := (.array .double), accessFlags := 26, slot := 29, constantValue := 0 }, { name := "FLOAT_10_POW", type := (.array .float), accessFlags := 26, slot := 30, constantValue := 0 }, { name := "LONG_TEN_POWERS_TABLE", type := (.array .long), accessFlags := 26, slot := 31, constantValue := 0 }, { name := "BIG_TEN_POWERS_TABLE", type := (.array (.object "java/math/BigInteger")), accessFlags := 74, slot := 32, constantValue := 0 }, { name := "BIG_TEN_POWERS_TABLE_INITLEN", type := .int, accessFlags := 26, slot := 33, constantValue := 0 }, { name := "BIG_TEN_POWERS_TABLE_MAX", type := .int, accessFlags := 26, slot := 34, constantValue := 0 }, { name := "THRESHOLDS_TABLE", type := (.array .long), accessFlags := 26, slot := 35, constantValue := 0 }, { name := "DIV_NUM_BASE", type := .long, accessFlags := 26, slot := 36, constantValue := 0 }, { name := "LONGLONG_TEN_POWERS_TABLE", type := (.array (.array .long)), accessFlags := 26, slot := 37, constantValue := 0 }, { name := "$assertionsDisabled", type := .boolean, accessFlags := 4120, slot := 38, constantValue := 0 }]
  methods := #[k20m0, k20m1, k20m2, k20m3, k20m4, k20m5, k20m6, k20m7, k20m8]
  instanceTypes := #[(.object "java/math/BigInteger"), .int, .int, (.object "java/lang/String"), .long]
  staticTypes := #[.double, .int, .int, .int, .int, .int, .int, .long, (.object "java/math/BigInteger"), .int, .long, (.array (.object "java/math/BigDecimal")), (.array (.object "java/math/BigDecimal")), .long, .long, (.object "java/math/BigDecimal"), (.object "java/math/BigDecimal"), (.object "java/math/BigDecimal"), (.object "java/math/BigDecimal"), (.object "java/math/BigDecimal"), (.object "java/math/BigDecimal"), .int, .int, .int, .int, .int, .int, .int, .int, (.array .double), (.array .float), (.array .long), (.array (.object "java/math/BigInteger")), .int, .int, (.array .long), .long, (.array (.array .long)), .boolean]
  resolved := Array.replicate 1637 none
  statics := some 1 }

def pool21 : Array CpInfo := pool [(1, .class_ 2), (0, u "java/lang/Math"), (1, .class_ 6), (1, u "java/lang/Object"), (0, u "<init>"), (0, u "()V"), (89, .class_ 100), (1, u "java/lang/Math$RandomNumberGeneratorHolder"), (71, u "negativeZeroFloatBits"), (0, u "J"), (2, u "negativeZeroDoubleBits"), (21, u "max"), (46, u "$assertionsDisabled"), (0, u "Z"), (88, u "(II)I"), (2, u "twoToTheDoubleScaleDown"), (0, u "D"), (4, u "twoToTheDoubleScaleUp"), (9, u "E"), (3, u "PI"), (2, u "TAU"), (2, u "DEGREES_TO_RADIANS"), (0, u "RADIANS_TO_DEGREES")] 94

def k21m0 : Method := { name := "<init>", desc := "()V", sig := { parameters := [], returnType := none }, accessFlags := 2, code := none }
def k21c1 : Code := { maxStack := 2, maxLocals := 2, code := jdk_29_method_65_code, exceptionTable := #[], attributes := #[] }
def k21m1 : Method := { name := "max", desc := "(II)I", sig := { parameters := [.int, .int], returnType := some .int }, accessFlags := 9, code := some k21c1 }
/-- java/lang/Math -/
def k21 : Class := { plain "java/lang/Math" (some 0) with
  accessFlags := 49
  interfaces := #[]
  cf := some (fileOf pool21 1 #[.nestMembers #[98]] #[{ accessFlags := 2, nameIndex := 7, descriptorIndex := 8, attributes := #[] }, { accessFlags := 9, nameIndex := 198, descriptorIndex := 335, attributes := #[] }] 49 4 #[] #[{ accessFlags := 25, nameIndex := 354, descriptorIndex := 339, attributes := #[] }, { accessFlags := 25, nameIndex := 358, descriptorIndex := 339, attributes := #[] }, { accessFlags := 25, nameIndex := 361, descriptorIndex := 339, attributes := #[] }, { accessFlags := 26, nameIndex := 364, descriptorIndex := 339, attributes := #[] }, { accessFlags := 26, nameIndex := 365, descriptorIndex := 339, attributes := #[] }, { accessFlags := 26, nameIndex := 172, descriptorIndex := 173, attributes := #[] }, { accessFlags := 26, nameIndex := 176, descriptorIndex := 173, attributes := #[] }, { accessFlags := 8, nameIndex := 344, descriptorIndex := 339, attributes := #[] }, { accessFlags := 8, nameIndex := 338, descriptorIndex := 339, attributes := #[] }, { accessFlags := 4120, nameIndex := 245, descriptorIndex := 246, attributes := #[] }])
  fields := #[{ name := "E", type := .double, accessFlags := 25, slot := 0, constantValue := 0 }, { name := "PI", type := .double, accessFlags := 25, slot := 1, constantValue := 0 }, { name := "TAU", type := .double, accessFlags := 25, slot := 2, constantValue := 0 }, { name := "DEGREES_TO_RADIANS", type := .double, accessFlags := 26, slot := 3, constantValue := 0 }, { name := "RADIANS_TO_DEGREES", type := .double, accessFlags := 26, slot := 4, constantValue := 0 }, { name := "negativeZeroFloatBits", type := .long, accessFlags := 26, slot := 5, constantValue := 0 }, { name := "negativeZeroDoubleBits", type := .long, accessFlags := 26, slot := 6, constantValue := 0 }, { name := "twoToTheDoubleScaleUp", type := .double, accessFlags := 8, slot := 7, constantValue := 0 }, { name := "twoToTheDoubleScaleDown", type := .double, accessFlags := 8, slot := 8, constantValue := 0 }, { name := "$assertionsDisabled", type := .boolean, accessFlags := 4120, slot := 9, constantValue := 0 }]
  methods := #[k21m0, k21m1]
  instanceTypes := #[]
  staticTypes := #[.double, .double, .double, .double, .double, .long, .long, .double, .double, .boolean]
  resolved := Array.replicate 460 none
  statics := none }

def pool22 : Array CpInfo := pool [(1, .methodref 2 3), (0, .class_ 4), (0, .nameAndType 5 6), (0, u "java/lang/Object"), (0, u "<init>"), (0, u "()V"), (0, .fieldref 8 9), (0, .class_ 10), (0, .nameAndType 11 12), (0, u "com/example/slotwright/slotwright/Ledger"), (0, u "advertisers"), (0, u "Ljava/util/List;"), (0, .interfaceMethodref 14 15), (0, .class_ 16), (0, .nameAndType 17 18), (0, u "java/util/List"), (0, u "size"), (0, u "()I"), (0, .class_ 20), (0, u "java/math/BigDecimal"), (0, .fieldref 8 22), (0, .nameAndType 23 24), (0, u "spent"), (0, u "[Ljava/math/BigDecimal;"), (0, .fieldref 8 26), (0, .nameAndType 27 24), (0, u "remaining"), (0, .fieldref 19 29), (0, .nameAndType 30 31), (0, u "ZERO"), (0, u "Ljava/math/BigDecimal;"), (0, .methodref 33 34), (0, .class_ 35), (0, .nameAndType 36 37), (0, u "java/util/Arrays"), (0, u "fill"), (0, u "([Ljava/lang/Object;Ljava/lang/Object;)V"), (0, .interfaceMethodref 14 39), (0, .nameAndType 40 41), (0, u "get"), (0, u "(I)Ljava/lang/Object;"), (0, .class_ 43), (0, u "com/example/slotwright/slotwright/Market$Advertiser"), (0, .methodref 42 45), (0, .nameAndType 46 47), (0, u "budget"), (0, u "()Ljava/math/BigDecimal;"), (1, .class_ 51), (1, u "com/example/slotwright/slotwright/Ledger$Charge"), (6, u "charge"), (0, u "(ILjava/math/BigDecimal;)V"), (0, .methodref 19 61), (0, .nameAndType 62 63), (0, u "add"), (0, u "(Ljava/math/BigDecimal;)Ljava/math/BigDecimal;"), (0, .methodref 19 65), (0, .nameAndType 66 63), (0, u "subtract"), (8, .methodref 19 76), (0, .nameAndType 77 18), (0, u "signum"), (2, u "(Ljava/util/List;)V"), (10, u "overspent")] 9

def k22c0 : Code := { maxStack := 4, maxLocals := 3, code := prog_23_method_1_code, exceptionTable := #[], attributes := #[] }
def k22m0 : Method := { name := "<init>", desc := "(Ljava/util/List;)V", sig := { parameters := [(.object "java/util/List")], returnType := none }, accessFlags := 0, code := some k22c0 }
def k22c1 : Code := { maxStack := 4, maxLocals := 3, code := prog_23_method_3_code, exceptionTable := #[], attributes := #[] }
def k22m1 : Method := { name := "charge", desc := "(ILjava/math/BigDecimal;)V", sig := { parameters := [.int, (.object "java/math/BigDecimal")], returnType := none }, accessFlags := 0, code := some k22c1 }
def k22c2 : Code := { maxStack := 2, maxLocals := 6, code := prog_23_method_9_code, exceptionTable := #[], attributes := #[] }
def k22m2 : Method := { name := "overspent", desc := "()I", sig := { parameters := [], returnType := some .int }, accessFlags := 0, code := some k22c2 }
/-- com/example/slotwright/slotwright/Ledger -/
def k22 : Class := { plain "com/example/slotwright/slotwright/Ledger" (some 0) with
  accessFlags := 48
  interfaces := #[]
  cf := some (fileOf pool22 8 #[.nestMembers #[49]] #[{ accessFlags := 0, nameIndex := 5, descriptorIndex := 80, attributes := #[] }, { accessFlags := 0, nameIndex := 58, descriptorIndex := 59, attributes := #[] }, { accessFlags := 0, nameIndex := 91, descriptorIndex := 18, attributes := #[] }] 48 2 #[] #[{ accessFlags := 18, nameIndex := 11, descriptorIndex := 12, attributes := #[] }, { accessFlags := 18, nameIndex := 23, descriptorIndex := 24, attributes := #[] }, { accessFlags := 18, nameIndex := 27, descriptorIndex := 24, attributes := #[] }])
  fields := #[{ name := "advertisers", type := (.object "java/util/List"), accessFlags := 18, slot := 0, constantValue := 0 }, { name := "spent", type := (.array (.object "java/math/BigDecimal")), accessFlags := 18, slot := 1, constantValue := 0 }, { name := "remaining", type := (.array (.object "java/math/BigDecimal")), accessFlags := 18, slot := 2, constantValue := 0 }]
  methods := #[k22m0, k22m1, k22m2]
  instanceTypes := #[(.object "java/util/List"), (.array (.object "java/math/BigDecimal")), (.array (.object "java/math/BigDecimal"))]
  staticTypes := #[]
  resolved := Array.replicate 101 none
  statics := none }

def pool23 : Array CpInfo := pool [(2, .class_ 4), (1, u "java/lang/Object"), (0, u "<init>"), (0, u "()V"), (7, .class_ 16), (1, u "java/util/Arrays"), (57, .class_ 76), (1, u "java/util/Arrays$NaturalOrder"), (36, .class_ 115), (1, u "java/util/Arrays$LegacyMergeSort"), (1, u "Z"), (257, .class_ 376), (0, u "java/util/Arrays$ArrayList"), (68, u "$assertionsDisabled"), (269, u "MIN_ARRAY_SORT_GRAN"), (0, u "I"), (2, u "INSERTIONSORT_THRESHOLD"), (120, u "fill"), (17, u "([Ljava/lang/Object;Ljava/lang/Object;)V"), (116, .class_ 976), (0, u "java/util/Arrays$ArrayItr")] 52

def k23m0 : Method := { name := "<init>", desc := "()V", sig := { parameters := [], returnType := none }, accessFlags := 2, code := none }
def k23c1 : Code := { maxStack := 3, maxLocals := 4, code := jdk_65_method_117_code, exceptionTable := #[], attributes := #[] }
def k23m1 : Method := { name := "fill", desc := "([Ljava/lang/Object;Ljava/lang/Object;)V", sig := { parameters := [(.array (.object "java/lang/Object")), (.object "java/lang/Object")], returnType := none }, accessFlags := 9, code := some k23c1 }
/-- java/util/Arrays -/
def k23 : Class := { plain "java/util/Arrays" (some 0) with
  accessFlags := 49
  interfaces := #[]
  cf := some (fileOf pool23 14 #[.nestMembers #[975, 375, 113, 74]] #[{ accessFlags := 2, nameIndex := 5, descriptorIndex := 6, attributes := #[] }, { accessFlags := 9, nameIndex := 840, descriptorIndex := 858, attributes := #[] }] 49 2 #[] #[{ accessFlags := 26, nameIndex := 715, descriptorIndex := 716, attributes := #[] }, { accessFlags := 26, nameIndex := 719, descriptorIndex := 716, attributes := #[] }, { accessFlags := 4120, nameIndex := 445, descriptorIndex := 117, attributes := #[] }])
  fields := #[{ name := "MIN_ARRAY_SORT_GRAN", type := .int, accessFlags := 26, slot := 0, constantValue := 0 }, { name := "INSERTIONSORT_THRESHOLD", type := .int, accessFlags := 26, slot := 1, constantValue := 0 }, { name := "$assertionsDisabled", type := .boolean, accessFlags := 4120, slot := 2, constantValue := 0 }]
  methods := #[k23m0, k23m1]
  instanceTypes := #[]
  staticTypes := #[.int, .int, .boolean]
  resolved := Array.replicate 1029 none
  statics := none }

def pool24 : Array CpInfo := pool [(2, .class_ 4), (1, u "java/lang/Object"), (0, u "<init>"), (0, u "()V"), (35, .class_ 44), (1, u "java/util/Objects"), (60, .methodref 106 107), (0, .class_ 108), (0, .nameAndType 109 110), (0, u "jdk/internal/util/Preconditions"), (0, u "checkIndex"), (0, u "(IILjava/util/function/BiFunction;)I"), (60, u "(II)I")] 12

def k24m0 : Method := { name := "<init>", desc := "()V", sig := { parameters := [], returnType := none }, accessFlags := 2, code := none }
def k24c1 : Code := { maxStack := 3, maxLocals := 2, code := jdk_31_method_17_code, exceptionTable := #[], attributes := #[] }
def k24m1 : Method := { name := "checkIndex", desc := "(II)I", sig := { parameters := [.int, .int], returnType := some .int }, accessFlags := 9, code := some k24c1 }
/-- java/util/Objects -/
def k24 : Class := { plain "java/util/Objects" (some 0) with
  accessFlags := 49
  interfaces := #[]
  cf := some (fileOf pool24 42 #[] #[{ accessFlags := 2, nameIndex := 5, descriptorIndex := 6, attributes := #[] }, { accessFlags := 9, nameIndex := 109, descriptorIndex := 171, attributes := #[] }] 49 2 #[] #[])
  fields := #[]
  methods := #[k24m0, k24m1]
  instanceTypes := #[]
  staticTypes := #[]
  resolved := Array.replicate 184 none
  statics := none }

def pool25 : Array CpInfo := pool [(2, .class_ 4), (1, u "java/lang/Object"), (0, u "<init>"), (0, u "()V"), (17, .class_ 26), (1, u "jdk/internal/util/Preconditions"), (6, u "checkIndex"), (21, .class_ 56), (0, u "jdk/internal/util/Preconditions$4"), (57, .class_ 115), (0, u "jdk/internal/util/Preconditions$1"), (7, u "SIOOBE_FORMATTER"), (0, u "Ljava/util/function/BiFunction;"), (0, .class_ 126), (0, u "jdk/internal/util/Preconditions$2"), (3, u "AIOOBE_FORMATTER"), (0, .class_ 132), (0, u "jdk/internal/util/Preconditions$3"), (3, u "IOOBE_FORMATTER"), (41, u "(IILjava/util/function/BiFunction;)I")] 15

def k25m0 : Method := { name := "<init>", desc := "()V", sig := { parameters := [], returnType := none }, accessFlags := 1, code := none }
def k25c1 : Code := { maxStack := 3, maxLocals := 3, code := jdk_41_method_11_code, exceptionTable := #[], attributes := #[] }
def k25m1 : Method := { name := "checkIndex", desc := "(IILjava/util/function/BiFunction;)I", sig := { parameters := [.int, .int, (.object "java/util/function/BiFunction")], returnType := some .int }, accessFlags := 9, code := some k25c1 }
/-- jdk/internal/util/Preconditions -/
def k25 : Class := { plain "jdk/internal/util/Preconditions" (some 0) with
  accessFlags := 33
  interfaces := #[]
  cf := some (fileOf pool25 24 #[.nestMembers #[55, 131, 125, 114]] #[{ accessFlags := 1, nameIndex := 5, descriptorIndex := 6, attributes := #[] }, { accessFlags := 9, nameIndex := 33, descriptorIndex := 178, attributes := #[] }] 33 2 #[] #[{ accessFlags := 25, nameIndex := 123, descriptorIndex := 124, attributes := #[] }, { accessFlags := 25, nameIndex := 130, descriptorIndex := 124, attributes := #[] }, { accessFlags := 25, nameIndex := 136, descriptorIndex := 124, attributes := #[] }])
  fields := #[{ name := "SIOOBE_FORMATTER", type := (.object "java/util/function/BiFunction"), accessFlags := 25, slot := 0, constantValue := 0 }, { name := "AIOOBE_FORMATTER", type := (.object "java/util/function/BiFunction"), accessFlags := 25, slot := 1, constantValue := 0 }, { name := "IOOBE_FORMATTER", type := (.object "java/util/function/BiFunction"), accessFlags := 25, slot := 2, constantValue := 0 }]
  methods := #[k25m0, k25m1]
  instanceTypes := #[]
  staticTypes := #[(.object "java/util/function/BiFunction"), (.object "java/util/function/BiFunction"), (.object "java/util/function/BiFunction")]
  resolved := Array.replicate 194 none
  statics := none }

def pool26 : Array CpInfo := pool [(1, .class_ 2), (0, u "java/lang/Long"), (98, u "(J)I"), (133, .class_ 237), (1, u "java/lang/Long$LongCache"), (33, .class_ 272), (0, u "java/lang/Number"), (2, u "value"), (0, u "J"), (84, u "TYPE"), (0, u "Ljava/lang/Class;"), (0, .class_ 364), (0, u "java/lang/Comparable"), (0, .class_ 366), (0, u "java/lang/constant/Constable"), (0, .class_ 368), (0, u "java/lang/constant/ConstantDesc"), (0, u "MIN_VALUE"), (1, u "MAX_VALUE"), (4, u "SIZE"), (0, u "I"), (1, u "BYTES"), (1, u "serialVersionUID"), (115, u "signum")] 26

def k26c0 : Code := { maxStack := 5, maxLocals := 2, code := jdk_35_method_57_code, exceptionTable := #[], attributes := #[] }
def k26m0 : Method := { name := "signum", desc := "(J)I", sig := { parameters := [.long], returnType := some .int }, accessFlags := 9, code := some k26c0 }
/-- java/lang/Long -/
def k26 : Class := { plain "java/lang/Long" (some 19) with
  accessFlags := 49
  interfaces := #[14, 16, 17]
  cf := some (fileOf pool26 1 #[.nestMembers #[235]] #[{ accessFlags := 9, nameIndex := 497, descriptorIndex := 101, attributes := #[] }] 49 271 #[363, 365, 367] #[{ accessFlags := 25, nameIndex := 369, descriptorIndex := 276, attributes := #[] }, { accessFlags := 25, nameIndex := 371, descriptorIndex := 276, attributes := #[] }, { accessFlags := 25, nameIndex := 361, descriptorIndex := 362, attributes := #[] }, { accessFlags := 18, nameIndex := 275, descriptorIndex := 276, attributes := #[] }, { accessFlags := 25, nameIndex := 376, descriptorIndex := 377, attributes := #[] }, { accessFlags := 25, nameIndex := 379, descriptorIndex := 377, attributes := #[] }, { accessFlags := 26, nameIndex := 381, descriptorIndex := 276, attributes := #[] }])
  fields := #[{ name := "MIN_VALUE", type := .long, accessFlags := 25, slot := 0, constantValue := 0 }, { name := "MAX_VALUE", type := .long, accessFlags := 25, slot := 1, constantValue := 0 }, { name := "TYPE", type := (.object "java/lang/Class"), accessFlags := 25, slot := 2, constantValue := 0 }, { name := "value", type := .long, accessFlags := 18, slot := 0, constantValue := 0 }, { name := "SIZE", type := .int, accessFlags := 25, slot := 3, constantValue := 0 }, { name := "BYTES", type := .int, accessFlags := 25, slot := 4, constantValue := 0 }, { name := "serialVersionUID", type := .long, accessFlags := 26, slot := 5, constantValue := 0 }]
  methods := #[k26m0]
  instanceTypes := #[.long]
  staticTypes := #[.long, .long, (.object "java/lang/Class"), .int, .int, .long]
  resolved := Array.replicate 524 none
  statics := none }

def pool27 : Array CpInfo := pool [(4, .class_ 6), (1, u "java/lang/Number"), (16, .class_ 25), (1, u "java/math/BigInteger"), (0, u "ZERO"), (0, u "Ljava/math/BigInteger;"), (2, u "mag"), (0, u "[I"), (2, u "signum"), (0, u "I"), (59, u "bitsPerDigit"), (0, u "[J"), (9, u "digitsPerInt"), (12, u "intRadix"), (60, u "SMALL_PRIME_PRODUCT"), (79, u "ONE"), (6, u "TWO"), (43, u "$assertionsDisabled"), (0, u "Z"), (36, u "posConst"), (0, u "[Ljava/math/BigInteger;"), (4, u "negConst"), (116, .class_ 474), (1, u "java/math/BigInteger$RecursiveOp"), (106, u "NEGATIVE_ONE"), (91, u "bnExpModThreshTable"), (72, u "lowestSetBitPlusTwo"), (2, u "bitLengthPlusOne"), (2, u "bitCountPlusOne"), (6, u "LOG_TWO"), (0, u "D"), (2, u "logCache"), (0, u "[D"), (13, u "NUM_ZEROS"), (2, u "ZEROS"), (0, u "Ljava/lang/String;"), (9, u "longRadix"), (5, u "digitsPerLong"), (22, u "powerCache"), (0, u "[[Ljava/math/BigInteger;"), (45, u "firstNonzeroIntNumPlusTwo"), (38, .class_ 909), (1, u "java/math/BigInteger$UnsafeHolder"), (141, u "TEN"), (106, u "serialPersistentFields"), (0, u "[Ljava/io/ObjectStreamField;"), (0, .class_ 1161), (0, u "java/lang/Comparable"), (0, u "LONG_MASK"), (0, u "J"), (1, u "MAX_MAG_LENGTH"), (0, u "PRIME_SEARCH_BIT_LENGTH_LIMIT"), (1, u "KARATSUBA_THRESHOLD"), (1, u "TOOM_COOK_THRESHOLD"), (1, u "KARATSUBA_SQUARE_THRESHOLD"), (1, u "TOOM_COOK_SQUARE_THRESHOLD"), (1, u "BURNIKEL_ZIEGLER_THRESHOLD"), (0, u "BURNIKEL_ZIEGLER_OFFSET"), (1, u "SCHOENHAGE_BASE_CONVERSION_THRESHOLD"), (1, u "MULTIPLY_SQUARE_THRESHOLD"), (0, u "MONTGOMERY_INTRINSIC_THRESHOLD"), (1, u "SMALL_PRIME_THRESHOLD"), (1, u "DEFAULT_PRIME_CERTAINTY"), (1, u "MAX_CONSTANT"), (3, u "serialVersionUID"), (338, .class_ 1532), (0, u "java/math/BigInteger$RecursiveOp$RecursiveSquare"), (0, .class_ 1534), (0, u "java/math/BigInteger$RecursiveOp$RecursiveMultiply")] 7

/-- java/math/BigInteger -/
def k27 : Class := { plain "java/math/BigInteger" (some 19) with
  accessFlags := 33
  interfaces := #[14]
  cf := some (fileOf pool27 23 #[.nestMembers #[907, 472, 1531, 1533]] #[] 33 4 #[1160] #[{ accessFlags := 16, nameIndex := 34, descriptorIndex := 35, attributes := #[] }, { accessFlags := 16, nameIndex := 30, descriptorIndex := 31, attributes := #[] }, { accessFlags := 2, nameIndex := 752, descriptorIndex := 35, attributes := #[] }, { accessFlags := 2, nameIndex := 749, descriptorIndex := 35, attributes := #[] }, { accessFlags := 2, nameIndex := 746, descriptorIndex := 35, attributes := #[] }, { accessFlags := 2, nameIndex := 868, descriptorIndex := 35, attributes := #[] }, { accessFlags := 24, nameIndex := 1162, descriptorIndex := 1163, attributes := #[] }, { accessFlags := 26, nameIndex := 1165, descriptorIndex := 35, attributes := #[] }, { accessFlags := 26, nameIndex := 1166, descriptorIndex := 35, attributes := #[] }, { accessFlags := 26, nameIndex := 1168, descriptorIndex := 35, attributes := #[] }, { accessFlags := 26, nameIndex := 1170, descriptorIndex := 35, attributes := #[] }, { accessFlags := 26, nameIndex := 1172, descriptorIndex := 35, attributes := #[] }, { accessFlags := 26, nameIndex := 1174, descriptorIndex := 35, attributes := #[] }, { accessFlags := 24, nameIndex := 1176, descriptorIndex := 35, attributes := #[] }, { accessFlags := 24, nameIndex := 1177, descriptorIndex := 35, attributes := #[] }, { accessFlags := 26, nameIndex := 1179, descriptorIndex := 35, attributes := #[] }, { accessFlags := 26, nameIndex := 1181, descriptorIndex := 35, attributes := #[] }, { accessFlags := 26, nameIndex := 1182, descriptorIndex := 35, attributes := #[] }, { accessFlags := 10, nameIndex := 95, descriptorIndex := 96, attributes := #[] }, { accessFlags := 26, nameIndex := 1184, descriptorIndex := 35, attributes := #[] }, { accessFlags := 26, nameIndex := 1186, descriptorIndex := 35, attributes := #[] }, { accessFlags := 26, nameIndex := 180, descriptorIndex := 27, attributes := #[] }, { accessFlags := 26, nameIndex := 1188, descriptorIndex := 35, attributes := #[] }, { accessFlags := 26, nameIndex := 349, descriptorIndex := 350, attributes := #[] }, { accessFlags := 26, nameIndex := 355, descriptorIndex := 350, attributes := #[] }, { accessFlags := 74, nameIndex := 821, descriptorIndex := 822, attributes := #[] }, { accessFlags := 26, nameIndex := 763, descriptorIndex := 764, attributes := #[] }, { accessFlags := 26, nameIndex := 759, descriptorIndex := 760, attributes := #[] }, { accessFlags := 25, nameIndex := 26, descriptorIndex := 27, attributes := #[] }, { accessFlags := 25, nameIndex := 260, descriptorIndex := 27, attributes := #[] }, { accessFlags := 25, nameIndex := 267, descriptorIndex := 27, attributes := #[] }, { accessFlags := 26, nameIndex := 581, descriptorIndex := 27, attributes := #[] }, { accessFlags := 25, nameIndex := 1051, descriptorIndex := 27, attributes := #[] }, { accessFlags := 8, nameIndex := 673, descriptorIndex := 31, attributes := #[] }, { accessFlags := 10, nameIndex := 778, descriptorIndex := 35, attributes := #[] }, { accessFlags := 26, nameIndex := 781, descriptorIndex := 782, attributes := #[] }, { accessFlags := 10, nameIndex := 798, descriptorIndex := 31, attributes := #[] }, { accessFlags := 10, nameIndex := 792, descriptorIndex := 350, attributes := #[] }, { accessFlags := 10, nameIndex := 106, descriptorIndex := 31, attributes := #[] }, { accessFlags := 10, nameIndex := 119, descriptorIndex := 31, attributes := #[] }, { accessFlags := 26, nameIndex := 1192, descriptorIndex := 1163, attributes := #[] }, { accessFlags := 26, nameIndex := 1158, descriptorIndex := 1159, attributes := #[] }, { accessFlags := 4120, nameIndex := 311, descriptorIndex := 312, attributes := #[] }])
  fields := #[{ name := "signum", type := .int, accessFlags := 16, slot := 0, constantValue := 0 }, { name := "mag", type := (.array .int), accessFlags := 16, slot := 1, constantValue := 0 }, { name := "bitCountPlusOne", type := .int, accessFlags := 2, slot := 2, constantValue := 0 }, { name := "bitLengthPlusOne", type := .int, accessFlags := 2, slot := 3, constantValue := 0 }, { name := "lowestSetBitPlusTwo", type := .int, accessFlags := 2, slot := 4, constantValue := 0 }, { name := "firstNonzeroIntNumPlusTwo", type := .int, accessFlags := 2, slot := 5, constantValue := 0 }, { name := "LONG_MASK", type := .long, accessFlags := 24, slot := 0, constantValue := 0 }, { name := "MAX_MAG_LENGTH", type := .int, accessFlags := 26, slot := 1, constantValue := 0 }, { name := "PRIME_SEARCH_BIT_LENGTH_LIMIT", type := .int, accessFlags := 26, slot := 2, constantValue := 0 }, { name := "KARATSUBA_THRESHOLD", type := .int, accessFlags := 26, slot := 3, constantValue := 0 }, { name := "TOOM_COOK_THRESHOLD", type := .int, accessFlags := 26, slot := 4, constantValue := 0 }, { name := "KARATSUBA_SQUARE_THRESHOLD", type := .int, accessFlags := 26, slot := 5, constantValue := 0 }, { name := "TOOM_COOK_SQUARE_THRESHOLD", type := .int, accessFlags := 26, slot := 6, constantValue := 0 }, { name := "BURNIKEL_ZIEGLER_THRESHOLD", type := .int, accessFlags := 24, slot := 7, constantValue := 0 }, { name := "BURNIKEL_ZIEGLER_OFFSET", type := .int, accessFlags := 24, slot := 8, constantValue := 0 }, { name := "SCHOENHAGE_BASE_CONVERSION_THRESHOLD", type := .int, accessFlags := 26, slot := 9, constantValue := 0 }, { name := "MULTIPLY_SQUARE_THRESHOLD", type := .int, accessFlags := 26, slot := 10, constantValue := 0 }, { name := "MONTGOMERY_INTRINSIC_THRESHOLD", type := .int, accessFlags := 26, slot := 11, constantValue := 0 }, { name := "bitsPerDigit", type := (.array .long), accessFlags := 10, slot := 12, constantValue := 0 }, { name := "SMALL_PRIME_THRESHOLD", type := .int, accessFlags := 26, slot := 13, constantValue := 0 }, { name := "DEFAULT_PRIME_CERTAINTY", type := .int, accessFlags := 26, slot := 14, constantValue := 0 }, { name := "SMALL_PRIME_PRODUCT", type := (.object "java/math/BigInteger"), accessFlags := 26, slot := 15, constantValue := 0 }, { name := "MAX_CONSTANT", type := .int, accessFlags := 26, slot := 16, constantValue := 0 }, { name := "posConst", type := (.array (.object "java/math/BigInteger")), accessFlags := 26, slot := 17, constantValue := 0 }, { name := "negConst", type := (.array (.object "java/math/BigInteger")), accessFlags := 26, slot := 18, constantValue := 0 }, { name := "powerCache", type := (.array (.array (.object "java/math/BigInteger"))), accessFlags := 74, slot := 19, constantValue := 0 }, { name := "logCache", type := (.array .double), accessFlags := 26, slot := 20, constantValue := 0 }, { name := "LOG_TWO", type := .double, accessFlags := 26, slot := 21, constantValue := 0 }, { name := "ZERO", type := (.object "java/math/BigInteger"), accessFlags := 25, slot := 22, constantValue := 0 }, { name := "ONE", type := (.object "java/math/BigInteger"), accessFlags := 25, slot := 23, constantValue := 0 }, { name := "TWO", type := (.object "java/math/BigInteger"), accessFlags := 25, slot := 24, constantValue := 0 }, { name := "NEGATIVE_ONE", type := (.object "java/math/BigInteger"), accessFlags := 26, slot := 25, constantValue := 0 }, { name := "TEN", type := (.object "java/math/BigInteger"), accessFlags := 25, slot := 26, constantValue := 0 }, { name := "bnExpModThreshTable", type := (.array .int), accessFlags := 8, slot := 27, constantValue := 0 }, { name := "NUM_ZEROS", type := .int, accessFlags := 10, slot := 28, constantValue := 0 }, { name := "ZEROS", type := (.object "java/lang/String"), accessFlags := 26, slot := 29, constantValue := 0 }, { name := "digitsPerLong", type := (.array .int), accessFlags := 10, slot := 30, constantValue := 0 }, { name := "longRadix", type := (.array (.object "java/math/BigInteger")), accessFlags := 10, slot := 31, constantValue := 0 }, { name := "digitsPerInt", type := (.array .int), accessFlags := 10, slot := 32, constantValue := 0 }, { name := "intRadix", type := (.array .int), accessFlags := 10, slot := 33, constantValue := 0 }, { name := "serialVersionUID", type := .long, accessFlags := 26, slot := 34, constantValue := 0 }, { name := "serialPersistentFields", type := (.array (.object "java/io/ObjectStreamField")), accessFlags := 26, slot := 35, constantValue := 0 }, { name := "$assertionsDisabled", type := .boolean, accessFlags := 4120, slot := 36, constantValue := 0 }]
  methods := #[]
  instanceTypes := #[.int, (.array .int), .int, .int, .int, .int]
  staticTypes := #[.long, .int, .int, .int, .int, .int, .int, .int, .int, .int, .int, .int, (.array .long), .int, .int, (.object "java/math/BigInteger"), .int, (.array (.object "java/math/BigInteger")), (.array (.object "java/math/BigInteger")), (.array (.array (.object "java/math/BigInteger"))), (.array .double), .double, (.object "java/math/BigInteger"), (.object "java/math/BigInteger"), (.object "java/math/BigInteger"), (.object "java/math/BigInteger"), (.object "java/math/BigInteger"), (.array .int), .int, (.object "java/lang/String"), (.array .int), (.array (.object "java/math/BigInteger")), (.array .int), (.array .int), .long, (.array (.object "java/io/ObjectStreamField")), .boolean]
  resolved := Array.replicate 1542 none
  statics := some 2 }

/-- the primitive byte -/
def k28 : Class := { plain "byte" none with kind := .primitive 'B', accessFlags := 0x411 }
/-- [B -/
def k29 : Class := { plain "[B" (some 0) with kind := .array 28 .byte, interfaces := #[9, 10], accessFlags := 1041 }

/-- the primitive int -/
def k30 : Class := { plain "int" none with kind := .primitive 'I', accessFlags := 0x411 }
/-- [I -/
def k31 : Class := { plain "[I" (some 0) with kind := .array 30 .int, interfaces := #[9, 10], accessFlags := 1041 }

/-- [Ljava/lang/Object; -/
def k32 : Class := { plain "[Ljava/lang/Object;" (some 0) with kind := .array 0 (.object "java/lang/Object"), interfaces := #[9, 10], accessFlags := 1041 }

/-- [Ljava/math/BigDecimal; -/
def k33 : Class := { plain "[Ljava/math/BigDecimal;" (some 0) with kind := .array 20 (.object "java/math/BigDecimal"), interfaces := #[9, 10], accessFlags := 1041 }

def heap : Heap := #[{ cls := 11, slots := #[.long 0, .int 0, .ref 37, .ref 38], vm := .statics 11 },
  { cls := 20, slots := #[.double 0, .int 0, .int 0, .int 0, .int 0, .int 0, .int 0, .long 0, .null, .int 0, .long 0, .ref 3, .null, .long 0, .long 0, .ref 4, .ref 7, .ref 10, .ref 34, .null, .null, .int 0, .int 0, .int 0, .int 0, .int 0, .int 0, .int 0, .int 0, .null, .null, .null, .null, .int 0, .int 0, .null, .long 0, .null, .int 0], vm := .statics 20 },
  { cls := 27, slots := #[.long 0, .int 0, .int 0, .int 0, .int 0, .int 0, .int 0, .int 0, .int 0, .int 0, .int 0, .int 0, .null, .int 0, .int 0, .null, .int 0, .null, .null, .null, .null, .double 0, .ref 5, .ref 8, .ref 11, .null, .ref 35, .null, .int 0, .null, .null, .null, .null, .null, .long 0, .null, .int 0], vm := .statics 27 },
  { cls := 33, slots := #[.ref 4, .ref 7, .ref 10, .ref 13, .ref 16, .ref 19, .ref 22, .ref 25, .ref 28, .ref 31, .ref 34], vm := .none },
  { cls := 20, slots := #[.ref 5, .int 0, .int 0, .null, .long 0], vm := .none },
  { cls := 27, slots := #[.int 0, .ref 6, .int 0, .int 0, .int 0, .int 0], vm := .none },
  { cls := 31, slots := #[], vm := .none },
  { cls := 20, slots := #[.ref 8, .int 0, .int 0, .null, .long 1], vm := .none },
  { cls := 27, slots := #[.int 1, .ref 9, .int 0, .int 0, .int 0, .int 0], vm := .none },
  { cls := 31, slots := #[.int 0], vm := .none },
  { cls := 20, slots := #[.ref 11, .int 0, .int 0, .null, .long 2], vm := .none },
  { cls := 27, slots := #[.int 1, .ref 12, .int 0, .int 0, .int 0, .int 0], vm := .none },
  { cls := 31, slots := #[.int 0], vm := .none },
  { cls := 20, slots := #[.ref 14, .int 0, .int 0, .null, .long 3], vm := .none },
  { cls := 27, slots := #[.int 1, .ref 15, .int 0, .int 0, .int 0, .int 0], vm := .none },
  { cls := 31, slots := #[.int 0], vm := .none },
  { cls := 20, slots := #[.ref 17, .int 0, .int 0, .null, .long 4], vm := .none },
  { cls := 27, slots := #[.int 1, .ref 18, .int 0, .int 0, .int 0, .int 0], vm := .none },
  { cls := 31, slots := #[.int 0], vm := .none },
  { cls := 20, slots := #[.ref 20, .int 0, .int 0, .null, .long 5], vm := .none },
  { cls := 27, slots := #[.int 1, .ref 21, .int 0, .int 0, .int 0, .int 0], vm := .none },
  { cls := 31, slots := #[.int 0], vm := .none },
  { cls := 20, slots := #[.ref 23, .int 0, .int 0, .null, .long 6], vm := .none },
  { cls := 27, slots := #[.int 1, .ref 24, .int 0, .int 0, .int 0, .int 0], vm := .none },
  { cls := 31, slots := #[.int 0], vm := .none },
  { cls := 20, slots := #[.ref 26, .int 0, .int 0, .null, .long 7], vm := .none },
  { cls := 27, slots := #[.int 1, .ref 27, .int 0, .int 0, .int 0, .int 0], vm := .none },
  { cls := 31, slots := #[.int 0], vm := .none },
  { cls := 20, slots := #[.ref 29, .int 0, .int 0, .null, .long 8], vm := .none },
  { cls := 27, slots := #[.int 1, .ref 30, .int 0, .int 0, .int 0, .int 0], vm := .none },
  { cls := 31, slots := #[.int 0], vm := .none },
  { cls := 20, slots := #[.ref 32, .int 0, .int 0, .null, .long 9], vm := .none },
  { cls := 27, slots := #[.int 1, .ref 33, .int 0, .int 0, .int 0, .int 0], vm := .none },
  { cls := 31, slots := #[.int 0], vm := .none },
  { cls := 20, slots := #[.ref 35, .int 0, .int 0, .null, .long 10], vm := .none },
  { cls := 27, slots := #[.int 1, .ref 36, .int 0, .int 0, .int 0, .int 0], vm := .none },
  { cls := 31, slots := #[.int 0], vm := .none },
  { cls := 32, slots := #[], vm := .none },
  { cls := 32, slots := #[], vm := .none }]
def classes : Array Class := #[k0, k1, k2, k3, k4, k5, k6, k7, k8, k9, k10, k11, k12, k13, k14, k15, k16, k17, k18, k19, k20, k21, k22, k23, k24, k25, k26, k27, k28, k29, k30, k31, k32, k33]
def interned : List (Array UInt16 × Addr) := []
def slotsUsed : Nat := 222
def theMethod : MethodId := ⟨1, 2⟩
def args0 : Array Value := #[.int 1, .int 2, .int 3, .int 4, .int 5, .int 6]
def aboutOver (below : List Frame) : State where
  vm := { classes := classes, interned := interned.toArray }
  heap := heap
  slotsUsed := slotsUsed
  threads := #[{ frames := .invoking theMethod args0 :: below }]
def below0 : List Frame := [.native { method := ⟨0, 0⟩, args := #[] }]
def about1 : State := aboutOver below0
def p0 : Program := .bare "" "" ""
def e0 : Env := launch0.env 0 0 0
theorem w_frames : about1.frames = Frame.invoking theMethod args0 :: below0 := rfl
set_option maxRecDepth 65536 in
theorem w_args : argsFit about1.vm theMethod args0 = true := by decide +kernel
set_option maxRecDepth 65536 in
theorem w_heap : heapFits about1 = true := by decide +kernel
set_option maxRecDepth 65536 in
theorem w_runnable : about1.curStatus? = some .runnable := by decide +kernel
set_option maxRecDepth 65536 in
theorem w_alone : about1.alone = true := by decide +kernel
set_option maxRecDepth 65536 in
theorem w_named : about1.methodNamed? x = some theMethod := by decide +kernel
set_option maxRecDepth 65536 in
theorem w_hears : about1.hears theMethod below0 = true := by decide +kernel
set_option maxRecDepth 65536 in
theorem w_ripe : about1.ripe theMethod args0 below0 = true := by decide +kernel
theorem w_running : about1.status = .running := rfl
set_option maxRecDepth 65536 in
theorem w_room : about1.hasRoom e0.platform room_1 = true :=
  launch0.hasRoom_least _ room_1 (by decide +kernel) (by decide +kernel) (by decide +kernel) (by decide +kernel) (by decide +kernel) (by decide +kernel)
theorem allAtoms_all (ts : List Jvm.Cond) (a : Array Jvm.Value) (st : Jvm.State) : (allAtoms ts).before a st = ts.all (fun c => c.before a st) := by
  induction ts with
  | nil => rfl
  | cons c t ih =>
    show (Jvm.Cond.and c (allAtoms t)).before a st = _
    rw [Jvm.Cond.before_and, ih, List.all_cons]
def words1 : List Jvm.Cond := Jvm.Cond.code x code maxLocals ret :: tables_1
/-- a 'code' word, met by the world's own term for the bytes: nothing is compared byte by byte -/
theorem code_word {y : MethodName} {bytes : ByteArray} {mx : Nat} {rt : Option FieldType} {a : Array Value} {s : State} {m : MethodId} {meth : Method} {c : Code} (h1 : s.methodNamed? y = some m) (h2 : s.vm.method? m = some meth) (h3 : meth.code = some c) (h4 : c.code = bytes)
    (h5 : (c.maxLocals == mx && c.exceptionTable.isEmpty && decide (c.maxStack ≤ mostOperands) && decide (meth.sig.returnType = rt) && !meth.locks && decide (parseMethodDescriptor y.desc = some meth.sig)) = true) : (Jvm.Cond.code y bytes mx rt).before a s = true := by
  simp only [Bool.and_eq_true, beq_iff_eq, Bool.not_eq_true', decide_eq_true_eq] at h5
  obtain ⟨⟨⟨⟨⟨g1, g2⟩, g3⟩, g4⟩, g5⟩, g6⟩ := h5
  simp [Cond.before, Cond.holds, Cond.value, h1, h2, h3, h4, g1, g2, g3, g4, g5, g6]
def isCode : Jvm.Cond → Bool
  | .code _ _ _ _ => true
  | _ => false
theorem all_split {L : List Jvm.Cond} {P : Jvm.Cond → Bool} (h1 : L.all (fun c => isCode c || P c) = true) (h2 : ∀ c ∈ L.filter isCode, P c = true) : L.all P = true := by
  refine List.all_eq_true.mpr fun c hc => ?_
  have h := List.all_eq_true.mp h1 c hc
  rcases Bool.eq_false_or_eq_true (isCode c) with hi | hi
  · exact h2 c (List.mem_filter.mpr ⟨hc, hi⟩)
  · simpa [hi] using h
set_option maxRecDepth 65536 in
theorem w_c0 : (Jvm.Cond.code x code maxLocals ret).before args0 about1 = true := code_word (m := ⟨1, 2⟩) (meth := k1m2) (c := k1c2) (by decide +kernel) rfl rfl rfl (by decide +kernel)
set_option maxRecDepth 65536 in
theorem w_c1 : (Jvm.Cond.code ({ cls := "java/util/ArrayList", name := "<init>", desc := "()V" } : Jvm.MethodName) jdk_38_method_2_code (1 : Nat) (Option.none : Option Jvm.ClassFile.FieldType)).before args0 about1 = true := code_word (m := ⟨11, 0⟩) (meth := k11m0) (c := k11c0) (by decide +kernel) rfl rfl rfl (by decide +kernel)
set_option maxRecDepth 65536 in
theorem w_c2 : (Jvm.Cond.code ({ cls := "java/util/AbstractList", name := "<init>", desc := "()V" } : Jvm.MethodName) jdk_39_method_1_code (1 : Nat) (Option.none : Option Jvm.ClassFile.FieldType)).before args0 about1 = true := code_word (m := ⟨7, 0⟩) (meth := k7m0) (c := k7c0) (by decide +kernel) rfl rfl rfl (by decide +kernel)
set_option maxRecDepth 65536 in
theorem w_c3 : (Jvm.Cond.code ({ cls := "java/util/AbstractCollection", name := "<init>", desc := "()V" } : Jvm.MethodName) jdk_22_method_1_code (1 : Nat) (Option.none : Option Jvm.ClassFile.FieldType)).before args0 about1 = true := code_word (m := ⟨4, 0⟩) (meth := k4m0) (c := k4c0) (by decide +kernel) rfl rfl rfl (by decide +kernel)
set_option maxRecDepth 65536 in
theorem w_c4 : (Jvm.Cond.code ({ cls := "java/lang/Object", name := "<init>", desc := "()V" } : Jvm.MethodName) object_method_1_code (1 : Nat) (Option.none : Option Jvm.ClassFile.FieldType)).before args0 about1 = true := code_word (m := ⟨0, 0⟩) (meth := k0m0) (c := k0c0) (by decide +kernel) rfl rfl rfl (by decide +kernel)
set_option maxRecDepth 65536 in
theorem w_c5 : (Jvm.Cond.code ({ cls := "java/math/BigDecimal", name := "valueOf", desc := "(J)Ljava/math/BigDecimal;" } : Jvm.MethodName) jdk_17_method_21_code (2 : Nat) (Option.some (Jvm.ClassFile.FieldType.object "java/math/BigDecimal"))).before args0 about1 = true := code_word (m := ⟨20, 2⟩) (meth := k20m2) (c := k20c2) (by decide +kernel) rfl rfl rfl (by decide +kernel)
set_option maxRecDepth 65536 in
theorem w_c6 : (Jvm.Cond.code ({ cls := "com/example/slotwright/slotwright/Market$Advertiser", name := "<init>", desc := "(Ljava/lang/String;Ljava/math/BigDecimal;)V" } : Jvm.MethodName) prog_27_method_1_code (3 : Nat) (Option.none : Option Jvm.ClassFile.FieldType)).before args0 about1 = true := code_word (m := ⟨13, 0⟩) (meth := k13m0) (c := k13c0) (by decide +kernel) rfl rfl rfl (by decide +kernel)
set_option maxRecDepth 65536 in
theorem w_c7 : (Jvm.Cond.code ({ cls := "java/lang/Record", name := "<init>", desc := "()V" } : Jvm.MethodName) jdk_30_method_1_code (1 : Nat) (Option.none : Option Jvm.ClassFile.FieldType)).before args0 about1 = true := code_word (m := ⟨12, 0⟩) (meth := k12m0) (c := k12c0) (by decide +kernel) rfl rfl rfl (by decide +kernel)
set_option maxRecDepth 65536 in
theorem w_c8 : (Jvm.Cond.code ({ cls := "java/util/ArrayList", name := "add", desc := "(Ljava/lang/Object;)Z" } : Jvm.MethodName) jdk_38_method_25_code (2 : Nat) (Option.some Jvm.ClassFile.FieldType.boolean)).before args0 about1 = true := code_word (m := ⟨11, 7⟩) (meth := k11m7) (c := k11c7) (by decide +kernel) rfl rfl rfl (by decide +kernel)
set_option maxRecDepth 65536 in
theorem w_c9 : (Jvm.Cond.code ({ cls := "java/util/ArrayList", name := "add", desc := "(Ljava/lang/Object;[Ljava/lang/Object;I)V" } : Jvm.MethodName) jdk_38_method_24_code (4 : Nat) (Option.none : Option Jvm.ClassFile.FieldType)).before args0 about1 = true := code_word (m := ⟨11, 6⟩) (meth := k11m6) (c := k11c6) (by decide +kernel) rfl rfl rfl (by decide +kernel)
set_option maxRecDepth 65536 in
theorem w_c10 : (Jvm.Cond.code ({ cls := "java/util/ArrayList", name := "grow", desc := "()[Ljava/lang/Object;" } : Jvm.MethodName) jdk_38_method_7_code (1 : Nat) (Option.some (Jvm.ClassFile.FieldType.array (Jvm.ClassFile.FieldType.object "java/lang/Object")))).before args0 about1 = true := code_word (m := ⟨11, 2⟩) (meth := k11m2) (c := k11c2) (by decide +kernel) rfl rfl rfl (by decide +kernel)
set_option maxRecDepth 65536 in
theorem w_c11 : (Jvm.Cond.code ({ cls := "java/util/ArrayList", name := "grow", desc := "(I)[Ljava/lang/Object;" } : Jvm.MethodName) jdk_38_method_6_code (4 : Nat) (Option.some (Jvm.ClassFile.FieldType.array (Jvm.ClassFile.FieldType.object "java/lang/Object")))).before args0 about1 = true := code_word (m := ⟨11, 1⟩) (meth := k11m1) (c := k11c1) (by decide +kernel) rfl rfl rfl (by decide +kernel)
set_option maxRecDepth 65536 in
theorem w_c12 : (Jvm.Cond.code ({ cls := "java/lang/Math", name := "max", desc := "(II)I" } : Jvm.MethodName) jdk_29_method_65_code (2 : Nat) (Option.some Jvm.ClassFile.FieldType.int)).before args0 about1 = true := code_word (m := ⟨21, 1⟩) (meth := k21m1) (c := k21c1) (by decide +kernel) rfl rfl rfl (by decide +kernel)
set_option maxRecDepth 65536 in
theorem w_c13 : (Jvm.Cond.code ({ cls := "com/example/slotwright/slotwright/Ledger", name := "<init>", desc := "(Ljava/util/List;)V" } : Jvm.MethodName) prog_23_method_1_code (3 : Nat) (Option.none : Option Jvm.ClassFile.FieldType)).before args0 about1 = true := code_word (m := ⟨22, 0⟩) (meth := k22m0) (c := k22c0) (by decide +kernel) rfl rfl rfl (by decide +kernel)
set_option maxRecDepth 65536 in
theorem w_c14 : (Jvm.Cond.code ({ cls := "java/util/ArrayList", name := "size", desc := "()I" } : Jvm.MethodName) jdk_38_method_8_code (1 : Nat) (Option.some Jvm.ClassFile.FieldType.int)).before args0 about1 = true := code_word (m := ⟨11, 3⟩) (meth := k11m3) (c := k11c3) (by decide +kernel) rfl rfl rfl (by decide +kernel)
set_option maxRecDepth 65536 in
theorem w_c15 : (Jvm.Cond.code ({ cls := "java/util/Arrays", name := "fill", desc := "([Ljava/lang/Object;Ljava/lang/Object;)V" } : Jvm.MethodName) jdk_65_method_117_code (4 : Nat) (Option.none : Option Jvm.ClassFile.FieldType)).before args0 about1 = true := code_word (m := ⟨23, 1⟩) (meth := k23m1) (c := k23c1) (by decide +kernel) rfl rfl rfl (by decide +kernel)
set_option maxRecDepth 65536 in
theorem w_c16 : (Jvm.Cond.code ({ cls := "java/util/ArrayList", name := "get", desc := "(I)Ljava/lang/Object;" } : Jvm.MethodName) jdk_38_method_20_code (2 : Nat) (Option.some (Jvm.ClassFile.FieldType.object "java/lang/Object"))).before args0 about1 = true := code_word (m := ⟨11, 5⟩) (meth := k11m5) (c := k11c5) (by decide +kernel) rfl rfl rfl (by decide +kernel)
set_option maxRecDepth 65536 in
theorem w_c17 : (Jvm.Cond.code ({ cls := "java/util/Objects", name := "checkIndex", desc := "(II)I" } : Jvm.MethodName) jdk_31_method_17_code (2 : Nat) (Option.some Jvm.ClassFile.FieldType.int)).before args0 about1 = true := code_word (m := ⟨24, 1⟩) (meth := k24m1) (c := k24c1) (by decide +kernel) rfl rfl rfl (by decide +kernel)
set_option maxRecDepth 65536 in
theorem w_c18 : (Jvm.Cond.code ({ cls := "jdk/internal/util/Preconditions", name := "checkIndex", desc := "(IILjava/util/function/BiFunction;)I" } : Jvm.MethodName) jdk_41_method_11_code (3 : Nat) (Option.some Jvm.ClassFile.FieldType.int)).before args0 about1 = true := code_word (m := ⟨25, 1⟩) (meth := k25m1) (c := k25c1) (by decide +kernel) rfl rfl rfl (by decide +kernel)
set_option maxRecDepth 65536 in
theorem w_c19 : (Jvm.Cond.code ({ cls := "java/util/ArrayList", name := "elementData", desc := "(I)Ljava/lang/Object;" } : Jvm.MethodName) jdk_38_method_18_code (2 : Nat) (Option.some (Jvm.ClassFile.FieldType.object "java/lang/Object"))).before args0 about1 = true := code_word (m := ⟨11, 4⟩) (meth := k11m4) (c := k11c4) (by decide +kernel) rfl rfl rfl (by decide +kernel)
set_option maxRecDepth 65536 in
theorem w_c20 : (Jvm.Cond.code ({ cls := "com/example/slotwright/slotwright/Market$Advertiser", name := "budget", desc := "()Ljava/math/BigDecimal;" } : Jvm.MethodName) prog_27_method_6_code (1 : Nat) (Option.some (Jvm.ClassFile.FieldType.object "java/math/BigDecimal"))).before args0 about1 = true := code_word (m := ⟨13, 1⟩) (meth := k13m1) (c := k13c1) (by decide +kernel) rfl rfl rfl (by decide +kernel)
set_option maxRecDepth 65536 in
theorem w_c21 : (Jvm.Cond.code ({ cls := "com/example/slotwright/slotwright/Ledger", name := "overspent", desc := "()I" } : Jvm.MethodName) prog_23_method_9_code (6 : Nat) (Option.some Jvm.ClassFile.FieldType.int)).before args0 about1 = true := code_word (m := ⟨22, 2⟩) (meth := k22m2) (c := k22c2) (by decide +kernel) rfl rfl rfl (by decide +kernel)
set_option maxRecDepth 65536 in
theorem w_c22 : (Jvm.Cond.code ({ cls := "java/math/BigDecimal", name := "signum", desc := "()I" } : Jvm.MethodName) jdk_17_method_58_code (1 : Nat) (Option.some Jvm.ClassFile.FieldType.int)).before args0 about1 = true := code_word (m := ⟨20, 5⟩) (meth := k20m5) (c := k20c5) (by decide +kernel) rfl rfl rfl (by decide +kernel)
set_option maxRecDepth 65536 in
theorem w_c23 : (Jvm.Cond.code ({ cls := "java/lang/Long", name := "signum", desc := "(J)I" } : Jvm.MethodName) jdk_35_method_57_code (2 : Nat) (Option.some Jvm.ClassFile.FieldType.int)).before args0 about1 = true := code_word (m := ⟨26, 0⟩) (meth := k26m0) (c := k26c0) (by decide +kernel) rfl rfl rfl (by decide +kernel)
set_option maxRecDepth 65536 in
theorem w_c24 : (Jvm.Cond.code ({ cls := "com/example/slotwright/slotwright/LedgerOverspentPinLaw", name := "over", desc := "(JJ)I" } : Jvm.MethodName) method_2_code (4 : Nat) (Option.some Jvm.ClassFile.FieldType.int)).before args0 about1 = true := code_word (m := ⟨1, 1⟩) (meth := k1m1) (c := k1c1) (by decide +kernel) rfl rfl rfl (by decide +kernel)
set_option maxRecDepth 65536 in
theorem w_c25 : (Jvm.Cond.code ({ cls := "com/example/slotwright/slotwright/Ledger", name := "charge", desc := "(ILjava/math/BigDecimal;)V" } : Jvm.MethodName) prog_23_method_3_code (3 : Nat) (Option.none : Option Jvm.ClassFile.FieldType)).before args0 about1 = true := code_word (m := ⟨22, 1⟩) (meth := k22m1) (c := k22c1) (by decide +kernel) rfl rfl rfl (by decide +kernel)
set_option maxRecDepth 65536 in
theorem w_c26 : (Jvm.Cond.code ({ cls := "java/math/BigDecimal", name := "add", desc := "(Ljava/math/BigDecimal;)Ljava/math/BigDecimal;" } : Jvm.MethodName) jdk_17_method_26_code (2 : Nat) (Option.some (Jvm.ClassFile.FieldType.object "java/math/BigDecimal"))).before args0 about1 = true := code_word (m := ⟨20, 3⟩) (meth := k20m3) (c := k20c3) (by decide +kernel) rfl rfl rfl (by decide +kernel)
set_option maxRecDepth 65536 in
theorem w_c27 : (Jvm.Cond.code ({ cls := "java/math/BigDecimal", name := "add", desc := "(JIJI)Ljava/math/BigDecimal;" } : Jvm.MethodName) jdk_17_method_134_code (12 : Nat) (Option.some (Jvm.ClassFile.FieldType.object "java/math/BigDecimal"))).before args0 about1 = true := code_word (m := ⟨20, 8⟩) (meth := k20m8) (c := k20c8) (by decide +kernel) rfl rfl rfl (by decide +kernel)
set_option maxRecDepth 65536 in
theorem w_c28 : (Jvm.Cond.code ({ cls := "java/math/BigDecimal", name := "add", desc := "(JJI)Ljava/math/BigDecimal;" } : Jvm.MethodName) jdk_17_method_133_code (7 : Nat) (Option.some (Jvm.ClassFile.FieldType.object "java/math/BigDecimal"))).before args0 about1 = true := code_word (m := ⟨20, 7⟩) (meth := k20m7) (c := k20c7) (by decide +kernel) rfl rfl rfl (by decide +kernel)
set_option maxRecDepth 65536 in
theorem w_c29 : (Jvm.Cond.code ({ cls := "java/math/BigDecimal", name := "add", desc := "(JJ)J" } : Jvm.MethodName) jdk_17_method_132_code (6 : Nat) (Option.some Jvm.ClassFile.FieldType.long)).before args0 about1 = true := code_word (m := ⟨20, 6⟩) (meth := k20m6) (c := k20c6) (by decide +kernel) rfl rfl rfl (by decide +kernel)
set_option maxRecDepth 65536 in
theorem w_c30 : (Jvm.Cond.code ({ cls := "java/math/BigDecimal", name := "valueOf", desc := "(JI)Ljava/math/BigDecimal;" } : Jvm.MethodName) jdk_17_method_20_code (3 : Nat) (Option.some (Jvm.ClassFile.FieldType.object "java/math/BigDecimal"))).before args0 about1 = true := code_word (m := ⟨20, 1⟩) (meth := k20m1) (c := k20c1) (by decide +kernel) rfl rfl rfl (by decide +kernel)
set_option maxRecDepth 65536 in
theorem w_c31 : (Jvm.Cond.code ({ cls := "java/math/BigDecimal", name := "subtract", desc := "(Ljava/math/BigDecimal;)Ljava/math/BigDecimal;" } : Jvm.MethodName) jdk_17_method_29_code (2 : Nat) (Option.some (Jvm.ClassFile.FieldType.object "java/math/BigDecimal"))).before args0 about1 = true := code_word (m := ⟨20, 4⟩) (meth := k20m4) (c := k20c4) (by decide +kernel) rfl rfl rfl (by decide +kernel)
set_option maxRecDepth 65536 in
theorem w_c32 : (Jvm.Cond.code ({ cls := "java/math/BigDecimal", name := "<init>", desc := "(Ljava/math/BigInteger;JII)V" } : Jvm.MethodName) jdk_17_method_1_code (6 : Nat) (Option.none : Option Jvm.ClassFile.FieldType)).before args0 about1 = true := code_word (m := ⟨20, 0⟩) (meth := k20m0) (c := k20c0) (by decide +kernel) rfl rfl rfl (by decide +kernel)
set_option maxRecDepth 65536 in
theorem w_c33 : (Jvm.Cond.code ({ cls := "java/lang/Number", name := "<init>", desc := "()V" } : Jvm.MethodName) jdk_18_method_1_code (1 : Nat) (Option.none : Option Jvm.ClassFile.FieldType)).before args0 about1 = true := code_word (m := ⟨19, 0⟩) (meth := k19m0) (c := k19c0) (by decide +kernel) rfl rfl rfl (by decide +kernel)
def codes1 : List Jvm.Cond := [Jvm.Cond.code x code maxLocals ret, Jvm.Cond.code ({ cls := "java/util/ArrayList", name := "<init>", desc := "()V" } : Jvm.MethodName) jdk_38_method_2_code (1 : Nat) (Option.none : Option Jvm.ClassFile.FieldType), Jvm.Cond.code ({ cls := "java/util/AbstractList", name := "<init>", desc := "()V" } : Jvm.MethodName) jdk_39_method_1_code (1 : Nat) (Option.none : Option Jvm.ClassFile.FieldType), Jvm.Cond.code ({ cls := "java/util/AbstractCollection", name := "<init>", desc := "()V" } : Jvm.MethodName) jdk_22_method_1_code (1 : Nat) (Option.none : Option Jvm.ClassFile.FieldType), Jvm.Cond.code ({ cls := "java/lang/Object", name := "<init>", desc := "()V" } : Jvm.MethodName) object_method_1_code (1 : Nat) (Option.none : Option Jvm.ClassFile.FieldType), Jvm.Cond.code ({ cls := "java/math/BigDecimal", name := "valueOf", desc := "(J)Ljava/math/BigDecimal;" } : Jvm.MethodName) jdk_17_method_21_code (2 : Nat) (Option.some (Jvm.ClassFile.FieldType.object "java/math/BigDecimal")), Jvm.Cond.code ({ cls := "com/example/slotwright/slotwright/Market$Advertiser", name := "<init>", desc := "(Ljava/lang/String;Ljava/math/BigDecimal;)V" } : Jvm.MethodName) prog_27_method_1_code (3 : Nat) (Option.none : Option Jvm.ClassFile.FieldType), Jvm.Cond.code ({ cls := "java/lang/Record", name := "<init>", desc := "()V" } : Jvm.MethodName) jdk_30_method_1_code (1 : Nat) (Option.none : Option Jvm.ClassFile.FieldType), Jvm.Cond.code ({ cls := "java/util/ArrayList", name := "add", desc := "(Ljava/lang/Object;)Z" } : Jvm.MethodName) jdk_38_method_25_code (2 : Nat) (Option.some Jvm.ClassFile.FieldType.boolean), Jvm.Cond.code ({ cls := "java/util/ArrayList", name := "add", desc := "(Ljava/lang/Object;[Ljava/lang/Object;I)V" } : Jvm.MethodName) jdk_38_method_24_code (4 : Nat) (Option.none : Option Jvm.ClassFile.FieldType), Jvm.Cond.code ({ cls := "java/util/ArrayList", name := "grow", desc := "()[Ljava/lang/Object;" } : Jvm.MethodName) jdk_38_method_7_code (1 : Nat) (Option.some (Jvm.ClassFile.FieldType.array (Jvm.ClassFile.FieldType.object "java/lang/Object"))), Jvm.Cond.code ({ cls := "java/util/ArrayList", name := "grow", desc := "(I)[Ljava/lang/Object;" } : Jvm.MethodName) jdk_38_method_6_code (4 : Nat) (Option.some (Jvm.ClassFile.FieldType.array (Jvm.ClassFile.FieldType.object "java/lang/Object"))), Jvm.Cond.code ({ cls := "java/lang/Math", name := "max", desc := "(II)I" } : Jvm.MethodName) jdk_29_method_65_code (2 : Nat) (Option.some Jvm.ClassFile.FieldType.int), Jvm.Cond.code ({ cls := "com/example/slotwright/slotwright/Ledger", name := "<init>", desc := "(Ljava/util/List;)V" } : Jvm.MethodName) prog_23_method_1_code (3 : Nat) (Option.none : Option Jvm.ClassFile.FieldType), Jvm.Cond.code ({ cls := "java/util/ArrayList", name := "size", desc := "()I" } : Jvm.MethodName) jdk_38_method_8_code (1 : Nat) (Option.some Jvm.ClassFile.FieldType.int), Jvm.Cond.code ({ cls := "java/util/Arrays", name := "fill", desc := "([Ljava/lang/Object;Ljava/lang/Object;)V" } : Jvm.MethodName) jdk_65_method_117_code (4 : Nat) (Option.none : Option Jvm.ClassFile.FieldType), Jvm.Cond.code ({ cls := "java/util/ArrayList", name := "get", desc := "(I)Ljava/lang/Object;" } : Jvm.MethodName) jdk_38_method_20_code (2 : Nat) (Option.some (Jvm.ClassFile.FieldType.object "java/lang/Object")), Jvm.Cond.code ({ cls := "java/util/Objects", name := "checkIndex", desc := "(II)I" } : Jvm.MethodName) jdk_31_method_17_code (2 : Nat) (Option.some Jvm.ClassFile.FieldType.int), Jvm.Cond.code ({ cls := "jdk/internal/util/Preconditions", name := "checkIndex", desc := "(IILjava/util/function/BiFunction;)I" } : Jvm.MethodName) jdk_41_method_11_code (3 : Nat) (Option.some Jvm.ClassFile.FieldType.int), Jvm.Cond.code ({ cls := "java/util/ArrayList", name := "elementData", desc := "(I)Ljava/lang/Object;" } : Jvm.MethodName) jdk_38_method_18_code (2 : Nat) (Option.some (Jvm.ClassFile.FieldType.object "java/lang/Object")), Jvm.Cond.code ({ cls := "com/example/slotwright/slotwright/Market$Advertiser", name := "budget", desc := "()Ljava/math/BigDecimal;" } : Jvm.MethodName) prog_27_method_6_code (1 : Nat) (Option.some (Jvm.ClassFile.FieldType.object "java/math/BigDecimal")), Jvm.Cond.code ({ cls := "com/example/slotwright/slotwright/Ledger", name := "overspent", desc := "()I" } : Jvm.MethodName) prog_23_method_9_code (6 : Nat) (Option.some Jvm.ClassFile.FieldType.int), Jvm.Cond.code ({ cls := "java/math/BigDecimal", name := "signum", desc := "()I" } : Jvm.MethodName) jdk_17_method_58_code (1 : Nat) (Option.some Jvm.ClassFile.FieldType.int), Jvm.Cond.code ({ cls := "java/lang/Long", name := "signum", desc := "(J)I" } : Jvm.MethodName) jdk_35_method_57_code (2 : Nat) (Option.some Jvm.ClassFile.FieldType.int), Jvm.Cond.code ({ cls := "com/example/slotwright/slotwright/LedgerOverspentPinLaw", name := "over", desc := "(JJ)I" } : Jvm.MethodName) method_2_code (4 : Nat) (Option.some Jvm.ClassFile.FieldType.int), Jvm.Cond.code ({ cls := "com/example/slotwright/slotwright/Ledger", name := "charge", desc := "(ILjava/math/BigDecimal;)V" } : Jvm.MethodName) prog_23_method_3_code (3 : Nat) (Option.none : Option Jvm.ClassFile.FieldType), Jvm.Cond.code ({ cls := "java/math/BigDecimal", name := "add", desc := "(Ljava/math/BigDecimal;)Ljava/math/BigDecimal;" } : Jvm.MethodName) jdk_17_method_26_code (2 : Nat) (Option.some (Jvm.ClassFile.FieldType.object "java/math/BigDecimal")), Jvm.Cond.code ({ cls := "java/math/BigDecimal", name := "add", desc := "(JIJI)Ljava/math/BigDecimal;" } : Jvm.MethodName) jdk_17_method_134_code (12 : Nat) (Option.some (Jvm.ClassFile.FieldType.object "java/math/BigDecimal")), Jvm.Cond.code ({ cls := "java/math/BigDecimal", name := "add", desc := "(JJI)Ljava/math/BigDecimal;" } : Jvm.MethodName) jdk_17_method_133_code (7 : Nat) (Option.some (Jvm.ClassFile.FieldType.object "java/math/BigDecimal")), Jvm.Cond.code ({ cls := "java/math/BigDecimal", name := "add", desc := "(JJ)J" } : Jvm.MethodName) jdk_17_method_132_code (6 : Nat) (Option.some Jvm.ClassFile.FieldType.long), Jvm.Cond.code ({ cls := "java/math/BigDecimal", name := "valueOf", desc := "(JI)Ljava/math/BigDecimal;" } : Jvm.MethodName) jdk_17_method_20_code (3 : Nat) (Option.some (Jvm.ClassFile.FieldType.object "java/math/BigDecimal")), Jvm.Cond.code ({ cls := "java/math/BigDecimal", name := "subtract", desc := "(Ljava/math/BigDecimal;)Ljava/math/BigDecimal;" } : Jvm.MethodName) jdk_17_method_29_code (2 : Nat) (Option.some (Jvm.ClassFile.FieldType.object "java/math/BigDecimal")), Jvm.Cond.code ({ cls := "java/math/BigDecimal", name := "<init>", desc := "(Ljava/math/BigInteger;JII)V" } : Jvm.MethodName) jdk_17_method_1_code (6 : Nat) (Option.none : Option Jvm.ClassFile.FieldType), Jvm.Cond.code ({ cls := "java/lang/Number", name := "<init>", desc := "()V" } : Jvm.MethodName) jdk_18_method_1_code (1 : Nat) (Option.none : Option Jvm.ClassFile.FieldType)]
set_option maxRecDepth 65536 in
theorem codes_eq : words1.filter isCode = codes1 := rfl
theorem w_codes : ∀ c ∈ words1.filter isCode, c.before args0 about1 = true := by
  rw [codes_eq]
  intro c hc
  simp only [codes1, List.mem_cons, List.not_mem_nil, or_false] at hc
  rcases hc with rfl | rfl | rfl | rfl | rfl | rfl | rfl | rfl | rfl | rfl | rfl | rfl | rfl | rfl | rfl | rfl | rfl | rfl | rfl | rfl | rfl | rfl | rfl | rfl | rfl | rfl | rfl | rfl | rfl | rfl | rfl | rfl | rfl | rfl
  · exact w_c0
  · exact w_c1
  · exact w_c2
  · exact w_c3
  · exact w_c4
  · exact w_c5
  · exact w_c6
  · exact w_c7
  · exact w_c8
  · exact w_c9
  · exact w_c10
  · exact w_c11
  · exact w_c12
  · exact w_c13
  · exact w_c14
  · exact w_c15
  · exact w_c16
  · exact w_c17
  · exact w_c18
  · exact w_c19
  · exact w_c20
  · exact w_c21
  · exact w_c22
  · exact w_c23
  · exact w_c24
  · exact w_c25
  · exact w_c26
  · exact w_c27
  · exact w_c28
  · exact w_c29
  · exact w_c30
  · exact w_c31
  · exact w_c32
  · exact w_c33
set_option maxRecDepth 65536 in
theorem w_t1 : (words1.take 24).all (fun c => isCode c || c.before args0 about1) = true := by decide +kernel
set_option maxRecDepth 65536 in
theorem w_t2 : ((words1.drop 24).take 24).all (fun c => isCode c || c.before args0 about1) = true := by decide +kernel
set_option maxRecDepth 65536 in
theorem w_t3 : (((words1.drop 24).drop 24).take 24).all (fun c => isCode c || c.before args0 about1) = true := by decide +kernel
set_option maxRecDepth 65536 in
theorem w_t4 : ((((words1.drop 24).drop 24).drop 24).take 24).all (fun c => isCode c || c.before args0 about1) = true := by decide +kernel
set_option maxRecDepth 65536 in
theorem w_t5 : (((((words1.drop 24).drop 24).drop 24).drop 24).take 24).all (fun c => isCode c || c.before args0 about1) = true := by decide +kernel
set_option maxRecDepth 65536 in
theorem w_t6 : ((((((words1.drop 24).drop 24).drop 24).drop 24).drop 24).take 24).all (fun c => isCode c || c.before args0 about1) = true := by decide +kernel
set_option maxRecDepth 65536 in
theorem w_t7 : (((((((words1.drop 24).drop 24).drop 24).drop 24).drop 24).drop 24).take 24).all (fun c => isCode c || c.before args0 about1) = true := by decide +kernel
set_option maxRecDepth 65536 in
theorem w_t8 : ((((((((words1.drop 24).drop 24).drop 24).drop 24).drop 24).drop 24).drop 24).take 24).all (fun c => isCode c || c.before args0 about1) = true := by decide +kernel
set_option maxRecDepth 65536 in
theorem w_t9 : ((((((((words1.drop 24).drop 24).drop 24).drop 24).drop 24).drop 24).drop 24).drop 24).all (fun c => isCode c || c.before args0 about1) = true := by decide +kernel
theorem w_tables : (allAtoms (Jvm.Cond.code x code maxLocals ret :: tables_1)).before args0 about1 = true := by
  rw [allAtoms_all]
  show words1.all (fun c => c.before args0 about1) = true
  refine all_split ?_ w_codes
  rw [← List.take_append_drop 24 words1, List.all_append, w_t1, ← List.take_append_drop 24 (words1.drop 24), List.all_append, w_t2, ← List.take_append_drop 24 ((words1.drop 24).drop 24), List.all_append, w_t3, ← List.take_append_drop 24 (((words1.drop 24).drop 24).drop 24), List.all_append, w_t4, ← List.take_append_drop 24 ((((words1.drop 24).drop 24).drop 24).drop 24), List.all_append, w_t5, ← List.take_append_drop 24 (((((words1.drop 24).drop 24).drop 24).drop 24).drop 24), List.all_append, w_t6, ← List.take_append_drop 24 ((((((words1.drop 24).drop 24).drop 24).drop 24).drop 24).drop 24), List.all_append, w_t7, ← List.take_append_drop 24 (((((((words1.drop 24).drop 24).drop 24).drop 24).drop 24).drop 24).drop 24), List.all_append, w_t8, w_t9]
  rfl
set_option maxRecDepth 65536 in
theorem w_rest : rest_1_c.before args0 about1 = true := by decide +kernel
set_option maxRecDepth 65536 in
theorem w_case : (Jvm.Cond.and given_1 narrow_1).before args0 about1 = true := by decide +kernel
theorem w_applies : (headSpec (Jvm.Cond.code x code maxLocals ret :: tables_1) room_1).applies x e0.platform about1 = true :=
  (Spec.applies_iff w_frames).mpr ⟨w_running, w_runnable, w_alone, w_named, w_hears, w_ripe, w_room, w_tables⟩
theorem atStart : AtStart classFile x code maxLocals ret World_1 tables_1 room_1 Calls_1 rest_1 Pre_1 launch0 p0 e0 about1 theMethod args0 below0 :=
  ⟨lists_1, trivial, launch0.admits_env _ _ _, launch0.least_env, fairChoices_fair.cas, fairChoices_fair.clock, w_frames, w_args, w_heap, w_applies, trivial, w_rest, w_case⟩
end start1
theorem witness_1 : WitnessClaimed_1 := ⟨start1.p0, start1.e0, start1.about1, start1.theMethod, start1.args0, start1.below0, start1.atStart⟩
end Jvm.Pilot.@@N@@
